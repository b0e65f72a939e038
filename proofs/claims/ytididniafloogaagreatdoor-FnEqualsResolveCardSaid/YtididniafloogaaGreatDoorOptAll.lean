/- Names that may have a value: rows, maps of pointers, what the package and the reference do with them. -/
import Derived.Test.YtididniafloogaaGreatDoorPairsFn
import Derived.Test.YtididniafloogaaGreatDoorMergePlain
import Derived.Test.YtididniafloogaaGreatDoorSortPairs
import Derived.Test.YtididniafloogaaGreatDoorNewMap
import Derived.Test.YtididniafloogaaGreatDoorSortTexts
import Derived.Test.YtididniafloogaaGreatDoorLawMerges
import Derived.Test.YtididniafloogaaGreatDoorLabelsList
import Derived.Test.YtididniafloogaaGreatDoorSpecMap
namespace Go.Proofs.YtididniafloogaaGreatDoor.Maps
open Go.RowKit Go.Proofs.YtididniafloogaaGreatDoorW.PrintWords Go.Proofs.YtididniafloogaaGreatDoorW.PrintLast Go.Proofs.YtididniafloogaaGreatDoor.Str Go.Proofs.YtididniafloogaaGreatDoor.Kit Go.Proofs.YtididniafloogaaGreatDoor.Flat Go.Proofs.YtididniafloogaaGreatDoor.MapV Go.Proofs.YtididniafloogaaGreatDoor.Frame Go.Sort
set_option linter.unusedVariables false
set_option linter.unusedSimpArgs false
/-- a name, its value, whether it has one -/
abbrev KO := BA × BA × Bool
def encO (x : KO) : List Value := [.string x.1, .string x.2.1, .bool x.2.2]
theorem encO_len (x : KO) : (encO x).length = 3 := rfl
theorem encO_one (x : KO) : ∀ u ∈ encO x, u.oneCell' = true := by
  intro u hu
  simp [encO] at hu
  rcases hu with rfl | rfl | rfl <;> rfl
def ko : Kd KO := flat encO 3 encO_len encO_one
instance : Inhabited KO := ⟨(⟨#[]⟩, ⟨#[]⟩, false)⟩
/-- names with their values, if they have one, as a row -/
def toO (f : List (Bs × Option BA)) : List KO := f.map fun p => (⟨p.1.toArray⟩, p.2.getD ⟨#[]⟩, p.2.isSome)
theorem toO_length (f : List (Bs × Option BA)) : (toO f).length = f.length := List.length_map _
theorem toO_append (f g : List (Bs × Option BA)) : toO (f ++ g) = toO f ++ toO g := List.map_append
def ofO (l : List KO) : List (Bs × Option BA) := l.map fun p => (lb p.1, if p.2.2 then some p.2.1 else none)
theorem ofO_toO (f : List (Bs × Option BA)) : ofO (toO f) = f := by
  unfold ofO toO
  rw [List.map_map]
  conv => rhs; rw [← List.map_id f]
  refine List.map_congr_left (fun p _ => ?_)
  obtain ⟨k, o⟩ := p
  cases o <;> simp [lb]
theorem toO_inj {f g : List (Bs × Option BA)} (h : toO f = toO g) : f = g := by
  rw [← ofO_toO f, ← ofO_toO g, h]
theorem info_opt : (Tryz.prog.info? 95).map (fun i => (i.zero, i.size, i.bytes)) = some (some (.agg #[.string ⟨#[]⟩, .string ⟨#[]⟩, .bool false]), 3, 40) := by kernel_rfl
theorem info_sopt : (Tryz.prog.info? 86).map (fun i => (i.zero, i.size, i.bytes)) = some (some (.agg #[.string ⟨#[]⟩, .string ⟨#[]⟩, .bool false]), 3, 40) := by kernel_rfl
theorem ko_open {w : World} {A : Option Addr} {xs : List KO} (h : ko.C w A xs.length xs) (h0 : 0 < xs.length) :
    ∃ bk off, A = some ⟨bk, off, none⟩ ∧ bk < w.heap.size ∧ ∀ (j : Nat) (hj : j < xs.length), w.cell? ⟨bk, off + j * 3, none⟩ = some (.string xs[j].1) ∧ w.cell? ⟨bk, off + j * 3 + 1, none⟩ = some (.string xs[j].2.1) ∧ w.cell? ⟨bk, off + j * 3 + 2, none⟩ = some (.bool xs[j].2.2) := by
  obtain ⟨bk, off, rfl, hb, hc⟩ := flat_open h h0 (by decide)
  refine ⟨bk, off, rfl, hb, fun j hj => ⟨hc j hj 0 _ rfl, ?_, ?_⟩⟩
  · have := hc j hj 1 _ rfl
    rw [← Nat.add_assoc] at this
    exact this
  · have := hc j hj 2 _ rfl
    rw [← Nat.add_assoc] at this
    exact this
theorem ko_none (w : World) (A : Option Addr) : ko.C w A 0 [] := ⟨rfl, by omega, fun h => absurd h (Nat.lt_irrefl 0)⟩
section
variable {ops : Array Oper} {rest : List Oper} {o : Oper} {a : Act} {Q : Exit → Act → World → Prop} {Kc : Act → World → Prop}
theorem append_opt {w0 W : World} {ok : Nat → Prop} (hfresh : ∀ k, W.heap.size ≤ k → ok k) (t e : TypeId) (ht : Tryz.prog.underlying t = some (.slice e)) (hinfo : (Tryz.prog.info? e).map (fun i => (i.zero, i.size, i.bytes)) = some (some (.agg #[.string ⟨#[]⟩, .string ⟨#[]⟩, .bool false]), 3, 40)) (s x : Operand) (hgd : o.guard = none) (ho : o.op = .call { callee := .builtin .append, args := #[s, x], argTypes := #[t, t] })
    {v : Value} {xs : List KO} {p q : BA} {r : Bool} (hs : a.eval s = v) (hx : a.eval x = .slice (some ⟨W.heap.size, 0, none⟩) 1 1)
    (HO : ko.R e W w0.heap.size ok v xs) (HB : Below w0.heap.size w0 W) (hl : xs.length < 2199023255551)
    (h : ∀ v1 w1, ko.R e w1 w0.heap.size ok v1 (xs ++ [(p, q, r)]) → Below w0.heap.size w0 w1 → W.grownBy w1 v.ownBlock → wpList Tryz.prog ops Q rest (a.put o.dst v1) w1) :
    wpList Tryz.prog ops Q (o :: rest) a (W.alloc (.cells #[.string p, .string q, .bool r] e)) :=
  Kd.R_append ko w0.heap.size hgd s x t e (.agg #[.string ⟨#[]⟩, .string ⟨#[]⟩, .bool false]) 40 ho ht hinfo rfl (show 0 < 3 by decide) (by decide) v xs (p, q, r) (encO (p, q, r)) ok (fun _ => False) hs hx rfl (fun _ hk => hk.elim) hfresh HO HB HB.size (by omega)
    (fun v1 w1 h2 h3 h4 _ => h v1 w1 h2 h3 h4)
theorem append_opt_step {w0 W : World} {ok : Nat → Prop} (hw : Region.wanted o (yielded ops a.tmps) = true) (hfresh : ∀ k, W.heap.size ≤ k → ok k) (t e : TypeId) (ht : Tryz.prog.underlying t = some (.slice e)) (hinfo : (Tryz.prog.info? e).map (fun i => (i.zero, i.size, i.bytes)) = some (some (.agg #[.string ⟨#[]⟩, .string ⟨#[]⟩, .bool false]), 3, 40)) (s x : Operand) (ho : o.op = .call { callee := .builtin .append, args := #[s, x], argTypes := #[t, t] })
    {v : Value} {xs : List KO} {p q : BA} {r : Bool} (hs : a.eval s = v) (hx : a.eval x = .slice (some ⟨W.heap.size, 0, none⟩) 1 1)
    (HO : ko.R e W w0.heap.size ok v xs) (HB : Below w0.heap.size w0 W) (hl : xs.length < 2199023255551)
    (h : ∀ v1 w1, ko.R e w1 w0.heap.size ok v1 (xs ++ [(p, q, r)]) → Below w0.heap.size w0 w1 → W.grownBy w1 v.ownBlock → Kc (a.put o.dst v1) w1) :
    if Region.wanted o (yielded ops a.tmps) = true then Oper.wp Tryz.prog o a (W.alloc (.cells #[.string p, .string q, .bool r] e)) Kc Q else Kc (a.put o.dst undef) (W.alloc (.cells #[.string p, .string q, .bool r] e)) :=
  Kd.R_append_step ko w0.heap.size hw s x t e (.agg #[.string ⟨#[]⟩, .string ⟨#[]⟩, .bool false]) 40 ho ht hinfo rfl (show 0 < 3 by decide) (by decide) v xs (p, q, r) (encO (p, q, r)) ok (fun _ => False) hs hx rfl (fun _ hk => hk.elim) hfresh HO HB HB.size (by omega)
    (fun v1 w1 h2 h3 h4 _ => h v1 w1 h2 h3 h4)
end
/-- a pointer to a value, with the value; none: nil -/
abbrev PV := Option (Addr × BA)
def encA (x : PV) : Value := .pointer (x.map Prod.fst)
/-- the values alone -/
def vs (f : List (Bs × PV)) : List (Bs × Option BA) := f.map fun p => (p.1, p.2.map Prod.snd)
theorem vs_length (f : List (Bs × PV)) : (vs f).length = f.length := List.length_map _
theorem vs_append (f g : List (Bs × PV)) : vs (f ++ g) = vs f ++ vs g := List.map_append
theorem vs_put (f : List (Bs × PV)) (k : Bs) (v : PV) : mput (vs f) k (v.map Prod.snd) = vs (mput f k v) := mput_map (Option.map Prod.snd) f k v
theorem vs_rises {f : List (Bs × PV)} (h : Rises f) : Rises (vs f) := by
  unfold Rises vs
  rw [List.pairwise_map]
  exact h
/-- the values stand where the pointers lead -/
def Leads (w : World) (f : List (Bs × PV)) : Prop := ∀ p ∈ f, ∀ a v, p.2 = some (a, v) → w.cell? a = some (.string v)
abbrev MapA (w : World) (b : Nat) (f : List (Bs × PV)) : Prop := MapE Tryz.prog 9 encA w b f
theorem Leads.nil (w : World) : Leads w [] := fun p hp => by simp at hp
theorem Leads.put {w : World} {f : List (Bs × PV)} (h : Leads w f) {k : Bs} {v : PV} (hv : ∀ a s, v = some (a, s) → w.cell? a = some (.string s)) : Leads w (mput f k v) := fun p hp a s e => by
  unfold mput at hp
  rcases mins_mem.1 hp with rfl | hp
  · exact hv a s e
  · exact h p (List.mem_filter.1 hp).1 a s e
theorem Leads.below {w w' : World} {f : List (Bs × PV)} (h : Leads w f) (hb : Below w.heap.size w w') : Leads w' f := fun p hp a s e => pw_cell_below hb (h p hp a s e)
theorem Leads.sub {w : World} {f g : List (Bs × PV)} (h : Leads w f) (hs : ∀ p ∈ g, p ∈ f) : Leads w g := fun p hp a s e => h p (hs p hp) a s e
theorem map_no_cell {w : World} {b : Nat} {α : Type} {enc : α → Value} {f : List (Bs × α)} (h : MapE Tryz.prog 9 enc w b f) {p : Addr} {x : Value} (hc : w.cell? p = some x) : p.block ≠ b := fun e => by
  obtain ⟨es, clock, hb, _⟩ := h
  unfold World.cell? at hc
  rw [e, hb] at hc
  cases hc
theorem Leads.grown {w w' : World} {b : Nat} {f : List (Bs × PV)} (h : Leads w f) {α : Type} {enc : α → Value} {g : List (Bs × α)} (hm : MapE Tryz.prog 9 enc w b g) (hg : w.grownBy w' (some b)) : Leads w' f := fun p hp a s e =>
  cell_grown hg (h p hp a s e) (fun e2 => map_no_cell hm (h p hp a s e) (Option.some.inj e2))
theorem iter_no_cell {P : Program} {k : TypeId} {α : Type} {enc : α → Value} {w : World} {b r : Nat} {f left : List (Bs × α)} (h : Ranges P k enc w b r f left) {p : Addr} {x : Value} (hc : w.cell? p = some x) : p.block ≠ r := fun e => by
  obtain ⟨lf, cnt, ⟨es, clock, since, seen, c0, _, _, _, _, hr, _⟩, _⟩ := h
  unfold World.cell? at hc
  rw [e, hr] at hc
  cases hc
theorem Leads.next {w w' : World} {f : List (Bs × PV)} (h : Leads w f) {P : Program} {k : TypeId} {α : Type} {enc : α → Value} {b r : Nat} {g left : List (Bs × α)} (hr : Ranges P k enc w b r g left) (hg : w.grownBy w' (some r)) : Leads w' f := fun p hp a s e =>
  cell_grown hg (h p hp a s e) (fun e2 => iter_no_cell hr (h p hp a s e) (Option.some.inj e2))
theorem mins_perm {α : Type} (x : Bs × α) : ∀ f : List (Bs × α), (mins x f).Perm (x :: f)
  | [] => List.Perm.refl _
  | y :: r => by
    unfold mins
    split
    · exact List.Perm.refl _
    · exact ((mins_perm x r).cons y).trans (List.Perm.swap x y r)
theorem fold_perm {α : Type} : ∀ (l f : List (Bs × α)), ((f ++ l).Pairwise fun p q => p.1 ≠ q.1) → (l.foldl (fun f p => mput f p.1 p.2) f).Perm (f ++ l)
  | [], f, _ => by simp
  | p :: r, f, h => by
    have hm : (mput f p.1 p.2).Perm (p :: f) := by
      unfold mput
      rw [mdel_id (fun q hq => (List.pairwise_append.1 h).2.2 q hq p (by simp))]
      exact mins_perm _ _
    have h2 : (mput f p.1 p.2 ++ r).Perm (f ++ p :: r) := (hm.append_right r).trans (List.perm_middle (l₁ := f) (l₂ := r) (a := p)).symm
    rw [List.foldl_cons]
    exact (fold_perm r _ (h2.symm.pairwise h (fun {p q} h => h.symm))).trans h2
theorem fitM_perm' {α : Type} (l : List (Bs × α)) (h : l.Pairwise fun p q => p.1 ≠ q.1) : (fitM l).Perm l := by
  have := fold_perm l [] (by simpa using h)
  simpa [fitM] using this
/-- a rising list, come in whatever order -/
theorem fitM_perm {α : Type} {l g : List (Bs × α)} (hg : Rises g) (hp : l.Perm g) : fitM l = g := by
  have hn : l.Pairwise fun p q => p.1 ≠ q.1 := hp.symm.pairwise (hg.imp (fun {p q} h => lt_ne h)) (fun {p q} h => h.symm)
  exact rises_perm hg ((fitM_perm' l hn).trans hp) ((fitM_rises l).imp (fun {p q} h => lt_asymm h))
section
variable {P : Program} {k e t : TypeId} {α : Type} {enc : α → Value} {w : World} {b : Nat} {f : List (Bs × α)}
variable {ops : Array Oper} {o : Oper} {a : Act} {Q : Exit → Act → World → Prop} {Kc : Act → World → Prop}
/-- a map's update within a region that draws -/
theorem store_mapE_step (hk : P.underlying k = some .string) (ht : P.underlying t = some (.map k e)) (hw : Region.wanted o (yielded ops a.tmps) = true) (hN : o.dst = none) (m x v : Operand) (hop : o.op = Op.mapUpdate t m x v)
    (hm : a.eval m = .map (some b)) (h : MapE P k enc w b f) (hn : f.length < maxLen) {s : ByteArray} {y : α} (hx : a.eval x = .string s) (hs : s.size ≤ maxLen) (hv : a.eval v = enc y)
    (hK : ∀ w', MapE P k enc w' b (mput f (lb s) y) → w.grownBy w' (some b) → Kc a w') : if Region.wanted o (yielded ops a.tmps) = true then Oper.wp P o a w Kc Q else Kc (a.put none undef) w := by
  obtain ⟨w', hrun, r1, r2⟩ := World.ownsMap.update h (Go.Maps.string_keyed hk) ht hn (keyOf_s hk hs) (val := enc y) (d := .held (enc y)) (ps := []) rfl
  refine skip_ (w1 := w') hw hN ?_ (hK w' (MapE.of (by rw [ent_put] at r1; exact r1)) r2)
  simp [execOp, hop, hm, hx, hv, hrun, Result.andThen]
end
end Go.Proofs.YtididniafloogaaGreatDoor.Maps
namespace Go.Proofs.YtididniafloogaaGreatDoor.Maps
open Go.RowKit Go.Proofs.YtididniafloogaaGreatDoorW.PrintWords Go.Proofs.YtididniafloogaaGreatDoor.Str Go.Proofs.YtididniafloogaaGreatDoor.Kit Go.Proofs.YtididniafloogaaGreatDoor.Flat Go.Proofs.YtididniafloogaaGreatDoor.MapV Go.Sort Go.Lib
set_option linter.unusedVariables false
set_option linter.unusedSimpArgs false
/-- by the names -/
def ltO (x y : KO) : Bool := Op.bytesLess x.1.toList y.1.toList
theorem ltO_eq (x y : KO) : ltO x y = decide (lb x.1 < lb y.1) := by
  unfold ltO
  rw [bytesLess_eq, toList_lb, toList_lb]
theorem swo_ltO : SWO ltO where
  irrefl x := by rw [ltO_eq]; exact decide_eq_false (lt_irrefl _)
  trans x y z h1 h2 := by
    rw [ltO_eq] at *
    exact decide_eq_true (lt_trans (of_decide_eq_true h1) (of_decide_eq_true h2))
  ntrans x y z h1 h2 := by
    rw [ltO_eq] at *
    refine decide_eq_false (fun h => ?_)
    have n1 := of_decide_eq_false h1
    have n2 := of_decide_eq_false h2
    rcases lt_total (lb x.1) (lb y.1) with e | e | e
    · exact n1 e
    · rw [e] at h; exact n2 h
    · exact n2 (lt_trans e h)
noncomputable def optsT : TypeInfo := (Tryz.prog.info? 43).get (by kernel_rfl)
noncomputable def optT : TypeInfo := (Tryz.prog.info? 95).get (by kernel_rfl)
theorem optT_k (n : Nat) (h2 : 2 ≤ n) : Lib.swapperK n optT 25 = 9 := by
  have a : optT.hasPointers = true := by kernel_rfl
  have b : optT.bytes = 40 := by kernel_rfl
  have c : (n == 0) = false := by simp; omega
  have d : (n == 1) = false := by simp; omega
  simp [Lib.swapperK, a, b, c, d]

set_option maxHeartbeats 2000000 in
/-- the comparison that opts hands to the sort -/
theorem opts_less (blk off c Bs size : Nat) (W : World) (G : Nat → BA) (hs : W.cell? ⟨Bs, 0, none⟩ = some (.slice (some ⟨blk, off, none⟩) size c))
    (hc : ∀ t, t < size → W.cell? ⟨blk, off + t * 3, none⟩ = some (.string (G t))) (i j : Nat) (hi : i < size) (hj : j < size) (_hsz : size < 4611686018427387904) :
    Calls Tryz.prog 86 #[.int .i64 i, .int .i64 j, .pointer (some ⟨Bs, 0, none⟩)] W fun e w' => e = .returned (.bool (Op.bytesLess (G i).toList (G j).toList)) ∧ ∃ q, w' = W.drewN q := by
  have ci := hc i hi
  have cj := hc j hj
  go_enter Tryz.func86, Tryz.ntmps86
  go_wp2
  go_quiet (fail)
  go_wp2
  go_ret
  exact ⟨rfl, nq, rfl⟩
set_option maxRecDepth 100000 in
theorem opts_sort (blk off c Bs : Nat) (d : Array (KO)) (h2 : 2 ≤ d.size) (hsz : d.size < 4611686018427387904) (w : World) (hH : HoldsK encO 3 w blk off d) (hblk : blk < w.heap.size)
    (hBs : w.cell? ⟨Bs, 0, none⟩ = some (.slice (some ⟨blk, off, none⟩) d.size c)) (hB1 : Bs < w.heap.size) (hB2 : Bs ≠ blk) :
    Calls Tryz.prog 70 #[.iface 43 (.slice (some ⟨blk, off, none⟩) d.size c), .func (.func 86) #[] #[.pointer (some ⟨Bs, 0, none⟩)]] w fun e w' =>
      e = .returned (.tuple #[]) ∧ ∃ d' n os, PermIn 0 d.size d d' ∧ SortedIn ltO 0 d.size d' ∧ w' = grow (putRowK encO 3 (Sort.ahead w n) blk off d') os := by
  have hless : LessReadsK Tryz.prog 86 #[.pointer (some ⟨Bs, 0, none⟩)] encO 3 ltO blk off d.size w := by
    intro m os dk hs i j hi hj
    have e : sortWorldK encO 3 w blk off m dk os = putRowK encO 3 (grow (Sort.ahead w m) os) blk off dk := by
      unfold sortWorldK; rw [putRowK_grow _ _ (Sort.ahead w m) _ blk off _ hblk]
    have hHg : HoldsK encO 3 (grow (Sort.ahead w m) os) blk off d := holdsK_grow _ _ _ _ blk off d hblk (holdsK_ahead _ _ _ _ _ _ _ hH)
    refine opts_less blk off c Bs d.size _ (fun t => dk[t]!.1) ?_ (fun t ht => ?_) i j hi hj (by omega)
    · rw [e, cell?_putRowK_other _ _ _ blk off dk _ (by exact hB2), cell?_grow _ _ _ (by exact hB1)]; exact hBs
    · rw [e]; exact ((holdsK_putRowK _ _ _ blk off d dk hHg hs).cell (i := t) (c := 0) (by omega) (by omega)).1
  exact Any.sort_Slice_cells_sorted Tryz.laysGg6 43 95 optsT optT (by kernel_rfl) (by kernel_rfl) (by kernel_rfl) (by kernel_rfl) 25 (fun _ => by kernel_rfl) encO 3 encO_len (by kernel_rfl) (fun _ => by kernel_rfl)
    encO_one ltO swo_ltO 86 _
    (enters_of Tryz.func86 (by kernel_rfl) rfl) blk off c d h2 hsz 120 (by rw [optT_k _ h2]; kernel_rfl) false
    (fun args W => run_callFunc_extern Tryz.func120 (by kernel_rfl) (by kernel_rfl) (by kernel_rfl) (e := Extern.ReflectliteSwapper.swap false) (by kernel_rfl) args W) w hless hH hblk
set_option maxRecDepth 100000 in
theorem opts_sort1 (p : Option Addr) (n c : Nat) (h1 : n ≤ 1) (lb : Array Value) (w : World) :
    Calls Tryz.prog 70 #[.iface 43 (.slice p n c), .func (.func 86) #[] lb] w fun e w' => e = .returned (.tuple #[]) ∧ ∃ os, w' = grow w os := by
  have h : ∃ f, Tryz.prog.funcs.findIdx? (·.name == "internal/reflectlite" ++ ".Swapper$" ++ toString (Lib.swapperK n optT 25)) = some f := by
    rcases Nat.eq_zero_or_pos n with rfl | hn
    · exact ⟨112, by kernel_rfl⟩
    · obtain rfl : n = 1 := by omega
      exact ⟨113, by kernel_rfl⟩
  obtain ⟨f, hf⟩ := h
  exact Any.sort_Slice_tiny Tryz.laysGg6 43 95 optsT optT (by kernel_rfl) (by kernel_rfl) (by kernel_rfl) (by kernel_rfl) 25 (fun _ => by kernel_rfl) p n c h1 f hf (.func 86) #[] lb w
end Go.Proofs.YtididniafloogaaGreatDoor.Maps
namespace Go.Proofs.YtididniafloogaaGreatDoor.Maps
open Go.RowKit Go.Proofs.YtididniafloogaaGreatDoorW.PrintWords Go.Proofs.YtididniafloogaaGreatDoorW.PrintLast Go.Proofs.YtididniafloogaaGreatDoor.Str Go.Proofs.YtididniafloogaaGreatDoor.Kit Go.Proofs.YtididniafloogaaGreatDoor.Flat Go.Proofs.YtididniafloogaaGreatDoor.MapV Go.Proofs.YtididniafloogaaGreatDoor.Frame Go.Sort Go.Lib
set_option linter.unusedVariables false
set_option linter.unusedSimpArgs false
theorem mapA_u : Tryz.prog.underlying 90 = some (.map 9 119) := Tryz.underlying90
def kvO (ys : List KO) : List (Bs × (BA × Bool)) := ys.map fun p => (lb p.1, p.2)
theorem kvO_inj {xs ys : List KO} (h : kvO xs = kvO ys) : xs = ys := by
  have go : ∀ l : List KO, ((kvO l).map fun p : Bs × (BA × Bool) => ((⟨p.1.toArray⟩, p.2) : KO)) = l := by
    intro l
    unfold kvO
    rw [List.map_map]
    conv => rhs; rw [← List.map_id l]
    refine List.map_congr_left (fun p _ => ?_)
    simp [lb]
  rw [← go xs, ← go ys, h]
theorem kvO_toO_rises {f : List (Bs × PV)} (hf : Rises f) : Rises (kvO (toO (vs f))) := by
  unfold Rises kvO toO vs
  rw [List.pairwise_map, List.pairwise_map, List.pairwise_map]
  refine hf.imp (fun {x y} h => ?_)
  simpa [lb] using h
/-- what is sorted of the rows of a map is those rows -/
theorem sortedO_is {f : List (Bs × PV)} {ys : List KO} (hf : Rises f) (hp : ys.Perm (toO (vs f))) (hs : ys.Pairwise fun x y => ltO y x = false) : ys = toO (vs f) :=
  kvO_inj (rises_perm (kvO_toO_rises hf) (hp.map _) (by
    unfold kvO
    rw [List.pairwise_map]
    refine hs.imp (fun {x y} h k => ?_)
    rw [ltO_eq] at h
    exact of_decide_eq_false h k))
theorem sorted_opts {d : Array (KO)} (h : SortedIn ltO 0 d.size d) : d.toList.Pairwise fun x y => ltO y x = false := by
  rw [List.pairwise_iff_getElem]
  intro i j hi hj hij
  have hi' : i < d.size := by simpa using hi
  have hj' : j < d.size := by simpa using hj
  have := h i j (by omega) (by omega) (by omega)
  rw [getElem!_pos d i hi', getElem!_pos d j hj'] at this
  simpa using this
set_option maxHeartbeats 3200000 in
set_option maxRecDepth 100000 in
theorem opts (b : Nat) (f : List (Bs × PV)) (w : World) (h : MapA w b f) (hld : Leads w f) (hn : f.length ≤ 17179869184) :
    Calls Tryz.prog 60 #[.map (some b)] w fun e w' => ∃ v, e = .returned v ∧ ko.R 95 w' w.heap.size (fun _ => True) v (toO (vs f)) ∧ Below w.heap.size w w' := by
  have HM := Aside0.mk (h.below ((Below.refl _ w).alloc (Nat.le_refl _) (.cells #[.slice none 0 0] 43)))
  have HK := Aside0.mk (MapE.key_le key_u h)
  have HRS := Aside0.mk (MapE.rises (Go.Maps.string_keyed key_u) h)
  have HC := Aside0.mk (cb_new w (.cells #[.slice none 0 0] 43))
  have HB := Aside0.mk ((Below.refl _ w).alloc (Nat.le_refl _) (.cells #[.slice none 0 0] 43))
  have hbl := h.lt
  have HLD := Aside0.mk hld
  clear h hld
  go_enter Tryz.func60, Tryz.ntmps60
  go_wp2_with (at_range; refine range_mapE key_u mapA_u rfl _ rfl rfl HM.out ?_; intro w0 hrg0 hg0 hs0; have HR0 := Aside0.mk hrg0; have HG0 := Aside0.mk hg0; have HS0 := Aside0.mk hs0; clear hrg0 hg0 hs0)
  go_frame
  rw [World.size_alloc] at HR0 HS0
  rw [World.size_alloc]
  have HC0 := Aside0.mk ((HG0.out.block w.heap.size (by rw [World.size_alloc]; omega) (by simp)).trans HC.out)
  have HB0 := Aside0.mk (pw_below_grown HB.out none (by rw [World.size_alloc]; omega) HG0.out (fun k hk => by cases hk))
  clear HG0 HB HC HM
  go_loopw [] (fun wr => ∃ (dn lf : List (Bs × PV)) (v : Value), Aside0 (Ranges Tryz.prog 9 encA wr b (w.heap.size + 1) f lf) ∧ Aside0 (wr.heap[w.heap.size]? = some (.cells #[v] 43 (0, 0))) ∧ Aside0 (ko.R 95 wr w.heap.size (fun k => w.heap.size + 2 ≤ k) v (toO (vs dn))) ∧ Aside0 ((dn ++ lf).Perm f) ∧ Aside0 (Below w.heap.size w wr)) (fun wr => wr.rangeLeft b (w.heap.size + 1))
  case atStart => exact ⟨[], f, _, HR0, HC0, ⟨Kd.R_nil _ _ _ _ _⟩, ⟨List.Perm.refl _⟩, HB0⟩
  case round =>
    clear HR0 HC0 HB0
    obtain ⟨dn, lf, v, HR, HC, HV, HP, HB⟩ := hrel
    have hcell : wr.cell? ⟨w.heap.size, 0, none⟩ = some v := cb_cell (i := 0) HC.out rfl
    have hlen : dn.length + lf.length = f.length := by rw [← HP.out.length_eq, List.length_append]
    have HL := Aside0.mk hlen
    clear hlen
    obtain ⟨A0, c0, hv0⟩ := Kd.R_slice HV.out
    subst hv0
    rw [toO_length, vs_length] at hcell HV HC
    have hbr := HR.out.ne
    have hrl := HR.out.lt
    go_wp2_with (first | (at_next; refine next_mapA key_u rfl _ rfl rfl HR.out (fun hd => ?_) (fun x c w2 hx hen => ?_); rotate_left; (have HC2 := Aside0.mk (show w2.heap[w.heap.size]? = some (.cells #[.slice A0 dn.length c0] 43 (0, 0)) from (hx.out.2.2.2.2.1.block _ (cb_lt HC.out) (by simp)).trans HC.out)); (have hc2 : w2.cell? ⟨w.heap.size, 0, none⟩ = some (.slice A0 dn.length c0) := cb_cell (i := 0) HC2.out rfl); (have HV2 := Aside0.mk (Kd.R_grown HV.out hx.out.2.2.2.2.1 (fun k hk e => by injection e with e; omega))); (have HB2 := Aside0.mk (pw_below_grown HB.out (some (w.heap.size + 1)) HB.out.size hx.out.2.2.2.2.1 (fun k hk => by injection hk with hk; omega))); (have hsz2 : w.heap.size + 2 ≤ w2.heap.size := by have := hx.out.2.2.2.2.2; omega); (have hfit : (toO (vs dn)).length < 2199023255551 := by rw [toO_length, vs_length]; have := HL.out; omega); (have hpc := Aside0.mk (fun (pa : Addr) (pv : BA) (hc : c = some (pa, pv)) => pw_cell_below HB2.out (HLD.out _ (HR.out.sub.subset hx.out.1) pa pv hc))); (rcases c with _ | ⟨pa, pv⟩); all_goals (try (simp only [encA, Option.map_none, Option.map_some] at hen))) | (at_builtin; refine append_opt (w0 := w) (ok := fun k => w.heap.size + 2 ≤ k) (fun k hk => Nat.le_trans hsz2 hk) 43 95 Tryz.underlying43 info_opt (.tmp 23) (.tmp 26) rfl rfl rfl rfl (xs := toO (vs dn)) HV2.out HB2.out hfit ?_; intro v1 w3 ho hb hg; obtain ⟨A1, c1, rfl⟩ := Kd.R_slice ho; have HV3 := Aside0.mk ho; have HB3 := Aside0.mk hb; have HG3 := Aside0.mk hg; clear ho hb hg; have HC3 := Aside0.mk (blk_grown HC2.out HG3.out (fun e => by have := HV2.out.1 _ e.symm; omega)); have hc3 : w3.cell? ⟨w.heap.size, 0, none⟩ = some (.slice A0 dn.length c0) := cb_cell (i := 0) HC3.out rfl; have hf3 := cb_frozen (i := 0) HC3.out))
    · -- a name without a value
      have HG4 := Aside0.mk (grown_of_turns' (Turns.setCell w3 w.heap.size 0 (.slice A1 ((toO (vs dn)).length + 1) c1)))
      have hown2 := HV2.out.1
      have hown : ∀ k, (Value.slice A0 dn.length c0).ownBlock = some k → w.heap.size + 2 ≤ k := HV2.out.1
      have HG3' : Aside0 (w2.grownBy w3 (Value.slice A0 dn.length c0).ownBlock) := HG3
      clear HG3
      have nb : ∀ j, j < w.heap.size + 2 → some j ≠ (Value.slice A0 dn.length c0).ownBlock := fun j hj e => by have := hown j e.symm; omega
      go_roundw
      have hpm : lf.Perm ((lb x, (none : PV)) :: mdel lf (lb x)) := rises_take ((HRS.out.sublist HR.out.sub).imp (fun {p q} h => lt_ne h)) hx.out.1
      case rel =>
        refine ⟨dn ++ [(lb x, (none : PV))], mdel lf (lb x), .slice A1 ((toO (vs dn)).length + 1) c1, ⟨?_⟩, ⟨?_⟩, ⟨?_⟩, ⟨?_⟩, ⟨?_⟩⟩
        · exact (hx.out.2.2.1.kept HG3'.out (nb _ (by omega)) (nb _ (by omega))).kept HG4.out (fun e => by injection e with e; omega) (fun e => by injection e with e; omega)
        · exact cb_set HC3.out _
        · have := Kd.R_far (p := ⟨w.heap.size, 0, none⟩) HV3.out (fun k hk => show k ≠ w.heap.size from by omega) (.slice A1 ((toO (vs dn)).length + 1) c1)
          rw [vs_append, toO_append]
          simpa [vs, toO] using this
        · rw [List.append_assoc]
          refine List.Perm.trans ?_ HP.out
          exact (hpm.symm).append_left dn
        · exact HB3.out.setCell (Nat.le_refl _) _
      case measure =>
        have e1 := left_same (b := b) (r := w.heap.size + 1) (w := w2) (w' := w3.setCell ⟨w.heap.size, 0, none⟩ (.slice A1 ((toO (vs dn)).length + 1) c1)) ?_ ?_
        · rw [e1]; exact hx.out.2.2.2.1
        · rw [HG4.out.block b (by have := HB3.out.size; omega) (fun e => by injection e with e; omega), HG3'.out.block b (by omega) (nb _ (by omega))]
        · rw [HG4.out.block _ (by have := HG3'.out.size; omega) (fun e => by injection e with e; omega), HG3'.out.block _ (by omega) (nb _ (by omega))]
    · -- a name with its value
      have hpv := hpc.out pa pv rfl
      have hown : ∀ k, (Value.slice A0 dn.length c0).ownBlock = some k → w.heap.size + 2 ≤ k := HV2.out.1
      have hpl : pa.block < w.heap.size := World.block_lt_of_cell? w pa (HLD.out _ (HR.out.sub.subset hx.out.1) pa pv rfl)
      have hn1 : some pa.block ≠ (Value.slice A0 dn.length c0).ownBlock := fun e => by have := hown _ e.symm; omega
      have hn2 : some w.heap.size ≠ (Value.slice A0 dn.length c0).ownBlock := fun e => by have := hown _ e.symm; omega
      have hk2 := HC2.out
      clear hown
      refine start_ (n := 9) (S := fun w' => w'.cell? ⟨w.heap.size, 0, none⟩ = some (.slice A0 dn.length c0) ∧ w'.heap[w.heap.size]? = some (.cells #[.slice A0 dn.length c0] 43 (0, 0)) ∧ w'.cell? pa = some (.string pv)) (ds := [8]) #[false, false, false, false, false, false, false, false, false] (by kernel_rfl) rfl rfl ⟨hc2, hk2, hpv⟩ (fun hHeld => ?_)
      refine pure_ (i := 1) (N := some 16) (v := ?_) (a' := ?_) #[false, true, false, false, false, false, false, false, false] rfl rfl (by kernel_rfl) (fun _ _ _ h => h) (Or.inl ⟨by rfl, ?_⟩) ?_ ?_
      rotate_left
      · intro w'
        go_simp
        with_reducible rfl
      rotate_left
      · simp only [Act.put, List.setIfInBounds_toArray, List.set_cons_zero, List.set_cons_succ, i64_w, i32_w]
        rfl
      refine pure_ (i := 2) (N := some 17) (v := ?_) (a' := ?_) #[false, true, true, false, false, false, false, false, false] rfl rfl (by kernel_rfl) (fun _ _ _ h => h) (Or.inl ⟨by rfl, ?_⟩) ?_ ?_
      rotate_left
      · intro w'
        go_simp
        with_reducible rfl
      rotate_left
      · simp only [Act.put, List.setIfInBounds_toArray, List.set_cons_zero, List.set_cons_succ, i64_w, i32_w]
        rfl
      refine pure_ (i := 3) (N := some 18) (v := ?_) (a' := ?_) #[false, true, true, true, false, false, false, false, false] rfl rfl (by kernel_rfl) (fun _ _ _ h => h) (Or.inl ⟨by rfl, ?_⟩) ?_ ?_
      rotate_left
      · intro w'
        go_simp
        with_reducible rfl
      rotate_left
      · simp only [Act.put, List.setIfInBounds_toArray, List.set_cons_zero, List.set_cons_succ, i64_w, i32_w]
        rfl
      refine take_ (i := 0) (N := some 15) (v := ?_) (a' := ?_) #[true, true, true, true, false, false, false, false, false] rfl rfl (by kernel_rfl) (fun _ _ _ h => h) (Or.inl ⟨by rfl, ?_⟩) hHeld ?_ ?_
      rotate_left
      · rintro w' ⟨s0, s1, s2⟩
        go_simp
        with_reducible rfl
      rotate_left
      · simp only [Act.put, List.setIfInBounds_toArray, List.set_cons_zero, List.set_cons_succ, i64_w, i32_w]
        rfl
      refine take_ (i := 4) (N := some 19) (v := ?_) (a' := ?_) #[true, true, true, true, true, false, false, false, false] rfl rfl (by kernel_rfl) (fun _ _ _ h => h) (Or.inl ⟨by rfl, ?_⟩) hHeld ?_ ?_
      rotate_left
      · rintro w' ⟨s0, s1, s2⟩
        go_simp
        with_reducible rfl
      rotate_left
      · simp only [Act.put, List.setIfInBounds_toArray, List.set_cons_zero, List.set_cons_succ, i64_w, i32_w]
        rfl
      refine pure_ (i := 5) (N := some 20) (v := ?_) (a' := ?_) #[true, true, true, true, true, true, false, false, false] rfl rfl (by kernel_rfl) (fun _ _ _ h => h) (Or.inl ⟨by rfl, ?_⟩) ?_ ?_
      rotate_left
      · intro w'
        go_simp
        with_reducible rfl
      rotate_left
      · simp only [Act.put, List.setIfInBounds_toArray, List.set_cons_zero, List.set_cons_succ, i64_w, i32_w]
        rfl
      refine one_ (i := 6) (N := some 21) #[true, true, true, true, true, true, true, false, false] rfl rfl (by kernel_rfl) (by decide) (fun K hK => ?_)
      refine value_ (w1 := ?_) (v := ?_) (by rfl) rfl ?_ ?_
      rotate_left 2
      · go_simp
        constructor
        · rfl
        · rfl
      refine hK.out _ _ ⟨pw_cell_below (below_alloc (Below.refl _ _) _) hHeld.1, ((below_alloc (Below.refl _ _) _).block _ (cb_lt hHeld.2.1)).trans hHeld.2.1, pw_cell_below (below_alloc (Below.refl _ _) _) hHeld.2.2⟩ (fun hHeld => ?_)
      clear hK K
      refine norm_ (a' := ?_) ?_ ?_
      rotate_left
      · show Act.put _ (some 21) _ = _
        simp only [Act.put, List.setIfInBounds_toArray, List.set_cons_zero, List.set_cons_succ, i64_w, i32_w]
        rfl
      refine one_ (i := 7) (N := some 22) #[true, true, true, true, true, true, true, true, false] rfl rfl (by kernel_rfl) (by decide) (fun K hK => ?_)
      refine append_opt_step (w0 := w) (W := w2.drew) (ok := fun k => w.heap.size + 2 ≤ k) rfl (fun k hk => Nat.le_trans hsz2 hk) 43 95 Tryz.underlying43 info_opt (.tmp 15) (.tmp 21) rfl rfl rfl (xs := toO (vs dn)) (Kd.R_drew HV2.out) (below_drew HB2.out) hfit ?_
      intro v1 w3 ho hb hg
      obtain ⟨A1, c1, rfl⟩ := Kd.R_slice ho
      have HV3 := Aside0.mk ho
      have HB3 := Aside0.mk hb
      have HG3 := Aside0.mk (show w2.grownBy w3 _ from ⟨hg.os, hg.tape, hg.output, hg.size, hg.block⟩)
      refine hK.out _ _ ⟨cell_grown hg (show w2.drew.cell? _ = _ from hc2) hn2, (hg.block _ (cb_lt (show w2.drew.heap[w.heap.size]? = _ from hk2)) hn2).trans (show w2.drew.heap[w.heap.size]? = _ from hk2), cell_grown hg (show w2.drew.cell? _ = _ from hpv) hn1⟩ (fun hHeld => ?_)
      clear hK K
      refine norm_ (a' := ?_) ?_ ?_
      rotate_left
      · show Act.put _ (some 22) _ = _
        simp only [Act.put, List.setIfInBounds_toArray, List.set_cons_zero, List.set_cons_succ, i64_w, i32_w]
        rfl
      refine last_ (i := 8) (N := none) #[true, true, true, true, true, true, true, true, true] rfl rfl (by kernel_rfl) (by decide) (fun K hK => ?_)
      have hfz : w3.frozen? ⟨w.heap.size, 0, none⟩ = false := cb_frozen (i := 0) hHeld.2.1
      have HC3 := Aside0.mk hHeld.2.1
      refine skip_ (w1 := ?_) (by rfl) rfl ?_ ?_
      rotate_left
      · go_simp
        rfl
      refine hK.out _ _ ?_
      clear hK K
      refine done_ (by kernel_rfl) ?_
      go_wp2
      have HG4 := Aside0.mk (grown_of_turns' (Turns.setCell w3 w.heap.size 0 (.slice A1 ((toO (vs dn)).length + 1) c1)))
      have hown2 := HV2.out.1
      have hown : ∀ k, (Value.slice A0 dn.length c0).ownBlock = some k → w.heap.size + 2 ≤ k := HV2.out.1
      have HG3' : Aside0 (w2.grownBy w3 (Value.slice A0 dn.length c0).ownBlock) := HG3
      clear HG3
      have nb : ∀ j, j < w.heap.size + 2 → some j ≠ (Value.slice A0 dn.length c0).ownBlock := fun j hj e => by have := hown j e.symm; omega
      go_roundw
      have hpm : lf.Perm ((lb x, (some (pa, pv) : PV)) :: mdel lf (lb x)) := rises_take ((HRS.out.sublist HR.out.sub).imp (fun {p q} h => lt_ne h)) hx.out.1
      case rel =>
        refine ⟨dn ++ [(lb x, (some (pa, pv) : PV))], mdel lf (lb x), .slice A1 ((toO (vs dn)).length + 1) c1, ⟨?_⟩, ⟨?_⟩, ⟨?_⟩, ⟨?_⟩, ⟨?_⟩⟩
        · exact (hx.out.2.2.1.kept HG3'.out (nb _ (by omega)) (nb _ (by omega))).kept HG4.out (fun e => by injection e with e; omega) (fun e => by injection e with e; omega)
        · exact cb_set HC3.out _
        · have := Kd.R_far (p := ⟨w.heap.size, 0, none⟩) HV3.out (fun k hk => show k ≠ w.heap.size from by omega) (.slice A1 ((toO (vs dn)).length + 1) c1)
          rw [vs_append, toO_append]
          simpa [vs, toO] using this
        · rw [List.append_assoc]
          refine List.Perm.trans ?_ HP.out
          exact (hpm.symm).append_left dn
        · exact HB3.out.setCell (Nat.le_refl _) _
      case measure =>
        have e1 := left_same (b := b) (r := w.heap.size + 1) (w := w2) (w' := w3.setCell ⟨w.heap.size, 0, none⟩ (.slice A1 ((toO (vs dn)).length + 1) c1)) ?_ ?_
        · rw [e1]; exact hx.out.2.2.2.1
        · rw [HG4.out.block b (by have := HB3.out.size; omega) (fun e => by injection e with e; omega), HG3'.out.block b (by omega) (nb _ (by omega))]
        · rw [HG4.out.block _ (by have := HG3'.out.size; omega) (fun e => by injection e with e; omega), HG3'.out.block _ (by omega) (nb _ (by omega))]
    · -- all have come: the sort
      have hpf : dn.Perm f := by have := HP.out; rw [hd.out, List.append_nil] at this; exact this
      have HPF := Aside0.mk hpf
      have HLF := Aside0.mk hpf.length_eq
      have HO := Aside0.mk (R_flat.1 HV.out).2
      clear hpf hd hcell HL
      by_cases h1 : dn.length ≤ 1
      · refine (opts_sort1 A0 dn.length c0 h1 _ wr).mono ?_
        rintro e w5 ⟨rfl, os, rfl⟩
        have HG5 := Aside0.mk (grown_grow wr os)
        have hd1 : toO (vs dn) = toO (vs f) := sortedO_is HRS.out ((HPF.out.map _).map _) (by
          have : (toO (vs dn)).length ≤ 1 := by rw [toO_length, vs_length]; exact h1
          rcases hdd : toO (vs dn) with _ | ⟨a, _ | ⟨b, r⟩⟩
          · exact List.Pairwise.nil
          · simp
          · rw [hdd] at this; simp at this)
        have HV5 := Aside0.mk (Kd.R_below HV.out HG5.out)
        rw [hd1] at HV5
        have hcell : (grow wr os).cell? ⟨w.heap.size, 0, none⟩ = some (.slice A0 dn.length c0) := cb_cell (i := 0) ((HG5.out.block _ (cb_lt HC.out)).trans HC.out) rfl
        clear hd1
        go_wp2
        go_ret
        exact ⟨_, rfl, Kd.R_mono HV5.out (fun _ _ => trivial), hb_then HB.out HG5.out⟩
      · rcases HO.out.2 with ⟨h0, h00⟩ | ⟨g, cap, cur, hv, hg, hbk, hle, hcap, hsz, htk⟩
        · rw [toO_length, vs_length] at h00; omega
        · injection hv with e1 e2 e3
          subst e1 e3
          clear e2
          have hown := HO.out
          rw [show (Value.slice (some ⟨g, 0, none⟩) dn.length c0) = .slice (some ⟨g, 0, none⟩) (toO (vs dn)).length c0 by rw [toO_length, vs_length]] at hown
          have hgl := cb_lt hbk
          have hgn : w.heap.size + 2 ≤ g := HV.out.1 g rfl
          have hcell : wr.cell? ⟨w.heap.size, 0, none⟩ = some (.slice (some ⟨g, 0, none⟩) (toO (vs dn)).toArray.size c0) := by
            rw [show (toO (vs dn)).toArray.size = dn.length by simp [toO, vs]]
            exact cb_cell (i := 0) HC.out rfl
          have hS := opts_sort g 0 c0 w.heap.size (toO (vs dn)).toArray (by simp [toO, vs]; omega) (by have := HLF.out; simp [toO, vs]; omega) wr (holdsK_of_own encO_len hown) hgl hcell (by omega) (by omega)
          rw [show (toO (vs dn)).toArray.size = dn.length by simp [toO, vs]] at hS
          have HS := Aside0.mk hS
          clear hS hcell
          have HOWN := Aside0.mk hown
          clear hown hbk htk hsz hle
          refine HS.out.mono ?_
          rintro e w5 ⟨rfl, d', m, os, hp, hso, rfl⟩
          have hpp : d'.toList.Perm (toO (vs dn)) := by
            have h3 := hp.2.2
            have h2 := hp.1
            simp only [List.size_toArray] at h2
            have e1 : (d'.extract 0 dn.length) = d' := by rw [show dn.length = (toO (vs dn)).length by rw [toO_length, vs_length], ← h2]; simp
            have e2 : ((toO (vs dn)).toArray.extract 0 dn.length) = (toO (vs dn)).toArray := by rw [show dn.length = (toO (vs dn)).length by rw [toO_length, vs_length]]; simp
            rw [e1, e2] at h3
            exact h3
          have hds : d'.size = dn.length := by have := hp.1; simp only [List.size_toArray] at this; rw [this, toO_length, vs_length]
          rw [← hds] at hso
          have hys : d'.toList = toO (vs f) := sortedO_is HRS.out (hpp.trans ((HPF.out.map _).map _)) (sorted_opts hso)
          have hd' : d' = (toO (vs f)).toArray := by rw [← hys]
          subst hd'
          have HO5 := Aside0.mk (own_sortedK encO_len (m := m) (os := os) HOWN.out (ys := toO (vs f)) (by rw [toO_length, vs_length, toO_length, vs_length]; exact HLF.out.symm))
          have HG5 := Aside0.mk (grown_sortedK (enc := encO) (k := 3) (m := m) (ys := (toO (vs f)).toArray) (os := os) hgl)
          clear hp hso hys hpp hds HS
          generalize grow (putRowK encO 3 (Sort.ahead wr m) g 0 (toO (vs f)).toArray) os = W5 at *
          have hcell : W5.cell? ⟨w.heap.size, 0, none⟩ = some (.slice (some ⟨g, 0, none⟩) dn.length c0) := cb_cell (i := 0) (blk_grown HC.out HG5.out (fun e => by injection e with e; omega)) rfl
          have hfin : ko.R 95 W5 w.heap.size (fun _ => True) (.slice (some ⟨g, 0, none⟩) dn.length c0) (toO (vs f)) := by
            refine R_flat.2 ⟨fun _ _ => trivial, ?_⟩
            have := HO5.out
            rw [toO_length, vs_length] at this
            rw [toO_length, vs_length, ← HLF.out]
            exact this
          have HFIN := Aside0.mk hfin
          clear hfin HO5
          go_wp2
          go_ret
          exact ⟨_, rfl, HFIN.out, pw_below_grown HB.out (some g) (by omega) HG5.out (fun k hk => by injection hk with hk; omega)⟩
end Go.Proofs.YtididniafloogaaGreatDoor.Maps
namespace Go.Proofs.YtididniafloogaaGreatDoor.Maps
open Go.RowKit Go.Proofs.YtididniafloogaaGreatDoorW.PrintWords Go.Proofs.YtididniafloogaaGreatDoorW.PrintLast Go.Proofs.YtididniafloogaaGreatDoor.Str Go.Proofs.YtididniafloogaaGreatDoor.Kit Go.Proofs.YtididniafloogaaGreatDoor.Flat Go.Proofs.YtididniafloogaaGreatDoor.MapV Go.Proofs.YtididniafloogaaGreatDoor.Frame Go.Proofs.YtididniafloogaaGreatDoor.Index
set_option linter.unusedVariables false
set_option linter.unusedSimpArgs false
/-- a text's name, and its value, if it has one -/
def nameO (s : BA) : Bs × Option BA := (lb (cutB 61 s).1, if (cutB 61 s).2.2 then some (cutB 61 s).2.1 else none)
def newO (l : List BA) : List (Bs × Option BA) := l.foldl (fun f s => mput f (nameO s).1 (nameO s).2) []
theorem newO_snoc (l : List BA) (s : BA) : newO (l ++ [s]) = mput (newO l) (nameO s).1 (nameO s).2 := by simp [newO]
theorem nameO_nameV (s : BA) : (nameO s).1 = (nameV s).1 ∧ (nameO s).2.getD ⟨#[]⟩ = (nameV s).2 := by
  refine ⟨rfl, ?_⟩
  unfold nameO nameV cutB
  split <;> rfl
theorem newO_newM (l : List BA) : (newO l).map (fun p => (p.1, p.2.getD ⟨#[]⟩)) = newM l := by
  have go : ∀ (l : List BA) (f : List (Bs × Option BA)), (l.foldl (fun f s => mput f (nameO s).1 (nameO s).2) f).map (fun p => (p.1, p.2.getD ⟨#[]⟩)) = l.foldl (fun f s => mput f (nameV s).1 (nameV s).2) (f.map (fun p => (p.1, p.2.getD ⟨#[]⟩))) := by
    intro l
    induction l with
    | nil => intro f; rfl
    | cons s r ih =>
      intro f
      rw [List.foldl_cons, List.foldl_cons, ih, ← mput_map (fun o : Option BA => o.getD ⟨#[]⟩) f, (nameO_nameV s).1, (nameO_nameV s).2]
  exact go l []
theorem newO_length (l : List BA) : (newO l).length ≤ l.length := by
  have h1 := newM_length l
  rw [← newO_newM, List.length_map] at h1
  exact h1
theorem newO_rises (l : List BA) : Rises (newO l) := by
  have go : ∀ (l : List BA) (f : List (Bs × Option BA)), Rises f → Rises (l.foldl (fun f s => mput f (nameO s).1 (nameO s).2) f) := by
    intro l
    induction l with
    | nil => intro f h; exact h
    | cons s r ih => intro f h; exact ih _ (mput_rises h _ _)
  exact go l [] List.Pairwise.nil
set_option maxHeartbeats 1600000 in
set_option maxRecDepth 100000 in
theorem NewMappingWithEquals {A : Option Addr} {c : Nat} (l : List BA) (w : World) (h : Kd.string.C w A l.length l) (hn : l.length ≤ 2147483647) (hl : ∀ s ∈ l, s.size ≤ 2147483647) :
    Calls Tryz.prog 76 #[.slice A l.length c] w fun e w' => ∃ f : List (Bs × PV), e = .returned (.map (some w.heap.size)) ∧ MapA w' w.heap.size f ∧ Leads w' f ∧ vs f = newO l ∧ Below w.heap.size w w' := by
  have H := Aside0.mk h
  have HL := Aside0.mk hl
  clear h hl
  have hmm := @run_makeMap Tryz.prog
  have HM0 := Aside0.mk (MapE.made Tryz.prog 9 encA w)
  have HB0 := Aside0.mk ((Below.refl _ w).alloc (Nat.le_refl _) (.map #[] 0))
  go_enter Tryz.func76, Tryz.ntmps76
  go_wp2
  go_loopw [10] (fun v10 wr => ∃ (i : Nat) (f : List (Bs × PV)), v10 = .int .i64 i ∧ i ≤ l.length ∧ Aside0 (MapA wr w.heap.size f) ∧ Aside0 (Leads wr f) ∧ Aside0 (vs f = newO (l.take i)) ∧ Aside0 (Below w.heap.size w wr)) (fun v10 _ => l.length - (intOf v10).toNat)
  case atStart => exact ⟨0, [], rfl, by omega, HM0, ⟨Leads.nil _⟩, ⟨rfl⟩, HB0⟩
  case round =>
    clear HM0 HB0
    obtain ⟨i, f, rfl, hi, HM, HLD, HV, HB⟩ := hrel
    by_cases hlt : i < l.length
    · have HC := Kd.C_below H.out HB.out
      obtain ⟨b0, o0, rfl, hb0, hc0⟩ := strs_open HC (by omega)
      have g0 := hc0 i hlt
      have q0 : (0 : Int) ≤ (i : Int) := by omega
      have q1 : (i : Int) < (l.length : Int) := by omega
      have hsz := HL.out l[i] (List.getElem_mem hlt)
      have HST := Aside0.mk (show newO (l.take (i + 1)) = mput (vs f) (nameO l[i]).1 (nameO l[i]).2 by rw [List.take_succ_eq_append_getElem hlt, newO_snoc, HV.out])
      have hml : f.length < maxLen := by
        have h1 := newO_length (l.take i)
        rw [← HV.out, vs_length, List.length_take] at h1
        unfold maxLen
        omega
      generalize l[i] = s at g0 hsz HST
      clear hc0 HC
      have hcs := cutB_size 61 s
      unfold nameO at HST
      rcases hcut : cutB 61 s with ⟨a, bb, ff⟩
      rw [hcut] at HST hcs
      have hks : a.size ≤ maxLen := by unfold maxLen; simp at hcs; omega
      cases ff
      · have CZ := Aside0.mk (zzSplitTwo1 s a bb hcut wr (by omega))
        have hss : a = s := by
          have := hcut
          unfold cutB at this
          split at this
          · injection this with _ this; injection this with _ this; cases this
          · injection this with e1 this; exact e1.symm
        subst hss
        clear hcut hcs
        go_wp2_with (first | (refine CZ.out.mono ?_; rintro e w1 ⟨bk, cp, rfl, hb1, k0⟩; have HB1 := Aside0.mk hb1; clear hb1; have HM1 := Aside0.mk (HM.out.below HB1.out)) | (at_mapUpdate; refine store_mapE (y := (none : PV)) key_u mapA_u rfl _ _ _ rfl rfl HM1.out hml rfl hks rfl ?_; intro w2 hm2 hg2; have HM2 := Aside0.mk hm2; have HG2 := Aside0.mk hg2; clear hm2 hg2))
        go_roundw
        case rel => exact ⟨i + 1, _, by go_num, by omega, HM2, ⟨((HLD.out.below HB1.out).put (fun a s e => by cases e)).grown HM1.out HG2.out⟩, ⟨by rw [HST.out, ← vs_put]; rfl⟩, ⟨pw_below_grown (hb_then HB.out HB1.out) _ (hb_then HB.out HB1.out).size HG2.out (fun k hk => by injection hk with hk; omega)⟩⟩
        case measure => simp [intOf]; omega
      · have CZ := Aside0.mk (zzSplitTwo2 s a bb hcut wr (by omega))
        clear hcut hcs
        go_wp2_with (refine CZ.out.mono ?_; rintro e w1 ⟨bk, cp, rfl, hb1, k0, k1⟩; have HB1 := Aside0.mk hb1; clear hb1; have HM1 := Aside0.mk (HM.out.below HB1.out))
        have K1 := Aside0.mk k1
        refine start_ (n := 7) (S := fun w' => w'.cell? ⟨bk, 0, none⟩ = some (.string a)) (ds := [6]) #[false, false, false, false, false, false, false] (by kernel_rfl) rfl rfl (k0) (fun hHeld => ?_)
        refine pure_ (i := 0) (N := some 19) (v := ?_) (a' := ?_) #[true, false, false, false, false, false, false] rfl rfl (by kernel_rfl) (fun _ _ _ h => h) (Or.inl ⟨by rfl, ?_⟩) ?_ ?_
        rotate_left
        · intro w'
          go_simp
          with_reducible rfl
        rotate_left
        · simp only [Act.put, List.setIfInBounds_toArray, List.set_cons_zero, List.set_cons_succ, i64_w, i32_w]
          rfl
        refine pure_ (i := 1) (N := some 20) (v := ?_) (a' := ?_) #[true, true, false, false, false, false, false] rfl rfl (by kernel_rfl) (fun _ _ _ h => h) (Or.inl ⟨by rfl, ?_⟩) ?_ ?_
        rotate_left
        · intro w'
          go_simp
          with_reducible rfl
        rotate_left
        · simp only [Act.put, List.setIfInBounds_toArray, List.set_cons_zero, List.set_cons_succ, i64_w, i32_w]
          rfl
        refine pure_ (i := 2) (N := some 21) (v := ?_) (a' := ?_) #[true, true, true, false, false, false, false] rfl rfl (by kernel_rfl) (fun _ _ _ h => h) (Or.inl ⟨by rfl, ?_⟩) ?_ ?_
        rotate_left
        · intro w'
          go_simp
          with_reducible rfl
        rotate_left
        · simp only [Act.put, List.setIfInBounds_toArray, List.set_cons_zero, List.set_cons_succ, i64_w, i32_w]
          rfl
        refine pure_ (i := 4) (N := some 23) (v := ?_) (a' := ?_) #[true, true, true, false, true, false, false] rfl rfl (by kernel_rfl) (fun _ _ _ h => h) (Or.inl ⟨by rfl, ?_⟩) ?_ ?_
        rotate_left
        · intro w'
          go_simp
          with_reducible rfl
        rotate_left
        · simp only [Act.put, List.setIfInBounds_toArray, List.set_cons_zero, List.set_cons_succ, i64_w, i32_w]
          rfl
        refine pure_ (i := 5) (N := some 24) (v := ?_) (a' := ?_) #[true, true, true, false, true, true, false] rfl rfl (by kernel_rfl) (fun _ _ _ h => h) (Or.inl ⟨by rfl, ?_⟩) ?_ ?_
        rotate_left
        · intro w'
          go_simp
          with_reducible rfl
        rotate_left
        · simp only [Act.put, List.setIfInBounds_toArray, List.set_cons_zero, List.set_cons_succ, i64_w, i32_w]
          rfl
        refine take_ (i := 3) (N := some 22) (v := ?_) (a' := ?_) #[true, true, true, true, true, true, false] rfl rfl (by kernel_rfl) (fun _ _ _ h => h) (Or.inl ⟨by rfl, ?_⟩) hHeld ?_ ?_
        rotate_left
        · intro w' s0
          go_simp
          with_reducible rfl
        rotate_left
        · simp only [Act.put, List.setIfInBounds_toArray, List.set_cons_zero, List.set_cons_succ, i64_w, i32_w]
          rfl
        refine last_ (i := 6) (N := none) #[true, true, true, true, true, true, true] rfl rfl (by kernel_rfl) (by decide) (fun K hK => ?_)
        refine store_mapE_step (w := w1.drew) (y := (some (⟨bk, 1, none⟩, bb) : PV)) key_u mapA_u rfl rfl _ _ _ rfl rfl (HM1.out.below (below_drew (Below.refl _ _))) hml rfl hks rfl ?_
        intro w2 hm2 hg2
        have HM2 := Aside0.mk hm2
        have HG2 := Aside0.mk (show w1.grownBy w2 _ from ⟨hg2.os, hg2.tape, hg2.output, hg2.size, hg2.block⟩)
        clear hm2 hg2
        refine hK.out _ _ ?_
        clear hK K
        refine done_ (by kernel_rfl) ?_
        go_wp2
        go_roundw
        case rel => exact ⟨i + 1, _, by go_num, by omega, HM2, ⟨((HLD.out.below HB1.out).put (fun a s e => by cases e; exact K1.out)).grown HM1.out HG2.out⟩, ⟨by rw [HST.out, ← vs_put]; rfl⟩, ⟨pw_below_grown (hb_then HB.out HB1.out) _ (hb_then HB.out HB1.out).size HG2.out (fun k hk => by injection hk with hk; omega)⟩⟩
        case measure => simp [intOf]; omega
    · have hall := HV.out
      rw [List.take_of_length_le (by omega)] at hall
      have HALL := Aside0.mk hall
      clear hall HV
      go_wp2
      go_ret
      exact ⟨f, rfl, HM.out, HLD.out, HALL.out, HB.out⟩
set_option maxHeartbeats 800000 in
theorem texts {A : Option Addr} {c : Nat} (l : List BA) (w : World) (h : Kd.string.C w A l.length l) (hn : l.length ≤ 17179869184) :
    Calls Tryz.prog 69 #[.slice A l.length c] w fun e w' => ∃ v, e = .returned v ∧ Kd.string.R 9 w' w.heap.size (fun _ => True) v l ∧ Below w.heap.size w w' := by
  have H := Aside0.mk h
  clear h
  go_enter Tryz.func69, Tryz.ntmps69
  go_wp2_with (at_builtin; refine Kd.R_append_rows Kd.string (w0 := w) w.heap.size rfl (.tmp 3) (.tmp 4) 22 9 (.string ⟨#[]⟩) 16 rfl Tryz.underlying22 info_str9 rfl (show 0 < 1 by decide) (by decide) (.slice (some ⟨w.heap.size, 0, none⟩) 0 0) [] l _ _ _ (fun _ => True) (fun _ => False) rfl rfl (own_empty Kd.string (Nat.le_refl _) trivial) (strs_rows (Kd.C_alloc H.out _)) (fun _ _ h => h) (fun _ h => h.elim) (fun _ _ => trivial) (below_alloc (Below.refl w.heap.size w) _) (below_alloc (Below.refl w.heap.size w) _).size (by simp only [List.length_nil]; omega) ?_; intro v5 w5 ho hb hg hat; have HO5 := Aside0.mk ho; have HB5 := Aside0.mk hb; clear ho hb hg hat)
  go_ret
  exact ⟨_, rfl, by have := HO5.out; rwa [List.nil_append] at this, HB5.out⟩
set_option maxHeartbeats 800000 in
theorem implNewEquals {A : Option Addr} {c : Nat} (l : List BA) (w : World) (h : Kd.string.C w A l.length l) (hn : l.length ≤ 2147483647) (hl : ∀ s ∈ l, s.size ≤ 2147483647) :
    Calls Tryz.prog 44 #[.slice A l.length c] w fun e w' => ∃ v, e = .returned v ∧ ko.R 95 w' w.heap.size (fun _ => True) v (toO (newO l)) ∧ Below w.heap.size w w' := by
  have CT := Aside0.mk (texts (c := c) l w h (by omega))
  have HL := Aside0.mk hl
  have hml := newO_length l
  clear h hl
  go_enter Tryz.func44, Tryz.ntmps44
  go_wp2_with fail
  refine CT.out.mono ?_
  rintro e w1 ⟨v, rfl, hR, hb⟩
  have HB1 := Aside0.mk hb
  obtain ⟨A1, c1, rfl, hle, hC⟩ := Kd.R_reads hR
  have CN := Aside0.mk (NewMappingWithEquals (c := c1) l w1 hC hn HL.out)
  clear hR hb hle hC CT
  go_wp2_with fail
  refine CN.out.mono ?_
  rintro e w2 ⟨f, rfl, hm, hld, hv, hb⟩
  have HB2 := Aside0.mk (hb_then HB1.out hb)
  have hfl : f.length ≤ 17179869184 := by have := vs_length f; rw [hv] at this; omega
  have CO := Aside0.mk (opts w1.heap.size f w2 hm hld hfl)
  rw [hv] at CO
  clear hm hld hb CN hfl hv
  go_wp2_with fail
  refine CO.out.mono ?_
  rintro e w3 ⟨v, rfl, hR, hb⟩
  have HR := Aside0.mk (Kd.R_lower hR HB2.out.size)
  have HB3 := Aside0.mk (hb_then HB2.out hb)
  clear hR hb CO
  go_wp2
  go_ret
  exact ⟨_, rfl, HR.out, HB3.out⟩
end Go.Proofs.YtididniafloogaaGreatDoor.Maps
namespace Go.Proofs.YtididniafloogaaGreatDoor.Maps
open Go.RowKit Go.Proofs.YtididniafloogaaGreatDoorW.PrintWords Go.Proofs.YtididniafloogaaGreatDoorW.PrintLast Go.Proofs.YtididniafloogaaGreatDoor.Str Go.Proofs.YtididniafloogaaGreatDoor.Kit Go.Proofs.YtididniafloogaaGreatDoor.Flat Go.Proofs.YtididniafloogaaGreatDoor.MapV Go.Proofs.YtididniafloogaaGreatDoor.Frame
set_option linter.unusedVariables false
set_option linter.unusedSimpArgs false
set_option maxHeartbeats 1600000 in
set_option maxRecDepth 100000 in
theorem optsFrom {A : Option Addr} {c : Nat} (l : List KO) (w : World) (h : ko.C w A l.length l) (hn : l.length ≤ 17179869184) :
    Calls Tryz.prog 32 #[.slice A l.length c] w fun e w' => ∃ v, e = .returned v ∧ ko.R 86 w' w.heap.size (fun _ => True) v l ∧ Below w.heap.size w w' := by
  have H := Aside0.mk h
  have HB0 := Aside0.mk (Below.refl w.heap.size w)
  clear h
  go_enter Tryz.func32, Tryz.ntmps32
  go_wp2
  go_loopw [3, 4] (fun v3 v4 wr => ∃ i : Nat, v4 = .int .i64 i ∧ i ≤ l.length ∧ Aside0 (ko.R 86 wr w.heap.size (fun _ => True) v3 (l.take i)) ∧ Aside0 (Below w.heap.size w wr)) (fun _ v4 _ => l.length - (intOf v4).toNat)
  case atStart => exact ⟨0, rfl, by omega, ⟨Kd.R_nil _ _ _ _ _⟩, HB0⟩
  case round =>
    clear HB0
    obtain ⟨i, rfl, hi, HO, HB⟩ := hrel
    by_cases hlt : i < l.length
    · obtain ⟨b0, o0, rfl, hb0, hc0⟩ := ko_open H.out (by omega)
      obtain ⟨g0, g1, g2⟩ := hc0 i hlt
      replace g0 := pw_cell_below HB.out g0
      replace g1 := pw_cell_below HB.out g1
      replace g2 := pw_cell_below HB.out g2
      have q0 : (0 : Int) ≤ (i : Int) := by omega
      have q1 : (i : Int) < (l.length : Int) := by omega
      have HT := Aside0.mk (show l.take (i + 1) = l.take i ++ [(l[i].1, l[i].2.1, l[i].2.2)] by rw [List.take_succ_eq_append_getElem hlt])
      have hln : (l.take i).length < 2199023255551 := by rw [List.length_take]; omega
      generalize l[i].1 = p at g0 HT
      generalize l[i].2.1 = q at g1 HT
      generalize l[i].2.2 = r at g2 HT
      obtain ⟨A3, c3, rfl⟩ := Kd.R_slice HO.out
      have hmin : (l.take i).length = i := by rw [List.length_take]; omega
      rw [hmin] at HO ⊢
      clear hmin
      have hne : some b0 ≠ (Value.slice A3 i c3).ownBlock := fun e => by have := Kd.R_base HO.out b0 e.symm; omega
      clear hc0
      go_wp2_with fail
      refine start_ (n := 20) (S := fun w' => w'.cell? ⟨b0, o0 + i * 3, none⟩ = some (.string p) ∧ w'.cell? ⟨b0, o0 + i * 3 + 1, none⟩ = some (.string q) ∧ w'.cell? ⟨b0, o0 + i * 3 + 2, none⟩ = some (.bool r)) (ds := []) #[false, false, false, false, false, false, false, false, false, false, false, false, false, false, false, false, false, false, false, false] (by kernel_rfl) rfl rfl ⟨g0, g1, g2⟩ (fun hHeld => ?_)
      refine pure_ (i := 0) (N := some 11) (v := ?_) (a' := ?_) #[true, false, false, false, false, false, false, false, false, false, false, false, false, false, false, false, false, false, false, false] rfl rfl (by kernel_rfl) (fun _ _ _ h => h) (Or.inl ⟨by rfl, ?_⟩) ?_ ?_
      rotate_left
      · intro w'
        go_simp
        with_reducible rfl
      rotate_left
      · simp only [Act.put, List.setIfInBounds_toArray, List.set_cons_zero, List.set_cons_succ, i64_w, i32_w]
        rfl
      refine pure_ (i := 1) (N := some 12) (v := ?_) (a' := ?_) #[true, true, false, false, false, false, false, false, false, false, false, false, false, false, false, false, false, false, false, false] rfl rfl (by kernel_rfl) (fun _ _ _ h => h) (Or.inl ⟨by rfl, ?_⟩) ?_ ?_
      rotate_left
      · intro w'
        go_simp
        with_reducible rfl
      rotate_left
      · simp only [Act.put, List.setIfInBounds_toArray, List.set_cons_zero, List.set_cons_succ, i64_w, i32_w]
        rfl
      refine pure_ (i := 2) (N := some 13) (v := ?_) (a' := ?_) #[true, true, true, false, false, false, false, false, false, false, false, false, false, false, false, false, false, false, false, false] rfl rfl (by kernel_rfl) (fun _ _ _ h => h) (Or.inl ⟨by rfl, ?_⟩) ?_ ?_
      rotate_left
      · intro w'
        go_simp
        with_reducible rfl
      rotate_left
      · simp only [Act.put, List.setIfInBounds_toArray, List.set_cons_zero, List.set_cons_succ, i64_w, i32_w]
        rfl
      refine pure_ (i := 3) (N := some 14) (v := ?_) (a' := ?_) #[true, true, true, true, false, false, false, false, false, false, false, false, false, false, false, false, false, false, false, false] rfl rfl (by kernel_rfl) (fun _ _ _ h => h) (Or.inl ⟨by rfl, ?_⟩) ?_ ?_
      rotate_left
      · intro w'
        go_simp
        with_reducible rfl
      rotate_left
      · simp only [Act.put, List.setIfInBounds_toArray, List.set_cons_zero, List.set_cons_succ, i64_w, i32_w]
        rfl
      refine pure_ (i := 4) (N := some 15) (v := ?_) (a' := ?_) #[true, true, true, true, true, false, false, false, false, false, false, false, false, false, false, false, false, false, false, false] rfl rfl (by kernel_rfl) (fun _ _ _ h => h) (Or.inl ⟨by rfl, ?_⟩) ?_ ?_
      rotate_left
      · intro w'
        go_simp
        with_reducible rfl
      rotate_left
      · simp only [Act.put, List.setIfInBounds_toArray, List.set_cons_zero, List.set_cons_succ, i64_w, i32_w]
        rfl
      refine pure_ (i := 6) (N := some 17) (v := ?_) (a' := ?_) #[true, true, true, true, true, false, true, false, false, false, false, false, false, false, false, false, false, false, false, false] rfl rfl (by kernel_rfl) (fun _ _ _ h => h) (Or.inl ⟨by rfl, ?_⟩) ?_ ?_
      rotate_left
      · intro w'
        go_simp
        with_reducible rfl
      rotate_left
      · simp only [Act.put, List.setIfInBounds_toArray, List.set_cons_zero, List.set_cons_succ, i64_w, i32_w]
        rfl
      refine pure_ (i := 7) (N := some 18) (v := ?_) (a' := ?_) #[true, true, true, true, true, false, true, true, false, false, false, false, false, false, false, false, false, false, false, false] rfl rfl (by kernel_rfl) (fun _ _ _ h => h) (Or.inl ⟨by rfl, ?_⟩) ?_ ?_
      rotate_left
      · intro w'
        go_simp
        with_reducible rfl
      rotate_left
      · simp only [Act.put, List.setIfInBounds_toArray, List.set_cons_zero, List.set_cons_succ, i64_w, i32_w]
        rfl
      refine pure_ (i := 8) (N := some 19) (v := ?_) (a' := ?_) #[true, true, true, true, true, false, true, true, true, false, false, false, false, false, false, false, false, false, false, false] rfl rfl (by kernel_rfl) (fun _ _ _ h => h) (Or.inl ⟨by rfl, ?_⟩) ?_ ?_
      rotate_left
      · intro w'
        go_simp
        with_reducible rfl
      rotate_left
      · simp only [Act.put, List.setIfInBounds_toArray, List.set_cons_zero, List.set_cons_succ, i64_w, i32_w]
        rfl
      refine pure_ (i := 9) (N := some 20) (v := ?_) (a' := ?_) #[true, true, true, true, true, false, true, true, true, true, false, false, false, false, false, false, false, false, false, false] rfl rfl (by kernel_rfl) (fun _ _ _ h => h) (Or.inl ⟨by rfl, ?_⟩) ?_ ?_
      rotate_left
      · intro w'
        go_simp
        with_reducible rfl
      rotate_left
      · simp only [Act.put, List.setIfInBounds_toArray, List.set_cons_zero, List.set_cons_succ, i64_w, i32_w]
        rfl
      refine pure_ (i := 11) (N := some 22) (v := ?_) (a' := ?_) #[true, true, true, true, true, false, true, true, true, true, false, true, false, false, false, false, false, false, false, false] rfl rfl (by kernel_rfl) (fun _ _ _ h => h) (Or.inl ⟨by rfl, ?_⟩) ?_ ?_
      rotate_left
      · intro w'
        go_simp
        with_reducible rfl
      rotate_left
      · simp only [Act.put, List.setIfInBounds_toArray, List.set_cons_zero, List.set_cons_succ, i64_w, i32_w]
        rfl
      refine pure_ (i := 12) (N := some 23) (v := ?_) (a' := ?_) #[true, true, true, true, true, false, true, true, true, true, false, true, true, false, false, false, false, false, false, false] rfl rfl (by kernel_rfl) (fun _ _ _ h => h) (Or.inl ⟨by rfl, ?_⟩) ?_ ?_
      rotate_left
      · intro w'
        go_simp
        with_reducible rfl
      rotate_left
      · simp only [Act.put, List.setIfInBounds_toArray, List.set_cons_zero, List.set_cons_succ, i64_w, i32_w]
        rfl
      refine pure_ (i := 13) (N := some 24) (v := ?_) (a' := ?_) #[true, true, true, true, true, false, true, true, true, true, false, true, true, true, false, false, false, false, false, false] rfl rfl (by kernel_rfl) (fun _ _ _ h => h) (Or.inl ⟨by rfl, ?_⟩) ?_ ?_
      rotate_left
      · intro w'
        go_simp
        with_reducible rfl
      rotate_left
      · simp only [Act.put, List.setIfInBounds_toArray, List.set_cons_zero, List.set_cons_succ, i64_w, i32_w]
        rfl
      refine pure_ (i := 14) (N := some 25) (v := ?_) (a' := ?_) #[true, true, true, true, true, false, true, true, true, true, false, true, true, true, true, false, false, false, false, false] rfl rfl (by kernel_rfl) (fun _ _ _ h => h) (Or.inl ⟨by rfl, ?_⟩) ?_ ?_
      rotate_left
      · intro w'
        go_simp
        with_reducible rfl
      rotate_left
      · simp only [Act.put, List.setIfInBounds_toArray, List.set_cons_zero, List.set_cons_succ, i64_w, i32_w]
        rfl
      refine take_ (i := 5) (N := some 16) (v := ?_) (a' := ?_) #[true, true, true, true, true, true, true, true, true, true, false, true, true, true, true, false, false, false, false, false] rfl rfl (by kernel_rfl) (fun _ _ _ h => h) (Or.inl ⟨by rfl, ?_⟩) hHeld ?_ ?_
      rotate_left
      · rintro w' ⟨s0, s1, s2⟩
        go_simp
        with_reducible rfl
      rotate_left
      · simp only [Act.put, List.setIfInBounds_toArray, List.set_cons_zero, List.set_cons_succ, i64_w, i32_w]
        rfl
      refine take_ (i := 10) (N := some 21) (v := ?_) (a' := ?_) #[true, true, true, true, true, true, true, true, true, true, true, true, true, true, true, false, false, false, false, false] rfl rfl (by kernel_rfl) (fun _ _ _ h => h) (Or.inl ⟨by rfl, ?_⟩) hHeld ?_ ?_
      rotate_left
      · rintro w' ⟨s0, s1, s2⟩
        go_simp
        with_reducible rfl
      rotate_left
      · simp only [Act.put, List.setIfInBounds_toArray, List.set_cons_zero, List.set_cons_succ, i64_w, i32_w]
        rfl
      refine take_ (i := 15) (N := some 26) (v := ?_) (a' := ?_) #[true, true, true, true, true, true, true, true, true, true, true, true, true, true, true, true, false, false, false, false] rfl rfl (by kernel_rfl) (fun _ _ _ h => h) (Or.inl ⟨by rfl, ?_⟩) hHeld ?_ ?_
      rotate_left
      · rintro w' ⟨s0, s1, s2⟩
        go_simp
        with_reducible rfl
      rotate_left
      · simp only [Act.put, List.setIfInBounds_toArray, List.set_cons_zero, List.set_cons_succ, i64_w, i32_w]
        rfl
      refine pure_ (i := 16) (N := some 27) (v := ?_) (a' := ?_) #[true, true, true, true, true, true, true, true, true, true, true, true, true, true, true, true, true, false, false, false] rfl rfl (by kernel_rfl) (fun _ _ _ h => h) (Or.inl ⟨by rfl, ?_⟩) ?_ ?_
      rotate_left
      · intro w'
        go_simp
        with_reducible rfl
      rotate_left
      · simp only [Act.put, List.setIfInBounds_toArray, List.set_cons_zero, List.set_cons_succ, i64_w, i32_w]
        rfl
      refine one_ (i := 17) (N := some 28) #[true, true, true, true, true, true, true, true, true, true, true, true, true, true, true, true, true, true, false, false] rfl rfl (by kernel_rfl) (by decide) (fun K hK => ?_)
      refine value_ (w1 := ?_) (v := ?_) (by rfl) rfl ?_ ?_
      rotate_left 2
      · go_simp
        constructor
        · rfl
        · rfl
      refine hK.out _ _ ⟨pw_cell_below (below_alloc (Below.refl _ _) _) hHeld.1, pw_cell_below (below_alloc (Below.refl _ _) _) hHeld.2.1, pw_cell_below (below_alloc (Below.refl _ _) _) hHeld.2.2⟩ (fun hHeld => ?_)
      clear hK K
      refine norm_ (a' := ?_) ?_ ?_
      rotate_left
      · show Act.put _ (some 28) _ = _
        simp only [Act.put, List.setIfInBounds_toArray, List.set_cons_zero, List.set_cons_succ, i64_w, i32_w]
        rfl
      refine one_ (i := 18) (N := some 29) #[true, true, true, true, true, true, true, true, true, true, true, true, true, true, true, true, true, true, true, false] rfl rfl (by kernel_rfl) (by decide) (fun K hK => ?_)
      refine append_opt_step (w0 := w) (ok := fun _ => True) rfl (fun _ _ => trivial) 40 86 Tryz.underlying40 info_sopt (.tmp 11) (.tmp 28) rfl rfl rfl (Kd.R_drew HO.out) (below_drew HB.out) hln ?_
      intro v1 w5 ho hb hg
      have HO5 := Aside0.mk ho
      have HB5 := Aside0.mk hb
      have k0 := cell_grown hg (show wr.drew.cell? _ = _ from g0) hne
      have k1 := cell_grown hg (show wr.drew.cell? _ = _ from g1) hne
      have k2 := cell_grown hg (show wr.drew.cell? _ = _ from g2) hne
      clear ho hb hg
      refine hK.out _ _ ⟨k0, k1, k2⟩ (fun hHeld => ?_)
      clear hK K
      refine norm_ (a' := ?_) ?_ ?_
      rotate_left
      · show Act.put _ (some 29) _ = _
        simp only [Act.put, List.setIfInBounds_toArray, List.set_cons_zero, List.set_cons_succ, i64_w, i32_w]
        rfl
      refine pure_ (i := 19) (N := some 3) (v := ?_) (a' := ?_) #[true, true, true, true, true, true, true, true, true, true, true, true, true, true, true, true, true, true, true, true] rfl rfl (by kernel_rfl) (fun _ _ _ h => h) (Or.inl ⟨by rfl, ?_⟩) ?_ ?_
      rotate_left
      · intro w'
        go_simp
        with_reducible rfl
      rotate_left
      · simp only [Act.put, List.setIfInBounds_toArray, List.set_cons_zero, List.set_cons_succ, i64_w, i32_w]
        rfl
      refine done_ (by kernel_rfl) ?_
      go_wp2
      go_roundw
      case rel => exact ⟨i + 1, by go_num, by omega, ⟨by rw [HT.out]; exact HO5.out⟩, HB5⟩
      case measure => simp [intOf]; omega
    · have hall := HO.out
      rw [List.take_of_length_le (by omega)] at hall
      have HALL := Aside0.mk hall
      clear hall HO
      go_wp2
      go_ret
      exact ⟨_, rfl, HALL.out, HB.out⟩
theorem eq_sopt (d : Nat) (x0 x1 y0 y1 : ByteArray) (x2 y2 : Bool) (w : World) :
    (Op.equalIn (d + 2) 86 (.agg #[.string x0, .string x1, .bool x2]) (.agg #[.string y0, .string y1, .bool y2])).run Tryz.prog w = .ok (x0.toList == y0.toList && (x1.toList == y1.toList && (x2 == y2))) w := by
  refine eqA_of Tryz.underlying86 (by kernel_rfl) ?_
  refine eqf_cons (by rfl) (by go_simp; rfl) (by go_simp; rfl) (by go_simp) ?_
  refine eqf_cons (by rfl) (by go_simp; rfl) (by go_simp; rfl) (by go_simp) ?_
  exact eqf_last (by rfl) (by go_simp; rfl) (by go_simp; rfl) (by go_simp)
attribute [local go_sem high] eq_sopt
set_option maxHeartbeats 1600000 in
set_option maxRecDepth 100000 in
theorem sameOpts {A B : Option Addr} {c d : Nat} (l m : List KO) (w : World) (h : ko.C w A l.length l) (k : ko.C w B m.length m) (hn : l.length ≤ 17179869184) :
    Calls Tryz.prog 31 #[.slice A l.length c, .slice B m.length d] w fun e w' => e = .returned (.bool (decide (l = m))) ∧ Below w.heap.size w w' := by
  have H := Aside0.mk h
  have K := Aside0.mk k
  have HB0 := Aside0.mk (Below.refl w.heap.size w)
  clear h k
  by_cases hlm : l.length = m.length
  · have hne : ((l.length : Int) != (m.length : Int)) = false := by rw [hlm]; simp
    have HLM := Aside0.mk hlm
    clear hlm
    go_enter Tryz.func31, Tryz.ntmps31
    go_wp2
    go_loopw [5] (fun v5 wr => ∃ i : Nat, v5 = .int .i64 i ∧ i ≤ l.length ∧ Aside0 (l.take i = m.take i) ∧ Aside0 (Below w.heap.size w wr)) (fun v5 _ => l.length - (intOf v5).toNat)
    case atStart => exact ⟨0, rfl, by omega, ⟨rfl⟩, HB0⟩
    case round =>
      clear HB0
      obtain ⟨i, rfl, hi, HT, HB⟩ := hrel
      by_cases hlt : i < l.length
      · have hlm' : i < m.length := by have := HLM.out; omega
        obtain ⟨b0, o0, rfl, hb0, hc0⟩ := ko_open H.out (by omega)
        obtain ⟨b1, o1, rfl, hb1, hc1⟩ := ko_open K.out (by omega)
        obtain ⟨g0, g1, g2⟩ := hc0 i hlt
        obtain ⟨k0, k1, k2⟩ := hc1 i hlm'
        replace g0 := pw_cell_below HB.out g0
        replace g1 := pw_cell_below HB.out g1
        replace g2 := pw_cell_below HB.out g2
        replace k0 := pw_cell_below HB.out k0
        replace k1 := pw_cell_below HB.out k1
        replace k2 := pw_cell_below HB.out k2
        have q0 : (0 : Int) ≤ (i : Int) := by omega
        have q1 : (i : Int) < (l.length : Int) := by omega
        have q2 : (i : Int) < (m.length : Int) := by omega
        have HE := Aside0.mk (show l[i] = m[i] → l.take (i + 1) = m.take (i + 1) from fun e => by
          rw [List.take_succ_eq_append_getElem hlt, List.take_succ_eq_append_getElem hlm', HT.out, e])
        have HN := Aside0.mk (show ¬ l[i] = m[i] → decide (l = m) = false from fun e => decide_eq_false (fun h => e (by subst h; rfl)))
        generalize l[i] = x at g0 g1 g2 HE HN
        generalize m[i] = y at k0 k1 k2 HE HN
        obtain ⟨x1, x2, x3⟩ := x
        obtain ⟨y1, y2, y3⟩ := y
        clear hc0 hc1
        go_wp2_with fail
        go_quiet (fail)
        have HD := Aside0.mk (pw_below_drewN HB.out nq)
        have HS := Aside0.mk (show (x1.toList == y1.toList && (x2.toList == y2.toList && (x3 == y3))) = decide ((x1, x2, x3) = (y1, y2, y3)) by
          rw [Bool.eq_iff_iff, decide_eq_true_iff, Bool.and_eq_true, Bool.and_eq_true, beq_iff_eq, beq_iff_eq, beq_iff_eq, toList_lb, toList_lb, toList_lb, toList_lb, Prod.mk.injEq, Prod.mk.injEq]
          exact ⟨fun ⟨h1, h2, h3⟩ => ⟨lb_inj h1, lb_inj h2, h3⟩, fun ⟨h1, h2, h3⟩ => ⟨by rw [h1], by rw [h2], h3⟩⟩)
        by_cases hxy : ((x1, x2, x3) : KO) = (y1, y2, y3)
        · have Y := Aside0.mk (HE.out hxy)
          have hs : (!(x1.toList == y1.toList) || (!(x2.toList == y2.toList) || !(x3 == y3))) = false := by rw [← Bool.not_and, ← Bool.not_and, HS.out, decide_eq_true hxy]; rfl
          simp only [hs]
          clear HE HN HS hs hxy
          go_wp2
          go_roundw
          case rel => exact ⟨i + 1, by go_num, by omega, Y, HD⟩
          case measure => simp [intOf]; omega
        · have Y := Aside0.mk (HN.out hxy)
          have hs : (!(x1.toList == y1.toList) || (!(x2.toList == y2.toList) || !(x3 == y3))) = true := by rw [← Bool.not_and, ← Bool.not_and, HS.out, decide_eq_false hxy]; rfl
          simp only [hs]
          clear HE HN HS hs hxy
          go_wp2
          go_ret
          exact ⟨by rw [Y.out]; rfl, HD.out⟩
      · have hall := HT.out
        rw [List.take_of_length_le (by omega), List.take_of_length_le (by have := HLM.out; omega)] at hall
        have Y := Aside0.mk (show decide (l = m) = true from decide_eq_true hall)
        clear hall HT
        go_wp2
        go_ret
        exact ⟨by rw [Y.out]; rfl, HB.out⟩
  · have hne : ((l.length : Int) != (m.length : Int)) = true := by simpa using (show ¬ (l.length : Int) = (m.length : Int) by omega)
    have Y := Aside0.mk (show decide (l = m) = false from decide_eq_false (fun e => hlm (by rw [e])))
    clear hlm
    go_enter Tryz.func31, Tryz.ntmps31
    go_wp2
    go_ret
    exact ⟨by rw [Y.out]; rfl, HB0.out⟩
set_option maxHeartbeats 1600000 in
set_option maxRecDepth 100000 in
theorem specOpts {A : Option Addr} {c : Nat} (l : List (BA × BA)) (w : World) (h : kp.C w A l.length l) (hn : l.length ≤ 17179869184) :
    Calls Tryz.prog 47 #[.slice A l.length c] w fun e w' => ∃ v, e = .returned v ∧ ko.R 86 w' w.heap.size (fun _ => True) v (l.map fun p => (p.1, p.2, true)) ∧ Below w.heap.size w w' := by
  have H := Aside0.mk h
  have HB0 := Aside0.mk (Below.refl w.heap.size w)
  clear h
  go_enter Tryz.func47, Tryz.ntmps47
  go_wp2
  go_loopw [3, 4] (fun v3 v4 wr => ∃ i : Nat, v4 = .int .i64 i ∧ i ≤ l.length ∧ Aside0 (ko.R 86 wr w.heap.size (fun _ => True) v3 ((l.take i).map fun p => (p.1, p.2, true))) ∧ Aside0 (Below w.heap.size w wr)) (fun _ v4 _ => l.length - (intOf v4).toNat)
  case atStart => exact ⟨0, rfl, by omega, ⟨Kd.R_nil _ _ _ _ _⟩, HB0⟩
  case round =>
    clear HB0
    obtain ⟨i, rfl, hi, HO, HB⟩ := hrel
    by_cases hlt : i < l.length
    · obtain ⟨b0, o0, rfl, hb0, hc0⟩ := kp_open H.out (by omega)
      obtain ⟨g0, g1⟩ := hc0 i hlt
      replace g0 := pw_cell_below HB.out g0
      replace g1 := pw_cell_below HB.out g1
      have q0 : (0 : Int) ≤ (i : Int) := by omega
      have q1 : (i : Int) < (l.length : Int) := by omega
      have HT := Aside0.mk (show (l.take (i + 1)).map (fun p => ((p.1, p.2, true) : KO)) = (l.take i).map (fun p => (p.1, p.2, true)) ++ [(l[i].1, l[i].2, true)] by rw [List.take_succ_eq_append_getElem hlt, List.map_append]; rfl)
      have hmin : ((l.take i).map (fun p => ((p.1, p.2, true) : KO))).length = i := by rw [List.length_map, List.length_take]; omega
      have hln : ((l.take i).map (fun p => ((p.1, p.2, true) : KO))).length < 2199023255551 := by omega
      generalize l[i].1 = p at g0 HT
      generalize l[i].2 = q at g1 HT
      obtain ⟨A3, c3, rfl⟩ := Kd.R_slice HO.out
      rw [hmin] at HO ⊢
      clear hmin
      have hne : some b0 ≠ (Value.slice A3 i c3).ownBlock := fun e => by have := Kd.R_base HO.out b0 e.symm; omega
      clear hc0
      go_wp2_with fail
      refine start_ (n := 15) (S := fun w' => w'.cell? ⟨b0, o0 + i * 2, none⟩ = some (.string p) ∧ w'.cell? ⟨b0, o0 + i * 2 + 1, none⟩ = some (.string q)) (ds := []) #[false, false, false, false, false, false, false, false, false, false, false, false, false, false, false] (by kernel_rfl) rfl rfl ⟨g0, g1⟩ (fun hHeld => ?_)
      refine pure_ (i := 0) (N := some 11) (v := ?_) (a' := ?_) #[true, false, false, false, false, false, false, false, false, false, false, false, false, false, false] rfl rfl (by kernel_rfl) (fun _ _ _ h => h) (Or.inl ⟨by rfl, ?_⟩) ?_ ?_
      rotate_left
      · intro w'
        go_simp
        with_reducible rfl
      rotate_left
      · simp only [Act.put, List.setIfInBounds_toArray, List.set_cons_zero, List.set_cons_succ, i64_w, i32_w]
        rfl
      refine pure_ (i := 1) (N := some 12) (v := ?_) (a' := ?_) #[true, true, false, false, false, false, false, false, false, false, false, false, false, false, false] rfl rfl (by kernel_rfl) (fun _ _ _ h => h) (Or.inl ⟨by rfl, ?_⟩) ?_ ?_
      rotate_left
      · intro w'
        go_simp
        with_reducible rfl
      rotate_left
      · simp only [Act.put, List.setIfInBounds_toArray, List.set_cons_zero, List.set_cons_succ, i64_w, i32_w]
        rfl
      refine pure_ (i := 2) (N := some 13) (v := ?_) (a' := ?_) #[true, true, true, false, false, false, false, false, false, false, false, false, false, false, false] rfl rfl (by kernel_rfl) (fun _ _ _ h => h) (Or.inl ⟨by rfl, ?_⟩) ?_ ?_
      rotate_left
      · intro w'
        go_simp
        with_reducible rfl
      rotate_left
      · simp only [Act.put, List.setIfInBounds_toArray, List.set_cons_zero, List.set_cons_succ, i64_w, i32_w]
        rfl
      refine pure_ (i := 3) (N := some 14) (v := ?_) (a' := ?_) #[true, true, true, true, false, false, false, false, false, false, false, false, false, false, false] rfl rfl (by kernel_rfl) (fun _ _ _ h => h) (Or.inl ⟨by rfl, ?_⟩) ?_ ?_
      rotate_left
      · intro w'
        go_simp
        with_reducible rfl
      rotate_left
      · simp only [Act.put, List.setIfInBounds_toArray, List.set_cons_zero, List.set_cons_succ, i64_w, i32_w]
        rfl
      refine pure_ (i := 4) (N := some 15) (v := ?_) (a' := ?_) #[true, true, true, true, true, false, false, false, false, false, false, false, false, false, false] rfl rfl (by kernel_rfl) (fun _ _ _ h => h) (Or.inl ⟨by rfl, ?_⟩) ?_ ?_
      rotate_left
      · intro w'
        go_simp
        with_reducible rfl
      rotate_left
      · simp only [Act.put, List.setIfInBounds_toArray, List.set_cons_zero, List.set_cons_succ, i64_w, i32_w]
        rfl
      refine pure_ (i := 6) (N := some 17) (v := ?_) (a' := ?_) #[true, true, true, true, true, false, true, false, false, false, false, false, false, false, false] rfl rfl (by kernel_rfl) (fun _ _ _ h => h) (Or.inl ⟨by rfl, ?_⟩) ?_ ?_
      rotate_left
      · intro w'
        go_simp
        with_reducible rfl
      rotate_left
      · simp only [Act.put, List.setIfInBounds_toArray, List.set_cons_zero, List.set_cons_succ, i64_w, i32_w]
        rfl
      refine pure_ (i := 7) (N := some 18) (v := ?_) (a' := ?_) #[true, true, true, true, true, false, true, true, false, false, false, false, false, false, false] rfl rfl (by kernel_rfl) (fun _ _ _ h => h) (Or.inl ⟨by rfl, ?_⟩) ?_ ?_
      rotate_left
      · intro w'
        go_simp
        with_reducible rfl
      rotate_left
      · simp only [Act.put, List.setIfInBounds_toArray, List.set_cons_zero, List.set_cons_succ, i64_w, i32_w]
        rfl
      refine pure_ (i := 8) (N := some 19) (v := ?_) (a' := ?_) #[true, true, true, true, true, false, true, true, true, false, false, false, false, false, false] rfl rfl (by kernel_rfl) (fun _ _ _ h => h) (Or.inl ⟨by rfl, ?_⟩) ?_ ?_
      rotate_left
      · intro w'
        go_simp
        with_reducible rfl
      rotate_left
      · simp only [Act.put, List.setIfInBounds_toArray, List.set_cons_zero, List.set_cons_succ, i64_w, i32_w]
        rfl
      refine pure_ (i := 9) (N := some 20) (v := ?_) (a' := ?_) #[true, true, true, true, true, false, true, true, true, true, false, false, false, false, false] rfl rfl (by kernel_rfl) (fun _ _ _ h => h) (Or.inl ⟨by rfl, ?_⟩) ?_ ?_
      rotate_left
      · intro w'
        go_simp
        with_reducible rfl
      rotate_left
      · simp only [Act.put, List.setIfInBounds_toArray, List.set_cons_zero, List.set_cons_succ, i64_w, i32_w]
        rfl
      refine take_ (i := 5) (N := some 16) (v := ?_) (a' := ?_) #[true, true, true, true, true, true, true, true, true, true, false, false, false, false, false] rfl rfl (by kernel_rfl) (fun _ _ _ h => h) (Or.inl ⟨by rfl, ?_⟩) hHeld ?_ ?_
      rotate_left
      · rintro w' ⟨s0, s1⟩
        go_simp
        with_reducible rfl
      rotate_left
      · simp only [Act.put, List.setIfInBounds_toArray, List.set_cons_zero, List.set_cons_succ, i64_w, i32_w]
        rfl
      refine take_ (i := 10) (N := some 21) (v := ?_) (a' := ?_) #[true, true, true, true, true, true, true, true, true, true, true, false, false, false, false] rfl rfl (by kernel_rfl) (fun _ _ _ h => h) (Or.inl ⟨by rfl, ?_⟩) hHeld ?_ ?_
      rotate_left
      · rintro w' ⟨s0, s1⟩
        go_simp
        with_reducible rfl
      rotate_left
      · simp only [Act.put, List.setIfInBounds_toArray, List.set_cons_zero, List.set_cons_succ, i64_w, i32_w]
        rfl
      refine pure_ (i := 11) (N := some 22) (v := ?_) (a' := ?_) #[true, true, true, true, true, true, true, true, true, true, true, true, false, false, false] rfl rfl (by kernel_rfl) (fun _ _ _ h => h) (Or.inl ⟨by rfl, ?_⟩) ?_ ?_
      rotate_left
      · intro w'
        go_simp
        with_reducible rfl
      rotate_left
      · simp only [Act.put, List.setIfInBounds_toArray, List.set_cons_zero, List.set_cons_succ, i64_w, i32_w]
        rfl
      refine one_ (i := 12) (N := some 23) #[true, true, true, true, true, true, true, true, true, true, true, true, true, false, false] rfl rfl (by kernel_rfl) (by decide) (fun K hK => ?_)
      refine value_ (w1 := ?_) (v := ?_) (by rfl) rfl ?_ ?_
      rotate_left 2
      · go_simp
        constructor
        · rfl
        · rfl
      refine hK.out _ _ ⟨pw_cell_below (below_alloc (Below.refl _ _) _) hHeld.1, pw_cell_below (below_alloc (Below.refl _ _) _) hHeld.2⟩ (fun hHeld => ?_)
      clear hK K
      refine norm_ (a' := ?_) ?_ ?_
      rotate_left
      · show Act.put _ (some 23) _ = _
        simp only [Act.put, List.setIfInBounds_toArray, List.set_cons_zero, List.set_cons_succ, i64_w, i32_w]
        rfl
      refine one_ (i := 13) (N := some 24) #[true, true, true, true, true, true, true, true, true, true, true, true, true, true, false] rfl rfl (by kernel_rfl) (by decide) (fun K hK => ?_)
      refine append_opt_step (w0 := w) (ok := fun _ => True) rfl (fun _ _ => trivial) 40 86 Tryz.underlying40 info_sopt (.tmp 11) (.tmp 23) rfl rfl rfl (Kd.R_drew HO.out) (below_drew HB.out) hln ?_
      intro v1 w5 ho hb hg
      have HO5 := Aside0.mk ho
      have HB5 := Aside0.mk hb
      have k0 := cell_grown hg (show wr.drew.cell? _ = _ from g0) hne
      have k1 := cell_grown hg (show wr.drew.cell? _ = _ from g1) hne
      clear ho hb hg
      refine hK.out _ _ ⟨k0, k1⟩ (fun hHeld => ?_)
      clear hK K
      refine norm_ (a' := ?_) ?_ ?_
      rotate_left
      · show Act.put _ (some 24) _ = _
        simp only [Act.put, List.setIfInBounds_toArray, List.set_cons_zero, List.set_cons_succ, i64_w, i32_w]
        rfl
      refine pure_ (i := 14) (N := some 3) (v := ?_) (a' := ?_) #[true, true, true, true, true, true, true, true, true, true, true, true, true, true, true] rfl rfl (by kernel_rfl) (fun _ _ _ h => h) (Or.inl ⟨by rfl, ?_⟩) ?_ ?_
      rotate_left
      · intro w'
        go_simp
        with_reducible rfl
      rotate_left
      · simp only [Act.put, List.setIfInBounds_toArray, List.set_cons_zero, List.set_cons_succ, i64_w, i32_w]
        rfl
      refine done_ (by kernel_rfl) ?_
      go_wp2
      go_roundw
      case rel => exact ⟨i + 1, by go_num, by omega, ⟨by rw [HT.out]; exact HO5.out⟩, HB5⟩
      case measure => simp [intOf]; omega
    · have hall := HO.out
      rw [List.take_of_length_le (by omega)] at hall
      have HALL := Aside0.mk hall
      clear hall HO
      go_wp2
      go_ret
      exact ⟨_, rfl, HALL.out, HB.out⟩
def fullO (l : List KO) : List KO := l.filter fun p => p.2.2
theorem fullO_snoc (l : List KO) (p q : BA) (r : Bool) : fullO (l ++ [(p, q, r)]) = fullO l ++ (if r then [(p, q, r)] else []) := by
  cases r <;> simp [fullO]
set_option maxHeartbeats 1600000 in
set_option maxRecDepth 100000 in
theorem Full {A : Option Addr} {c : Nat} (l : List KO) (w : World) (h : ko.C w A l.length l) (hn : l.length ≤ 17179869184) :
    Calls Tryz.prog 33 #[.slice A l.length c] w fun e w' => ∃ v, e = .returned v ∧ ko.R 86 w' w.heap.size (fun _ => True) v (fullO l) ∧ Below w.heap.size w w' := by
  have H := Aside0.mk h
  have HB0 := Aside0.mk (Below.refl w.heap.size w)
  clear h
  go_enter Tryz.func33, Tryz.ntmps33
  go_wp2
  go_loopw [3, 4] (fun v3 v4 wr => ∃ i : Nat, v4 = .int .i64 i ∧ i ≤ l.length ∧ Aside0 (ko.R 86 wr w.heap.size (fun _ => True) v3 (fullO (l.take i))) ∧ Aside0 (Below w.heap.size w wr)) (fun _ v4 _ => l.length - (intOf v4).toNat)
  case atStart => exact ⟨0, rfl, by omega, ⟨Kd.R_nil _ _ _ _ _⟩, HB0⟩
  case round =>
    clear HB0
    obtain ⟨i, rfl, hi, HO, HB⟩ := hrel
    by_cases hlt : i < l.length
    · obtain ⟨b0, o0, rfl, hb0, hc0⟩ := ko_open H.out (by omega)
      obtain ⟨g0, g1, g2⟩ := hc0 i hlt
      replace g0 := pw_cell_below HB.out g0
      replace g1 := pw_cell_below HB.out g1
      replace g2 := pw_cell_below HB.out g2
      have q0 : (0 : Int) ≤ (i : Int) := by omega
      have q1 : (i : Int) < (l.length : Int) := by omega
      have HT := Aside0.mk (show fullO (l.take (i + 1)) = fullO (l.take i) ++ (if l[i].2.2 then [(l[i].1, l[i].2.1, l[i].2.2)] else []) by
        rw [List.take_succ_eq_append_getElem hlt]
        exact fullO_snoc (l.take i) l[i].1 l[i].2.1 l[i].2.2)
      have hln : (fullO (l.take i)).length < 2199023255551 := by
        have h1 : (fullO (l.take i)).length ≤ (l.take i).length := List.length_filter_le _ _
        rw [List.length_take] at h1
        omega
      generalize l[i].1 = p at g0 HT
      generalize l[i].2.1 = q at g1 HT
      generalize l[i].2.2 = r at g2 HT
      obtain ⟨A3, c3, rfl⟩ := Kd.R_slice HO.out
      have hne : some b0 ≠ (Value.slice A3 (fullO (l.take i)).length c3).ownBlock := fun e => by have := Kd.R_base HO.out b0 e.symm; omega
      clear hc0
      cases r
      · go_wp2
        go_roundw
        case rel => exact ⟨i + 1, by go_num, by omega, ⟨by rw [HT.out]; simpa using HO.out⟩, HB⟩
        case measure => simp [intOf]; omega
      · go_wp2_with (at_builtin; refine append_opt (w0 := w) (ok := fun _ => True) (fun _ _ => trivial) 40 86 Tryz.underlying40 info_sopt (.tmp 16) (.tmp 21) rfl rfl rfl rfl HO.out HB.out hln ?_; intro v1 w5 ho hb hg; have HO5 := Aside0.mk ho; have HB5 := Aside0.mk hb; clear ho hb hg)
        go_roundw
        case rel => exact ⟨i + 1, by go_num, by omega, ⟨by rw [HT.out]; simpa using HO5.out⟩, HB5⟩
        case measure => simp [intOf]; omega
    · have hall := HO.out
      rw [List.take_of_length_le (by omega)] at hall
      have HALL := Aside0.mk hall
      clear hall HO
      go_wp2
      go_ret
      exact ⟨_, rfl, HALL.out, HB.out⟩
set_option maxHeartbeats 800000 in
theorem AllFull {A : Option Addr} {c : Nat} (l : List KO) (w : World) (h : ko.C w A l.length l) (hn : l.length ≤ 17179869184) :
    Calls Tryz.prog 48 #[.slice A l.length c] w fun e w' => e = .returned (.bool ((fullO l).length == l.length)) ∧ Below w.heap.size w w' := by
  have CF := Aside0.mk (Full (c := c) l w h hn)
  clear h
  go_enter Tryz.func48, Tryz.ntmps48
  go_wp2_with fail
  refine CF.out.mono ?_
  rintro e w1 ⟨v, rfl, hr, hb⟩
  have HB := Aside0.mk hb
  obtain ⟨A1, c1, rfl⟩ := Kd.R_slice hr
  clear hr hb CF
  have he : (((fullO l).length : Int) == (l.length : Int)) = ((fullO l).length == l.length) := by
    rw [Bool.eq_iff_iff, beq_iff_eq, beq_iff_eq]
    omega
  go_wp2
  go_ret
  exact ⟨by rw [← he]; rfl, HB.out⟩
end Go.Proofs.YtididniafloogaaGreatDoor.Maps
namespace Go.Proofs.YtididniafloogaaGreatDoor.Maps
open Go.RowKit Go.Proofs.YtididniafloogaaGreatDoorW.PrintWords Go.Proofs.YtididniafloogaaGreatDoorW.PrintLast Go.Proofs.YtididniafloogaaGreatDoor.Str Go.Proofs.YtididniafloogaaGreatDoor.Kit Go.Proofs.YtididniafloogaaGreatDoor.Flat Go.Proofs.YtididniafloogaaGreatDoor.MapV Go.Proofs.YtididniafloogaaGreatDoor.Frame
set_option linter.unusedVariables false
set_option linter.unusedSimpArgs false
/-- each name with its value -/
def allO (f : List (Bs × BA)) : List (Bs × Option BA) := f.map fun p => (p.1, some p.2)
theorem allO_length (f : List (Bs × BA)) : (allO f).length = f.length := List.length_map _
set_option maxHeartbeats 3200000 in
set_option maxRecDepth 100000 in
theorem ToEquals (b : Nat) (g : List (Bs × BA)) (w : World) (h : MapS w b g) (hn : g.length ≤ 17179869184) :
    Calls Tryz.prog 78 #[.map (some b)] w fun e w' => ∃ f : List (Bs × PV), e = .returned (.map (some w.heap.size)) ∧ MapA w' w.heap.size f ∧ Leads w' f ∧ vs f = allO g ∧ Below w.heap.size w w' := by
  have hmm := @run_makeMap Tryz.prog
  have HM := Aside0.mk (h.below ((Below.refl _ w).alloc (Nat.le_refl _) (.map #[] 0)))
  have HMA := Aside0.mk (MapE.made Tryz.prog 9 encA w)
  have HB := Aside0.mk ((Below.refl _ w).alloc (Nat.le_refl _) (.map #[] 0))
  have HRS := Aside0.mk (MapE.rises (Go.Maps.string_keyed key_u) h)
  have hbl := h.lt
  clear h
  go_enter Tryz.func78, Tryz.ntmps78
  go_wp2_with (at_range; refine range_mapE key_u Tryz.underlying77 rfl _ rfl rfl HM.out ?_; intro w0 hrg0 hg0 hs0; have HR0 := Aside0.mk hrg0; have HG0 := Aside0.mk hg0; have HS0 := Aside0.mk hs0; clear hrg0 hg0 hs0)
  go_frame
  rw [World.size_alloc] at HR0 HS0
  rw [World.size_alloc]
  have HB0 := Aside0.mk (pw_below_grown HB.out none (by rw [World.size_alloc]; omega) HG0.out (fun k hk => by cases hk))
  have HM0 := Aside0.mk (MapE.grown HMA.out HG0.out (by simp))
  clear HG0 HB HM HMA HS0
  go_loopw [] (fun wr => ∃ (dn lf : List (Bs × BA)) (f : List (Bs × PV)), Aside0 (Ranges Tryz.prog 9 Value.string wr b (w.heap.size + 1) g lf) ∧ Aside0 (MapA wr w.heap.size f) ∧ Aside0 (Leads wr f) ∧ Aside0 (vs f = allO (fitM dn)) ∧ Aside0 ((dn ++ lf).Perm g) ∧ Aside0 (Below w.heap.size w wr)) (fun wr => wr.rangeLeft b (w.heap.size + 1))
  case atStart => exact ⟨[], g, [], HR0, HM0, ⟨Leads.nil _⟩, ⟨rfl⟩, ⟨List.Perm.refl _⟩, HB0⟩
  case round =>
    clear HR0 HM0 HB0
    obtain ⟨dn, lf, f, HR, HM, HLD, HV, HP, HB⟩ := hrel
    have hrl := HR.out.lt
    have hml : f.length < maxLen := by
      have h1 := vs_length f
      have h2 := fitM_length dn
      have h3 := HP.out.length_eq
      rw [HV.out, allO_length] at h1
      rw [List.length_append] at h3
      unfold maxLen
      omega
    go_wp2_with (first | (at_next; refine next_mapA key_u rfl _ rfl rfl HR.out (fun hd => ?_) (fun x c w2 hx hen => ?_); rotate_left; (have hks := hx.out.2.1); (have hsz2 : w.heap.size + 1 < w2.heap.size := by have := hx.out.2.2.2.2.2; omega); (have HM2 := Aside0.mk ((HM.out.grown hx.out.2.2.2.2.1 (fun e => by injection e with e; omega)).below ((Below.refl _ w2).alloc (Nat.le_refl _) (.cells #[.string c] 9)))); (have HLD2 := Aside0.mk (HLD.out.next HR.out hx.out.2.2.2.2.1)); (have HB2 := Aside0.mk (pw_below_grown HB.out (some (w.heap.size + 1)) HB.out.size hx.out.2.2.2.2.1 (fun k hk => by injection hk with hk; omega)))) | (at_mapUpdate; refine store_mapE (enc := encA) (y := (some (⟨w2.heap.size, 0, none⟩, c) : PV)) key_u mapA_u rfl _ _ _ rfl rfl HM2.out hml rfl hks rfl ?_; intro w4 hm4 hg4; have HM4 := Aside0.mk hm4; have HG4 := Aside0.mk hg4; clear hm4 hg4))
    · have hbw := (Below.refl _ w2).alloc (Nat.le_refl _) (.cells #[.string c] 9)
      have HBW := Aside0.mk hbw
      have HCL := Aside0.mk (show (w2.alloc (.cells #[.string c] 9)).cell? ⟨w2.heap.size, 0, none⟩ = some (.string c) from cb_cell (i := 0) (cb_new w2 _) rfl)
      clear hbw
      have hpm : lf.Perm ((lb x, c) :: mdel lf (lb x)) := rises_take ((HRS.out.sublist HR.out.sub).imp (fun {p q} h => lt_ne h)) hx.out.1
      simp only [Act.put]
      go_roundw
      case rel =>
        refine ⟨dn ++ [(lb x, c)], mdel lf (lb x), _, ⟨?_⟩, HM4, ⟨?_⟩, ⟨?_⟩, ⟨?_⟩, ⟨?_⟩⟩
        · exact (hx.out.2.2.1.below HBW.out).kept HG4.out (fun e => by injection e with e; omega) (fun e => by injection e with e; omega)
        · exact ((HLD2.out.below HBW.out).put (fun a s e => by cases e; exact HCL.out)).grown HM2.out HG4.out
        · rw [← vs_put, HV.out, fitM_snoc]
          unfold allO
          rw [← mput_map (fun s : BA => some s)]
          rfl
        · rw [List.append_assoc]
          exact ((hpm.symm).append_left dn).trans HP.out
        · exact pw_below_grown (hb_then HB2.out HBW.out) (some w.heap.size) (hb_then HB2.out HBW.out).size HG4.out (fun k hk => by injection hk with hk; omega)
      case measure =>
        have e0 := left_same (b := b) (r := w.heap.size + 1) (w := w2) (w' := w2.alloc (.cells #[.string c] 9)) (HBW.out.block _ (by omega)) (HBW.out.block _ (by omega))
        have e1 := left_same (b := b) (r := w.heap.size + 1) (w := w2.alloc (.cells #[.string c] 9)) (w' := w4) ?_ ?_
        · rw [e1, e0]; exact hx.out.2.2.2.1
        · exact HG4.out.block b (by have := HBW.out.size; omega) (fun e => by injection e with e; omega)
        · exact HG4.out.block _ (by have := HBW.out.size; omega) (fun e => by injection e with e; omega)
    · have hpf : dn.Perm g := by have := HP.out; rw [hd.out, List.append_nil] at this; exact this
      have Y := Aside0.mk (show vs f = allO g by rw [HV.out, fitM_perm HRS.out hpf])
      clear hpf hd HP HV
      go_ret
      exact ⟨f, rfl, HM.out, HLD.out, Y.out, HB.out⟩
set_option maxHeartbeats 800000 in
theorem MappingToEquals {A : Option Addr} {c N : Nat} {f : List (Bs × BA)} (hf : Ok N f) (hN : N ≤ 17179869184) (w : World) (h : kp.C w A (toP f).length (toP f)) :
    Calls Tryz.prog 46 #[.slice A (toP f).length c] w fun e w' => ∃ v, e = .returned v ∧ ko.R 95 w' w.heap.size (fun _ => True) v (toO (allO f)) ∧ Below w.heap.size w w' := by
  have cl := pairs (c := c) (toP f) w h (hf.len hN) (small_toP hf.s)
  rw [ofP_toP, fitM_id hf.r] at cl
  have CL := Aside0.mk cl
  have hfl : f.length ≤ 17179869184 := by have := hf.l; omega
  clear cl h hf
  go_enter Tryz.func46, Tryz.ntmps46
  go_wp2_with fail
  refine CL.out.mono ?_
  rintro e w1 ⟨rfl, hm1, hb1⟩
  have HB1 := Aside0.mk hb1
  have CA := Aside0.mk (ToEquals w.heap.size f w1 hm1 hfl)
  clear hm1 hb1 CL
  go_wp2_with fail
  refine CA.out.mono ?_
  rintro e w2 ⟨g, rfl, hm, hld, hv, hb⟩
  have HB2 := Aside0.mk (hb_then HB1.out hb)
  have hgl : g.length ≤ 17179869184 := by have := vs_length g; rw [hv, allO_length] at this; omega
  have CO := Aside0.mk (opts w1.heap.size g w2 hm hld hgl)
  rw [hv] at CO
  clear hm hld hb CA hgl hv
  go_wp2_with fail
  refine CO.out.mono ?_
  rintro e w3 ⟨v, rfl, hR, hb⟩
  have HR := Aside0.mk (Kd.R_lower hR HB2.out.size)
  have HB3 := Aside0.mk (hb_then HB2.out hb)
  clear hR hb CO
  go_wp2
  go_ret
  exact ⟨_, rfl, HR.out, HB3.out⟩
end Go.Proofs.YtididniafloogaaGreatDoor.Maps
namespace Go.Proofs.YtididniafloogaaGreatDoor.Maps
open Go.RowKit Go.Proofs.YtididniafloogaaGreatDoorW.PrintWords Go.Proofs.YtididniafloogaaGreatDoorW.PrintLast Go.Proofs.YtididniafloogaaGreatDoor.Str Go.Proofs.YtididniafloogaaGreatDoor.Kit Go.Proofs.YtididniafloogaaGreatDoor.Flat Go.Proofs.YtididniafloogaaGreatDoor.MapV Go.Proofs.YtididniafloogaaGreatDoor.Frame Go.Sort Go.Lib
set_option linter.unusedVariables false
set_option linter.unusedSimpArgs false
theorem strs_some {e : Nat} {w : World} {base : Nat} {ok : Nat → Prop} {v : Value} {xs : List BA} (h : Kd.string.R e w base ok v xs) (h0 : 0 < xs.length) : ∃ g c, v = .slice (some ⟨g, 0, none⟩) xs.length c := by
  rcases strs_block h with ⟨_, h1⟩ | ⟨g, c, h1, _⟩
  · rw [h1] at h0; simp at h0
  · exact ⟨g, c, h1⟩
set_option maxHeartbeats 800000 in
set_option maxRecDepth 100000 in
/-- sort.Strings over a row of the call's own -/
theorem sortRow {base g n c : Nat} {ys : List BA} (w : World) (h : Kd.string.R 9 w base (fun _ => True) (.slice (some ⟨g, 0, none⟩) n c) ys) (hn : ys.length ≤ 17179869184) :
    Calls Tryz.prog 97 #[.slice (some ⟨g, 0, none⟩) n c] w fun e w' => ∃ zs, e = .returned (.tuple #[]) ∧ Kd.string.R 9 w' base (fun _ => True) (.slice (some ⟨g, 0, none⟩) n c) zs ∧ zs.Perm ys ∧ Srt zs ∧ w.grownBy w' (some g) := by
  have h' : (flat (fun x : BA => [Value.string x]) 1 (fun _ => rfl) (fun x u hu => by rw [List.mem_singleton.1 hu]; rfl)).R 9 w base (fun _ => True) (.slice (some ⟨g, 0, none⟩) n c) ys := h
  rcases (R_flat.1 h').2.2 with ⟨hv, _⟩ | ⟨g', cap, cur, hv, hgb, hblk, hle, hcap, hcsz, htk⟩
  · cases hv
  injection hv with e1 e2 e3
  injection e1 with e1
  injection e1 with e1
  subst e1 e2 e3
  rw [fm_map, Nat.mul_one, ← enc_lb] at htk
  have hL : (ys.map lb).length = ys.length := List.length_map _
  have hH := holds_of_block (ss := ys.map lb) hblk (by rw [hL]; exact htk)
  have cs := Any.sort_Strings Tryz.lays192 g 0 c (ys.map lb) w hH (cb_lt hblk) (by rw [hL]; omega)
  rw [hL] at cs
  refine cs.mono ?_
  rintro e w1 ⟨rfl, m, os, rfl⟩
  have hls : ((ys.map lb).mergeSort fun x y => decide (x ≤ y)).length = (ys.map lb).length := by rw [List.length_mergeSort]
  have HO := ownsRow_sorted (n := m) (os := os) hls hgb hblk (by rw [hL]; exact hle) hcap hcsz
  have HG := grownBy_sorted (w := w) (g := g) (n := m) (os := os) ((ys.map lb).mergeSort fun x y => decide (x ≤ y)).toArray
  refine ⟨ofL ((ys.map lb).mergeSort fun x y => decide (x ≤ y)), rfl, ?_, ?_, ?_, HG⟩
  · refine (show (flat (fun x : BA => [Value.string x]) 1 (fun _ => rfl) (fun x u hu => by rw [List.mem_singleton.1 hu]; rfl)).R 9 _ base (fun _ => True) (.slice (some ⟨g, 0, none⟩) ys.length c) (ofL ((ys.map lb).mergeSort fun x y => decide (x ≤ y))) from R_flat.2 ⟨fun _ _ => trivial, ?_⟩)
    have hl2 : (ofL ((ys.map lb).mergeSort fun x y => decide (x ≤ y))).length = ys.length := by unfold ofL; rw [List.length_map, hls, hL]
    rw [fm_map, ofL_enc, hl2]
    have := HO
    rw [hL] at this
    exact this
  · have := (List.mergeSort_perm (ys.map lb) (fun x y => decide (x ≤ y))).map (fun b : List UInt8 => (⟨b.toArray⟩ : BA))
    have e : (ys.map lb).map (fun b : List UInt8 => (⟨b.toArray⟩ : BA)) = ys := ofL_lb ys
    rw [e] at this
    exact this
  · refine ofL_srt (List.pairwise_mergeSort (fun a b c h1 h2 => ?_) (fun a b => ?_) _)
    · exact decide_eq_true (List.le_trans (of_decide_eq_true h1) (of_decide_eq_true h2))
    · rcases List.le_total a b with h | h
      · simp [h]
      · simp [h]
set_option maxHeartbeats 3200000 in
set_option maxRecDepth 100000 in
theorem Values (b : Nat) (f : List (Bs × BA)) (w : World) (h : MapS w b f) (hn : f.length ≤ 17179869184) (hs : Small f) (hv : SmallV f) :
    Calls Tryz.prog 77 #[.map (some b)] w fun e w' => ∃ v zs, e = .returned v ∧ Kd.string.R 9 w' w.heap.size (fun _ => True) v zs ∧ zs.Perm ((toP f).map (eqText eqS)) ∧ Srt zs ∧ Below w.heap.size w w' := by
  have HM := Aside0.mk h
  have HS := Aside0.mk (And.intro hs hv)
  have HRS := Aside0.mk (MapE.rises (Go.Maps.string_keyed key_u) h)
  have hbl := h.lt
  have hmk := run_make_cap (P := Tryz.prog) 22 9 (.string ⟨#[]⟩) 1 16 Tryz.underlying22 info_str9 f.length (by omega) (by omega)
  have HB0 := Aside0.mk ((Below.refl _ w).alloc (Nat.le_refl _) (.cells (madeCells #[.string ⟨#[]⟩] f.length) 9))
  have HM1 := Aside0.mk (h.below ((Below.refl _ w).alloc (Nat.le_refl _) (.cells (madeCells #[.string ⟨#[]⟩] f.length) 9)))
  have ho1 := own_made_cap Kd.string w w.heap.size 9 #[.string ⟨#[]⟩] f.length (Nat.le_refl _) (by omega)
  rw [show f.length * Kd.string.sz = f.length from Nat.mul_one _] at ho1
  have HO1 := Aside0.mk ho1
  clear h hs hv ho1
  go_enter Tryz.func77, Tryz.ntmps77
  go_wp2_with (first | (at_len; refine len_mapE Tryz.underlying77 rfl _ rfl rfl HM.out ?_) | (at_range; refine range_mapE key_u Tryz.underlying77 rfl _ rfl rfl HM1.out ?_; intro w0 hrg0 hg0 hs0; have HR0 := Aside0.mk hrg0; have HG0 := Aside0.mk hg0; have HS0 := Aside0.mk hs0; clear hrg0 hg0 hs0))
  go_frame
  have ho0 := Kd.R_grown (Kd.R_mono (ok' := fun j => j ≠ w.heap.size + 1) (Kd.R_bound HO1.out) (fun j hj => by have := hj.2.2.1; rw [World.size_alloc] at this; omega)) HG0.out (fun k hk e => by cases e)
  have HO0 := Aside0.mk ho0
  have hb0 := pw_below_grown HB0.out none HB0.out.size HG0.out (fun k hk => by cases hk)
  have HBW := Aside0.mk hb0
  rw [World.size_alloc] at HR0 HS0
  rw [World.size_alloc]
  clear ho0 HO1 HB0 HM1 HG0 HS0 hmk HM hb0
  go_loopw [3] (fun v3 wr => ∃ (dn lf : List (Bs × BA)) (g c3 : Nat), v3 = .slice (some ⟨g, 0, none⟩) dn.length c3 ∧ Aside0 (Ranges Tryz.prog 9 Value.string wr b (w.heap.size + 1) f lf) ∧ Aside0 (Kd.string.R 9 wr w.heap.size (fun j => j ≠ w.heap.size + 1) (.slice (some ⟨g, 0, none⟩) dn.length c3) ((toP dn).map (eqText eqS))) ∧ Aside0 ((dn ++ lf).Perm f) ∧ Aside0 (Below w.heap.size w wr)) (fun _ wr => wr.rangeLeft b (w.heap.size + 1))
  case atStart => exact ⟨[], f, _, _, rfl, HR0, HO0, ⟨List.Perm.refl _⟩, HBW⟩
  case round =>
    clear HR0 HO0 HBW
    obtain ⟨dn, lf, g, c3, rfl, HR, HV, HP, HB⟩ := hrel
    have hlen : dn.length + lf.length = f.length := by rw [← HP.out.length_eq, List.length_append]
    have HLEN := Aside0.mk hlen
    have hrl := HR.out.lt
    have HRL := Aside0.mk hrl
    have HSUB := Aside0.mk (fun (p : Bs × BA) (hp : p ∈ lf) => HS.out.2 p (HR.out.sub.subset hp))
    have HNM := Aside0.mk (show ∀ (x c : BA), (lb x, c) ∈ lf → x.size ≤ 2147483647 from fun x c hp => by have := HS.out.1 _ (HR.out.sub.subset hp); rw [← lb_length]; exact this)
    have hfit : ((toP dn).map (eqText eqS)).length < 8796093022207 := by rw [List.length_map, toP_length]; omega
    clear hlen
    go_wp2_with (first | (at_next; refine next_mapA key_u rfl _ rfl rfl HR.out (fun hd => ?_) (fun x c w2 hx hen => ?_); rotate_left; (have hxs := HNM.out x c hx.out.1); (have hcs : c.size ≤ 2147483647 := HSUB.out _ hx.out.1); (have z4 : ¬ 9223372036854775807 < x.size + 1 := by omega); (have z5 : ¬ 9223372036854775807 < x.size + 1 + c.size := by omega); (have hz : (x ++ (⟨#[61]⟩ : BA)).size = x.size + 1 := ByteArray.size_append); (have z6 : ¬ 9223372036854775807 < (x ++ (⟨#[61]⟩ : BA)).size + c.size := by omega); (have HV2 := Aside0.mk (Kd.R_grown HV.out hx.out.2.2.2.2.1 (fun k hk e => by injection e with e; exact hk e))); (have HB2 := Aside0.mk (pw_below_grown HB.out (some (w.heap.size + 1)) HB.out.size hx.out.2.2.2.2.1 (fun k hk => by injection hk with hk; omega))); (have hsz2 : w.heap.size + 1 < w2.heap.size := by have := hx.out.2.2.2.2.2; omega)) | (at_builtin; refine append_strO (w0 := w) (ok := fun j => j ≠ w.heap.size + 1) (fun k hk e => by omega) (.tmp 16) (.tmp 21) rfl rfl rfl rfl HV2.out HB2.out hfit ?_; intro v1 w3 ho hb hg; obtain ⟨g1, c1, rfl⟩ := strs_some ho (by simp); have HV3 := Aside0.mk ho; have HB3 := Aside0.mk hb; have HG3 := Aside0.mk hg; clear ho hb hg))
    · have hpm : lf.Perm ((lb x, c) :: mdel lf (lb x)) := rises_take ((HRS.out.sublist HR.out.sub).imp (fun {p q} h => lt_ne h)) hx.out.1
      have e2 : (toP (dn ++ [(lb x, c)])).map (eqText eqS) = (toP dn).map (eqText eqS) ++ [x ++ eqS ++ c] := by
        rw [toP_append, List.map_append]
        have e3 : (toP [(lb x, c)]).map (eqText eqS) = [x ++ eqS ++ c] := by
          show [eqText eqS (⟨(lb x).toArray⟩, c)] = _
          rw [mk_lb]
          first | done | rfl
        rw [e3]
      have hl2 : ((toP dn).map (eqText eqS) ++ [x ++ (⟨#[61]⟩ : BA) ++ c]).length = (dn ++ [(lb x, c)]).length := by simp [toP_length]
      have E2 := Aside0.mk e2
      have HL2 := Aside0.mk hl2
      have nb : ∀ k, (Value.slice (some ⟨g, 0, none⟩) dn.length c3).ownBlock = some k → k ≠ w.heap.size + 1 ∧ w.heap.size ≤ k := fun k hk => ⟨HV2.out.1 k hk, Kd.R_base HV2.out k hk⟩
      clear e2 hl2
      go_roundw
      case rel =>
        refine ⟨dn ++ [(lb x, c)], mdel lf (lb x), g1, c1, by rw [toP_length, List.length_append]; rfl, ⟨?_⟩, ⟨?_⟩, ⟨?_⟩, HB3⟩
        · exact hx.out.2.2.1.kept HG3.out (fun e => by have := (nb _ e.symm).2; omega) (fun e => (nb _ e.symm).1 rfl)
        · rw [E2.out, ← HL2.out]
          exact HV3.out
        · rw [List.append_assoc]
          exact ((hpm.symm).append_left dn).trans HP.out
      case measure =>
        have e1 := left_same (b := b) (r := w.heap.size + 1) (w := w2) (w' := w3) ?_ ?_
        · rw [e1]; exact hx.out.2.2.2.1
        · exact HG3.out.block b (by omega) (fun e => by have := (nb _ e.symm).2; omega)
        · exact HG3.out.block _ (by omega) (fun e => (nb _ e.symm).1 rfl)
    · have HPF := Aside0.mk (show dn.Perm f by have := HP.out; rw [hd.out, List.append_nil] at this; exact this)
      have hg0 := Kd.R_base HV.out g (by simp [Value.ownBlock])
      have CS := Aside0.mk (sortRow wr (Kd.R_mono HV.out (fun _ _ => trivial)) (by rw [List.length_map, toP_length]; have := HLEN.out; omega))
      refine CS.out.mono ?_
      rintro e w3 ⟨zs, rfl, hr, hp, hs, hg⟩
      have HR3 := Aside0.mk hr
      have HZ := Aside0.mk (And.intro (hp.trans ((HPF.out.map _).map _)) hs)
      have HB3 := Aside0.mk (pw_below_grown HB.out (some g) HB.out.size hg (fun k hk => by injection hk with hk; omega))
      clear hr hp hs hg CS hd
      go_wp2
      go_ret
      exact ⟨_, _, rfl, HR3.out, HZ.out.1, HZ.out.2, HB3.out⟩
set_option maxHeartbeats 800000 in
theorem MappingValues {A : Option Addr} {c N : Nat} {f : List (Bs × BA)} (hf : Ok N f) (hN : N ≤ 17179869184) (hv : SmallV f) (w : World) (h : kp.C w A (toP f).length (toP f)) :
    Calls Tryz.prog 45 #[.slice A (toP f).length c] w fun e w' => ∃ v zs, e = .returned v ∧ Kd.string.R 9 w' w.heap.size (fun _ => True) v zs ∧ zs.Perm ((toP f).map (eqText eqS)) ∧ Srt zs ∧ Below w.heap.size w w' := by
  have cl := pairs (c := c) (toP f) w h (hf.len hN) (small_toP hf.s)
  rw [ofP_toP, fitM_id hf.r] at cl
  have CL := Aside0.mk cl
  have HF := Aside0.mk (And.intro hf hv)
  have hfl : f.length ≤ 17179869184 := by have := hf.l; omega
  clear cl h hf hv
  go_enter Tryz.func45, Tryz.ntmps45
  go_wp2_with fail
  refine CL.out.mono ?_
  rintro e w1 ⟨rfl, hm1, hb1⟩
  have HB1 := Aside0.mk hb1
  have CA := Aside0.mk (Values w.heap.size f w1 hm1 hfl HF.out.1.s HF.out.2)
  clear hm1 hb1 CL
  go_wp2_with fail
  refine CA.out.mono ?_
  rintro e w2 ⟨v, zs, rfl, hr, hp, hs, hb⟩
  have HR := Aside0.mk (Kd.R_lower hr HB1.out.size)
  have HP := Aside0.mk (And.intro hp hs)
  have HB2 := Aside0.mk (hb_then HB1.out hb)
  clear hr hp hs hb CA
  go_wp2
  go_ret
  exact ⟨_, _, rfl, HR.out, HP.out.1, HP.out.2, HB2.out⟩
end Go.Proofs.YtididniafloogaaGreatDoor.Maps
namespace Go.Proofs.YtididniafloogaaGreatDoor.Maps
open Go.RowKit Go.Proofs.YtididniafloogaaGreatDoorW.PrintWords Go.Proofs.YtididniafloogaaGreatDoorW.PrintLast Go.Proofs.YtididniafloogaaGreatDoor.Str Go.Proofs.YtididniafloogaaGreatDoor.Kit Go.Proofs.YtididniafloogaaGreatDoor.Flat Go.Proofs.YtididniafloogaaGreatDoor.MapV Go.Proofs.YtididniafloogaaGreatDoor.Frame
set_option linter.unusedVariables false
set_option linter.unusedSimpArgs false
theorem ofO_length (l : List KO) : (ofO l).length = l.length := List.length_map _
set_option maxHeartbeats 1600000 in
set_option maxRecDepth 100000 in
theorem equals {A : Option Addr} {c : Nat} (l : List KO) (w : World) (h : ko.C w A l.length l) (hn : l.length ≤ 17179869184) (hl : ∀ p ∈ l, p.1.size ≤ 2147483647) :
    Calls Tryz.prog 61 #[.slice A l.length c] w fun e w' => ∃ f : List (Bs × PV), e = .returned (.map (some w.heap.size)) ∧ MapA w' w.heap.size f ∧ Leads w' f ∧ vs f = fitM (ofO l) ∧ Below w.heap.size w w' := by
  have H := Aside0.mk h
  have HL := Aside0.mk hl
  clear h hl
  have hmm := @run_makeMap Tryz.prog
  have HM0 := Aside0.mk (MapE.made Tryz.prog 9 encA w)
  have HB0 := Aside0.mk ((Below.refl _ w).alloc (Nat.le_refl _) (.map #[] 0))
  go_enter Tryz.func61, Tryz.ntmps61
  go_wp2
  go_loopw [10] (fun v10 wr => ∃ (i : Nat) (f : List (Bs × PV)), v10 = .int .i64 i ∧ i ≤ l.length ∧ Aside0 (MapA wr w.heap.size f) ∧ Aside0 (Leads wr f) ∧ Aside0 (vs f = fitM (ofO (l.take i))) ∧ Aside0 (Below w.heap.size w wr)) (fun v10 _ => l.length - (intOf v10).toNat)
  case atStart => exact ⟨0, [], rfl, by omega, HM0, ⟨Leads.nil _⟩, ⟨rfl⟩, HB0⟩
  case round =>
    clear HM0 HB0
    obtain ⟨i, f, rfl, hi, HM, HLD, HV, HB⟩ := hrel
    by_cases hlt : i < l.length
    · obtain ⟨b0, o0, rfl, hb0, hc0⟩ := ko_open H.out (by omega)
      obtain ⟨g0, g1, g2⟩ := hc0 i hlt
      replace g0 := pw_cell_below HB.out g0
      replace g1 := pw_cell_below HB.out g1
      replace g2 := pw_cell_below HB.out g2
      have q0 : (0 : Int) ≤ (i : Int) := by omega
      have q1 : (i : Int) < (l.length : Int) := by omega
      have hsz := HL.out l[i] (List.getElem_mem hlt)
      have HST := Aside0.mk (show fitM (ofO (l.take (i + 1))) = mput (vs f) (lb l[i].1) (if l[i].2.2 then some l[i].2.1 else none) by
        rw [List.take_succ_eq_append_getElem hlt, HV.out]
        unfold ofO
        rw [List.map_append, List.map_cons, List.map_nil, fitM_snoc])
      have hml : f.length < maxLen := by
        have h1 := fitM_length (ofO (l.take i))
        rw [← HV.out, vs_length, ofO_length, List.length_take] at h1
        unfold maxLen
        omega
      generalize l[i].1 = p at g0 hsz HST
      generalize l[i].2.1 = q at g1 HST
      generalize l[i].2.2 = r at g2 HST
      have hks : p.size ≤ maxLen := by unfold maxLen; omega
      clear hc0 hsz
      have HB1 := Aside0.mk ((Below.refl _ wr).alloc (Nat.le_refl _) (.cells #[.string p, .string q, .bool r] 95))
      have HM1 := Aside0.mk (HM.out.below HB1.out)
      have HLD1 := Aside0.mk (HLD.out.below HB1.out)
      have k0 : (wr.alloc (.cells #[.string p, .string q, .bool r] 95)).cell? ⟨wr.heap.size, 0, none⟩ = some (.string p) := cb_cell (i := 0) (cb_new _ _) rfl
      have k1 : (wr.alloc (.cells #[.string p, .string q, .bool r] 95)).cell? ⟨wr.heap.size, 1, none⟩ = some (.string q) := cb_cell (i := 1) (cb_new _ _) rfl
      have k2 : (wr.alloc (.cells #[.string p, .string q, .bool r] 95)).cell? ⟨wr.heap.size, 2, none⟩ = some (.bool r) := cb_cell (i := 2) (cb_new _ _) rfl
      cases r
      · go_wp2_with (at_mapUpdate; refine store_mapE (enc := encA) (y := (none : PV)) key_u mapA_u rfl _ _ _ rfl rfl HM1.out hml rfl hks rfl ?_; intro w2 hm2 hg2; have HM2 := Aside0.mk hm2; have HG2 := Aside0.mk hg2; clear hm2 hg2)
        go_roundw
        case rel => exact ⟨i + 1, _, by go_num, by omega, HM2, ⟨(HLD1.out.put (fun a s e => by cases e)).grown HM1.out HG2.out⟩, ⟨by rw [HST.out, ← vs_put]; rfl⟩, ⟨pw_below_grown (hb_then HB.out HB1.out) _ (hb_then HB.out HB1.out).size HG2.out (fun k hk => by injection hk with hk; omega)⟩⟩
        case measure => simp [intOf]; omega
      · have hb2 := (Below.refl _ (wr.alloc (.cells #[.string p, .string q, .bool true] 95))).alloc (Nat.le_refl _) (.cells #[.string q] 9)
        have HB2 := Aside0.mk hb2
        have HM2 := Aside0.mk (HM1.out.below hb2)
        have HLD2 := Aside0.mk (HLD1.out.below hb2)
        have j0 := pw_cell_below hb2 k0
        have HJ := Aside0.mk (show ((wr.alloc (.cells #[.string p, .string q, .bool true] 95)).alloc (.cells #[.string q] 9)).cell? ⟨wr.heap.size + 1, 0, none⟩ = some (.string q) from by
          have := cb_cell (i := 0) (cb_new (wr.alloc (.cells #[.string p, .string q, .bool true] 95)) (.cells #[.string q] 9)) rfl
          rw [World.size_alloc] at this
          exact this)
        clear hb2
        go_wp2_with (at_mapUpdate; refine store_mapE (enc := encA) (y := (some (⟨wr.heap.size + 1, 0, none⟩, q) : PV)) key_u mapA_u rfl _ _ _ rfl rfl HM2.out hml rfl hks rfl ?_; intro w2 hm2 hg2; have HM3 := Aside0.mk hm2; have HG3 := Aside0.mk hg2; clear hm2 hg2)
        go_roundw
        case rel => exact ⟨i + 1, _, by go_num, by omega, HM3, ⟨(HLD2.out.put (fun a s e => by cases e; exact HJ.out)).grown HM2.out HG3.out⟩, ⟨by rw [HST.out, ← vs_put]; rfl⟩, ⟨pw_below_grown (hb_then (hb_then HB.out HB1.out) HB2.out) _ (hb_then (hb_then HB.out HB1.out) HB2.out).size HG3.out (fun k hk => by injection hk with hk; omega)⟩⟩
        case measure => simp [intOf]; omega
    · have hall := HV.out
      rw [List.take_of_length_le (by omega)] at hall
      have HALL := Aside0.mk hall
      clear hall HV
      go_wp2
      go_ret
      exact ⟨f, rfl, HM.out, HLD.out, HALL.out, HB.out⟩
/-- those with a value -/
def fullM (g : List (Bs × Option BA)) : List (Bs × BA) := g.filterMap fun p => p.2.map fun v => (p.1, v)
theorem fullM_length (g : List (Bs × Option BA)) : (fullM g).length ≤ g.length := List.length_filterMap_le _ _
theorem fullM_rises {g : List (Bs × Option BA)} (h : Rises g) : Rises (fullM g) := by
  induction g with
  | nil => exact List.Pairwise.nil
  | cons p r ih =>
    obtain ⟨h1, h2⟩ := List.pairwise_cons.1 h
    unfold fullM
    obtain ⟨k, o⟩ := p
    cases o with
    | none => exact ih h2
    | some v =>
      refine List.pairwise_cons.2 ⟨fun q hq => ?_, ih h2⟩
      obtain ⟨y, hy, e⟩ := List.mem_filterMap.1 hq
      obtain ⟨ky, oy⟩ := y
      cases oy with
      | none => cases e
      | some vy => injection e with e; subst e; exact h1 _ hy
set_option maxHeartbeats 3200000 in
set_option maxRecDepth 100000 in
theorem ToMapping (b : Nat) (f : List (Bs × PV)) (w : World) (h : MapA w b f) (hld : Leads w f) (hn : f.length ≤ 17179869184) :
    Calls Tryz.prog 79 #[.map (some b)] w fun e w' => e = .returned (.map (some w.heap.size)) ∧ MapS w' w.heap.size (fullM (vs f)) ∧ Below w.heap.size w w' := by
  have hmm := @run_makeMap Tryz.prog
  have HLD := Aside0.mk hld
  have HM := Aside0.mk (h.below ((Below.refl _ w).alloc (Nat.le_refl _) (.map #[] 0)))
  have HMA := Aside0.mk (MapE.made Tryz.prog 9 Value.string w)
  have HB := Aside0.mk ((Below.refl _ w).alloc (Nat.le_refl _) (.map #[] 0))
  have HRS := Aside0.mk (MapE.rises (Go.Maps.string_keyed key_u) h)
  have hbl := h.lt
  clear h hld
  go_enter Tryz.func79, Tryz.ntmps79
  go_wp2_with (at_range; refine range_mapE key_u mapA_u rfl _ rfl rfl HM.out ?_; intro w0 hrg0 hg0 hs0; have HR0 := Aside0.mk hrg0; have HG0 := Aside0.mk hg0; have HS0 := Aside0.mk hs0; clear hrg0 hg0 hs0)
  go_frame
  rw [World.size_alloc] at HR0 HS0
  rw [World.size_alloc]
  have HB0 := Aside0.mk (pw_below_grown HB.out none (by rw [World.size_alloc]; omega) HG0.out (fun k hk => by cases hk))
  have HM0 := Aside0.mk (MapE.grown HMA.out HG0.out (by simp))
  clear HG0 HB HM HMA HS0
  go_loopw [] (fun wr => ∃ (dn lf : List (Bs × PV)), Aside0 (Ranges Tryz.prog 9 encA wr b (w.heap.size + 1) f lf) ∧ Aside0 (MapS wr w.heap.size (fitM (fullM (vs dn)))) ∧ Aside0 ((dn ++ lf).Perm f) ∧ Aside0 (Below w.heap.size w wr)) (fun wr => wr.rangeLeft b (w.heap.size + 1))
  case atStart => exact ⟨[], f, HR0, HM0, ⟨List.Perm.refl _⟩, HB0⟩
  case round =>
    clear HR0 HM0 HB0
    obtain ⟨dn, lf, HR, HM, HP, HB⟩ := hrel
    have hrl := HR.out.lt
    have hml : (fitM (fullM (vs dn))).length < maxLen := by
      have h1 := fitM_length (fullM (vs dn))
      have h2 := fullM_length (vs dn)
      have h3 := HP.out.length_eq
      rw [vs_length] at h2
      rw [List.length_append] at h3
      unfold maxLen
      omega
    go_wp2_with (first | (at_next; refine next_mapA key_u rfl _ rfl rfl HR.out (fun hd => ?_) (fun x c w2 hx hen => ?_); rotate_left; (have hks := hx.out.2.1); (have hsz2 : w.heap.size + 1 < w2.heap.size := by have := hx.out.2.2.2.2.2; omega); (have HM2 := Aside0.mk (HM.out.grown hx.out.2.2.2.2.1 (fun e => by injection e with e; omega))); (have HB2 := Aside0.mk (pw_below_grown HB.out (some (w.heap.size + 1)) HB.out.size hx.out.2.2.2.2.1 (fun k hk => by injection hk with hk; omega))); (have hpc := Aside0.mk (fun (pa : Addr) (pv : BA) (hc : c = some (pa, pv)) => pw_cell_below HB2.out (HLD.out _ (HR.out.sub.subset hx.out.1) pa pv hc))); (rcases c with _ | ⟨pa, pv⟩); all_goals (try (simp only [encA, Option.map_none, Option.map_some] at hen)); all_goals (try (have hpv := hpc.out _ _ rfl))) | (at_mapUpdate; refine store_mapE (enc := Value.string) (y := pv) key_u Tryz.underlying77 rfl _ _ _ rfl rfl HM2.out hml rfl hks rfl ?_; intro w4 hm4 hg4; have HM4 := Aside0.mk hm4; have HG4 := Aside0.mk hg4; clear hm4 hg4))
    · have hpm : lf.Perm ((lb x, (none : PV)) :: mdel lf (lb x)) := rises_take ((HRS.out.sublist HR.out.sub).imp (fun {p q} h => lt_ne h)) hx.out.1
      go_roundw
      case rel =>
        refine ⟨dn ++ [(lb x, none)], mdel lf (lb x), ⟨hx.out.2.2.1⟩, ⟨?_⟩, ⟨?_⟩, HB2⟩
        · have : fullM (vs (dn ++ [(lb x, (none : PV))])) = fullM (vs dn) := by rw [vs_append]; unfold fullM; rw [List.filterMap_append]; simp [vs]
          rw [this]
          exact HM2.out
        · rw [List.append_assoc]
          exact ((hpm.symm).append_left dn).trans HP.out
      case measure => exact hx.out.2.2.2.1
    · have hpm : lf.Perm ((lb x, (some (pa, pv) : PV)) :: mdel lf (lb x)) := rises_take ((HRS.out.sublist HR.out.sub).imp (fun {p q} h => lt_ne h)) hx.out.1
      simp only [Act.put]
      go_roundw
      case rel =>
        refine ⟨dn ++ [(lb x, some (pa, pv))], mdel lf (lb x), ⟨?_⟩, ⟨?_⟩, ⟨?_⟩, ⟨?_⟩⟩
        · exact hx.out.2.2.1.kept HG4.out (fun e => by injection e with e; omega) (fun e => by injection e with e; omega)
        · have : fullM (vs (dn ++ [(lb x, (some (pa, pv) : PV))])) = fullM (vs dn) ++ [(lb x, pv)] := by rw [vs_append]; unfold fullM; rw [List.filterMap_append]; simp [vs]
          rw [this, fitM_snoc]
          exact HM4.out
        · rw [List.append_assoc]
          exact ((hpm.symm).append_left dn).trans HP.out
        · exact pw_below_grown HB2.out (some w.heap.size) HB2.out.size HG4.out (fun k hk => by injection hk with hk; omega)
      case measure =>
        have e1 := left_same (b := b) (r := w.heap.size + 1) (w := w2) (w' := w4) ?_ ?_
        · rw [e1]; exact hx.out.2.2.2.1
        · exact HG4.out.block b (by omega) (fun e => by injection e with e; omega)
        · exact HG4.out.block _ (by omega) (fun e => by injection e with e; omega)
    · have hpf : dn.Perm f := by have := HP.out; rw [hd.out, List.append_nil] at this; exact this
      have Y := Aside0.mk (show fitM (fullM (vs dn)) = fullM (vs f) from fitM_perm (fullM_rises (vs_rises HRS.out)) ((hpf.map _).filterMap _))
      clear hpf hd HP
      go_ret
      exact ⟨rfl, by rw [← Y.out]; exact HM.out, HB.out⟩
theorem small_toO {f : List (Bs × Option BA)} (h : ∀ p ∈ f, p.1.length ≤ 2147483647) : ∀ p ∈ toO f, p.1.size ≤ 2147483647 := by
  intro p hp
  unfold toO at hp
  obtain ⟨q, hq, rfl⟩ := List.mem_map.1 hp
  have := h q hq
  rw [← lb_length, lb_mk]
  exact this
set_option maxHeartbeats 800000 in
theorem EqualsToMapping {A : Option Addr} {c : Nat} {f : List (Bs × Option BA)} (hf : Rises f) (hs : ∀ p ∈ f, p.1.length ≤ 2147483647) (hn : f.length ≤ 17179869184) (w : World) (h : ko.C w A (toO f).length (toO f)) :
    Calls Tryz.prog 49 #[.slice A (toO f).length c] w fun e w' => ∃ v, e = .returned v ∧ kp.R 74 w' w.heap.size (fun _ => True) v (toP (fullM f)) ∧ Below w.heap.size w w' := by
  have cl := equals (c := c) (toO f) w h (by rw [toO_length]; exact hn) (small_toO hs)
  rw [ofO_toO, fitM_id hf] at cl
  have CL := Aside0.mk cl
  have hfl := fullM_length f
  clear cl h hf hs
  go_enter Tryz.func49, Tryz.ntmps49
  go_wp2_with fail
  refine CL.out.mono ?_
  rintro e w1 ⟨g, rfl, hm1, hld, hv, hb1⟩
  have HB1 := Aside0.mk hb1
  have hgl : g.length ≤ 17179869184 := by have := vs_length g; rw [hv] at this; omega
  have ca := ToMapping w.heap.size g w1 hm1 hld hgl
  rw [hv] at ca
  have CA := Aside0.mk ca
  clear hm1 hld hb1 CL hv hgl ca
  go_wp2_with fail
  refine CA.out.mono ?_
  rintro e w2 ⟨rfl, hm, hb⟩
  have HB2 := Aside0.mk (hb_then HB1.out hb)
  have CO := Aside0.mk (told w1.heap.size (fullM f) w2 hm (by omega))
  clear hm hb CA
  go_wp2_with fail
  refine CO.out.mono ?_
  rintro e w3 ⟨v, rfl, hR, hb⟩
  have HR := Aside0.mk (Kd.R_lower hR HB2.out.size)
  have HB3 := Aside0.mk (hb_then HB2.out hb)
  clear hR hb CO
  go_wp2
  go_ret
  exact ⟨_, rfl, HR.out, HB3.out⟩
end Go.Proofs.YtididniafloogaaGreatDoor.Maps
namespace Go.Proofs.YtididniafloogaaGreatDoor.Maps
open Go.RowKit Go.Proofs.YtididniafloogaaGreatDoorW.PrintWords Go.Proofs.YtididniafloogaaGreatDoor.Str Go.Proofs.YtididniafloogaaGreatDoor.Kit Go.Proofs.YtididniafloogaaGreatDoor.Flat Go.Proofs.YtididniafloogaaGreatDoor.MapV Go.Proofs.YtididniafloogaaGreatDoor.Frame Go.Proofs.YtididniafloogaaGreatDoor.Index
set_option linter.unusedVariables false
set_option linter.unusedSimpArgs false
set_option maxHeartbeats 1600000 in
theorem NewMappingL {A : Option Addr} {c : Nat} (l : List BA) (w : World) (h : Kd.string.C w A l.length l) (hn : l.length ≤ 2147483647) (hl : ∀ s ∈ l, s.size ≤ 17179869184) :
    Calls Tryz.prog 51 #[.slice A l.length c] w fun e w' => e = .returned (.map (some w.heap.size)) ∧ MapS w' w.heap.size (newM l) ∧ Below w.heap.size w w' := by
  have H := Aside0.mk h
  have HL := Aside0.mk hl
  clear h hl
  have hmm := @run_makeMap Tryz.prog
  have HM0 := Aside0.mk (MapE.made Tryz.prog 9 Value.string w)
  have HB0 := Aside0.mk ((Below.refl _ w).alloc (Nat.le_refl _) (.map #[] 0))
  go_enter Tryz.func51, Tryz.ntmps51
  go_wp2
  go_loopw [11] (fun v11 wr => ∃ i : Nat, v11 = .int .i64 i ∧ i ≤ l.length ∧ Aside0 (MapS wr w.heap.size (newM (l.take i))) ∧ Aside0 (Below w.heap.size w wr)) (fun v11 _ => l.length - (intOf v11).toNat)
  case atStart => exact ⟨0, rfl, by omega, HM0, HB0⟩
  case round =>
    clear HM0 HB0
    obtain ⟨i, rfl, hi, HM, HB⟩ := hrel
    by_cases hlt : i < l.length
    · have HC := Kd.C_below H.out HB.out
      obtain ⟨b0, o0, rfl, hb0, hc0⟩ := strs_open HC (by omega)
      have g0 := hc0 i hlt
      have q0 : (0 : Int) ≤ (i : Int) := by omega
      have q1 : (i : Int) < (l.length : Int) := by omega
      have hsz := HL.out l[i] (List.getElem_mem hlt)
      have HST := Aside0.mk (show newM (l.take (i + 1)) = mput (newM (l.take i)) (nameV l[i]).1 (nameV l[i]).2 by rw [List.take_succ_eq_append_getElem hlt, newM_snoc])
      have hml : (newM (l.take i)).length < maxLen := by
        have h1 := newM_length (l.take i)
        rw [List.length_take] at h1
        unfold maxLen
        omega
      generalize l[i] = s at g0 hsz HST
      clear hc0 HC
      have hcs := cutB_size 61 s
      unfold nameV at HST
      rcases hcut : cutB 61 s with ⟨a, bb, f⟩
      rw [hcut] at HST hcs
      have hks : a.size ≤ maxLen := by unfold maxLen; simp at hcs; omega
      cases f
      · have CZ := Aside0.mk (zzSplitTwo1 s a bb hcut wr (by omega))
        have hss : a = s ∧ bb = ⟨#[]⟩ := by
          have := hcut
          unfold cutB at this
          split at this
          · injection this with _ this; injection this with _ this; cases this
          · injection this with e1 this; injection this with e2 _; exact ⟨e1.symm, e2.symm⟩
        obtain ⟨rfl, rfl⟩ := hss
        clear hcut hcs
        go_wp2_with (first | (refine CZ.out.mono ?_; rintro e w1 ⟨bk, cp, rfl, hb1, k0⟩; have HB1 := Aside0.mk hb1; clear hb1; have HM1 := Aside0.mk (HM.out.below HB1.out)) | (at_mapUpdate; refine store_mapE key_u Tryz.underlying77 rfl _ _ _ rfl rfl HM1.out hml rfl hks rfl ?_; intro w2 hm2 hg2; have HM2 := Aside0.mk hm2; have HG2 := Aside0.mk hg2; clear hm2 hg2))
        go_roundw
        case rel => exact ⟨i + 1, by go_num, by omega, ⟨by rw [HST.out]; exact HM2.out⟩, ⟨pw_below_grown (hb_then HB.out HB1.out) _ (hb_then HB.out HB1.out).size HG2.out (fun k hk => by injection hk with hk; omega)⟩⟩
        case measure => simp [intOf]; omega
      · have CZ := Aside0.mk (zzSplitTwo2 s a bb hcut wr (by omega))
        clear hcut hcs
        go_wp2_with (first | (refine CZ.out.mono ?_; rintro e w1 ⟨bk, cp, rfl, hb1, k0, k1⟩; have HB1 := Aside0.mk hb1; clear hb1; have HM1 := Aside0.mk (HM.out.below HB1.out)) | (at_mapUpdate; refine store_mapE key_u Tryz.underlying77 rfl _ _ _ rfl rfl HM1.out hml rfl hks rfl ?_; intro w2 hm2 hg2; have HM2 := Aside0.mk hm2; have HG2 := Aside0.mk hg2; clear hm2 hg2))
        go_roundw
        case rel => exact ⟨i + 1, by go_num, by omega, ⟨by rw [HST.out]; exact HM2.out⟩, ⟨pw_below_grown (hb_then HB.out HB1.out) _ (hb_then HB.out HB1.out).size HG2.out (fun k hk => by injection hk with hk; omega)⟩⟩
        case measure => simp [intOf]; omega
    · have hall := HM.out
      rw [List.take_of_length_le (by omega)] at hall
      have HALL := Aside0.mk hall
      clear hall HM
      go_wp2
      go_ret
      exact ⟨rfl, HALL.out, HB.out⟩
set_option maxHeartbeats 800000 in
theorem implNewMappingL {A : Option Addr} {c : Nat} (l : List BA) (w : World) (h : Kd.string.C w A l.length l) (hn : l.length ≤ 2147483647) (hl : ∀ s ∈ l, s.size ≤ 17179869184) :
    Calls Tryz.prog 14 #[.slice A l.length c] w fun e w' => ∃ v, e = .returned v ∧ kp.R 74 w' w.heap.size (fun _ => True) v (toP (newM l)) ∧ Below w.heap.size w w' := by
  have CN := Aside0.mk (NewMappingL (c := c) l w h hn hl)
  have hml := newM_length l
  clear h hl
  go_enter Tryz.func14, Tryz.ntmps14
  go_wp2_with fail
  refine CN.out.mono ?_
  rintro e w1 ⟨rfl, hm, hb⟩
  have HM := Aside0.mk hm
  have HB := Aside0.mk hb
  clear hm hb
  go_wp2_with (refine (told w.heap.size _ w1 HM.out (by omega)).mono ?_; rintro e w2 ⟨v, rfl, hr, hb2⟩; have HR := Aside0.mk hr; have HB2 := Aside0.mk hb2; clear hr hb2)
  go_ret
  exact ⟨_, rfl, Kd.R_lower HR.out HB.out.size, hb_then HB.out HB2.out⟩
end Go.Proofs.YtididniafloogaaGreatDoor.Maps
namespace Go.Proofs.YtididniafloogaaGreatDoor.Maps
open Go.RowKit Go.Proofs.YtididniafloogaaGreatDoor.Str Go.Proofs.YtididniafloogaaGreatDoor.Kit Go.Proofs.YtididniafloogaaGreatDoor.Flat Go.Proofs.YtididniafloogaaGreatDoor.MapV Go.Proofs.YtididniafloogaaGreatDoor.Index
set_option linter.unusedVariables false
set_option linter.unusedSimpArgs false
/-- names without = -/
def NoEq (f : List (Bs × BA)) : Prop := ∀ p ∈ f, (61 : UInt8) ∉ p.1
theorem cut_noEq (s : BA) : (61 : UInt8) ∉ lb (cutB 61 s).1 := by
  unfold cutB
  cases hf : find [61] (lb s) with
  | none =>
    rw [find_one, List.findIdx?_eq_none_iff] at hf
    intro h
    have := hf 61 h
    simp at this
  | some i =>
    rw [find_one, List.findIdx?_eq_some_iff_getElem] at hf
    obtain ⟨hi, h1, h2⟩ := hf
    show (61 : UInt8) ∉ lb (s.extract 0 i)
    rw [lb_extract, List.drop_zero]
    intro h
    obtain ⟨j, hj, e⟩ := List.mem_iff_getElem.1 h
    rw [List.length_take] at hj
    rw [List.getElem_take] at e
    have := h2 j (by omega)
    rw [e] at this
    simp at this
theorem noEq_newM (l : List BA) : NoEq (newM l) := by
  have go : ∀ (l : List BA) (f : List (Bs × BA)), NoEq f → NoEq (l.foldl (fun f s => mput f (nameV s).1 (nameV s).2) f) := by
    intro l
    induction l with
    | nil => intro f h; exact h
    | cons s r ih =>
      intro f h
      refine ih _ (fun p hp => ?_)
      unfold mput at hp
      rcases mins_mem.1 hp with rfl | hp
      · exact cut_noEq s
      · exact h p (List.mem_filter.1 hp).1
  exact go l [] (fun p hp => by simp at hp)
theorem nameV_text {k v : BA} (h : (61 : UInt8) ∉ lb k) : nameV (k ++ eqS ++ v) = (lb k, v) := by
  have hl : lb (k ++ eqS ++ v) = lb k ++ ([61] ++ lb v) := by
    rw [lb_append, lb_append, List.append_assoc]
    rfl
  have hlen : (lb k).length < (lb (k ++ eqS ++ v)).length := by rw [hl, List.length_append]; simp
  have hc := cut_hit (c := 61) (s := k ++ eqS ++ v) (i := (lb k).length) hlen (fun j hj hjk e => h (by
    have e2 : (lb (k ++ eqS ++ v))[j] = (lb k)[j] := by simp only [hl]; exact List.getElem_append_left hjk
    rw [e2] at e
    rw [← e]
    exact List.getElem_mem hjk)) (by simp only [hl]; rw [List.getElem_append_right (Nat.le_refl _)]; simp)
  unfold nameV
  rw [hc]
  have e1 : lb ((k ++ eqS ++ v).extract 0 (lb k).length) = lb k := by rw [lb_extract, hl, List.take_left, List.drop_zero]
  have e2 : (k ++ eqS ++ v).extract ((lb k).length + 1) (k ++ eqS ++ v).size = v := lb_inj (by
    rw [lb_extract, ← lb_length, List.take_length, hl, ← List.append_assoc]
    have : (lb k).length + 1 = (lb k ++ [61]).length := by simp
    rw [this, List.drop_left])
  show (lb ((k ++ eqS ++ v).extract 0 (lb k).length), (k ++ eqS ++ v).extract ((lb k).length + 1) (k ++ eqS ++ v).size) = _
  rw [e1, e2]
theorem newM_rises (l : List BA) : Rises (newM l) := by
  have go : ∀ (l : List BA) (f : List (Bs × BA)), Rises f → Rises (l.foldl (fun f s => mput f (nameV s).1 (nameV s).2) f) := by
    intro l
    induction l with
    | nil => intro f h; exact h
    | cons s r ih => intro f h; exact ih _ (mput_rises h _ _)
  exact go l [] List.Pairwise.nil
theorem newM_fit (l : List BA) : newM l = fitM (l.map nameV) := by
  unfold newM fitM
  rw [List.foldl_map]
/-- a mapping's texts, in whatever order, make the mapping again -/
theorem again_is {l zs : List BA} (hp : zs.Perm ((toP (newM l)).map (eqText eqS))) : newM zs = newM l := by
  rw [newM_fit zs]
  refine fitM_perm (newM_rises l) ((hp.map nameV).trans ?_)
  rw [List.map_map]
  have : (toP (newM l)).map (nameV ∘ eqText eqS) = newM l := by
    unfold toP
    rw [List.map_map]
    conv => rhs; rw [← List.map_id (newM l)]
    refine List.map_congr_left (fun p hp => ?_)
    show nameV (_ ++ eqS ++ p.2) = p
    rw [nameV_text (by rw [lb_mk]; exact noEq_newM l p hp), lb_mk]
  rw [this]
theorem small_newM {l : List BA} (h : ∀ s ∈ l, s.size ≤ 2147483647) : Small (newM l) ∧ SmallV (newM l) := by
  have go : ∀ (l : List BA) (f : List (Bs × BA)), (∀ s ∈ l, s.size ≤ 2147483647) → Small f ∧ SmallV f → Small (l.foldl (fun f s => mput f (nameV s).1 (nameV s).2) f) ∧ SmallV (l.foldl (fun f s => mput f (nameV s).1 (nameV s).2) f) := by
    intro l
    induction l with
    | nil => intro f _ h; exact h
    | cons s r ih =>
      intro f hl hf
      have hs := hl s (by simp)
      refine ih _ (fun s hs => hl s (by simp [hs])) ⟨small_put hf.1 ?_, smallV_put hf.2 ?_⟩
      · show (lb (cutB 61 s).1).length ≤ _
        rw [lb_length]
        have := cutB_size 61 s
        omega
      · show (cutB 61 s).2.1.size ≤ _
        unfold cutB
        split
        · simp only [ByteArray.size_extract]; omega
        · exact Nat.zero_le _
  exact go l [] h ⟨fun p hp => by simp at hp, fun p hp => by simp at hp⟩
theorem ok_newM {l : List BA} (h : ∀ s ∈ l, s.size ≤ 2147483647) (hn : l.length ≤ 2147483647) : Ok 2147483647 (newM l) := ⟨newM_rises l, (small_newM h).1, Nat.le_trans (newM_length l) hn⟩
theorem eqText_size {f : List (Bs × BA)} (hs : Small f) (hv : SmallV f) {zs : List BA} (hp : zs.Perm ((toP f).map (eqText eqS))) : ∀ z ∈ zs, z.size ≤ 8589934592 := by
  intro z hz
  obtain ⟨p, hp, rfl⟩ := List.mem_map.1 (hp.mem_iff.1 hz)
  have h1 := small_toP hs p hp
  unfold toP at hp
  obtain ⟨q, hq, rfl⟩ := List.mem_map.1 hp
  have h2 := hv q hq
  unfold eqText
  rw [ByteArray.size_append, ByteArray.size_append]
  have : eqS.size = 1 := rfl
  simp only at h1 h2 ⊢
  omega
theorem fits_toP {f : List (Bs × BA)} (h : Small f) (k : SmallV f) : ∀ p ∈ toP f, fits1 p := by
  intro p hp
  refine ⟨small_toP h p hp, ?_⟩
  unfold toP at hp
  obtain ⟨q, hq, rfl⟩ := List.mem_map.1 hp
  exact k q hq
/-- the rows of a mapping, each with its value -/
theorem toO_all (f : List (Bs × BA)) : toO (allO f) = (toP f).map fun p => (p.1, p.2, true) := by
  unfold toO allO toP
  rw [List.map_map, List.map_map]
  rfl
theorem fullO_toO (f : List (Bs × Option BA)) : (fullO (toO f)).length = f.length → f = allO (fullM f) := by
  induction f with
  | nil => intro _; rfl
  | cons p r ih =>
    obtain ⟨k, o⟩ := p
    have hle : (fullO (toO r)).length ≤ r.length := by
      have := List.length_filter_le (fun p : KO => p.2.2) (toO r)
      rw [toO_length] at this
      exact this
    cases o with
    | none =>
      intro h
      have : fullO (toO ((k, none) :: r)) = fullO (toO r) := by simp [fullO, toO]
      rw [this] at h
      simp at h
      omega
    | some v =>
      intro h
      have e : fullO (toO ((k, some v) :: r)) = (⟨k.toArray⟩, v, true) :: fullO (toO r) := by simp [fullO, toO]
      rw [e] at h
      have := ih (by simpa using h)
      have e2 : fullM ((k, some v) :: r) = (k, v) :: fullM r := rfl
      rw [e2]
      unfold allO at this ⊢
      rw [List.map_cons, ← this]
theorem fullM_getD {f : List (Bs × Option BA)} (h : f = allO (fullM f)) : f.map (fun p => (p.1, p.2.getD ⟨#[]⟩)) = fullM f := by
  rw [h]
  generalize fullM f = g
  unfold allO
  rw [List.map_map]
  have : fullM (g.map fun p => (p.1, some p.2)) = g := by
    unfold fullM
    rw [List.filterMap_map]
    have : (fun p : Bs × BA => ((fun p : Bs × Option BA => p.2.map fun v => (p.1, v)) ∘ fun p : Bs × BA => (p.1, some p.2)) p) = some := by funext p; rfl
    show g.filterMap _ = g
    rw [show ((fun p : Bs × Option BA => p.2.map fun v => (p.1, v)) ∘ fun p : Bs × BA => (p.1, some p.2)) = some from this, List.filterMap_some]
  rw [this]
  conv => rhs; rw [← List.map_id g]
  exact List.map_congr_left (fun p _ => rfl)
/-- every name has a value: both kinds of mapping agree -/
theorem all_full {l : List BA} (h : (fullO (toO (newO l))).length = (toO (newO l)).length) : fullM (newO l) = newM l ∧ newO l = allO (newM l) := by
  have h1 := fullO_toO (newO l) (by rw [h, toO_length])
  have h2 := fullM_getD h1
  rw [newO_newM] at h2
  exact ⟨h2.symm, by rw [h2]; exact h1⟩
end Go.Proofs.YtididniafloogaaGreatDoor.Maps
