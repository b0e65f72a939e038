/- spec.With: what is known while its two rows and its block are made. -/
import Derived.Test.YtaembebbaejfiaaDoorMapOne
import Derived.Test.YtaembebbaejfiaaDoorPlace
import Derived.Deep.MidRow
namespace Go.Proofs.YtaembebbaejfiaaDoor.Val
open Go.RowKit Go.Proofs.YtaembebbaejfiaaDoorW.PrintWords Go.Proofs.YtaembebbaejfiaaDoorW.PrintLast Go.Proofs.YtaembebbaejfiaaDoor.Str Go.Proofs.YtaembebbaejfiaaDoor.Kit Go.Proofs.YtaembebbaejfiaaDoor.MapV Go.Proofs.YtaembebbaejfiaaDoor.Frame Go.Proofs.YtaembebbaejfiaaDoor.PFnIndexMount Go.Proofs.YtaembebbaejfiaaDoor.Mount
set_option linter.unusedVariables false
set_option linter.unusedSimpArgs false
def zerosV : Array Value := #[.int .i64 0, .int .i64 0, .string ⟨#[]⟩, .slice none 0 0, .slice none 0 0]
/-- a row of the call's own, in block b -/
def Has {α : Type} (d : Kd α) (e : Nat) (W0 w : World) (v : Value) (xs : List α) (b : Nat) : Prop := d.R e w W0.heap.size (fun _ => True) v xs ∧ v.ownBlock = some b ∧ b < w.heap.size ∧ W0.heap.size ≤ b
/-- a block of zeroes -/
def HasZ (W0 w : World) (g : Nat) : Prop := w.heap[g]? = some (.cells zerosV 32 (0, 0)) ∧ W0.heap.size ≤ g
section
variable {α : Type} {d : Kd α} {e : Nat} {W0 w w1 : World} {v : Value} {xs ys : List α} {b b' g : Nat}
theorem Has.new (hB : Below W0.heap.size W0 w) : Has d e W0 (w.alloc (.cells #[] e)) (.slice (some ⟨w.heap.size, 0, none⟩) 0 0) [] w.heap.size :=
  ⟨own_empty d hB.size trivial, rfl, by rw [World.size_alloc]; omega, hB.size⟩
theorem HasZ.new (hB : Below W0.heap.size W0 w) : HasZ W0 (w.alloc (.cells zerosV 32)) w.heap.size := ⟨cb_new _ _, hB.size⟩
theorem Has.alloc (h : Has d e W0 w v xs b) (o : Obj) : Has d e W0 (w.alloc o) v xs b := ⟨Kd.R_alloc h.1 o, h.2.1, by rw [World.size_alloc]; have := h.2.2.1; omega, h.2.2.2⟩
theorem HasZ.alloc (h : HasZ W0 w g) (o : Obj) : HasZ W0 (w.alloc o) g := ⟨((below_alloc (Below.refl _ w) o).block _ (cb_lt h.1)).trans h.1, h.2⟩
theorem Has.ne_new (h : Has d e W0 w v xs b) : b ≠ w.heap.size := by have := h.2.2.1; omega
theorem HasZ.ne_new (h : HasZ W0 w g) : g ≠ w.heap.size := by have := cb_lt h.1; omega
/-- another row has grown: those whose elements lead to no memory of the call's own -/
theorem Has.grown (hk : ∀ (w : World) (base : Nat) (ok ok' : Nat → Prop) x cs, d.M w base ok x cs → d.M w base ok' x cs) (h : Has d e W0 w v xs b) (hg : w.grownBy w1 (some b')) (hn : b ≠ b') : Has d e W0 w1 v xs b := by
  obtain ⟨⟨h0, inner, ho, hr⟩, hb, hlt, hle⟩ := h
  have h2 : d.R e w W0.heap.size (fun k => k = b) v xs := ⟨fun k hk => by rw [hb] at hk; injection hk with hk; exact hk.symm, inner, ho, hr.imp_ (fun x cs hx => hk _ _ _ _ x cs hx)⟩
  have h3 := Kd.R_grown h2 hg (fun k hk => by rw [hk]; exact fun e => hn (Option.some.inj e))
  exact ⟨Kd.R_mono h3 (fun _ _ => trivial), hb, by have := hg.size; omega, hle⟩
theorem HasZ.grown (h : HasZ W0 w g) (hg : w.grownBy w1 (some b')) (hn : g ≠ b') : HasZ W0 w1 g := ⟨(hg.block _ (cb_lt h.1) (fun e => hn (Option.some.inj e))).trans h.1, h.2⟩
/-- the row itself has grown -/
theorem Has.grew (h : Has d e W0 w v xs b) {v1 : Value} (h1 : d.R e w1 W0.heap.size (fun _ => True) v1 ys) (hg : w.grownBy w1 v.ownBlock) (hat : v1.ownBlock = v.ownBlock ∨ ∃ b, v1.ownBlock = some b ∧ w.heap.size ≤ b) :
    ∃ b1, Has d e W0 w1 v1 ys b1 ∧ (b1 = b ∨ w.heap.size ≤ b1) := by
  rcases hat with hat | ⟨b1, hat, hle⟩
  · exact ⟨b, ⟨h1, hat.trans h.2.1, by have := hg.size; have := h.2.2.1; omega, h.2.2.2⟩, .inl rfl⟩
  · have hlt := (Kd.R_bound h1).1 b1 hat
    exact ⟨b1, ⟨h1, hat, hlt.2.2.1, hlt.2.1⟩, .inr hle⟩
end
section
variable {P : Program} {ops : Array Oper} {o : Oper} {a : Act} {Q : Exit → Act → World → Prop} {Kc : Act → World → Prop} {w : World}
/-- the store of a whole struct into its block, within a region that draws -/
theorem store_row_step (hw : Region.wanted o (yielded ops a.tmps) = true) (hN : o.dst = none) (ty : TypeId) (x y : Operand) (ho : o.op = .store ty x y) (g : Nat) (cells : Array Value) (hx : a.eval x = .pointer (some ⟨g, 0, none⟩)) (hy : a.eval y = .agg cells)
    (t : TypeId) (old : Array Value) (hg : w.heap[g]? = some (.cells old t (0, 0))) (hi : (P.info? ty).map (·.size) = some cells.size) (hold : old.size = cells.size) (h1 : cells.all (·.oneCell') = true)
    (h : Kc a (w.setRow g cells)) : if Region.wanted o (yielded ops a.tmps) = true then Oper.wp P o a w Kc Q else Kc (a.put none undef) w := by
  rw [if_pos hw]
  refine wp_store_row ty x y ho g cells hx hy t old hg hi hold h1 ?_
  rw [hN]
  exact h
theorem grown_setRow (w : World) (g : Nat) (cs : Array Value) : w.grownBy (w.setRow g cs) (some g) := ⟨rfl, rfl, rfl, by simp, fun k _ hn => setRow_other w g k cs (fun e => hn (by rw [e]))⟩
end
theorem val_size : (Tryd.prog.info? 32).map (fun i => i.size) = some 5 := by kernel_rfl
theorem val_one (k n : Int) (t : ByteArray) (A3 A4 : Option Addr) (n3 c3 n4 c4 : Nat) : (#[Value.int .i64 k, Value.int .i64 n, Value.string t, Value.slice A3 n3 c3, Value.slice A4 n4 c4] : Array Value).all (fun v => v.oneCell') = true :=
  all_oneCell_toArray (cs := [Value.int .i64 k, Value.int .i64 n, Value.string t, Value.slice A3 n3 c3, Value.slice A4 n4 c4]) (fun v hv => by simp at hv; rcases hv with rfl | rfl | rfl | rfl | rfl <;> rfl)
theorem Has.below {α : Type} {d : Kd α} {e : Nat} {W0 w w1 : World} {v : Value} {xs : List α} {b : Nat} (h : Has d e W0 w v xs b) (hb : Below w.heap.size w w1) : Has d e W0 w1 v xs b := ⟨Kd.R_below h.1 hb, h.2.1, Nat.lt_of_lt_of_le h.2.2.1 hb.size, h.2.2.2⟩
theorem Has.slice {α : Type} {d : Kd α} {e : Nat} {W0 w : World} {v : Value} {xs : List α} {b : Nat} (h : Has d e W0 w v xs b) : ∃ c, v = .slice (some ⟨b, 0, none⟩) xs.length c := by
  obtain ⟨⟨_, inner, ho, _⟩, hb, _⟩ := h
  rcases ho.2 with ⟨rfl, _⟩ | ⟨g', cap, cur, rfl, _⟩
  · simp [Value.ownBlock] at hb
  · have : g' = b := by simpa [Value.ownBlock] using hb
    subst this
    exact ⟨cap, rfl⟩
theorem one_str (w : World) (base : Nat) (e : TypeId) (hb : base ≤ w.heap.size) (p : ByteArray) : Kd.string.R e (w.alloc (.cells #[.string p] e)) base (fun _ => True) (.slice (some ⟨w.heap.size, 0, none⟩) 1 1) [p] := by
  refine ⟨fun _ _ => trivial, [.string p], ⟨rfl, .inr ⟨w.heap.size, 1, _, rfl, hb, cb_new _ _, Nat.le_refl _, by unfold maxLen; omega, rfl, rfl⟩⟩, rfl, fun j q hq => ?_⟩
  have hj : j = 0 := by
    have := (List.getElem?_eq_some_iff.1 hq).1
    simp at this
    exact this
  subst hj
  injection hq with hq
  subst hq
  rfl
theorem one_val (W0 w : World) (base : Nat) (e : TypeId) (hb : base ≤ w.heap.size) (x : VS) {cs : List Value} (hx : kS.K W0 x cs) : (Kd.fixed kS W0).R e (w.alloc (.cells cs.toArray e)) base (fun _ => True) (.slice (some ⟨w.heap.size, 0, none⟩) 1 1) [x] := by
  have hl : cs.length = 5 := kS.K_len hx
  refine ⟨fun _ _ => trivial, cs, ⟨by rw [hl]; rfl, .inr ⟨w.heap.size, 1, _, rfl, hb, cb_new _ _, Nat.le_refl _, by unfold maxLen; omega, by simp [hl]; rfl, by simp; exact List.take_of_length_le (show cs.length ≤ 5 by omega)⟩⟩, by rw [hl]; rfl, fun j q hq => ?_⟩
  have hj : j = 0 := by
    have := (List.getElem?_eq_some_iff.1 hq).1
    simp at this
    exact this
  subst hj
  injection hq with hq
  subst hq
  show kS.K W0 x ((cs.drop (0 * 5)).take 5)
  rw [Nat.zero_mul, List.drop_zero, List.take_of_length_le (by rw [hl]; decide)]
  exact hx
theorem ne_grew {a b b1 S : Nat} (hn : a ≠ b) (hl : a < S) (h : b1 = b ∨ S ≤ b1) : a ≠ b1 := by
  rcases h with rfl | h
  · exact hn
  · omega
theorem grown_setCell (w : World) (g j : Nat) (u : Value) : w.grownBy (w.setCell ⟨g, j, none⟩ u) (some g) := ⟨rfl, rfl, rfl, by simp, fun k _ hn => Below.heap_setCell w ⟨g, j, none⟩ u k (fun e => hn (by rw [e]))⟩
section
variable {ops : Array Oper} {rest : List Oper} {o : Oper} {a : Act} {Q : Exit → Act → World → Prop}
theorem load_val {w : World} {b : Nat} {k n : Int} {t : ByteArray} {A3 A4 : Option Addr} {n3 c3 n4 c4 : Nat} (x : Operand) (hgd : o.guard = none) (ho : o.op = .load 32 x) (hx : a.eval x = .pointer (some ⟨b, 0, none⟩)) (hb : w.heap[b]? = some (.cells #[.int .i64 k, .int .i64 n, .string t, .slice A3 n3 c3, .slice A4 n4 c4] 32 (0, 0)))
    (h : wpList Tryd.prog ops Q rest (a.put o.dst (.agg #[.int .i64 k, .int .i64 n, .string t, .slice A3 n3 c3, .slice A4 n4 c4])) w) : wpList Tryd.prog ops Q (o :: rest) a w :=
  wpList_load_row hgd _ x ho b hx _ _ _ _ hb Tryd.underlying32 rfl val_size h
theorem store_val {w : World} {b : Nat} {k n : Int} {t : ByteArray} {A3 A4 : Option Addr} {n3 c3 n4 c4 : Nat} {k' n' : Int} {t' : ByteArray} {A3' A4' : Option Addr} {n3' c3' n4' c4' : Nat} (x y : Operand) (hgd : o.guard = none) (ho : o.op = .store 32 x y) (hx : a.eval x = .pointer (some ⟨b, 0, none⟩)) (hy : a.eval y = .agg #[.int .i64 k, .int .i64 n, .string t, .slice A3 n3 c3, .slice A4 n4 c4]) (hb : w.heap[b]? = some (.cells #[.int .i64 k', .int .i64 n', .string t', .slice A3' n3' c3', .slice A4' n4' c4'] 32 (0, 0)))
    (h : wpList Tryd.prog ops Q rest (a.put o.dst undef) (w.setRow b #[.int .i64 k, .int .i64 n, .string t, .slice A3 n3 c3, .slice A4 n4 c4])) : wpList Tryd.prog ops Q (o :: rest) a w :=
  wpList_store_row hgd _ x y ho b _ hx hy _ _ hb val_size rfl (val_one _ _ _ _ _ _ _ _ _) h
end
theorem val_result {fn : Func} {p : Tmp} (hr : fn.results = #[.cell p 32]) {tmps : Array Value} {w : World} {b : Nat} {k n : Int} {t : ByteArray} {A3 A4 : Option Addr} {n3 c3 n4 c4 : Nat} (hp : tmps.getD p undef = .pointer (some ⟨b, 0, none⟩)) (hb : w.heap[b]? = some (.cells #[.int .i64 k, .int .i64 n, .string t, .slice A3 n3 c3, .slice A4 n4 c4] 32 (0, 0))) :
    (results fn tmps).run Tryd.prog w = .ok (.agg #[.int .i64 k, .int .i64 n, .string t, .slice A3 n3 c3, .slice A4 n4 c4]) w :=
  results_cell_row hr tmps w b _ _ _ _ hp hb Tryd.underlying32 rfl val_size
end Go.Proofs.YtaembebbaejfiaaDoor.Val
