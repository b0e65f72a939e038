/- Laws of the walk in the form in which this session's walks ask for them. -/
import Derived.Test.YtaembebbaejfiaaDoorStr
import Derived.Test.YtaembebbaejfiaaDoorProg
import Derived.Test.YtaembebbaejfiaaDoorWMore
import Derived.BigQuiet
import Derived.Deep.QuietTactic
namespace Go.Proofs.YtaembebbaejfiaaDoor.Kit
open Go.RowKit Go.Proofs.YtaembebbaejfiaaDoorW.PrintWords Go.Proofs.YtaembebbaejfiaaDoor.Str
set_option linter.unusedVariables false
set_option linter.unusedSimpArgs false

theorem hb_then {w w1 w2 : World} (h : Below w.heap.size w w1) (k : Below w1.heap.size w1 w2) : Below w.heap.size w w2 := below_then h h.size k

section
variable {P : Program} {ops : Array Oper} {rest : List Oper} {o : Oper} {a : Act} {Q : Exit → Act → World → Prop} {α : Type}
/-- append(v, x) of one scalar to a row of the call's own; behind 'at_builtin' -/
theorem append_scalar (enc : α → Value) (h1 : ∀ x, (enc x).oneCell' = true) {w0 W : World} (t e : TypeId) (z : Value) (bytes : Nat)
    (ht : P.underlying t = some (.slice e)) (hinfo : (P.info? e).map (fun i => (i.zero, i.size, i.bytes)) = some (some z, 1, bytes)) (hz : z.cells.size = 1) (hb0 : 0 < bytes)
    (hgd : o.guard = none) (s x : Operand) (ho : o.op = .call { callee := .builtin .append, args := #[s, x], argTypes := #[t, t] })
    (v : Value) (xs : List α) (p : α) (hs : a.eval s = v) (hx : a.eval x = .slice (some ⟨W.heap.size, 0, none⟩) 1 1)
    (HO : (Kd.scalar enc h1).R e W w0.heap.size (fun _ => True) v xs) (HB : Below w0.heap.size w0 W) (hl : (xs.length + 1) * bytes ≤ 140737488355328)
    (h : ∀ v1 w1, (Kd.scalar enc h1).R e w1 w0.heap.size (fun _ => True) v1 (xs ++ [p]) → Below w0.heap.size w0 w1 → W.grownBy w1 v.ownBlock → wpList P ops Q rest (a.put o.dst v1) w1) :
    wpList P ops Q (o :: rest) a (W.alloc (.cells #[enc p] e)) :=
  Kd.R_append (Kd.scalar enc h1) w0.heap.size hgd s x t e z bytes ho ht hinfo hz (show 0 < 1 by decide) hb0 v xs p [enc p] (fun _ => True) (fun _ => False) hs hx rfl (fun _ hk => hk.elim) (fun _ _ => trivial) HO HB HB.size hl
    (fun v1 w1 h2 h3 h4 _ => h v1 w1 h2 h3 h4)
end

/-- make([]T, 0, n): an empty row of the call's own -/
theorem run_make_cap {P : Program} (t e : TypeId) (z : Value) (sz bytes : Nat) (ht : P.underlying t = some (.slice e)) (hinfo : (P.info? e).map (fun i => (i.zero, i.size, i.bytes)) = some (some z, sz, bytes))
    (n : Nat) (hn : bytes * n ≤ 281474976710656) (hn2 : n ≤ 9223372036854775807) :
    ∀ W : World, (Instr.makeSlice t (.int .i64 0) (.int .i64 (n : Int))).run P W = .ok (.slice (some ⟨W.heap.size, 0, none⟩) 0 n) (W.alloc (.cells (madeCells z.cells (n * sz)) e)) := by
  intro W
  obtain ⟨i, hi, hzz⟩ := Option.map_eq_some_iff.1 hinfo
  simp only [Prod.mk.injEq] at hzz
  obtain ⟨hz, hs, hb⟩ := hzz
  have hb' : (i.bytes : Int) * (n : Int) ≤ 281474976710656 := by
    have h : ((i.bytes * n : Nat) : Int) ≤ 281474976710656 := by rw [hb]; omega
    rwa [Int.natCast_mul] at h
  have hr := run_make (P := P) W t e i z ht hi hz .i64 .i64 0 n (by omega) (by omega) hb' (by omega)
  simp only [Int.toNat_natCast, Int.toNat_zero, hs] at hr
  exact hr
theorem own_made_cap {α : Type} (d : Kd α) (W : World) (base : Nat) (e : TypeId) (z : Array Value) (n : Nat) (hb : base ≤ W.heap.size) (hn : n ≤ 9223372036854775807) :
    d.R e (W.alloc (.cells (madeCells z (n * d.sz)) e)) base (fun _ => True) (.slice (some ⟨W.heap.size, 0, none⟩) 0 n) [] := by
  refine ⟨fun _ _ => trivial, [], ⟨by simp, .inr ⟨W.heap.size, n, madeCells z (n * d.sz), rfl, hb, ?_, Nat.zero_le _, by unfold maxLen; omega, size_madeCells _ _, by simp⟩⟩, Reps.none _ _⟩
  exact (heap_alloc_new W _)

theorem info_string : (Tryd.prog.info? 9).map (fun i => (i.zero, i.size, i.bytes)) = some (some (.string ⟨#[]⟩), 1, 16) := by kernel_rfl
section
variable {ops : Array Oper} {rest : List Oper} {o : Oper} {a : Act} {Q : Exit → Act → World → Prop}
/-- append of one string, to a row whose blocks are ok -/
theorem append_strO {w0 W : World} {ok : Nat → Prop} (hfresh : ∀ k, W.heap.size ≤ k → ok k) (s x : Operand) (hgd : o.guard = none) (ho : o.op = .call { callee := .builtin .append, args := #[s, x], argTypes := #[25, 25] })
    {v : Value} {xs : List ByteArray} {p : ByteArray} (hs : a.eval s = v) (hx : a.eval x = .slice (some ⟨W.heap.size, 0, none⟩) 1 1)
    (HO : Kd.string.R 9 W w0.heap.size ok v xs) (HB : Below w0.heap.size w0 W) (hl : xs.length < 8796093022207)
    (h : ∀ v1 w1, Kd.string.R 9 w1 w0.heap.size ok v1 (xs ++ [p]) → Below w0.heap.size w0 w1 → W.grownBy w1 v.ownBlock → wpList Tryd.prog ops Q rest (a.put o.dst v1) w1) :
    wpList Tryd.prog ops Q (o :: rest) a (W.alloc (.cells #[.string p] 9)) :=
  Kd.R_append (Kd.scalar Value.string (fun _ => rfl)) w0.heap.size hgd s x 25 9 (.string ⟨#[]⟩) 16 ho Tryd.underlying25 info_string rfl (show 0 < 1 by decide) (by decide) v xs p [.string p] ok (fun _ => False) hs hx rfl (fun _ hk => hk.elim) hfresh HO HB HB.size (by omega)
    (fun v1 w1 h2 h3 h4 _ => h v1 w1 h2 h3 h4)
/-- append of a row of strings -/
theorem append_strs {w0 W : World} {ok : Nat → Prop} (hfresh : ∀ k, W.heap.size ≤ k → ok k) (s x : Operand) (hgd : o.guard = none) (ho : o.op = .call { callee := .builtin .append, args := #[s, x], argTypes := #[25, 25] })
    {v : Value} {xs ys : List ByteArray} {A : Option Addr} {m c : Nat} (hs : a.eval s = v) (hx : a.eval x = .slice A m c)
    (HO : Kd.string.R 9 W w0.heap.size ok v xs) (HR : Kd.string.C W A m ys) (HB : Below w0.heap.size w0 W) (hl : xs.length + m < 8796093022207)
    (h : ∀ v1 w1, Kd.string.R 9 w1 w0.heap.size ok v1 (xs ++ ys) → Below w0.heap.size w0 w1 → W.grownBy w1 v.ownBlock → (v1.ownBlock = v.ownBlock ∨ ∃ b, v1.ownBlock = some b ∧ W.heap.size ≤ b) → wpList Tryd.prog ops Q rest (a.put o.dst v1) w1) :
    wpList Tryd.prog ops Q (o :: rest) a W :=
  Kd.R_append_row Value.string ByteArray.empty (h1 := fun _ => rfl) w0.heap.size hgd s x 25 9 (.string ⟨#[]⟩) 16 ho Tryd.underlying25 info_string rfl (by decide) v xs ys A m c ok hs hx hfresh HO HR HB HB.size (by omega) h
/-- an empty literal -/
theorem own_empty {α : Type} (d : Kd α) {w : World} {base : Nat} {e : TypeId} {ok : Nat → Prop} (hb : base ≤ w.heap.size) (hok : ok w.heap.size) : d.R e (w.alloc (.cells #[] e)) base ok (.slice (some ⟨w.heap.size, 0, none⟩) 0 0) [] := by
  refine ⟨fun k hk => ?_, [], ⟨by simp, .inr ⟨w.heap.size, 0, #[], rfl, hb, heap_alloc_new w _, Nat.le_refl _, by unfold maxLen; omega, by simp, by simp⟩⟩, Reps.none _ _⟩
  have : w.heap.size = k := by simpa [Value.ownBlock] using hk
  subst this; exact hok
/-- append of one string, to a row of a type of strings -/
theorem append_strT {w0 W : World} (t e : TypeId) (ht : Tryd.prog.underlying t = some (.slice e)) (hinfo : (Tryd.prog.info? e).map (fun i => (i.zero, i.size, i.bytes)) = some (some (.string ⟨#[]⟩), 1, 16)) (s x : Operand) (hgd : o.guard = none) (ho : o.op = .call { callee := .builtin .append, args := #[s, x], argTypes := #[t, t] })
    {v : Value} {xs : List ByteArray} {p : ByteArray} (hs : a.eval s = v) (hx : a.eval x = .slice (some ⟨W.heap.size, 0, none⟩) 1 1)
    (HO : Kd.string.R e W w0.heap.size (fun _ => True) v xs) (HB : Below w0.heap.size w0 W) (hl : xs.length < 8796093022207)
    (h : ∀ v1 w1, Kd.string.R e w1 w0.heap.size (fun _ => True) v1 (xs ++ [p]) → Below w0.heap.size w0 w1 → W.grownBy w1 v.ownBlock → wpList Tryd.prog ops Q rest (a.put o.dst v1) w1) :
    wpList Tryd.prog ops Q (o :: rest) a (W.alloc (.cells #[.string p] e)) :=
  append_scalar Value.string (fun _ => rfl) t e (.string ⟨#[]⟩) 16 ht hinfo rfl (by decide) hgd s x ho v xs p hs hx HO HB (by omega) h
/-- append of one string -/
theorem append_str {w0 W : World} (s x : Operand) (hgd : o.guard = none) (ho : o.op = .call { callee := .builtin .append, args := #[s, x], argTypes := #[25, 25] })
    {v : Value} {xs : List ByteArray} {p : ByteArray} (hs : a.eval s = v) (hx : a.eval x = .slice (some ⟨W.heap.size, 0, none⟩) 1 1)
    (HO : Kd.string.R 9 W w0.heap.size (fun _ => True) v xs) (HB : Below w0.heap.size w0 W) (hl : xs.length < 8796093022207)
    (h : ∀ v1 w1, Kd.string.R 9 w1 w0.heap.size (fun _ => True) v1 (xs ++ [p]) → Below w0.heap.size w0 w1 → W.grownBy w1 v.ownBlock → wpList Tryd.prog ops Q rest (a.put o.dst v1) w1) :
    wpList Tryd.prog ops Q (o :: rest) a (W.alloc (.cells #[.string p] 9)) :=
  append_scalar Value.string (fun _ => rfl) 25 9 (.string ⟨#[]⟩) 16 Tryd.underlying25 info_string rfl (by decide) hgd s x ho v xs p hs hx HO HB (by omega) h
end
end Go.Proofs.YtaembebbaejfiaaDoor.Kit
