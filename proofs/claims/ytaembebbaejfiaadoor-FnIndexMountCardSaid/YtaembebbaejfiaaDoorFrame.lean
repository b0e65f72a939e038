/- A frame that names the blocks that may turn; blocks of cells, read and written. -/
import Derived.Test.YtaembebbaejfiaaDoorBuf
namespace Go.Proofs.YtaembebbaejfiaaDoor.Frame
open Go.RowKit Go.Proofs.YtaembebbaejfiaaDoorW.PrintWords Go.Proofs.YtaembebbaejfiaaDoor.Str Go.Proofs.YtaembebbaejfiaaDoor.Kit
set_option linter.unusedVariables false
set_option linter.unusedSimpArgs false

/-- of what was there, the blocks of F alone may have turned -/
structure Turns (F : Nat → Prop) (w w' : World) : Prop where
  os : w'.os = w.os
  tape : w'.tape = w.tape
  output : w'.output = w.output
  size : w.heap.size ≤ w'.heap.size
  block : ∀ k, k < w.heap.size → ¬ F k → w'.heap[k]? = w.heap[k]?
theorem Turns.refl (F : Nat → Prop) (w : World) : Turns F w w := ⟨rfl, rfl, rfl, Nat.le_refl _, fun _ _ _ => rfl⟩
theorem Turns.mono {F G : Nat → Prop} {w w' : World} (h : Turns F w w') (hs : ∀ k, k < w.heap.size → F k → G k) : Turns G w w' :=
  ⟨h.os, h.tape, h.output, h.size, fun k hk hg => h.block k hk (fun hf => hg (hs k hk hf))⟩
theorem Turns.trans {F G : Nat → Prop} {a b c : World} (h : Turns F a b) (k : Turns G b c) (hs : ∀ j, j < a.heap.size → G j → F j) : Turns F a c :=
  ⟨k.os.trans h.os, k.tape.trans h.tape, k.output.trans h.output, Nat.le_trans h.size k.size, fun i hi hn => (k.block i (Nat.lt_of_lt_of_le hi h.size) (fun hg => hn (hs i hi hg))).trans (h.block i hi hn)⟩
theorem Turns.of_below {F : Nat → Prop} {w w' : World} (h : Below w.heap.size w w') : Turns F w w' := ⟨h.os, h.tape, h.output, h.size, fun k hk _ => h.block k hk⟩
theorem Turns.of_grown {w w' : World} {g : Option Nat} (h : w.grownBy w' g) : Turns (fun k => some k = g) w w' := ⟨h.os, h.tape, h.output, h.size, fun k hk hn => h.block k hk hn⟩
theorem Turns.below {F : Nat → Prop} {w0 w w' : World} (h : Turns F w w') (hb : Below w0.heap.size w0 w) (hf : ∀ k, k < w0.heap.size → ¬ F k) : Below w0.heap.size w0 w' :=
  ⟨h.os.trans hb.os, h.tape.trans hb.tape, h.output.trans hb.output, Nat.le_trans hb.size h.size, fun k hk => (h.block k (Nat.lt_of_lt_of_le hk hb.size) (hf k hk)).trans (hb.block k hk)⟩
theorem Turns.none_below {w w' : World} {F : Nat → Prop} (h : Turns F w w') (hf : ∀ k, k < w.heap.size → ¬ F k) : Below w.heap.size w w' := h.below (Below.refl _ w) hf
theorem Turns.setCell (w : World) (b i : Nat) (v : Value) : Turns (fun k => k = b) w (w.setCell ⟨b, i, none⟩ v) :=
  ⟨rfl, rfl, rfl, by simp, fun k _ hn => Go.heap_setCell_other w _ k v hn⟩
theorem Turns.alloc (F : Nat → Prop) (w : World) (o : Obj) : Turns F w (w.alloc o) :=
  Turns.of_below ((Below.refl _ w).alloc (Nat.le_refl _) o)
theorem Turns.obj {F : Nat → Prop} {w w' : World} {k : Nat} {o : Obj} (h : Turns F w w') (hk : w.heap[k]? = some o) (hn : ¬ F k) : w'.heap[k]? = some o :=
  (h.block k (Array.getElem?_eq_some_iff.1 hk).1 hn).trans hk

/-- a block of cells -/
theorem cb_cell {w : World} {b i : Nat} {cs : Array Value} {t : TypeId} {v : Value} (h : w.heap[b]? = some (.cells cs t (0, 0))) (hi : cs[i]? = some v) : w.cell? ⟨b, i, none⟩ = some v := by
  simp [World.cell?, h, hi]
theorem cb_frozen {w : World} {b i : Nat} {cs : Array Value} {t : TypeId} (h : w.heap[b]? = some (.cells cs t (0, 0))) : w.frozen? ⟨b, i, none⟩ = false := by
  simp [World.frozen?, h]
theorem cb_set {w : World} {b i : Nat} {cs : Array Value} {t : TypeId} (h : w.heap[b]? = some (.cells cs t (0, 0))) (v : Value) : (w.setCell ⟨b, i, none⟩ v).heap[b]? = some (.cells (cs.setIfInBounds i v) t (0, 0)) :=
  Go.heap_setCell_same w b i cs t v h
theorem cb_other {w : World} {b k i : Nat} {o : Obj} (h : w.heap[k]? = some o) (hn : k ≠ b) (v : Value) : (w.setCell ⟨b, i, none⟩ v).heap[k]? = some o :=
  (Go.heap_setCell_other w _ k v hn).trans h
theorem cb_alloc {w : World} {k : Nat} {o : Obj} (h : w.heap[k]? = some o) (x : Obj) : (w.alloc x).heap[k]? = some o :=
  ((Below.refl w.heap.size w).alloc (Nat.le_refl _) x).block k (Array.getElem?_eq_some_iff.1 h).1 |>.trans h
theorem cb_new (w : World) (x : Obj) : (w.alloc x).heap[w.heap.size]? = some x := by
  show (w.heap.push x)[w.heap.size]? = _
  simp
theorem cb_lt {w : World} {k : Nat} {o : Obj} (h : w.heap[k]? = some o) : k < w.heap.size := (Array.getElem?_eq_some_iff.1 h).1
end Go.Proofs.YtaembebbaejfiaaDoor.Frame
