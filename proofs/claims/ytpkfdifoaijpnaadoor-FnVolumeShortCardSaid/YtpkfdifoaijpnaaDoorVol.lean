/- A mount in memory, and the functions that fill it. -/
import Derived.Test.YtpkfdifoaijpnaaDoorFrame
import Derived.Test.YtpkfdifoaijpnaaDoorIndex
import Derived.Test.YtpkfdifoaijpnaaDoorShelf
namespace Go.Proofs.YtpkfdifoaijpnaaDoor.Vol
open Go.RowKit Go.Proofs.YtpkfdifoaijpnaaDoorW.PrintWords Go.Proofs.YtpkfdifoaijpnaaDoor.Str Go.Proofs.YtpkfdifoaijpnaaDoor.Kit Go.Proofs.YtpkfdifoaijpnaaDoor.Frame
set_option linter.unusedVariables false
set_option linter.unusedSimpArgs false

/-- what stands behind a mount's pointer Bind -/
structure BindV where
  se : ByteArray
  pr : ByteArray
  ch : Bool
/-- a mount -/
structure VolV where
  typ : ByteArray
  src : ByteArray
  tgt : ByteArray
  ro : Bool
  bind : Option BindV
  own : Option Bool
def at0 (p : Option Nat) : Value := .pointer (p.map fun k => ⟨k, 0, none⟩)
def bindC (x : BindV) : Array Value := #[.string x.se, .string x.pr, .bool x.ch, .string ⟨#[]⟩]
def ownC (n : Bool) : Array Value := #[.map none, .bool n, .string ⟨#[]⟩]
def volC (v : VolV) (pb pv : Option Nat) : Array Value := #[.string v.typ, .string v.src, .string v.tgt, .bool v.ro, .string ⟨#[]⟩, at0 pb, at0 pv, .pointer none]
def BindAt (w : World) (p : Option Nat) (x : Option BindV) : Prop :=
  match p, x with
  | none, none => True
  | some k, some x => w.heap[k]? = some (.cells (bindC x) 53 (0, 0))
  | _, _ => False
def OwnAt (w : World) (p : Option Nat) (x : Option Bool) : Prop :=
  match p, x with
  | none, none => True
  | some k, some x => w.heap[k]? = some (.cells (ownC x) 57 (0, 0))
  | _, _ => False
/-- a mount in block b, what its pointers lead to in blocks pb, pv -/
structure VolAt (w : World) (b : Nat) (pb pv : Option Nat) (v : VolV) : Prop where
  top : w.heap[b]? = some (.cells (volC v pb pv) 46 (0, 0))
  bind : BindAt w pb v.bind
  own : OwnAt w pv v.own
  nb : pb ≠ some b
  nv : pv ≠ some b
  nn : pb = none ∨ pb ≠ pv
def foot (b : Nat) (pb pv : Option Nat) (k : Nat) : Prop := k = b ∨ some k = pb ∨ some k = pv
theorem BindAt.turns {F : Nat → Prop} {w w' : World} {p : Option Nat} {x : Option BindV} (h : BindAt w p x) (ht : Turns F w w') (hn : ∀ k, p = some k → ¬ F k) : BindAt w' p x := by
  unfold BindAt at h ⊢
  split at h
  · trivial
  · exact ht.obj h (hn _ rfl)
  · exact h.elim
theorem OwnAt.turns {F : Nat → Prop} {w w' : World} {p : Option Nat} {x : Option Bool} (h : OwnAt w p x) (ht : Turns F w w') (hn : ∀ k, p = some k → ¬ F k) : OwnAt w' p x := by
  unfold OwnAt at h ⊢
  split at h
  · trivial
  · exact ht.obj h (hn _ rfl)
  · exact h.elim
theorem VolAt.turns {F : Nat → Prop} {w w' : World} {b : Nat} {pb pv : Option Nat} {v : VolV} (h : VolAt w b pb pv v) (ht : Turns F w w') (hn : ∀ k, foot b pb pv k → ¬ F k) : VolAt w' b pb pv v :=
  ⟨ht.obj h.top (hn _ (.inl rfl)), h.bind.turns ht (fun k hk => hn k (.inr (.inl hk.symm))), h.own.turns ht (fun k hk => hn k (.inr (.inr hk.symm))), h.nb, h.nv, h.nn⟩
/-- a field of the mount itself is set -/
theorem VolAt.put {w : World} {b : Nat} {pb pv : Option Nat} {v v' : VolV} (h : VolAt w b pb pv v) (i : Nat) (x : Value) (hc : (volC v pb pv).setIfInBounds i x = volC v' pb pv) (h1 : v'.bind = v.bind) (h2 : v'.own = v.own) :
    VolAt (w.setCell ⟨b, i, none⟩ x) b pb pv v' := by
  have ht := Turns.setCell w b i x
  refine ⟨by rw [cb_set h.top, hc], ?_, ?_, h.nb, h.nv, h.nn⟩
  · rw [h1]; exact h.bind.turns ht (fun k hk e => h.nb (by rw [hk, e]))
  · rw [h2]; exact h.own.turns ht (fun k hk e => h.nv (by rw [hk, e]))
/-- a new Bind -/
theorem VolAt.newBind {w : World} {b : Nat} {pb pv : Option Nat} {v : VolV} (h : VolAt w b pb pv v) (x : BindV) :
    VolAt ((w.setCell ⟨b, 5, none⟩ (.pointer (some ⟨w.heap.size, 0, none⟩))).alloc (.cells (bindC x) 53)) b (some w.heap.size) pv { v with bind := some x } := by
  have hb := cb_lt h.top
  rw [← World.setCell_alloc_past (w := w) (.cells (bindC x) 53) b 5 _ hb]
  have ht : Turns (fun k => k = b) w ((w.alloc (.cells (bindC x) 53)).setCell ⟨b, 5, none⟩ (.pointer (some ⟨w.heap.size, 0, none⟩))) :=
    (Turns.alloc _ w _).trans (Turns.setCell _ b 5 _) (fun _ _ h => h)
  refine ⟨?_, ?_, h.own.turns ht (fun k hk e => h.nv (by rw [hk, e])), by intro e; injection e with e; omega, h.nv, .inr ?_⟩
  · rw [cb_set (cb_alloc h.top _)]
    rfl
  · exact cb_other (cb_new w _) (by omega) _
  · intro e
    have ho := h.own
    rw [← e] at ho
    unfold OwnAt at ho
    split at ho
    · rename_i e1 _; cases e1
    · rename_i e1 _; injection e1 with e1; subst e1; have := cb_lt ho; omega
    · exact ho
/-- a new Volume -/
theorem VolAt.newOwn {w : World} {b : Nat} {pb pv : Option Nat} {v : VolV} (h : VolAt w b pb pv v) (x : Bool) :
    VolAt ((w.setCell ⟨b, 6, none⟩ (.pointer (some ⟨w.heap.size, 0, none⟩))).alloc (.cells (ownC x) 57)) b pb (some w.heap.size) { v with own := some x } := by
  have hb := cb_lt h.top
  rw [← World.setCell_alloc_past (w := w) (.cells (ownC x) 57) b 6 _ hb]
  have ht : Turns (fun k => k = b) w ((w.alloc (.cells (ownC x) 57)).setCell ⟨b, 6, none⟩ (.pointer (some ⟨w.heap.size, 0, none⟩))) :=
    (Turns.alloc _ w _).trans (Turns.setCell _ b 6 _) (fun _ _ h => h)
  refine ⟨?_, h.bind.turns ht (fun k hk e => h.nb (by rw [hk, e])), ?_, h.nb, by intro e; injection e with e; omega, ?_⟩
  · rw [cb_set (cb_alloc h.top _)]
    rfl
  · exact cb_other (cb_new w _) (by omega) _
  · rcases h.nn with e | _
    · exact .inl e
    · right
      intro e
      have ho := h.bind
      rw [e] at ho
      unfold BindAt at ho
      split at ho
      · rename_i e1 _; cases e1
      · rename_i e1 _; injection e1 with e1; subst e1; have := cb_lt ho; omega
      · exact ho
/-- a field of Bind is set -/
theorem VolAt.putBind {w : World} {b k : Nat} {pv : Option Nat} {v : VolV} {x x' : BindV} (h : VolAt w b (some k) pv v) (hx : v.bind = some x) (i : Nat) (y : Value) (hc : (bindC x).setIfInBounds i y = bindC x') :
    VolAt (w.setCell ⟨k, i, none⟩ y) b (some k) pv { v with bind := some x' } := by
  have hb := h.bind
  rw [hx] at hb
  have ht := Turns.setCell w k i y
  have hkb : b ≠ k := fun e => h.nb (by rw [e])
  refine ⟨cb_other h.top hkb _, ?_, h.own.turns ht (fun j hj e => ?_), h.nb, h.nv, h.nn⟩
  · show (w.setCell ⟨k, i, none⟩ y).heap[k]? = _
    rw [cb_set hb, hc]
  · rcases h.nn with e1 | e1
    · cases e1
    · exact e1 (by rw [hj, e])
end Go.Proofs.YtpkfdifoaijpnaaDoor.Vol
