/- Rows of bytes of the call's own ([]byte that is appended to and turned into a string). -/
import Derived.Test.YtaembebbaejfiaaDoorRowstr
namespace Go.Proofs.YtaembebbaejfiaaDoor.Kit
open Go.RowKit Go.Proofs.YtaembebbaejfiaaDoorW.PrintWords Go.Proofs.YtaembebbaejfiaaDoor.Str
set_option linter.unusedVariables false
set_option linter.unusedSimpArgs false

def bnums (l : Bs) : List Int := l.map fun b => (b.toNat : Int)
theorem bnums_append (l m : Bs) : bnums (l ++ m) = bnums l ++ bnums m := by simp [bnums]
theorem bnums_length (l : Bs) : (bnums l).length = l.length := by simp [bnums]
theorem str_bnums (l : Bs) : strOfNums (bnums l) = ⟨l.toArray⟩ := by
  apply lb_inj
  rw [lb_mk, lb, strOfNums_data, bnums, List.map_map]
  conv => rhs; rw [← List.map_id l]
  refine List.map_congr_left fun x _ => ?_
  simp
/-- a row of bytes of the call's own -/
def Buf (w : World) (base : Nat) (v : Value) (l : Bs) : Prop := w.ownsRow base 5 1 v l.length (nums .u8 (bnums l))
theorem Buf.nil (w : World) (base : Nat) : Buf w base (.slice none 0 0) [] := own_nil _ _ _ _
theorem Buf.below {w w' : World} {base : Nat} {v : Value} {l : Bs} (h : Buf w base v l) (hb : Below w.heap.size w w') : Buf w' base v l := pw_own_below h hb
theorem Buf.slice {w : World} {base : Nat} {v : Value} {l : Bs} (h : Buf w base v l) : ∃ A c, v = .slice A l.length c := own_slice h
theorem info_byte : (Tryd.prog.info? 5).map (fun i => (i.zero, i.size, i.bytes)) = some (some (.int .u8 0), 1, 1) := by kernel_rfl
theorem Buf.string {w : World} {base : Nat} {v : Value} {l : Bs} (h : Buf w base v l) : (convert 71 9 v).run Tryd.prog w = .ok (.string ⟨l.toArray⟩) w := by
  rw [← str_bnums]
  exact own_string Tryd.underlying71 Tryd.underlying5 Tryd.underlying9 h
section
variable {ops : Array Oper} {rest : List Oper} {o : Oper} {a : Act} {Q : Exit → Act → World → Prop}
/-- append of a string's bytes -/
theorem append_bufS {w0 W : World} (s x : Operand) (hgd : o.guard = none) (ho : o.op = .call { callee := .builtin .append, args := #[s, x], argTypes := #[71, 9] })
    {v : Value} {l : Bs} {y : ByteArray} (hs : a.eval s = v) (hx : a.eval x = .string y) (HO : Buf W w0.heap.size v l) (HB : Below w0.heap.size w0 W) (hl : l.length + y.size ≤ 140737488355328)
    (h : ∀ v1 w1, Buf w1 w0.heap.size v1 (l ++ lb y) → Below w0.heap.size w0 w1 → W.grownBy w1 v.ownBlock → wpList Tryd.prog ops Q rest (a.put o.dst v1) w1) :
    wpList Tryd.prog ops Q (o :: rest) a W := by
  refine print_append_str (w0 := w0) w0.heap.size hgd s x 71 9 5 ho Tryd.underlying71 Tryd.underlying9 info_byte v (bnums l) y hs hx (by rw [bnums_length]; exact HO) HB HB.size (by rw [bnums_length]; exact hl) ?_
  intro v1 w1 hown hb hg
  refine h v1 w1 ?_ hb hg
  unfold Buf
  rw [bnums_append]
  have e : bnums (lb y) = bytesOf y := rfl
  rw [e]
  have e2 : (l ++ lb y).length = (bnums l ++ bytesOf y).length := by rw [List.length_append, List.length_append, bnums_length, bytesOf_length, lb_length]
  rw [e2]
  exact hown
/-- append of one byte -/
theorem append_bufB {w0 W : World} (s x : Operand) (hgd : o.guard = none) (ho : o.op = .call { callee := .builtin .append, args := #[s, x], argTypes := #[71, 71] })
    {v : Value} {l : Bs} {n : Int} (b : UInt8) (hn : n = (b.toNat : Int)) (hs : a.eval s = v) (hx : a.eval x = .slice (some ⟨W.heap.size, 0, none⟩) 1 1) (HO : Buf W w0.heap.size v l) (HB : Below w0.heap.size w0 W) (hl : l.length + 1 ≤ 140737488355328)
    (h : ∀ v1 w1, Buf w1 w0.heap.size v1 (l ++ [b]) → Below w0.heap.size w0 w1 → W.grownBy w1 v.ownBlock → wpList Tryd.prog ops Q rest (a.put o.dst v1) w1) :
    wpList Tryd.prog ops Q (o :: rest) a (W.alloc (.cells #[.int .u8 n] 5)) := by
  subst hn
  refine print_append_num (w0 := w0) w0.heap.size hgd s x 71 5 .u8 1 ho Tryd.underlying71 info_byte (by decide) v (bnums l) b.toNat hs hx (by rw [bnums_length]; exact HO) HB HB.size (by rw [bnums_length]; omega) ?_
  intro v1 w1 hown hb hg _
  refine h v1 w1 ?_ hb hg
  unfold Buf
  rw [bnums_append]
  have e2 : (l ++ [b]).length = (bnums l ++ [(b.toNat : Int)]).length := by rw [List.length_append, List.length_append, bnums_length]; rfl
  rw [e2]
  exact hown
end
end Go.Proofs.YtaembebbaejfiaaDoor.Kit
