/- ParseVolume, of texts of ASCII without dollar signs. -/
import Derived.Test.YtpkfdifoaijpnaaDoorVolPop
import Derived.Lib.OthersKept
import Derived.Laws.Tables
import Derived.Laws.ResultCell
namespace Go.Proofs.YtpkfdifoaijpnaaDoor.Vol
open Go.RowKit Go.Proofs.YtpkfdifoaijpnaaDoorW.PrintWords Go.Proofs.YtpkfdifoaijpnaaDoor.Str Go.Proofs.YtpkfdifoaijpnaaDoor.Kit Go.Proofs.YtpkfdifoaijpnaaDoor.Frame Go.Proofs.YtpkfdifoaijpnaaDoor.Index
set_option linter.unusedVariables false
set_option linter.unusedSimpArgs false

theorem VolAt.lt {w : World} {b : Nat} {pb pv : Option Nat} {v : VolV} (h : VolAt w b pb pv v) (k : Nat) (hk : foot b pb pv k) : k < w.heap.size := by
  rcases hk with e | e | e
  · rw [e]; exact cb_lt h.top
  · have hbk := h.bind
    rw [← e] at hbk
    unfold BindAt at hbk
    split at hbk
    · rename_i e1 _; cases e1
    · rename_i e1 _; injection e1 with e1; subst e1; exact cb_lt hbk
    · exact hbk.elim
  · have hbk := h.own
    rw [← e] at hbk
    unfold OwnAt at hbk
    split at hbk
    · rename_i e1 _; cases e1
    · rename_i e1 _; injection e1 with e1; subst e1; exact cb_lt hbk
    · exact hbk.elim
theorem info_rune : (Tryd.prog.info? 21).map (fun i => (i.zero, i.size, i.bytes)) = some (some (.int .i32 0), 1, 4) := by kernel_rfl
section
variable {ops : Array Oper} {rest : List Oper} {o : Oper} {a : Act} {Q : Exit → Act → World → Prop}
/-- append of one rune, to a row whose blocks are ok -/
theorem append_rune {w0 W : World} {ok : Nat → Prop} (hfresh : ∀ k, W.heap.size ≤ k → ok k) (s x : Operand) (hgd : o.guard = none) (ho : o.op = .call { callee := .builtin .append, args := #[s, x], argTypes := #[63, 63] })
    {v : Value} {xs : List Int} {p : Int} (hs : a.eval s = v) (hx : a.eval x = .slice (some ⟨W.heap.size, 0, none⟩) 1 1)
    (HO : (Kd.int .i32).R 21 W w0.heap.size ok v xs) (HB : Below w0.heap.size w0 W) (hl : xs.length < 8796093022207)
    (h : ∀ v1 w1, (Kd.int .i32).R 21 w1 w0.heap.size ok v1 (xs ++ [p]) → Below w0.heap.size w0 w1 → W.grownBy w1 v.ownBlock → wpList Tryd.prog ops Q rest (a.put o.dst v1) w1) :
    wpList Tryd.prog ops Q (o :: rest) a (W.alloc (.cells #[.int .i32 p] 21)) :=
  Kd.R_append (Kd.scalar (Value.int .i32) (fun _ => rfl)) w0.heap.size hgd s x 63 21 (.int .i32 0) 4 ho Tryd.underlying63 info_rune rfl (show 0 < 1 by decide) (by decide) v xs p [.int .i32 p] ok (fun _ => False) hs hx rfl (fun _ hk => hk.elim) hfresh HO HB HB.size (by omega)
    (fun v1 w1 h2 h3 h4 _ => h v1 w1 h2 h3 h4)
end

def V0 : VolV := ⟨⟨#[]⟩, ⟨#[]⟩, ⟨#[]⟩, false, none, none⟩
/-- the mount that a text tells: the parts between colons, one after the other -/
def goV : Bs → Bs → VolV → Option VolV
  | [], buf, v => popField 0 buf v
  | c :: r, buf, v =>
    if drive (runes buf) (c.toNat : Int) = true then goV r (buf ++ [c]) v
    else if c = 58 then (match popField 58 buf v with
      | none => none
      | some v' => goV r [] v')
    else goV r (buf ++ [c]) v
/-- a text of ASCII without dollar signs -/
def calm (l : Bs) : Prop := ∀ b ∈ l, 1 ≤ b.toNat ∧ b.toNat < 128 ∧ b ≠ 36
theorem vol_info : (Tryd.prog.info? 46).map (·.size) = some 8 := by kernel_rfl
theorem vol_size (v : VolV) (pb pv : Option Nat) : (Tryd.prog.info? 46).map (·.size) = some (volC v pb pv).size := vol_info
theorem vol_one (v : VolV) (pb pv : Option Nat) : (volC v pb pv).all (·.oneCell') = true := by simp [volC, at0, Value.oneCell']
section
variable {ops : Array Oper} {rest : List Oper} {o : Oper} {a : Act} {Q : Exit → Act → World → Prop}
theorem load_vol {w : World} {b : Nat} {v : VolV} {pb pv : Option Nat} (x : Operand) (hgd : o.guard = none) (ho : o.op = .load 46 x) (hx : a.eval x = .pointer (some ⟨b, 0, none⟩)) (hb : w.heap[b]? = some (.cells (volC v pb pv) 46 (0, 0)))
    (h : wpList Tryd.prog ops Q rest (a.put o.dst (.agg (volC v pb pv))) w) : wpList Tryd.prog ops Q (o :: rest) a w :=
  wpList_load_row hgd _ x ho b hx _ _ _ _ hb Tryd.underlying46 rfl (vol_size _ _ _) h
theorem store_vol {w : World} {b : Nat} {v v0 : VolV} {pb pv p0 q0 : Option Nat} (x y : Operand) (hgd : o.guard = none) (ho : o.op = .store 46 x y) (hx : a.eval x = .pointer (some ⟨b, 0, none⟩)) (hy : a.eval y = .agg (volC v pb pv)) (hb : w.heap[b]? = some (.cells (volC v0 p0 q0) 46 (0, 0)))
    (h : wpList Tryd.prog ops Q rest (a.put o.dst undef) (w.setRow b (volC v pb pv))) : wpList Tryd.prog ops Q (o :: rest) a w :=
  wpList_store_row hgd _ x y ho b _ hx hy _ _ hb (vol_size _ _ _) rfl (vol_one _ _ _) h
end
theorem vol_result {tmps : Array Value} {w : World} {r : Nat} {v : VolV} {pb pv : Option Nat} (h2 : tmps.getD 2 undef = .pointer (some ⟨r, 0, none⟩)) (hr : w.heap[r]? = some (.cells (volC v pb pv) 46 (0, 0))) :
    (results Tryd.f21 tmps).run Tryd.prog w = .ok (.tuple #[.agg (volC v pb pv), tmps.getD 3 undef]) w := by
  rw [results_cell_tmp rfl, h2]
  simp only [asAddr, Sem.run_pure, Result.andThen_ok, run_loadVar_row w r _ _ _ _ _ hr Tryd.underlying46 rfl (vol_size v pb pv)]
theorem turns_setRow (w : World) (g : Nat) (cs : Array Value) : Turns (fun k => k = g) w (w.setRow g cs) :=
  ⟨rfl, rfl, rfl, by simp, fun k _ hn => setRow_other w g k cs hn⟩
/-- what ParseVolume tells -/
def PvPost (R : Option VolV) (w : World) (e : Ending) (w' : World) : Prop :=
  Below w.heap.size w w' ∧ match R with
  | none => ∃ v pb pv t a, e = .returned (.tuple #[.agg (volC v pb pv), .iface t (.pointer (some a))])
  | some v => ∃ pb pv, e = .returned (.tuple #[.agg (volC v pb pv), .nilIface]) ∧ BindAt w' pb v.bind ∧ OwnAt w' pv v.own

theorem PvPost.no {R : Option VolV} {w w' : World} {v : VolV} {pb pv : Option Nat} {t : TypeId} {a : Addr} (h : R = none) (hb : Below w.heap.size w w') : PvPost R w (.returned (.tuple #[.agg (volC v pb pv), .iface t (.pointer (some a))])) w' := by
  subst h
  exact ⟨hb, v, pb, pv, t, a, rfl⟩
theorem PvPost.yes {R : Option VolV} {w w' : World} {v : VolV} {pb pv : Option Nat} (h : R = some v) (hb : Below w.heap.size w w') (h1 : BindAt w' pb v.bind) (h2 : OwnAt w' pv v.own) : PvPost R w (.returned (.tuple #[.agg (volC v pb pv), .nilIface])) w' := by
  subst h
  exact ⟨hb, pb, pv, rfl, h1, h2⟩
/-- blocks that a buffer does not lie in -/
def bad (r it b : Nat) (pb pv : Option Nat) (k : Nat) : Prop := foot b pb pv k ∨ k = it ∨ k = r
/-- where the loop stands -/
inductive Stands (l : Bs) : Nat → Bs → VolV → Prop
  | on {pos : Nat} {buf : Bs} {v : VolV} (hp : pos ≤ l.length) (hb : buf.length ≤ pos) (ha : ∀ b ∈ buf, b.toNat < 128) (hs : ∀ b ∈ lb v.src, b.toNat < 128) (he : goV l [] V0 = goV (l.drop pos) buf v) : Stands l pos buf v
  | off {v : VolV} (hs : ∀ b ∈ lb v.src, b.toNat < 128) (he : goV l [] V0 = some v) : Stands l (l.length + 1) [] v
theorem turns_iterAt {w : World} {k : Nat} {s : ByteArray} {p : Nat} (pos : Nat) (h : w.heap[k]? = some (.stringIter s p)) : Turns (fun j => j = k) w (w.iterAt k s pos) :=
  ⟨rfl, rfl, rfl, by simp [World.iterAt], fun j _ hn => Lib.iterAt_other w k j s pos hn⟩
theorem grown_of_turns {w w' : World} {k : Nat} (h : Turns (fun j => j = k) w w') : w.grownBy w' (some k) :=
  ⟨h.os, h.tape, h.output, h.size, fun j hj hn => h.block j hj (fun e => hn (by rw [e]))⟩
/-- what holds at the loop's head -/
structure Inv (w wr : World) (S1 : ByteArray) (pos : Nat) (pb pv : Option Nat) (v : VolV) : Prop where
  it : wr.heap[w.heap.size + 1 + 1]? = some (.stringIter S1 pos)
  res : wr.heap[w.heap.size]? = some (.cells (volC V0 none none) 46 (0, 0))
  vol : VolAt wr (w.heap.size + 1) pb pv v
  apart : ∀ k, foot (w.heap.size + 1) pb pv k → w.heap.size < k ∧ k ≠ w.heap.size + 1 + 1
  below : Below w.heap.size w wr
theorem Inv.turns {w wr w' : World} {S1 : ByteArray} {pos : Nat} {pb pv : Option Nat} {v : VolV} {F : Nat → Prop} (h : Inv w wr S1 pos pb pv v) (ht : Turns F wr w') (hF : ∀ k, k < w.heap.size ∨ bad w.heap.size (w.heap.size + 1 + 1) (w.heap.size + 1) pb pv k → ¬ F k) : Inv w w' S1 pos pb pv v :=
  ⟨ht.obj h.it (hF _ (.inr (.inr (.inl rfl)))), ht.obj h.res (hF _ (.inr (.inr (.inr rfl)))), h.vol.turns ht (fun k hk => hF k (.inr (.inl hk))), h.apart, ht.below h.below (fun k hk => hF k (.inl hk))⟩
theorem Inv.below' {w wr w' : World} {S1 : ByteArray} {pos : Nat} {pb pv : Option Nat} {v : VolV} (h : Inv w wr S1 pos pb pv v) (hb : Below wr.heap.size wr w') : Inv w w' S1 pos pb pv v :=
  h.turns (Turns.of_below (F := fun _ => False) hb) (fun _ _ e => e)
theorem Inv.next {w wr : World} {S1 : ByteArray} {pos : Nat} {pb pv : Option Nat} {v : VolV} (h : Inv w wr S1 pos pb pv v) (p : Nat) : Inv w (wr.iterAt (w.heap.size + 1 + 1) S1 p) S1 p pb pv v := by
  have ht := turns_iterAt p h.it
  refine ⟨Lib.iterAt_heap wr _ S1 pos p h.it, ht.obj h.res (by omega), h.vol.turns ht (fun k hk e => (h.apart k hk).2 e), h.apart, ht.below h.below (fun k hk e => by omega)⟩
theorem Inv.fills {w wr w' : World} {S1 : ByteArray} {pos : Nat} {pb pv pb' pv' : Option Nat} {v v' : VolV} (h : Inv w wr S1 pos pb pv v) (k : FillsX wr (w.heap.size + 1) pb pv pb' pv' v' w') : Inv w w' S1 pos pb' pv' v' := by
  have hlt := cb_lt h.it
  refine ⟨k.2.1.obj h.it (fun e => (h.apart _ e).2 rfl), k.2.1.obj h.res (fun e => by have := (h.apart _ e).1; omega), k.1, fun j hj => ?_, k.2.1.below h.below (fun j hj e => by have := (h.apart _ e).1; omega)⟩
  rcases k.2.2 j hj with e | e
  · exact h.apart j e
  · exact ⟨by omega, by omega⟩
theorem Inv.fresh {w wr : World} {S1 : ByteArray} {pos : Nat} {pb pv : Option Nat} {v : VolV} (h : Inv w wr S1 pos pb pv v) (k : Nat) (hk : wr.heap.size ≤ k) : ¬ bad w.heap.size (w.heap.size + 1 + 1) (w.heap.size + 1) pb pv k := by
  have h1 := cb_lt h.it
  rintro (e | e | e)
  · have := h.vol.lt k e; omega
  · omega
  · omega
theorem Stands.le {l : Bs} {pos : Nat} {buf : Bs} {v : VolV} (h : Stands l pos buf v) : pos ≤ l.length + 1 := by
  cases h with
  | on hp _ _ _ _ => omega
  | off _ _ => exact Nat.le_refl _
theorem Stands.src {l : Bs} {pos : Nat} {buf : Bs} {v : VolV} (h : Stands l pos buf v) : ∀ b ∈ lb v.src, b.toNat < 128 := by
  cases h with
  | on _ _ _ hs _ => exact hs
  | off hs _ => exact hs
abbrev okb (w : World) (pb pv : Option Nat) (k : Nat) : Prop := ¬ bad w.heap.size (w.heap.size + 1 + 1) (w.heap.size + 1) pb pv k
abbrev BufAt (w wr : World) (pb pv : Option Nat) (x : Value) (buf : Bs) : Prop := (Kd.int .i32).R 21 wr w.heap.size (okb w pb pv) x (runes buf)
theorem BufAt.next {w wr : World} {S1 : ByteArray} {pos : Nat} {pb pv : Option Nat} {v : VolV} {x : Value} {buf : Bs} (h : BufAt w wr pb pv x buf) (hi : Inv w wr S1 pos pb pv v) (p : Nat) : BufAt w (wr.iterAt (w.heap.size + 1 + 1) S1 p) pb pv x buf :=
  Kd.R_grown h (grown_of_turns (turns_iterAt p hi.it)) (fun k hk e => hk (.inr (.inl (by injection e))))
theorem BufAt.nil (w wr : World) (pb pv : Option Nat) : BufAt w wr pb pv (.slice none 0 0) [] := Kd.R_nil _ _ _ _ _

theorem World.iterPos_of {w : World} {k : Nat} {s : ByteArray} {p : Nat} (h : w.heap[k]? = some (.stringIter s p)) : w.iterPos k = p := by simp [Go.World.iterPos, h]
theorem runes_snoc (buf : Bs) (c : UInt8) : runes (buf ++ [c]) = runes buf ++ [(c.toNat : Int)] := by simp [runes]
theorem Inv.appended {w w2 w3 : World} {S1 : ByteArray} {pos : Nat} {pb pv : Option Nat} {v : VolV} {x : Value} {buf : Bs} (h : Inv w w2 S1 pos pb pv v) (hr : BufAt w w2 pb pv x buf) (hg : w2.grownBy w3 x.ownBlock) : Inv w w3 S1 pos pb pv v := by
  refine h.turns (Turns.of_grown hg) (fun k hk e => ?_)
  rcases hk with hk | hk
  · obtain ⟨inner, ho⟩ := Kd.R_own hr
    have := (World.ownsRow.lt ho k e.symm).1
    omega
  · exact hr.1 k e.symm hk
theorem popField_src {c : Int} {l : Bs} {v v' : VolV} (h : popField c l v = some v') (ha : ∀ b ∈ l, b.toNat < 128) (hs : ∀ b ∈ lb v.src, b.toNat < 128) : ∀ b ∈ lb v'.src, b.toNat < 128 := by
  have opt : ∀ (v : VolV) (o : ByteArray), (opt1 v o).src = v.src := fun v o => by
    unfold opt1
    repeat' split
    all_goals rfl
  have fold : ∀ (os : List ByteArray) (v : VolV), (os.foldl opt1 v).src = v.src := by
    intro os
    induction os with
    | nil => intro v; rfl
    | cons o os ih => intro v; rw [List.foldl_cons, ih, opt]
  unfold popField at h
  split at h
  · cases h
  split at h
  · injection h with h; subst h; exact hs
  split at h
  · injection h with h; subst h; intro b hb; exact ha b (by simpa [lb] using hb)
  split at h
  · injection h with h; subst h; exact hs
  split at h
  · cases h
  · injection h with h; subst h; rw [fold]; exact hs
set_option maxHeartbeats 3200000 in
set_option maxRecDepth 1000000 in
theorem ParseVolume (s : ByteArray) (w : World) (hc : calm (lb s)) (h3 : 3 ≤ s.size) (hs : s.size ≤ 2147483648) (hT : VTabs w) :
    Calls Tryd.prog 21 #[.string s] w (PvPost ((goV (lb s) [] V0).map typed) w) := by
  have HC := Aside0.mk hc
  have HT := Aside0.mk hT
  clear hc hT
  have hz0 : ((s.size : Int) == 0) = false := beq_eq_false_iff_ne.mpr (by omega)
  have hz1 : ((s.size : Int) == 1) = false := beq_eq_false_iff_ne.mpr (by omega)
  have hz2 : ((s.size : Int) == 2) = false := beq_eq_false_iff_ne.mpr (by omega)
  have hcap : s.size + (⟨#[0]⟩ : ByteArray).size ≤ 9223372036854775807 := by show s.size + 1 ≤ _; omega
  have HS1 := Aside0.mk (lb_append s ⟨#[0]⟩)
  have hS1 : (s ++ (⟨#[0]⟩ : ByteArray)).size = s.size + 1 := by rw [ByteArray.size_append]; rfl
  have HI0 := Aside0.mk (show Inv w (((w.alloc (.cells (volC V0 none none) 46)).alloc (.cells (volC V0 none none) 46)).iter (s ++ ⟨#[0]⟩) 0) (s ++ ⟨#[0]⟩) 0 none none V0 from by
    refine ⟨?_, ?_, ⟨?_, trivial, trivial, by simp, by simp, .inl rfl⟩, ?_, ?_⟩
    · have := World.iter_heap ((w.alloc (.cells (volC V0 none none) 46)).alloc (.cells (volC V0 none none) 46)) (s ++ ⟨#[0]⟩) 0
      simpa using this
    · exact cb_alloc (cb_alloc (cb_new w _) _) _
    · have := cb_alloc (cb_new (w.alloc (.cells (volC V0 none none) 46)) (.cells (volC V0 none none) 46)) (.stringIter (s ++ ⟨#[0]⟩) 0)
      rw [World.size_alloc] at this
      exact this
    · rintro k (e | e | e)
      · omega
      · cases e
      · cases e
    · exact (((Below.refl _ w).alloc (Nat.le_refl _) _).alloc (by simp) _).alloc (by simp; omega) _)
  go_enter Tryd.func21, Tryd.ntmps21
  go_wp2
  generalize s ++ (⟨#[0]⟩ : ByteArray) = S1 at *
  go_loopw [5, 6] (fun v5 v6 wr => ∃ (pos : Nat) (buf : Bs) (v : VolV) (pb pv : Option Nat), v6 = .int .i64 0 ∧ Aside0 (Inv w wr S1 pos pb pv v) ∧ Aside0 (Stands (lb s) pos buf v) ∧ Aside0 (BufAt w wr pb pv v5 buf)) (fun _ _ wr => S1.size - wr.iterPos (w.heap.size + 1 + 1))
  case atStart => exact ⟨0, [], V0, none, none, rfl, HI0, ⟨.on (by omega) (by simp) (by simp) (by simp [V0, lb]) (by rfl)⟩, ⟨BufAt.nil _ _ _ _⟩⟩
  case round =>
    clear HI0
    obtain ⟨pos, buf, v, pb, pv, rfl, HI, HST, HR⟩ := hrel
    have hk := HI.out.it
    have hmu : wr.iterPos (w.heap.size + 1 + 1) = pos := by simp [World.iterPos, hk]
    by_cases hp : pos < S1.size
    · have HI1 := Aside0.mk (HI.out.next (pos + 1))
      have HR1 := Aside0.mk (HR.out.next HI.out (pos + 1))
      have hst : pos ≤ s.size ∧ buf.length ≤ pos ∧ (∀ b ∈ buf, b.toNat < 128) ∧ goV (lb s) [] V0 = goV ((lb s).drop pos) buf v := by
        have := HST.out
        cases this with
        | on h1 h2 h3 h4 h5 => rw [lb_length] at h1; exact ⟨h1, h2, h3, h5⟩
        | off _ _ => rw [lb_length] at hp; omega
      have HSR := Aside0.mk HST.out.src
      obtain ⟨hps, hbl, hba, hgo⟩ := hst
      have HBA := Aside0.mk hba
      have HGO := Aside0.mk hgo
      have hp1 : pos < (lb S1).length := by rw [lb_length]; exact hp
      by_cases hpl : pos < s.size
      · -- a byte of the text
        have hpl' : pos < (lb s).length := by rw [lb_length]; exact hpl
        obtain ⟨c, hcc⟩ : ∃ c : UInt8, (lb s)[pos] = c := ⟨_, rfl⟩
        have hcS : S1[pos] = c := by
          have : (lb S1)[pos] = c := by
            simp only [HS1.out]
            rw [List.getElem_append_left hpl', hcc]
          exact this
        have hcm := HC.out c (by rw [← hcc]; exact List.getElem_mem hpl')
        have hgo1 : goV (lb s) [] V0 = goV (c :: (lb s).drop (pos + 1)) buf v := by
          rw [hgo, List.drop_eq_getElem_cons hpl', hcc]
        have HG1 := Aside0.mk hgo1
        have hnext : ∀ ty, (Instr.next (.pointer (some ⟨w.heap.size + 1 + 1, 0, none⟩)) true ty).run Tryd.prog wr = _ := fun ty => Lib.run_next_ascii_at wr (w.heap.size + 1 + 1) S1 pos ty hk hp (by rw [hcS]; exact hcm.2.1)
        rw [hcS] at hnext
        have hk1 := HI1.out.it
        have hmu1 : (wr.iterAt (w.heap.size + 1 + 1) S1 (pos + 1)).iterPos (w.heap.size + 1 + 1) = pos + 1 := by simp [World.iterPos, hk1]
        clear hk hcc hcS hgo hgo1 hba hk1
        generalize wr.iterAt (w.heap.size + 1 + 1) S1 (pos + 1) = W1 at *
        obtain ⟨hc1, hc2, hc3⟩ := hcm
        have n0 : ((c.toNat : Int) == 0) = false := beq_eq_false_iff_ne.mpr (by omega)
        have n36 : ((c.toNat : Int) == 36) = false := beq_eq_false_iff_ne.mpr (by
          intro h
          refine hc3 (UInt8.toNat_inj.1 ?_)
          show c.toNat = 36
          omega)
        have HT1 := Aside0.mk (HT.out.below HI1.out.below)
        have hal : ∀ b ∈ buf ++ [c], b.toNat < 128 := fun x hx => by
          rcases List.mem_append.1 hx with hx | hx
          · exact HBA.out x hx
          · simp at hx; subst hx; exact hc2
        have HAL := Aside0.mk hal
        have hrl := runes_length buf
        have hbl2 : (runes buf).length < 8796093022207 := by omega
        obtain ⟨A5, c5, hv5, hle5, hC5⟩ := Kd.R_reads HR1.out
        subst hv5
        have HC5 := Aside0.mk hC5
        have CW := Aside0.mk (isWindowsDrive (cap := c5) (runes buf) (c.toNat : Int) W1 hC5 (fun _ => by
          cases hb : buf with
          | nil => simp [runes]
          | cons x r =>
            have := HBA.out x (by rw [hb]; simp)
            simp [runes]
            omega) HT1.out)
        have HR1' : Aside0 (BufAt w W1 pb pv (.slice A5 buf.length c5) buf) := by rw [← hrl]; exact HR1
        rw [hrl] at CW HC5
        clear HR1
        have HR1 := HR1'
        clear HR1'
        clear hal hC5 hc3 hle5
        rw [hrl]
        obtain ⟨n, hn⟩ : ∃ n : Nat, c.toNat = n := ⟨_, rfl⟩
        have HN := Aside0.mk hn
        rw [hn] at n0 n36 hnext hc1 hc2 CW
        have HSRC := HSR
        have hn6 : decide ((0 : Int) > 0) = false := rfl
        cases n125 : ((n : Int) == 125)
        all_goals
          clear hn
          cases hd : drive (runes buf) (n : Int)
          · rw [hd] at CW
            by_cases h58 : n = 58
            · have hc58 : c = 58 := UInt8.toNat_inj.1 (by rw [HN.out, h58]; rfl)
              subst h58
              have hgo2 : goV (lb s) [] V0 = match popField 58 buf v with
                  | none => none
                  | some v' => goV ((lb s).drop (pos + 1)) [] v' := by
                rw [HG1.out, goV, HN.out, hd, if_neg (by decide), if_pos hc58]
              have HG2 := Aside0.mk hgo2
              clear hgo2 hd hc58 hc1 hc2
              go_wp2_with (refine CW.out.mono ?_; rintro e w2 ⟨rfl, hb⟩; have HI2 := Aside0.mk (HI1.out.below' hb); have HR2 := Aside0.mk (Kd.R_below HR1.out hb); have HT2 := Aside0.mk (HT1.out.below hb); clear hb)
              have hC2 := (Kd.R_reads' HR2.out).2.2
              refine (populateField (cap := c5) 58 buf (w.heap.size + 1) pb pv v w2 HI2.out.vol hC2 HBA.out (by omega)).mono ?_
              rintro e w3 hpost
              unfold PopPost at hpost
              cases hpf : popField 58 buf v with
              | none =>
                rw [hpf] at hpost HG2
                obtain ⟨⟨t, ad, rfl⟩, pb3, pv3, hfx⟩ := hpost
                have HI3 := Aside0.mk (HI2.out.fills hfx)
                have HT3 := Aside0.mk (HT.out.below HI3.out.below)
                clear hfx hC2 hpf
                go_wp2_with fail
                refine (populateType (w.heap.size + 1) pb3 pv3 v w3 HI3.out.vol HSRC.out HT3.out).mono ?_
                rintro e w4 ⟨rfl, pb4, pv4, hfx⟩
                have HI4 := Aside0.mk (HI3.out.fills hfx)
                have ht4 := HI4.out.vol.top
                have hr4 := HI4.out.res
                clear hfx
                go_wp2_with (first | refine load_vol (.tmp 4) rfl rfl rfl ht4 ?_ | refine store_vol (.tmp 2) (.tmp 95) rfl rfl rfl rfl hr4 ?_)
                have hts := turns_setRow w4 w.heap.size (volC (typed v) pb4 pv4)
                refine bodyPost_ret (vol_result rfl (setRow_heap _ _ _ _ _ _ hr4)) rfl ?_
                exact PvPost.no (by rw [show goV (lb s) [] V0 = none from HG2.out]; rfl) (hts.below HI4.out.below (fun k hk e => by omega))
              | some v' =>
                rw [hpf] at hpost HG2
                obtain ⟨rfl, pb3, pv3, hfx⟩ := hpost
                have HI3 := Aside0.mk (HI2.out.fills hfx)
                have ST := Aside0.mk (Stands.on (pos := pos + 1) (by rw [lb_length]; omega) (Nat.zero_le _) (by simp) (popField_src hpf HBA.out HSRC.out) HG2.out)
                clear hfx hC2 hpf
                go_wp2
                go_roundw
                case rel => exact ⟨pos + 1, [], v', pb3, pv3, rfl, HI3, ST, ⟨BufAt.nil _ _ _ _⟩⟩
                case measure =>
                  have hmu3 := World.iterPos_of HI3.out.it
                  rw [hmu, hmu3]
                  omega
            · have n58 : ((n : Int) == 58) = false := beq_eq_false_iff_ne.mpr (by omega)
              have hgo2 : goV (lb s) [] V0 = goV ((lb s).drop (pos + 1)) (buf ++ [c]) v := by
                rw [HG1.out, goV, HN.out, hd, if_neg (by decide), if_neg (by intro e; subst e; exact h58 HN.out.symm)]
              have ST := Aside0.mk (Stands.on (pos := pos + 1) (by rw [lb_length]; omega) (by rw [List.length_append]; simp; omega) HAL.out HSRC.out hgo2)
              clear hgo2 hd h58
              go_wp2_with (first | (refine CW.out.mono ?_; rintro e w2 ⟨rfl, hb⟩; have HI2 := Aside0.mk (HI1.out.below' hb); have HR2 := Aside0.mk (Kd.R_below HR1.out hb); clear hb) | (at_builtin; refine append_rune (w0 := w) HI2.out.fresh (.tmp 66) (.tmp 68) rfl rfl rfl rfl HR2.out HI2.out.below hbl2 ?_; intro v1 w3 ho hb hg; have HR3 := Aside0.mk ho; have HG3 := Aside0.mk hg; clear ho hb hg))
              go_roundw
              case rel => exact ⟨pos + 1, buf ++ [c], v, pb, pv, rfl, ⟨HI2.out.appended HR2.out HG3.out⟩, ST, ⟨by show (Kd.int .i32).R _ _ _ _ _ (runes (buf ++ [c])); rw [runes_snoc, HN.out]; exact HR3.out⟩⟩
              case measure =>
                have hmu3 := World.iterPos_of (HI2.out.appended HR2.out HG3.out).it
                rw [hmu, hmu3]
                omega
          · rw [hd] at CW
            have hgo2 : goV (lb s) [] V0 = goV ((lb s).drop (pos + 1)) (buf ++ [c]) v := by
              rw [HG1.out, goV, HN.out, hd, if_pos rfl]
            have ST := Aside0.mk (Stands.on (pos := pos + 1) (by rw [lb_length]; omega) (by rw [List.length_append]; simp; omega) HAL.out HSRC.out hgo2)
            clear hgo2 hd
            go_wp2_with (first | (refine CW.out.mono ?_; rintro e w2 ⟨rfl, hb⟩; have HI2 := Aside0.mk (HI1.out.below' hb); have HR2 := Aside0.mk (Kd.R_below HR1.out hb); clear hb) | (at_builtin; refine append_rune (w0 := w) HI2.out.fresh (.tmp 74) (.tmp 76) rfl rfl rfl rfl HR2.out HI2.out.below hbl2 ?_; intro v1 w3 ho hb hg; have HR3 := Aside0.mk ho; have HG3 := Aside0.mk hg; clear ho hb hg))
            go_roundw
            case rel => exact ⟨pos + 1, buf ++ [c], v, pb, pv, rfl, ⟨HI2.out.appended HR2.out HG3.out⟩, ST, ⟨by show (Kd.int .i32).R _ _ _ _ _ (runes (buf ++ [c])); rw [runes_snoc, HN.out]; exact HR3.out⟩⟩
            case measure =>
              have hmu3 := World.iterPos_of (HI2.out.appended HR2.out HG3.out).it
              rw [hmu, hmu3]
              omega
      · -- the byte behind the text
        have hpe : pos = s.size := by omega
        have hcS : S1[pos] = 0 := by
          have : (lb S1)[pos] = 0 := by
            simp only [HS1.out]
            rw [List.getElem_append_right (by rw [lb_length]; omega)]
            simp [lb]
          exact this
        have hgo1 : goV (lb s) [] V0 = popField 0 buf v := by
          rw [hgo, List.drop_of_length_le (by rw [lb_length]; omega), goV]
        have HG1 := Aside0.mk hgo1
        have hnext : ∀ ty, (Instr.next (.pointer (some ⟨w.heap.size + 1 + 1, 0, none⟩)) true ty).run Tryd.prog wr = _ := fun ty => Lib.run_next_ascii_at wr (w.heap.size + 1 + 1) S1 pos ty hk hp (by rw [hcS]; decide)
        rw [hcS] at hnext
        have hk1 := HI1.out.it
        clear hk hcS hgo hgo1 hba hk1
        generalize wr.iterAt (w.heap.size + 1 + 1) S1 (pos + 1) = W1 at *
        have HT1 := Aside0.mk (HT.out.below HI1.out.below)
        have hrl := runes_length buf
        obtain ⟨A5, c5, hv5, hle5, hC5⟩ := Kd.R_reads HR1.out
        subst hv5
        have CW := Aside0.mk (isWindowsDrive (cap := c5) (runes buf) 0 W1 hC5 (fun _ => by
          cases hb : buf with
          | nil => simp [runes]
          | cons x r =>
            have := HBA.out x (by rw [hb]; simp)
            simp [runes]
            omega) HT1.out)
        rw [show drive (runes buf) 0 = false from rfl] at CW
        have HR1' : Aside0 (BufAt w W1 pb pv (.slice A5 buf.length c5) buf) := by rw [← hrl]; exact HR1
        rw [hrl] at CW
        clear hC5 hle5 HR1
        rw [hrl]
        go_wp2_with (refine CW.out.mono ?_; rintro e w2 ⟨rfl, hb⟩; have HI2 := Aside0.mk (HI1.out.below' hb); have HR2 := Aside0.mk (Kd.R_below HR1'.out hb); have HT2 := Aside0.mk (HT1.out.below hb); clear hb)
        have hC2 := (Kd.R_reads' HR2.out).2.2
        refine (populateField (cap := c5) 0 buf (w.heap.size + 1) pb pv v w2 HI2.out.vol hC2 HBA.out (by omega)).mono ?_
        rintro e w3 hpost
        unfold PopPost at hpost
        cases hpf : popField 0 buf v with
        | none =>
          rw [hpf] at hpost HG1
          obtain ⟨⟨t, ad, rfl⟩, pb3, pv3, hfx⟩ := hpost
          have HI3 := Aside0.mk (HI2.out.fills hfx)
          have HT3 := Aside0.mk (HT.out.below HI3.out.below)
          clear hfx hC2 hpf
          go_wp2_with fail
          refine (populateType (w.heap.size + 1) pb3 pv3 v w3 HI3.out.vol HSR.out HT3.out).mono ?_
          rintro e w4 ⟨rfl, pb4, pv4, hfx⟩
          have HI4 := Aside0.mk (HI3.out.fills hfx)
          have ht4 := HI4.out.vol.top
          have hr4 := HI4.out.res
          clear hfx
          go_wp2_with (first | refine load_vol (.tmp 4) rfl rfl rfl ht4 ?_ | refine store_vol (.tmp 2) (.tmp 95) rfl rfl rfl rfl hr4 ?_)
          have hts := turns_setRow w4 w.heap.size (volC (typed v) pb4 pv4)
          refine bodyPost_ret (vol_result rfl (setRow_heap _ _ _ _ _ _ hr4)) rfl ?_
          exact PvPost.no (by rw [HG1.out]; rfl) (hts.below HI4.out.below (fun k hk e => by omega))
        | some v' =>
          rw [hpf] at hpost HG1
          obtain ⟨rfl, pb3, pv3, hfx⟩ := hpost
          have HI3 := Aside0.mk (HI2.out.fills hfx)
          have hof := Stands.off (l := lb s) (popField_src hpf HBA.out HSR.out) HG1.out
          rw [lb_length] at hof
          have ST := Aside0.mk hof
          clear hfx hC2 hpf hof
          go_wp2
          go_roundw
          case rel => exact ⟨pos + 1, [], v', pb3, pv3, rfl, HI3, by rw [hpe]; exact ST, ⟨BufAt.nil _ _ _ _⟩⟩
          case measure =>
            have hmu3 := World.iterPos_of HI3.out.it
            rw [hmu, hmu3]
            omega
    · -- behind the end
      have hof : buf = [] ∧ goV (lb s) [] V0 = some v := by
        have := HST.out
        cases this with
        | on h1 h2 h3 h4 h5 => rw [lb_length] at h1; omega
        | off _ he => exact ⟨rfl, he⟩
      have HG1 := Aside0.mk hof.2
      have HSR := Aside0.mk HST.out.src
      have hnext : ∀ ty, (Instr.next (.pointer (some ⟨w.heap.size + 1 + 1, 0, none⟩)) true ty).run Tryd.prog wr = _ := fun ty => Lib.run_next_end_at wr (w.heap.size + 1 + 1) S1 pos ty hk hp
      have HT3 := Aside0.mk (HT.out.below HI.out.below)
      clear hof hk hmu
      go_wp2_with fail
      refine (populateType (w.heap.size + 1) pb pv v wr HI.out.vol HSR.out HT3.out).mono ?_
      rintro e w4 ⟨rfl, pb4, pv4, hfx⟩
      have HI4 := Aside0.mk (HI.out.fills hfx)
      have ht4 := HI4.out.vol.top
      have hr4 := HI4.out.res
      clear hfx
      go_wp2_with (first | refine load_vol (.tmp 4) rfl rfl rfl ht4 ?_ | refine store_vol (.tmp 2) (.tmp 98) rfl rfl rfl rfl hr4 ?_)
      have hts := turns_setRow w4 w.heap.size (volC (typed v) pb4 pv4)
      refine bodyPost_ret (vol_result rfl (setRow_heap _ _ _ _ _ _ hr4)) rfl ?_
      refine PvPost.yes (by rw [HG1.out]; rfl) (hts.below HI4.out.below (fun k hk e => by omega)) (HI4.out.vol.bind.turns hts (fun k hk e => ?_)) (HI4.out.vol.own.turns hts (fun k hk e => ?_))
      · have := (HI4.out.apart k (.inr (.inl hk.symm))).1; omega
      · have := (HI4.out.apart k (.inr (.inr hk.symm))).1; omega
end Go.Proofs.YtpkfdifoaijpnaaDoor.Vol
