/- The reference's ShortVolume. -/
import Derived.Test.YtpkfdifoaijpnaaDoorShortPlain
import Derived.Test.YtpkfdifoaijpnaaDoorVolEmpty
namespace Go.Proofs.YtpkfdifoaijpnaaDoor.Vol
open Go.RowKit Go.Proofs.YtpkfdifoaijpnaaDoorW.PrintWords Go.Proofs.YtpkfdifoaijpnaaDoorW.PrintLast Go.Proofs.YtpkfdifoaijpnaaDoor.Str Go.Proofs.YtpkfdifoaijpnaaDoor.Kit Go.Proofs.YtpkfdifoaijpnaaDoor.Frame Go.Proofs.YtpkfdifoaijpnaaDoor.Index
set_option linter.unusedVariables false
set_option linter.unusedSimpArgs false

def SvPost (s : ByteArray) (w : World) (e : Ending) (w' : World) : Prop :=
  Below w.heap.size w w' ∧ ∃ (v : SpecV) (b : Bool), e = .returned (.tuple #[.agg (specC v), .bool b]) ∧ (b = true → ShortP s v)
theorem SvPost.no {s : ByteArray} {w w' : World} {v : SpecV} (h : Below w.heap.size w w') : SvPost s w (.returned (.tuple #[.agg (specC v), .bool false])) w' := ⟨h, v, false, rfl, fun h => by cases h⟩
theorem SvPost.yes {s : ByteArray} {w w' : World} {v : SpecV} (h : Below w.heap.size w w') (k : ShortP s v) : SvPost s w (.returned (.tuple #[.agg (specC v), .bool true])) w' := ⟨h, v, true, rfl, fun _ => k⟩

/-- the eight cells of a mount, stored one after the other -/
abbrev set8 (W : World) (b : Nat) (v : SpecV) : World :=
  (((((((W.setCell ⟨b, 0, none⟩ (.string v.typ)).setCell ⟨b, 1, none⟩ (.string v.src)).setCell ⟨b, 2, none⟩ (.string v.tgt)).setCell ⟨b, 3, none⟩ (.string v.pr)).setCell ⟨b, 4, none⟩ (.string v.se)).setCell ⟨b, 5, none⟩ (.bool v.ro)).setCell ⟨b, 6, none⟩ (.bool v.ch)).setCell ⟨b, 7, none⟩ (.bool v.nc)
theorem set8_turns (W : World) (b : Nat) (v : SpecV) : Turns (fun k => k = b) W (set8 W b v) := by
  have t : ∀ {x y z : World}, Turns (fun k => k = b) x y → Turns (fun k => k = b) y z → Turns (fun k => k = b) x z := fun h k => h.trans k (fun _ _ e => e)
  exact t (t (t (t (t (t (t (Turns.setCell _ b 0 _) (Turns.setCell _ b 1 _)) (Turns.setCell _ b 2 _)) (Turns.setCell _ b 3 _)) (Turns.setCell _ b 4 _)) (Turns.setCell _ b 5 _)) (Turns.setCell _ b 6 _)) (Turns.setCell _ b 7 _)
theorem set8_block {W : World} {b : Nat} {v0 : SpecV} (h : W.heap[b]? = some (.cells (specC v0) 30 (0, 0))) (v : SpecV) : (set8 W b v).heap[b]? = some (.cells (specC v) 30 (0, 0)) := by
  have h0 : (W.setCell ⟨b, 0, none⟩ (.string v.typ)).heap[b]? = some (.cells #[.string v.typ, .string v0.src, .string v0.tgt, .string v0.pr, .string v0.se, .bool v0.ro, .bool v0.ch, .bool v0.nc] 30 (0, 0)) := cb_set (i := 0) h (.string v.typ)
  have h1 : ((W.setCell ⟨b, 0, none⟩ (.string v.typ)).setCell ⟨b, 1, none⟩ (.string v.src)).heap[b]? = some (.cells #[.string v.typ, .string v.src, .string v0.tgt, .string v0.pr, .string v0.se, .bool v0.ro, .bool v0.ch, .bool v0.nc] 30 (0, 0)) := cb_set (i := 1) h0 (.string v.src)
  have h2 : (((W.setCell ⟨b, 0, none⟩ (.string v.typ)).setCell ⟨b, 1, none⟩ (.string v.src)).setCell ⟨b, 2, none⟩ (.string v.tgt)).heap[b]? = some (.cells #[.string v.typ, .string v.src, .string v.tgt, .string v0.pr, .string v0.se, .bool v0.ro, .bool v0.ch, .bool v0.nc] 30 (0, 0)) := cb_set (i := 2) h1 (.string v.tgt)
  have h3 : ((((W.setCell ⟨b, 0, none⟩ (.string v.typ)).setCell ⟨b, 1, none⟩ (.string v.src)).setCell ⟨b, 2, none⟩ (.string v.tgt)).setCell ⟨b, 3, none⟩ (.string v.pr)).heap[b]? = some (.cells #[.string v.typ, .string v.src, .string v.tgt, .string v.pr, .string v0.se, .bool v0.ro, .bool v0.ch, .bool v0.nc] 30 (0, 0)) := cb_set (i := 3) h2 (.string v.pr)
  have h4 : (((((W.setCell ⟨b, 0, none⟩ (.string v.typ)).setCell ⟨b, 1, none⟩ (.string v.src)).setCell ⟨b, 2, none⟩ (.string v.tgt)).setCell ⟨b, 3, none⟩ (.string v.pr)).setCell ⟨b, 4, none⟩ (.string v.se)).heap[b]? = some (.cells #[.string v.typ, .string v.src, .string v.tgt, .string v.pr, .string v.se, .bool v0.ro, .bool v0.ch, .bool v0.nc] 30 (0, 0)) := cb_set (i := 4) h3 (.string v.se)
  have h5 : ((((((W.setCell ⟨b, 0, none⟩ (.string v.typ)).setCell ⟨b, 1, none⟩ (.string v.src)).setCell ⟨b, 2, none⟩ (.string v.tgt)).setCell ⟨b, 3, none⟩ (.string v.pr)).setCell ⟨b, 4, none⟩ (.string v.se)).setCell ⟨b, 5, none⟩ (.bool v.ro)).heap[b]? = some (.cells #[.string v.typ, .string v.src, .string v.tgt, .string v.pr, .string v.se, .bool v.ro, .bool v0.ch, .bool v0.nc] 30 (0, 0)) := cb_set (i := 5) h4 (.bool v.ro)
  have h6 : (((((((W.setCell ⟨b, 0, none⟩ (.string v.typ)).setCell ⟨b, 1, none⟩ (.string v.src)).setCell ⟨b, 2, none⟩ (.string v.tgt)).setCell ⟨b, 3, none⟩ (.string v.pr)).setCell ⟨b, 4, none⟩ (.string v.se)).setCell ⟨b, 5, none⟩ (.bool v.ro)).setCell ⟨b, 6, none⟩ (.bool v.ch)).heap[b]? = some (.cells #[.string v.typ, .string v.src, .string v.tgt, .string v.pr, .string v.se, .bool v.ro, .bool v.ch, .bool v0.nc] 30 (0, 0)) := cb_set (i := 6) h5 (.bool v.ch)
  have h7 : ((((((((W.setCell ⟨b, 0, none⟩ (.string v.typ)).setCell ⟨b, 1, none⟩ (.string v.src)).setCell ⟨b, 2, none⟩ (.string v.tgt)).setCell ⟨b, 3, none⟩ (.string v.pr)).setCell ⟨b, 4, none⟩ (.string v.se)).setCell ⟨b, 5, none⟩ (.bool v.ro)).setCell ⟨b, 6, none⟩ (.bool v.ch)).setCell ⟨b, 7, none⟩ (.bool v.nc)).heap[b]? = some (.cells #[.string v.typ, .string v.src, .string v.tgt, .string v.pr, .string v.se, .bool v.ro, .bool v.ch, .bool v.nc] 30 (0, 0)) := cb_set (i := 7) h6 (.bool v.nc)
  exact h7
theorem Turns.drew {F : Nat → Prop} {w w' : World} (h : Turns F w w'.drew) : Turns F w w'.drew := h
theorem turns_drew {F : Nat → Prop} {w w' : World} (h : Turns F w w') : Turns F w w'.drew := ⟨h.os, h.tape, h.output, h.size, h.block⟩
structure LoopS (w3 wr : World) (b : Nat) (v : SpecV) : Prop where
  blk : wr.heap[b]? = some (.cells (specC v) 30 (0, 0))
  turns : Turns (fun k => k = b) w3 wr
theorem shortMode8 {A : Option Addr} {c : Nat} (v : SpecV) (o : ByteArray) (seen : List ByteArray) (w : World) (h : Kd.string.C w A seen.length seen) (hn : seen.length ≤ 4398046511104) :
    Calls Tryd.prog 23 #[.agg #[.string v.typ, .string v.src, .string v.tgt, .string v.pr, .string v.se, .bool v.ro, .bool v.ch, .bool v.nc], .string o, .slice A seen.length c] w
      fun e w' => Below w.heap.size w w' ∧ ∃ (v' : SpecV) (cl : ByteArray) (b : Bool), e = .returned (.tuple #[.agg #[.string v'.typ, .string v'.src, .string v'.tgt, .string v'.pr, .string v'.se, .bool v'.ro, .bool v'.ch, .bool v'.nc], .string cl, .bool b]) ∧ (b = true → modeV v o = some (v', cl) ∧ inB seen cl = false) :=
  shortMode v o seen w h hn
theorem spec_info : (Tryd.prog.info? 30).map (·.size) = some 8 := by kernel_rfl
theorem spec_size (v : SpecV) : (Tryd.prog.info? 30).map (·.size) = some (specC v).size := spec_info
theorem spec_one (v : SpecV) : (specC v).all (·.oneCell') = true := by simp [specC, Value.oneCell']
section
variable {ops : Array Oper} {rest : List Oper} {o : Oper} {a : Act} {Q : Exit → Act → World → Prop}
theorem load_spec {w : World} {b : Nat} {v : SpecV} (x : Operand) (hgd : o.guard = none) (ho : o.op = .load 30 x) (hx : a.eval x = .pointer (some ⟨b, 0, none⟩)) (hb : w.heap[b]? = some (.cells (specC v) 30 (0, 0)))
    (h : wpList Tryd.prog ops Q rest (a.put o.dst (.agg (specC v))) w) : wpList Tryd.prog ops Q (o :: rest) a w :=
  wpList_load_row hgd _ x ho b hx _ _ _ _ hb Tryd.underlying30 rfl (spec_size _) h
theorem store_spec {w : World} {b : Nat} {v v0 : SpecV} (x y : Operand) (hgd : o.guard = none) (ho : o.op = .store 30 x y) (hx : a.eval x = .pointer (some ⟨b, 0, none⟩)) (hy : a.eval y = .agg (specC v)) (hb : w.heap[b]? = some (.cells (specC v0) 30 (0, 0)))
    (h : wpList Tryd.prog ops Q rest (a.put o.dst undef) (w.setRow b (specC v))) : wpList Tryd.prog ops Q (o :: rest) a w :=
  wpList_store_row hgd _ x y ho b _ hx hy _ _ hb (spec_size _) rfl (spec_one _) h
end
theorem spec_result {tmps : Array Value} {w : World} {r : Nat} {v : SpecV} (h2 : tmps.getD 2 undef = .pointer (some ⟨r, 0, none⟩)) (hr : w.heap[r]? = some (.cells (specC v) 30 (0, 0))) :
    (results Tryd.f13 tmps).run Tryd.prog w = .ok (.tuple #[.agg (specC v), tmps.getD 3 undef]) w := by
  rw [results_cell_tmp rfl, h2]
  simp only [asAddr, Sem.run_pure, Result.andThen_ok, run_loadVar_row w r _ _ _ _ _ hr Tryd.underlying30 rfl (spec_size v)]
theorem below_setRow {n : Nat} {w w' : World} {b : Nat} (h : Below n w w') (hb : n ≤ b) (hn : n = w.heap.size) (cs : Array Value) : Below n w (w'.setRow b cs) := by
  subst hn
  exact (turns_setRow w' b cs).below h (fun k hk e => by omega)
set_option maxHeartbeats 12800000 in
set_option maxRecDepth 1000000 in
theorem ShortVolume (s : ByteArray) (w : World) (hs : s.size ≤ 2147483648) :
    Calls Tryd.prog 13 #[.string s] w (SvPost s w) := by
  have hpl := parts_length 58 s
  have hpp := parts_pos 58 s
  have PC := Aside0.mk (shortParts s 58 (w.alloc (.cells (specC zeroS) 30)) (by omega))
  have HW := Aside0.mk ((Below.refl _ w).alloc (Nat.le_refl _) (.cells (specC zeroS) 30))
  have H2 := Aside0.mk (cb_new w (.cells (specC zeroS) 30))
  rw [World.size_alloc] at PC
  generalize hps : parts 58 s = ps at PC hpl hpp
  have HPS := Aside0.mk hps
  clear hps
  go_enter Tryd.func13, Tryd.ntmps13
  go_wp2_with fail
  refine PC.out.mono ?_
  rintro e w1 ⟨v, rfl, hR, hb⟩
  obtain ⟨A3, c3, rfl, hle, hC⟩ := Kd.R_reads hR
  obtain ⟨b3, o3, rfl, hb3, hcell⟩ := strs_open hC hpp
  have HC := Aside0.mk hcell
  have HB1 := Aside0.mk (hb_then HW.out (by rw [World.size_alloc]; exact hb))
  have HR2 := Aside0.mk ((hb.block w.heap.size (by omega)).trans H2.out)
  have hlt1 : w.heap.size < w1.heap.size := by have := hb.size; rw [World.size_alloc] at this; omega
  clear hR hC hcell hb
  by_cases h3 : 3 < ps.length
  · have hr2 := HR2.out
    go_wp2_with (refine store_spec (v := zeroS) (.tmp 2) (.tmp 18) rfl rfl rfl rfl hr2 ?_)
    refine bodyPost_ret (spec_result rfl (setRow_heap _ _ _ _ _ _ hr2)) rfl (SvPost.no (below_setRow HB1.out (Nat.le_refl _) rfl _))
  have CP : ∀ x ∈ ps, x.size ≤ 4398046511104 := fun x hx => by
    have : (lb x).length ≤ (lb s).length := by
      rw [← HPS.out] at hx
      unfold parts at hx
      obtain ⟨y, hy, hye⟩ := List.mem_map.1 hx
      rw [← hye, lb_mk]
      exact split_mem_length (Nat.le_refl _) hy
    rw [lb_length, lb_length] at this
    omega
  rcases ps with _ | ⟨x0, _ | ⟨x1, _ | ⟨x2, _ | ⟨x3, r⟩⟩⟩⟩
  · simp at hpp
  · -- a target alone
    have s0 := CP x0 (by simp)
    have g0 := HC.out 0 (by simp)
    simp only [List.length_cons, List.length_nil, Nat.zero_add, Nat.reduceAdd, List.getElem_cons_zero, Nat.add_zero] at g0 ⊢
    have CW := Aside0.mk (shortWord x0 true)
    clear CP h3 hpp hpl
    have hr2 := fun o => Aside0.mk (cb_alloc HR2.out o)
    by_cases k3 : x0.size < 3
    · go_wp2_with (refine store_spec (v := zeroS) (.tmp 2) (.tmp 62) rfl rfl rfl rfl (hr2 _).out ?_)
      refine bodyPost_ret (spec_result rfl (setRow_heap _ _ _ _ _ _ (hr2 _).out)) rfl (SvPost.no (below_setRow (HB1.out.alloc (by omega) _) (Nat.le_refl _) rfl _))
    · have l3 : decide ((x0.size : Int) < 3) = false := decide_eq_false (by omega)
      have q0 : 0 < x0.size := by omega
      obtain ⟨c, hc⟩ : ∃ c : UInt8, x0[0] = c := ⟨_, rfl⟩
      have hcv : (x0[0].toNat : Int) = (c.toNat : Int) := by rw [hc]
      by_cases k47 : c.toNat = 47
      · have e47 : ((c.toNat : Int) != 47) = false := by rw [k47]; rfl
        have k4 : 3 ≤ x0.size := by omega
        clear hc k3
        cases hwd : wordB true (lb x0)
        · rw [hwd] at CW
          clear hwd
          go_wp2_with (first | (refine (CW.out _ (by omega)).mono ?_; rintro e w2 ⟨rfl, rfl⟩) | refine store_spec (v := zeroS) (.tmp 2) (.tmp 62) rfl rfl rfl rfl (hr2 _).out ?_)
          refine bodyPost_ret (spec_result rfl (setRow_heap _ _ _ _ _ _ (hr2 _).out)) rfl (SvPost.no (below_setRow (HB1.out.alloc (by omega) _) (Nat.le_refl _) rfl _))
        · rw [hwd] at CW
          have Y := Aside0.mk (show ShortP s (baseV false ⟨#[]⟩ x0) from .inl ⟨x0, HPS.out, ⟨by omega, hwd⟩, rfl⟩)
          clear hwd
          go_wp2_with (first | (refine (CW.out _ (by omega)).mono ?_; rintro e w2 ⟨rfl, rfl⟩) | refine store_spec (v := baseV false ⟨#[]⟩ x0) (.tmp 2) (.tmp 66) rfl rfl rfl rfl (hr2 _).out ?_)
          refine bodyPost_ret (spec_result rfl (setRow_heap _ _ _ _ _ _ (hr2 _).out)) rfl (SvPost.yes (below_setRow (HB1.out.alloc (by omega) _) (Nat.le_refl _) rfl _) Y.out)
      · have e47 : ((c.toNat : Int) != 47) = true := by simpa using (show ¬ (c.toNat : Int) = 47 by omega)
        clear hc k3
        go_wp2_with (refine store_spec (v := zeroS) (.tmp 2) (.tmp 62) rfl rfl rfl rfl (hr2 _).out ?_)
        refine bodyPost_ret (spec_result rfl (setRow_heap _ _ _ _ _ _ (hr2 _).out)) rfl (SvPost.no (below_setRow (HB1.out.alloc (by omega) _) (Nat.le_refl _) rfl _))
  · -- a source and a target
    have s0 := CP x0 (by simp)
    have s1 := CP x1 (by simp)
    have g0 := HC.out 0 (by simp)
    have g1 := HC.out 1 (by simp)
    have hle' : 2 ≤ c3 := hle
    simp only [List.length_cons, List.length_nil, Nat.zero_add, Nat.reduceAdd, List.getElem_cons_zero, List.getElem_cons_succ, Nat.add_zero] at g0 g1 ⊢
    have CW := Aside0.mk (shortWord x1 true)
    have CS := Aside0.mk (shortPath x0)
    clear CP h3 hpp hpl hle
    have hr2 := fun o => Aside0.mk (cb_alloc HR2.out o)
    go_wp2_with fail
    refine (CS.out _ (by omega)).mono ?_
    rintro e w2 ⟨rfl, p, o, rfl, hsp⟩
    have HP := Aside0.mk hsp
    clear hsp
    cases o
    · go_wp2_with (refine store_spec (v := zeroS) (.tmp 2) (.tmp 32) rfl rfl rfl rfl (hr2 _).out ?_)
      refine bodyPost_ret (spec_result rfl (setRow_heap _ _ _ _ _ _ (hr2 _).out)) rfl (SvPost.no (below_setRow (HB1.out.alloc (by omega) _) (Nat.le_refl _) rfl _))
    · cases p
      · by_cases k3 : x1.size < 3
        · go_wp2_with (refine store_spec (v := zeroS) (.tmp 2) (.tmp 62) rfl rfl rfl rfl (hr2 _).out ?_)
          refine bodyPost_ret (spec_result rfl (setRow_heap _ _ _ _ _ _ (hr2 _).out)) rfl (SvPost.no (below_setRow (HB1.out.alloc (by omega) _) (Nat.le_refl _) rfl _))
        · have l3 : decide ((x1.size : Int) < 3) = false := decide_eq_false (by omega)
          have q0 : 0 < x1.size := by omega
          obtain ⟨c, hc⟩ : ∃ c : UInt8, x1[0] = c := ⟨_, rfl⟩
          have hcv : (x1[0].toNat : Int) = (c.toNat : Int) := by rw [hc]
          have k4 : 3 ≤ x1.size := by omega
          by_cases k47 : c.toNat = 47
          · have e47 : ((c.toNat : Int) != 47) = false := by rw [k47]; rfl
            clear hc k3
            cases hwd : wordB true (lb x1)
            · rw [hwd] at CW
              clear hwd
              go_wp2_with (first | (refine (CW.out _ (by omega)).mono ?_; rintro e w2 ⟨rfl, rfl⟩) | refine store_spec (v := zeroS) (.tmp 2) (.tmp 62) rfl rfl rfl rfl (hr2 _).out ?_)
              refine bodyPost_ret (spec_result rfl (setRow_heap _ _ _ _ _ _ (hr2 _).out)) rfl (SvPost.no (below_setRow (HB1.out.alloc (by omega) _) (Nat.le_refl _) rfl _))
            · rw [hwd] at CW
              have Y := Aside0.mk (show ShortP s (baseV false x0 x1) from .inr (.inl ⟨x0, x1, _, HPS.out, HP.out rfl, ⟨by omega, hwd⟩, rfl⟩))
              clear hwd
              go_wp2_with (first | (refine (CW.out _ (by omega)).mono ?_; rintro e w2 ⟨rfl, rfl⟩) | refine store_spec (v := baseV false x0 x1) (.tmp 2) (.tmp 66) rfl rfl rfl rfl (hr2 _).out ?_)
              refine bodyPost_ret (spec_result rfl (setRow_heap _ _ _ _ _ _ (hr2 _).out)) rfl (SvPost.yes (below_setRow (HB1.out.alloc (by omega) _) (Nat.le_refl _) rfl _) Y.out)
          · have e47 : ((c.toNat : Int) != 47) = true := by simpa using (show ¬ (c.toNat : Int) = 47 by omega)
            clear hc k3
            go_wp2_with (refine store_spec (v := zeroS) (.tmp 2) (.tmp 62) rfl rfl rfl rfl (hr2 _).out ?_)
            refine bodyPost_ret (spec_result rfl (setRow_heap _ _ _ _ _ _ (hr2 _).out)) rfl (SvPost.no (below_setRow (HB1.out.alloc (by omega) _) (Nat.le_refl _) rfl _))
      · by_cases k3 : x1.size < 3
        · go_wp2_with (refine store_spec (v := zeroS) (.tmp 2) (.tmp 62) rfl rfl rfl rfl (hr2 _).out ?_)
          refine bodyPost_ret (spec_result rfl (setRow_heap _ _ _ _ _ _ (hr2 _).out)) rfl (SvPost.no (below_setRow (HB1.out.alloc (by omega) _) (Nat.le_refl _) rfl _))
        · have l3 : decide ((x1.size : Int) < 3) = false := decide_eq_false (by omega)
          have q0 : 0 < x1.size := by omega
          obtain ⟨c, hc⟩ : ∃ c : UInt8, x1[0] = c := ⟨_, rfl⟩
          have hcv : (x1[0].toNat : Int) = (c.toNat : Int) := by rw [hc]
          have k4 : 3 ≤ x1.size := by omega
          by_cases k47 : c.toNat = 47
          · have e47 : ((c.toNat : Int) != 47) = false := by rw [k47]; rfl
            clear hc k3
            cases hwd : wordB true (lb x1)
            · rw [hwd] at CW
              clear hwd
              go_wp2_with (first | (refine (CW.out _ (by omega)).mono ?_; rintro e w2 ⟨rfl, rfl⟩) | refine store_spec (v := zeroS) (.tmp 2) (.tmp 62) rfl rfl rfl rfl (hr2 _).out ?_)
              refine bodyPost_ret (spec_result rfl (setRow_heap _ _ _ _ _ _ (hr2 _).out)) rfl (SvPost.no (below_setRow (HB1.out.alloc (by omega) _) (Nat.le_refl _) rfl _))
            · rw [hwd] at CW
              have Y := Aside0.mk (show ShortP s (baseV true x0 x1) from .inr (.inl ⟨x0, x1, _, HPS.out, HP.out rfl, ⟨by omega, hwd⟩, rfl⟩))
              clear hwd
              go_wp2_with (first | (refine (CW.out _ (by omega)).mono ?_; rintro e w2 ⟨rfl, rfl⟩) | refine store_spec (v := baseV true x0 x1) (.tmp 2) (.tmp 66) rfl rfl rfl rfl (hr2 _).out ?_)
              refine bodyPost_ret (spec_result rfl (setRow_heap _ _ _ _ _ _ (hr2 _).out)) rfl (SvPost.yes (below_setRow (HB1.out.alloc (by omega) _) (Nat.le_refl _) rfl _) Y.out)
          · have e47 : ((c.toNat : Int) != 47) = true := by simpa using (show ¬ (c.toNat : Int) = 47 by omega)
            clear hc k3
            go_wp2_with (refine store_spec (v := zeroS) (.tmp 2) (.tmp 62) rfl rfl rfl rfl (hr2 _).out ?_)
            refine bodyPost_ret (spec_result rfl (setRow_heap _ _ _ _ _ _ (hr2 _).out)) rfl (SvPost.no (below_setRow (HB1.out.alloc (by omega) _) (Nat.le_refl _) rfl _))
  · -- a source, a target and options
    have s0 := CP x0 (by simp)
    have s1 := CP x1 (by simp)
    have s2 := CP x2 (by simp)
    have g0 := HC.out 0 (by simp)
    have g1 := HC.out 1 (by simp)
    have g2 := HC.out 2 (by simp)
    have hle' : 3 ≤ c3 := hle
    simp only [List.length_cons, List.length_nil, Nat.zero_add, Nat.reduceAdd, List.getElem_cons_zero, List.getElem_cons_succ, Nat.add_zero] at g0 g1 g2 ⊢
    have CW := Aside0.mk (shortWord x1 true)
    have CS := Aside0.mk (shortPath x0)
    have CO := Aside0.mk (shortParts x2 44)
    clear CP h3 hpp hpl hle
    have hr2 := fun o => Aside0.mk (cb_alloc HR2.out o)
    go_wp2_with fail
    refine (CS.out _ (by omega)).mono ?_
    rintro e w2 ⟨rfl, p, o, rfl, hsp⟩
    have HP := Aside0.mk hsp
    clear hsp
    cases o
    · go_wp2_with (refine store_spec (v := zeroS) (.tmp 2) (.tmp 32) rfl rfl rfl rfl (hr2 _).out ?_)
      refine bodyPost_ret (spec_result rfl (setRow_heap _ _ _ _ _ _ (hr2 _).out)) rfl (SvPost.no (below_setRow (HB1.out.alloc (by omega) _) (Nat.le_refl _) rfl _))
    · have MV := Aside0.mk (fun (v : SpecV) (h : tOK x1) (k : modesV (baseV p x0 x1) [] (parts 44 x2) = some v) => (show ShortP s v from .inr (.inr ⟨x0, x1, x2, p, HPS.out, HP.out rfl, h, k⟩)))
      have NB := Aside0.mk (cb_new w1 (.cells (specC (baseV p x0 x1)) 30))
      generalize hbase : baseV p x0 x1 = vb at MV NB
      have HBASE := Aside0.mk hbase
      clear hbase HP
      cases p
      · by_cases k3 : x1.size < 3
        · go_wp2_with (refine store_spec (v := zeroS) (.tmp 2) (.tmp 62) rfl rfl rfl rfl (hr2 _).out ?_)
          refine bodyPost_ret (spec_result rfl (setRow_heap _ _ _ _ _ _ (hr2 _).out)) rfl (SvPost.no (below_setRow (HB1.out.alloc (by omega) _) (Nat.le_refl _) rfl _))
        · have l3 : decide ((x1.size : Int) < 3) = false := decide_eq_false (by omega)
          have q0 : 0 < x1.size := by omega
          obtain ⟨c, hc⟩ : ∃ c : UInt8, x1[0] = c := ⟨_, rfl⟩
          have hcv : (x1[0].toNat : Int) = (c.toNat : Int) := by rw [hc]
          have k4 : 3 ≤ x1.size := by omega
          by_cases k47 : c.toNat = 47
          · have e47 : ((c.toNat : Int) != 47) = false := by rw [k47]; rfl
            clear hc k3
            cases hwd : wordB true (lb x1)
            · rw [hwd] at CW
              clear hwd
              go_wp2_with (first | (refine (CW.out _ (by omega)).mono ?_; rintro e w2 ⟨rfl, rfl⟩) | refine store_spec (v := zeroS) (.tmp 2) (.tmp 62) rfl rfl rfl rfl (hr2 _).out ?_)
              refine bodyPost_ret (spec_result rfl (setRow_heap _ _ _ _ _ _ (hr2 _).out)) rfl (SvPost.no (below_setRow (HB1.out.alloc (by omega) _) (Nat.le_refl _) rfl _))
            · rw [hwd] at CW
              have MW := Aside0.mk (fun v h => MV.out v ⟨k4, hwd⟩ h)
              clear hwd
              go_wp2_with fail
              refine (CW.out _ (by omega)).mono ?_
              rintro e w2 ⟨rfl, rfl⟩
              go_wp2_with fail
              refine (CO.out _ (by omega)).mono ?_
              rintro e w3 ⟨v9, rfl, hR9, hb9⟩
              have hz9 := hb9.size
              rw [World.size_alloc] at hz9
              have HBv : Aside0 (w3.heap[w1.heap.size]? = some (.cells (specC vb) 30 (0, 0))) := ⟨(hb9.block w1.heap.size (by rw [World.size_alloc]; omega)).trans (by rw [← HBASE.out]; exact cb_new w1 _)⟩
              have HB3 := Aside0.mk ((HB1.out.alloc (by omega) _).trans (hb9.mono (by rw [World.size_alloc]; omega)))
              have HR3 := Aside0.mk ((hb9.block w.heap.size (by rw [World.size_alloc]; omega)).trans (hr2 _).out)
              have hpo := parts_pos 44 x2
              have hlo := parts_length 44 x2
              generalize parts 44 x2 = os at hR9 hpo hlo MW
              obtain ⟨A9, c9, rfl, hle9, hC9⟩ := Kd.R_reads hR9
              obtain ⟨b9, o9, rfl, hb9l, hcell9⟩ := strs_open hC9 hpo
              have hb9g : w1.heap.size < b9 := by
                have := ((Kd.R_bound hR9).1 b9 (by simp [Value.ownBlock])).2.1
                rw [World.size_alloc] at this
                omega
              have HC9 := Aside0.mk hcell9
              have HLS := Aside0.mk (LoopS.mk HBv.out (Turns.refl _ w3))
              clear hC9 hcell9 hR9 hb9 hle9 MV hr2 HBASE NB HBv CO CS CW PC HPS HC
              have HRW := Aside0.mk HR3.out
              go_wp2
              go_loopw [8, 10] (fun v8 v10 wr => ∃ (i : Nat) (seen : List ByteArray) (v : SpecV), v10 = .int .i64 i ∧ i ≤ os.length ∧ Aside0 (LoopS w3 wr w1.heap.size v) ∧ Aside0 (modesV vb [] os = modesV v seen (os.drop i)) ∧ seen.length ≤ i ∧ Aside0 (Below w.heap.size w wr) ∧ Aside0 (Kd.string.R 9 wr w.heap.size (fun k => w3.heap.size ≤ k) v8 seen)) (fun _ v10 _ => os.length - (intOf v10).toNat)
              case atStart => exact ⟨0, [], vb, rfl, by omega, HLS, ⟨by rw [List.drop_zero]⟩, by simp, HB3, ⟨Kd.R_nil _ _ _ _ _⟩⟩
              case round =>
                clear HLS
                obtain ⟨i, seen, v, rfl, hi, HL, HM, hsl, HBW, HSEEN⟩ := hrel
                obtain ⟨A8, c8, rfl, hle8, hC8⟩ := Kd.R_reads HSEEN.out
                by_cases hlt : i < os.length
                · have q1 : (0 : Int) ≤ (i : Int) := by omega
                  have q2 : (i : Int) < (os.length : Int) := by omega
                  have co : wr.cell? ⟨b9, o9 + i, none⟩ = some (.string os[i]) := by
                    have h1 := HC9.out i hlt
                    have h2 := HL.out.turns.block b9 hb9l (by omega)
                    simpa [World.cell?, h2] using h1
                  have HMS := Aside0.mk (show modesV vb [] os = modesV v seen (os[i] :: os.drop (i + 1)) by rw [HM.out, List.drop_eq_getElem_cons hlt])
                  generalize os[i] = oi at co HMS
                  have CM := Aside0.mk (shortMode8 (c := c8) v oi seen wr.drew (Kd.C_drew hC8) (by omega))
                  have hW := HL.out.blk
                  have c0 : wr.cell? ⟨w1.heap.size, 0, none⟩ = some (.string v.typ) := cb_cell (i := 0) hW rfl
                  have c1 : wr.cell? ⟨w1.heap.size, 1, none⟩ = some (.string v.src) := cb_cell (i := 1) hW rfl
                  have c2 : wr.cell? ⟨w1.heap.size, 2, none⟩ = some (.string v.tgt) := cb_cell (i := 2) hW rfl
                  have c3 : wr.cell? ⟨w1.heap.size, 3, none⟩ = some (.string v.pr) := cb_cell (i := 3) hW rfl
                  have c4 : wr.cell? ⟨w1.heap.size, 4, none⟩ = some (.string v.se) := cb_cell (i := 4) hW rfl
                  have c5 : wr.cell? ⟨w1.heap.size, 5, none⟩ = some (.bool v.ro) := cb_cell (i := 5) hW rfl
                  have c6 : wr.cell? ⟨w1.heap.size, 6, none⟩ = some (.bool v.ch) := cb_cell (i := 6) hW rfl
                  have c7 : wr.cell? ⟨w1.heap.size, 7, none⟩ = some (.bool v.nc) := cb_cell (i := 7) hW rfl
                  clear hW hC8 hle8
                  go_wp2_with fail
                  refine start_ (n := 14) (S := fun w' => w'.cell? ⟨w1.heap.size, 0, none⟩ = some (.string v.typ) ∧ w'.cell? ⟨w1.heap.size, 1, none⟩ = some (.string v.src) ∧ w'.cell? ⟨w1.heap.size, 2, none⟩ = some (.string v.tgt) ∧ w'.cell? ⟨w1.heap.size, 3, none⟩ = some (.string v.pr) ∧ w'.cell? ⟨w1.heap.size, 4, none⟩ = some (.string v.se) ∧ w'.cell? ⟨w1.heap.size, 5, none⟩ = some (.bool v.ro) ∧ w'.cell? ⟨w1.heap.size, 6, none⟩ = some (.bool v.ch) ∧ w'.cell? ⟨w1.heap.size, 7, none⟩ = some (.bool v.nc) ∧ w'.cell? ⟨b9, o9 + i, none⟩ = some (.string oi)) (ds := [11]) #[false, false, false, false, false, false, false, false, false, false, false, false, false, false] (by kernel_rfl) rfl rfl ⟨c0, c1, c2, c3, c4, c5, c6, c7, co⟩ (fun hHeld => ?_)
                  refine pure_ (i := 1) (N := some 79) (v := ?_) (a' := ?_) #[false, true, false, false, false, false, false, false, false, false, false, false, false, false] rfl rfl (by kernel_rfl) (fun _ _ _ h => h) (Or.inl ⟨by rfl, ?_⟩) ?_ ?_
                  rotate_left
                  · intro w'
                    go_simp
                    with_reducible rfl
                  rotate_left
                  · simp only [Act.put, List.setIfInBounds_toArray, List.set_cons_zero, List.set_cons_succ, i64_w, i32_w]
                    rfl
                  refine pure_ (i := 2) (N := some 80) (v := ?_) (a' := ?_) #[false, true, true, false, false, false, false, false, false, false, false, false, false, false] rfl rfl (by kernel_rfl) (fun _ _ _ h => h) (Or.inl ⟨by rfl, ?_⟩) ?_ ?_
                  rotate_left
                  · intro w'
                    go_simp
                    with_reducible rfl
                  rotate_left
                  · simp only [Act.put, List.setIfInBounds_toArray, List.set_cons_zero, List.set_cons_succ, i64_w, i32_w]
                    rfl
                  refine pure_ (i := 3) (N := some 81) (v := ?_) (a' := ?_) #[false, true, true, true, false, false, false, false, false, false, false, false, false, false] rfl rfl (by kernel_rfl) (fun _ _ _ h => h) (Or.inl ⟨by rfl, ?_⟩) ?_ ?_
                  rotate_left
                  · intro w'
                    go_simp
                    with_reducible rfl
                  rotate_left
                  · simp only [Act.put, List.setIfInBounds_toArray, List.set_cons_zero, List.set_cons_succ, i64_w, i32_w]
                    rfl
                  refine pure_ (i := 5) (N := some 83) (v := ?_) (a' := ?_) #[false, true, true, true, false, true, false, false, false, false, false, false, false, false] rfl rfl (by kernel_rfl) (fun _ _ _ h => h) (Or.inl ⟨by rfl, ?_⟩) ?_ ?_
                  rotate_left
                  · intro w'
                    go_simp
                    with_reducible rfl
                  rotate_left
                  · simp only [Act.put, List.setIfInBounds_toArray, List.set_cons_zero, List.set_cons_succ, i64_w, i32_w]
                    rfl
                  refine take_ (i := 0) (N := some 78) (v := ?_) (a' := ?_) #[true, true, true, true, false, true, false, false, false, false, false, false, false, false] rfl rfl (by kernel_rfl) (fun _ _ _ h => h) (Or.inl ⟨by rfl, ?_⟩) hHeld ?_ ?_
                  rotate_left
                  · rintro w' ⟨s0, s1, s2, s3, s4, s5, s6, s7, s8⟩
                    go_simp
                    with_reducible rfl
                  rotate_left
                  · simp only [Act.put, List.setIfInBounds_toArray, List.set_cons_zero, List.set_cons_succ, i64_w, i32_w]
                    rfl
                  refine take_ (i := 4) (N := some 82) (v := ?_) (a' := ?_) #[true, true, true, true, true, true, false, false, false, false, false, false, false, false] rfl rfl (by kernel_rfl) (fun _ _ _ h => h) (Or.inl ⟨by rfl, ?_⟩) hHeld ?_ ?_
                  rotate_left
                  · rintro w' ⟨s0, s1, s2, s3, s4, s5, s6, s7, s8⟩
                    go_simp
                    with_reducible rfl
                  rotate_left
                  · simp only [Act.put, List.setIfInBounds_toArray, List.set_cons_zero, List.set_cons_succ, i64_w, i32_w]
                    rfl
                  refine one_ (i := 6) (N := some 84) #[true, true, true, true, true, true, true, false, false, false, false, false, false, false] rfl rfl (by kernel_rfl) (by decide) (fun K hK => ?_)
                  refine goes_ Tryd.func23 (by kernel_rfl) rfl #[.agg #[.string v.typ, .string v.src, .string v.tgt, .string v.pr, .string v.se, .bool v.ro, .bool v.ch, .bool v.nc], .string oi, .slice A8 seen.length c8] (by rfl) rfl rfl (by simp only [List.map_toArray, List.map_cons, List.map_nil]; rfl) ?_
                  with_reducible refine (CM.out).mono ?_
                  rintro e w4 ⟨hb4, v', cl, ok, rfl, hok⟩
                  refine ⟨_, rfl, ?_⟩
                  refine hK.out _ _ ⟨pw_cell_below hb4 hHeld.1, pw_cell_below hb4 hHeld.2.1, pw_cell_below hb4 hHeld.2.2.1, pw_cell_below hb4 hHeld.2.2.2.1, pw_cell_below hb4 hHeld.2.2.2.2.1, pw_cell_below hb4 hHeld.2.2.2.2.2.1, pw_cell_below hb4 hHeld.2.2.2.2.2.2.1, pw_cell_below hb4 hHeld.2.2.2.2.2.2.2.1, pw_cell_below hb4 hHeld.2.2.2.2.2.2.2.2⟩ (fun hHeld => ?_)
                  clear hK K
                  refine norm_ (a' := ?_) ?_ ?_
                  rotate_left
                  · show Act.put _ (some 84) _ = _
                    simp only [Act.put, List.setIfInBounds_toArray, List.set_cons_zero, List.set_cons_succ, i64_w, i32_w]
                    rfl
                  refine pure_ (i := 7) (N := some 77) (v := ?_) (a' := ?_) #[true, true, true, true, true, true, true, true, false, false, false, false, false, false] rfl rfl (by kernel_rfl) (fun _ _ _ h => h) (Or.inl ⟨by rfl, ?_⟩) ?_ ?_
                  rotate_left
                  · intro w'
                    go_simp
                    with_reducible rfl
                  rotate_left
                  · simp only [Act.put, List.setIfInBounds_toArray, List.set_cons_zero, List.set_cons_succ, i64_w, i32_w]
                    rfl
                  refine pure_ (i := 8) (N := some 85) (v := ?_) (a' := ?_) #[true, true, true, true, true, true, true, true, true, false, false, false, false, false] rfl rfl (by kernel_rfl) (fun _ _ _ h => h) (Or.inl ⟨by rfl, ?_⟩) ?_ ?_
                  rotate_left
                  · intro w'
                    go_simp
                    with_reducible rfl
                  rotate_left
                  · simp only [Act.put, List.setIfInBounds_toArray, List.set_cons_zero, List.set_cons_succ, i64_w, i32_w]
                    rfl
                  refine pure_ (i := 9) (N := some 86) (v := ?_) (a' := ?_) #[true, true, true, true, true, true, true, true, true, true, false, false, false, false] rfl rfl (by kernel_rfl) (fun _ _ _ h => h) (Or.inl ⟨by rfl, ?_⟩) ?_ ?_
                  rotate_left
                  · intro w'
                    go_simp
                    with_reducible rfl
                  rotate_left
                  · simp only [Act.put, List.setIfInBounds_toArray, List.set_cons_zero, List.set_cons_succ, i64_w, i32_w]
                    rfl
                  refine pure_ (i := 10) (N := some 87) (v := ?_) (a' := ?_) #[true, true, true, true, true, true, true, true, true, true, true, false, false, false] rfl rfl (by kernel_rfl) (fun _ _ _ h => h) (Or.inl ⟨by rfl, ?_⟩) ?_ ?_
                  rotate_left
                  · intro w'
                    go_simp
                    with_reducible rfl
                  rotate_left
                  · simp only [Act.put, List.setIfInBounds_toArray, List.set_cons_zero, List.set_cons_succ, i64_w, i32_w]
                    rfl
                  refine last_ (i := 11) (N := none) #[true, true, true, true, true, true, true, true, true, true, true, true, false, false] rfl rfl (by kernel_rfl) (by decide) (fun K hK => ?_)
                  have HB4 := Aside0.mk hb4
                  have HOK := Aside0.mk hok
                  clear hok
                  have hW4 : w4.heap[w1.heap.size]? = some (.cells (specC v) 30 (0, 0)) := (hb4.block _ (cb_lt HL.out.blk)).trans HL.out.blk
                  have f0 := cb_frozen (i := 0) hW4
                  have f1 := cb_frozen (i := 1) hW4
                  have f2 := cb_frozen (i := 2) hW4
                  have f3 := cb_frozen (i := 3) hW4
                  have f4 := cb_frozen (i := 4) hW4
                  have f5 := cb_frozen (i := 5) hW4
                  have f6 := cb_frozen (i := 6) hW4
                  have f7 := cb_frozen (i := 7) hW4
                  have r0 := hHeld.1
                  have r1 := hHeld.2.1
                  have r2 := hHeld.2.2.1
                  have r3 := hHeld.2.2.2.1
                  have r4 := hHeld.2.2.2.2.1
                  have r5 := hHeld.2.2.2.2.2.1
                  have r6 := hHeld.2.2.2.2.2.2.1
                  have r7 := hHeld.2.2.2.2.2.2.2.1
                  have HW4 := Aside0.mk hW4
                  clear hW4
                  refine skip_ (w1 := ?_) (by rfl) rfl ?_ ?_
                  rotate_left
                  · go_simp
                    rfl
                  refine hK.out _ _ ?_
                  clear hK K
                  refine pure_ (i := 12) (N := some 11) (v := ?_) (a' := ?_) #[true, true, true, true, true, true, true, true, true, true, true, true, true, false] rfl rfl (by kernel_rfl) (fun _ _ _ h => h) (Or.inl ⟨by rfl, ?_⟩) ?_ ?_
                  rotate_left
                  · intro w'
                    go_simp
                    with_reducible rfl
                  rotate_left
                  · simp only [Act.put, List.setIfInBounds_toArray, List.set_cons_zero, List.set_cons_succ, i64_w, i32_w]
                    rfl
                  refine pure_ (i := 13) (N := some 12) (v := ?_) (a' := ?_) #[true, true, true, true, true, true, true, true, true, true, true, true, true, true] rfl rfl (by kernel_rfl) (fun _ _ _ h => h) (Or.inl ⟨by rfl, ?_⟩) ?_ ?_
                  rotate_left
                  · intro w'
                    go_simp
                    with_reducible rfl
                  rotate_left
                  · simp only [Act.put, List.setIfInBounds_toArray, List.set_cons_zero, List.set_cons_succ, i64_w, i32_w]
                    rfl
                  refine done_ (by kernel_rfl) ?_
                  have htu := set8_turns w4 w1.heap.size v'
                  have HL5 : Aside0 (LoopS w3 ((((((((w4.setCell ⟨w1.heap.size, 0, none⟩ (.string v'.typ)).setCell ⟨w1.heap.size, 1, none⟩ (.string v'.src)).setCell ⟨w1.heap.size, 2, none⟩ (.string v'.tgt)).setCell ⟨w1.heap.size, 3, none⟩ (.string v'.pr)).setCell ⟨w1.heap.size, 4, none⟩ (.string v'.se)).setCell ⟨w1.heap.size, 5, none⟩ (.bool v'.ro)).setCell ⟨w1.heap.size, 6, none⟩ (.bool v'.ch)).setCell ⟨w1.heap.size, 7, none⟩ (.bool v'.nc)) w1.heap.size v') := ⟨⟨set8_block HW4.out v', (HL.out.turns.trans (Turns.of_below (F := fun k => k = w1.heap.size) (hb_then (below_drew (Below.refl _ wr)) HB4.out)) (fun _ _ e => e)).trans htu (fun _ _ e => e)⟩⟩
                  have HB5 : Aside0 (Below w.heap.size w ((((((((w4.setCell ⟨w1.heap.size, 0, none⟩ (.string v'.typ)).setCell ⟨w1.heap.size, 1, none⟩ (.string v'.src)).setCell ⟨w1.heap.size, 2, none⟩ (.string v'.tgt)).setCell ⟨w1.heap.size, 3, none⟩ (.string v'.pr)).setCell ⟨w1.heap.size, 4, none⟩ (.string v'.se)).setCell ⟨w1.heap.size, 5, none⟩ (.bool v'.ro)).setCell ⟨w1.heap.size, 6, none⟩ (.bool v'.ch)).setCell ⟨w1.heap.size, 7, none⟩ (.bool v'.nc))) := ⟨htu.below (hb_then HBW.out (hb_then (below_drew (Below.refl _ wr)) HB4.out)) (fun k hk e => by omega)⟩
                  have HS5 : Aside0 (Kd.string.R 9 ((((((((w4.setCell ⟨w1.heap.size, 0, none⟩ (.string v'.typ)).setCell ⟨w1.heap.size, 1, none⟩ (.string v'.src)).setCell ⟨w1.heap.size, 2, none⟩ (.string v'.tgt)).setCell ⟨w1.heap.size, 3, none⟩ (.string v'.pr)).setCell ⟨w1.heap.size, 4, none⟩ (.string v'.se)).setCell ⟨w1.heap.size, 5, none⟩ (.bool v'.ro)).setCell ⟨w1.heap.size, 6, none⟩ (.bool v'.ch)).setCell ⟨w1.heap.size, 7, none⟩ (.bool v'.nc)) w.heap.size (fun k => w3.heap.size ≤ k) (.slice A8 seen.length c8) seen) := ⟨Kd.R_grown (Kd.R_below (Kd.R_drew HSEEN.out) HB4.out) (grown_of_turns htu) (fun k hk e => by injection e with e; omega)⟩
                  clear htu HW4 HB4 HSEEN HL HBW
                  generalize ((((((((w4.setCell ⟨w1.heap.size, 0, none⟩ (.string v'.typ)).setCell ⟨w1.heap.size, 1, none⟩ (.string v'.src)).setCell ⟨w1.heap.size, 2, none⟩ (.string v'.tgt)).setCell ⟨w1.heap.size, 3, none⟩ (.string v'.pr)).setCell ⟨w1.heap.size, 4, none⟩ (.string v'.se)).setCell ⟨w1.heap.size, 5, none⟩ (.bool v'.ro)).setCell ⟨w1.heap.size, 6, none⟩ (.bool v'.ch)).setCell ⟨w1.heap.size, 7, none⟩ (.bool v'.nc)) = W5 at *
                  have HR5 := Aside0.mk (HL5.out.turns.obj HRW.out (show ¬ w.heap.size = w1.heap.size by omega))
                  have hsl2 : seen.length < 8796093022207 := by omega
                  clear c0 c1 c2 c3 c4 c5 c6 c7 co
                  cases ok
                  · go_wp2_with (refine store_spec (v := zeroS) (.tmp 2) (.tmp 90) rfl rfl rfl rfl HR5.out ?_)
                    refine bodyPost_ret (spec_result rfl (setRow_heap _ _ _ _ _ _ HR5.out)) rfl (SvPost.no (below_setRow HB5.out (Nat.le_refl _) rfl _))
                  · go_wp2_with (at_builtin; refine append_strO (w0 := w) (fun k hk => Nat.le_trans HL5.out.turns.size hk) (.tmp 91) (.tmp 93) rfl rfl rfl rfl HS5.out HB5.out hsl2 ?_; intro v1 w6 ho hb hg; have HS6 := Aside0.mk ho; have HB6 := Aside0.mk hb; have HG6 := Aside0.mk hg; clear ho hb hg)
                    go_roundw
                    case rel =>
                      obtain ⟨m1, m2⟩ := HOK.out rfl
                      refine ⟨i + 1, seen ++ [cl], v', by go_num, by omega, ⟨?_, ?_⟩, ⟨?_⟩, by simp; omega, HB6, HS6⟩
                      · have hn : some w1.heap.size ≠ (Value.slice A8 seen.length c8).ownBlock := fun e => by
                          have := HS5.out.1 _ e.symm
                          have : w3.heap.size ≤ w1.heap.size := this
                          omega
                        exact (HG6.out.block _ (cb_lt HL5.out.blk) hn).trans HL5.out.blk
                      · refine HL5.out.turns.trans (Turns.of_grown HG6.out) (fun j hj e => ?_)
                        have : w3.heap.size ≤ j := HS5.out.1 _ e.symm
                        omega
                      · rw [HMS.out, modesV, m1]
                        simp [m2]
                    case measure => simp [intOf]; omega
                · have hie : i = os.length := by omega
                  have hmm := HM.out
                  rw [hie, List.drop_of_length_le (Nat.le_refl _), modesV] at hmm
                  have Y := Aside0.mk (MW.out v hmm)
                  have HRr := Aside0.mk (HL.out.turns.obj HRW.out (show ¬ w.heap.size = w1.heap.size by omega))
                  clear hmm hC8
                  go_wp2_with (first | refine load_spec (v := v) (.tmp 5) rfl rfl rfl HL.out.blk ?_ | refine store_spec (v := v) (.tmp 2) (.tmp 95) rfl rfl rfl rfl HRr.out ?_)
                  refine bodyPost_ret (spec_result rfl (setRow_heap _ _ _ _ _ _ HRr.out)) rfl (SvPost.yes (below_setRow HBW.out (Nat.le_refl _) rfl _) Y.out)
          · have e47 : ((c.toNat : Int) != 47) = true := by simpa using (show ¬ (c.toNat : Int) = 47 by omega)
            clear hc k3
            go_wp2_with (refine store_spec (v := zeroS) (.tmp 2) (.tmp 62) rfl rfl rfl rfl (hr2 _).out ?_)
            refine bodyPost_ret (spec_result rfl (setRow_heap _ _ _ _ _ _ (hr2 _).out)) rfl (SvPost.no (below_setRow (HB1.out.alloc (by omega) _) (Nat.le_refl _) rfl _))
      · by_cases k3 : x1.size < 3
        · go_wp2_with (refine store_spec (v := zeroS) (.tmp 2) (.tmp 62) rfl rfl rfl rfl (hr2 _).out ?_)
          refine bodyPost_ret (spec_result rfl (setRow_heap _ _ _ _ _ _ (hr2 _).out)) rfl (SvPost.no (below_setRow (HB1.out.alloc (by omega) _) (Nat.le_refl _) rfl _))
        · have l3 : decide ((x1.size : Int) < 3) = false := decide_eq_false (by omega)
          have q0 : 0 < x1.size := by omega
          obtain ⟨c, hc⟩ : ∃ c : UInt8, x1[0] = c := ⟨_, rfl⟩
          have hcv : (x1[0].toNat : Int) = (c.toNat : Int) := by rw [hc]
          have k4 : 3 ≤ x1.size := by omega
          by_cases k47 : c.toNat = 47
          · have e47 : ((c.toNat : Int) != 47) = false := by rw [k47]; rfl
            clear hc k3
            cases hwd : wordB true (lb x1)
            · rw [hwd] at CW
              clear hwd
              go_wp2_with (first | (refine (CW.out _ (by omega)).mono ?_; rintro e w2 ⟨rfl, rfl⟩) | refine store_spec (v := zeroS) (.tmp 2) (.tmp 62) rfl rfl rfl rfl (hr2 _).out ?_)
              refine bodyPost_ret (spec_result rfl (setRow_heap _ _ _ _ _ _ (hr2 _).out)) rfl (SvPost.no (below_setRow (HB1.out.alloc (by omega) _) (Nat.le_refl _) rfl _))
            · rw [hwd] at CW
              have MW := Aside0.mk (fun v h => MV.out v ⟨k4, hwd⟩ h)
              clear hwd
              go_wp2_with fail
              refine (CW.out _ (by omega)).mono ?_
              rintro e w2 ⟨rfl, rfl⟩
              go_wp2_with fail
              refine (CO.out _ (by omega)).mono ?_
              rintro e w3 ⟨v9, rfl, hR9, hb9⟩
              have hz9 := hb9.size
              rw [World.size_alloc] at hz9
              have HBv : Aside0 (w3.heap[w1.heap.size]? = some (.cells (specC vb) 30 (0, 0))) := ⟨(hb9.block w1.heap.size (by rw [World.size_alloc]; omega)).trans (by rw [← HBASE.out]; exact cb_new w1 _)⟩
              have HB3 := Aside0.mk ((HB1.out.alloc (by omega) _).trans (hb9.mono (by rw [World.size_alloc]; omega)))
              have HR3 := Aside0.mk ((hb9.block w.heap.size (by rw [World.size_alloc]; omega)).trans (hr2 _).out)
              have hpo := parts_pos 44 x2
              have hlo := parts_length 44 x2
              generalize parts 44 x2 = os at hR9 hpo hlo MW
              obtain ⟨A9, c9, rfl, hle9, hC9⟩ := Kd.R_reads hR9
              obtain ⟨b9, o9, rfl, hb9l, hcell9⟩ := strs_open hC9 hpo
              have hb9g : w1.heap.size < b9 := by
                have := ((Kd.R_bound hR9).1 b9 (by simp [Value.ownBlock])).2.1
                rw [World.size_alloc] at this
                omega
              have HC9 := Aside0.mk hcell9
              have HLS := Aside0.mk (LoopS.mk HBv.out (Turns.refl _ w3))
              clear hC9 hcell9 hR9 hb9 hle9 MV hr2 HBASE NB HBv CO CS CW PC HPS HC
              have HRW := Aside0.mk HR3.out
              go_wp2
              go_loopw [8, 10] (fun v8 v10 wr => ∃ (i : Nat) (seen : List ByteArray) (v : SpecV), v10 = .int .i64 i ∧ i ≤ os.length ∧ Aside0 (LoopS w3 wr w1.heap.size v) ∧ Aside0 (modesV vb [] os = modesV v seen (os.drop i)) ∧ seen.length ≤ i ∧ Aside0 (Below w.heap.size w wr) ∧ Aside0 (Kd.string.R 9 wr w.heap.size (fun k => w3.heap.size ≤ k) v8 seen)) (fun _ v10 _ => os.length - (intOf v10).toNat)
              case atStart => exact ⟨0, [], vb, rfl, by omega, HLS, ⟨by rw [List.drop_zero]⟩, by simp, HB3, ⟨Kd.R_nil _ _ _ _ _⟩⟩
              case round =>
                clear HLS
                obtain ⟨i, seen, v, rfl, hi, HL, HM, hsl, HBW, HSEEN⟩ := hrel
                obtain ⟨A8, c8, rfl, hle8, hC8⟩ := Kd.R_reads HSEEN.out
                by_cases hlt : i < os.length
                · have q1 : (0 : Int) ≤ (i : Int) := by omega
                  have q2 : (i : Int) < (os.length : Int) := by omega
                  have co : wr.cell? ⟨b9, o9 + i, none⟩ = some (.string os[i]) := by
                    have h1 := HC9.out i hlt
                    have h2 := HL.out.turns.block b9 hb9l (by omega)
                    simpa [World.cell?, h2] using h1
                  have HMS := Aside0.mk (show modesV vb [] os = modesV v seen (os[i] :: os.drop (i + 1)) by rw [HM.out, List.drop_eq_getElem_cons hlt])
                  generalize os[i] = oi at co HMS
                  have CM := Aside0.mk (shortMode8 (c := c8) v oi seen wr.drew (Kd.C_drew hC8) (by omega))
                  have hW := HL.out.blk
                  have c0 : wr.cell? ⟨w1.heap.size, 0, none⟩ = some (.string v.typ) := cb_cell (i := 0) hW rfl
                  have c1 : wr.cell? ⟨w1.heap.size, 1, none⟩ = some (.string v.src) := cb_cell (i := 1) hW rfl
                  have c2 : wr.cell? ⟨w1.heap.size, 2, none⟩ = some (.string v.tgt) := cb_cell (i := 2) hW rfl
                  have c3 : wr.cell? ⟨w1.heap.size, 3, none⟩ = some (.string v.pr) := cb_cell (i := 3) hW rfl
                  have c4 : wr.cell? ⟨w1.heap.size, 4, none⟩ = some (.string v.se) := cb_cell (i := 4) hW rfl
                  have c5 : wr.cell? ⟨w1.heap.size, 5, none⟩ = some (.bool v.ro) := cb_cell (i := 5) hW rfl
                  have c6 : wr.cell? ⟨w1.heap.size, 6, none⟩ = some (.bool v.ch) := cb_cell (i := 6) hW rfl
                  have c7 : wr.cell? ⟨w1.heap.size, 7, none⟩ = some (.bool v.nc) := cb_cell (i := 7) hW rfl
                  clear hW hC8 hle8
                  go_wp2_with fail
                  refine start_ (n := 14) (S := fun w' => w'.cell? ⟨w1.heap.size, 0, none⟩ = some (.string v.typ) ∧ w'.cell? ⟨w1.heap.size, 1, none⟩ = some (.string v.src) ∧ w'.cell? ⟨w1.heap.size, 2, none⟩ = some (.string v.tgt) ∧ w'.cell? ⟨w1.heap.size, 3, none⟩ = some (.string v.pr) ∧ w'.cell? ⟨w1.heap.size, 4, none⟩ = some (.string v.se) ∧ w'.cell? ⟨w1.heap.size, 5, none⟩ = some (.bool v.ro) ∧ w'.cell? ⟨w1.heap.size, 6, none⟩ = some (.bool v.ch) ∧ w'.cell? ⟨w1.heap.size, 7, none⟩ = some (.bool v.nc) ∧ w'.cell? ⟨b9, o9 + i, none⟩ = some (.string oi)) (ds := [11]) #[false, false, false, false, false, false, false, false, false, false, false, false, false, false] (by kernel_rfl) rfl rfl ⟨c0, c1, c2, c3, c4, c5, c6, c7, co⟩ (fun hHeld => ?_)
                  refine pure_ (i := 1) (N := some 79) (v := ?_) (a' := ?_) #[false, true, false, false, false, false, false, false, false, false, false, false, false, false] rfl rfl (by kernel_rfl) (fun _ _ _ h => h) (Or.inl ⟨by rfl, ?_⟩) ?_ ?_
                  rotate_left
                  · intro w'
                    go_simp
                    with_reducible rfl
                  rotate_left
                  · simp only [Act.put, List.setIfInBounds_toArray, List.set_cons_zero, List.set_cons_succ, i64_w, i32_w]
                    rfl
                  refine pure_ (i := 2) (N := some 80) (v := ?_) (a' := ?_) #[false, true, true, false, false, false, false, false, false, false, false, false, false, false] rfl rfl (by kernel_rfl) (fun _ _ _ h => h) (Or.inl ⟨by rfl, ?_⟩) ?_ ?_
                  rotate_left
                  · intro w'
                    go_simp
                    with_reducible rfl
                  rotate_left
                  · simp only [Act.put, List.setIfInBounds_toArray, List.set_cons_zero, List.set_cons_succ, i64_w, i32_w]
                    rfl
                  refine pure_ (i := 3) (N := some 81) (v := ?_) (a' := ?_) #[false, true, true, true, false, false, false, false, false, false, false, false, false, false] rfl rfl (by kernel_rfl) (fun _ _ _ h => h) (Or.inl ⟨by rfl, ?_⟩) ?_ ?_
                  rotate_left
                  · intro w'
                    go_simp
                    with_reducible rfl
                  rotate_left
                  · simp only [Act.put, List.setIfInBounds_toArray, List.set_cons_zero, List.set_cons_succ, i64_w, i32_w]
                    rfl
                  refine pure_ (i := 5) (N := some 83) (v := ?_) (a' := ?_) #[false, true, true, true, false, true, false, false, false, false, false, false, false, false] rfl rfl (by kernel_rfl) (fun _ _ _ h => h) (Or.inl ⟨by rfl, ?_⟩) ?_ ?_
                  rotate_left
                  · intro w'
                    go_simp
                    with_reducible rfl
                  rotate_left
                  · simp only [Act.put, List.setIfInBounds_toArray, List.set_cons_zero, List.set_cons_succ, i64_w, i32_w]
                    rfl
                  refine take_ (i := 0) (N := some 78) (v := ?_) (a' := ?_) #[true, true, true, true, false, true, false, false, false, false, false, false, false, false] rfl rfl (by kernel_rfl) (fun _ _ _ h => h) (Or.inl ⟨by rfl, ?_⟩) hHeld ?_ ?_
                  rotate_left
                  · rintro w' ⟨s0, s1, s2, s3, s4, s5, s6, s7, s8⟩
                    go_simp
                    with_reducible rfl
                  rotate_left
                  · simp only [Act.put, List.setIfInBounds_toArray, List.set_cons_zero, List.set_cons_succ, i64_w, i32_w]
                    rfl
                  refine take_ (i := 4) (N := some 82) (v := ?_) (a' := ?_) #[true, true, true, true, true, true, false, false, false, false, false, false, false, false] rfl rfl (by kernel_rfl) (fun _ _ _ h => h) (Or.inl ⟨by rfl, ?_⟩) hHeld ?_ ?_
                  rotate_left
                  · rintro w' ⟨s0, s1, s2, s3, s4, s5, s6, s7, s8⟩
                    go_simp
                    with_reducible rfl
                  rotate_left
                  · simp only [Act.put, List.setIfInBounds_toArray, List.set_cons_zero, List.set_cons_succ, i64_w, i32_w]
                    rfl
                  refine one_ (i := 6) (N := some 84) #[true, true, true, true, true, true, true, false, false, false, false, false, false, false] rfl rfl (by kernel_rfl) (by decide) (fun K hK => ?_)
                  refine goes_ Tryd.func23 (by kernel_rfl) rfl #[.agg #[.string v.typ, .string v.src, .string v.tgt, .string v.pr, .string v.se, .bool v.ro, .bool v.ch, .bool v.nc], .string oi, .slice A8 seen.length c8] (by rfl) rfl rfl (by simp only [List.map_toArray, List.map_cons, List.map_nil]; rfl) ?_
                  with_reducible refine (CM.out).mono ?_
                  rintro e w4 ⟨hb4, v', cl, ok, rfl, hok⟩
                  refine ⟨_, rfl, ?_⟩
                  refine hK.out _ _ ⟨pw_cell_below hb4 hHeld.1, pw_cell_below hb4 hHeld.2.1, pw_cell_below hb4 hHeld.2.2.1, pw_cell_below hb4 hHeld.2.2.2.1, pw_cell_below hb4 hHeld.2.2.2.2.1, pw_cell_below hb4 hHeld.2.2.2.2.2.1, pw_cell_below hb4 hHeld.2.2.2.2.2.2.1, pw_cell_below hb4 hHeld.2.2.2.2.2.2.2.1, pw_cell_below hb4 hHeld.2.2.2.2.2.2.2.2⟩ (fun hHeld => ?_)
                  clear hK K
                  refine norm_ (a' := ?_) ?_ ?_
                  rotate_left
                  · show Act.put _ (some 84) _ = _
                    simp only [Act.put, List.setIfInBounds_toArray, List.set_cons_zero, List.set_cons_succ, i64_w, i32_w]
                    rfl
                  refine pure_ (i := 7) (N := some 77) (v := ?_) (a' := ?_) #[true, true, true, true, true, true, true, true, false, false, false, false, false, false] rfl rfl (by kernel_rfl) (fun _ _ _ h => h) (Or.inl ⟨by rfl, ?_⟩) ?_ ?_
                  rotate_left
                  · intro w'
                    go_simp
                    with_reducible rfl
                  rotate_left
                  · simp only [Act.put, List.setIfInBounds_toArray, List.set_cons_zero, List.set_cons_succ, i64_w, i32_w]
                    rfl
                  refine pure_ (i := 8) (N := some 85) (v := ?_) (a' := ?_) #[true, true, true, true, true, true, true, true, true, false, false, false, false, false] rfl rfl (by kernel_rfl) (fun _ _ _ h => h) (Or.inl ⟨by rfl, ?_⟩) ?_ ?_
                  rotate_left
                  · intro w'
                    go_simp
                    with_reducible rfl
                  rotate_left
                  · simp only [Act.put, List.setIfInBounds_toArray, List.set_cons_zero, List.set_cons_succ, i64_w, i32_w]
                    rfl
                  refine pure_ (i := 9) (N := some 86) (v := ?_) (a' := ?_) #[true, true, true, true, true, true, true, true, true, true, false, false, false, false] rfl rfl (by kernel_rfl) (fun _ _ _ h => h) (Or.inl ⟨by rfl, ?_⟩) ?_ ?_
                  rotate_left
                  · intro w'
                    go_simp
                    with_reducible rfl
                  rotate_left
                  · simp only [Act.put, List.setIfInBounds_toArray, List.set_cons_zero, List.set_cons_succ, i64_w, i32_w]
                    rfl
                  refine pure_ (i := 10) (N := some 87) (v := ?_) (a' := ?_) #[true, true, true, true, true, true, true, true, true, true, true, false, false, false] rfl rfl (by kernel_rfl) (fun _ _ _ h => h) (Or.inl ⟨by rfl, ?_⟩) ?_ ?_
                  rotate_left
                  · intro w'
                    go_simp
                    with_reducible rfl
                  rotate_left
                  · simp only [Act.put, List.setIfInBounds_toArray, List.set_cons_zero, List.set_cons_succ, i64_w, i32_w]
                    rfl
                  refine last_ (i := 11) (N := none) #[true, true, true, true, true, true, true, true, true, true, true, true, false, false] rfl rfl (by kernel_rfl) (by decide) (fun K hK => ?_)
                  have HB4 := Aside0.mk hb4
                  have HOK := Aside0.mk hok
                  clear hok
                  have hW4 : w4.heap[w1.heap.size]? = some (.cells (specC v) 30 (0, 0)) := (hb4.block _ (cb_lt HL.out.blk)).trans HL.out.blk
                  have f0 := cb_frozen (i := 0) hW4
                  have f1 := cb_frozen (i := 1) hW4
                  have f2 := cb_frozen (i := 2) hW4
                  have f3 := cb_frozen (i := 3) hW4
                  have f4 := cb_frozen (i := 4) hW4
                  have f5 := cb_frozen (i := 5) hW4
                  have f6 := cb_frozen (i := 6) hW4
                  have f7 := cb_frozen (i := 7) hW4
                  have r0 := hHeld.1
                  have r1 := hHeld.2.1
                  have r2 := hHeld.2.2.1
                  have r3 := hHeld.2.2.2.1
                  have r4 := hHeld.2.2.2.2.1
                  have r5 := hHeld.2.2.2.2.2.1
                  have r6 := hHeld.2.2.2.2.2.2.1
                  have r7 := hHeld.2.2.2.2.2.2.2.1
                  have HW4 := Aside0.mk hW4
                  clear hW4
                  refine skip_ (w1 := ?_) (by rfl) rfl ?_ ?_
                  rotate_left
                  · go_simp
                    rfl
                  refine hK.out _ _ ?_
                  clear hK K
                  refine pure_ (i := 12) (N := some 11) (v := ?_) (a' := ?_) #[true, true, true, true, true, true, true, true, true, true, true, true, true, false] rfl rfl (by kernel_rfl) (fun _ _ _ h => h) (Or.inl ⟨by rfl, ?_⟩) ?_ ?_
                  rotate_left
                  · intro w'
                    go_simp
                    with_reducible rfl
                  rotate_left
                  · simp only [Act.put, List.setIfInBounds_toArray, List.set_cons_zero, List.set_cons_succ, i64_w, i32_w]
                    rfl
                  refine pure_ (i := 13) (N := some 12) (v := ?_) (a' := ?_) #[true, true, true, true, true, true, true, true, true, true, true, true, true, true] rfl rfl (by kernel_rfl) (fun _ _ _ h => h) (Or.inl ⟨by rfl, ?_⟩) ?_ ?_
                  rotate_left
                  · intro w'
                    go_simp
                    with_reducible rfl
                  rotate_left
                  · simp only [Act.put, List.setIfInBounds_toArray, List.set_cons_zero, List.set_cons_succ, i64_w, i32_w]
                    rfl
                  refine done_ (by kernel_rfl) ?_
                  have htu := set8_turns w4 w1.heap.size v'
                  have HL5 : Aside0 (LoopS w3 ((((((((w4.setCell ⟨w1.heap.size, 0, none⟩ (.string v'.typ)).setCell ⟨w1.heap.size, 1, none⟩ (.string v'.src)).setCell ⟨w1.heap.size, 2, none⟩ (.string v'.tgt)).setCell ⟨w1.heap.size, 3, none⟩ (.string v'.pr)).setCell ⟨w1.heap.size, 4, none⟩ (.string v'.se)).setCell ⟨w1.heap.size, 5, none⟩ (.bool v'.ro)).setCell ⟨w1.heap.size, 6, none⟩ (.bool v'.ch)).setCell ⟨w1.heap.size, 7, none⟩ (.bool v'.nc)) w1.heap.size v') := ⟨⟨set8_block HW4.out v', (HL.out.turns.trans (Turns.of_below (F := fun k => k = w1.heap.size) (hb_then (below_drew (Below.refl _ wr)) HB4.out)) (fun _ _ e => e)).trans htu (fun _ _ e => e)⟩⟩
                  have HB5 : Aside0 (Below w.heap.size w ((((((((w4.setCell ⟨w1.heap.size, 0, none⟩ (.string v'.typ)).setCell ⟨w1.heap.size, 1, none⟩ (.string v'.src)).setCell ⟨w1.heap.size, 2, none⟩ (.string v'.tgt)).setCell ⟨w1.heap.size, 3, none⟩ (.string v'.pr)).setCell ⟨w1.heap.size, 4, none⟩ (.string v'.se)).setCell ⟨w1.heap.size, 5, none⟩ (.bool v'.ro)).setCell ⟨w1.heap.size, 6, none⟩ (.bool v'.ch)).setCell ⟨w1.heap.size, 7, none⟩ (.bool v'.nc))) := ⟨htu.below (hb_then HBW.out (hb_then (below_drew (Below.refl _ wr)) HB4.out)) (fun k hk e => by omega)⟩
                  have HS5 : Aside0 (Kd.string.R 9 ((((((((w4.setCell ⟨w1.heap.size, 0, none⟩ (.string v'.typ)).setCell ⟨w1.heap.size, 1, none⟩ (.string v'.src)).setCell ⟨w1.heap.size, 2, none⟩ (.string v'.tgt)).setCell ⟨w1.heap.size, 3, none⟩ (.string v'.pr)).setCell ⟨w1.heap.size, 4, none⟩ (.string v'.se)).setCell ⟨w1.heap.size, 5, none⟩ (.bool v'.ro)).setCell ⟨w1.heap.size, 6, none⟩ (.bool v'.ch)).setCell ⟨w1.heap.size, 7, none⟩ (.bool v'.nc)) w.heap.size (fun k => w3.heap.size ≤ k) (.slice A8 seen.length c8) seen) := ⟨Kd.R_grown (Kd.R_below (Kd.R_drew HSEEN.out) HB4.out) (grown_of_turns htu) (fun k hk e => by injection e with e; omega)⟩
                  clear htu HW4 HB4 HSEEN HL HBW
                  generalize ((((((((w4.setCell ⟨w1.heap.size, 0, none⟩ (.string v'.typ)).setCell ⟨w1.heap.size, 1, none⟩ (.string v'.src)).setCell ⟨w1.heap.size, 2, none⟩ (.string v'.tgt)).setCell ⟨w1.heap.size, 3, none⟩ (.string v'.pr)).setCell ⟨w1.heap.size, 4, none⟩ (.string v'.se)).setCell ⟨w1.heap.size, 5, none⟩ (.bool v'.ro)).setCell ⟨w1.heap.size, 6, none⟩ (.bool v'.ch)).setCell ⟨w1.heap.size, 7, none⟩ (.bool v'.nc)) = W5 at *
                  have HR5 := Aside0.mk (HL5.out.turns.obj HRW.out (show ¬ w.heap.size = w1.heap.size by omega))
                  have hsl2 : seen.length < 8796093022207 := by omega
                  clear c0 c1 c2 c3 c4 c5 c6 c7 co
                  cases ok
                  · go_wp2_with (refine store_spec (v := zeroS) (.tmp 2) (.tmp 90) rfl rfl rfl rfl HR5.out ?_)
                    refine bodyPost_ret (spec_result rfl (setRow_heap _ _ _ _ _ _ HR5.out)) rfl (SvPost.no (below_setRow HB5.out (Nat.le_refl _) rfl _))
                  · go_wp2_with (at_builtin; refine append_strO (w0 := w) (fun k hk => Nat.le_trans HL5.out.turns.size hk) (.tmp 91) (.tmp 93) rfl rfl rfl rfl HS5.out HB5.out hsl2 ?_; intro v1 w6 ho hb hg; have HS6 := Aside0.mk ho; have HB6 := Aside0.mk hb; have HG6 := Aside0.mk hg; clear ho hb hg)
                    go_roundw
                    case rel =>
                      obtain ⟨m1, m2⟩ := HOK.out rfl
                      refine ⟨i + 1, seen ++ [cl], v', by go_num, by omega, ⟨?_, ?_⟩, ⟨?_⟩, by simp; omega, HB6, HS6⟩
                      · have hn : some w1.heap.size ≠ (Value.slice A8 seen.length c8).ownBlock := fun e => by
                          have := HS5.out.1 _ e.symm
                          have : w3.heap.size ≤ w1.heap.size := this
                          omega
                        exact (HG6.out.block _ (cb_lt HL5.out.blk) hn).trans HL5.out.blk
                      · refine HL5.out.turns.trans (Turns.of_grown HG6.out) (fun j hj e => ?_)
                        have : w3.heap.size ≤ j := HS5.out.1 _ e.symm
                        omega
                      · rw [HMS.out, modesV, m1]
                        simp [m2]
                    case measure => simp [intOf]; omega
                · have hie : i = os.length := by omega
                  have hmm := HM.out
                  rw [hie, List.drop_of_length_le (Nat.le_refl _), modesV] at hmm
                  have Y := Aside0.mk (MW.out v hmm)
                  have HRr := Aside0.mk (HL.out.turns.obj HRW.out (show ¬ w.heap.size = w1.heap.size by omega))
                  clear hmm hC8
                  go_wp2_with (first | refine load_spec (v := v) (.tmp 5) rfl rfl rfl HL.out.blk ?_ | refine store_spec (v := v) (.tmp 2) (.tmp 95) rfl rfl rfl rfl HRr.out ?_)
                  refine bodyPost_ret (spec_result rfl (setRow_heap _ _ _ _ _ _ HRr.out)) rfl (SvPost.yes (below_setRow HBW.out (Nat.le_refl _) rfl _) Y.out)
          · have e47 : ((c.toNat : Int) != 47) = true := by simpa using (show ¬ (c.toNat : Int) = 47 by omega)
            clear hc k3
            go_wp2_with (refine store_spec (v := zeroS) (.tmp 2) (.tmp 62) rfl rfl rfl rfl (hr2 _).out ?_)
            refine bodyPost_ret (spec_result rfl (setRow_heap _ _ _ _ _ _ (hr2 _).out)) rfl (SvPost.no (below_setRow (HB1.out.alloc (by omega) _) (Nat.le_refl _) rfl _))
  · simp at h3
end Go.Proofs.YtpkfdifoaijpnaaDoor.Vol
