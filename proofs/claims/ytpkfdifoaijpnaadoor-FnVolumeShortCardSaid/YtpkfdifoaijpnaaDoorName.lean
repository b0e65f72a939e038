/- Project names: the walks of the loader's own loops. -/
import Derived.Test.YtpkfdifoaijpnaaDoorBuf
import Derived.Test.YtpkfdifoaijpnaaDoorShelf
import Derived.Lib.OthersKept
import Derived.BigCall
namespace Go.Proofs.YtpkfdifoaijpnaaDoor.Name
open Go.RowKit Go.Proofs.YtpkfdifoaijpnaaDoorW.PrintWords Go.Proofs.YtpkfdifoaijpnaaDoor.Str Go.Proofs.YtpkfdifoaijpnaaDoor.Kit
set_option linter.unusedVariables false
set_option linter.unusedSimpArgs false

/-- a byte of a name -/
def nameB (b : UInt8) : Bool := (97 ≤ b.toNat && b.toNat ≤ 122) || (48 ≤ b.toNat && b.toNat ≤ 57) || b.toNat == 95 || b.toNat == 45
/-- a line of either kind -/
def lineB (b : UInt8) : Bool := b.toNat == 95 || b.toNat == 45
theorem filter_snoc {l : Bs} {i : Nat} (h : i < l.length) : (l.take (i + 1)).filter nameB = (l.take i).filter nameB ++ (if nameB l[i] = true then [l[i]] else []) := by
  rw [List.take_succ_eq_append_getElem h, List.filter_append]
  congr 1
  cases hb : nameB l[i] <;> simp [hb]

set_option maxHeartbeats 1600000 in
set_option maxRecDepth 1000000 in
theorem zzNameChars (s : ByteArray) (w : World) (hs : s.size ≤ 70368744177664) :
    Calls Tryd.prog 27 #[.string s] w fun e w' => e = .returned (.string ⟨((lb s).filter nameB).toArray⟩) ∧ Below w.heap.size w w' := by
  go_enter Tryd.func27, Tryd.ntmps27
  go_wp2
  have HB := Aside0.mk (Below.refl w.heap.size w)
  go_loopw [3, 4] (fun v3 v4 wr => ∃ (i : Nat), v4 = .int .i64 i ∧ i ≤ s.size ∧ Aside0 (Buf wr w.heap.size v3 (((lb s).take i).filter nameB)) ∧ Aside0 (Below w.heap.size w wr)) (fun _ v4 _ => s.size - (intOf v4).toNat)
  case atStart => exact ⟨0, rfl, by omega, ⟨Buf.nil _ _⟩, HB⟩
  case round =>
    clear HB
    obtain ⟨i, rfl, hi, HO, HB⟩ := hrel
    by_cases hlt : i < s.size
    · have hlt' : i < (lb s).length := by rw [lb_length]; exact hlt
      have q0 : (0 : Int) ≤ (i : Int) := by omega
      have q1 : (i : Int) < (s.size : Int) := by omega
      have hsn := filter_snoc hlt'
      have hl : (((lb s).take i).filter nameB).length + 1 ≤ 140737488355328 := by
        have := List.length_filter_le nameB ((lb s).take i)
        rw [List.length_take, lb_length] at this
        omega
      have hlim := (lb s)[i].toNat_lt
      obtain ⟨b, hb⟩ : ∃ b : UInt8, (lb s)[i] = b := ⟨_, rfl⟩
      have hbs : s[i] = b := hb
      rw [hb] at hsn hlim
      obtain ⟨c, hc⟩ : ∃ c : Nat, b.toNat = c := ⟨_, rfl⟩
      have hcv : (s[i].toNat : Int) = (c : Int) := by rw [hbs, hc]
      have HSN := Aside0.mk hsn
      have HBB := Aside0.mk hb
      have HC := Aside0.mk hc
      have HL := Aside0.mk hl
      rw [hc] at hlim
      clear hsn hb hbs hc hl
      cases hn : nameB b
      · have hno : c < 45 ∨ (45 < c ∧ c < 48) ∨ (57 < c ∧ c < 95) ∨ c = 96 ∨ 122 < c := by
          rw [nameB, HC.out] at hn
          simp at hn
          omega
        have HN := Aside0.mk hn
        clear hn
        have n1 : ((c : Int) == 95) = false := beq_eq_false_iff_ne.mpr (by omega)
        have n2 : ((c : Int) == 45) = false := beq_eq_false_iff_ne.mpr (by omega)
        rcases hno with h | h | h | h | h
        all_goals go_wp2
        all_goals
          go_roundw
          case rel =>
            refine ⟨i + 1, by go_num, by omega, ?_, HB⟩
            rw [HSN.out, HN.out]
            simpa using HO
          case measure => simp [intOf]; omega
      · have hyes : (97 ≤ c ∧ c ≤ 122) ∨ (48 ≤ c ∧ c ≤ 57) ∨ c = 95 ∨ c = 45 := by
          rw [nameB, HC.out] at hn
          simp at hn
          omega
        have HN := Aside0.mk hn
        clear hn
        rcases hyes with h | h | h | h
        all_goals
          go_wp2_with (at_builtin; refine append_bufB (.tmp 37) (.tmp 39) rfl rfl b (by rw [HC.out]; first | done | omega) rfl rfl HO.out HB.out HL.out ?_; intro v1 w2 ho hb hg; have HO2 := Aside0.mk ho; have HB2 := Aside0.mk hb; clear ho hb hg)
          all_goals
            go_roundw
            case rel =>
              refine ⟨i + 1, by go_num, by omega, ?_, HB2⟩
              rw [HSN.out, HN.out]
              exact HO2
            case measure => simp [intOf]; omega
    · have e : (lb s).take i = lb s := List.take_of_length_le (by rw [lb_length]; omega)
      rw [e] at HO
      have hcv := HO.out.string
      go_wp2
      go_ret
      exact ⟨rfl, HB.out⟩

/-- all bytes below 128 -/
def ascii (l : Bs) : Prop := ∀ b ∈ l, b.toNat < 128

set_option maxHeartbeats 1600000 in
set_option maxRecDepth 1000000 in
theorem zzInSet (c : Nat) (set : ByteArray) (w : World) (ha : ascii (lb set)) :
    Calls Tryd.prog 40 #[.int .i32 c, .string set] w fun e w' => e = .returned (.bool ((lb set).any fun b => b.toNat == c)) ∧ Below w.heap.size w w' := by
  have hk0 : (w.iter set 0).heap[w.heap.size]? = some (.stringIter set 0) := World.iter_heap w set 0
  have hb0 : Below w.heap.size w (w.iter set 0) := (Below.refl _ w).alloc (Nat.le_refl _) _
  have HA := Aside0.mk ha
  clear ha
  go_enter Tryd.func40, Tryd.ntmps40
  go_wp2
  go_loopw [6] (fun _ wr => ∃ pos : Nat, pos ≤ set.size ∧ wr.heap[w.heap.size]? = some (.stringIter set pos) ∧ Aside0 (((lb set).take pos).any (fun b => b.toNat == c) = false) ∧ Aside0 (Below w.heap.size w wr)) (fun _ wr => set.size - wr.iterPos w.heap.size)
  case atStart => exact ⟨0, Nat.zero_le _, hk0, ⟨rfl⟩, ⟨hb0⟩⟩
  case round =>
    clear hk0 hb0
    obtain ⟨pos, hps, hk, HN, HB⟩ := hrel
    by_cases hp : pos < set.size
    · have hp' : pos < (lb set).length := by rw [lb_length]; exact hp
      have h128 : (set[pos]'hp).toNat < 128 := HA.out _ (List.getElem_mem hp')
      have hnext : ∀ ty, (Instr.next (.pointer (some ⟨w.heap.size, 0, none⟩)) true ty).run Tryd.prog wr = _ := fun ty => Lib.run_next_ascii_at wr w.heap.size set pos ty hk hp h128
      have hk1 := Lib.iterAt_heap wr w.heap.size set pos (pos + 1) hk
      have hnx1 : Below w.heap.size w (wr.iterAt w.heap.size set (pos + 1)) := Lib.below_iterAt HB.out (by omega) set (pos + 1)
      have HB1 := Aside0.mk hnx1
      have hmu : wr.iterPos w.heap.size = pos := by simp [World.iterPos, hk]
      have hstep : ((lb set).take (pos + 1)).any (fun b => b.toNat == c) = ((set[pos]'hp).toNat == c) := by
        rw [List.take_succ_eq_append_getElem hp', List.any_append, HN.out]
        show (false || ((set[pos]'hp).toNat == c || false)) = _
        rw [Bool.false_or, Bool.or_false]
      have HST := Aside0.mk hstep
      have htk := Aside0.mk (List.take_append_drop (pos + 1) (lb set))
      clear hstep hnx1
      generalize wr.iterAt w.heap.size set (pos + 1) = W1 at hnext hk1 HB1
      by_cases he : (set[pos]'hp).toNat = c
      · have e0 : ((c : Int) == ((set[pos]'hp).toNat : Int)) = true := by rw [he]; simp
        have R := Aside0.mk (show (lb set).any (fun b => b.toNat == c) = true from List.any_eq_true.2 ⟨set[pos]'hp, List.getElem_mem hp', by rw [he]; exact beq_self_eq_true c⟩)
        clear he
        go_wp2
        go_ret
        exact ⟨by rw [R.out]; rfl, HB1.out⟩
      · have e0 : ((c : Int) == ((set[pos]'hp).toNat : Int)) = false := beq_eq_false_iff_ne.mpr (by omega)
        have R := Aside0.mk (show ((lb set).take (pos + 1)).any (fun b => b.toNat == c) = false by rw [HST.out]; simpa using he)
        clear he
        go_wp2
        go_roundw
        case rel => exact ⟨pos + 1, by omega, hk1, R, HB1⟩
        case measure =>
          have hmu2 : W1.iterPos w.heap.size = pos + 1 := by simp [World.iterPos, hk1]
          rw [hmu, hmu2]
          omega
    · have hnext : ∀ ty, (Instr.next (.pointer (some ⟨w.heap.size, 0, none⟩)) true ty).run Tryd.prog wr = _ := fun ty => Lib.run_next_end_at wr w.heap.size set pos ty hk hp
      have hall : (lb set).take pos = lb set := List.take_of_length_le (by rw [lb_length]; omega)
      rw [hall] at HN
      go_wp2
      go_ret
      exact ⟨by rw [HN.out]; rfl, HB.out⟩

def lines : ByteArray := ⟨#[95, 45]⟩
theorem lines_any (b : UInt8) : (lb lines).any (fun x => x.toNat == b.toNat) = lineB b := by
  simp only [lines, lb, List.any_cons, List.any_nil, lineB, Bool.or_false]
  show ((95 : Nat) == b.toNat || (45 : Nat) == b.toNat) = _
  rw [Bool.beq_comm (a := (95 : Nat)), Bool.beq_comm (a := (45 : Nat))]

set_option maxHeartbeats 1600000 in
set_option maxRecDepth 1000000 in
theorem zzTrimLeft (s : ByteArray) (w : World) (ha : ascii (lb s)) :
    Calls Tryd.prog 28 #[.string s, .string ⟨#[95, 45]⟩] w fun e w' => e = .returned (.string ⟨((lb s).dropWhile lineB).toArray⟩) ∧ Below w.heap.size w w' := by
  have hk0 : (w.iter s 0).heap[w.heap.size]? = some (.stringIter s 0) := World.iter_heap w s 0
  have hb0 : Below w.heap.size w (w.iter s 0) := (Below.refl _ w).alloc (Nat.le_refl _) _
  have HA := Aside0.mk ha
  clear ha
  go_enter Tryd.func28, Tryd.ntmps28
  go_wp2
  go_loopw [5, 6] (fun _ _ wr => ∃ pos : Nat, pos ≤ s.size ∧ wr.heap[w.heap.size]? = some (.stringIter s pos) ∧ Aside0 ((lb s).dropWhile lineB = ((lb s).drop pos).dropWhile lineB) ∧ Aside0 (Below w.heap.size w wr)) (fun _ _ wr => s.size - wr.iterPos w.heap.size)
  case atStart => exact ⟨0, Nat.zero_le _, hk0, ⟨rfl⟩, ⟨hb0⟩⟩
  case round =>
    clear hk0 hb0
    obtain ⟨pos, hps, hk, HN, HB⟩ := hrel
    by_cases hp : pos < s.size
    · have hp' : pos < (lb s).length := by rw [lb_length]; exact hp
      have h128 : (s[pos]'hp).toNat < 128 := HA.out _ (List.getElem_mem hp')
      have hnext : ∀ ty, (Instr.next (.pointer (some ⟨w.heap.size, 0, none⟩)) true ty).run Tryd.prog wr = _ := fun ty => Lib.run_next_ascii_at wr w.heap.size s pos ty hk hp h128
      have hk1 := Lib.iterAt_heap wr w.heap.size s pos (pos + 1) hk
      have hnx1 : Below w.heap.size w (wr.iterAt w.heap.size s (pos + 1)) := Lib.below_iterAt HB.out (by omega) s (pos + 1)
      have HB1 := Aside0.mk hnx1
      have hmu : wr.iterPos w.heap.size = pos := by simp [World.iterPos, hk]
      have hstep : ((lb s).drop pos).dropWhile lineB = if lineB (s[pos]'hp) = true then ((lb s).drop (pos + 1)).dropWhile lineB else (lb s).drop pos := by
        rw [List.drop_eq_getElem_cons hp', List.dropWhile_cons]
        rfl
      have HST := Aside0.mk hstep
      clear hstep hnx1
      have hsz1 : w.heap.size < (wr.iterAt w.heap.size s (pos + 1)).heap.size := (Array.getElem?_eq_some_iff.1 hk1).1
      generalize wr.iterAt w.heap.size s (pos + 1) = W1 at hnext hk1 HB1 hsz1
      go_wp2_with fail
      refine (zzInSet (s[pos]'hp).toNat lines W1 (by intro b hb; simp [lines, lb] at hb; rcases hb with rfl | rfl <;> decide)).mono ?_
      rintro e w2 ⟨rfl, hb⟩
      rw [lines_any]
      have hk2 : w2.heap[w.heap.size]? = some (.stringIter s (pos + 1)) := (hb.block _ hsz1).trans hk1
      have HB2 := Aside0.mk (hb_then HB1.out hb)
      clear hb
      cases hl : lineB (s[pos]'hp)
      · rw [hl] at HST
        have q0 : (0 : Int) ≤ (pos : Int) := by omega
        have q1 : (pos : Int) ≤ (s.size : Int) := by omega
        clear hl
        go_wp2
        go_ret
        refine ⟨?_, HB2.out⟩
        rw [HN.out, HST.out, if_neg (by decide)]
        have ee : s.extract pos s.size = ⟨((lb s).drop pos).toArray⟩ := by
          apply lb_inj
          rw [lb_extract, lb_mk, List.take_of_length_le (by rw [lb_length]; omega)]
        rw [← ee]
        rfl
      · rw [hl] at HST
        clear hl
        go_wp2
        go_roundw
        case rel => exact ⟨pos + 1, by omega, hk2, ⟨by rw [HN.out, HST.out]; rfl⟩, HB2⟩
        case measure =>
          have hmu2 : w2.iterPos w.heap.size = pos + 1 := by simp [World.iterPos, hk2]
          rw [hmu, hmu2]
          omega
    · have hnext : ∀ ty, (Instr.next (.pointer (some ⟨w.heap.size, 0, none⟩)) true ty).run Tryd.prog wr = _ := fun ty => Lib.run_next_end_at wr w.heap.size s pos ty hk hp
      have hall : (lb s).drop pos = [] := List.drop_of_length_le (by rw [lb_length]; omega)
      rw [hall] at HN
      go_wp2
      go_ret
      exact ⟨by rw [HN.out]; rfl, HB.out⟩
end Go.Proofs.YtpkfdifoaijpnaaDoor.Name
