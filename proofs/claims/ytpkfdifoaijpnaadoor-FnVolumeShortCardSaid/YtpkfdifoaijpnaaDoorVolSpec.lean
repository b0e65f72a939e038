/- The laws over mounts: the known answer, letters, and a Windows drive. -/
import Derived.Test.YtpkfdifoaijpnaaDoorVolImpl
import Derived.Laws.IdiomStrings
namespace Go.Proofs.YtpkfdifoaijpnaaDoor.Vol
open Go.RowKit Go.Proofs.YtpkfdifoaijpnaaDoorW.PrintWords Go.Proofs.YtpkfdifoaijpnaaDoor.Str Go.Proofs.YtpkfdifoaijpnaaDoor.Kit Go.Proofs.YtpkfdifoaijpnaaDoor.Frame Go.Proofs.YtpkfdifoaijpnaaDoor.Index
set_option linter.unusedVariables false
set_option linter.unusedSimpArgs false

/-- the package's mount of a calm text -/
def mount (s : ByteArray) : Option VolV := (goV (lb s) [] V0).map typed
theorem implMount (s : ByteArray) (w : World) (hc : calm (lb s)) (h3 : 3 ≤ s.size) (hs : s.size ≤ 2147483648) (hT : VTabs w) :
    Calls Tryd.prog 12 #[.string s] w fun e w' => e = .returned (.tuple #[.agg (implR (mount s)), .bool (mount s).isSome]) ∧ Below w.heap.size w w' :=
  implParse s (mount s) w fun w1 _ hb => ParseVolume s w1 hc h3 hs (hT.below hb)

def known : ByteArray := ⟨#[100, 97, 116, 97, 58, 47, 118, 97, 114, 47, 108, 105, 98, 58, 114, 111]⟩
theorem known_calm : calm (lb known) := by
  intro b hb
  have : (lb known).all (fun b => decide (1 ≤ b.toNat ∧ b.toNat < 128 ∧ b ≠ 36)) = true := by decide
  simpa using List.all_eq_true.1 this b hb
theorem known_mount : mount known = some ⟨⟨#[118, 111, 108, 117, 109, 101]⟩, ⟨#[100, 97, 116, 97]⟩, ⟨#[47, 118, 97, 114, 47, 108, 105, 98]⟩, true, none, some false⟩ := by kernel_rfl
set_option maxHeartbeats 800000 in
theorem shortAwake (w : World) (hT : VTabs w) :
    Calls Tryd.prog 11 #[] w fun e w' => e = .returned (.bool true) ∧ Below w.heap.size w w' := by
  have C := Aside0.mk (implMount known w known_calm (by decide) (by decide) hT)
  rw [known_mount] at C
  clear hT
  have C2 : Aside0 (Calls Tryd.prog 12 #[.string known] w fun e w' => e = .returned (.tuple #[.agg #[.string ⟨#[118, 111, 108, 117, 109, 101]⟩, .string ⟨#[100, 97, 116, 97]⟩, .string ⟨#[47, 118, 97, 114, 47, 108, 105, 98]⟩, .string ⟨#[]⟩, .string ⟨#[]⟩, .string ⟨#[]⟩, .bool true, .bool false, .bool false, .bool false, .bool true, .bool false], .bool true]) ∧ Below w.heap.size w w') := C
  clear C
  go_enter Tryd.func11, Tryd.ntmps11
  go_wp2_with fail
  refine C2.out.mono ?_
  rintro e w1 ⟨rfl, hb⟩
  have HB := Aside0.mk (hb_then hb (alloc_below w1 (.cells #[.string ⟨#[118, 111, 108, 117, 109, 101]⟩, .string ⟨#[100, 97, 116, 97]⟩, .string ⟨#[47, 118, 97, 114, 47, 108, 105, 98]⟩, .string ⟨#[]⟩, .string ⟨#[]⟩, .string ⟨#[]⟩, .bool true, .bool false, .bool false, .bool false, .bool true, .bool false] 26)))
  clear hb
  go_wp2
  go_ret
  exact ⟨rfl, HB.out⟩

/-- a letter or a line -/
def letterB (n : Nat) : Bool := (decide (97 ≤ n) && decide (n ≤ 122)) || (decide (65 ≤ n) && decide (n ≤ 90)) || n == 95
theorem dotenvLetter (n : Nat) (hn : n < 256) (w : World) :
    Calls Tryd.prog 24 #[.int .u8 n] w fun e w' => e = .returned (.bool (letterB n)) ∧ w' = w := by
  go_enter Tryd.func24, Tryd.ntmps24
  go_wp2
  all_goals
    go_ret
    refine ⟨?_, rfl⟩
    show Ending.returned (Value.bool _) = _
    refine congrArg (fun b => Ending.returned (Value.bool b)) ?_
    unfold letterB
    rw [Bool.eq_iff_iff]
    simp
    omega

/-- what the reference says of a drive -/
def driveS (l : Bs) (c : Int) : Bool := c == 58 && (l.length == 1 && (letterB (l.getD 0 0).toNat && (l.getD 0 0).toNat != 95))
theorem letter_ascii : ∀ i : Fin 128, Lib.isLetterU (i.val : Int) = (letterB i.val && i.val != 95) := by decide
theorem drive_eq (l : Bs) (c : Int) (ha : ∀ b ∈ l, b.toNat < 128) : drive (runes l) c = driveS l c := by
  unfold drive driveS
  rw [runes_length]
  by_cases h : l.length = 1
  · obtain ⟨b, rfl⟩ := List.length_eq_one_iff.1 h
    have hb := ha b (by simp)
    have := letter_ascii ⟨b.toNat, hb⟩
    simp [runes] at this ⊢
    rw [this]
  · have : (l.length == 1) = false := beq_eq_false_iff_ne.mpr h
    rw [this]
    simp
def allAscii (l : Bs) : Prop := ∀ b ∈ l, b.toNat < 128
instance (l : Bs) : Decidable (allAscii l) := by unfold allAscii; infer_instance

def saidDrive (l : Bs) (c : Int) : Value := if allAscii l then .tuple #[.bool (driveS l c), .bool true] else .tuple #[.bool false, .bool false]
set_option maxHeartbeats 1600000 in
theorem specDrive (s : ByteArray) (c : Int) (w : World) (hs : s.size ≤ 4398046511104) :
    Calls Tryd.prog 15 #[.string s, .int .i32 c] w fun e w' => e = .returned (saidDrive (lb s) c) ∧ w' = w := by
  go_enter Tryd.func15, Tryd.ntmps15
  go_wp2
  go_loop [6] (fun v6 => ∃ i : Nat, v6 = .int .i64 i ∧ i ≤ s.size ∧ Aside0 (allAscii ((lb s).take i))) (fun v6 => s.size - (intOf v6).toNat)
  case atStart => exact ⟨0, rfl, by omega, ⟨by intro b hb; simp at hb⟩⟩
  case round =>
    obtain ⟨i, rfl, hi, HA⟩ := hrel
    by_cases hlt : i < s.size
    · have hlt' : i < (lb s).length := by rw [lb_length]; exact hlt
      have q0 : (0 : Int) ≤ (i : Int) := by omega
      have q1 : (i : Int) < (s.size : Int) := by omega
      obtain ⟨b, hb⟩ : ∃ b : UInt8, (lb s)[i] = b := ⟨_, rfl⟩
      have hbs : s[i] = b := hb
      have hcv : (s[i].toNat : Int) = (b.toNat : Int) := by rw [hbs]
      have HBB := Aside0.mk hb
      clear hb hbs
      by_cases h : b.toNat < 128
      · have h' : ¬ (127 : Int) < (b.toNat : Int) := by omega
        have HX := Aside0.mk h
        clear h
        go_wp2
        go_round
        case rel =>
          refine ⟨i + 1, by go_num, by omega, ⟨?_⟩⟩
          rw [List.take_succ_eq_append_getElem hlt', HBB.out]
          intro x hx
          rcases List.mem_append.1 hx with hx | hx
          · exact HA.out x hx
          · simp at hx; subst hx; exact HX.out
        case measure => simp [intOf]; omega
      · have h' : (127 : Int) < (b.toNat : Int) := by omega
        have NO := Aside0.mk (show ¬ allAscii (lb s) from fun hh => h (hh b (by rw [← HBB.out]; exact List.getElem_mem hlt')))
        clear h
        go_wp2
        go_ret2
        exact ⟨by rw [saidDrive, if_neg NO.out]; rfl, rfl⟩
    · have hall : allAscii (lb s) := by
        have := HA.out
        rw [List.take_of_length_le (by rw [lb_length]; omega)] at this
        exact this
      have HALL := Aside0.mk (show saidDrive (lb s) c = .tuple #[.bool (driveS (lb s) c), .bool true] from if_pos hall)
      clear HA hall
      by_cases hc : c = 58
      · have hcc : (c == 58) = true := by subst hc; rfl
        by_cases h1 : s.size = 1
        · have h1' : ((s.size : Int) == 1) = true := by rw [h1]; rfl
          have hl1 : (lb s).length = 1 := by rw [lb_length]; exact h1
          obtain ⟨b, hb⟩ := List.length_eq_one_iff.1 hl1
          have hs0 : 0 < s.size := by omega
          have hb0 : s[0] = b := by
            have : (lb s)[0] = b := by simp only [hb, List.getElem_cons_zero]
            exact this
          have hcv : (s[0].toNat : Int) = (b.toNat : Int) := by rw [hb0]
          have q1 : (0 : Int) < (s.size : Int) := by omega
          have R := Aside0.mk (show driveS (lb s) c = (letterB b.toNat && b.toNat != 95) by rw [driveS, hb, hc]; simp)
          have D := Aside0.mk (dotenvLetter b.toNat b.toNat_lt)
          clear hb hb0 hl1 hc h1
          obtain ⟨n, hn⟩ : ∃ n : Nat, b.toNat = n := ⟨_, rfl⟩
          rw [hn] at hcv R D
          clear hn
          go_wp2_with fail
          refine (D.out _).mono ?_
          rintro e w1 ⟨rfl, rfl⟩
          cases hlb : letterB n
          · rw [hlb] at R
            go_wp2
            go_ret2
            exact ⟨by rw [HALL.out, R.out]; rfl, rfl⟩
          · rw [hlb] at R
            go_wp2
            go_ret2
            refine ⟨?_, rfl⟩
            rw [HALL.out, R.out]
            show Ending.returned (.tuple #[.bool _, _]) = _
            have e1 : ((n : Int) != 95) = (n != 95) := by
              rw [Bool.eq_iff_iff]
              simp
              omega
            rw [e1]
            rfl
        · have h1' : ((s.size : Int) == 1) = false := beq_eq_false_iff_ne.mpr (by omega)
          have R := Aside0.mk (show driveS (lb s) c = false by
            have : ((lb s).length == 1) = false := beq_eq_false_iff_ne.mpr (by rw [lb_length]; exact h1)
            rw [driveS, this]; simp)
          clear h1 hc
          go_wp2
          go_ret2
          exact ⟨by rw [HALL.out, R.out]; rfl, rfl⟩
      · have hcc : (c == 58) = false := beq_eq_false_iff_ne.mpr hc
        have R := Aside0.mk (show driveS (lb s) c = false by rw [driveS, hcc]; rfl)
        clear hc
        go_wp2
        go_ret2
        exact ⟨by rw [HALL.out, R.out]; rfl, rfl⟩
end Go.Proofs.YtpkfdifoaijpnaaDoor.Vol
