/- A pair put in its place, as an insertion into a row says it. -/
import Derived.Test.YtididniafloogaaGreatDoorMapV
namespace Go.Proofs.YtididniafloogaaGreatDoor.MapV
open Go.RowKit Go.Proofs.YtididniafloogaaGreatDoorW.PrintWords Go.Proofs.YtididniafloogaaGreatDoor.Str
set_option linter.unusedVariables false
set_option linter.unusedSimpArgs false
section
variable {α : Type} {key : Bs} {v : α}
theorem lt_asymm {a b : Bs} (h : a < b) : ¬ b < a := fun k => lt_irrefl a (lt_trans h k)
theorem mdel_id {f : List (Bs × α)} (h : ∀ p ∈ f, p.1 ≠ key) : mdel f key = f := List.filter_eq_self.2 (fun p hp => by simpa using h p hp)
theorem mput_lt {y : Bs × α} {r : List (Bs × α)} (h : y.1 < key) : mput (y :: r) key v = y :: mput r key v := by
  have hy : (y.1 == key) = false := by simpa using lt_ne h
  unfold mput
  have : mdel (y :: r) key = y :: mdel r key := by
    unfold mdel
    rw [List.filter_cons, hy]
    rfl
  rw [this, mins, if_neg (lt_asymm h)]
theorem mput_eq {y : Bs × α} {r : List (Bs × α)} (h : y.1 = key) (hr : ∀ p ∈ r, key < p.1) : mput (y :: r) key v = (key, v) :: r := by
  have hy : (y.1 == key) = true := by simpa using h
  unfold mput
  have : mdel (y :: r) key = r := by
    unfold mdel
    rw [List.filter_cons, hy]
    exact mdel_id (fun p hp => (lt_ne (hr p hp)).symm)
  rw [this]
  cases r with
  | nil => rfl
  | cons z t => rw [mins, if_pos (hr z (by simp))]
theorem mput_gt {f : List (Bs × α)} (hr : ∀ p ∈ f, key < p.1) : mput f key v = (key, v) :: f := by
  unfold mput
  rw [mdel_id (fun p hp => (lt_ne (hr p hp)).symm)]
  cases f with
  | nil => rfl
  | cons z t => rw [mins, if_pos (hr z (by simp))]
theorem mput_set : ∀ (k : Nat) {f : List (Bs × α)}, Rises f → (∀ (j : Nat) (h : j < f.length), j < k → f[j].1 < key) → ∀ (h : k < f.length), f[k].1 = key → mput f key v = f.set k (key, v)
  | k, [], _, _, h, _ => by simp at h
  | 0, y :: r, hf, _, _, he => by
    obtain ⟨h1, _⟩ := List.pairwise_cons.1 hf
    have he' : y.1 = key := he
    rw [mput_eq he' (fun p hp => by rw [← he']; exact h1 p hp)]
    rfl
  | k + 1, y :: r, hf, hl, h, he => by
    obtain ⟨_, h2⟩ := List.pairwise_cons.1 hf
    have hy : y.1 < key := hl 0 (by simp) (by omega)
    rw [mput_lt hy, mput_set k h2 (fun j hj hk => by have := hl (j + 1) (by simp; omega) (by omega); simpa using this) (by simpa using h) (by simpa using he)]
    rfl
theorem mput_ins : ∀ (k : Nat) {f : List (Bs × α)}, Rises f → (∀ (j : Nat) (h : j < f.length), j < k → f[j].1 < key) → k ≤ f.length → (∀ (h : k < f.length), key < f[k].1) → mput f key v = f.take k ++ (key, v) :: f.drop k
  | 0, f, hf, _, _, hg => by
    rw [mput_gt]
    · rfl
    · cases f with
      | nil => simp
      | cons y r =>
        have hy : key < y.1 := hg (by simp)
        obtain ⟨h1, _⟩ := List.pairwise_cons.1 hf
        intro p hp
        rcases List.mem_cons.1 hp with rfl | hp
        · exact hy
        · exact lt_trans hy (h1 p hp)
  | k + 1, [], _, _, h, _ => by simp at h
  | k + 1, y :: r, hf, hl, h, hg => by
    obtain ⟨_, h2⟩ := List.pairwise_cons.1 hf
    have hy : y.1 < key := hl 0 (by simp) (by omega)
    rw [mput_lt hy, mput_ins k h2 (fun j hj hk => by have := hl (j + 1) (by simp; omega) (by omega); simpa using this) (by simpa using h) (fun hk => by have := hg (by simpa using hk); simpa using this)]
    rfl
/-- pairs laid one after the other -/
def fitM (l : List (Bs × α)) : List (Bs × α) := l.foldl (fun f p => mput f p.1 p.2) []
theorem fitM_snoc (l : List (Bs × α)) (p : Bs × α) : fitM (l ++ [p]) = mput (fitM l) p.1 p.2 := by simp [fitM]
theorem fold_rises (l : List (Bs × α)) : ∀ {f : List (Bs × α)}, Rises f → Rises (l.foldl (fun f p => mput f p.1 p.2) f) := by
  induction l with
  | nil => intro f h; exact h
  | cons p r ih => intro f h; exact ih (mput_rises h _ _)
theorem fitM_rises (l : List (Bs × α)) : Rises (fitM l) := fold_rises l List.Pairwise.nil
theorem fold_length (l : List (Bs × α)) : ∀ (f : List (Bs × α)), (l.foldl (fun f p => mput f p.1 p.2) f).length ≤ f.length + l.length := by
  induction l with
  | nil => intro f; simp
  | cons p r ih =>
    intro f
    have h1 := ih (mput f p.1 p.2)
    have h2 := mput_length f p.1 p.2
    simp only [List.foldl_cons, List.length_cons]
    omega
theorem fitM_length (l : List (Bs × α)) : (fitM l).length ≤ l.length := by
  have := fold_length l []
  simpa [fitM] using this
end
end Go.Proofs.YtididniafloogaaGreatDoor.MapV
