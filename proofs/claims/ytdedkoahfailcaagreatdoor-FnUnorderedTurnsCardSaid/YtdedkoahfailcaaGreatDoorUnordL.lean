/- Which lists have the same things: the plain law of a greedy matching. -/
import Derived.WalkKit
namespace Go.Proofs.YtdedkoahfailcaaGreatDoor

/-- What is marked. -/
def sel : List Bool → List Int → List Int
  | true :: m, y :: ys => y :: sel m ys
  | false :: m, _ :: ys => sel m ys
  | _, _ => []

theorem sel_none (n : Nat) (ys : List Int) : sel (List.replicate n false) ys = [] := by
  induction n generalizing ys with
  | zero => cases ys <;> rfl
  | succ n ih =>
    cases ys with
    | nil => rfl
    | cons y ys => exact ih ys

theorem sel_set {M : List Bool} {ys : List Int} {j : Nat} {y : Int} (hM : M[j]? = some false) (hy : ys[j]? = some y) : (sel (M.set j true) ys).Perm (y :: sel M ys) := by
  induction M generalizing ys j with
  | nil => cases hM
  | cons m M ih =>
    cases ys with
    | nil => cases hy
    | cons z ys =>
      cases j with
      | zero =>
        simp at hM hy
        subst hM hy
        exact List.Perm.refl _
      | succ j =>
        simp at hM hy
        have := ih hM hy
        cases m with
        | true => exact (this.cons z).trans (List.Perm.swap ..)
        | false => exact this

theorem sel_count {M : List Bool} {ys : List Int} {c : Int} (hl : M.length = ys.length) (h : ∀ j : Nat, ys[j]? = some c → M[j]? = some true) : (sel M ys).count c = ys.count c := by
  induction M generalizing ys with
  | nil => cases ys with
    | nil => rfl
    | cons => simp at hl
  | cons m M ih =>
    cases ys with
    | nil => simp at hl
    | cons z ys =>
      have hs := ih (by simpa using hl) fun j hj => by simpa using h (j + 1) (by simpa using hj)
      cases m with
      | true =>
        show (z :: sel M ys).count c = _
        rw [List.count_cons, List.count_cons, hs]
      | false =>
        have hz : z ≠ c := fun e => by subst e; have := h 0 rfl; simp at this
        show (sel M ys).count c = _
        rw [List.count_cons_of_ne hz, hs]

theorem sel_le (M : List Bool) (ys : List Int) : (sel M ys).length ≤ ys.length := by
  induction M generalizing ys with
  | nil => cases ys <;> simp [sel]
  | cons m M ih =>
    cases ys with
    | nil => cases m <;> simp [sel]
    | cons z ys =>
      have := ih ys
      cases m <;> simp [sel] <;> omega

theorem sel_all {M : List Bool} {ys : List Int} (h : (sel M ys).length = ys.length) : sel M ys = ys := by
  induction M generalizing ys with
  | nil => cases ys with
    | nil => rfl
    | cons => simp [sel] at h
  | cons m M ih =>
    cases ys with
    | nil => cases m <;> rfl
    | cons z ys =>
      cases m with
      | true =>
        have h' : (sel M ys).length = ys.length := by simpa [sel] using h
        show z :: sel M ys = _
        rw [ih h']
      | false =>
        have h' : (sel M ys).length = ys.length + 1 := by simpa [sel] using h
        have := sel_le M ys
        omega

/-- All have been matched. -/
theorem perm_done {M : List Bool} {xs ys : List Int} (hl : xs.length = ys.length) (h : (sel M ys).Perm xs) : xs.Perm ys := by
  have h1 := sel_all (M := M) (ys := ys) (by rw [h.length_eq, hl])
  rw [h1] at h
  exact h.symm

/-- One has no partner. -/
theorem perm_none {M : List Bool} {xs ys : List Int} {i : Nat} {c : Int} (hM : M.length = ys.length) (h : (sel M ys).Perm (xs.take i)) (hi : xs[i]? = some c) (hn : ∀ j : Nat, ys[j]? = some c → M[j]? = some true) : ¬ xs.Perm ys := by
  intro hp
  have h1 := sel_count hM hn
  have h2 := h.count_eq c
  have h3 := hp.count_eq c
  have h4 : (xs.take (i + 1)).count c ≤ xs.count c := (List.take_sublist _ _).count_le c
  rw [List.take_add_one, hi, List.count_append] at h4
  simp at h4
  omega

/-- The equal ones ahead. -/
theorem perm_ahead {xs ys : List Int} {n : Nat} (h : xs.take n = ys.take n) : xs.Perm ys ↔ (xs.drop n).Perm (ys.drop n) := by
  conv => lhs; rw [← List.take_append_drop n xs, ← List.take_append_drop n ys, h]
  exact List.perm_append_left_iff _

/-- Two things swapped. -/
theorem swap_perm {α : Type} {l : List α} {i j : Nat} {a b : α} (hi : l[i]? = some a) (hj : l[j]? = some b) : ((l.set i b).set j a).Perm l := by
  obtain ⟨h1, rfl⟩ := List.getElem?_eq_some_iff.1 hi
  obtain ⟨h2, rfl⟩ := List.getElem?_eq_some_iff.1 hj
  exact List.set_set_perm h1 h2
end Go.Proofs.YtdedkoahfailcaaGreatDoor
