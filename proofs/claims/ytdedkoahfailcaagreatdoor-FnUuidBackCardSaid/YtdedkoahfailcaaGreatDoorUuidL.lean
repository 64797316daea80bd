/- Texts of uuids: two ways to read them, plainly. -/
import Derived.WalkKit
namespace Go.Proofs.YtdedkoahfailcaaGreatDoor

/-- A hexadecimal digit. -/
def hexd (b : Int) : Option Int :=
  if 48 ≤ b ∧ b ≤ 57 then some (b - 48) else if 97 ≤ b ∧ b ≤ 102 then some (b - 97 + 10) else if 65 ≤ b ∧ b ≤ 70 then some (b - 65 + 10) else none
theorem hexd_range {b d : Int} (h : hexd b = some d) : 0 ≤ d ∧ d < 16 := by
  unfold hexd at h
  split at h
  · injection h with h; omega
  · split at h
    · injection h with h; omega
    · split at h
      · injection h with h; omega
      · cases h

/-- The byte at a place. -/
def bat (l : List UInt8) (j : Nat) : Int := ((l.getD j 0).toNat : Int)
/-- The byte of two digits. -/
def pairAt (l : List UInt8) (j : Nat) : Option UInt8 :=
  match hexd (bat l j), hexd (bat l (j + 1)) with
  | some a, some b => some (UInt8.ofNat (16 * a + b).toNat)
  | _, _ => none
def JS : List Nat := [0, 2, 4, 6, 9, 11, 14, 16, 19, 21, 24, 26, 28, 30, 32, 34]
def acc (l : List UInt8) (o : Option (List UInt8)) (j : Nat) : Option (List UInt8) := o.bind fun O => (pairAt l j).map fun x => O ++ [x]
def dashed (l : List UInt8) : Prop := bat l 8 = 45 ∧ bat l 13 = 45 ∧ bat l 18 = 45 ∧ bat l 23 = 45
instance (l : List UInt8) : Decidable (dashed l) := by unfold dashed; infer_instance
/-- The uuid of a text. -/
def uu (l : List UInt8) : Option (List UInt8) := if l.length = 36 ∧ dashed l then JS.foldl (acc l) (some []) else none

theorem acc_none (l : List UInt8) (j : Nat) : acc l none j = none := rfl
theorem foldl_none (l : List UInt8) (js : List Nat) : js.foldl (acc l) none = none := by
  induction js with
  | nil => rfl
  | cons j js ih => exact ih
theorem fold_step {l : List UInt8} {k j : Nat} {U : List UInt8} (h : (JS.take k).foldl (acc l) (some []) = some U) (hj : JS[k]? = some j) : (JS.take (k + 1)).foldl (acc l) (some []) = acc l (some U) j := by
  rw [List.take_add_one, hj, List.foldl_append, h]
  rfl
theorem fold_stop {l : List UInt8} {k : Nat} (h : (JS.take k).foldl (acc l) (some []) = none) : JS.foldl (acc l) (some []) = none := by
  conv => lhs; rw [← List.take_append_drop k JS, List.foldl_append, h]
  exact foldl_none _ _
theorem fold_len {l : List UInt8} : ∀ {js : List Nat} {O U : List UInt8}, js.foldl (acc l) (some O) = some U → U.length = O.length + js.length
  | [], O, U, h => by injection h with h; subst h; rfl
  | j :: js, O, U, h => by
    simp only [List.foldl_cons] at h
    cases hp : pairAt l j with
    | none => rw [show acc l (some O) j = none by simp [acc, hp], foldl_none] at h; cases h
    | some x =>
      rw [show acc l (some O) j = some (O ++ [x]) by simp [acc, hp]] at h
      have := fold_len h
      simp at this ⊢
      omega
theorem uu_len {l d : List UInt8} (h : uu l = some d) : d.length = 16 ∧ l.length = 36 := by
  unfold uu at h
  split at h
  · rename_i hc
    exact ⟨by simpa [JS] using fold_len h, hc.1⟩
  · cases h

/-- The specification's way. -/
def isDash (i : Nat) : Bool := i == 8 || i == 13 || i == 18 || i == 23
def sstep (l : List UInt8) (i : Nat) (st : List UInt8 × Int) : Option (List UInt8 × Int) :=
  if isDash i then (if bat l i = 45 then some st else none) else
    match hexd (bat l i) with
    | none => none
    | some n => if st.2 < 0 then some (st.1, n) else some (st.1 ++ [UInt8.ofNat (16 * st.2 + n).toNat], -1)
def srun (l : List UInt8) : Nat → Option (List UInt8 × Int)
  | 0 => some ([], -1)
  | i + 1 => (srun l i).bind (sstep l i)

theorem srun_none {l : List UInt8} {i : Nat} (h : srun l i = none) : ∀ k, i ≤ k → srun l k = none
  | 0, hk => by obtain rfl : i = 0 := by omega
                exact h
  | k + 1, hk => by
    rcases Nat.lt_or_ge i (k + 1) with h1 | h1
    · show (srun l k).bind _ = none
      rw [srun_none h k (by omega)]
      rfl
    · obtain rfl : i = k + 1 := by omega
      exact h

abbrev lift (o : Option (List UInt8)) : Option (List UInt8 × Int) := o.map fun O => (O, -1)
theorem blk2 {l : List UInt8} {i : Nat} {o : Option (List UInt8)} (h : srun l i = lift o) (h0 : isDash i = false) (h1 : isDash (i + 1) = false) : srun l (i + 2) = lift (acc l o i) := by
  show ((srun l i).bind (sstep l i)).bind (sstep l (i + 1)) = _
  rw [h]
  cases o with
  | none => rfl
  | some O =>
    show (sstep l i (O, -1)).bind (sstep l (i + 1)) = lift ((pairAt l i).map fun x => O ++ [x])
    have e0 : sstep l i (O, -1) = (hexd (bat l i)).map fun n => (O, n) := by
      unfold sstep
      rw [h0]
      cases hexd (bat l i) <;> rfl
    rw [e0]
    unfold pairAt
    cases ha : hexd (bat l i) with
    | none => rfl
    | some a =>
      have hr := hexd_range ha
      show sstep l (i + 1) (O, a) = _
      unfold sstep
      rw [h1]
      cases hb : hexd (bat l (i + 1)) with
      | none => rfl
      | some b =>
        show (if a < 0 then some (O, b) else some (O ++ [UInt8.ofNat (16 * a + b).toNat], -1)) = _
        rw [if_neg (by omega)]
        rfl
theorem blkd {l : List UInt8} {i : Nat} {o : Option (List UInt8)} (h : srun l i = lift o) (h0 : isDash i = true) : srun l (i + 1) = lift (if bat l i = 45 then o else none) := by
  show (srun l i).bind (sstep l i) = _
  rw [h]
  cases o with
  | none => split <;> rfl
  | some O =>
    show sstep l i (O, -1) = _
    unfold sstep
    rw [h0]
    by_cases hb : bat l i = 45
    · rw [if_pos hb, if_pos hb]; rfl
    · rw [if_neg hb, if_neg hb]; rfl

theorem srun_all (l : List UInt8) (hl : l.length = 36) : srun l 36 = lift (uu l) := by
  have a0 : srun l 0 = lift (some []) := rfl
  have a1 := blk2 (blk2 (blk2 (blk2 a0 rfl rfl) rfl rfl) rfl rfl) rfl rfl
  have a2 := blk2 (blk2 (blkd a1 rfl) rfl rfl) rfl rfl
  have a3 := blk2 (blk2 (blkd a2 rfl) rfl rfl) rfl rfl
  have a4 := blk2 (blk2 (blkd a3 rfl) rfl rfl) rfl rfl
  have a5 := blk2 (blk2 (blk2 (blk2 (blk2 (blk2 (blkd a4 rfl) rfl rfl) rfl rfl) rfl rfl) rfl rfl) rfl rfl) rfl rfl
  refine a5.trans ?_
  unfold uu
  congr 1
  simp only [Nat.reduceAdd]
  by_cases h8 : bat l 8 = 45
  · by_cases h13 : bat l 13 = 45
    · by_cases h18 : bat l 18 = 45
      · by_cases h23 : bat l 23 = 45
        · simp only [h8, h13, h18, h23, ↓reduceIte]
          rw [if_pos ⟨hl, h8, h13, h18, h23⟩]
          rfl
        · simp only [h23, ↓reduceIte, acc_none]
          rw [if_neg (fun h => h23 h.2.2.2.2)]
      · simp only [h18, ↓reduceIte, acc_none, ite_self]
        rw [if_neg (fun h => h18 h.2.2.2.1)]
    · simp only [h13, ↓reduceIte, acc_none, ite_self]
      rw [if_neg (fun h => h13 h.2.2.1)]
  · simp only [h8, ↓reduceIte, acc_none, ite_self]
    rw [if_neg (fun h => h8 h.2.1)]
end Go.Proofs.YtdedkoahfailcaaGreatDoor
