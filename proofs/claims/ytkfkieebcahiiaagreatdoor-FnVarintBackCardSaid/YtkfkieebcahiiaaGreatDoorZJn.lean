/- Two rows of bytes joined. -/
import Derived.Test.YtkfkieebcahiiaaGreatDoorZ4
import Derived.Test.YtkfkieebcahiiaaGreatDoorZFrg
set_option linter.all false
namespace Go.Proofs.YtkfkieebcahiiaaGreatDoor
open Go Go.RowKit
set_option maxHeartbeats 4000000
set_option maxRecDepth 100000

theorem joined2 (l1 l2 : List UInt8) (h1 : l1.length ≤ 1000000) (h2 : l2.length ≤ 1000000) {X : World} {g : Nat} {a1 : Option Addr} {n1 c1 : Nat} {a2 : Option Addr} {n2 c2 : Nat} (hg : X.heap[g]? = some (.cells #[.slice a1 n1 c1, .slice a2 n2 c2] 24 (0, 0))) (r1 : Rd X (.slice a1 n1 c1) l1) (r2 : Rd X (.slice a2 n2 c2) l2) :
    Calls Tryz.prog 32 #[.slice (some ⟨g, 0, none⟩) 2 2] X (fun e w' => ∃ a n c, e = .returned (.slice a n c) ∧ Rd w' (.slice a n c) (l1 ++ l2) ∧ Fr noF noF X w') := by
  refine (L_joined g 2 [.slice a1 n1 c1, .slice a2 n2 c2] [l1, l2] X (fun i v hv => by rw [cell_at hg]; simpa using hv) (fun i v l hv' hl' => by
    match i, hv', hl' with
    | 0, hv', hl' => simp at hv' hl'; subst hv' hl'; exact r1
    | 1, hv', hl' => simp at hv' hl'; subst hv' hl'; exact r2) rfl rfl (by decide) (fun l hl' => by simp at hl'; rcases hl' with rfl | rfl <;> omega) (fun k => by
      match k with
      | 0 => simp
      | 1 => simp; omega
      | k + 2 => simp; omega)).mono ?_
  rintro e w' ⟨v, rfl, ho, hf⟩
  have hr : Rd w' v (l1 ++ l2) := by simpa using ho.rd
  obtain ⟨a, n, c, rfl, -⟩ := hr.len
  exact ⟨a, n, c, rfl, hr, hf⟩

end Go.Proofs.YtkfkieebcahiiaaGreatDoor
