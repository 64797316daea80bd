/- laws.zzFits1, laws.isHeavy of one value. -/
import Derived.Test.YtkfkieebcahiiaaGreatDoorZWei
set_option linter.all false
namespace Go.Proofs.YtkfkieebcahiiaaGreatDoor
open Go Go.RowKit
set_option maxHeartbeats 4000000
set_option maxRecDepth 100000
set_option linter.all false

def BoolR (w : World) (e : Ending) (w' : World) : Prop := ∃ b, e = .returned (.bool b) ∧ Fr noF noF w w'
theorem L_zzFits1 (x : VT) (w : World) (v : Value) (hv : ValR w x v) : Calls Tryz.prog 11 #[v] w (BoolR w) := by
  obtain ⟨T, N, Sb, K, E, ids, L⟩ := x
  obtain ⟨vS, vI, vL, us, rfl, h1, h2, ⟨la, lc, rfl, hlc, hlm, hcell⟩, hE⟩ := hv.inv
  obtain ⟨sa, sn, sc, rfl, hsn⟩ := h1.len
  obtain ⟨ia, il, ic, rfl, hil, hic, him⟩ := h2.len
  have hf := (Fr.refl noF w).alloc (.cells (valA T N (.slice sa sn sc) K E (.slice ia il ic) (.slice la L.length lc)) 28 (0, 0))
  have HF := Lib.hid hf
  clear hf hcell hE h1 h2 hv
  rcases Decidable.em ((sn : Int) > 2147483647) with k1 | k1 <;> rcases Decidable.em ((il : Int) > 2147483647) with k2 | k2 <;> rcases Decidable.em ((L.length : Int) > 2147483647) with k3 | k3
  all_goals
    go_enter Tryz.func11, Tryz.ntmps11
    go_wp2
    go_ret
    exact ⟨_, rfl, HF.out⟩

def HeavyR (x : VT) (w : World) (e : Ending) (w' : World) : Prop := ∃ b, e = .returned (.bool b) ∧ (b = false → x.small ∧ x.weight ≤ 65536) ∧ Fr noF noF w w'
theorem L_isHeavy1 (g : Nat) (x : VT) (sa : Option Addr) (sn sc : Nat) (ia : Option Addr) (il ic : Nat) (la : Option Addr) (ll lc : Nat) (X : World) (hg : X.heap[g]? = some (.cells (valA x.T x.N (.slice sa sn sc) x.K x.E (.slice ia il ic) (.slice la ll lc)) 28 (0, 0)))
    (hv : ValR X x (.agg (valA x.T x.N (.slice sa sn sc) x.K x.E (.slice ia il ic) (.slice la ll lc)))) :
    Calls Tryz.prog 12 #[.slice (some ⟨g, 0, none⟩) 1 1] X (HeavyR x X) := by
  have HW := Lib.hid (show Calls Tryz.prog 41 #[.agg (valA x.T x.N (.slice sa sn sc) x.K x.E (.slice ia il ic) (.slice la ll lc)), .int .i64 0] X _ from L_weigh x X _ 0 (by decide) hv)
  have hcc := cell_at hg
  have c0 := hcc 0; have c1 := hcc 1; have c2 := hcc 2; have c3 := hcc 3; have c4 := hcc 4; have c5 := hcc 5; have c6 := hcc 6
  simp only [List.getElem?_toArray, List.getElem?_cons_zero, List.getElem?_cons_succ] at c0 c1 c2 c3 c4 c5 c6
  clear hcc hg hv
  go_enter Tryz.func12, Tryz.ntmps12
  go_wp2_with fail
  go_loopw [3, 4] (fun nn i wr => (i = .int .i64 0 ∧ nn = .int .i64 0 ∧ wr = X) ∨ (∃ r : Nat, i = .int .i64 1 ∧ nn = .int .i64 r ∧ r ≤ 196619 ∧ (r ≤ 65536 → x.small ∧ x.weight ≤ 65536) ∧ Fr noF noF X wr)) (fun _ i _ => 1 - (intOf i).toNat)
  case atStart => exact Or.inl ⟨rfl, rfl, rfl⟩
  case round =>
    rcases hrel with ⟨rfl, rfl, rfl⟩ | ⟨r, rfl, rfl, hr, hrw, hf⟩
    · go_wp2_with fail
      (with_reducible refine HW.out.mono ?_)
      rintro e Y ⟨r, rfl, h1, h2, h3⟩
      have HY := Lib.hid (And.intro h1 (And.intro (show r ≤ 65536 → x.small ∧ x.weight ≤ 65536 from fun h => ⟨(h2 h).2, by have := (h2 h).1; omega⟩) h3))
      clear h1 h2 h3 c0 c1 c2 c3 c4 c5 c6
      go_wp2_with fail
      go_roundw
      case rel => exact Or.inr ⟨r, rfl, rfl, HY.out.1, HY.out.2.1, HY.out.2.2⟩
      case measure => simp [intOf]
    · have hr0 : (r : Int) ≤ 196619 := by omega
      have hr00 : (0 : Int) ≤ (r : Int) := by omega
      have HD := Lib.hid (And.intro hrw hf)
      clear hrw hf
      rcases Decidable.em ((r : Int) ≤ 65536) with k1 | k1
      · have k2 : ¬ (r : Int) > 65536 := by omega
        go_wp2
        go_ret
        exact ⟨_, rfl, fun _ => HD.out.1 (by omega), HD.out.2⟩
      · have k2 : (r : Int) > 65536 := by omega
        go_wp2
        go_ret
        exact ⟨_, rfl, fun h => by simp at h, HD.out.2⟩

end Go.Proofs.YtkfkieebcahiiaaGreatDoor
