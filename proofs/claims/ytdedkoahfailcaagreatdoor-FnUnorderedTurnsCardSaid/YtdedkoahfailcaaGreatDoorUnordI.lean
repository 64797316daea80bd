/- impl.Unordered: do two lists have the same classes? -/
import Derived.Test.YtdedkoahfailcaaGreatDoorUnord
import Derived.Laws.EntriesVeiled
namespace Go.Proofs.YtdedkoahfailcaaGreatDoor
open Go Go.RowKit
set_option maxHeartbeats 2000000
set_option maxRecDepth 100000

theorem RdI.len {w : World} {v : Value} {l : List Int} (h : RdI w v l) : ∃ a n c, v = .slice a n c ∧ l.length = n := by
  rcases h with ⟨rfl, rfl⟩ | ⟨a, n, c, rfl, hl, _⟩
  · exact ⟨none, 0, 0, rfl, rfl⟩
  · exact ⟨_, _, _, rfl, hl⟩
/-- A list with something in it lies at a plain address. -/
theorem RdI.plain {w : World} {v : Value} {l : List Int} (h : RdI w v l) (hl : 0 < l.length) : ∃ b o c, v = .slice (some ⟨b, o, none⟩) l.length c ∧ l.length ≤ c ∧ ∀ (j : Nat) u, l[j]? = some u → w.cell? ⟨b, o + j, none⟩ = some (.int .i64 u) := by
  rcases h with ⟨rfl, rfl⟩ | ⟨a, n, c, rfl, hn, hc, _, hs⟩
  · simp at hl
  · obtain ⟨b, o, spot⟩ := a
    have h0 := hs 0 _ (List.getElem?_eq_getElem hl)
    have hspot : spot = none := by simpa [Addr.add] using World.cell?_spot h0
    subst hspot
    refine ⟨b, o, c, by rw [hn], by omega, fun j u hj => ?_⟩
    have := hs j u hj
    rwa [Go.WideShapes.add_plain] at this

theorem T_Unordered (p c : Nat) (same : List Int) (va vb : Value) (xs ys : List Int) (w : World) (hE : Env w p c same) (hx : RdI w va xs) (hy : RdI w vb ys) (h1 : xs.length ≤ 100000) (h2 : ys.length ≤ 100000) :
    Calls Tryz.prog 40 #[va, vb, .func (.func 41) #[] #[.pointer (some ⟨c, 0, none⟩)]] w (UnoR same xs ys w) := by
  by_cases hl : xs.length = ys.length
  · rcases Nat.eq_zero_or_pos xs.length with h0 | hpos
    · obtain rfl := List.length_eq_zero_iff.1 h0
      obtain rfl := List.length_eq_zero_iff.1 (hl.symm.trans h0)
      obtain ⟨a1, n1, c1, rfl, hn1⟩ := hx.len
      obtain ⟨a2, n2, c2, rfl, hn2⟩ := hy.len
      have g1 : n1 = 0 := hn1.symm
      have g2 : n2 = 0 := hn2.symm
      subst g1 g2
      clear hx hy hE h1 h2 hl h0
      go_enter Tryz.func40, Tryz.ntmps40
      go_wp2_with fail
      go_loopw [7] (fun i wr => i = .int .i64 0 ∧ wr = w) (fun _ _ => 0)
      case atStart => exact ⟨rfl, rfl⟩
      case round =>
        obtain ⟨rfl, rfl⟩ := hrel
        go_wp2
        go_ret
        exact ⟨true, rfl, ⟨fun _ => List.Perm.refl _, fun _ => rfl⟩, Fr.refl noF _⟩
    · obtain ⟨b1, o1, c1, rfl, hc1, hX⟩ := hx.plain hpos
      obtain ⟨b2, o2, c2, rfl, hc2, hY⟩ := hy.plain (by omega)
      rw [← hl] at hc2 ⊢
      exact T_Uno p c same b1 o1 c1 b2 o2 c2 xs.length xs ys w hE hX hY rfl hl.symm hc1 hc2 h1
  · obtain ⟨a1, n1, c1, rfl, hn1⟩ := hx.len
    obtain ⟨a2, n2, c2, rfl, hn2⟩ := hy.len
    have hne : ((n1 : Int) != (n2 : Int)) = true := by simp; omega
    have hno : ¬ (cl same xs).Perm (cl same ys) := fun h => hl (by simpa using h.length_eq)
    have HN := Lib.hid hno
    clear hx hy hE h1 h2 hl hn1 hn2 hno
    go_enter Tryz.func40, Tryz.ntmps40
    go_wp2
    go_ret
    exact ⟨false, rfl, ⟨fun h => (by cases h), fun h => (HN.out h).elim⟩, Fr.refl noF _⟩

theorem I_Unordered (va vb vs : Value) (xs ys same : List Int) (w : World) (hx : RdI w va xs) (hy : RdI w vb ys) (hs : RdI w vs same) (h1 : xs.length ≤ 100000) (h2 : ys.length ≤ 100000) :
    Calls Tryz.prog 14 #[va, vb, vs] w (UnoR same xs ys w) := by
  have hmf : ∀ (fn : Fn) (first cap : Array Value) (w : World), (Instr.makeFunc fn first cap).run Tryz.prog w = .ok (.func fn first cap) w := fun _ _ _ _ => rfl
  have henv : let W := (w.alloc (.cells #[vs] 30 (0, 0))).alloc (.cells #[.func (.func 39) #[] #[.pointer (some ⟨w.heap.size, 0, none⟩)]] 58 (0, 0))
      Env W w.heap.size (w.heap.size + 1) same ∧ RdI W va xs ∧ RdI W vb ys ∧ Fr noF noF w W := by
    intro W
    have hf : Fr noF noF w W := ((Fr.refl noF w).alloc _).alloc _
    exact ⟨⟨vs, cell_at (new2 w _ _).1 0, hs.keep hf, cell_at (new2 w _ _).2 0⟩, hx.keep hf, hy.keep hf, hf⟩
  obtain ⟨e1, e2, e3, e4⟩ := henv
  have HT := Lib.hid (T_Unordered w.heap.size (w.heap.size + 1) same va vb xs ys _ e1 e2 e3 h1 h2)
  have HF := Lib.hid e4
  clear e1 e2 e3 e4
  obtain ⟨a1, n1, c1, rfl, -⟩ := hx.len
  obtain ⟨a2, n2, c2, rfl, -⟩ := hy.len
  obtain ⟨a3, n3, c3, rfl, -⟩ := hs.len
  clear hx hy hs h1 h2
  go_enter Tryz.func14, Tryz.ntmps14
  go_wp2_with fail
  refine HT.out.mono ?_
  rintro e w1 ⟨r, rfl, hr, hf⟩
  have HR := Lib.hid (And.intro hr (HF.out.trans hf))
  clear hr hf HF HT
  go_wp2
  go_ret
  exact ⟨r, rfl, HR.out.1, HR.out.2⟩
end Go.Proofs.YtdedkoahfailcaaGreatDoor
