/- laws.steps, zzFits3, isKinds. -/
import Derived.Deep.RegionHeld3
import Derived.Deep.DeepMust
import Derived.Test.YtoifjckhccbmlaaGreatDoorZStepsL
set_option linter.all false
namespace Go.Proofs.YtoifjckhccbmlaaGreatDoor
open Go Go.RowKit
set_option maxHeartbeats 4000000
set_option maxRecDepth 100000
set_option linter.all false

theorem info_sstep : (Tryz.prog.info? 203).map (fun i => (i.zero, i.size, i.bytes)) = some (some (.agg #[.int .i64 0, .int .i64 0, .int .i64 0, .int .i64 0, .int .i64 0, .int .i64 0, .slice none 0 0]), 7, 72) := by kernel_rfl
theorem cells7s (x : Stp) : x.cells.size = 7 := rfl
theorem rows7 {xs : List Stp} : ∀ (j i : Nat) x u, xs[j]? = some x → x.cells[i]? = some u → (xs.flatMap fun x => x.cells.toList)[j * 7 + i]? = some u := by
  induction xs with
  | nil => intro j i x u h; simp at h
  | cons r rs ih =>
    intro j i x u hj hi
    rw [List.flatMap_cons]
    have h7 : r.cells.toList.length = 7 := rfl
    cases j with
    | zero =>
      simp only [List.getElem?_cons_zero, Option.some.injEq] at hj
      subst hj
      have hlt : i < 7 := (Array.getElem?_eq_some_iff.1 hi).1
      rw [List.getElem?_append_left (by rw [h7]; omega)]
      simpa using hi
    | succ j =>
      rw [List.getElem?_append_right (by rw [h7]; omega), h7, show (j + 1) * 7 + i - 7 = j * 7 + i by omega]
      exact ih j i x u hj hi

/-- What steps leaves: the same steps, anew. -/
def StepsR (xs : List Stp) (w : World) (e : Ending) (w' : World) : Prop := ∃ la lc, e = .returned (.slice la xs.length lc) ∧ (0 < xs.length → ∃ ga, la = some ⟨ga, 0, none⟩ ∧ ∀ (j : Nat) x, xs[j]? = some x → ∀ (i : Nat) u, x.cells[i]? = some u → w'.cell? ⟨ga, j * 7 + i, none⟩ = some u) ∧ Fr noF noF w w'
theorem L_steps (v : Value) (xs : List Stp) (w : World) (h : RdS w noF v xs) (hnm : xs.length ≤ 1000000) : Calls Tryz.prog 64 #[v] w (StepsR xs w) := by
  obtain ⟨la, lc, rfl, hm, hel⟩ := h.form
  have hnI : (xs.length : Int) ≤ 1000000 := by omega
  obtain ⟨i0, hi, hz0, hz1, hz2⟩ := info_parts info_sstep
  have HI := Lib.hid (And.intro hi (And.intro hz0 (And.intro hz1 hz2)))
  have hfin : ∀ X vl, X.ownsRow w.heap.size 203 7 vl xs.length ((xs.take xs.length).flatMap fun x => x.cells.toList) → Fr noF noF w X → StepsR xs w (.returned vl) X := fun X vl ho hf => by
    rw [List.take_length] at ho
    rcases ho.2 with ⟨rfl, h0⟩ | ⟨g, cap, cur, rfl, hb, hg, h1, h2, h3, h4⟩
    · exact ⟨none, 0, by rw [h0], fun h => by omega, hf⟩
    · refine ⟨_, cap, rfl, fun _ => ⟨g, rfl, fun j x hj i u hu => ?_⟩, hf⟩
      have := rows7 j i x u hj hu
      rw [← h4, List.getElem?_take] at this
      split at this
      · rw [cell_at hg]
        simpa using this
      · cases this
  have hsnoc : ∀ (k : Nat) x, xs[k]? = some x → ((xs.take k).flatMap fun x => x.cells.toList) ++ x.cells.toList = (xs.take (k + 1)).flatMap fun x => x.cells.toList := fun k x hk => by
    rw [List.take_add_one, hk]
    simp
  have HEL := Lib.hid hel
  have HFI := Lib.hid hfin
  have HSN := Lib.hid hsnoc
  clear hel h hm hi hz0 hz1 hz2 hfin hsnoc
  go_enter Tryz.func64, Tryz.ntmps64
  go_wp2_with fail
  go_loopw [3, 4] (fun out i wr => ∃ (k : Nat), i = .int .i64 k ∧ k ≤ xs.length ∧ wr.ownsRow w.heap.size 203 7 out k ((xs.take k).flatMap fun x => x.cells.toList) ∧ Fr noF noF w wr) (fun _ i _ => xs.length - (intOf i).toNat)
  case atStart => exact ⟨0, rfl, by omega, ⟨rfl, Or.inl ⟨rfl, rfl⟩⟩, Fr.refl noF w⟩
  case round =>
    obtain ⟨k, rfl, hk, ho, hf⟩ := hrel
    have hk0 : (0 : Int) ≤ (k : Int) := by omega
    have hk3 : (k : Int) ≤ 1000000 := by omega
    by_cases hlt : k < xs.length
    · obtain ⟨g, o, x, sa, sn, sc, rfl, hx, hxv, hsl, hsm, _, hcc⟩ := HEL.out k hlt
      have hs := HSN.out k x hx
      obtain ⟨op, t, kk, sz, id, nn, v, l⟩ := x
      dsimp only at hxv
      subst hxv
      have d0 : wr.cell? ⟨g, o + k * 7, none⟩ = some (.int .i64 op) := hcc wr hf 0 _ rfl
      have d1 : wr.cell? ⟨g, o + k * 7 + 1, none⟩ = some (.int .i64 t) := hcc wr hf 1 _ rfl
      have d2 : wr.cell? ⟨g, o + k * 7 + 2, none⟩ = some (.int .i64 kk) := hcc wr hf 2 _ rfl
      have d3 : wr.cell? ⟨g, o + k * 7 + 3, none⟩ = some (.int .i64 sz) := hcc wr hf 3 _ rfl
      have d4 : wr.cell? ⟨g, o + k * 7 + 4, none⟩ = some (.int .i64 id) := hcc wr hf 4 _ rfl
      have d5 : wr.cell? ⟨g, o + k * 7 + 5, none⟩ = some (.int .i64 nn) := hcc wr hf 5 _ rfl
      have d6 : wr.cell? ⟨g, o + k * 7 + 6, none⟩ = some (.slice sa sn sc) := hcc wr hf 6 _ rfl
      have hk1 : (k : Int) < (xs.length : Int) := by omega
      have hoA : (wr.alloc (.cells #[.int .i64 op, .int .i64 t, .int .i64 kk, .int .i64 sz, .int .i64 id, .int .i64 nn, .slice sa sn sc] 203 (0, 0))).ownsRow w.heap.size 203 7 u3 k ((xs.take k).flatMap fun x => x.cells.toList) := ho.alloc _
      have HO := Lib.hid hoA
      have HF := Lib.hid (hf.alloc (.cells #[.int .i64 op, .int .i64 t, .int .i64 kk, .int .i64 sz, .int .i64 id, .int .i64 nn, .slice sa sn sc] 203 (0, 0)))
      have hone : ∀ u ∈ ([.int .i64 op, .int .i64 t, .int .i64 kk, .int .i64 sz, .int .i64 id, .int .i64 nn, .slice sa sn sc] : List Value), u.oneCell' = true := by
        intro u hu
        simp only [List.mem_cons, List.not_mem_nil, or_false] at hu
        rcases hu with rfl | rfl | rfl | rfl | rfl | rfl | rfl <;> rfl
      have HS := Lib.hid (And.intro hs (And.intro hone (show k + 1 ≤ maxLen ∧ (k + 1) * 72 ≤ 140737488355328 ∧ (∀ (j : Nat) (u : Value), ([.int .i64 op, .int .i64 t, .int .i64 kk, .int .i64 sz, .int .i64 id, .int .i64 nn, .slice sa sn sc] : List Value)[j]? = some u → (wr.alloc (.cells #[.int .i64 op, .int .i64 t, .int .i64 kk, .int .i64 sz, .int .i64 id, .int .i64 nn, .slice sa sn sc] 203 (0, 0))).cell? ((⟨wr.heap.size, 0, none⟩ : Addr).add j) = some u) from ⟨by unfold maxLen; omega, by omega, World.news_of_block (alloc_new wr _)⟩)))
      have hown0 : ∀ gg, u3.ownBlock = some gg → w.heap.size ≤ gg := fun gg hgg => by
        rcases ho.2 with ⟨rfl, _⟩ | ⟨g', cap', cur', rfl, hb, _⟩
        · cases hgg
        · injection hgg with hgg
          have hgg : g' = gg := hgg
          omega
      have HB := Lib.hid hown0
      clear hs hoA hone ho hf hcc hx hown0 hsl hsm
      go_wp2_with (at_builtin; go_must (refine wpList_append_lies _ rfl _ _ _ rfl w.heap.size 203 i0 (.agg #[.int .i64 0, .int .i64 0, .int .i64 0, .int .i64 0, .int .i64 0, .int .i64 0, .slice none 0 0]) 7 72 Tryz.underlying123 HI.out.1 HI.out.2.1 HI.out.2.2.1 HI.out.2.2.2 rfl (by decide) u3 k ((xs.take k).flatMap fun x => x.cells.toList) rfl HO.out ⟨wr.heap.size, 0, none⟩ 1 1 [.int .i64 op, .int .i64 t, .int .i64 kk, .int .i64 sz, .int .i64 id, .int .i64 nn, .slice sa sn sc] rfl rfl HS.out.2.2.2.2 HS.out.2.1 (by decide) HS.out.2.2.1 HS.out.2.2.2.1 HF.out.size _ rfl ?_))
      intro ng cap Z hown hgrow hlies hlt2
      have hfz : Fr noF noF w Z := HF.out.grown hgrow fun gg hgg => HB.out gg hgg
      have hown2 : Z.ownsRow w.heap.size 203 7 (.slice (some ⟨ng, 0, none⟩) (k + 1) cap) (k + 1) ((xs.take (k + 1)).flatMap fun x => x.cells.toList) := by
        rw [← HS.out.1]
        exact hown
      have HZ := Lib.hid (And.intro hown2 hfz)
      clear hown hgrow hlies hlt2 hown2 hfz d0 d1 d2 d3 d4 d5 d6
      go_wp2_with fail
      go_roundw
      case rel => exact ⟨k + 1, by go_num, by omega, HZ.out⟩
      case measure => simp [intOf]; omega
    · have hkl : k = xs.length := by omega
      subst hkl
      have HR := Lib.hid (HFI.out wr u3 ho hf)
      clear ho hf
      go_wp2
      go_ret
      exact HR.out

theorem L_zzFits4 (op t k sz id n : Int) (sa : Option Addr) (sn sc : Nat) (hs : sn ≤ maxLen) (w : World) : Calls Tryz.prog 61 #[.agg #[.int .i64 op, .int .i64 t, .int .i64 k, .int .i64 sz, .int .i64 id, .int .i64 n, .slice sa sn sc]] w (BoolR w) := by
  have HF := Lib.hid ((Fr.refl noF w).alloc (.cells #[.int .i64 op, .int .i64 t, .int .i64 k, .int .i64 sz, .int .i64 id, .int .i64 n, .slice sa sn sc] 54 (0, 0)))
  clear hs
  rcases Decidable.em ((sn : Int) > 2147483647) with k1 | k1
  all_goals
    go_enter Tryz.func61, Tryz.ntmps61
    go_wp2
    go_ret
    exact ⟨_, rfl, HF.out⟩
theorem L_zzFits3 (v : Value) (xs : List Stp) (w : World) (h : RdS w noF v xs) : Calls Tryz.prog 29 #[v] w (BoolR w) := by
  obtain ⟨la, lc, rfl, hm, hel⟩ := h.form
  have HEL := Lib.hid hel
  have hnm : (xs.length : Int) ≤ 9223372036854775807 := by unfold maxLen at hm; omega
  have HZ := Lib.hid L_zzFits4
  have HF0 := Lib.hid (Fr.refl noF w)
  clear hel h hm
  rcases Decidable.em ((xs.length : Int) > 2147483647) with k1 | k1
  · go_enter Tryz.func29, Tryz.ntmps29
    go_wp2
    go_ret
    exact ⟨_, rfl, HF0.out⟩
  · go_enter Tryz.func29, Tryz.ntmps29
    go_wp2_with fail
    go_loopw [10] (fun i wr => ∃ (k : Nat), i = .int .i64 k ∧ k ≤ xs.length ∧ Fr noF noF w wr) (fun i _ => xs.length - (intOf i).toNat)
    case atStart => exact ⟨0, rfl, by omega, HF0.out⟩
    case round =>
      obtain ⟨k, rfl, hk, hf⟩ := hrel
      have hk0 : (0 : Int) ≤ (k : Int) := by omega
      by_cases hlt : k < xs.length
      · obtain ⟨g, o, x, sa, sn, sc, rfl, hx, hxv, hsl, hsm, _, hcc⟩ := HEL.out k hlt
        obtain ⟨op, t, kk, sz, id, nn, v, l⟩ := x
        dsimp only at hxv
        subst hxv
        have d0 : wr.cell? ⟨g, o + k * 7, none⟩ = some (.int .i64 op) := hcc wr hf 0 _ rfl
        have d1 : wr.cell? ⟨g, o + k * 7 + 1, none⟩ = some (.int .i64 t) := hcc wr hf 1 _ rfl
        have d2 : wr.cell? ⟨g, o + k * 7 + 2, none⟩ = some (.int .i64 kk) := hcc wr hf 2 _ rfl
        have d3 : wr.cell? ⟨g, o + k * 7 + 3, none⟩ = some (.int .i64 sz) := hcc wr hf 3 _ rfl
        have d4 : wr.cell? ⟨g, o + k * 7 + 4, none⟩ = some (.int .i64 id) := hcc wr hf 4 _ rfl
        have d5 : wr.cell? ⟨g, o + k * 7 + 5, none⟩ = some (.int .i64 nn) := hcc wr hf 5 _ rfl
        have d6 : wr.cell? ⟨g, o + k * 7 + 6, none⟩ = some (.slice sa sn sc) := hcc wr hf 6 _ rfl
        have hk1 : (k : Int) < (xs.length : Int) := by omega
        have HC := Lib.hid (HZ.out op t kk sz id nn sa sn sc hsm)
        have HF := Lib.hid (hf.alloc (.cells #[.int .i64 op, .int .i64 t, .int .i64 kk, .int .i64 sz, .int .i64 id, .int .i64 nn, .slice sa sn sc] 54 (0, 0)))
        clear hcc hx hf hsl hsm
        go_wp2_with fail
        (with_reducible refine (HC.out _).mono ?_)
        rintro e Y ⟨b, rfl, hY⟩
        have HY := Lib.hid (HF.out.trans hY)
        clear hY d0 d1 d2 d3 d4 d5 d6
        cases b
        · go_wp2
          go_ret
          exact ⟨_, rfl, HY.out⟩
        · go_wp2_with fail
          go_roundw
          case rel => exact ⟨k + 1, by go_num, by omega, HY.out⟩
          case measure => simp [intOf]; omega
      · have hk1 : ¬ (k : Int) < (xs.length : Int) := by omega
        have HF := Lib.hid hf
        clear hf
        go_wp2
        go_ret
        exact ⟨_, rfl, HF.out⟩

/-- Two rows of zeros are the same kinds. -/
theorem L_isKinds (av : Value) (g n : Nat) (hn : n ≤ 1000000) (w : World) (ha : RdI w av (List.replicate n 0)) (hg : w.heap[g]? = some (.cells (Array.replicate n (.int .i64 0)) TIn (0, 0))) :
    Calls Tryz.prog 65 #[av, .slice (some ⟨g, 0, none⟩) n n] w (fun e w' => e = .returned (.tuple #[.bool true, .bool false]) ∧ Fr noF noF w w') := by
  have hform : ∃ aa ac, av = .slice aa n ac ∧ ∀ k, k < n → ∃ ad, aa = some ad ∧ ∀ X, Fr noF noF w X → X.cell? (ad.add k) = some (.int .i64 0) ∧ X.cell? ⟨g, k, none⟩ = some (.int .i64 0) := by
    rcases ha with ⟨rfl, h0⟩ | ⟨a, m, c, rfl, hl, _, _, hc⟩
    · have : n = 0 := by cases n with
        | zero => rfl
        | succ m => simp [List.replicate] at h0
      subst this
      exact ⟨_, _, rfl, fun k hk => absurd hk (Nat.not_lt_zero _)⟩
    · rw [List.length_replicate] at hl
      subst hl
      refine ⟨_, _, rfl, fun k hk => ⟨a, rfl, fun X hX => ⟨hX.cell (hc k 0 (by simp [hk])) fun x => x, ?_⟩⟩⟩
      rw [cell_at (hX.block hg fun x => x)]
      simp [hk]
  obtain ⟨aa, ac, rfl, hel⟩ := hform
  have HEL := Lib.hid hel
  have hnI : (n : Int) ≤ 1000000 := by omega
  have HSK := Lib.hid (show ∀ X, Calls Tryz.prog 24 #[.int .i64 0, .int .i64 0] X fun e w' => e = .returned (.bool true) ∧ X = w' from fun X => (S_SameKind 0 0 X).mono fun e w' h => ⟨h.1, h.2.symm⟩)
  clear hel ha hg
  go_enter Tryz.func65, Tryz.ntmps65
  go_wp2_with fail
  go_loopw [6] (fun i wr => ∃ (k : Nat), i = .int .i64 k ∧ k ≤ n ∧ Fr noF noF w wr) (fun i _ => n - (intOf i).toNat)
  case atStart => exact ⟨0, rfl, by omega, Fr.refl noF w⟩
  case round =>
    obtain ⟨k, rfl, hk, hf⟩ := hrel
    have hk0 : (0 : Int) ≤ (k : Int) := by omega
    have hk3 : (k : Int) ≤ 1000000 := by omega
    by_cases hlt : k < n
    · obtain ⟨ad, rfl, hcc⟩ := HEL.out k hlt
      obtain ⟨d0, d1⟩ := hcc wr hf
      have q1 := hcc wr.drew hf.drew
      have hk1 : (k : Int) < (n : Int) := by omega
      have hk2 : ¬ (k : Int) ≥ (n : Int) := by omega
      have hk4 : ¬ n ≤ k := by omega
      have HF := Lib.hid hf
      have HQ := Lib.hid (show ∀ X, Fr noF noF wr X → X.cell? (ad.add k) = some (.int .i64 0) ∧ X.cell? ⟨g, k, none⟩ = some (.int .i64 0) from fun X hX => hcc X (hf.trans hX))
      clear hcc hf
      go_wp2_with fail
      clear d0 d1
      go_region_held3 (fun X => X.cell? (ad.add k) = some (.int .i64 0) ∧ X.cell? ⟨g, k, none⟩ = some (.int .i64 0)) (first | with_reducible assumption | ((with_reducible refine HQ.out _ ?_); (focus ((repeat (first | with_reducible exact Fr.refl _ _ | with_reducible assumption | with_reducible refine Fr.alloc ?_ _ | with_reducible refine Fr.drew ?_ | with_reducible refine Fr.drewN ?_ _ | with_reducible refine Fr.trans (F' := noF) ?_ (by with_reducible assumption) | fail)); done))) | fail) (first | (go_at_call 24; (with_reducible refine (HSK.out _).mono ?_); rintro e w' ⟨rfl, rfl⟩) | fail)
      go_wp2_with fail
      go_roundw
      case rel => exact ⟨k + 1, by go_num, by omega, HF.out.drew⟩
      case measure => simp [intOf]; omega
    · have hkn : k = n := by omega
      subst hkn
      have HF := Lib.hid hf
      clear hf
      go_wp2
      go_ret2
      exact ⟨rfl, HF.out⟩
end Go.Proofs.YtoifjckhccbmlaaGreatDoor
