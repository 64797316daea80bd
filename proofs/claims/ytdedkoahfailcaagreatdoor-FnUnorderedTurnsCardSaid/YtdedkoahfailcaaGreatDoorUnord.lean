/- Lists with the same things: thrift.UnorderedEqual over impl's classes. -/
import Derived.Test.YtdedkoahfailcaaGreatDoorPost2
import Derived.Test.YtdedkoahfailcaaGreatDoorOwn
import Derived.Test.YtdedkoahfailcaaGreatDoorUnordL
import Derived.BigQuiet
namespace Go.Proofs.YtdedkoahfailcaaGreatDoor
open Go Go.RowKit
set_option maxHeartbeats 2000000
set_option maxRecDepth 100000

/-- The class of a number. -/
def clsOf (l : List Int) (n : Int) : Int := if n < 0 ∨ (l.length : Int) ≤ n then 0 else l.getD n.toNat 0
theorem clsOf_neg {l : List Int} {n : Int} (h : n < 0) : clsOf l n = 0 := by unfold clsOf; rw [if_pos (Or.inl h)]
theorem clsOf_big {l : List Int} {n : Int} (h : (l.length : Int) ≤ n) : clsOf l n = 0 := by unfold clsOf; rw [if_pos (Or.inr h)]
theorem clsOf_in {l : List Int} {n : Nat} (h : n < l.length) : clsOf l n = l.getD n 0 := by unfold clsOf; rw [if_neg (by omega)]; rfl

theorem Cls (p : Nat) (v : Value) (same : List Int) (n : Int) (w : World) (hc : w.cell? ⟨p, 0, none⟩ = some v) (h : RdI w v same) :
    Calls Tryz.prog 39 #[.int .i64 n, .pointer (some ⟨p, 0, none⟩)] w fun e w' => e = .returned (.int .i64 (clsOf same n)) ∧ w' = w := by
  rcases h with ⟨rfl, rfl⟩ | ⟨a, len, cap, rfl, hl, hle, hmax, hcell⟩
  · rcases (show n < 0 ∨ 0 ≤ n by omega) with hn | hn
    · rw [clsOf_neg hn]
      go_enter Tryz.func39, Tryz.ntmps39
      go_wp2
      go_ret
      exact ⟨rfl, rfl⟩
    · rw [clsOf_big (by simpa using hn)]
      go_enter Tryz.func39, Tryz.ntmps39
      go_wp2
      go_ret
      exact ⟨rfl, rfl⟩
  · have hlen : (len : Int) ≤ 9223372036854775807 := by unfold maxLen at hmax; omega
    rcases (show n < 0 ∨ 0 ≤ n by omega) with hn | hn
    · rw [clsOf_neg hn]
      clear hcell
      go_enter Tryz.func39, Tryz.ntmps39
      go_wp2
      go_ret
      exact ⟨rfl, rfl⟩
    · rcases (show n < (len : Int) ∨ (len : Int) ≤ n by omega) with hn2 | hn2
      · obtain ⟨m, rfl⟩ : ∃ m : Nat, n = m := ⟨n.toNat, by omega⟩
        have hm : m < same.length := by omega
        have c1 := hcell m (same.getD m 0) (by simp [List.getD, hm])
        rw [clsOf_in hm]
        clear hcell
        go_enter Tryz.func39, Tryz.ntmps39
        go_wp2
        go_ret
        exact ⟨rfl, rfl⟩
      · rw [clsOf_big (by omega)]
        clear hcell
        go_enter Tryz.func39, Tryz.ntmps39
        go_wp2
        go_ret
        exact ⟨rfl, rfl⟩

/-- What the comparison holds on to. -/
def Env (w : World) (p c : Nat) (same : List Int) : Prop :=
  ∃ v, w.cell? ⟨p, 0, none⟩ = some v ∧ RdI w v same ∧ w.cell? ⟨c, 0, none⟩ = some (.func (.func 39) #[] #[.pointer (some ⟨p, 0, none⟩)])
abbrev eqF (c : Nat) : Value := .func (.func 41) #[] #[.pointer (some ⟨c, 0, none⟩)]
/-- Are two of one class? -/
def sameC (same : List Int) (x y : Int) : Bool := clsOf same x == clsOf same y

theorem Eq2 (p c : Nat) (same : List Int) (x y : Int) (w : World) (h : Env w p c same) :
    Calls Tryz.prog 41 #[.int .i64 x, .int .i64 y, .pointer (some ⟨c, 0, none⟩)] w fun e w' => e = .returned (.bool (sameC same x y)) ∧ ∃ q, w' = w.drewN q := by
  obtain ⟨v, h1, h2, h3⟩ := h
  have hC : ∀ (n : Int) (q : Nat), Calls Tryz.prog 39 #[.int .i64 n, .pointer (some ⟨p, 0, none⟩)] (w.drewN q) fun e w' => e = .returned (.int .i64 (clsOf same n)) ∧ w' = w.drewN q :=
    fun n q => Cls p v same n (w.drewN q) h1 h2
  have HC := Lib.hid hC
  clear hC h1 h2
  go_enter Tryz.func41, Tryz.ntmps41
  go_wp2_with fail
  go_quiet (first | (go_at_call 39; exact Calls.quiet_of_same (HC.out _ _)))
  go_wp2
  go_ret
  exact ⟨rfl, _, rfl⟩

theorem Env.drewN {w : World} {p c : Nat} {same : List Int} (h : Env w p c same) (q : Nat) : Env (w.drewN q) p c same := h
theorem RdI.keep {w w' : World} {v : Value} {l : List Int} (h : RdI w v l) (hf : Fr noF noF w w') : RdI w' v l := by
  rcases h with h | ⟨a, n, c, h1, h2, h3, h4, h5⟩
  · exact Or.inl h
  · exact Or.inr ⟨a, n, c, h1, h2, h3, h4, fun j u hj => hf.cell (h5 j u hj) fun x => x⟩
theorem Env.keep {w w' : World} {p c : Nat} {same : List Int} (h : Env w p c same) (hf : Fr noF noF w w') : Env w' p c same := by
  obtain ⟨v, h1, h2, h3⟩ := h
  exact ⟨v, hf.cell h1 fun x => x, h2.keep hf, hf.cell h3 fun x => x⟩

abbrev TBool : TypeId := 4
theorem info_bool : (Tryz.prog.info? 4).map (fun i => (i.zero, i.size, i.bytes)) = some (some (.bool false), 1, 1) := by kernel_rfl
/-- A row that is owned whole. -/
theorem own_block {w : World} {base g m : Nat} {L : List Value} (h : w.ownsRow base TBool 1 (.slice (some ⟨g, 0, none⟩) m m) m L) : w.heap[g]? = some (.cells L.toArray TBool (0, 0)) := by
  obtain ⟨h0, h | ⟨g', cap, cur, hv, hb, hg, h1, h2, h3, h4⟩⟩ := h
  · cases h.1
  · injection hv with hv _ hc
    injection hv with hv
    injection hv with hv
    subst hv hc
    rw [hg]
    congr 2
    apply Array.ext'
    rw [← h4, List.take_of_length_le (by rw [Array.length_toList]; omega)]

/-- The classes of a list. -/
abbrev cl (same xs : List Int) : List Int := xs.map (clsOf same)
/-- What a comparison of lists tells. -/
def UnoR (same xs ys : List Int) (w : World) (e : Ending) (w' : World) : Prop := ∃ r, e = .returned (.bool r) ∧ (r = true ↔ (cl same xs).Perm (cl same ys)) ∧ Fr noF noF w w'

/-- The state of the matching. -/
def MS (w wr : World) (same xs ys : List Int) (M : List Bool) (i : Nat) : Prop :=
  M.length = ys.length ∧ wr.heap[w.heap.size]? = some (.cells (M.map Value.bool).toArray TBool (0, 0)) ∧ Fr noF noF w wr ∧ (sel M (cl same ys)).Perm ((cl same xs).take i)
theorem MS.cell {w wr : World} {same xs ys : List Int} {M : List Bool} {i j : Nat} {t : Bool} (h : MS w wr same xs ys M i) (hj : M[j]? = some t) : wr.cell? ⟨w.heap.size, j, none⟩ = some (.bool t) ∧ wr.frozen? ⟨w.heap.size, j, none⟩ = false := by
  rw [cell_at h.2.1, free_at h.2.1]
  simp [hj]
theorem MS.step {w wr : World} {same xs ys : List Int} {M : List Bool} {i j : Nat} {x y : Int} (h : MS w wr same xs ys M i) (hx : xs[i]? = some x) (hy : ys[j]? = some y) (hj : M[j]? = some false) (he : sameC same x y = true) (q : Nat) :
    MS w ((wr.drewN q).setCell ⟨w.heap.size, j, none⟩ (.bool true)) same xs ys (M.set j true) (i + 1) := by
  obtain ⟨h1, h2, h3, h4⟩ := h
  refine ⟨by rw [List.length_set]; exact h1, ?_, (h3.drewN q).setCell (Or.inr (Nat.le_refl _)) _, ?_⟩
  · rw [setCell_at (w := wr.drewN q) h2]
    simp [List.map_set]
  · have hc : clsOf same y = clsOf same x := by unfold sameC at he; exact (eq_of_beq he).symm
    have e1 : (cl same ys)[j]? = some (clsOf same y) := by simp [hy]
    have e2 : (cl same xs)[i]? = some (clsOf same x) := by simp [hx]
    refine (sel_set hj e1).trans ?_
    rw [List.take_add_one, e2, hc]
    exact (h4.cons _).trans (List.perm_append_singleton _ _).symm
theorem MS.last {w wr : World} {same xs ys : List Int} {M : List Bool} (h : MS w wr same xs ys M xs.length) (hl : xs.length = ys.length) : (cl same xs).Perm (cl same ys) := by
  have := h.2.2.2
  rw [List.take_of_length_le (by simp)] at this
  exact perm_done (by simpa using hl) this
theorem MS.stop {w wr : World} {same xs ys : List Int} {M : List Bool} {i : Nat} {x : Int} (h : MS w wr same xs ys M i) (hx : xs[i]? = some x) (hn : ∀ (j : Nat) y, ys[j]? = some y → sameC same x y = true → M[j]? = some true) : ¬ (cl same xs).Perm (cl same ys) := by
  refine perm_none (M := M) (i := i) (c := clsOf same x) (by rw [List.length_map]; exact h.1) h.2.2.2 (by simp [hx]) fun j hj => ?_
  simp only [List.getElem?_map, Option.map_eq_some_iff] at hj
  obtain ⟨y, hy, hc⟩ := hj
  exact hn j y hy (by unfold sameC; rw [hc]; simp)

theorem made_bools (m : Nat) : (madeCells #[Value.bool false] m).toList = (List.replicate m false).map Value.bool := by
  apply List.ext_getElem
  · simp [madeCells]
  · intro i h1 h2
    simp [madeCells, Nat.mod_one]
theorem T_Uno (p c : Nat) (same : List Int) (b1 o1 c1 b2 o2 c2 n : Nat) (xs ys : List Int) (w : World) (hE : Env w p c same)
    (hx : ∀ (j : Nat) u, xs[j]? = some u → w.cell? ⟨b1, o1 + j, none⟩ = some (.int .i64 u)) (hy : ∀ (j : Nat) u, ys[j]? = some u → w.cell? ⟨b2, o2 + j, none⟩ = some (.int .i64 u))
    (hxl : xs.length = n) (hyl : ys.length = n) (h1 : n ≤ c1) (h2 : n ≤ c2) (hn : n ≤ 100000) :
    Calls Tryz.prog 40 #[.slice (some ⟨b1, o1, none⟩) n c1, .slice (some ⟨b2, o2, none⟩) n c2, .func (.func 41) #[] #[.pointer (some ⟨c, 0, none⟩)]] w (UnoR same xs ys w) := by
  obtain ⟨ib, hib, hz0, hz1, hz2⟩ := info_parts info_bool
  have HI := Lib.hid (And.intro hib (And.intro hz0 (And.intro hz1 hz2)))
  have HX := Lib.hid hx
  have HY := Lib.hid hy
  have HE := Lib.hid hE
  have HQ := Lib.hid (Eq2 p c same)
  clear hib hz0 hz1 hz2 hx hy hE
  go_enter Tryz.func40, Tryz.ntmps40
  go_wp2_with fail
  go_loopw [7] (fun i wr => ∃ (k q : Nat), i = .int .i64 k ∧ k ≤ n ∧ (cl same xs).take k = (cl same ys).take k ∧ wr = w.drewN q) (fun i _ => n - (intOf i).toNat)
  case atStart => exact ⟨0, 0, rfl, by omega, rfl, rfl⟩
  case round =>
    obtain ⟨k, q, rfl, hk, htk, rfl⟩ := hrel
    rcases Nat.lt_or_ge k n with hlt | hge
    · obtain ⟨x, hxk⟩ : ∃ x, xs[k]? = some x := ⟨_, List.getElem?_eq_getElem (by omega)⟩
      obtain ⟨y, hyk⟩ : ∃ y, ys[k]? = some y := ⟨_, List.getElem?_eq_getElem (by omega)⟩
      have d1 := HX.out k x hxk
      have d2 := HY.out k y hyk
      have hk0 : (0 : Int) ≤ (k : Int) := by omega
      have hk1 : (k : Int) < (n : Int) := by omega
      have hk2 : (k : Int) + 1 ≤ 100001 := by omega
      have hkn : ((k : Int) == (n : Int)) = false := by simp; omega
      have HT := Lib.hid htk
      have HK := Lib.hid (And.intro hxk hyk)
      have hQ : ∀ N : Nat, Calls Tryz.prog 41 #[.int .i64 x, .int .i64 y, .pointer (some ⟨c, 0, none⟩)] (w.drewN (q + N)) fun e w' => e = .returned (.bool (sameC same x y)) ∧ ∃ m, w' = w.drewN (q + m) := fun N => (HQ.out x y _ (HE.out.drewN (q + N))).mono fun e w' ⟨h1, m, h2⟩ => ⟨h1, N + m, by rw [h2, World.drewN_drewN, Nat.add_assoc]⟩
      clear htk hxk hyk
      cases hs : sameC same x y with
      | true =>
        have hst : (cl same xs).take (k + 1) = (cl same ys).take (k + 1) := by
          have hc : clsOf same x = clsOf same y := by unfold sameC at hs; exact eq_of_beq hs
          rw [List.take_add_one, List.take_add_one, HT.out, List.getElem?_map, List.getElem?_map, HK.out.1, HK.out.2, Option.map_some, Option.map_some, hc]
        have HS := Lib.hid hst
        clear hst
        rw [hs] at hQ
        have HQQ := Lib.hid hQ
        clear hQ
        go_wp2_with fail
        go_quiet (first | (go_at_call 41; exact HQQ.out _))
        go_wp2
        refine ⟨⟨k + 1, q + nq, rfl, by omega, HS.out, ?_⟩, ?_⟩
        · first | rfl | (simp [World.drewN]; omega)
        · show n - ((k : Int) + 1).toNat < n - (k : Int).toNat
          omega
      | false =>
        rw [hs] at hQ
        have HQQ := Lib.hid hQ
        clear hQ
        go_wp2_with fail
        go_quiet (first | (go_at_call 41; exact HQQ.out _))
        go_wp2_with fail
        go_quiet (fail)
        go_wp2_with (refine wpList_make_full _ rfl _ _ 104 rfl w.heap.size TBool ib (.bool false) 1 Tryz.underlying104 HI.out.1 HI.out.2.1 HI.out.2.2.1 .i64 .i64 _ _ (n - k) rfl rfl rfl rfl (by rw [HI.out.2.2.2]; omega) (by unfold maxLen; omega) (by show w.heap.size ≤ w.heap.size; omega) ?_)
        intro w1 hown hg
        have h0 : MS w w1 same (xs.drop k) (ys.drop k) (List.replicate (n - k) false) 0 := by
          have hrow := own_block hown
          rw [made_bools] at hrow
          exact ⟨by rw [List.length_replicate, List.length_drop, hyl], hrow, ((Fr.refl noF w).drewN _).grown hg (fun k hk => by cases hk), by rw [sel_none]; exact List.Perm.refl _⟩
        have H0 := Lib.hid h0
        clear hown hg h0 d1 d2 hs
        go_wp2_with fail
        go_loopw [49] (fun i wr => ∃ (p : Nat) (M : List Bool), i = .int .i64 p ∧ p ≤ n - k ∧ MS w wr same (xs.drop k) (ys.drop k) M p) (fun i _ => (n - k) - (intOf i).toNat)
        case atStart => exact ⟨0, _, rfl, by omega, H0.out⟩
        case round =>
          obtain ⟨p', M, rfl, hp, hM⟩ := hrel
          rcases Nat.lt_or_ge p' (n - k) with hlt2 | hge2
          · obtain ⟨x2, hx2⟩ : ∃ x2, (xs.drop k)[p']? = some x2 := ⟨_, List.getElem?_eq_getElem (by rw [List.length_drop]; omega)⟩
            have e1 : wr.cell? ⟨b1, o1 + k + p', none⟩ = some (.int .i64 x2) := by
              rw [List.getElem?_drop] at hx2
              rw [Nat.add_assoc]
              exact hM.2.2.1.cell (HX.out _ _ hx2) fun x => x
            have hp0 : (0 : Int) ≤ (p' : Int) := by omega
            have hp1 : (p' : Int) < ((n - k : Nat) : Int) := by omega
            have hp2 : (p' : Int) + 1 ≤ 100001 := by omega
            have HM := Lib.hid (And.intro hM hx2)
            clear hM hx2
            go_wp2_with fail
            go_loopw [10, 54] (fun f jj w2 => ∃ (j q2 : Nat), f = .bool false ∧ jj = .int .i64 j ∧ j ≤ n - k ∧ (∀ (j' : Nat) y', j' < j → (ys.drop k)[j']? = some y' → sameC same x2 y' = true → M[j']? = some true) ∧ w2 = wr.drewN q2) (fun _ jj _ => (n - k) - (intOf jj).toNat)
            case atStart => exact ⟨0, 0, rfl, rfl, by omega, fun j' y' h => by omega, rfl⟩
            case round =>
              obtain ⟨j, q2, rfl, rfl, hj, hall, rfl⟩ := hrel
              rcases Nat.lt_or_ge j (n - k) with hlt3 | hge3
              · obtain ⟨y2, hy2⟩ : ∃ y2, (ys.drop k)[j]? = some y2 := ⟨_, List.getElem?_eq_getElem (by rw [List.length_drop]; omega)⟩
                obtain ⟨t, ht⟩ : ∃ t, M[j]? = some t := ⟨_, List.getElem?_eq_getElem (by rw [HM.out.1.1, List.length_drop]; omega)⟩
                have e2 : wr.cell? ⟨b2, o2 + k + j, none⟩ = some (.int .i64 y2) := by
                  have h := hy2
                  rw [List.getElem?_drop] at h
                  rw [Nat.add_assoc]
                  exact HM.out.1.2.2.1.cell (HY.out _ _ h) fun x => x
                obtain ⟨cm, fm⟩ := HM.out.1.cell ht
                have hj0 : (0 : Int) ≤ (j : Int) := by omega
                have hj1 : (j : Int) < ((n - k : Nat) : Int) := by omega
                have hj2 : (j : Int) + 1 ≤ 100001 := by omega
                have HA := Lib.hid (And.intro hall (And.intro hy2 ht))
                have hQ2 : ∀ N : Nat, Calls Tryz.prog 41 #[.int .i64 x2, .int .i64 y2, .pointer (some ⟨c, 0, none⟩)] (wr.drewN (q2 + N)) fun e w' => e = .returned (.bool (sameC same x2 y2)) ∧ ∃ m, w' = wr.drewN (q2 + m) := fun N => (HQ.out x2 y2 _ ((HE.out.keep HM.out.1.2.2.1).drewN (q2 + N))).mono fun e w' ⟨h1, m, h2⟩ => ⟨h1, N + m, by rw [h2, World.drewN_drewN, Nat.add_assoc]⟩
                clear hall hy2 ht
                cases t with
                | true =>
                  clear hQ2
                  go_wp2_with fail
                  go_quiet (fail)
                  go_wp2
                  refine ⟨⟨j + 1, q2 + nq, rfl, rfl, by omega, fun j' y' hl hy hs => ?_, ?_⟩, ?_⟩
                  · rcases Nat.lt_or_ge j' j with h | h
                    · exact HA.out.1 j' y' h hy hs
                    · obtain rfl : j' = j := by omega
                      exact HA.out.2.2
                  · first | rfl | (simp [World.drewN]; omega)
                  · show n - k - ((j : Int) + 1).toNat < n - k - (j : Int).toNat
                    omega
                | false =>
                  cases hs2 : sameC same x2 y2 with
                  | false =>
                    rw [hs2] at hQ2
                    have HQ2 := Lib.hid hQ2
                    have HS2 := Lib.hid hs2
                    clear hQ2 hs2
                    go_wp2_with fail
                    go_quiet (first | (go_at_call 41; exact HQ2.out _))
                    go_wp2
                    refine ⟨⟨j + 1, q2 + nq, rfl, rfl, by omega, fun j' y' hl hy hs => ?_, ?_⟩, ?_⟩
                    · rcases Nat.lt_or_ge j' j with h | h
                      · exact HA.out.1 j' y' h hy hs
                      · obtain rfl : j' = j := by omega
                        rw [HA.out.2.1] at hy
                        injection hy with hy
                        subst hy
                        rw [HS2.out] at hs
                        cases hs
                    · first | rfl | (simp [World.drewN]; omega)
                    · show n - k - ((j : Int) + 1).toNat < n - k - (j : Int).toNat
                      omega
                  | true =>
                    rw [hs2] at hQ2
                    have HQ2 := Lib.hid hQ2
                    have HS2 := Lib.hid hs2
                    clear hQ2 hs2
                    go_wp2_with fail
                    go_quiet (first | (go_at_call 41; exact HQ2.out _))
                    go_wp2
                    refine ⟨⟨p' + 1, _, rfl, by omega, HM.out.1.step HM.out.2 HA.out.2.1 HA.out.2.2 HS2.out (q2 + nq)⟩, ?_⟩
                    show n - k - ((p' : Int) + 1).toNat < n - k - (p' : Int).toNat
                    omega
              · obtain rfl : j = n - k := by omega
                have hno := HM.out.1.stop HM.out.2 fun (j : Nat) y hy hs => hall j y (by have := (List.getElem?_eq_some_iff.1 hy).1; rw [List.length_drop] at this; omega) hy hs
                have HNO := Lib.hid hno
                clear hall hno
                go_wp2
                go_ret
                refine ⟨false, rfl, ⟨fun h => (by cases h), fun h => ?_⟩, HM.out.1.2.2.1.drewN _⟩
                rw [perm_ahead HT.out, ← List.map_drop, ← List.map_drop] at h
                exact (HNO.out h).elim
          · obtain rfl : p' = n - k := by omega
            have hfin : (cl same (xs.drop k)).Perm (cl same (ys.drop k)) := by
              refine MS.last (M := M) (w := w) (wr := wr) ?_ (by rw [List.length_drop, List.length_drop, hxl, hyl])
              rw [List.length_drop, hxl]
              exact hM
            have HX1 := Lib.hid (And.intro hfin hM.2.2.1)
            clear hfin hM
            go_wp2
            go_ret
            refine ⟨true, rfl, ⟨fun _ => ?_, fun _ => rfl⟩, HX1.out.2⟩
            refine (perm_ahead HT.out).2 ?_
            rw [← List.map_drop, ← List.map_drop]
            exact HX1.out.1
    · obtain rfl : k = n := by omega
      have HT := Lib.hid htk
      clear htk
      go_wp2
      go_ret
      refine ⟨true, rfl, ⟨fun _ => ?_, fun _ => rfl⟩, (Fr.refl noF w).drewN _⟩
      have := HT.out
      rw [List.take_of_length_le (by simp; omega), List.take_of_length_le (by simp; omega)] at this
      rw [this]
end Go.Proofs.YtdedkoahfailcaaGreatDoor
