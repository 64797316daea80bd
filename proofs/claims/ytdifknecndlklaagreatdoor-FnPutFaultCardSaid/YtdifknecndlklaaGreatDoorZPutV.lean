/- The thin package puts whatever value, by whatever protocol. -/
import Derived.Test.YtdifknecndlklaaGreatDoorZPutM
import Derived.Test.YtdifknecndlklaaGreatDoorZPutT
set_option linter.all false
namespace Go.Proofs.YtdifknecndlklaaGreatDoor
open Go Go.RowKit
set_option maxHeartbeats 4000000
set_option maxRecDepth 100000

section
variable {S : Type} (P : WProto S) (hP : P.Ok)
include hP
theorem I_put12 (w0 w : World) (s : S) (T N K E : Int) (sa : Option Addr) (sn sc : Nat) (ia : Option Addr) (il ic : Nat) (la : Option Addr) (n lc : Nat) (us : Nat → Array Value) (ids : List Int) (L : List VT) (hT : T % 256 = 12) (hL : L.length = n) (hnm : n ≤ 1000000) (hil : ids.length = il) (him : il ≤ 1000000)
    (hcell : 0 < n → ∃ g o, la = some ⟨g, o, none⟩ ∧ ∀ j, j < n → ∀ i u, (us j)[i]? = some u → w0.cell? ⟨g, o + j * 7 + i, none⟩ = some u)
    (hids : RdN w0 (.slice ia il ic) ids)
    (hE : ∀ (j : Nat) x, L[j]? = some x → ValR w0 x (.agg (us j))) (hput : ∀ (j : Nat) x, L[j]? = some x → PutOK P x) (hF : Fr noF (P.F w) w0 w) (h : P.I w s)
    (hg : P.goods s (.structBegin :: restW L ids 0)) :
    Calls Tryz.prog 49 #[.iface P.T P.recv, .agg (valA T N (.slice sa sn sc) K E (.slice ia il ic) (.slice la n lc))] w (WR P w (P.steps s (.structBegin :: restW L ids 0))) := by
  have hs := fun X (hX : At P w (valA T N (.slice sa sn sc) K E (.slice ia il ic) (.slice la n lc)) s X) => (I_putStruct P hP w0 X s T N K E (.slice sa sn sc) ia il ic la n lc us ids L hL hnm hil him hcell hids hE hput (hF.trans hX.fr) hX.I hg).mono (fun e Y hw => And.intro hw.1 ((hX.next P hw).done P))
  have h0 := At.start P hP h (valA T N (.slice sa sn sc) K E (.slice ia il ic) (.slice la n lc))
  have c0 := cell_at h0.box 0; have c1 := cell_at h0.box 1; have c2 := cell_at h0.box 2; have c3 := cell_at h0.box 3; have c4 := cell_at h0.box 4; have c5 := cell_at h0.box 5; have c6 := cell_at h0.box 6
  simp only [List.getElem?_toArray, List.getElem?_cons_zero, List.getElem?_cons_succ] at c0 c1 c2 c3 c4 c5 c6
  have HS := Lib.hid (hs _ h0)
  have HT := Lib.hid (typ_is hT)
  obtain ⟨PT, hPT⟩ : ∃ f, f = P.T := ⟨_, rfl⟩
  obtain ⟨r, hr⟩ : ∃ f, f = P.recv := ⟨_, rfl⟩
  rw [← hPT, ← hr] at HS
  rw [← hPT, ← hr]
  clear hs h0 hPT hr hP hg h hF hput hE hcell hids hL hil hnm him hT
  go_enter Tryz.func49, Tryz.ntmps49
  go_wp2_with (first | (go_at_call 57; (with_reducible refine (HT.out _).mono ?_); rintro e w' ⟨rfl, rfl⟩) | ((with_reducible refine HS.out.mono ?_); rintro e Y ⟨rfl, hY⟩; have HY := Lib.hid hY; clear hY c0 c1 c2 c3 c4 c5 c6) | fail)
  go_ret
  exact HY.out

theorem I_put_other (w : World) (s : S) (T N K E : Int) (vS vI vL : Value) (hT : T % 256 ≠ 2 ∧ T % 256 ≠ 3 ∧ T % 256 ≠ 4 ∧ T % 256 ≠ 6 ∧ T % 256 ≠ 8 ∧ T % 256 ≠ 10 ∧ T % 256 ≠ 11 ∧ T % 256 ≠ 16 ∧ T % 256 ≠ 12 ∧ T % 256 ≠ 13 ∧ T % 256 ≠ 14 ∧ T % 256 ≠ 15) (h : P.I w s) :
    Calls Tryz.prog 49 #[.iface P.T P.recv, .agg (valA T N vS K E vI vL)] w (WR P w s) := by
  have h0 := (At.start P hP h (valA T N vS K E vI vL)).done P
  obtain ⟨t, ht⟩ : ∃ t, t = T % 256 := ⟨_, rfl⟩
  rw [← ht] at hT
  obtain ⟨t2, t3, t4, t6, t8, t10, t11, t16, t12, t13, t14, t15⟩ := hT
  have n2 : (t == 2) = false := beq_eq_false_iff_ne.2 t2
  have n3 : (t == 3) = false := beq_eq_false_iff_ne.2 t3
  have n4 : (t == 4) = false := beq_eq_false_iff_ne.2 t4
  have n6 : (t == 6) = false := beq_eq_false_iff_ne.2 t6
  have n8 : (t == 8) = false := beq_eq_false_iff_ne.2 t8
  have n10 : (t == 10) = false := beq_eq_false_iff_ne.2 t10
  have n11 : (t == 11) = false := beq_eq_false_iff_ne.2 t11
  have n16 : (t == 16) = false := beq_eq_false_iff_ne.2 t16
  have n12 : (t == 12) = false := beq_eq_false_iff_ne.2 t12
  have n13 : (t == 13) = false := beq_eq_false_iff_ne.2 t13
  have n14 : (t == 14) = false := beq_eq_false_iff_ne.2 t14
  have n15 : (t == 15) = false := beq_eq_false_iff_ne.2 t15
  have HT := Lib.hid (typ_is (T := T) ht.symm)
  have H0 := Lib.hid h0
  obtain ⟨PT, hPT⟩ : ∃ f, f = P.T := ⟨_, rfl⟩
  obtain ⟨r, hr⟩ : ∃ f, f = P.recv := ⟨_, rfl⟩
  rw [← hPT, ← hr]
  clear h0 hPT hr hP h ht t2 t3 t4 t6 t8 t10 t11 t16 t12 t13 t14 t15
  go_enter Tryz.func49, Tryz.ntmps49
  go_wp2_with (first | (go_at_call 57; (with_reducible refine (HT.out _).mono ?_); rintro e w' ⟨rfl, rfl⟩) | fail)
  go_ret
  exact H0.out

theorem I_put_sized : ∀ (m : Nat) (x : VT), SizeOf.sizeOf x ≤ m → x.small → PutOK P x := by
  intro m
  induction m with
  | zero =>
    intro x hx
    obtain ⟨T, N, Sb, K, E, ids, L⟩ := x
    simp at hx
  | succ m ih =>
    intro x hx hsm w0 v w s hV hF h hg
    obtain ⟨T, N, Sb, K, E, ids, L⟩ := x
    cases hsm with
    | mk hS hI hL hEl =>
    obtain ⟨vS, vI, vL, us, rfl, h1, h2, ⟨la, lc, rfl, hlc, hlm, hcell⟩, hE⟩ := hV.inv
    have hput : ∀ (j : Nat) x, L[j]? = some x → PutOK P x := fun j x hj => by
      have hlt := List.sizeOf_lt_of_mem (List.mem_of_getElem? hj)
      refine ih x ?_ (hEl j x hj)
      simp at hx
      omega
    have hblk : ∀ k, vblk vS k → ¬ P.F w k := fun k hk hx => by
      refine hF.foot k ?_ hx
      rcases h1 with ⟨rfl, _⟩ | ⟨a, n, c, rfl, hl, _, _, hc⟩
      · exact hk.elim
      · match n, hk, hl with
        | n + 1, hk, hl =>
          obtain ⟨u, hu⟩ : ∃ u, Sb[0]? = some u := ⟨_, List.getElem?_eq_getElem (by omega)⟩
          have := World.block_lt_of_cell? w0 _ (hc 0 u hu)
          rw [block_add'] at this
          exact hk ▸ this
    have hvS : Rd w vS Sb := h1.keep hF fun _ _ x => x
    have hSm : Sb.length ≤ maxLen := by unfold maxLen; omega
    rw [VT.wops] at hg ⊢
    by_cases t2 : T % 256 = 2
    · rw [if_pos t2] at hg ⊢
      exact I_put2 P hP w s T N K E vS vI _ t2 h hg.1
    rw [if_neg t2] at hg ⊢
    by_cases t3 : T % 256 = 3
    · rw [if_pos t3] at hg ⊢
      exact I_put3 P hP w s T N K E vS vI _ t3 h hg.1
    rw [if_neg t3] at hg ⊢
    by_cases t4 : T % 256 = 4
    · rw [if_pos t4] at hg ⊢
      exact I_put4 P hP w s T N K E vS vI _ t4 h hg.1
    rw [if_neg t4] at hg ⊢
    by_cases t6 : T % 256 = 6
    · rw [if_pos t6] at hg ⊢
      exact I_put6 P hP w s T N K E vS vI _ t6 h hg.1
    rw [if_neg t6] at hg ⊢
    by_cases t8 : T % 256 = 8
    · rw [if_pos t8] at hg ⊢
      exact I_put8 P hP w s T N K E vS vI _ t8 h hg.1
    rw [if_neg t8] at hg ⊢
    by_cases t10 : T % 256 = 10
    · rw [if_pos t10] at hg ⊢
      exact I_put10 P hP w s T N K E vS vI _ t10 h hg.1
    rw [if_neg t10] at hg ⊢
    by_cases t11 : T % 256 = 11
    · rw [if_pos t11] at hg ⊢
      exact I_put11 P hP w s T N K E vS vI _ t11 Sb hvS hblk hSm h hg.1
    rw [if_neg t11] at hg ⊢
    by_cases t16 : T % 256 = 16
    · rw [if_pos t16] at hg ⊢
      exact I_put16 P hP w s T N K E vS vI _ t16 Sb hvS h hg.1
    rw [if_neg t16] at hg ⊢
    obtain ⟨ia, il, ic, rfl, hil, _, _⟩ := h2.len
    obtain ⟨sa, sn, sc, rfl, _⟩ := h1.len
    by_cases t12 : T % 256 = 12
    · rw [if_pos t12] at hg ⊢
      exact I_put12 P hP w0 w s T N K E sa sn sc ia il ic la L.length lc us ids L t12 rfl hL hil (by omega) hcell h2 hE hput hF h hg
    rw [if_neg t12] at hg ⊢
    by_cases t13 : T % 256 = 13
    · rw [if_pos t13] at hg ⊢
      exact I_put13 P hP w0 w s T N K E _ _ la L.length lc (L.length / 2) us L rfl rfl t13 hL hlc hlm hcell hE hput hF h hg
    rw [if_neg t13] at hg ⊢
    by_cases t14 : T % 256 = 14
    · rw [if_pos t14] at hg ⊢
      exact I_put14 P hP w0 w s T N K E _ _ la L.length lc us L rfl t14 hL hcell hE hput hF h hg
    rw [if_neg t14] at hg ⊢
    by_cases t15 : T % 256 = 15
    · rw [if_pos t15] at hg ⊢
      exact I_put15 P hP w0 w s T N K E _ _ la L.length lc us L rfl t15 hL hcell hE hput hF h hg
    rw [if_neg t15] at hg ⊢
    exact I_put_other P hP w s T N K E _ _ _ ⟨t2, t3, t4, t6, t8, t10, t11, t16, t12, t13, t14, t15⟩ h

theorem I_put_any (x : VT) (hx : x.small) : PutOK P x := I_put_sized P hP (SizeOf.sizeOf x) x (Nat.le_refl _) hx
end
end Go.Proofs.YtdifknecndlklaaGreatDoor
