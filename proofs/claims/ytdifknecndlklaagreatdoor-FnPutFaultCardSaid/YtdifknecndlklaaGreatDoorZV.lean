/- The specification's writer: whatever step, by whatever protocol. The specification puts whatever value, by whatever protocol, up to the first call of which nothing is told. The specification puts structs, and whatever value, by whatever protocol: spec.Put. -/
import Derived.Test.YtdifknecndlklaaGreatDoorZS
import Derived.Test.YtdifknecndlklaaGreatDoorZSta
import Derived.Test.YtdifknecndlklaaGreatDoorZQ
import Derived.Test.YtdifknecndlklaaGreatDoorZEV
set_option linter.all false
namespace Go.Proofs.YtdifknecndlklaaGreatDoor
open Go Go.RowKit
set_option maxHeartbeats 4000000
set_option maxRecDepth 100000
set_option linter.all false

theorem wop_range (x : Stp) (op : WOp) (hop : x.wop = some op) : 0 ≤ x.op ∧ x.op ≤ 21 := by
  rcases Decidable.em (0 ≤ x.op ∧ x.op ≤ 21) with h | h
  · exact h
  · rw [wop_none (show x.op < 0 ∨ 21 < x.op by omega)] at hop
    cases hop
theorem S_stepG (x : Stp) (op : WOp) (hop : x.wop = some op) (hr : op.rngN) (p : Nat) (c : ConfV) (w : World) (s : SSt) (hv : Rd w x.v x.s) (hb : ∀ k, vblk x.v k → ¬ SwF p w k) (hl : x.s.length ≤ 1000000) (h : SwI p c w s) (hok : s.okS) (hout : s.out.length ≤ 9000000000) (hou : s.outer.length ≤ 10000000000) :
    Calls Tryz.prog 83 #[.pointer (some ⟨p, 0, none⟩), x.val] w (SR p c w (sstep c s op).2 (sstep c s op).1) := by
  by_cases hc : c.proto = 1
  · have hrg := wop_range x op hop
    rw [sstep, if_pos hc]
    obtain ⟨K, t, k, sz, id, n, v, l⟩ := x
    obtain ⟨va, vn, vc, hsl, -⟩ := hv.len
    dsimp only at hsl hrg hv hb hl
    subst hsl
    have hf0 : Fr noF noF w (w.alloc (.cells (stepA K t k sz id n (.slice va vn vc)) 239 (0, 0))) := (Fr.refl noF w).alloc _
    have hb0 := alloc_new w (.cells (stepA K t k sz id n (.slice va vn vc)) 239 (0, 0))
    have hq := h.quiet hf0
    have hP := S_compact p c (w.alloc (.cells (stepA K t k sz id n (.slice va vn vc)) 239 (0, 0))) s K t k sz id n (.slice va vn vc) l op hop hr (hv.keep (F := noF) hf0 fun _ _ x => x) (fun j hj hx => hb j hj (hq.2.1 j hx)) hl hq.1 hok hout hou
    obtain ⟨ov, uv, hA⟩ := hq.1
    have c0 := cell_at hA.box 0
    simp only [List.getElem?_toArray, List.getElem?_cons_zero] at c0
    rw [hc] at c0
    obtain ⟨k1, hk1⟩ : ∃ k1, k1 = (sC s op).2 := ⟨_, rfl⟩
    obtain ⟨s1, hs1⟩ : ∃ k1, k1 = (sC s op).1 := ⟨_, rfl⟩
    rw [← hk1, ← hs1] at hP ⊢
    have HP := Lib.hid hP
    have HH := Lib.hid (And.intro h hf0)
    have g1 : ¬ K < 0 := by omega
    have g2 : ¬ K > 21 := by omega
    have d0 := cell_at hb0 0; have d1 := cell_at hb0 1; have d2 := cell_at hb0 2; have d3 := cell_at hb0 3; have d4 := cell_at hb0 4; have d5 := cell_at hb0 5; have d6 := cell_at hb0 6
    simp only [List.getElem?_toArray, List.getElem?_cons_zero, List.getElem?_cons_succ] at d0 d1 d2 d3 d4 d5 d6
    clear hP hA hf0 hb0 h hc hv hrg hq hk1 hs1 hop hr hb hl hok hout hou
    show Calls Tryz.prog 83 #[.pointer (some ⟨p, 0, none⟩), .agg (stepA K t k sz id n (.slice va vn vc))] w _
    go_enter Tryz.func83, Tryz.ntmps83
    go_wp2_with fail
    (with_reducible refine HP.out.mono ?_)
    rintro e w1 hr
    obtain rfl := hr.1
    have HX := Lib.hid (SR.under HH.out.1 HH.out.2 hr)
    clear hr c0 d0 d1 d2 d3 d4 d5 d6
    go_wp2
    go_ret
    exact HX.out
  · rw [sstep, if_neg hc]
    have := S_step_any x p c hc w s hv hl h (by omega)
    have he : x.binB c.strictW = op.binB c.strictW := by
      unfold Stp.binB
      rw [hop]
    rw [he] at this
    exact this
end Go.Proofs.YtdifknecndlklaaGreatDoor
namespace Go.Proofs.YtdifknecndlklaaGreatDoor
open Go Go.RowKit
set_option maxHeartbeats 4000000
set_option maxRecDepth 100000
set_option linter.all false

theorem sCs_outer (s : SSt) (op : WOp) : (sCs s op).1.outer.length ≤ s.outer.length + op.most := by
  cases op <;> simp only [sCs, WOp.most] <;> (repeat' split) <;> simp [SSt.field] <;> omega
theorem sstep_outer (c : ConfV) (s : SSt) (op : WOp) : (sstep c s op).1.outer.length ≤ s.outer.length + op.most := by
  unfold sstep sC
  split
  · split
    · exact Nat.le_add_right ..
    · exact sCs_outer s op
  · exact Nat.le_add_right ..
/-- What stands ahead of calls. -/
structure SGood (s : SSt) (l : List WOp) : Prop where
  ok : s.okS
  len : s.out.length + mostAll l ≤ 9000000000
  rng : rngAll l
  lo : s.outer.length + mostAll l ≤ 9000000000
theorem SGood.le {s : SSt} {l : List WOp} (h : SGood s l) : s.out.length ≤ 9000000000 := by have := h.len; omega
theorem SGood.ou {s : SSt} {l : List WOp} (h : SGood s l) : s.outer.length ≤ 10000000000 := by have := h.lo; omega
theorem SGood.step {c : ConfV} {s : SSt} {op : WOp} {l : List WOp} (h : SGood s (op :: l)) : SGood (sstep c s op).1 l := by
  obtain ⟨h1, h2, h3, h4⟩ := h
  rw [mostAll_cons] at h2 h4
  rw [rngAll_cons] at h3
  have := sstep_len c s op h1 h3.1
  have := sstep_outer c s op
  exact ⟨h1.step c op h3.1, by omega, h3.2, by omega⟩
theorem SGood.run {c : ConfV} : ∀ (a : List WOp) {s : SSt} {b : List WOp}, SGood s (a ++ b) → SGood (srun c s a).1 b
  | [], s, b, h => h
  | op :: a, s, b, h => by
    have h1 := h.step (c := c)
    simp only [srun]
    split
    · exact SGood.run a h1
    · obtain ⟨g1, g2, g3, g4⟩ := (show SGood (sstep c s op).1 (a ++ b) from h1)
      rw [mostAll_append] at g2 g4
      exact ⟨g1, by omega, (rngAll_append.1 g3).2, by omega⟩
theorem SGood.left {s : SSt} {a b : List WOp} (h : SGood s (a ++ b)) : SGood s a := by
  obtain ⟨g1, g2, g3, g4⟩ := h
  rw [mostAll_append] at g2 g4
  exact ⟨g1, by omega, (rngAll_append.1 g3).1, by omega⟩
theorem srun_one (c : ConfV) (s : SSt) (op : WOp) : srun c s [op] = sstep c s op := by
  simp only [srun]
  split
  · rename_i h
    rw [← h]
  · rfl

/-- The contract of putting a value by the specification. -/
def SPutG (p : Nat) (c : ConfV) (x : VT) : Prop := ∀ (w0 : World) (v : Value) (w : World) (s : SSt), ValR w0 x v → Fr noF (SwF p w) w0 w → SwI p c w s → SGood s x.wops →
  Calls Tryz.prog 64 #[.pointer (some ⟨p, 0, none⟩), v] w (SR p c w (srun c s x.wops).2 (srun c s x.wops).1)

/-- What a call among others leaves: it ends them, or the others are left. -/
def SNext (p : Nat) (c : ConfV) (w : World) (cs : Array Value) (R : SSt × Int) (rest : List WOp) (e : Ending) (Y : World) : Prop :=
  ∃ K s1, e = .returned (.int .i64 K) ∧ SAt p c w cs s1 Y ∧ ((K ≠ 0 ∧ R = (s1, K)) ∨ (K = 0 ∧ srun c s1 rest = R ∧ SGood s1 rest))
theorem SAt.stepG {p : Nat} {c : ConfV} {w X : World} {cs : Array Value} {s : SSt} {op : WOp} {rest : List WOp} {R : SSt × Int} (o t k sz id : Int) (h : SAt p c w cs s X) (g : SGood s (op :: rest)) (hR : srun c s (op :: rest) = R) (ho : (⟨o, t, k, sz, id, 0, .slice none 0 0, []⟩ : Stp).wop = some op) :
    Calls Tryz.prog 83 #[.pointer (some ⟨p, 0, none⟩), .agg (stepA o t k sz id 0 (.slice none 0 0))] X (SNext p c w cs R rest) :=
  (S_stepG ⟨o, t, k, sz, id, 0, .slice none 0 0, []⟩ op ho (rngAll_cons.1 g.rng).1.toN p c X s (Or.inl ⟨rfl, rfl⟩) (fun k hk => hk.elim) (Nat.zero_le _) h.I g.ok g.le g.ou).mono fun e Y hw => by
    refine ⟨_, _, hw.1, h.next hw, ?_⟩
    simp only [srun] at hR
    by_cases hk : (sstep c s op).2 = 0
    · rw [if_pos hk] at hR
      exact Or.inr ⟨hk, hR, g.step⟩
    · rw [if_neg hk] at hR
      exact Or.inl ⟨hk, hR.symm⟩
theorem SAt.lastG {p : Nat} {c : ConfV} {w X : World} {cs : Array Value} {s : SSt} {op : WOp} {R : SSt × Int} (o t k sz id : Int) (h : SAt p c w cs s X) (g : SGood s [op]) (hR : srun c s [op] = R) (ho : (⟨o, t, k, sz, id, 0, .slice none 0 0, []⟩ : Stp).wop = some op) :
    Calls Tryz.prog 83 #[.pointer (some ⟨p, 0, none⟩), .agg (stepA o t k sz id 0 (.slice none 0 0))] X (fun e Y => ∃ K, e = .returned (.int .i64 K) ∧ SR p c w R.2 R.1 (.returned (.int .i64 K)) Y) :=
  (S_stepG ⟨o, t, k, sz, id, 0, .slice none 0 0, []⟩ op ho (rngAll_cons.1 g.rng).1.toN p c X s (Or.inl ⟨rfl, rfl⟩) (fun k hk => hk.elim) (Nat.zero_le _) h.I g.ok g.le g.ou).mono fun e Y hw => by
    rw [srun_one] at hR
    subst hR
    exact ⟨_, hw.1, rfl, hw.2.1, (h.next hw).fr⟩
theorem SAt.elemG {p : Nat} {c : ConfV} {w0 w X : World} {cs : Array Value} {s : SSt} {x : VT} {u : Value} {rest : List WOp} {R : SSt × Int} (h : SAt p c w cs s X) (hF : Fr noF (SwF p w) w0 w) (hx : SPutG p c x) (hu : ValR w0 x u) (g : SGood s (x.wops ++ rest)) (hR : srun c s (x.wops ++ rest) = R) :
    Calls Tryz.prog 64 #[.pointer (some ⟨p, 0, none⟩), u] X (SNext p c w cs R rest) :=
  (hx w0 u X s hu (hF.trans h.fr) h.I g.left).mono fun e Y hw => by
    refine ⟨_, _, hw.1, h.next hw, ?_⟩
    rw [srun_append] at hR
    by_cases hk : (srun c s x.wops).2 = 0
    · rw [if_pos hk] at hR
      exact Or.inr ⟨hk, hR, g.run⟩
    · rw [if_neg hk] at hR
      exact Or.inl ⟨hk, hR.symm⟩
theorem SAt.ended {p : Nat} {c : ConfV} {w X : World} {cs : Array Value} {s : SSt} {K : Int} {R : SSt × Int} (h : SAt p c w cs s X) (hR : R = (s, K)) : SR p c w R.2 R.1 (.returned (.int .i64 K)) X := by
  subst hR
  exact ⟨rfl, h.I, h.fr⟩

theorem S_put_scalarG (p : Nat) (c : ConfV) (w0 w : World) (s : SSt) (T N K E : Int) (vS vI vL : Value) (S : List UInt8) (hvS : Rd w0 vS S) (hS : S.length ≤ 1000000) (hT : 0 ≤ sop (T % 256)) (hF : Fr noF (SwF p w) w0 w) (h : SwI p c w s) (op : WOp) (g : SGood s [op])
    (hop : (⟨sop (T % 256), 0, 0, 0, 0, N, vS, S⟩ : Stp).wop = some op) :
    Calls Tryz.prog 64 #[.pointer (some ⟨p, 0, none⟩), .agg (valA T N vS K E vI vL)] w (SR p c w (sstep c s op).2 (sstep c s op).1) := by
  obtain ⟨sa, sn, sc, rfl, -⟩ := hvS.len
  have h1 := SAt.start h (valA (T % 256) N (.slice sa sn sc) K E vI vL)
  have hbl : ∀ k, vblk (.slice sa sn sc) k → ¬ SwF p w k := fun k hk hx => hF.foot k (hvS.blt k hk) hx
  have hst := S_stepG ⟨sop (T % 256), 0, 0, 0, 0, N, .slice sa sn sc, S⟩ op hop (rngAll_cons.1 g.rng).1.toN p c _ s ((hvS.keep hF fun _ _ x => x).keep h1.fr hbl) (fun k hk hx => hbl k hk (h1.fr.foot k (Nat.lt_of_lt_of_le (hvS.blt k hk) hF.size) hx)) hS h1.I g.ok g.le g.ou
  obtain ⟨R, hR⟩ : ∃ R, R = sstep c s op := ⟨_, rfl⟩
  rw [← hR] at hst ⊢
  have hst2 := hst.mono fun e Y hw => And.intro hw.1 ((h1.next hw).ended (R := R) (K := R.2) rfl)
  obtain ⟨K0, hK0⟩ : ∃ K0, K0 = R.2 := ⟨_, rfl⟩
  rw [← hK0] at hst2 ⊢
  have hq : ∀ (X : World) (cs : Int), X.heap[w.heap.size]? = some (.cells (#[.int .i64 cs, .int .i64 N, .slice sa sn sc, .int .i64 K, .int .i64 E, vI, vL] : Array Value) TSVal (0, 0)) → X.cell? ⟨w.heap.size, 0, none⟩ = some (.int .i64 cs) ∧ X.cell? ⟨w.heap.size, 1, none⟩ = some (.int .i64 N) ∧ X.cell? ⟨w.heap.size, 2, none⟩ = some (.slice sa sn sc) := fun X cs hX => ⟨by rw [cell_at hX]; rfl, by rw [cell_at hX]; rfl, by rw [cell_at hX]; rfl⟩
  have q0 := hq _ _ (SAt.start h (valA T N (.slice sa sn sc) K E vI vL)).box
  have q1 := hq _ _ h1.box
  have ff := free_at (SAt.start h (valA T N (.slice sa sn sc) K E vI vL)).box 0
  have HS := Lib.hid hst2
  have ha := and255 T
  obtain ⟨o, ho⟩ : ∃ o, o = sop (T % 256) := ⟨_, rfl⟩
  have HO2 := Lib.hid (show ∀ X, Calls Tryz.prog 82 #[.int .i64 (T % 256)] X fun e w' => e = .returned (.int .i64 o) ∧ X = w' from fun X => by rw [ho]; exact S_op _ X)
  rw [← ho] at HS hT
  clear h1 hst hst2 hq ho hF h hvS g hop hR hK0 hbl
  go_enter Tryz.func64, Tryz.ntmps64
  go_wp2_with fail
  (with_reducible refine (HO2.out _).mono ?_)
  rintro e w' ⟨rfl, rfl⟩
  go_wp2_with fail
  (with_reducible refine HS.out.mono ?_)
  rintro e Y ⟨rfl, hY⟩
  have HY := Lib.hid hY
  clear hY q0 q1 ff
  go_wp2
  go_ret
  exact HY.out

theorem S_putG14 (p : Nat) (c : ConfV) (w0 w : World) (s : SSt) (T N K E : Int) (vS vI : Value) (la : Option Addr) (n lc d m : Nat) (us : Nat → Array Value) (L : List VT) (hL : L.length = n) (hT : T % 256 = 14) (hnm : n ≤ 1000000) (hm : m = n / 2) (hd : d = n)
    (hcell : 0 < n → ∃ g o, la = some ⟨g, o, none⟩ ∧ ∀ j, j < n → ∀ i u, (us j)[i]? = some u → w0.cell? ⟨g, o + j * 7 + i, none⟩ = some u)
    (hE : ∀ (j : Nat) x, L[j]? = some x → ValR w0 x (.agg (us j))) (hput : ∀ (j : Nat) x, L[j]? = some x → SPutG p c x) (hF : Fr noF (SwF p w) w0 w) (h : SwI p c w s)
    (R : SSt × Int) (hR : srun c s (WOp.setBegin (E % 256) n :: (allW L d ++ [WOp.setEnd])) = R) (hg : SGood s (WOp.setBegin (E % 256) n :: (allW L d ++ [WOp.setEnd]))) :
    Calls Tryz.prog 64 #[.pointer (some ⟨p, 0, none⟩), .agg (valA T N vS K E vI (.slice la n lc))] w (SR p c w R.2 R.1) := by
  have h0 := SAt.start h (valA 14 N vS K E vI (.slice la n lc))
  have hst := h0.stepG 11 E 0 n 0 hg hR rfl
  have hen := fun X s' (hX : SAt p c w (valA 14 N vS K E vI (.slice la n lc)) s' X) (hg' : SGood s' [WOp.setEnd]) (hR' : srun c s' [WOp.setEnd] = R) => hX.lastG 12 0 0 0 0 hg' hR' rfl
  have hq : ∀ (s' : SSt) (X : World), SAt p c w (valA 14 N vS K E vI (.slice la n lc)) s' X → X.cell? ⟨w.heap.size, 4, none⟩ = some (.int .i64 E) ∧ X.cell? ⟨w.heap.size, 6, none⟩ = some (.slice la n lc) := fun s' X hX => ⟨(cell_at hX.box 4).trans rfl, (cell_at hX.box 6).trans rfl⟩
  have hel : ∀ k, k < n → ∃ g o x sa sn sc ia' il' ic' la' ll' lc', la = some ⟨g, o, none⟩ ∧ L[k]? = some x ∧ us k = valA x.T x.N (.slice sa sn sc) x.K x.E (.slice ia' il' ic') (.slice la' ll' lc') ∧
      ∀ s' X, SAt p c w (valA 14 N vS K E vI (.slice la n lc)) s' X → ∀ i u, (us k)[i]? = some u → X.cell? ⟨g, o + k * 7 + i, none⟩ = some u := fun k hk => by
    obtain ⟨g, o, rfl, hcc⟩ := hcell (by omega)
    have hx : L[k]? = some L[k] := List.getElem?_eq_getElem (by omega)
    obtain ⟨sa, sn, sc, ia', il', ic', la', ll', lc', he⟩ := (hE k _ hx).sl
    injection he with he
    exact ⟨g, o, _, sa, sn, sc, ia', il', ic', la', ll', lc', rfl, hx, he, fun s' X hX i u hu => (hF.trans hX.fr).cell (hcc k hk i u hu) fun x => x⟩
  have hstep : ∀ (k : Nat) x s' X, k < d → L[k]? = some x → SAt p c w (valA 14 N vS K E vI (.slice la n lc)) s' X → srun c s' (allW (L.drop k) (d - k) ++ [WOp.setEnd]) = R → SGood s' (allW (L.drop k) (d - k) ++ [WOp.setEnd]) →
      Calls Tryz.prog 64 #[.pointer (some ⟨p, 0, none⟩), .agg (us k)] X (SNext p c w (valA 14 N vS K E vI (.slice la n lc)) R (allW (L.drop (k + 1)) (d - (k + 1)) ++ [WOp.setEnd])) := fun k x s' X hk hx hX hR' hg' => by
    rw [allW_drop hx hk, List.append_assoc] at hR' hg'
    exact hX.elemG hF (hput k x hx) (hE k x hx) hg' hR'
  have hfin : ∀ s', srun c s' (allW (L.drop d) (d - d) ++ [WOp.setEnd]) = R → SGood s' (allW (L.drop d) (d - d) ++ [WOp.setEnd]) → srun c s' [WOp.setEnd] = R ∧ SGood s' [WOp.setEnd] := fun s' h1 h2 => by
    rw [allW_end] at h1 h2
    exact ⟨h1, h2⟩
  have hd0' : allW L d ++ [WOp.setEnd] = allW (L.drop 0) (d - 0) ++ [WOp.setEnd] := by rw [List.drop_zero, Nat.sub_zero]
  rw [hd0'] at hst
  have q0 := hq _ _ h0
  have c0 : (w.alloc (.cells (valA 14 N vS K E vI (.slice la n lc)) TSVal (0, 0))).cell? ⟨w.heap.size, 0, none⟩ = some (.int .i64 14) := by rw [cell_at h0.box]; rfl
  have d0 : (w.alloc (.cells (valA T N vS K E vI (.slice la n lc)) TSVal (0, 0))).cell? ⟨w.heap.size, 0, none⟩ = some (.int .i64 T) := by rw [cell_at (alloc_new w _)]; rfl
  have ff := free_at (alloc_new w (.cells (valA T N vS K E vI (.slice la n lc)) TSVal (0, 0))) 0
  have HO := Lib.hid (show ∀ X, Calls Tryz.prog 82 #[.int .i64 14] X fun e w' => e = .returned (.int .i64 (-1)) ∧ X = w' from fun X => S_op 14 X)
  have ha : bits .and .i64 T 255 = 14 := (and255 T).trans hT
  have HS := Lib.hid hst
  have HE := Lib.hid hen
  have HQ := Lib.hid hq
  have HEL := Lib.hid hel
  have HST := Lib.hid hstep
  have HFI := Lib.hid hfin
  have HDN := Lib.hid hd
  
  have hnn : (n : Int) ≤ 1000000 := by omega
  have hdd : d ≤ n := by omega
  have hd0 : (0 : Int) ≤ (d : Int) := by omega
  have hd1 : (d : Int) ≤ 1000000 := by omega
  clear hst hen hq hel hstep hfin hd0' h0 hF h hput hE hcell hL hR hg hd hnm hT hm
  go_enter Tryz.func64, Tryz.ntmps64
  go_wp2_with fail
  (with_reducible refine (HO.out _).mono ?_)
  rintro e w' ⟨rfl, rfl⟩
  go_wp2_with fail
  (with_reducible refine HS.out.mono ?_)
  rintro e Y ⟨K0, s1, rfl, hY, hK⟩
  have q1 := HQ.out _ _ hY
  have c1 : Y.cell? ⟨w.heap.size, 0, none⟩ = some (.int .i64 14) := by rw [cell_at hY.box]; rfl
  have HY := Lib.hid hY
  clear hY q0 c0 d0 ff
  rcases hK with ⟨hK0, hKR⟩ | ⟨rfl, hKR⟩
  · have hk0 : (K0 != 0) = true := by simpa using hK0
    have HR := Lib.hid (HY.out.ended hKR)
    clear hKR q1 c1 hK0
    go_wp2
    go_ret
    exact HR.out
  have HKR := Lib.hid hKR
  clear hKR
  go_wp2_with fail
  go_loopw [11] (fun i wr => ∃ (k : Nat) (s' : SSt), i = .int .i64 k ∧ k ≤ d ∧ SAt p c w (valA 14 N vS K E vI (.slice la n lc)) s' wr ∧ srun c s' (allW (L.drop k) (d - k) ++ [WOp.setEnd]) = R ∧ SGood s' (allW (L.drop k) (d - k) ++ [WOp.setEnd])) (fun i _ => d - (intOf i).toNat)
  case atStart => exact ⟨0, _, rfl, by omega, HY.out, HKR.out⟩
  case round =>
    obtain ⟨k, s', rfl, hk, hA, hdn, hgd⟩ := hrel
    have q2 := HQ.out _ _ hA
    rcases Nat.lt_or_ge k d with hlt | hge
    · obtain ⟨g, o, x, sa, sn, sc, ia', il', ic', la', ll', lc', rfl, hx, hus, hcc⟩ := HEL.out k (by omega)
      have hcw := hcc _ _ hA
      have hcall := HST.out k x s' _ hlt hx hA hdn hgd
      rw [hus] at hcw hcall
      have e0 : wr.cell? ⟨g, o + k * 7, none⟩ = some (.int .i64 x.T) := hcw 0 _ rfl
      have e1 : wr.cell? ⟨g, o + k * 7 + 1, none⟩ = some (.int .i64 x.N) := hcw 1 _ rfl
      have e2 : wr.cell? ⟨g, o + k * 7 + 2, none⟩ = some (.slice sa sn sc) := hcw 2 _ rfl
      have e3 : wr.cell? ⟨g, o + k * 7 + 3, none⟩ = some (.int .i64 x.K) := hcw 3 _ rfl
      have e4 : wr.cell? ⟨g, o + k * 7 + 4, none⟩ = some (.int .i64 x.E) := hcw 4 _ rfl
      have e5 : wr.cell? ⟨g, o + k * 7 + 5, none⟩ = some (.slice ia' il' ic') := hcw 5 _ rfl
      have e6 : wr.cell? ⟨g, o + k * 7 + 6, none⟩ = some (.slice la' ll' lc') := hcw 6 _ rfl
      have HV := Lib.hid hcall
      have hk0 : (0 : Int) ≤ (k : Int) := by omega
      have hk1 : (k : Int) < (d : Int) := by omega
      have hk2 : (k : Int) < (n : Int) := by omega
      have hk3 : (k : Int) ≤ 1000000 := by omega
      clear hcall hcw hcc hus hx hdn hgd hA q1 c1
      go_wp2_with fail
      (with_reducible refine HV.out.mono ?_)
      rintro e Z ⟨K1, s2, rfl, hZ, hK⟩
      have HZ := Lib.hid hZ
      clear hZ e0 e1 e2 e3 e4 e5 e6 q2
      rcases hK with ⟨hK0, hKR⟩ | ⟨rfl, hKR⟩
      · have hk0 : (K1 != 0) = true := by simpa using hK0
        have HR := Lib.hid (HZ.out.ended hKR)
        clear hKR hK0
        go_wp2
        go_ret
        exact HR.out
      have HKR := Lib.hid hKR
      clear hKR
      go_wp2_with fail
      go_roundw
      case rel => exact ⟨k + 1, _, by go_num, by omega, HZ.out, HKR.out⟩
      case measure => simp [intOf]; omega
    · obtain rfl : k = d := by omega
      obtain ⟨e1, e2⟩ := HFI.out s' hdn hgd
      have HX := Lib.hid (HE.out _ s' hA e2 e1)
      clear hA hdn hgd e1 e2 q1 c1
      have hkk : ¬ (k : Int) < (k : Int) := by omega
      have hkn : ¬ (k : Int) < (n : Int) := by have := HDN.out; omega
      go_wp2_with fail
      (with_reducible refine HX.out.mono ?_)
      rintro e Z ⟨K1, rfl, hZ⟩
      have HZ := Lib.hid hZ
      clear hZ q2
      go_wp2
      go_ret
      exact HZ.out
theorem S_putG15 (p : Nat) (c : ConfV) (w0 w : World) (s : SSt) (T N K E : Int) (vS vI : Value) (la : Option Addr) (n lc d m : Nat) (us : Nat → Array Value) (L : List VT) (hL : L.length = n) (hT : T % 256 = 15) (hnm : n ≤ 1000000) (hm : m = n / 2) (hd : d = n)
    (hcell : 0 < n → ∃ g o, la = some ⟨g, o, none⟩ ∧ ∀ j, j < n → ∀ i u, (us j)[i]? = some u → w0.cell? ⟨g, o + j * 7 + i, none⟩ = some u)
    (hE : ∀ (j : Nat) x, L[j]? = some x → ValR w0 x (.agg (us j))) (hput : ∀ (j : Nat) x, L[j]? = some x → SPutG p c x) (hF : Fr noF (SwF p w) w0 w) (h : SwI p c w s)
    (R : SSt × Int) (hR : srun c s (WOp.listBegin (E % 256) n :: (allW L d ++ [WOp.listEnd])) = R) (hg : SGood s (WOp.listBegin (E % 256) n :: (allW L d ++ [WOp.listEnd]))) :
    Calls Tryz.prog 64 #[.pointer (some ⟨p, 0, none⟩), .agg (valA T N vS K E vI (.slice la n lc))] w (SR p c w R.2 R.1) := by
  have h0 := SAt.start h (valA 15 N vS K E vI (.slice la n lc))
  have hst := h0.stepG 9 E 0 n 0 hg hR rfl
  have hen := fun X s' (hX : SAt p c w (valA 15 N vS K E vI (.slice la n lc)) s' X) (hg' : SGood s' [WOp.listEnd]) (hR' : srun c s' [WOp.listEnd] = R) => hX.lastG 10 0 0 0 0 hg' hR' rfl
  have hq : ∀ (s' : SSt) (X : World), SAt p c w (valA 15 N vS K E vI (.slice la n lc)) s' X → X.cell? ⟨w.heap.size, 4, none⟩ = some (.int .i64 E) ∧ X.cell? ⟨w.heap.size, 6, none⟩ = some (.slice la n lc) := fun s' X hX => ⟨(cell_at hX.box 4).trans rfl, (cell_at hX.box 6).trans rfl⟩
  have hel : ∀ k, k < n → ∃ g o x sa sn sc ia' il' ic' la' ll' lc', la = some ⟨g, o, none⟩ ∧ L[k]? = some x ∧ us k = valA x.T x.N (.slice sa sn sc) x.K x.E (.slice ia' il' ic') (.slice la' ll' lc') ∧
      ∀ s' X, SAt p c w (valA 15 N vS K E vI (.slice la n lc)) s' X → ∀ i u, (us k)[i]? = some u → X.cell? ⟨g, o + k * 7 + i, none⟩ = some u := fun k hk => by
    obtain ⟨g, o, rfl, hcc⟩ := hcell (by omega)
    have hx : L[k]? = some L[k] := List.getElem?_eq_getElem (by omega)
    obtain ⟨sa, sn, sc, ia', il', ic', la', ll', lc', he⟩ := (hE k _ hx).sl
    injection he with he
    exact ⟨g, o, _, sa, sn, sc, ia', il', ic', la', ll', lc', rfl, hx, he, fun s' X hX i u hu => (hF.trans hX.fr).cell (hcc k hk i u hu) fun x => x⟩
  have hstep : ∀ (k : Nat) x s' X, k < d → L[k]? = some x → SAt p c w (valA 15 N vS K E vI (.slice la n lc)) s' X → srun c s' (allW (L.drop k) (d - k) ++ [WOp.listEnd]) = R → SGood s' (allW (L.drop k) (d - k) ++ [WOp.listEnd]) →
      Calls Tryz.prog 64 #[.pointer (some ⟨p, 0, none⟩), .agg (us k)] X (SNext p c w (valA 15 N vS K E vI (.slice la n lc)) R (allW (L.drop (k + 1)) (d - (k + 1)) ++ [WOp.listEnd])) := fun k x s' X hk hx hX hR' hg' => by
    rw [allW_drop hx hk, List.append_assoc] at hR' hg'
    exact hX.elemG hF (hput k x hx) (hE k x hx) hg' hR'
  have hfin : ∀ s', srun c s' (allW (L.drop d) (d - d) ++ [WOp.listEnd]) = R → SGood s' (allW (L.drop d) (d - d) ++ [WOp.listEnd]) → srun c s' [WOp.listEnd] = R ∧ SGood s' [WOp.listEnd] := fun s' h1 h2 => by
    rw [allW_end] at h1 h2
    exact ⟨h1, h2⟩
  have hd0' : allW L d ++ [WOp.listEnd] = allW (L.drop 0) (d - 0) ++ [WOp.listEnd] := by rw [List.drop_zero, Nat.sub_zero]
  rw [hd0'] at hst
  have q0 := hq _ _ h0
  have c0 : (w.alloc (.cells (valA 15 N vS K E vI (.slice la n lc)) TSVal (0, 0))).cell? ⟨w.heap.size, 0, none⟩ = some (.int .i64 15) := by rw [cell_at h0.box]; rfl
  have d0 : (w.alloc (.cells (valA T N vS K E vI (.slice la n lc)) TSVal (0, 0))).cell? ⟨w.heap.size, 0, none⟩ = some (.int .i64 T) := by rw [cell_at (alloc_new w _)]; rfl
  have ff := free_at (alloc_new w (.cells (valA T N vS K E vI (.slice la n lc)) TSVal (0, 0))) 0
  have HO := Lib.hid (show ∀ X, Calls Tryz.prog 82 #[.int .i64 15] X fun e w' => e = .returned (.int .i64 (-1)) ∧ X = w' from fun X => S_op 15 X)
  have ha : bits .and .i64 T 255 = 15 := (and255 T).trans hT
  have HS := Lib.hid hst
  have HE := Lib.hid hen
  have HQ := Lib.hid hq
  have HEL := Lib.hid hel
  have HST := Lib.hid hstep
  have HFI := Lib.hid hfin
  have HDN := Lib.hid hd
  
  have hnn : (n : Int) ≤ 1000000 := by omega
  have hdd : d ≤ n := by omega
  have hd0 : (0 : Int) ≤ (d : Int) := by omega
  have hd1 : (d : Int) ≤ 1000000 := by omega
  clear hst hen hq hel hstep hfin hd0' h0 hF h hput hE hcell hL hR hg hd hnm hT hm
  go_enter Tryz.func64, Tryz.ntmps64
  go_wp2_with fail
  (with_reducible refine (HO.out _).mono ?_)
  rintro e w' ⟨rfl, rfl⟩
  go_wp2_with fail
  (with_reducible refine HS.out.mono ?_)
  rintro e Y ⟨K0, s1, rfl, hY, hK⟩
  have q1 := HQ.out _ _ hY
  have c1 : Y.cell? ⟨w.heap.size, 0, none⟩ = some (.int .i64 15) := by rw [cell_at hY.box]; rfl
  have HY := Lib.hid hY
  clear hY q0 c0 d0 ff
  rcases hK with ⟨hK0, hKR⟩ | ⟨rfl, hKR⟩
  · have hk0 : (K0 != 0) = true := by simpa using hK0
    have HR := Lib.hid (HY.out.ended hKR)
    clear hKR q1 c1 hK0
    go_wp2
    go_ret
    exact HR.out
  have HKR := Lib.hid hKR
  clear hKR
  go_wp2_with fail
  go_loopw [11] (fun i wr => ∃ (k : Nat) (s' : SSt), i = .int .i64 k ∧ k ≤ d ∧ SAt p c w (valA 15 N vS K E vI (.slice la n lc)) s' wr ∧ srun c s' (allW (L.drop k) (d - k) ++ [WOp.listEnd]) = R ∧ SGood s' (allW (L.drop k) (d - k) ++ [WOp.listEnd])) (fun i _ => d - (intOf i).toNat)
  case atStart => exact ⟨0, _, rfl, by omega, HY.out, HKR.out⟩
  case round =>
    obtain ⟨k, s', rfl, hk, hA, hdn, hgd⟩ := hrel
    have q2 := HQ.out _ _ hA
    rcases Nat.lt_or_ge k d with hlt | hge
    · obtain ⟨g, o, x, sa, sn, sc, ia', il', ic', la', ll', lc', rfl, hx, hus, hcc⟩ := HEL.out k (by omega)
      have hcw := hcc _ _ hA
      have hcall := HST.out k x s' _ hlt hx hA hdn hgd
      rw [hus] at hcw hcall
      have e0 : wr.cell? ⟨g, o + k * 7, none⟩ = some (.int .i64 x.T) := hcw 0 _ rfl
      have e1 : wr.cell? ⟨g, o + k * 7 + 1, none⟩ = some (.int .i64 x.N) := hcw 1 _ rfl
      have e2 : wr.cell? ⟨g, o + k * 7 + 2, none⟩ = some (.slice sa sn sc) := hcw 2 _ rfl
      have e3 : wr.cell? ⟨g, o + k * 7 + 3, none⟩ = some (.int .i64 x.K) := hcw 3 _ rfl
      have e4 : wr.cell? ⟨g, o + k * 7 + 4, none⟩ = some (.int .i64 x.E) := hcw 4 _ rfl
      have e5 : wr.cell? ⟨g, o + k * 7 + 5, none⟩ = some (.slice ia' il' ic') := hcw 5 _ rfl
      have e6 : wr.cell? ⟨g, o + k * 7 + 6, none⟩ = some (.slice la' ll' lc') := hcw 6 _ rfl
      have HV := Lib.hid hcall
      have hk0 : (0 : Int) ≤ (k : Int) := by omega
      have hk1 : (k : Int) < (d : Int) := by omega
      have hk2 : (k : Int) < (n : Int) := by omega
      have hk3 : (k : Int) ≤ 1000000 := by omega
      clear hcall hcw hcc hus hx hdn hgd hA q1 c1
      go_wp2_with fail
      (with_reducible refine HV.out.mono ?_)
      rintro e Z ⟨K1, s2, rfl, hZ, hK⟩
      have HZ := Lib.hid hZ
      clear hZ e0 e1 e2 e3 e4 e5 e6 q2
      rcases hK with ⟨hK0, hKR⟩ | ⟨rfl, hKR⟩
      · have hk0 : (K1 != 0) = true := by simpa using hK0
        have HR := Lib.hid (HZ.out.ended hKR)
        clear hKR hK0
        go_wp2
        go_ret
        exact HR.out
      have HKR := Lib.hid hKR
      clear hKR
      go_wp2_with fail
      go_roundw
      case rel => exact ⟨k + 1, _, by go_num, by omega, HZ.out, HKR.out⟩
      case measure => simp [intOf]; omega
    · obtain rfl : k = d := by omega
      obtain ⟨e1, e2⟩ := HFI.out s' hdn hgd
      have HX := Lib.hid (HE.out _ s' hA e2 e1)
      clear hA hdn hgd e1 e2 q1 c1
      have hkk : ¬ (k : Int) < (k : Int) := by omega
      have hkn : ¬ (k : Int) < (n : Int) := by have := HDN.out; omega
      go_wp2_with fail
      (with_reducible refine HX.out.mono ?_)
      rintro e Z ⟨K1, rfl, hZ⟩
      have HZ := Lib.hid hZ
      clear hZ q2
      go_wp2
      go_ret
      exact HZ.out
theorem S_putG13 (p : Nat) (c : ConfV) (w0 w : World) (s : SSt) (T N K E : Int) (vS vI : Value) (la : Option Addr) (n lc d m : Nat) (us : Nat → Array Value) (L : List VT) (hL : L.length = n) (hT : T % 256 = 13) (hnm : n ≤ 1000000) (hm : m = n / 2) (hd : d = m * 2)
    (hcell : 0 < n → ∃ g o, la = some ⟨g, o, none⟩ ∧ ∀ j, j < n → ∀ i u, (us j)[i]? = some u → w0.cell? ⟨g, o + j * 7 + i, none⟩ = some u)
    (hE : ∀ (j : Nat) x, L[j]? = some x → ValR w0 x (.agg (us j))) (hput : ∀ (j : Nat) x, L[j]? = some x → SPutG p c x) (hF : Fr noF (SwF p w) w0 w) (h : SwI p c w s)
    (R : SSt × Int) (hR : srun c s (WOp.mapBegin (K % 256) (E % 256) m :: (allW L d ++ [WOp.mapEnd])) = R) (hg : SGood s (WOp.mapBegin (K % 256) (E % 256) m :: (allW L d ++ [WOp.mapEnd]))) :
    Calls Tryz.prog 64 #[.pointer (some ⟨p, 0, none⟩), .agg (valA T N vS K E vI (.slice la n lc))] w (SR p c w R.2 R.1) := by
  have h0 := SAt.start h (valA 13 N vS K E vI (.slice la n lc))
  have hst := h0.stepG 7 E K m 0 hg hR rfl
  have hen := fun X s' (hX : SAt p c w (valA 13 N vS K E vI (.slice la n lc)) s' X) (hg' : SGood s' [WOp.mapEnd]) (hR' : srun c s' [WOp.mapEnd] = R) => hX.lastG 8 0 0 0 0 hg' hR' rfl
  have hq : ∀ (s' : SSt) (X : World), SAt p c w (valA 13 N vS K E vI (.slice la n lc)) s' X → X.cell? ⟨w.heap.size, 3, none⟩ = some (.int .i64 K) ∧ X.cell? ⟨w.heap.size, 4, none⟩ = some (.int .i64 E) ∧ X.cell? ⟨w.heap.size, 6, none⟩ = some (.slice la n lc) := fun s' X hX => ⟨(cell_at hX.box 3).trans rfl, (cell_at hX.box 4).trans rfl, (cell_at hX.box 6).trans rfl⟩
  have hel : ∀ k, k < n → ∃ g o x sa sn sc ia' il' ic' la' ll' lc', la = some ⟨g, o, none⟩ ∧ L[k]? = some x ∧ us k = valA x.T x.N (.slice sa sn sc) x.K x.E (.slice ia' il' ic') (.slice la' ll' lc') ∧
      ∀ s' X, SAt p c w (valA 13 N vS K E vI (.slice la n lc)) s' X → ∀ i u, (us k)[i]? = some u → X.cell? ⟨g, o + k * 7 + i, none⟩ = some u := fun k hk => by
    obtain ⟨g, o, rfl, hcc⟩ := hcell (by omega)
    have hx : L[k]? = some L[k] := List.getElem?_eq_getElem (by omega)
    obtain ⟨sa, sn, sc, ia', il', ic', la', ll', lc', he⟩ := (hE k _ hx).sl
    injection he with he
    exact ⟨g, o, _, sa, sn, sc, ia', il', ic', la', ll', lc', rfl, hx, he, fun s' X hX i u hu => (hF.trans hX.fr).cell (hcc k hk i u hu) fun x => x⟩
  have hstep : ∀ (k : Nat) x s' X, k < d → L[k]? = some x → SAt p c w (valA 13 N vS K E vI (.slice la n lc)) s' X → srun c s' (allW (L.drop k) (d - k) ++ [WOp.mapEnd]) = R → SGood s' (allW (L.drop k) (d - k) ++ [WOp.mapEnd]) →
      Calls Tryz.prog 64 #[.pointer (some ⟨p, 0, none⟩), .agg (us k)] X (SNext p c w (valA 13 N vS K E vI (.slice la n lc)) R (allW (L.drop (k + 1)) (d - (k + 1)) ++ [WOp.mapEnd])) := fun k x s' X hk hx hX hR' hg' => by
    rw [allW_drop hx hk, List.append_assoc] at hR' hg'
    exact hX.elemG hF (hput k x hx) (hE k x hx) hg' hR'
  have hfin : ∀ s', srun c s' (allW (L.drop d) (d - d) ++ [WOp.mapEnd]) = R → SGood s' (allW (L.drop d) (d - d) ++ [WOp.mapEnd]) → srun c s' [WOp.mapEnd] = R ∧ SGood s' [WOp.mapEnd] := fun s' h1 h2 => by
    rw [allW_end] at h1 h2
    exact ⟨h1, h2⟩
  have hd0' : allW L d ++ [WOp.mapEnd] = allW (L.drop 0) (d - 0) ++ [WOp.mapEnd] := by rw [List.drop_zero, Nat.sub_zero]
  rw [hd0'] at hst
  have q0 := hq _ _ h0
  have c0 : (w.alloc (.cells (valA 13 N vS K E vI (.slice la n lc)) TSVal (0, 0))).cell? ⟨w.heap.size, 0, none⟩ = some (.int .i64 13) := by rw [cell_at h0.box]; rfl
  have d0 : (w.alloc (.cells (valA T N vS K E vI (.slice la n lc)) TSVal (0, 0))).cell? ⟨w.heap.size, 0, none⟩ = some (.int .i64 T) := by rw [cell_at (alloc_new w _)]; rfl
  have ff := free_at (alloc_new w (.cells (valA T N vS K E vI (.slice la n lc)) TSVal (0, 0))) 0
  have HO := Lib.hid (show ∀ X, Calls Tryz.prog 82 #[.int .i64 13] X fun e w' => e = .returned (.int .i64 (-1)) ∧ X = w' from fun X => S_op 13 X)
  have ha : bits .and .i64 T 255 = 13 := (and255 T).trans hT
  have HS := Lib.hid hst
  have HE := Lib.hid hen
  have HQ := Lib.hid hq
  have HEL := Lib.hid hel
  have HST := Lib.hid hstep
  have HFI := Lib.hid hfin
  have HDN := Lib.hid hd
  have x1 : ((n : Nat) : Int) / 2 = (m : Int) := by omega
  have x2 : ((n : Nat) : Int).tdiv 2 = (m : Int) := by rw [Int.tdiv_eq_ediv_of_nonneg (by omega)]; exact x1
  have x3 : (m : Int) * 2 = (d : Int) := by omega
  have x4 : (m : Int) ≤ 1000000 := by omega
  have x5 : (0 : Int) ≤ (m : Int) := by omega
  have hnn : (n : Int) ≤ 1000000 := by omega
  have hdd : d ≤ n := by omega
  have hd0 : (0 : Int) ≤ (d : Int) := by omega
  have hd1 : (d : Int) ≤ 1000000 := by omega
  clear hst hen hq hel hstep hfin hd0' h0 hF h hput hE hcell hL hR hg hd hnm hT hm
  go_enter Tryz.func64, Tryz.ntmps64
  go_wp2_with fail
  (with_reducible refine (HO.out _).mono ?_)
  rintro e w' ⟨rfl, rfl⟩
  go_wp2_with fail
  (with_reducible refine HS.out.mono ?_)
  rintro e Y ⟨K0, s1, rfl, hY, hK⟩
  have q1 := HQ.out _ _ hY
  have c1 : Y.cell? ⟨w.heap.size, 0, none⟩ = some (.int .i64 13) := by rw [cell_at hY.box]; rfl
  have HY := Lib.hid hY
  clear hY q0 c0 d0 ff
  rcases hK with ⟨hK0, hKR⟩ | ⟨rfl, hKR⟩
  · have hk0 : (K0 != 0) = true := by simpa using hK0
    have HR := Lib.hid (HY.out.ended hKR)
    clear hKR q1 c1 hK0
    go_wp2
    go_ret
    exact HR.out
  have HKR := Lib.hid hKR
  clear hKR
  go_wp2_with fail
  go_loopw [7] (fun i wr => ∃ (k : Nat) (s' : SSt), i = .int .i64 k ∧ k ≤ d ∧ SAt p c w (valA 13 N vS K E vI (.slice la n lc)) s' wr ∧ srun c s' (allW (L.drop k) (d - k) ++ [WOp.mapEnd]) = R ∧ SGood s' (allW (L.drop k) (d - k) ++ [WOp.mapEnd])) (fun i _ => d - (intOf i).toNat)
  case atStart => exact ⟨0, _, rfl, by omega, HY.out, HKR.out⟩
  case round =>
    obtain ⟨k, s', rfl, hk, hA, hdn, hgd⟩ := hrel
    have q2 := HQ.out _ _ hA
    rcases Nat.lt_or_ge k d with hlt | hge
    · obtain ⟨g, o, x, sa, sn, sc, ia', il', ic', la', ll', lc', rfl, hx, hus, hcc⟩ := HEL.out k (by omega)
      have hcw := hcc _ _ hA
      have hcall := HST.out k x s' _ hlt hx hA hdn hgd
      rw [hus] at hcw hcall
      have e0 : wr.cell? ⟨g, o + k * 7, none⟩ = some (.int .i64 x.T) := hcw 0 _ rfl
      have e1 : wr.cell? ⟨g, o + k * 7 + 1, none⟩ = some (.int .i64 x.N) := hcw 1 _ rfl
      have e2 : wr.cell? ⟨g, o + k * 7 + 2, none⟩ = some (.slice sa sn sc) := hcw 2 _ rfl
      have e3 : wr.cell? ⟨g, o + k * 7 + 3, none⟩ = some (.int .i64 x.K) := hcw 3 _ rfl
      have e4 : wr.cell? ⟨g, o + k * 7 + 4, none⟩ = some (.int .i64 x.E) := hcw 4 _ rfl
      have e5 : wr.cell? ⟨g, o + k * 7 + 5, none⟩ = some (.slice ia' il' ic') := hcw 5 _ rfl
      have e6 : wr.cell? ⟨g, o + k * 7 + 6, none⟩ = some (.slice la' ll' lc') := hcw 6 _ rfl
      have HV := Lib.hid hcall
      have hk0 : (0 : Int) ≤ (k : Int) := by omega
      have hk1 : (k : Int) < (d : Int) := by omega
      have hk2 : (k : Int) < (n : Int) := by omega
      have hk3 : (k : Int) ≤ 1000000 := by omega
      clear hcall hcw hcc hus hx hdn hgd hA q1 c1
      go_wp2_with fail
      (with_reducible refine HV.out.mono ?_)
      rintro e Z ⟨K1, s2, rfl, hZ, hK⟩
      have HZ := Lib.hid hZ
      clear hZ e0 e1 e2 e3 e4 e5 e6 q2
      rcases hK with ⟨hK0, hKR⟩ | ⟨rfl, hKR⟩
      · have hk0 : (K1 != 0) = true := by simpa using hK0
        have HR := Lib.hid (HZ.out.ended hKR)
        clear hKR hK0
        go_wp2
        go_ret
        exact HR.out
      have HKR := Lib.hid hKR
      clear hKR
      go_wp2_with fail
      go_roundw
      case rel => exact ⟨k + 1, _, by go_num, by omega, HZ.out, HKR.out⟩
      case measure => simp [intOf]; omega
    · obtain rfl : k = d := by omega
      obtain ⟨e1, e2⟩ := HFI.out s' hdn hgd
      have HX := Lib.hid (HE.out _ s' hA e2 e1)
      clear hA hdn hgd e1 e2 q1 c1
      have hkk : ¬ (k : Int) < (k : Int) := by omega
      skip
      go_wp2_with fail
      (with_reducible refine HX.out.mono ?_)
      rintro e Z ⟨K1, rfl, hZ⟩
      have HZ := Lib.hid hZ
      clear hZ q2
      go_wp2
      go_ret
      exact HZ.out
end Go.Proofs.YtdifknecndlklaaGreatDoor
namespace Go.Proofs.YtdifknecndlklaaGreatDoor
open Go Go.RowKit
set_option maxHeartbeats 4000000
set_option maxRecDepth 100000
set_option linter.all false

/-- The two steps at a struct's end. -/
theorem S_all2G (p : Nat) (c : ConfV) (g : Nat) (w X : World) (cs : Array Value) (s : SSt) (R : SSt × Int) (h : SAt p c w cs s X) (hg : X.heap[g]? = some (.cells stp2 TStp (0, 0))) (hgF : ¬ SwF p X g) (gd : SGood s [.fieldStop, .structEnd]) (hR : srun c s [.fieldStop, .structEnd] = R) :
    Calls Tryz.prog 93 #[.pointer (some ⟨p, 0, none⟩), .slice (some ⟨g, 0, none⟩) 2 2] X (fun e Y => ∃ K, e = .returned (.int .i64 K) ∧ SR p c w R.2 R.1 (.returned (.int .i64 K)) Y) := by
  have h6 : Calls Tryz.prog 83 #[.pointer (some ⟨p, 0, none⟩), .agg #[.int .i64 6, .int .i64 0, .int .i64 0, .int .i64 0, .int .i64 0, .int .i64 0, .slice none 0 0]] X (fun e Z => SNext p c w cs R [.structEnd] e Z ∧ Z.heap[g]? = some (.cells stp2 TStp (0, 0))) :=
    (S_stepG ⟨6, 0, 0, 0, 0, 0, .slice none 0 0, []⟩ .fieldStop rfl (rngAll_cons.1 gd.rng).1.toN p c X s (Or.inl ⟨rfl, rfl⟩) (fun k hk => hk.elim) (Nat.zero_le _) h.I gd.ok gd.le gd.ou).mono fun e Z hw => by
      refine ⟨⟨_, _, hw.1, h.next hw, ?_⟩, hw.2.2.block hg hgF⟩
      have hR := hR
      simp only [srun] at hR ⊢
      by_cases hk : (sstep c s .fieldStop).2 = 0
      · rw [if_pos hk] at hR
        exact Or.inr ⟨hk, hR, gd.step⟩
      · rw [if_neg hk] at hR
        exact Or.inl ⟨hk, hR.symm⟩
  have h3 : ∀ Y s', SAt p c w cs s' Y → srun c s' [.structEnd] = R → SGood s' [.structEnd] → Calls Tryz.prog 83 #[.pointer (some ⟨p, 0, none⟩), .agg #[.int .i64 3, .int .i64 0, .int .i64 0, .int .i64 0, .int .i64 0, .int .i64 0, .slice none 0 0]] Y (SNext p c w cs R []) := fun Y s' hY h1 h2 =>
    hY.stepG 3 0 0 0 0 h2 h1 rfl
  have hcell : ∀ Y : World, Y.heap[g]? = some (.cells stp2 TStp (0, 0)) → (∀ i u, stp2[i]? = some u → Y.cell? ⟨g, i, none⟩ = some u) := fun Y hY i u hu => by rw [cell_at hY]; exact hu
  have H6 := Lib.hid h6
  have H3 := Lib.hid h3
  have hcc := hcell X hg
  have a0 := hcc 0 _ rfl; have a1 := hcc 1 _ rfl; have a2 := hcc 2 _ rfl; have a3 := hcc 3 _ rfl; have a4 := hcc 4 _ rfl; have a5 := hcc 5 _ rfl; have a6 := hcc 6 _ rfl
  have HC := Lib.hid hcell
  clear h6 h3 hcell hcc h hg hgF gd hR
  go_enter Tryz.func93, Tryz.ntmps93
  go_wp2_with fail
  go_loopw [5] (fun i wr => (i = .int .i64 0 ∧ wr = X) ∨ (∃ s', i = .int .i64 1 ∧ SAt p c w cs s' wr ∧ wr.heap[g]? = some (.cells stp2 TStp (0, 0)) ∧ srun c s' [.structEnd] = R ∧ SGood s' [.structEnd]) ∨ (∃ s', i = .int .i64 2 ∧ SAt p c w cs s' wr ∧ R = (s', 0))) (fun i _ => 2 - (intOf i).toNat)
  case atStart => exact Or.inl ⟨rfl, rfl⟩
  case round =>
    rcases hrel with ⟨rfl, rfl⟩ | ⟨s', rfl, hA, hb, hR, hgd⟩ | ⟨s', rfl, hA, hR⟩
    · go_wp2_with fail
      (with_reducible refine H6.out.mono ?_)
      rintro e Y ⟨⟨K0, s1, rfl, hY, hK⟩, hb⟩
      have HY := Lib.hid (And.intro hY hb)
      clear hY hb a0 a1 a2 a3 a4 a5 a6
      rcases hK with ⟨hK0, hKR⟩ | ⟨rfl, hKR⟩
      · have hk0 : (K0 != 0) = true := by simpa using hK0
        have HR := Lib.hid (HY.out.1.ended hKR)
        clear hKR hK0
        go_wp2
        go_ret
        exact ⟨_, rfl, HR.out⟩
      have HKR := Lib.hid hKR
      clear hKR
      go_wp2_with fail
      go_roundw
      case rel => exact Or.inr (Or.inl ⟨_, rfl, HY.out.1, HY.out.2, HKR.out.1, HKR.out.2⟩)
      case measure => simp [intOf]
    · clear a0 a1 a2 a3 a4 a5 a6
      have hcc := HC.out _ hb
      have a0 := hcc 7 _ rfl; have a1 := hcc 8 _ rfl; have a2 := hcc 9 _ rfl; have a3 := hcc 10 _ rfl; have a4 := hcc 11 _ rfl; have a5 := hcc 12 _ rfl; have a6 := hcc 13 _ rfl
      have HA := Lib.hid (H3.out _ s' hA hR hgd)
      clear hA hcc hb hR hgd
      go_wp2_with fail
      (with_reducible refine HA.out.mono ?_)
      rintro e Y ⟨K0, s1, rfl, hY, hK⟩
      have HY := Lib.hid hY
      clear hY a0 a1 a2 a3 a4 a5 a6
      rcases hK with ⟨hK0, hKR⟩ | ⟨rfl, hKR, hKG⟩
      · have hk0 : (K0 != 0) = true := by simpa using hK0
        have HR := Lib.hid (HY.out.ended hKR)
        clear hKR hK0
        go_wp2
        go_ret
        exact ⟨_, rfl, HR.out⟩
      have HKR := Lib.hid hKR
      clear hKR hKG
      go_wp2_with fail
      go_roundw
      case rel => exact Or.inr (Or.inr ⟨_, rfl, HY.out, HKR.out.symm⟩)
      case measure => simp [intOf]
    · have HA := Lib.hid (hA.ended hR)
      clear hA hR a0 a1 a2 a3 a4 a5 a6
      go_wp2
      go_ret
      exact ⟨_, rfl, HA.out⟩

theorem S_putStructG (p : Nat) (c : ConfV) (w0 w : World) (s : SSt) (T N K E : Int) (vS : Value) (ia : Option Addr) (il ic : Nat) (la : Option Addr) (n lc : Nat) (us : Nat → Array Value) (ids : List Int) (L : List VT) (hL : L.length = n) (hnm : n ≤ 1000000) (hil : ids.length = il) (him : il ≤ 1000000)
    (hcell : 0 < n → ∃ g o, la = some ⟨g, o, none⟩ ∧ ∀ j, j < n → ∀ i u, (us j)[i]? = some u → w0.cell? ⟨g, o + j * 7 + i, none⟩ = some u)
    (hids : RdN w0 (.slice ia il ic) ids)
    (hE : ∀ (j : Nat) x, L[j]? = some x → ValR w0 x (.agg (us j))) (hput : ∀ (j : Nat) x, L[j]? = some x → SPutG p c x) (hF : Fr noF (SwF p w) w0 w) (h : SwI p c w s)
    (R : SSt × Int) (hR : srun c s (.structBegin :: restW L ids 0) = R) (hg : SGood s (.structBegin :: restW L ids 0)) :
    Calls Tryz.prog 84 #[.pointer (some ⟨p, 0, none⟩), .agg (valA T N vS K E (.slice ia il ic) (.slice la n lc))] w (SR p c w R.2 R.1) := by
  obtain ⟨cs, hcs⟩ : ∃ cs, cs = valA T N vS K E (.slice ia il ic) (.slice la n lc) := ⟨_, rfl⟩
  have h0 := SAt.start h cs
  have h2 := h0.stepG 2 0 0 0 0 hg hR rfl
  have hq : ∀ (s' : SSt) (X : World), SAt p c w cs s' X → X.cell? ⟨w.heap.size, 5, none⟩ = some (.slice ia il ic) ∧ X.cell? ⟨w.heap.size, 6, none⟩ = some (.slice la n lc) := fun s' X hX => by
    have hb := hX.box
    rw [hcs] at hb
    exact ⟨(cell_at hb 5).trans rfl, (cell_at hb 6).trans rfl⟩
  have hel : ∀ k, k < n → ∃ g o x sa sn sc ia' il' ic' la' ll' lc', la = some ⟨g, o, none⟩ ∧ L[k]? = some x ∧ us k = valA x.T x.N (.slice sa sn sc) x.K x.E (.slice ia' il' ic') (.slice la' ll' lc') ∧
      ∀ s' X, SAt p c w cs s' X → ∀ i u, (us k)[i]? = some u → X.cell? ⟨g, o + k * 7 + i, none⟩ = some u := fun k hk => by
    obtain ⟨g, o, rfl, hcc⟩ := hcell (by omega)
    have hx : L[k]? = some L[k] := List.getElem?_eq_getElem (by omega)
    obtain ⟨sa, sn, sc, ia', il', ic', la', ll', lc', he⟩ := (hE k _ hx).sl
    injection he with he
    exact ⟨g, o, _, sa, sn, sc, ia', il', ic', la', ll', lc', rfl, hx, he, fun s' X hX i u hu => (hF.trans hX.fr).cell (hcc k hk i u hu) fun x => x⟩
  have hid : ∀ k, k < il → ∃ a id, ia = some a ∧ ids[k]? = some id ∧ ∀ s' X, SAt p c w cs s' X → X.cell? (a.add k) = some (.int .i64 id) := fun k hk => by
    rcases hids with ⟨e, rfl⟩ | ⟨a, n', c', e, hl, _, _, hcc⟩
    · simp at hil; omega
    · injection e with e1 e2 e3
      subst e1
      have hi : ids[k]? = some ids[k] := List.getElem?_eq_getElem (by omega)
      exact ⟨a, _, rfl, hi, fun s' X hX => (hF.trans hX.fr).cell (hcc k _ hi) fun x => x⟩
  have hstep : ∀ (k : Nat) x id s', L[k]? = some x → ids[k]? = some id → srun c s' (restW L ids k) = R → SGood s' (restW L ids k) →
      (∀ X, SAt p c w cs s' X → Calls Tryz.prog 83 #[.pointer (some ⟨p, 0, none⟩), .agg (stepA 4 x.T 0 0 id 0 (.slice none 0 0))] X (SNext p c w cs R (x.wops ++ (.fieldEnd :: restW L ids (k + 1))))) ∧
      (∀ X s1, SAt p c w cs s1 X → srun c s1 (x.wops ++ (.fieldEnd :: restW L ids (k + 1))) = R → SGood s1 (x.wops ++ (.fieldEnd :: restW L ids (k + 1))) → Calls Tryz.prog 64 #[.pointer (some ⟨p, 0, none⟩), .agg (us k)] X (SNext p c w cs R (.fieldEnd :: restW L ids (k + 1)))) ∧
      (∀ X s1, SAt p c w cs s1 X → srun c s1 (.fieldEnd :: restW L ids (k + 1)) = R → SGood s1 (.fieldEnd :: restW L ids (k + 1)) → Calls Tryz.prog 83 #[.pointer (some ⟨p, 0, none⟩), .agg (stepA 5 0 0 0 0 0 (.slice none 0 0))] X (SNext p c w cs R (restW L ids (k + 1)))) := fun k x id s' hx hi hR' hg' => by
    rw [restW_step hx hi] at hR' hg'
    exact ⟨fun X hX => hX.stepG 4 x.T 0 0 id hg' hR' rfl, fun X s1 hX h1 h2 => hX.elemG hF (hput k x hx) (hE k x hx) h2 h1, fun X s1 hX h1 h2 => hX.stepG 5 0 0 0 0 h2 h1 rfl⟩
  have hall := fun (g : Nat) (k : Nat) s' X (hk : L.length ≤ k ∨ ids.length ≤ k) (hX : SAt p c w cs s' X) (hb : X.heap[g]? = some (.cells stp2 TStp (0, 0))) (hgF : ¬ SwF p X g) (h1 : srun c s' (restW L ids k) = R) (h2 : SGood s' (restW L ids k)) => S_all2G p c g w X cs s' R hX hb hgF (by rw [restW_end hk] at h2; exact h2) (by rw [restW_end hk] at h1; exact h1)
  have hnew : ∀ s' X, SAt p c w cs s' X → SAt p c w cs s' (X.alloc (.cells stp2 TStp (0, 0))) ∧ ¬ SwF p (X.alloc (.cells stp2 TStp (0, 0))) X.heap.size := fun s' X hX => by
    have hf := (Fr.refl noF X).alloc (.cells stp2 TStp (0, 0))
    refine ⟨hX.quiet hf, fun hk => ?_⟩
    have := hX.I.lt ((hX.I.quiet hf).2.1 _ hk)
    omega
  have hdr : ∀ (s' : SSt) (X : World), SAt p c w cs s' X → SAt p c w cs s' X.drew := fun _ X hX => hX.quiet ((Fr.refl noF X).drew)
  have HS2 := Lib.hid h2
  have HQ := Lib.hid hq
  have HEL := Lib.hid hel
  have HID := Lib.hid hid
  have HST := Lib.hid hstep
  have HAL := Lib.hid hall
  have HNW := Lib.hid hnew
  have HDR := Lib.hid hdr
  have HLn := Lib.hid (And.intro hL hil)
  have hnm0 : (n : Int) ≤ 1000000 := by omega
  have him0 : (il : Int) ≤ 1000000 := by omega
  have HCS := Lib.hid hcs
  clear h2 hq hel hid hstep hall hnew hdr h0 hF h hput hE hcell hids hL hil hnm him hR hg hcs
  go_enter Tryz.func84, Tryz.ntmps84
  rw [← HCS.out]
  go_wp2_with fail
  (with_reducible refine HS2.out.mono ?_)
  rintro e Y ⟨K0, s1, rfl, hY, hK⟩
  have HY := Lib.hid hY
  clear hY
  rcases hK with ⟨hK0, hKR⟩ | ⟨rfl, hKR⟩
  · have hk0 : (K0 != 0) = true := by simpa using hK0
    have HR := Lib.hid (HY.out.ended hKR)
    clear hKR hK0
    go_wp2
    go_ret
    exact HR.out
  have HKR := Lib.hid hKR
  clear hKR
  go_wp2_with fail
  go_loopw [6] (fun i wr => ∃ (k : Nat) (s' : SSt), i = .int .i64 k ∧ k ≤ n ∧ k ≤ il ∧ SAt p c w cs s' wr ∧ srun c s' (restW L ids k) = R ∧ SGood s' (restW L ids k)) (fun i _ => n - (intOf i).toNat)
  case atStart => exact ⟨0, _, rfl, by omega, by omega, HY.out, HKR.out⟩
  case round =>
    obtain ⟨k, s', rfl, hk, hki, hA, hdn, hgd⟩ := hrel
    have q1 := HQ.out _ _ hA
    by_cases hlt : k < n ∧ k < il
    · obtain ⟨hlt1, hlt2⟩ := hlt
      obtain ⟨g, o, x, sa, sn, sc, ia', il', ic', la', ll', lc', rfl, hx, hus, hcc⟩ := HEL.out k hlt1
      obtain ⟨a, id, rfl, hi, hic⟩ := HID.out k hlt2
      obtain ⟨hst4, hcall, hst5⟩ := HST.out k x id s' hx hi hdn hgd
      rw [hus] at hcc hcall
      have hqk : ∀ (s' : SSt) (X : World), SAt p c w cs s' X → X.cell? ⟨w.heap.size, 5, none⟩ = some (.slice (some a) il ic) ∧ X.cell? ⟨w.heap.size, 6, none⟩ = some (.slice (some ⟨g, o, none⟩) n lc) ∧ X.cell? ⟨g, o + k * 7, none⟩ = some (.int .i64 x.T) ∧ X.cell? (a.add k) = some (.int .i64 id) := fun _ _ hX => ⟨(HQ.out _ _ hX).1, (HQ.out _ _ hX).2, hcc _ _ hX 0 _ rfl, hic _ _ hX⟩
      have hcells : ∀ (s' : SSt) (X : World), SAt p c w cs s' X → X.cell? ⟨w.heap.size, 6, none⟩ = some (.slice (some ⟨g, o, none⟩) n lc) ∧ X.cell? ⟨g, o + k * 7, none⟩ = some (.int .i64 x.T) ∧ X.cell? ⟨g, o + k * 7 + 1, none⟩ = some (.int .i64 x.N) ∧ X.cell? ⟨g, o + k * 7 + 2, none⟩ = some (.slice sa sn sc) ∧ X.cell? ⟨g, o + k * 7 + 3, none⟩ = some (.int .i64 x.K) ∧ X.cell? ⟨g, o + k * 7 + 4, none⟩ = some (.int .i64 x.E) ∧ X.cell? ⟨g, o + k * 7 + 5, none⟩ = some (.slice ia' il' ic') ∧ X.cell? ⟨g, o + k * 7 + 6, none⟩ = some (.slice la' ll' lc') := fun _ _ hX =>
        ⟨(HQ.out _ _ hX).2, hcc _ _ hX 0 _ rfl, hcc _ _ hX 1 _ rfl, hcc _ _ hX 2 _ rfl, hcc _ _ hX 3 _ rfl, hcc _ _ hX 4 _ rfl, hcc _ _ hX 5 _ rfl, hcc _ _ hX 6 _ rfl⟩
      have q2 := hqk _ _ (HDR.out _ _ hA)
      have H4 := Lib.hid (hst4 _ (HDR.out _ _ hA))
      have HA := Lib.hid hA
      have HQK := Lib.hid hqk
      have HCE := Lib.hid hcells
      have HCA := Lib.hid hcall
      have HS5 := Lib.hid hst5
      have hk0 : (0 : Int) ≤ (k : Int) := by omega
      have hk1 : (k : Int) < (n : Int) := by omega
      have hk2 : (k : Int) < (il : Int) := by omega
      have hk3 : (k : Int) ≤ 1000000 := by omega
      clear hA hqk hcells hst4 hst5 hcall hcc hic hus hx hi hdn hgd
      go_wp2_with fail
      clear q1
      go_region_held3 (fun w' => w'.cell? ⟨w.heap.size, 5, none⟩ = some (.slice (some a) il ic) ∧ w'.cell? ⟨w.heap.size, 6, none⟩ = some (.slice (some ⟨g, o, none⟩) n lc) ∧ w'.cell? ⟨g, o + k * 7, none⟩ = some (.int .i64 x.T) ∧ w'.cell? (a.add k) = some (.int .i64 id)) (first | exact q2 | exact q3) (first | ((with_reducible refine H4.out.mono ?_); rintro e Y2 ⟨K1, s2, rfl, hY2, hK2⟩; have q3 := HQK.out _ _ hY2; have HY2 := Lib.hid hY2; clear hY2) | fail)
      rcases hK2 with ⟨hK0, hKR⟩ | ⟨rfl, hKR⟩
      · have hk0 : (K1 != 0) = true := by simpa using hK0
        have HR := Lib.hid (HY2.out.ended hKR)
        clear hKR hK0 q2 q3
        go_wp2
        go_ret
        exact HR.out
      have HK2 := Lib.hid hKR
      clear hKR
      obtain ⟨e6, d0, d1, d2, d3, d4, d5, d6⟩ := HCE.out _ _ HY2.out
      clear q2 q3
      go_wp2_with fail
      (with_reducible refine (HCA.out _ _ HY2.out HK2.out.1 HK2.out.2).mono ?_)
      rintro e Y3 ⟨K3, s3, rfl, hY3, hK3⟩
      have HY3 := Lib.hid hY3
      clear hY3 d0 d1 d2 d3 d4 d5 d6 e6
      rcases hK3 with ⟨hK0, hKR⟩ | ⟨rfl, hKR⟩
      · have hk0 : (K3 != 0) = true := by simpa using hK0
        have HR := Lib.hid (HY3.out.ended hKR)
        clear hKR hK0
        go_wp2
        go_ret
        exact HR.out
      have HK3 := Lib.hid hKR
      clear hKR
      go_wp2_with fail
      (with_reducible refine (HS5.out _ _ HY3.out HK3.out.1 HK3.out.2).mono ?_)
      rintro e Y4 ⟨K4, s4, rfl, hY4, hK4⟩
      have HY4 := Lib.hid hY4
      clear hY4
      rcases hK4 with ⟨hK0, hKR⟩ | ⟨rfl, hKR⟩
      · have hk0 : (K4 != 0) = true := by simpa using hK0
        have HR := Lib.hid (HY4.out.ended hKR)
        clear hKR hK0
        go_wp2
        go_ret
        exact HR.out
      have HK4 := Lib.hid hKR
      clear hKR
      go_wp2_with fail
      go_roundw
      case rel => exact ⟨k + 1, _, by go_num, by omega, by omega, HY4.out, HK4.out⟩
      case measure => simp [intOf]; omega
    · obtain ⟨hN1, hN2⟩ := HNW.out s' _ hA
      have hcall := HAL.out _ k s' _ (by rw [HLn.out.1, HLn.out.2]; omega) hN1 (alloc_new _ _) hN2 hdn hgd
      have HCA := Lib.hid hcall
      have hk0 : (0 : Int) ≤ (k : Int) := by omega
      clear hA hdn hgd hN1 hN2 hcall
      rcases (show ((k : Int) < (n : Int) ∧ ¬ (k : Int) < (il : Int)) ∨ ¬ (k : Int) < (n : Int) by omega) with ⟨h3, h2⟩ | h3
      all_goals
        clear hlt
        go_wp2_with fail
        (with_reducible refine HCA.out.mono ?_)
        rintro e Y2 ⟨K9, rfl, hY2⟩
        have HY2 := Lib.hid hY2
        clear hY2 q1
        go_wp2
        go_ret
        exact HY2.out

theorem S_putG12 (p : Nat) (c : ConfV) (w0 w : World) (s : SSt) (T N K E : Int) (sa : Option Addr) (sn sc : Nat) (ia : Option Addr) (il ic : Nat) (la : Option Addr) (n lc : Nat) (us : Nat → Array Value) (ids : List Int) (L : List VT) (hT : T % 256 = 12) (hL : L.length = n) (hnm : n ≤ 1000000) (hil : ids.length = il) (him : il ≤ 1000000)
    (hcell : 0 < n → ∃ g o, la = some ⟨g, o, none⟩ ∧ ∀ j, j < n → ∀ i u, (us j)[i]? = some u → w0.cell? ⟨g, o + j * 7 + i, none⟩ = some u)
    (hids : RdN w0 (.slice ia il ic) ids)
    (hE : ∀ (j : Nat) x, L[j]? = some x → ValR w0 x (.agg (us j))) (hput : ∀ (j : Nat) x, L[j]? = some x → SPutG p c x) (hF : Fr noF (SwF p w) w0 w) (h : SwI p c w s)
    (R : SSt × Int) (hR : srun c s (.structBegin :: restW L ids 0) = R) (hg : SGood s (.structBegin :: restW L ids 0)) :
    Calls Tryz.prog 64 #[.pointer (some ⟨p, 0, none⟩), .agg (valA T N (.slice sa sn sc) K E (.slice ia il ic) (.slice la n lc))] w (SR p c w R.2 R.1) := by
  have h0 := SAt.start h (valA 12 N (.slice sa sn sc) K E (.slice ia il ic) (.slice la n lc))
  have hs := (S_putStructG p c w0 _ s 12 N K E (.slice sa sn sc) ia il ic la n lc us ids L hL hnm hil him hcell hids hE hput (hF.trans h0.fr) h0.I R hR hg).mono fun e Y hw => And.intro hw.1 ((h0.next hw).ended (R := R) (K := R.2) rfl)
  have hc7 := cell_at h0.box
  have c0 := hc7 0; have c1 := hc7 1; have c2 := hc7 2; have c3 := hc7 3; have c4 := hc7 4; have c5 := hc7 5; have c6 := hc7 6
  simp only [List.getElem?_toArray, List.getElem?_cons_zero, List.getElem?_cons_succ] at c0 c1 c2 c3 c4 c5 c6
  have d0 : (w.alloc (.cells (valA T N (.slice sa sn sc) K E (.slice ia il ic) (.slice la n lc)) TSVal (0, 0))).cell? ⟨w.heap.size, 0, none⟩ = some (.int .i64 T) := by rw [cell_at (alloc_new w _)]; rfl
  have ff := free_at (alloc_new w (.cells (valA T N (.slice sa sn sc) K E (.slice ia il ic) (.slice la n lc)) TSVal (0, 0))) 0
  have ha : bits .and .i64 T 255 = 12 := (and255 T).trans hT
  have HO := Lib.hid (show ∀ X, Calls Tryz.prog 82 #[.int .i64 12] X fun e w' => e = .returned (.int .i64 (-1)) ∧ X = w' from fun X => S_op 12 X)
  obtain ⟨K0, hK0⟩ : ∃ K0, K0 = R.2 := ⟨_, rfl⟩
  rw [← hK0] at hs ⊢
  have HS := Lib.hid hs
  clear hK0
  clear hs h0 hc7 hF h hput hE hcell hids hL hR hg hnm hil him hT
  go_enter Tryz.func64, Tryz.ntmps64
  go_wp2_with fail
  (with_reducible refine (HO.out _).mono ?_)
  rintro e w' ⟨rfl, rfl⟩
  go_wp2_with fail
  (with_reducible refine HS.out.mono ?_)
  rintro e Y ⟨rfl, hY⟩
  have HY := Lib.hid hY
  clear hY c0 c1 c2 c3 c4 c5 c6 d0 ff
  go_wp2
  go_ret
  exact HY.out

theorem S_put_sizedG (p : Nat) (c : ConfV) : ∀ (m : Nat) (x : VT), SizeOf.sizeOf x ≤ m → x.small → SPutG p c x := by
  intro m
  induction m with
  | zero =>
    intro x hx
    obtain ⟨T, N, Sb, K, E, ids, L⟩ := x
    simp at hx
  | succ m ih =>
    intro x hx hsm w0 v w s hV hF h hg
    obtain ⟨T, N, Sb, K, E, ids, L⟩ := x
    cases hsm with
    | mk hS hI hL hEl =>
    obtain ⟨vS, vI, vL, us, rfl, h1, h2, ⟨la, lc, rfl, hlc, hlm, hcell⟩, hE⟩ := hV.inv
    have hput : ∀ (j : Nat) x, L[j]? = some x → SPutG p c x := fun j x hj => by
      have hlt := List.sizeOf_lt_of_mem (List.mem_of_getElem? hj)
      refine ih x ?_ (hEl j x hj)
      simp at hx
      omega
    obtain ⟨sa, sn, sc, rfl, -⟩ := h1.len
    obtain ⟨ia, il, ic, rfl, hil, _, _⟩ := h2.len
    by_cases hsc : 0 ≤ sop (T % 256)
    · obtain ⟨op, hw, hop⟩ := wops_scalar (N := N) (S := Sb) (K := K) (E := E) (ids := ids) (L := L) hsc (.slice sa sn sc)
      rw [hw] at hg ⊢
      rw [srun_one]
      exact S_put_scalarG p c w0 w s T N K E _ _ _ Sb h1 hS hsc hF h op hg hop
    · have hm1 : sop (T % 256) = -1 := by unfold sop at hsc ⊢; repeat' split at hsc; all_goals first | omega | (simp_all; done) | rfl
      have hns : T % 256 ≠ 2 ∧ T % 256 ≠ 3 ∧ T % 256 ≠ 4 ∧ T % 256 ≠ 6 ∧ T % 256 ≠ 8 ∧ T % 256 ≠ 10 ∧ T % 256 ≠ 11 ∧ T % 256 ≠ 16 := by
        refine ⟨?_, ?_, ?_, ?_, ?_, ?_, ?_, ?_⟩ <;> (intro e; rw [e] at hm1; revert hm1; decide)
      obtain ⟨t2, t3, t4, t6, t8, t10, t11, t16⟩ := hns
      rw [VT.wops, if_neg t2, if_neg t3, if_neg t4, if_neg t6, if_neg t8, if_neg t10, if_neg t11, if_neg t16] at hg ⊢
      by_cases t12 : T % 256 = 12
      · rw [if_pos t12] at hg ⊢
        exact S_putG12 p c w0 w s T N K E sa sn sc ia il ic la L.length lc us ids L t12 rfl hL hil (by omega) hcell h2 hE hput hF h _ rfl hg
      rw [if_neg t12] at hg ⊢
      by_cases t13 : T % 256 = 13
      · rw [if_pos t13] at hg ⊢
        exact S_putG13 p c w0 w s T N K E _ _ la L.length lc (L.length / 2 * 2) (L.length / 2) us L rfl t13 hL rfl rfl hcell hE hput hF h _ rfl hg
      rw [if_neg t13] at hg ⊢
      by_cases t14 : T % 256 = 14
      · rw [if_pos t14] at hg ⊢
        exact S_putG14 p c w0 w s T N K E _ _ la L.length lc L.length (L.length / 2) us L rfl t14 hL rfl rfl hcell hE hput hF h _ rfl hg
      rw [if_neg t14] at hg ⊢
      by_cases t15 : T % 256 = 15
      · rw [if_pos t15] at hg ⊢
        exact S_putG15 p c w0 w s T N K E _ _ la L.length lc L.length (L.length / 2) us L rfl t15 hL rfl rfl hcell hE hput hF h _ rfl hg
      rw [if_neg t15]
      exact S_put_other p c w s T N K E _ _ _ ⟨hm1, t12, t13, t14, t15⟩ h
theorem S_put_anyG (p : Nat) (c : ConfV) (x : VT) (hx : x.small) : SPutG p c x := S_put_sizedG p c (SizeOf.sizeOf x) x (Nat.le_refl _) hx

abbrev SSt.new : SSt := ⟨[], 0, [], false, 0, false⟩
theorem SSt.new_ok : SSt.new.okS := ⟨by decide, by decide, fun x hx => by simp at hx⟩
theorem S_PutG (c : ConfV) (x : VT) (hx : x.small) (hr : x.rng) (hb : mostAll x.wops ≤ 9000000000) (v : Value) (w : World) (hv : ValR w x v) : Calls Tryz.prog 43 #[c.val, v] w (SPutR w (srun c SSt.new x.wops).1.out (srun c SSt.new x.wops).2) := by
  obtain ⟨sa, sn, sc, ia, il, ic, la, ll, lc, rfl⟩ := hv.sl
  have q3 := new3 w (.cells #[.int .i64 c.proto, .bool c.plain, .bool c.sr, .bool c.sw, .int .i32 c.msg, .int .i32 c.con, .int .i32 c.fra] 29 (0, 0)) (.cells (valA x.T x.N (.slice sa sn sc) x.K x.E (.slice ia il ic) (.slice la ll lc)) TSVal (0, 0)) (.cells (SwC c ⟨[], 0, [], false, 0, false⟩ (.slice none 0 0) (.slice none 0 0)) TSW (0, 0))
  have hf2 : Fr noF noF w ((w.alloc (.cells #[.int .i64 c.proto, .bool c.plain, .bool c.sr, .bool c.sw, .int .i32 c.msg, .int .i32 c.con, .int .i32 c.fra] 29 (0, 0))).alloc (.cells (valA x.T x.N (.slice sa sn sc) x.K x.E (.slice ia il ic) (.slice la ll lc)) TSVal (0, 0))) := ((Fr.refl noF w).alloc _).alloc _
  have hs2 : (((w.alloc (.cells #[.int .i64 c.proto, .bool c.plain, .bool c.sr, .bool c.sw, .int .i32 c.msg, .int .i32 c.con, .int .i32 c.fra] 29 (0, 0))).alloc (.cells (valA x.T x.N (.slice sa sn sc) x.K x.E (.slice ia il ic) (.slice la ll lc)) TSVal (0, 0)))).heap.size = w.heap.size + 1 + 1 := by simp
  obtain ⟨X, hX⟩ : ∃ X, X = ((w.alloc (.cells #[.int .i64 c.proto, .bool c.plain, .bool c.sr, .bool c.sw, .int .i32 c.msg, .int .i32 c.con, .int .i32 c.fra] 29 (0, 0))).alloc (.cells (valA x.T x.N (.slice sa sn sc) x.K x.E (.slice ia il ic) (.slice la ll lc)) TSVal (0, 0))).alloc (.cells (SwC c ⟨[], 0, [], false, 0, false⟩ (.slice none 0 0) (.slice none 0 0)) TSW (0, 0)) := ⟨_, rfl⟩
  have hfX : Fr noF noF w X := by rw [hX]; exact hf2.alloc _
  rw [← hX] at q3
  have hA : SwA (w.heap.size + 1 + 1) c X ⟨[], 0, [], false, 0, false⟩ (.slice none 0 0) (.slice none 0 0) := ⟨q3.2.2, ⟨rfl, Or.inl ⟨rfl, rfl⟩⟩, Or.inl ⟨rfl, Or.inl ⟨rfl, rfl⟩⟩⟩
  have hI : SwI (w.heap.size + 1 + 1) c X ⟨[], 0, [], false, 0, false⟩ := ⟨_, _, hA⟩
  have hlow : ∀ k, SwF (w.heap.size + 1 + 1) X k → k = w.heap.size + 1 + 1 := fun k hk => by
    rcases hA.foot.1 hk with h | h | h
    · exact h
    · cases h
    · cases h
  have hp0 := S_put_anyG (w.heap.size + 1 + 1) c x hx w _ X ⟨[], 0, [], false, 0, false⟩ hv (hfX.conv fun k hk h => by have := hlow k h; omega) hI ⟨SSt.new_ok, by simpa using hb, rng_wops x hx hr, by simpa using hb⟩
  obtain ⟨R, hRd⟩ : ∃ R, R = srun c SSt.new x.wops := ⟨_, rfl⟩
  rw [← hRd] at hp0 ⊢
  obtain ⟨K0, hK0⟩ : ∃ K0, K0 = R.2 := ⟨_, rfl⟩
  rw [← hK0] at hp0 ⊢
  have hp := hp0.mono (R' := fun e Y => e = .returned (.int .i64 K0) ∧ ∃ ov, Y.cell? ⟨w.heap.size + 1 + 1, 7, none⟩ = some ov ∧ SPutR w R.1.out K0 (.returned (.tuple #[ov, .int .i64 K0])) Y) (by
    rintro e Y ⟨rfl, ⟨ov, uv, hSw⟩, hf⟩
    have hge : ∀ k, SwF (w.heap.size + 1 + 1) Y k → w.heap.size ≤ k := fun k hk => by
      rcases Nat.lt_or_ge k X.heap.size with h | h
      · have := hlow k (hf.foot k h hk); omega
      · have := hfX.size; omega
    obtain ⟨oa, on, oc, rfl, -⟩ := hSw.out.rd.len
    refine ⟨rfl, _, hSw.cells.1, _, rfl, ?_, fun j hj => hge j (hSw.foot.2 (Or.inr (Or.inl ?_))), ⟨hf.os.trans hfX.os, hf.tape.trans hfX.tape, hf.output.trans hfX.output, Nat.le_trans hfX.size hf.size, fun k hk _ => (hf.keep k (by have := hfX.size; omega) fun h => by have := hlow k h; omega).trans (hfX.keep k hk fun x => x), fun _ _ h => h⟩⟩
    · exact hSw.out.rd
    · cases oa with
      | none => cases hj
      | some a => cases on with
        | zero => cases hj
        | succ m => exact congrArg some hj)
  rw [hX] at hp q3
  have HP := Lib.hid hp
  have a0 := cell_at q3.1; have b0 := cell_at q3.2.1
  clear q3 hA hI hlow hfX hf2 hb hv hx hr hX hp hp0 hRd hK0
  go_enter Tryz.func43, Tryz.ntmps43
  go_wp2_with fail
  (with_reducible refine HP.out.mono ?_)
  rintro e Y ⟨rfl, ov, hc, hY⟩
  have HY := Lib.hid hY
  clear hY a0 b0
  go_wp2
  go_ret2
  exact HY.out
end Go.Proofs.YtdifknecndlklaaGreatDoor
