/- laws.told: the walk. -/
import Derived.Deep.RegionLaw
import Derived.Test.YtdifknecndlklaaGreatDoorZTold
import Derived.Test.YtdifknecndlklaaGreatDoorZ3
set_option linter.all false
namespace Go.Proofs.YtdifknecndlklaaGreatDoor
open Go Go.RowKit
set_option maxHeartbeats 4000000
set_option maxRecDepth 100000

theorem info_sval : (Tryz.prog.info? TSVal).map (fun i => (i.zero, i.size, i.bytes)) = some (some (.agg (valA 0 0 (.slice none 0 0) 0 0 (.slice none 0 0) (.slice none 0 0))), 7, 104) := by kernel_rfl
theorem info_sval7 : (Tryz.prog.info? TSVal).map (·.size) = some 7 := by kernel_rfl
theorem val_one (a : Array Value) (T N : Int) (sa : Option Addr) (sn sc : Nat) (K E : Int) (ia : Option Addr) (il ic : Nat) (la : Option Addr) (ll lc : Nat) (h : a = valA T N (.slice sa sn sc) K E (.slice ia il ic) (.slice la ll lc)) : a.size = 7 ∧ ∀ u ∈ a.toList, u.oneCell' = true := by
  subst h
  refine ⟨rfl, fun u hu => ?_⟩
  simp only [List.mem_cons, List.not_mem_nil, or_false] at hu
  rcases hu with rfl | rfl | rfl | rfl | rfl | rfl | rfl <;> rfl

theorem L_told_sized : ∀ (m : Nat) (x : VT), SizeOf.sizeOf x ≤ m → x.small → ∀ (w : World) (b : Nat) (v : Value), b ≤ w.heap.size → ValF w (fun k => k < b) x v →
    Calls Tryz.prog 47 #[v] w (fun e w' => ∃ sa sn sc ia il ic la ll lc, e = .returned (.agg (valA x.T x.N (.slice sa sn sc) x.K x.E (.slice ia il ic) (.slice la ll lc))) ∧
      ValF w' (fun k => k < b ∨ w.heap.size ≤ k) x (.agg (valA x.T x.N (.slice sa sn sc) x.K x.E (.slice ia il ic) (.slice la ll lc))) ∧ Fr noF noF w w') := by
  intro m
  induction m with
  | zero =>
    intro x hx
    obtain ⟨T, N, Sb, K, E, ids, L⟩ := x
    simp at hx
  | succ m ih =>
    intro x hx hsm w b v hb hV
    obtain ⟨T, N, Sb, K, E, ids, L⟩ := x
    cases hsm with
    | mk hS hI hL hEl =>
    obtain ⟨vS, vI, vL, us, rfl, h1, h2, h3, fS, fI, fL, hE⟩ := hV.inv
    obtain ⟨sa, sn, sc, rfl, -⟩ := h1.len
    obtain ⟨ia, il, ic, rfl, -⟩ := h2.len
    obtain ⟨la, lc, rfl, hlc, hlm, hcell⟩ := h3
    have hput : ∀ (k : Nat) x X, L[k]? = some x → Fr noF noF w X → Calls Tryz.prog 47 #[.agg (us k)] X (fun e w' => ∃ sa sn sc ia il ic la ll lc, e = .returned (.agg (valA x.T x.N (.slice sa sn sc) x.K x.E (.slice ia il ic) (.slice la ll lc))) ∧
      ValF w' (fun k => k < b ∨ X.heap.size ≤ k) x (.agg (valA x.T x.N (.slice sa sn sc) x.K x.E (.slice ia il ic) (.slice la ll lc))) ∧ Fr noF noF X w') := fun k x X hk hf => by
      have hlt := List.sizeOf_lt_of_mem (List.mem_of_getElem? hk)
      refine ih x ?_ (hEl k x hk) X b _ (Nat.le_trans hb hf.size) ((hE k x hk).keep hf fun _ _ x => x)
      simp at hx
      omega
    have hel : ∀ k, k < L.length → ∃ g o x sa sn sc ia' il' ic' la' ll' lc', la = some ⟨g, o, none⟩ ∧ L[k]? = some x ∧ us k = valA x.T x.N (.slice sa sn sc) x.K x.E (.slice ia' il' ic') (.slice la' ll' lc') ∧
        ∀ X, Fr noF noF w X → ∀ i u, (us k)[i]? = some u → X.cell? ⟨g, o + k * 7 + i, none⟩ = some u := fun k hk => by
      obtain ⟨g, o, rfl, hcc⟩ := hcell (by omega)
      have hx : L[k]? = some L[k] := List.getElem?_eq_getElem (by omega)
      obtain ⟨sa, sn, sc, ia', il', ic', la', ll', lc', he⟩ := (hE k _ hx).plain.sl
      injection he with he
      exact ⟨g, o, _, sa, sn, sc, ia', il', ic', la', ll', lc', rfl, hx, he, fun X hX i u hu => hX.cell (hcc k hk i u hu) fun x => x⟩
    have hnm0 : (L.length : Int) ≤ 1000000 := by omega
    have hfin2 : ∀ X vl rs, TAt w b (valA T N (.slice sa sn sc) K E (.slice ia il ic) (.slice la L.length lc)) (valA 0 0 (.slice none 0 0) 0 0 (.slice none 0 0) (.slice none 0 0)) (fun v => valA T N (.slice sa sn sc) K E (.slice ia il ic) v) L L.length X vl rs →
        ValF X (fun k => (k < b ∨ w.heap.size ≤ k) ∧ k ≠ w.heap.size + 1) (.mk T N Sb K E ids L) (.agg (valA T N (.slice sa sn sc) K E (.slice ia il ic) vl)) := fun X vl rs hA => (hA.val rfl hb h1 h2 fS fI).mono fun n hn => ⟨by omega, by omega⟩
    have happ := fun (k : Nat) (X Y Z : World) (vl : Value) (rs : List (Array Value)) (a : Array Value) (x : VT) (g cap : Nat) =>
      TAt.app (w := w) (b := b) (cs := valA T N (.slice sa sn sc) K E (.slice ia il ic) (.slice la L.length lc)) (cz := valA 0 0 (.slice none 0 0) 0 0 (.slice none 0 0) (.slice none 0 0)) (f := fun v => valA T N (.slice sa sn sc) K E (.slice ia il ic) v) (L := L) (k := k) (X := X) (Y := Y) (Z := Z) (vl := vl) (rs := rs) (a := a) (x := x) (g := g) (cap := cap) hb (fun _ _ => rfl) (fun _ => rfl)
    have q3 := new3 w (.cells (valA T N (.slice sa sn sc) K E (.slice ia il ic) (.slice la L.length lc)) 46 (0, 0)) (.cells (valA 0 0 (.slice none 0 0) 0 0 (.slice none 0 0) (.slice none 0 0)) TSVal (0, 0)) (.cells (valA T N (.slice sa sn sc) K E (.slice ia il ic) (.slice none 0 0)) TSVal (0, 0))
    have hA0 : TAt w b (valA T N (.slice sa sn sc) K E (.slice ia il ic) (.slice la L.length lc)) (valA 0 0 (.slice none 0 0) 0 0 (.slice none 0 0) (.slice none 0 0)) (fun v => valA T N (.slice sa sn sc) K E (.slice ia il ic) v) L 0
        (((w.alloc (.cells (valA T N (.slice sa sn sc) K E (.slice ia il ic) (.slice la L.length lc)) 46 (0, 0))).alloc (.cells (valA 0 0 (.slice none 0 0) 0 0 (.slice none 0 0) (.slice none 0 0)) TSVal (0, 0))).alloc (.cells (valA T N (.slice sa sn sc) K E (.slice ia il ic) (.slice none 0 0)) TSVal (0, 0))) (.slice none 0 0) [] :=
      ⟨(((Fr.refl noF w).alloc _).alloc _).alloc _, q3.1, q3.2.1, q3.2.2, ⟨rfl, Or.inl ⟨rfl, rfl⟩⟩, rfl, fun j a h => by simp at h⟩
    have c0 := cell_at q3.1
    obtain ⟨i0, hi, hz0, hz1, hz2⟩ := info_parts info_sval
    have HI := Lib.hid (And.intro hi (And.intro hz0 (And.intro hz1 hz2)))
    have HA0 := Lib.hid hA0
    have HP := Lib.hid hput
    have HEL := Lib.hid hel
    have HFI2 := Lib.hid hfin2
    have HAP := Lib.hid happ
    clear hput hel hfin2 happ hA0 q3 ih hx hS hI hL hEl hV h1 h2 fS fI fL hE hcell hi hz0 hz1 hz2
    go_enter Tryz.func47, Tryz.ntmps47
    go_wp2_with fail
    go_loopw [4] (fun i wr => ∃ (k : Nat) (vl : Value) (rs : List (Array Value)), i = .int .i64 k ∧ k ≤ L.length ∧ TAt w b (valA T N (.slice sa sn sc) K E (.slice ia il ic) (.slice la L.length lc)) (valA 0 0 (.slice none 0 0) 0 0 (.slice none 0 0) (.slice none 0 0)) (fun v => valA T N (.slice sa sn sc) K E (.slice ia il ic) v) L k wr vl rs) (fun i _ => L.length - (intOf i).toNat)
    case atStart => exact ⟨0, _, _, rfl, by omega, HA0.out⟩
    case round =>
      obtain ⟨k, vl, rs, rfl, hk, hA⟩ := hrel
      clear c0 HA0
      obtain ⟨va, vn, vc, rfl⟩ : ∃ a n c, vl = .slice a n c := by
        rcases hA.own.2 with ⟨rfl, _⟩ | ⟨g, cap, cur, rfl, _⟩
        · exact ⟨_, _, _, rfl⟩
        · exact ⟨_, _, _, rfl⟩
      have hk0 : (0 : Int) ≤ (k : Int) := by omega
      by_cases hlt : k < L.length
      · obtain ⟨g, o, x, ta, tn, tc, ja, jl, jc, ma, ml, mc, rfl, hx, hus, hcc⟩ := HEL.out k hlt
        have hcall := HP.out k x
        rw [hus] at hcc hcall
        have hq : ∀ Y, Fr noF noF w Y → Y.heap[w.heap.size]? = some (.cells (valA T N (.slice sa sn sc) K E (.slice ia il ic) (.slice (some ⟨g, o, none⟩) L.length lc)) 46 (0, 0)) → Y.cell? ⟨w.heap.size + 1 + 1, 6, none⟩ = some (.slice va vn vc) → Y.cell? ⟨w.heap.size, 6, none⟩ = some (.slice (some ⟨g, o, none⟩) L.length lc) ∧ Y.cell? ⟨w.heap.size + 1 + 1, 6, none⟩ = some (.slice va vn vc) ∧ Y.cell? ⟨g, o + k * 7, none⟩ = some (.int .i64 x.T) ∧ Y.cell? ⟨g, o + k * 7 + 1, none⟩ = some (.int .i64 x.N) ∧ Y.cell? ⟨g, o + k * 7 + 2, none⟩ = some (.slice ta tn tc) ∧ Y.cell? ⟨g, o + k * 7 + 3, none⟩ = some (.int .i64 x.K) ∧ Y.cell? ⟨g, o + k * 7 + 4, none⟩ = some (.int .i64 x.E) ∧ Y.cell? ⟨g, o + k * 7 + 5, none⟩ = some (.slice ja jl jc) ∧ Y.cell? ⟨g, o + k * 7 + 6, none⟩ = some (.slice ma ml mc) := fun Y hwY hb0 hc6 =>
          ⟨by rw [cell_at hb0]; rfl, hc6, hcc _ hwY 0 _ rfl, hcc _ hwY 1 _ rfl, hcc _ hwY 2 _ rfl, hcc _ hwY 3 _ rfl, hcc _ hwY 4 _ rfl, hcc _ hwY 5 _ rfl, hcc _ hwY 6 _ rfl⟩
        have hq2 : ∀ Y, Fr noF noF wr Y → _ := fun Y hY => hq Y (hA.fr.trans hY) (hY.block hA.box0 fun x => x) (by rw [cell_at (hY.block hA.box2 fun x => x)]; rfl)
        have hlw : ∀ Y, Fr noF noF wr Y → w.heap.size + 1 + 1 + 1 ≤ Y.heap.size := fun Y hY => Nat.le_trans (lt_heap hA.box2) hY.size
        have hown0 : ∀ Y, Fr noF noF wr Y → Y.ownsRow (w.heap.size + 1 + 1 + 1) TSVal 7 (.slice va vn vc) k (rs.flatMap Array.toList) := fun Y hY => (hA.quiet hY).own
        have q0 := hq2 _ (Fr.refl noF wr)
        have q1 := hq2 _ (Fr.refl noF wr).drew
        have hk1 : (k : Int) < (L.length : Int) := by omega
        have hk3 : (k : Int) ≤ 1000000 := by omega
        have hkn : k + 1 ≤ maxLen ∧ (k + 1) * 104 ≤ 140737488355328 := by unfold maxLen; omega
        have HC := Lib.hid (fun Y hf => hcall Y hx (hA.fr.trans hf))
        have HQ := Lib.hid hq
        have HQ2 := Lib.hid hq2
        have HLW := Lib.hid (And.intro hlw (And.intro hown0 hkn))
        have HX := Lib.hid hx
        have HAP2 := Lib.hid (fun Y Z a g2 cap => HAP.out k wr Y Z (.slice va vn vc) rs a x g2 cap hA)
        clear hA hq hq2 hcc hcall hx hus hlw hown0 hkn
        go_wp2_with fail
        clear q0
        go_region_law (first | (go_simp; go_at_call 47; (with_reducible refine (HC.out _ ?_).mono ?_); (focus ((repeat (first | with_reducible exact Fr.refl _ _ | with_reducible assumption | with_reducible refine Fr.alloc ?_ _ | with_reducible refine Fr.drew ?_ | with_reducible refine Fr.drewN ?_ _ | with_reducible refine Fr.trans (F' := noF) ?_ (by with_reducible assumption) | fail)); done)); rintro e Y ⟨ua, un, uc, pa, pl, pc, oa, ol, oc, rfl, hv, hfy⟩; have sy := HQ2.out Y (by (focus ((repeat (first | with_reducible exact Fr.refl _ _ | with_reducible assumption | with_reducible refine Fr.alloc ?_ _ | with_reducible refine Fr.drew ?_ | with_reducible refine Fr.drewN ?_ _ | with_reducible refine Fr.trans (F' := noF) ?_ (by with_reducible assumption) | fail)); done))); have sy2 := HQ2.out (Y.alloc (.cells (valA x.T x.N (.slice ua un uc) x.K x.E (.slice pa pl pc) (.slice oa ol oc)) TSVal (0, 0))) (by (focus ((repeat (first | with_reducible exact Fr.refl _ _ | with_reducible assumption | with_reducible refine Fr.alloc ?_ _ | with_reducible refine Fr.drew ?_ | with_reducible refine Fr.drewN ?_ _ | with_reducible refine Fr.trans (F' := noF) ?_ (by with_reducible assumption) | fail)); done)))) | ((refine step_append_lies _ (by rfl) _ _ _ (by rfl) (w.heap.size + 1 + 1 + 1) TSVal i0 (.agg (valA 0 0 (.slice none 0 0) 0 0 (.slice none 0 0) (.slice none 0 0))) 7 104 Tryz.underlying40 HI.out.1 HI.out.2.1 HI.out.2.2.1 HI.out.2.2.2 rfl (by decide) (.slice va vn vc) k (rs.flatMap Array.toList) (by rfl) ?_ ⟨Y.heap.size, 0, none⟩ 1 1 (valA x.T x.N (.slice ua un uc) x.K x.E (.slice pa pl pc) (.slice oa ol oc)).toList (by rfl) (by rfl) ?_ (val_one _ _ _ _ _ _ _ _ _ _ _ _ _ _ rfl).2 (by decide) HLW.out.2.2.1 HLW.out.2.2.2 ?_ _ rfl ?_); ((refine HLW.out.2.1 _ ?_); (focus ((repeat (first | with_reducible exact Fr.refl _ _ | with_reducible assumption | with_reducible refine Fr.alloc ?_ _ | with_reducible refine Fr.drew ?_ | with_reducible refine Fr.drewN ?_ _ | with_reducible refine Fr.trans (F' := noF) ?_ (by with_reducible assumption) | fail)); done))); ((refine World.news_of_block (B := Y.heap.size) (t := TSVal) (fr := (0, 0)) ?_); (focus ((repeat (first | with_reducible assumption | with_reducible exact alloc_new _ _ | ((with_reducible refine alloc_newE ?_); (first | with_reducible rfl | (simp; done))) | with_reducible refine alloc_at ?_ | with_reducible refine drew_at ?_ | with_reducible refine Fr.block (F := noF) (F' := noF) (by with_reducible assumption) ?_ (fun x => x) | fail)); done))); ((refine HLW.out.1 _ ?_); (focus ((repeat (first | with_reducible exact Fr.refl _ _ | with_reducible assumption | with_reducible refine Fr.alloc ?_ _ | with_reducible refine Fr.drew ?_ | with_reducible refine Fr.drewN ?_ _ | with_reducible refine Fr.trans (F' := noF) ?_ (by with_reducible assumption) | fail)); done))); intro g2 cap2 Z hown2 hgrow hlies hlt2; have sz := HAP2.out _ Z _ g2 cap2 (by (focus ((repeat (first | with_reducible exact Fr.refl _ _ | with_reducible assumption | with_reducible refine Fr.alloc ?_ _ | with_reducible refine Fr.drew ?_ | with_reducible refine Fr.drewN ?_ _ | with_reducible refine Fr.trans (F' := noF) ?_ (by with_reducible assumption) | fail)); done))) (val_one _ _ _ _ _ _ _ _ _ _ _ _ _ _ rfl).1 HX.out (hv.keep (F := fun n => n < b ∨ wr.heap.size ≤ n) (G := noF) (G' := noF) (by (focus ((repeat (first | with_reducible exact Fr.refl _ _ | with_reducible assumption | with_reducible refine Fr.alloc ?_ _ | with_reducible refine Fr.drew ?_ | with_reducible refine Fr.drewN ?_ _ | with_reducible refine Fr.trans (F' := noF) ?_ (by with_reducible assumption) | fail)); done))) (fun _ _ x => x)) hown2 hgrow hlies; have sq := HQ.out Z sz.1.2.2.2 sz.1.2.2.1 sz.1.1; have sf := sz.1.2.1; have HZ := Lib.hid sz.2; clear sz hown2 hgrow hlies) | fail)
        all_goals
          go_wp2_with fail
          go_roundw
          case rel => exact ⟨k + 1, _, _, by go_num, by omega, HZ.out⟩
          case measure => simp [intOf]; omega
      · have hkl : k = L.length := by omega
        obtain ⟨⟨a0, a1, a2, a3, a4, a5, a6⟩, fa⟩ := cells7 hA.box1
        obtain ⟨⟨b0, b1, b2, b3, b4, b5, b6⟩, fb⟩ := cells7 hA.box2
        have c6 : wr.cell? ⟨w.heap.size, 6, none⟩ = some (.slice la L.length lc) := by rw [cell_at hA.box0]; rfl
        have hk1 : ¬ (k : Int) < (L.length : Int) := by omega
        subst hkl
        have hB := store7_at hA.box1 (.int .i64 T) (.int .i64 N) (.slice sa sn sc) (.int .i64 K) (.int .i64 E) (.slice ia il ic) (.slice va vn vc)
        have hF1 := store7_fr (Fr.refl (fun k => k = w.heap.size + 1) wr) (k := w.heap.size + 1) (Or.inl rfl) (.int .i64 T) (.int .i64 N) (.slice sa sn sc) (.int .i64 K) (.int .i64 E) (.slice ia il ic) (.slice va vn vc)
        have hF0 := store7_fr hA.fr (k := w.heap.size + 1) (Or.inr (by omega)) (.int .i64 T) (.int .i64 N) (.slice sa sn sc) (.int .i64 K) (.int .i64 E) (.slice ia il ic) (.slice va vn vc)
        have hvv := (HFI2.out wr (.slice va vn vc) rs hA).keep hF1 fun n hn e => by
          have e : n = w.heap.size + 1 := e
          subst e
          exact hn.2 rfl
        have HH := Lib.hid (And.intro hB (And.intro (hvv.mono fun n hn => hn.1) hF0))
        clear hB hF1 hF0 hvv hA hlt
        go_wp2
        obtain ⟨Z, hZe⟩ : ∃ Z, Z = (World.setCell (World.setCell (World.setCell (World.setCell (World.setCell (World.setCell (World.setCell wr ⟨w.heap.size + 1, 0, none⟩ (.int .i64 T)) ⟨w.heap.size + 1, 1, none⟩ (.int .i64 N)) ⟨w.heap.size + 1, 2, none⟩ (.slice sa sn sc)) ⟨w.heap.size + 1, 3, none⟩ (.int .i64 K)) ⟨w.heap.size + 1, 4, none⟩ (.int .i64 E)) ⟨w.heap.size + 1, 5, none⟩ (.slice ia il ic)) ⟨w.heap.size + 1, 6, none⟩ (.slice va vn vc)) := ⟨_, rfl⟩
        have HY := HH.out
        unfold store7 at HY
        rw [← hZe] at HY ⊢
        clear hZe HH a0 a1 a2 a3 a4 a5 a6 b0 b1 b2 b3 b4 b5 b6 fa fb c6
        refine bodyPost_ret (v := .agg (valA T N (.slice sa sn sc) K E (.slice ia il ic) (.slice va vn vc))) ?_ rfl ⟨_, _, _, _, _, _, _, _, _, rfl, HY.2.1, HY.2.2⟩
        exact results_cell_row rfl _ _ (w.heap.size + 1) TSVal _ _ _ rfl HY.1 Tryz.underlying98 rfl info_sval7
theorem L_told (x : VT) (hx : x.small) (w : World) (v : Value) (h : ValR w x v) : Calls Tryz.prog 47 #[v] w (fun e w' => ∃ sa sn sc ia il ic la ll lc, e = .returned (.agg (valA x.T x.N (.slice sa sn sc) x.K x.E (.slice ia il ic) (.slice la ll lc))) ∧
    ValR w' x (.agg (valA x.T x.N (.slice sa sn sc) x.K x.E (.slice ia il ic) (.slice la ll lc))) ∧ Fr noF noF w w') :=
  (L_told_sized _ x (Nat.le_refl _) hx w _ v (Nat.le_refl _) h.fresh).mono fun e w' ⟨sa, sn, sc, ia, il, ic, la, ll, lc, h1, h2, h3⟩ => ⟨sa, sn, sc, ia, il, ic, la, ll, lc, h1, h2.plain, h3⟩
end Go.Proofs.YtdifknecndlklaaGreatDoor
