/- The specification's writer: the begin of a message by the binary protocol. -/
import Derived.Test.YtdifknecndlklaaGreatDoorZQ
set_option linter.all false
namespace Go.Proofs.YtdifknecndlklaaGreatDoor
open Go Go.RowKit
set_option maxHeartbeats 4000000
set_option maxRecDepth 100000
set_option linter.all false

theorem be4_i32 (n : Int) : be4 (IntKind.i32.wrap n) = be4 n := by
  unfold be4
  rw [wrap_i32']
  congr 2
  omega

theorem S_bin0 (p : Nat) (c : ConfV) (w : World) (s : SSt) (t k sz id n : Int) (v : Value) (l : List UInt8) (hv : Rd w v l) (hl : l.length ≤ 1000000) (h : SwI p c w s) (hout : s.out.length ≤ 10000000000) (B : List UInt8)
    (hB : B = if c.strictW then (verB (IntKind.i32.wrap t) ++ (be4 l.length ++ l)) ++ be4 n else ((be4 l.length ++ l) ++ [b8 t]) ++ be4 n) :
    Calls Tryz.prog 92 #[.pointer (some ⟨p, 0, none⟩), .agg (stepA 0 t k sz id n v)] w (SR p c w 0 (s.add B)) := by
  obtain ⟨ov, uv, hA⟩ := h
  obtain ⟨i0, hi, hz0, hz1, hz2⟩ := info_parts info_u8
  have HI := Lib.hid (And.intro hi (And.intro hz0 (And.intro hz1 hz2)))
  obtain ⟨va, vn, vc, rfl, hvn⟩ := hv.len
  have hb0 := alloc_new w (.cells (stepA 0 t k sz id n (.slice va vn vc)) 239 (0, 0))
  have hf0 : Fr noF noF w (w.alloc (.cells (stepA 0 t k sz id n (.slice va vn vc)) 239 (0, 0))) := (Fr.refl noF w).alloc _
  obtain ⟨W, hW⟩ : ∃ W, W = w.alloc (.cells (stepA 0 t k sz id n (.slice va vn vc)) 239 (0, 0)) := ⟨_, rfl⟩
  have hlen : B.length ≤ 10000000 := by
    rw [hB]
    split <;> simp [be4_length, verB_length] <;> omega
  have hgv : ∀ X, Calls Tryz.prog 97 #[.int .i64 (bits .or .i64 2147549184 t), .int .i64 4] X (fun e w' => ∃ g c, e = .returned (.slice (some ⟨g, 0, none⟩) 4 c) ∧ w'.ownsRow 0 U8 1 (.slice (some ⟨g, 0, none⟩) 4 c) 4 (Lib.byteCells (verB (IntKind.i32.wrap t))) ∧ X.heap.size ≤ g ∧ Fr noF noF X w') := fun X => by
    have := big_new (bits .or .i64 2147549184 t) 4 (by decide) (by decide) X
    rw [bigB_4, ver_or] at this
    exact this
  have hg4 : ∀ X, Calls Tryz.prog 97 #[.int .i64 n, .int .i64 4] X (fun e w' => ∃ g c, e = .returned (.slice (some ⟨g, 0, none⟩) 4 c) ∧ Rd w' (.slice (some ⟨g, 0, none⟩) 4 c) (be4 n) ∧ Fr noF noF X w') := fun X => by
    have := big_new n 4 (by decide) (by decide) X
    rw [bigB_4] at this
    exact this.mono fun e w' ⟨g, c, he, h1, _, h3⟩ => ⟨g, c, he, rd_of h1 (by rw [be4_length]), h3⟩
  have hq : ∀ X : World, X.heap[w.heap.size]? = some (.cells (stepA 0 t k sz id n (.slice va vn vc)) 239 (0, 0)) → X.cell? ⟨w.heap.size, 0, none⟩ = some (.int .i64 0) ∧ X.cell? ⟨w.heap.size, 1, none⟩ = some (.int .i64 t) ∧ X.cell? ⟨w.heap.size, 5, none⟩ = some (.int .i64 n) ∧ X.cell? ⟨w.heap.size, 6, none⟩ = some (.slice va vn vc) := fun X hX => ⟨by rw [cell_at hX]; rfl, by rw [cell_at hX]; rfl, by rw [cell_at hX]; rfl, by rw [cell_at hX]; rfl⟩
  have hvW := hv.keep (F := noF) (F' := noF) hf0 fun _ _ x => x
  have hAW := hA.keep (G := noF) (G' := noF) hf0 fun _ _ x => x
  obtain ⟨b, hbs⟩ : ∃ b, c.strictW = b := ⟨_, rfl⟩
  have hli : ∀ X, Calls Tryz.prog 96 #[c.val] X (fun e w' => e = .returned (.tuple #[.int .i32 c.maxMsg, .int .i32 c.maxFra, .int .i32 c.maxCon, .bool c.strictR, .bool b]) ∧ Fr noF noF X w') := fun X => by
    have := S_Limits c X
    rw [← hbs]
    exact this
  rw [hbs] at hB
  have HBB := Lib.hid (show ∀ y : Bool, b = y → B = if y = true then verB (IntKind.i32.wrap t) ++ (be4 l.length ++ l) ++ be4 n else be4 l.length ++ l ++ [b8 t] ++ be4 n from fun y hy => hy ▸ hB)
  have HT := Lib.hid (fun X (hX : Rd X (.slice va vn vc) l) => text_new (.slice va vn vc) l X hX (by omega))
  have HQ := Lib.hid hq
  have HGV := Lib.hid hgv
  have HG4 := Lib.hid hg4
  have HLi := Lib.hid hli
  have HA := Lib.hid hA
  have HO := Lib.hid hout
  have HW := Lib.hid hW
  have HLn := Lib.hid hlen
  have HV := Lib.hid (And.intro hl hvn)
  rw [← hW] at hf0 hb0 hvW hAW
  clear hi hz0 hz1 hz2 hA hout hq hW hlen hv hl hvn hgv hg4 hli hB hbs
  go_enter Tryz.func92, Tryz.ntmps92
  go_upto_block 0 with fail
  rw [← HW.out]
  go_cut [5] (fun s5 wx => ∃ xa xn xc, s5 = .slice xa xn xc ∧ Rd wx (.slice xa xn xc) B ∧ Fr noF noF w wx)
  case first =>
    have q0 := HQ.out _ hb0
    have hd := cell_at hAW.box
    have d0 := hd 0; have d1 := hd 1; have d2 := hd 2; have d3 := hd 3; have d4 := hd 4; have d5 := hd 5; have d6 := hd 6
    simp only [List.getElem?_toArray, List.getElem?_cons_zero, List.getElem?_cons_succ] at d0 d1 d2 d3 d4 d5 d6
    clear hd
    go_wp2_with fail
    (with_reducible refine (HLi.out _).mono ?_)
    rintro e X0 ⟨rfl, hfx⟩
    have hx0 := hfx.block hb0 fun x => x
    have hvX : Rd X0 (.slice va vn vc) l := hvW.keep hfx fun _ _ x => x
    have hfX := hf0.trans hfx
    have hwx : w.heap.size < X0.heap.size := lt_heap hx0
    have q1 := HQ.out _ hx0
    have q2 := HQ.out _ (drew_at hx0)
    clear d0 d1 d2 d3 d4 d5 d6 q0 hfx hf0 hb0 hvW hAW
    cases b
    · go_wp2_with fail
      go_region_held3 (fun w' => w'.cell? ⟨w.heap.size, 0, none⟩ = some (.int .i64 0) ∧ w'.cell? ⟨w.heap.size, 1, none⟩ = some (.int .i64 t) ∧ w'.cell? ⟨w.heap.size, 5, none⟩ = some (.int .i64 n) ∧ w'.cell? ⟨w.heap.size, 6, none⟩ = some (.slice va vn vc)) (first | with_reducible assumption | ((with_reducible refine HQ.out _ ?_); (focus ((repeat (first | with_reducible assumption | with_reducible exact alloc_new _ _ | ((with_reducible refine alloc_newE ?_); (first | with_reducible rfl | (simp; done))) | with_reducible refine alloc_at ?_ | with_reducible refine drew_at ?_ | with_reducible refine Fr.block (F := noF) (F' := noF) (by with_reducible assumption) ?_ (fun x => x) | fail)); done))) | fail)
        (first | ((with_reducible refine (HT.out _ ?_).mono ?_); (focus ((repeat (first | with_reducible assumption | with_reducible refine Rd.keep (F := noF) (F' := noF) ?_ (Fr.alloc (Fr.refl noF _) _) (fun _ _ x => x) | with_reducible refine Rd.keep (F := noF) (F' := noF) ?_ (Fr.drew (Fr.refl noF _)) (fun _ _ x => x) | with_reducible refine Rd.keep (F := noF) (F' := noF) ?_ (by with_reducible assumption) (fun _ _ x => x) | fail)); done)); rintro e T ⟨tg, tc, rfl, htr, htn, htf⟩; have st := HQ.out T (by (focus ((repeat (first | with_reducible assumption | with_reducible exact alloc_new _ _ | ((with_reducible refine alloc_newE ?_); (first | with_reducible rfl | (simp; done))) | with_reducible refine alloc_at ?_ | with_reducible refine drew_at ?_ | with_reducible refine Fr.block (F := noF) (F' := noF) (by with_reducible assumption) ?_ (fun x => x) | fail)); done)))) | ((refine step_append_lies _ (by rfl) _ _ _ (by rfl) 0 U8 i0 (.int .u8 0) 1 1 Tryz.underlying24 HI.out.1 HI.out.2.1 HI.out.2.2.1 HI.out.2.2.2 rfl (by decide) _ (l.length + 4) (Lib.byteCells (be4 l.length ++ l)) (by rfl) ?_ _ 1 1 (Lib.byteCells [b8 t]) (by rfl) (by rfl) ?_ (Lib.byteCells_one _) (by decide) (by have := HV.out.1; unfold maxLen; omega) (by have := HV.out.1; omega) (Nat.zero_le _) _ rfl ?_); ((refine owns_fr htr ?_); (focus ((repeat (first | with_reducible exact Fr.refl _ _ | with_reducible assumption | with_reducible refine Fr.alloc ?_ _ | with_reducible refine Fr.drew ?_ | with_reducible refine Fr.drewN ?_ _ | with_reducible refine Fr.trans (F' := noF) ?_ (by with_reducible assumption) | fail)); done))); ((refine news_of (own_one (u8_wrap_b8 t) ?_) rfl); (focus ((repeat (first | with_reducible assumption | with_reducible exact alloc_new _ _ | ((with_reducible refine alloc_newE ?_); (first | with_reducible rfl | (simp; done))) | with_reducible refine alloc_at ?_ | with_reducible refine drew_at ?_ | with_reducible refine Fr.block (F := noF) (F' := noF) (by with_reducible assumption) ?_ (fun x => x) | fail)); done))); intro ng cap Z hown hgrow hlies hlt; have sz := HQ.out Z (keep_app hgrow (by (focus ((repeat (first | with_reducible assumption | with_reducible exact alloc_new _ _ | ((with_reducible refine alloc_newE ?_); (first | with_reducible rfl | (simp; done))) | with_reducible refine alloc_at ?_ | with_reducible refine drew_at ?_ | with_reducible refine Fr.block (F := noF) (F' := noF) (by with_reducible assumption) ?_ (fun x => x) | fail)); done))) (by have h2 := htn; simp only [World.size_alloc, World.size_drew] at h2; omega))) | fail)
      all_goals
        have hfZ : Fr noF noF w Z := fr_app (by (focus ((repeat (first | with_reducible exact Fr.refl _ _ | with_reducible assumption | with_reducible refine Fr.alloc ?_ _ | with_reducible refine Fr.drew ?_ | with_reducible refine Fr.drewN ?_ _ | with_reducible refine Fr.trans (F' := noF) ?_ (by with_reducible assumption) | fail)); done))) hgrow (by have h2 := htn; (try simp only [World.size_alloc, World.size_drew] at h2); omega)
        have hOZ : OwnB Z 0 (.slice (some ⟨ng, 0, none⟩) (l.length + 4 + 1) cap) ((be4 l.length ++ l) ++ [b8 t]) := owns_len (owns_cat hown) (by simp [be4_length, verB_length]; try omega) rfl
        have HNG := Lib.hid (show w.heap.size ≤ ng from by
          have hl2 : some tg = some ng ∨ ng = _ := hlies
          rcases hl2 with e | e
          · injection e with e; have h2 := htn; (try simp only [World.size_alloc, World.size_drew] at h2); omega
          · subst e; (try simp only [World.size_alloc, World.size_drew]); have h3 := htf.size; (try simp only [World.size_alloc, World.size_drew] at h3); omega)
        have HZ := Lib.hid (And.intro hfZ hOZ)
        clear hfZ hOZ hown hgrow hlies hlt
        go_wp2_with fail
        (with_reducible refine (HG4.out _).mono ?_)
        rintro e N ⟨ng4, nc4, rfl, hrn, hfn⟩
        have hON : OwnB N 0 (.slice (some ⟨ng, 0, none⟩) (l.length + 4 + 1) cap) ((be4 l.length ++ l) ++ [b8 t]) := owns_fr HZ.out.2 hfn
        have HN := Lib.hid (And.intro (HZ.out.1.trans hfn) (And.intro hON hrn))
        clear hrn hfn hON
        go_wp2_with (at_builtin; refine append_bytes_at rfl _ _ rfl 0 _ _ ((be4 l.length ++ l) ++ [b8 t]) (be4 n) rfl HN.out.2.1 rfl HN.out.2.2 (by have := HV.out.1; simp [be4_length, verB_length]; omega) (Nat.zero_le _) ?_)
        intro v' w4 hown4 hgrow4 hat4
        obtain ⟨xa, xn, xc, rfl, -⟩ := hown4.rd.len
        have hB4 := HBB.out _ rfl
        rw [if_neg (by decide)] at hB4
        have hR4 : Rd w4 (.slice xa xn xc) B := by rw [hB4]; simpa [List.append_assoc] using hown4.rd
        have HE4 := Lib.hid (And.intro hR4 (fr_app HN.out.1 hgrow4 (by have := HNG.out; omega)))
        clear hown4 hgrow4 hat4 hB4
        go_wp2_with fail
        go_meet
        exact ⟨_, _, _, rfl, HE4.out.1, HE4.out.2⟩
    · go_wp2_with fail
      go_region_held3 (fun w' => w'.cell? ⟨w.heap.size, 0, none⟩ = some (.int .i64 0) ∧ w'.cell? ⟨w.heap.size, 1, none⟩ = some (.int .i64 t) ∧ w'.cell? ⟨w.heap.size, 5, none⟩ = some (.int .i64 n) ∧ w'.cell? ⟨w.heap.size, 6, none⟩ = some (.slice va vn vc)) (first | with_reducible assumption | ((with_reducible refine HQ.out _ ?_); (focus ((repeat (first | with_reducible assumption | with_reducible exact alloc_new _ _ | ((with_reducible refine alloc_newE ?_); (first | with_reducible rfl | (simp; done))) | with_reducible refine alloc_at ?_ | with_reducible refine drew_at ?_ | with_reducible refine Fr.block (F := noF) (F' := noF) (by with_reducible assumption) ?_ (fun x => x) | fail)); done))) | fail)
        (first | ((with_reducible refine (HT.out _ ?_).mono ?_); (focus ((repeat (first | with_reducible assumption | with_reducible refine Rd.keep (F := noF) (F' := noF) ?_ (Fr.alloc (Fr.refl noF _) _) (fun _ _ x => x) | with_reducible refine Rd.keep (F := noF) (F' := noF) ?_ (Fr.drew (Fr.refl noF _)) (fun _ _ x => x) | with_reducible refine Rd.keep (F := noF) (F' := noF) ?_ (by with_reducible assumption) (fun _ _ x => x) | fail)); done)); rintro e T ⟨tg, tc, rfl, htr, htn, htf⟩; have st := HQ.out T (by (focus ((repeat (first | with_reducible assumption | with_reducible exact alloc_new _ _ | ((with_reducible refine alloc_newE ?_); (first | with_reducible rfl | (simp; done))) | with_reducible refine alloc_at ?_ | with_reducible refine drew_at ?_ | with_reducible refine Fr.block (F := noF) (F' := noF) (by with_reducible assumption) ?_ (fun x => x) | fail)); done)))) | ((with_reducible refine (HGV.out _).mono ?_); rintro e Y ⟨gg, gc, rfl, hgr, hgn, hgf⟩; have sy := HQ.out Y (by (focus ((repeat (first | with_reducible assumption | with_reducible exact alloc_new _ _ | ((with_reducible refine alloc_newE ?_); (first | with_reducible rfl | (simp; done))) | with_reducible refine alloc_at ?_ | with_reducible refine drew_at ?_ | with_reducible refine Fr.block (F := noF) (F' := noF) (by with_reducible assumption) ?_ (fun x => x) | fail)); done)))) | ((refine step_append_lies _ (by rfl) _ _ _ (by rfl) 0 U8 i0 (.int .u8 0) 1 1 Tryz.underlying24 HI.out.1 HI.out.2.1 HI.out.2.2.1 HI.out.2.2.2 rfl (by decide) _ 4 (Lib.byteCells (verB (IntKind.i32.wrap t))) (by rfl) ?_ ⟨tg, 0, none⟩ (l.length + 4) tc (Lib.byteCells (be4 l.length ++ l)) (by rfl) (by rw [bcells_length, List.length_append, be4_length]; omega) ?_ (Lib.byteCells_one _) (by omega) (by have := HV.out.1; unfold maxLen; omega) (by have := HV.out.1; omega) (Nat.zero_le _) _ rfl ?_); ((refine owns_fr hgr ?_); (focus ((repeat (first | with_reducible exact Fr.refl _ _ | with_reducible assumption | with_reducible refine Fr.alloc ?_ _ | with_reducible refine Fr.drew ?_ | with_reducible refine Fr.drewN ?_ _ | with_reducible refine Fr.trans (F' := noF) ?_ (by with_reducible assumption) | fail)); done))); ((refine news_of (owns_fr htr ?_) (by rw [List.length_append, be4_length]; omega)); (focus ((repeat (first | with_reducible exact Fr.refl _ _ | with_reducible assumption | with_reducible refine Fr.alloc ?_ _ | with_reducible refine Fr.drew ?_ | with_reducible refine Fr.drewN ?_ _ | with_reducible refine Fr.trans (F' := noF) ?_ (by with_reducible assumption) | fail)); done))); intro ng cap Z hown hgrow hlies hlt; have sz := HQ.out Z (keep_app hgrow (by (focus ((repeat (first | with_reducible assumption | with_reducible exact alloc_new _ _ | ((with_reducible refine alloc_newE ?_); (first | with_reducible rfl | (simp; done))) | with_reducible refine alloc_at ?_ | with_reducible refine drew_at ?_ | with_reducible refine Fr.block (F := noF) (F' := noF) (by with_reducible assumption) ?_ (fun x => x) | fail)); done))) (by have h2 := hgn; (try simp only [World.size_alloc, World.size_drew] at h2); first | omega | (have := htf.size; (try simp only [World.size_alloc, World.size_drew] at this); omega)))) | fail)
      all_goals
        have hfZ : Fr noF noF w Z := fr_app (by (focus ((repeat (first | with_reducible exact Fr.refl _ _ | with_reducible assumption | with_reducible refine Fr.alloc ?_ _ | with_reducible refine Fr.drew ?_ | with_reducible refine Fr.drewN ?_ _ | with_reducible refine Fr.trans (F' := noF) ?_ (by with_reducible assumption) | fail)); done))) hgrow (by have h2 := hgn; (try simp only [World.size_alloc, World.size_drew] at h2); first | omega | (have := htf.size; (try simp only [World.size_alloc, World.size_drew] at this); omega))
        have hOZ : OwnB Z 0 (.slice (some ⟨ng, 0, none⟩) (4 + (l.length + 4)) cap) (verB (IntKind.i32.wrap t) ++ (be4 l.length ++ l)) := owns_len (owns_cat hown) (by simp [be4_length, verB_length]; try omega) rfl
        have HNG := Lib.hid (show w.heap.size ≤ ng from by
          have hl2 : some gg = some ng ∨ ng = _ := hlies
          rcases hl2 with e | e
          · injection e with e; have h2 := hgn; (try simp only [World.size_alloc, World.size_drew] at h2); first | omega | (have := htf.size; (try simp only [World.size_alloc, World.size_drew] at this); omega)
          · subst e; have h3 := htf.size; have h4 := hgf.size; (try simp only [World.size_alloc, World.size_drew] at h3 h4); first | omega | ((try simp only [World.size_alloc, World.size_drew]); omega))
        have HZ := Lib.hid (And.intro hfZ hOZ)
        clear hfZ hOZ hown hgrow hlies hlt
        go_wp2_with fail
        (with_reducible refine (HG4.out _).mono ?_)
        rintro e N ⟨ng4, nc4, rfl, hrn, hfn⟩
        have hON : OwnB N 0 (.slice (some ⟨ng, 0, none⟩) (4 + (l.length + 4)) cap) (verB (IntKind.i32.wrap t) ++ (be4 l.length ++ l)) := owns_fr HZ.out.2 hfn
        have HN := Lib.hid (And.intro (HZ.out.1.trans hfn) (And.intro hON hrn))
        clear hrn hfn hON
        go_wp2_with (at_builtin; refine append_bytes_at rfl _ _ rfl 0 _ _ (verB (IntKind.i32.wrap t) ++ (be4 l.length ++ l)) (be4 n) rfl HN.out.2.1 rfl HN.out.2.2 (by have := HV.out.1; simp [be4_length, verB_length]; omega) (Nat.zero_le _) ?_)
        intro v' w4 hown4 hgrow4 hat4
        obtain ⟨xa, xn, xc, rfl, -⟩ := hown4.rd.len
        have hB4 := HBB.out _ rfl
        rw [if_pos rfl] at hB4
        have hR4 : Rd w4 (.slice xa xn xc) B := by rw [hB4]; simpa [List.append_assoc] using hown4.rd
        have HE4 := Lib.hid (And.intro hR4 (fr_app HN.out.1 hgrow4 (by have := HNG.out; omega)))
        clear hown4 hgrow4 hat4 hB4
        go_wp2_with fail
        go_meet
        exact ⟨_, _, _, rfl, HE4.out.1, HE4.out.2⟩
  case rest =>
    obtain ⟨ba, bn, bc, rfl, hb, hf⟩ := hcut
    have hAc := HA.out.keep hf fun _ _ x => x
    obtain ⟨c7, c9⟩ := hAc.cells
    have f7 := free_at hAc.box 7
    have HX := Lib.hid (And.intro hb (And.intro hf hAc))
    clear hb hf hAc hb0 hf0 hvW hAW
    go_wp2_with (at_builtin; refine append_bytes_at rfl _ _ rfl 0 _ _ s.out B rfl HX.out.2.2.out rfl HX.out.1 (by have h1 := HO.out; have h2 := HLn.out; omega) (Nat.zero_le _) ?_)
    intro v' w4 hown hgrow hat
    obtain ⟨xa, xn, xc, rfl, -⟩ := hown.rd.len
    have HY := Lib.hid (HA.out.wrote HX.out.2.1 hown hgrow hat)
    obtain ⟨hcold, hfr⟩ := HY.out.1
    clear hown hgrow hat c7 c9 f7
    go_wp2
    go_ret
    first
      | exact ⟨rfl, ⟨_, _, HY.out.2.1⟩, HY.out.2.2⟩
      | (refine ⟨rfl, ⟨.slice xa xn xc, uv, ?_⟩, HY.out.2.2⟩; simpa [SSt.add] using HY.out.2.1)
end Go.Proofs.YtdifknecndlklaaGreatDoor
