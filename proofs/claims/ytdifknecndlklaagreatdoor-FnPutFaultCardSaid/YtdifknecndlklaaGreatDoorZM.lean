/- The specification's writer: the begins of maps, lists and sets by the compact protocol. Printed by gen_sfm.py. The specification's writer: the begins of maps, lists and sets by the compact protocol. Printed by gen_sfm.py. The specification's writer: the begins of maps, lists and sets by the compact protocol. Printed by gen_sfm.py. The specification's writer: the begins of maps, lists and sets by the compact protocol. Printed by gen_sfm.py. -/
import Derived.Test.YtdifknecndlklaaGreatDoorZK
import Derived.Test.YtdifknecndlklaaGreatDoorZC
set_option linter.all false
namespace Go.Proofs.YtdifknecndlklaaGreatDoor
open Go Go.RowKit
set_option maxHeartbeats 4000000
set_option maxRecDepth 100000
set_option linter.all false

theorem OwnAt.up {w W : World} {v ov : Value} (h : OwnAt W v ov) (hle : w.heap.size ≤ W.heap.size) : OwnAt w v ov := by
  rcases h with h | ⟨j, hj, hl⟩
  · exact Or.inl h
  · exact Or.inr ⟨j, hj, Nat.le_trans hle hl⟩
theorem CBox.new {p : Nat} {c : ConfV} {w W : World} {s : SSt} {ov uv : Value} {cs : Array Value} (h : CBox p c w s ov uv cs W) {v : Value} (hv : ∀ k, vblk v k → W.heap.size ≤ k) : ∀ k, vblk v k → ov.ownBlock ≠ some k := fun k hk e => by
  obtain ⟨cur, hc⟩ := owns_block (h.own (Fr.refl noF W)) e
  have := lt_heap hc
  have := hv k hk
  omega

end Go.Proofs.YtdifknecndlklaaGreatDoor
namespace Go.Proofs.YtdifknecndlklaaGreatDoor
open Go Go.RowKit
set_option maxHeartbeats 4000000
set_option maxRecDepth 100000
set_option linter.all false


theorem S_m7neg (p : Nat) (c : ConfV) (w : World) (s : SSt) (t k sz id n : Int) (v : Value) (l : List UInt8) (hv : Rd w v l) (hb : ∀ k, vblk v k → ¬ SwF p w k) (hl : l.length ≤ 1000000) (h : SwI p c w s) (hok : s.okS) (hout : s.out.length ≤ 10000000000) (h1 : sz < 0) :
    Calls Tryz.prog 104 #[.pointer (some ⟨p, 0, none⟩), .agg (stepA 7 t k sz id n v)] w (SR p c w (-2) s) := by
  obtain ⟨ov, uv, hA⟩ := h
  obtain ⟨va, vn, vc, rfl, hvn⟩ := hv.len
  have hC := CBox.start hA (stepA 7 t k sz id n (.slice va vn vc))
  obtain ⟨W, hW⟩ : ∃ W, W = w.alloc (.cells (stepA 7 t k sz id n (.slice va vn vc)) 239 (0, 0)) := ⟨_, rfl⟩
  have HW := Lib.hid hW
  rw [← hW] at hC
  obtain ⟨ct, hcte⟩ : ∃ ct, ct = ctype (t % 256) := ⟨_, rfl⟩
  obtain ⟨ck, hcke⟩ : ∃ ck, ck = ctype (k % 256) := ⟨_, rfl⟩
  have HD := Lib.hid (show ∀ X, Calls Tryz.prog 106 #[.int .i64 t] X (fun e w' => e = .returned (.int .u8 ct) ∧ X = w') from fun X => by rw [hcte]; exact S_code t X)
  have HE := Lib.hid (show ∀ X, Calls Tryz.prog 106 #[.int .i64 k] X (fun e w' => e = .returned (.int .u8 ck) ∧ X = w') from fun X => by rw [hcke]; exact S_code k X)
  have ct0 : 0 ≤ ct := by rw [hcte]; exact ctype_lo _
  have ct1 : ct ≤ 13 := by rw [hcte]; exact ctype_hi _
  have ck0 : 0 ≤ ck := by rw [hcke]; exact ctype_lo _
  have ck1 : ck ≤ 13 := by rw [hcke]; exact ctype_hi _
  obtain ⟨aP, aB, -, aF⟩ := hC.at (Grew.start ov (Fr.refl noF W))
  have ab0 := aB 0
  have ab1 := aB 1
  have ab2 := aB 2
  have ab3 := aB 3
  simp only [List.getElem?_toArray, List.getElem?_cons_zero, List.getElem?_cons_succ, List.size_toArray] at ab0 ab1 ab2 ab3
  clear aP aB
  have d := fun i => (hC.at (Grew.start ov (Fr.refl noF W).drew)).2.1 i
  have d0 := d 0
  have d1 := d 1
  have d2 := d 2
  have d3 := d 3
  simp only [List.getElem?_toArray, List.getElem?_cons_zero, List.getElem?_cons_succ, List.size_toArray] at d0 d1 d2 d3
  clear d
  have HC := Lib.hid hC
  have HS := Lib.hid (show SwI p c w s from ⟨_, _, hA⟩)
  clear hC hA hW hv hb hl hout hok hvn aF hcte hcke  
  go_enter Tryz.func104, Tryz.ntmps104
  go_upto_region 1 with fail
  rw [← HW.out]
  go_region_law (first | (go_simp; go_at_call 106; (with_reducible refine (HD.out _).mono ?_); rintro e w' ⟨rfl, rfl⟩) | (go_simp; go_at_call 106; (with_reducible refine (HE.out _).mono ?_); rintro e w' ⟨rfl, rfl⟩) | fail)
  all_goals have HX := Lib.hid (SR.under (k := -2) HS.out (HC.out.fr.trans ((Fr.refl noF W).drew)) (SR.self (SwI.quiet HS.out (HC.out.fr.trans ((Fr.refl noF W).drew))).1 (-2)))
  all_goals go_wp2
  all_goals go_ret
  all_goals exact HX.out

theorem S_m7big (p : Nat) (c : ConfV) (w : World) (s : SSt) (t k sz id n : Int) (v : Value) (l : List UInt8) (hv : Rd w v l) (hb : ∀ k, vblk v k → ¬ SwF p w k) (hl : l.length ≤ 1000000) (h : SwI p c w s) (hok : s.okS) (hout : s.out.length ≤ 10000000000) (h1 : 2147483647 < sz) :
    Calls Tryz.prog 104 #[.pointer (some ⟨p, 0, none⟩), .agg (stepA 7 t k sz id n v)] w (SR p c w (-2) s) := by
  obtain ⟨ov, uv, hA⟩ := h
  obtain ⟨va, vn, vc, rfl, hvn⟩ := hv.len
  have hC := CBox.start hA (stepA 7 t k sz id n (.slice va vn vc))
  obtain ⟨W, hW⟩ : ∃ W, W = w.alloc (.cells (stepA 7 t k sz id n (.slice va vn vc)) 239 (0, 0)) := ⟨_, rfl⟩
  have HW := Lib.hid hW
  rw [← hW] at hC
  obtain ⟨ct, hcte⟩ : ∃ ct, ct = ctype (t % 256) := ⟨_, rfl⟩
  obtain ⟨ck, hcke⟩ : ∃ ck, ck = ctype (k % 256) := ⟨_, rfl⟩
  have HD := Lib.hid (show ∀ X, Calls Tryz.prog 106 #[.int .i64 t] X (fun e w' => e = .returned (.int .u8 ct) ∧ X = w') from fun X => by rw [hcte]; exact S_code t X)
  have HE := Lib.hid (show ∀ X, Calls Tryz.prog 106 #[.int .i64 k] X (fun e w' => e = .returned (.int .u8 ck) ∧ X = w') from fun X => by rw [hcke]; exact S_code k X)
  have ct0 : 0 ≤ ct := by rw [hcte]; exact ctype_lo _
  have ct1 : ct ≤ 13 := by rw [hcte]; exact ctype_hi _
  have ck0 : 0 ≤ ck := by rw [hcke]; exact ctype_lo _
  have ck1 : ck ≤ 13 := by rw [hcke]; exact ctype_hi _
  obtain ⟨aP, aB, -, aF⟩ := hC.at (Grew.start ov (Fr.refl noF W))
  have ab0 := aB 0
  have ab1 := aB 1
  have ab2 := aB 2
  have ab3 := aB 3
  simp only [List.getElem?_toArray, List.getElem?_cons_zero, List.getElem?_cons_succ, List.size_toArray] at ab0 ab1 ab2 ab3
  clear aP aB
  have d := fun i => (hC.at (Grew.start ov (Fr.refl noF W).drew)).2.1 i
  have d0 := d 0
  have d1 := d 1
  have d2 := d 2
  have d3 := d 3
  simp only [List.getElem?_toArray, List.getElem?_cons_zero, List.getElem?_cons_succ, List.size_toArray] at d0 d1 d2 d3
  clear d
  have HC := Lib.hid hC
  have HS := Lib.hid (show SwI p c w s from ⟨_, _, hA⟩)
  clear hC hA hW hv hb hl hout hok hvn aF hcte hcke  
  have h2 : ¬ sz < 0 := by omega
  have h3 : sz > 2147483647 := h1
  go_enter Tryz.func104, Tryz.ntmps104
  go_upto_region 1 with fail
  rw [← HW.out]
  go_region_law (first | (go_simp; go_at_call 106; (with_reducible refine (HD.out _).mono ?_); rintro e w' ⟨rfl, rfl⟩) | (go_simp; go_at_call 106; (with_reducible refine (HE.out _).mono ?_); rintro e w' ⟨rfl, rfl⟩) | fail)
  all_goals have HX := Lib.hid (SR.under (k := -2) HS.out (HC.out.fr.trans ((Fr.refl noF W).drew)) (SR.self (SwI.quiet HS.out (HC.out.fr.trans ((Fr.refl noF W).drew))).1 (-2)))
  all_goals go_wp2
  all_goals go_ret
  all_goals exact HX.out

theorem S_m7zero (p : Nat) (c : ConfV) (w : World) (s : SSt) (t k sz id n : Int) (v : Value) (l : List UInt8) (hv : Rd w v l) (hb : ∀ k, vblk v k → ¬ SwF p w k) (hl : l.length ≤ 1000000) (h : SwI p c w s) (hok : s.okS) (hout : s.out.length ≤ 10000000000) (h1 : sz = 0) :
    Calls Tryz.prog 104 #[.pointer (some ⟨p, 0, none⟩), .agg (stepA 7 t k sz id n v)] w (SR p c w 0 ({ s with out := s.out ++ ([0]) })) := by
  obtain ⟨ov, uv, hA⟩ := h
  obtain ⟨va, vn, vc, rfl, hvn⟩ := hv.len
  have hC := CBox.start hA (stepA 7 t k sz id n (.slice va vn vc))
  obtain ⟨W, hW⟩ : ∃ W, W = w.alloc (.cells (stepA 7 t k sz id n (.slice va vn vc)) 239 (0, 0)) := ⟨_, rfl⟩
  have HW := Lib.hid hW
  rw [← hW] at hC
  obtain ⟨ct, hcte⟩ : ∃ ct, ct = ctype (t % 256) := ⟨_, rfl⟩
  obtain ⟨ck, hcke⟩ : ∃ ck, ck = ctype (k % 256) := ⟨_, rfl⟩
  have HD := Lib.hid (show ∀ X, Calls Tryz.prog 106 #[.int .i64 t] X (fun e w' => e = .returned (.int .u8 ct) ∧ X = w') from fun X => by rw [hcte]; exact S_code t X)
  have HE := Lib.hid (show ∀ X, Calls Tryz.prog 106 #[.int .i64 k] X (fun e w' => e = .returned (.int .u8 ck) ∧ X = w') from fun X => by rw [hcke]; exact S_code k X)
  have ct0 : 0 ≤ ct := by rw [hcte]; exact ctype_lo _
  have ct1 : ct ≤ 13 := by rw [hcte]; exact ctype_hi _
  have ck0 : 0 ≤ ck := by rw [hcke]; exact ctype_lo _
  have ck1 : ck ≤ 13 := by rw [hcke]; exact ctype_hi _
  subst h1
  have HV := Lib.hid (show ∀ X, Calls Tryz.prog 101 #[.int .u64 0] X (NewR (vint 0) X) from fun X => S_varint 0 (by decide) X)
  have hvl := vint32_le 0 (by decide)
  have hbb : (0 : Int) = (((0 : UInt8)).toNat : Int) := by decide
  have HL := Lib.hid (And.intro hout hvl)
  obtain ⟨aP, aB, -, aF⟩ := hC.at (Grew.start ov (Fr.refl noF W))
  have ab0 := aB 0
  have ab1 := aB 1
  have ab2 := aB 2
  have ab3 := aB 3
  simp only [List.getElem?_toArray, List.getElem?_cons_zero, List.getElem?_cons_succ, List.size_toArray] at ab0 ab1 ab2 ab3
  clear aP aB
  have d := fun i => (hC.at (Grew.start ov (Fr.refl noF W).drew)).2.1 i
  have d0 := d 0
  have d1 := d 1
  have d2 := d 2
  have d3 := d 3
  simp only [List.getElem?_toArray, List.getElem?_cons_zero, List.getElem?_cons_succ, List.size_toArray] at d0 d1 d2 d3
  clear d
  have HC := Lib.hid hC
  have HS := Lib.hid (show SwI p c w s from ⟨_, _, hA⟩)
  have HBB := Lib.hid hbb
  clear hC hA hW hv hb hl hout hok hvn aF hcte hcke  
  clear hvl hbb
  go_enter Tryz.func104, Tryz.ntmps104
  go_upto_region 1 with fail
  rw [← HW.out]
  go_region_law (first | (go_simp; go_at_call 106; (with_reducible refine (HD.out _).mono ?_); rintro e w' ⟨rfl, rfl⟩) | (go_simp; go_at_call 106; (with_reducible refine (HE.out _).mono ?_); rintro e w' ⟨rfl, rfl⟩) | fail)
  all_goals go_wp2_with fail
  all_goals (with_reducible refine (HV.out _).mono ?_)
  all_goals rintro e Y ⟨yv, rfl, hyo, hyf⟩
  all_goals obtain ⟨ya, yn, yc, rfl, -⟩ := hyo.rd.len
  all_goals have HYN := Lib.hid (HC.out.new hyo.blk)
  all_goals have HYF := Lib.hid (And.intro (((Fr.refl noF W).drew).trans hyf) hyo.rd)
  all_goals clear hyo hyf ab0 ab1 ab2 ab3 d0 d1 d2 d3
  all_goals have yp7 : Y.cell? ⟨p, 7, none⟩ = some ov := (HC.out.at (Grew.start ov HYF.out.1)).1 7
  all_goals have yb0 : Y.cell? ⟨w.heap.size, 0, none⟩ = some (.int .i64 7) := (HC.out.at (Grew.start ov HYF.out.1)).2.1 0
  all_goals have yb3 : Y.cell? ⟨w.heap.size, 3, none⟩ = some (.int .i64 0) := (HC.out.at (Grew.start ov HYF.out.1)).2.1 3
  all_goals
    have HX1 := Lib.hid (And.intro ((Fr.refl noF Y).alloc (.cells #[.int .u8 (0)] U8 (0, 0))) (own_byte (u := 0) HBB.out (alloc_new Y (.cells #[.int .u8 (0)] U8 (0, 0)))))
    have rp7 : (Y.alloc (.cells #[.int .u8 (0)] U8 (0, 0))).cell? ⟨p, 7, none⟩ = some ov := (HC.out.at (Grew.start ov (HYF.out.1.trans HX1.out.1))).1 7
    go_wp2_with (at_builtin; refine append_bytes_at rfl _ _ rfl 0 ov (.slice (some ⟨Y.heap.size, 0, none⟩) 1 1) s.out [0] rfl (HC.out.own (HYF.out.1.trans HX1.out.1)) rfl HX1.out.2 (by have := HL.out; simp only [List.length_singleton]; omega) (Nat.zero_le _) ?_)
    intro v' Z ho hg hat
    obtain ⟨za, zn, zc, rfl, -⟩ := ho.rd.len
    have hzG : Grew W Z ov := Grew.more (Grew.start ov (HYF.out.1.trans HX1.out.1)) (OwnAt.refl W ov) hg
    have hzA : OwnAt w (.slice za zn zc) ov := (OwnAt.refl w ov).nextN (Nat.le_trans HC.out.le (Nat.le_trans HYF.out.1.size (Nat.le_succ _))) hat
    have zp7 : Z.cell? ⟨p, 7, none⟩ = some ov := (HC.out.at hzG).1 7
    have zf7 := (HC.out.at hzG).2.2.2 7
    have HX := Lib.hid (HC.out.fin hzG ho hzA)
    clear ho hg hat hzG hzA yp7 yb0 yb3
    go_wp2
    go_ret
    exact HX.out

theorem S_m7ct0 (p : Nat) (c : ConfV) (w : World) (s : SSt) (t k sz id n : Int) (v : Value) (l : List UInt8) (hv : Rd w v l) (hb : ∀ k, vblk v k → ¬ SwF p w k) (hl : l.length ≤ 1000000) (h : SwI p c w s) (hok : s.okS) (hout : s.out.length ≤ 10000000000) (h1 : 0 ≤ sz) (h2 : sz ≤ 2147483647) (hct : ctype (t % 256) = 0) (h3 : sz ≠ 0) :
    Calls Tryz.prog 104 #[.pointer (some ⟨p, 0, none⟩), .agg (stepA 7 t k sz id n v)] w (SR p c w (-2) s) := by
  obtain ⟨ov, uv, hA⟩ := h
  obtain ⟨va, vn, vc, rfl, hvn⟩ := hv.len
  have hC := CBox.start hA (stepA 7 t k sz id n (.slice va vn vc))
  obtain ⟨W, hW⟩ : ∃ W, W = w.alloc (.cells (stepA 7 t k sz id n (.slice va vn vc)) 239 (0, 0)) := ⟨_, rfl⟩
  have HW := Lib.hid hW
  rw [← hW] at hC
  obtain ⟨ct, hcte⟩ : ∃ ct, ct = ctype (t % 256) := ⟨_, rfl⟩
  obtain ⟨ck, hcke⟩ : ∃ ck, ck = ctype (k % 256) := ⟨_, rfl⟩
  have HD := Lib.hid (show ∀ X, Calls Tryz.prog 106 #[.int .i64 t] X (fun e w' => e = .returned (.int .u8 ct) ∧ X = w') from fun X => by rw [hcte]; exact S_code t X)
  have HE := Lib.hid (show ∀ X, Calls Tryz.prog 106 #[.int .i64 k] X (fun e w' => e = .returned (.int .u8 ck) ∧ X = w') from fun X => by rw [hcke]; exact S_code k X)
  have ct0 : 0 ≤ ct := by rw [hcte]; exact ctype_lo _
  have ct1 : ct ≤ 13 := by rw [hcte]; exact ctype_hi _
  have ck0 : 0 ≤ ck := by rw [hcke]; exact ctype_lo _
  have ck1 : ck ≤ 13 := by rw [hcke]; exact ctype_hi _
  rw [← hcte] at hct
  have g1 : ¬ sz < 0 := by omega
  have g2 : ¬ sz > 2147483647 := by omega
  have hwu : IntKind.u64.wrap sz = sz := by rw [IntKind.wrap_u64]; omega
  have hszn : ((sz.toNat : Nat) : Int) = sz := by omega
  have HV := Lib.hid (show ∀ X, Calls Tryz.prog 101 #[.int .u64 sz] X (NewR (vint sz.toNat) X) from fun X => by have := S_varint sz.toNat (by omega) X; rwa [hszn] at this)
  have hvl := vint32_le sz.toNat (by omega)
  have g3 : (sz == 0) = false := beq_eq_false_iff_ne.2 h3
  have g4 : (ct == 0) = true := by rw [hct]; rfl
  have HL := Lib.hid (And.intro hout hvl)
  obtain ⟨aP, aB, -, aF⟩ := hC.at (Grew.start ov (Fr.refl noF W))
  have ab0 := aB 0
  have ab1 := aB 1
  have ab2 := aB 2
  have ab3 := aB 3
  simp only [List.getElem?_toArray, List.getElem?_cons_zero, List.getElem?_cons_succ, List.size_toArray] at ab0 ab1 ab2 ab3
  clear aP aB
  have d := fun i => (hC.at (Grew.start ov (Fr.refl noF W).drew)).2.1 i
  have d0 := d 0
  have d1 := d 1
  have d2 := d 2
  have d3 := d 3
  simp only [List.getElem?_toArray, List.getElem?_cons_zero, List.getElem?_cons_succ, List.size_toArray] at d0 d1 d2 d3
  clear d
  have HC := Lib.hid hC
  have HS := Lib.hid (show SwI p c w s from ⟨_, _, hA⟩)
  clear hC hA hW hv hb hl hout hok hvn aF hcte hcke hszn  h1 h2 hct h3
  clear hvl
  go_enter Tryz.func104, Tryz.ntmps104
  go_upto_region 1 with fail
  rw [← HW.out]
  go_region_law (first | (go_simp; go_at_call 106; (with_reducible refine (HD.out _).mono ?_); rintro e w' ⟨rfl, rfl⟩) | (go_simp; go_at_call 106; (with_reducible refine (HE.out _).mono ?_); rintro e w' ⟨rfl, rfl⟩) | fail)
  all_goals go_wp2_with fail
  all_goals (with_reducible refine (HV.out _).mono ?_)
  all_goals rintro e Y ⟨yv, rfl, hyo, hyf⟩
  all_goals obtain ⟨ya, yn, yc, rfl, -⟩ := hyo.rd.len
  all_goals have HYN := Lib.hid (HC.out.new hyo.blk)
  all_goals have HYF := Lib.hid (And.intro (((Fr.refl noF W).drew).trans hyf) hyo.rd)
  all_goals clear hyo hyf ab0 ab1 ab2 ab3 d0 d1 d2 d3
  all_goals have yp7 : Y.cell? ⟨p, 7, none⟩ = some ov := (HC.out.at (Grew.start ov HYF.out.1)).1 7
  all_goals have yb0 : Y.cell? ⟨w.heap.size, 0, none⟩ = some (.int .i64 7) := (HC.out.at (Grew.start ov HYF.out.1)).2.1 0
  all_goals have yb3 : Y.cell? ⟨w.heap.size, 3, none⟩ = some (.int .i64 sz) := (HC.out.at (Grew.start ov HYF.out.1)).2.1 3
  all_goals have HX := Lib.hid (SR.under (k := -2) HS.out (HC.out.fr.trans HYF.out.1) (SR.self (SwI.quiet HS.out (HC.out.fr.trans HYF.out.1)).1 (-2)))
  all_goals go_wp2
  all_goals go_ret
  all_goals exact HX.out

theorem S_m7ck0 (p : Nat) (c : ConfV) (w : World) (s : SSt) (t k sz id n : Int) (v : Value) (l : List UInt8) (hv : Rd w v l) (hb : ∀ k, vblk v k → ¬ SwF p w k) (hl : l.length ≤ 1000000) (h : SwI p c w s) (hok : s.okS) (hout : s.out.length ≤ 10000000000) (h1 : 0 ≤ sz) (h2 : sz ≤ 2147483647) (h3 : sz ≠ 0) (hct : ctype (t % 256) ≠ 0) (hck : ctype (k % 256) = 0) :
    Calls Tryz.prog 104 #[.pointer (some ⟨p, 0, none⟩), .agg (stepA 7 t k sz id n v)] w (SR p c w (-2) s) := by
  obtain ⟨ov, uv, hA⟩ := h
  obtain ⟨va, vn, vc, rfl, hvn⟩ := hv.len
  have hC := CBox.start hA (stepA 7 t k sz id n (.slice va vn vc))
  obtain ⟨W, hW⟩ : ∃ W, W = w.alloc (.cells (stepA 7 t k sz id n (.slice va vn vc)) 239 (0, 0)) := ⟨_, rfl⟩
  have HW := Lib.hid hW
  rw [← hW] at hC
  obtain ⟨ct, hcte⟩ : ∃ ct, ct = ctype (t % 256) := ⟨_, rfl⟩
  obtain ⟨ck, hcke⟩ : ∃ ck, ck = ctype (k % 256) := ⟨_, rfl⟩
  have HD := Lib.hid (show ∀ X, Calls Tryz.prog 106 #[.int .i64 t] X (fun e w' => e = .returned (.int .u8 ct) ∧ X = w') from fun X => by rw [hcte]; exact S_code t X)
  have HE := Lib.hid (show ∀ X, Calls Tryz.prog 106 #[.int .i64 k] X (fun e w' => e = .returned (.int .u8 ck) ∧ X = w') from fun X => by rw [hcke]; exact S_code k X)
  have ct0 : 0 ≤ ct := by rw [hcte]; exact ctype_lo _
  have ct1 : ct ≤ 13 := by rw [hcte]; exact ctype_hi _
  have ck0 : 0 ≤ ck := by rw [hcke]; exact ctype_lo _
  have ck1 : ck ≤ 13 := by rw [hcke]; exact ctype_hi _
  rw [← hcte] at hct
  rw [← hcke] at hck
  have g1 : ¬ sz < 0 := by omega
  have g2 : ¬ sz > 2147483647 := by omega
  have hwu : IntKind.u64.wrap sz = sz := by rw [IntKind.wrap_u64]; omega
  have hszn : ((sz.toNat : Nat) : Int) = sz := by omega
  have HV := Lib.hid (show ∀ X, Calls Tryz.prog 101 #[.int .u64 sz] X (NewR (vint sz.toNat) X) from fun X => by have := S_varint sz.toNat (by omega) X; rwa [hszn] at this)
  have hvl := vint32_le sz.toNat (by omega)
  have g3 : (sz == 0) = false := beq_eq_false_iff_ne.2 h3
  have g4 : (ct == 0) = false := beq_eq_false_iff_ne.2 hct
  have g5 : (ck == 0) = true := by rw [hck]; rfl
  have HL := Lib.hid (And.intro hout hvl)
  obtain ⟨aP, aB, -, aF⟩ := hC.at (Grew.start ov (Fr.refl noF W))
  have ab0 := aB 0
  have ab1 := aB 1
  have ab2 := aB 2
  have ab3 := aB 3
  simp only [List.getElem?_toArray, List.getElem?_cons_zero, List.getElem?_cons_succ, List.size_toArray] at ab0 ab1 ab2 ab3
  clear aP aB
  have d := fun i => (hC.at (Grew.start ov (Fr.refl noF W).drew)).2.1 i
  have d0 := d 0
  have d1 := d 1
  have d2 := d 2
  have d3 := d 3
  simp only [List.getElem?_toArray, List.getElem?_cons_zero, List.getElem?_cons_succ, List.size_toArray] at d0 d1 d2 d3
  clear d
  have HC := Lib.hid hC
  have HS := Lib.hid (show SwI p c w s from ⟨_, _, hA⟩)
  clear hC hA hW hv hb hl hout hok hvn aF hcte hcke hszn  h1 h2 h3 hct hck
  clear hvl
  go_enter Tryz.func104, Tryz.ntmps104
  go_upto_region 1 with fail
  rw [← HW.out]
  go_region_law (first | (go_simp; go_at_call 106; (with_reducible refine (HD.out _).mono ?_); rintro e w' ⟨rfl, rfl⟩) | (go_simp; go_at_call 106; (with_reducible refine (HE.out _).mono ?_); rintro e w' ⟨rfl, rfl⟩) | fail)
  all_goals go_wp2_with fail
  all_goals (with_reducible refine (HV.out _).mono ?_)
  all_goals rintro e Y ⟨yv, rfl, hyo, hyf⟩
  all_goals obtain ⟨ya, yn, yc, rfl, -⟩ := hyo.rd.len
  all_goals have HYN := Lib.hid (HC.out.new hyo.blk)
  all_goals have HYF := Lib.hid (And.intro (((Fr.refl noF W).drew).trans hyf) hyo.rd)
  all_goals clear hyo hyf ab0 ab1 ab2 ab3 d0 d1 d2 d3
  all_goals have yp7 : Y.cell? ⟨p, 7, none⟩ = some ov := (HC.out.at (Grew.start ov HYF.out.1)).1 7
  all_goals have yb0 : Y.cell? ⟨w.heap.size, 0, none⟩ = some (.int .i64 7) := (HC.out.at (Grew.start ov HYF.out.1)).2.1 0
  all_goals have yb3 : Y.cell? ⟨w.heap.size, 3, none⟩ = some (.int .i64 sz) := (HC.out.at (Grew.start ov HYF.out.1)).2.1 3
  all_goals have HX := Lib.hid (SR.under (k := -2) HS.out (HC.out.fr.trans HYF.out.1) (SR.self (SwI.quiet HS.out (HC.out.fr.trans HYF.out.1)).1 (-2)))
  all_goals go_wp2
  all_goals go_ret
  all_goals exact HX.out

theorem S_m7map (p : Nat) (c : ConfV) (w : World) (s : SSt) (t k sz id n : Int) (v : Value) (l : List UInt8) (hv : Rd w v l) (hb : ∀ k, vblk v k → ¬ SwF p w k) (hl : l.length ≤ 1000000) (h : SwI p c w s) (hok : s.okS) (hout : s.out.length ≤ 10000000000) (h1 : 0 ≤ sz) (h2 : sz ≤ 2147483647) (h3 : sz ≠ 0) (hct : ctype (t % 256) ≠ 0) (hck : ctype (k % 256) ≠ 0) :
    Calls Tryz.prog 104 #[.pointer (some ⟨p, 0, none⟩), .agg (stepA 7 t k sz id n v)] w (SR p c w 0 ({ s with out := s.out ++ (vint sz.toNat ++ [b8 (ctype (k % 256) * 16 + ctype (t % 256))]) })) := by
  obtain ⟨ov, uv, hA⟩ := h
  obtain ⟨va, vn, vc, rfl, hvn⟩ := hv.len
  have hC := CBox.start hA (stepA 7 t k sz id n (.slice va vn vc))
  obtain ⟨W, hW⟩ : ∃ W, W = w.alloc (.cells (stepA 7 t k sz id n (.slice va vn vc)) 239 (0, 0)) := ⟨_, rfl⟩
  have HW := Lib.hid hW
  rw [← hW] at hC
  obtain ⟨ct, hcte⟩ : ∃ ct, ct = ctype (t % 256) := ⟨_, rfl⟩
  obtain ⟨ck, hcke⟩ : ∃ ck, ck = ctype (k % 256) := ⟨_, rfl⟩
  have HD := Lib.hid (show ∀ X, Calls Tryz.prog 106 #[.int .i64 t] X (fun e w' => e = .returned (.int .u8 ct) ∧ X = w') from fun X => by rw [hcte]; exact S_code t X)
  have HE := Lib.hid (show ∀ X, Calls Tryz.prog 106 #[.int .i64 k] X (fun e w' => e = .returned (.int .u8 ck) ∧ X = w') from fun X => by rw [hcke]; exact S_code k X)
  have ct0 : 0 ≤ ct := by rw [hcte]; exact ctype_lo _
  have ct1 : ct ≤ 13 := by rw [hcte]; exact ctype_hi _
  have ck0 : 0 ≤ ck := by rw [hcke]; exact ctype_lo _
  have ck1 : ck ≤ 13 := by rw [hcke]; exact ctype_hi _
  rw [← hcte] at hct
  rw [← hcke] at hck
  rw [← hcte]
  rw [← hcke]
  have g1 : ¬ sz < 0 := by omega
  have g2 : ¬ sz > 2147483647 := by omega
  have hwu : IntKind.u64.wrap sz = sz := by rw [IntKind.wrap_u64]; omega
  have hszn : ((sz.toNat : Nat) : Int) = sz := by omega
  have HV := Lib.hid (show ∀ X, Calls Tryz.prog 101 #[.int .u64 sz] X (NewR (vint sz.toNat) X) from fun X => by have := S_varint sz.toNat (by omega) X; rwa [hszn] at this)
  have hvl := vint32_le sz.toNat (by omega)
  have g3 : (sz == 0) = false := beq_eq_false_iff_ne.2 h3
  have g4 : (ct == 0) = false := beq_eq_false_iff_ne.2 hct
  have g5 : (ck == 0) = false := beq_eq_false_iff_ne.2 hck
  have hor := or_u8 ck ct (by omega) (by omega) (by omega) (by omega)
  have hm : ck * 16 % 256 = ck * 16 := by omega
  have hbb : ck * 16 + ct = ((b8 (ck * 16 + ct)).toNat : Int) := (b8_nat _ (by omega) (by omega)).symm
  have HL := Lib.hid (And.intro hout hvl)
  obtain ⟨aP, aB, -, aF⟩ := hC.at (Grew.start ov (Fr.refl noF W))
  have ab0 := aB 0
  have ab1 := aB 1
  have ab2 := aB 2
  have ab3 := aB 3
  simp only [List.getElem?_toArray, List.getElem?_cons_zero, List.getElem?_cons_succ, List.size_toArray] at ab0 ab1 ab2 ab3
  clear aP aB
  have d := fun i => (hC.at (Grew.start ov (Fr.refl noF W).drew)).2.1 i
  have d0 := d 0
  have d1 := d 1
  have d2 := d 2
  have d3 := d 3
  simp only [List.getElem?_toArray, List.getElem?_cons_zero, List.getElem?_cons_succ, List.size_toArray] at d0 d1 d2 d3
  clear d
  have HC := Lib.hid hC
  have HS := Lib.hid (show SwI p c w s from ⟨_, _, hA⟩)
  have HBB := Lib.hid hbb
  clear hC hA hW hv hb hl hout hok hvn aF hcte hcke hszn  h1 h2 h3 hct hck
  clear hvl hbb
  go_enter Tryz.func104, Tryz.ntmps104
  go_upto_region 1 with fail
  rw [← HW.out]
  go_region_law (first | (go_simp; go_at_call 106; (with_reducible refine (HD.out _).mono ?_); rintro e w' ⟨rfl, rfl⟩) | (go_simp; go_at_call 106; (with_reducible refine (HE.out _).mono ?_); rintro e w' ⟨rfl, rfl⟩) | fail)
  all_goals go_wp2_with fail
  all_goals (with_reducible refine (HV.out _).mono ?_)
  all_goals rintro e Y ⟨yv, rfl, hyo, hyf⟩
  all_goals obtain ⟨ya, yn, yc, rfl, -⟩ := hyo.rd.len
  all_goals have HYN := Lib.hid (HC.out.new hyo.blk)
  all_goals have HYF := Lib.hid (And.intro (((Fr.refl noF W).drew).trans hyf) hyo.rd)
  all_goals clear hyo hyf ab0 ab1 ab2 ab3 d0 d1 d2 d3
  all_goals have yp7 : Y.cell? ⟨p, 7, none⟩ = some ov := (HC.out.at (Grew.start ov HYF.out.1)).1 7
  all_goals have yb0 : Y.cell? ⟨w.heap.size, 0, none⟩ = some (.int .i64 7) := (HC.out.at (Grew.start ov HYF.out.1)).2.1 0
  all_goals have yb3 : Y.cell? ⟨w.heap.size, 3, none⟩ = some (.int .i64 sz) := (HC.out.at (Grew.start ov HYF.out.1)).2.1 3
  all_goals
    go_wp2_with (at_builtin; refine append_bytes_at rfl _ _ rfl 0 ov (.slice ya yn yc) s.out (vint sz.toNat) rfl (HC.out.own HYF.out.1) rfl HYF.out.2 (by have := HL.out; omega) (Nat.zero_le _) ?_)
    intro v' Z1 ho hg hat
    obtain ⟨va1, vn1, vc1, rfl, -⟩ := ho.rd.len
    have HZ1 := Lib.hid (And.intro ho (And.intro (Grew.more (Grew.start ov HYF.out.1) (OwnAt.refl W ov) hg) ((OwnAt.refl W ov).next HYF.out.1.size hat)))
    clear ho hg hat
    have HX1 := Lib.hid (And.intro ((Fr.refl noF Z1).alloc (.cells #[.int .u8 (ck * 16 + ct)] U8 (0, 0))) (own_byte (u := b8 (ck * 16 + ct)) HBB.out (alloc_new Z1 (.cells #[.int .u8 (ck * 16 + ct)] U8 (0, 0)))))
    go_wp2_with (at_builtin; refine append_bytes_at rfl _ _ rfl 0 (.slice va1 vn1 vc1) (.slice (some ⟨Z1.heap.size, 0, none⟩) 1 1) (s.out ++ vint sz.toNat) [b8 (ck * 16 + ct)] rfl (owns_fr HZ1.out.1 HX1.out.1) rfl HX1.out.2 (by have := HL.out; simp only [List.length_singleton, List.length_append]; omega) (Nat.zero_le _) ?_)
    intro v' Z ho hg hat
    obtain ⟨za, zn, zc, rfl, -⟩ := ho.rd.len
    have hzG : Grew W Z ov := (HZ1.out.2.1.fr HX1.out.1).more HZ1.out.2.2 hg
    have hzA : OwnAt w (.slice za zn zc) ov := (HZ1.out.2.2.nextN (Nat.le_trans HZ1.out.2.1.size (Nat.le_succ _)) hat).up HC.out.le
    have zp7 : Z.cell? ⟨p, 7, none⟩ = some ov := (HC.out.at hzG).1 7
    have zf7 := (HC.out.at hzG).2.2.2 7
    have HX := Lib.hid (HC.out.fin hzG ho hzA)
    clear ho hg hat hzG hzA yp7 yb0 yb3
    go_wp2
    go_ret
    exact HX.out

end Go.Proofs.YtdifknecndlklaaGreatDoor
namespace Go.Proofs.YtdifknecndlklaaGreatDoor
open Go Go.RowKit
set_option maxHeartbeats 4000000
set_option maxRecDepth 100000
set_option linter.all false


theorem S_m9neg (p : Nat) (c : ConfV) (w : World) (s : SSt) (t k sz id n : Int) (v : Value) (l : List UInt8) (hv : Rd w v l) (hb : ∀ k, vblk v k → ¬ SwF p w k) (hl : l.length ≤ 1000000) (h : SwI p c w s) (hok : s.okS) (hout : s.out.length ≤ 10000000000) (h1 : sz < 0) :
    Calls Tryz.prog 104 #[.pointer (some ⟨p, 0, none⟩), .agg (stepA 9 t k sz id n v)] w (SR p c w (-2) s) := by
  obtain ⟨ov, uv, hA⟩ := h
  obtain ⟨va, vn, vc, rfl, hvn⟩ := hv.len
  have hC := CBox.start hA (stepA 9 t k sz id n (.slice va vn vc))
  obtain ⟨W, hW⟩ : ∃ W, W = w.alloc (.cells (stepA 9 t k sz id n (.slice va vn vc)) 239 (0, 0)) := ⟨_, rfl⟩
  have HW := Lib.hid hW
  rw [← hW] at hC
  obtain ⟨ct, hcte⟩ : ∃ ct, ct = ctype (t % 256) := ⟨_, rfl⟩
  obtain ⟨ck, hcke⟩ : ∃ ck, ck = ctype (k % 256) := ⟨_, rfl⟩
  have HD := Lib.hid (show ∀ X, Calls Tryz.prog 106 #[.int .i64 t] X (fun e w' => e = .returned (.int .u8 ct) ∧ X = w') from fun X => by rw [hcte]; exact S_code t X)
  have HE := Lib.hid (show ∀ X, Calls Tryz.prog 106 #[.int .i64 k] X (fun e w' => e = .returned (.int .u8 ck) ∧ X = w') from fun X => by rw [hcke]; exact S_code k X)
  have ct0 : 0 ≤ ct := by rw [hcte]; exact ctype_lo _
  have ct1 : ct ≤ 13 := by rw [hcte]; exact ctype_hi _
  have ck0 : 0 ≤ ck := by rw [hcke]; exact ctype_lo _
  have ck1 : ck ≤ 13 := by rw [hcke]; exact ctype_hi _
  obtain ⟨aP, aB, -, aF⟩ := hC.at (Grew.start ov (Fr.refl noF W))
  have ab0 := aB 0
  have ab1 := aB 1
  have ab2 := aB 2
  have ab3 := aB 3
  simp only [List.getElem?_toArray, List.getElem?_cons_zero, List.getElem?_cons_succ, List.size_toArray] at ab0 ab1 ab2 ab3
  clear aP aB
  have d := fun i => (hC.at (Grew.start ov (Fr.refl noF W).drew)).2.1 i
  have d0 := d 0
  have d1 := d 1
  have d2 := d 2
  have d3 := d 3
  simp only [List.getElem?_toArray, List.getElem?_cons_zero, List.getElem?_cons_succ, List.size_toArray] at d0 d1 d2 d3
  clear d
  have HC := Lib.hid hC
  have HS := Lib.hid (show SwI p c w s from ⟨_, _, hA⟩)
  clear hC hA hW hv hb hl hout hok hvn aF hcte hcke  
  go_enter Tryz.func104, Tryz.ntmps104
  go_upto_region 1 with fail
  rw [← HW.out]
  go_region_law (first | (go_simp; go_at_call 106; (with_reducible refine (HD.out _).mono ?_); rintro e w' ⟨rfl, rfl⟩) | (go_simp; go_at_call 106; (with_reducible refine (HE.out _).mono ?_); rintro e w' ⟨rfl, rfl⟩) | fail)
  all_goals have HX := Lib.hid (SR.under (k := -2) HS.out (HC.out.fr.trans ((Fr.refl noF W).drew)) (SR.self (SwI.quiet HS.out (HC.out.fr.trans ((Fr.refl noF W).drew))).1 (-2)))
  all_goals go_wp2
  all_goals go_ret
  all_goals exact HX.out

theorem S_m9big (p : Nat) (c : ConfV) (w : World) (s : SSt) (t k sz id n : Int) (v : Value) (l : List UInt8) (hv : Rd w v l) (hb : ∀ k, vblk v k → ¬ SwF p w k) (hl : l.length ≤ 1000000) (h : SwI p c w s) (hok : s.okS) (hout : s.out.length ≤ 10000000000) (h1 : 2147483647 < sz) :
    Calls Tryz.prog 104 #[.pointer (some ⟨p, 0, none⟩), .agg (stepA 9 t k sz id n v)] w (SR p c w (-2) s) := by
  obtain ⟨ov, uv, hA⟩ := h
  obtain ⟨va, vn, vc, rfl, hvn⟩ := hv.len
  have hC := CBox.start hA (stepA 9 t k sz id n (.slice va vn vc))
  obtain ⟨W, hW⟩ : ∃ W, W = w.alloc (.cells (stepA 9 t k sz id n (.slice va vn vc)) 239 (0, 0)) := ⟨_, rfl⟩
  have HW := Lib.hid hW
  rw [← hW] at hC
  obtain ⟨ct, hcte⟩ : ∃ ct, ct = ctype (t % 256) := ⟨_, rfl⟩
  obtain ⟨ck, hcke⟩ : ∃ ck, ck = ctype (k % 256) := ⟨_, rfl⟩
  have HD := Lib.hid (show ∀ X, Calls Tryz.prog 106 #[.int .i64 t] X (fun e w' => e = .returned (.int .u8 ct) ∧ X = w') from fun X => by rw [hcte]; exact S_code t X)
  have HE := Lib.hid (show ∀ X, Calls Tryz.prog 106 #[.int .i64 k] X (fun e w' => e = .returned (.int .u8 ck) ∧ X = w') from fun X => by rw [hcke]; exact S_code k X)
  have ct0 : 0 ≤ ct := by rw [hcte]; exact ctype_lo _
  have ct1 : ct ≤ 13 := by rw [hcte]; exact ctype_hi _
  have ck0 : 0 ≤ ck := by rw [hcke]; exact ctype_lo _
  have ck1 : ck ≤ 13 := by rw [hcke]; exact ctype_hi _
  obtain ⟨aP, aB, -, aF⟩ := hC.at (Grew.start ov (Fr.refl noF W))
  have ab0 := aB 0
  have ab1 := aB 1
  have ab2 := aB 2
  have ab3 := aB 3
  simp only [List.getElem?_toArray, List.getElem?_cons_zero, List.getElem?_cons_succ, List.size_toArray] at ab0 ab1 ab2 ab3
  clear aP aB
  have d := fun i => (hC.at (Grew.start ov (Fr.refl noF W).drew)).2.1 i
  have d0 := d 0
  have d1 := d 1
  have d2 := d 2
  have d3 := d 3
  simp only [List.getElem?_toArray, List.getElem?_cons_zero, List.getElem?_cons_succ, List.size_toArray] at d0 d1 d2 d3
  clear d
  have HC := Lib.hid hC
  have HS := Lib.hid (show SwI p c w s from ⟨_, _, hA⟩)
  clear hC hA hW hv hb hl hout hok hvn aF hcte hcke  
  have h2 : ¬ sz < 0 := by omega
  have h3 : sz > 2147483647 := h1
  go_enter Tryz.func104, Tryz.ntmps104
  go_upto_region 1 with fail
  rw [← HW.out]
  go_region_law (first | (go_simp; go_at_call 106; (with_reducible refine (HD.out _).mono ?_); rintro e w' ⟨rfl, rfl⟩) | (go_simp; go_at_call 106; (with_reducible refine (HE.out _).mono ?_); rintro e w' ⟨rfl, rfl⟩) | fail)
  all_goals have HX := Lib.hid (SR.under (k := -2) HS.out (HC.out.fr.trans ((Fr.refl noF W).drew)) (SR.self (SwI.quiet HS.out (HC.out.fr.trans ((Fr.refl noF W).drew))).1 (-2)))
  all_goals go_wp2
  all_goals go_ret
  all_goals exact HX.out

theorem S_m9ct0 (p : Nat) (c : ConfV) (w : World) (s : SSt) (t k sz id n : Int) (v : Value) (l : List UInt8) (hv : Rd w v l) (hb : ∀ k, vblk v k → ¬ SwF p w k) (hl : l.length ≤ 1000000) (h : SwI p c w s) (hok : s.okS) (hout : s.out.length ≤ 10000000000) (h1 : 0 ≤ sz) (h2 : sz ≤ 2147483647) (hct : ctype (t % 256) = 0) :
    Calls Tryz.prog 104 #[.pointer (some ⟨p, 0, none⟩), .agg (stepA 9 t k sz id n v)] w (SR p c w (-2) s) := by
  obtain ⟨ov, uv, hA⟩ := h
  obtain ⟨va, vn, vc, rfl, hvn⟩ := hv.len
  have hC := CBox.start hA (stepA 9 t k sz id n (.slice va vn vc))
  obtain ⟨W, hW⟩ : ∃ W, W = w.alloc (.cells (stepA 9 t k sz id n (.slice va vn vc)) 239 (0, 0)) := ⟨_, rfl⟩
  have HW := Lib.hid hW
  rw [← hW] at hC
  obtain ⟨ct, hcte⟩ : ∃ ct, ct = ctype (t % 256) := ⟨_, rfl⟩
  obtain ⟨ck, hcke⟩ : ∃ ck, ck = ctype (k % 256) := ⟨_, rfl⟩
  have HD := Lib.hid (show ∀ X, Calls Tryz.prog 106 #[.int .i64 t] X (fun e w' => e = .returned (.int .u8 ct) ∧ X = w') from fun X => by rw [hcte]; exact S_code t X)
  have HE := Lib.hid (show ∀ X, Calls Tryz.prog 106 #[.int .i64 k] X (fun e w' => e = .returned (.int .u8 ck) ∧ X = w') from fun X => by rw [hcke]; exact S_code k X)
  have ct0 : 0 ≤ ct := by rw [hcte]; exact ctype_lo _
  have ct1 : ct ≤ 13 := by rw [hcte]; exact ctype_hi _
  have ck0 : 0 ≤ ck := by rw [hcke]; exact ctype_lo _
  have ck1 : ck ≤ 13 := by rw [hcke]; exact ctype_hi _
  rw [← hcte] at hct
  have g1 : ¬ sz < 0 := by omega
  have g2 : ¬ sz > 2147483647 := by omega
  have hwu : IntKind.u64.wrap sz = sz := by rw [IntKind.wrap_u64]; omega
  have hszn : ((sz.toNat : Nat) : Int) = sz := by omega
  have HV := Lib.hid (show ∀ X, Calls Tryz.prog 101 #[.int .u64 sz] X (NewR (vint sz.toNat) X) from fun X => by have := S_varint sz.toNat (by omega) X; rwa [hszn] at this)
  have hvl := vint32_le sz.toNat (by omega)
  have g4 : (ct == 0) = true := by rw [hct]; rfl
  have HL := Lib.hid (And.intro hout hvl)
  obtain ⟨aP, aB, -, aF⟩ := hC.at (Grew.start ov (Fr.refl noF W))
  have ab0 := aB 0
  have ab1 := aB 1
  have ab2 := aB 2
  have ab3 := aB 3
  simp only [List.getElem?_toArray, List.getElem?_cons_zero, List.getElem?_cons_succ, List.size_toArray] at ab0 ab1 ab2 ab3
  clear aP aB
  have d := fun i => (hC.at (Grew.start ov (Fr.refl noF W).drew)).2.1 i
  have d0 := d 0
  have d1 := d 1
  have d2 := d 2
  have d3 := d 3
  simp only [List.getElem?_toArray, List.getElem?_cons_zero, List.getElem?_cons_succ, List.size_toArray] at d0 d1 d2 d3
  clear d
  have HC := Lib.hid hC
  have HS := Lib.hid (show SwI p c w s from ⟨_, _, hA⟩)
  clear hC hA hW hv hb hl hout hok hvn aF hcte hcke hszn  h1 h2 hct
  clear hvl
  go_enter Tryz.func104, Tryz.ntmps104
  go_upto_region 1 with fail
  rw [← HW.out]
  go_region_law (first | (go_simp; go_at_call 106; (with_reducible refine (HD.out _).mono ?_); rintro e w' ⟨rfl, rfl⟩) | (go_simp; go_at_call 106; (with_reducible refine (HE.out _).mono ?_); rintro e w' ⟨rfl, rfl⟩) | fail)
  all_goals go_wp2_with fail
  all_goals (with_reducible refine (HV.out _).mono ?_)
  all_goals rintro e Y ⟨yv, rfl, hyo, hyf⟩
  all_goals obtain ⟨ya, yn, yc, rfl, -⟩ := hyo.rd.len
  all_goals have HYN := Lib.hid (HC.out.new hyo.blk)
  all_goals have HYF := Lib.hid (And.intro (((Fr.refl noF W).drew).trans hyf) hyo.rd)
  all_goals clear hyo hyf ab0 ab1 ab2 ab3 d0 d1 d2 d3
  all_goals have yp7 : Y.cell? ⟨p, 7, none⟩ = some ov := (HC.out.at (Grew.start ov HYF.out.1)).1 7
  all_goals have yb0 : Y.cell? ⟨w.heap.size, 0, none⟩ = some (.int .i64 9) := (HC.out.at (Grew.start ov HYF.out.1)).2.1 0
  all_goals have yb3 : Y.cell? ⟨w.heap.size, 3, none⟩ = some (.int .i64 sz) := (HC.out.at (Grew.start ov HYF.out.1)).2.1 3
  all_goals have HX := Lib.hid (SR.under (k := -2) HS.out (HC.out.fr.trans HYF.out.1) (SR.self (SwI.quiet HS.out (HC.out.fr.trans HYF.out.1)).1 (-2)))
  all_goals go_wp2
  all_goals go_ret
  all_goals exact HX.out

theorem S_m9small (p : Nat) (c : ConfV) (w : World) (s : SSt) (t k sz id n : Int) (v : Value) (l : List UInt8) (hv : Rd w v l) (hb : ∀ k, vblk v k → ¬ SwF p w k) (hl : l.length ≤ 1000000) (h : SwI p c w s) (hok : s.okS) (hout : s.out.length ≤ 10000000000) (h1 : 0 ≤ sz) (h3 : sz ≤ 14) (hct : ctype (t % 256) ≠ 0) :
    Calls Tryz.prog 104 #[.pointer (some ⟨p, 0, none⟩), .agg (stepA 9 t k sz id n v)] w (SR p c w 0 ({ s with out := s.out ++ ([b8 (sz * 16 + ctype (t % 256))]) })) := by
  obtain ⟨ov, uv, hA⟩ := h
  obtain ⟨va, vn, vc, rfl, hvn⟩ := hv.len
  have hC := CBox.start hA (stepA 9 t k sz id n (.slice va vn vc))
  obtain ⟨W, hW⟩ : ∃ W, W = w.alloc (.cells (stepA 9 t k sz id n (.slice va vn vc)) 239 (0, 0)) := ⟨_, rfl⟩
  have HW := Lib.hid hW
  rw [← hW] at hC
  obtain ⟨ct, hcte⟩ : ∃ ct, ct = ctype (t % 256) := ⟨_, rfl⟩
  obtain ⟨ck, hcke⟩ : ∃ ck, ck = ctype (k % 256) := ⟨_, rfl⟩
  have HD := Lib.hid (show ∀ X, Calls Tryz.prog 106 #[.int .i64 t] X (fun e w' => e = .returned (.int .u8 ct) ∧ X = w') from fun X => by rw [hcte]; exact S_code t X)
  have HE := Lib.hid (show ∀ X, Calls Tryz.prog 106 #[.int .i64 k] X (fun e w' => e = .returned (.int .u8 ck) ∧ X = w') from fun X => by rw [hcke]; exact S_code k X)
  have ct0 : 0 ≤ ct := by rw [hcte]; exact ctype_lo _
  have ct1 : ct ≤ 13 := by rw [hcte]; exact ctype_hi _
  have ck0 : 0 ≤ ck := by rw [hcke]; exact ctype_lo _
  have ck1 : ck ≤ 13 := by rw [hcke]; exact ctype_hi _
  rw [← hcte] at hct
  rw [← hcte]
  have hlt : sz < 15 := by omega
  have g1 : ¬ sz < 0 := by omega
  have g2 : ¬ sz > 2147483647 := by omega
  have hwu : IntKind.u64.wrap sz = sz := by rw [IntKind.wrap_u64]; omega
  have hszn : ((sz.toNat : Nat) : Int) = sz := by omega
  have HV := Lib.hid (show ∀ X, Calls Tryz.prog 101 #[.int .u64 sz] X (NewR (vint sz.toNat) X) from fun X => by have := S_varint sz.toNat (by omega) X; rwa [hszn] at this)
  have hvl := vint32_le sz.toNat (by omega)
  have g4 : (ct == 0) = false := beq_eq_false_iff_ne.2 hct
  have hor := or_u8 sz ct (by omega) (by omega) (by omega) (by omega)
  have hm : sz * 16 % 256 = sz * 16 := by omega
  have hm2 : sz % 256 = sz := by omega
  have hm3 : IntKind.u8.wrap sz = sz := by rw [IntKind.wrap_u8]; omega
  have hm4 : IntKind.u8.wrap (sz * 16) = sz * 16 := by rw [IntKind.wrap_u8]; omega
  have hm5 : IntKind.u8.wrap (sz * 16 + ct) = sz * 16 + ct := by rw [IntKind.wrap_u8]; omega
  have hbb : sz * 16 + ct = ((b8 (sz * 16 + ct)).toNat : Int) := (b8_nat _ (by omega) (by omega)).symm
  have HL := Lib.hid (And.intro hout hvl)
  obtain ⟨aP, aB, -, aF⟩ := hC.at (Grew.start ov (Fr.refl noF W))
  have ab0 := aB 0
  have ab1 := aB 1
  have ab2 := aB 2
  have ab3 := aB 3
  simp only [List.getElem?_toArray, List.getElem?_cons_zero, List.getElem?_cons_succ, List.size_toArray] at ab0 ab1 ab2 ab3
  clear aP aB
  have d := fun i => (hC.at (Grew.start ov (Fr.refl noF W).drew)).2.1 i
  have d0 := d 0
  have d1 := d 1
  have d2 := d 2
  have d3 := d 3
  simp only [List.getElem?_toArray, List.getElem?_cons_zero, List.getElem?_cons_succ, List.size_toArray] at d0 d1 d2 d3
  clear d
  have HC := Lib.hid hC
  have HS := Lib.hid (show SwI p c w s from ⟨_, _, hA⟩)
  have HBB := Lib.hid hbb
  clear hC hA hW hv hb hl hout hok hvn aF hcte hcke hszn  h1 h3 hct
  clear hvl hbb
  go_enter Tryz.func104, Tryz.ntmps104
  go_upto_region 1 with fail
  rw [← HW.out]
  go_region_law (first | (go_simp; go_at_call 106; (with_reducible refine (HD.out _).mono ?_); rintro e w' ⟨rfl, rfl⟩) | (go_simp; go_at_call 106; (with_reducible refine (HE.out _).mono ?_); rintro e w' ⟨rfl, rfl⟩) | fail)
  all_goals go_wp2_with fail
  all_goals (with_reducible refine (HV.out _).mono ?_)
  all_goals rintro e Y ⟨yv, rfl, hyo, hyf⟩
  all_goals obtain ⟨ya, yn, yc, rfl, -⟩ := hyo.rd.len
  all_goals have HYN := Lib.hid (HC.out.new hyo.blk)
  all_goals have HYF := Lib.hid (And.intro (((Fr.refl noF W).drew).trans hyf) hyo.rd)
  all_goals clear hyo hyf ab0 ab1 ab2 ab3 d0 d1 d2 d3
  all_goals have yp7 : Y.cell? ⟨p, 7, none⟩ = some ov := (HC.out.at (Grew.start ov HYF.out.1)).1 7
  all_goals have yb0 : Y.cell? ⟨w.heap.size, 0, none⟩ = some (.int .i64 9) := (HC.out.at (Grew.start ov HYF.out.1)).2.1 0
  all_goals have yb3 : Y.cell? ⟨w.heap.size, 3, none⟩ = some (.int .i64 sz) := (HC.out.at (Grew.start ov HYF.out.1)).2.1 3
  all_goals
    have HX1 := Lib.hid (And.intro ((Fr.refl noF Y).alloc (.cells #[.int .u8 (sz * 16 + ct)] U8 (0, 0))) (own_byte (u := b8 (sz * 16 + ct)) HBB.out (alloc_new Y (.cells #[.int .u8 (sz * 16 + ct)] U8 (0, 0)))))
    have rp7 : (Y.alloc (.cells #[.int .u8 (sz * 16 + ct)] U8 (0, 0))).cell? ⟨p, 7, none⟩ = some ov := (HC.out.at (Grew.start ov (HYF.out.1.trans HX1.out.1))).1 7
    have rb3 : (Y.alloc (.cells #[.int .u8 (sz * 16 + ct)] U8 (0, 0))).cell? ⟨w.heap.size, 3, none⟩ = some (.int .i64 sz) := (HC.out.at (Grew.start ov (HYF.out.1.trans HX1.out.1))).2.1 3
    go_wp2_with fail
    go_region_law (first | ((refine step_bytes (by rfl) _ _ (by rfl) 0 ov (.slice (some ⟨Y.heap.size, 0, none⟩) 1 1) s.out [b8 (sz * 16 + ct)] (by rfl) (HC.out.own ((HYF.out.1.trans HX1.out.1).trans ?_)) (by rfl) (HX1.out.2.keep (F := noF) (F' := noF) ?_ fun _ _ x => x) (by have := HL.out; simp only [List.length_singleton]; omega) (Nat.zero_le _) ?_); (focus ((repeat (first | with_reducible exact Fr.refl _ _ | with_reducible assumption | with_reducible refine Fr.alloc ?_ _ | with_reducible refine Fr.drew ?_ | with_reducible refine Fr.drewN ?_ _ | with_reducible refine Fr.trans (F' := noF) ?_ (by with_reducible assumption) | fail)); done)); (focus ((repeat (first | with_reducible exact Fr.refl _ _ | with_reducible assumption | with_reducible refine Fr.alloc ?_ _ | with_reducible refine Fr.drew ?_ | with_reducible refine Fr.drewN ?_ _ | with_reducible refine Fr.trans (F' := noF) ?_ (by with_reducible assumption) | fail)); done)); intro za zn zc Z ho hg hat; have hzG : Grew W Z ov := Grew.more (Grew.start ov ((HYF.out.1.trans HX1.out.1).trans (by (focus ((repeat (first | with_reducible exact Fr.refl _ _ | with_reducible assumption | with_reducible refine Fr.alloc ?_ _ | with_reducible refine Fr.drew ?_ | with_reducible refine Fr.drewN ?_ _ | with_reducible refine Fr.trans (F' := noF) ?_ (by with_reducible assumption) | fail)); done))))) (OwnAt.refl W ov) hg; have hzA : OwnAt w (.slice za zn zc) ov := (OwnAt.refl w ov).next (Nat.le_trans HC.out.le (HYF.out.1.trans HX1.out.1).size) hat; have zp7 : Z.cell? ⟨p, 7, none⟩ = some ov := (HC.out.at hzG).1 7; have zf7 := (HC.out.at hzG).2.2.2 7; have HX := Lib.hid (HC.out.fin hzG ho hzA); clear ho hg hat hzG hzA) | fail)
  all_goals go_wp2
  all_goals go_ret
  all_goals exact HX.out

theorem S_m9large (p : Nat) (c : ConfV) (w : World) (s : SSt) (t k sz id n : Int) (v : Value) (l : List UInt8) (hv : Rd w v l) (hb : ∀ k, vblk v k → ¬ SwF p w k) (hl : l.length ≤ 1000000) (h : SwI p c w s) (hok : s.okS) (hout : s.out.length ≤ 10000000000) (h1 : 14 < sz) (h2 : sz ≤ 2147483647) (hct : ctype (t % 256) ≠ 0) :
    Calls Tryz.prog 104 #[.pointer (some ⟨p, 0, none⟩), .agg (stepA 9 t k sz id n v)] w (SR p c w 0 ({ s with out := s.out ++ ([b8 (240 + ctype (t % 256))] ++ vint sz.toNat) })) := by
  obtain ⟨ov, uv, hA⟩ := h
  obtain ⟨va, vn, vc, rfl, hvn⟩ := hv.len
  have hC := CBox.start hA (stepA 9 t k sz id n (.slice va vn vc))
  obtain ⟨W, hW⟩ : ∃ W, W = w.alloc (.cells (stepA 9 t k sz id n (.slice va vn vc)) 239 (0, 0)) := ⟨_, rfl⟩
  have HW := Lib.hid hW
  rw [← hW] at hC
  obtain ⟨ct, hcte⟩ : ∃ ct, ct = ctype (t % 256) := ⟨_, rfl⟩
  obtain ⟨ck, hcke⟩ : ∃ ck, ck = ctype (k % 256) := ⟨_, rfl⟩
  have HD := Lib.hid (show ∀ X, Calls Tryz.prog 106 #[.int .i64 t] X (fun e w' => e = .returned (.int .u8 ct) ∧ X = w') from fun X => by rw [hcte]; exact S_code t X)
  have HE := Lib.hid (show ∀ X, Calls Tryz.prog 106 #[.int .i64 k] X (fun e w' => e = .returned (.int .u8 ck) ∧ X = w') from fun X => by rw [hcke]; exact S_code k X)
  have ct0 : 0 ≤ ct := by rw [hcte]; exact ctype_lo _
  have ct1 : ct ≤ 13 := by rw [hcte]; exact ctype_hi _
  have ck0 : 0 ≤ ck := by rw [hcke]; exact ctype_lo _
  have ck1 : ck ≤ 13 := by rw [hcke]; exact ctype_hi _
  rw [← hcte] at hct
  rw [← hcte]
  have hlt : ¬ sz < 15 := by omega
  have g1 : ¬ sz < 0 := by omega
  have g2 : ¬ sz > 2147483647 := by omega
  have hwu : IntKind.u64.wrap sz = sz := by rw [IntKind.wrap_u64]; omega
  have hszn : ((sz.toNat : Nat) : Int) = sz := by omega
  have HV := Lib.hid (show ∀ X, Calls Tryz.prog 101 #[.int .u64 sz] X (NewR (vint sz.toNat) X) from fun X => by have := S_varint sz.toNat (by omega) X; rwa [hszn] at this)
  have hvl := vint32_le sz.toNat (by omega)
  have g4 : (ct == 0) = false := beq_eq_false_iff_ne.2 hct
  have hor : bits .or .u8 240 ct = 240 + ct := or_u8 15 ct (by omega) (by omega) (by omega) (by omega)
  have hbb : 240 + ct = ((b8 (240 + ct)).toNat : Int) := (b8_nat _ (by omega) (by omega)).symm
  have HL := Lib.hid (And.intro hout hvl)
  obtain ⟨aP, aB, -, aF⟩ := hC.at (Grew.start ov (Fr.refl noF W))
  have ab0 := aB 0
  have ab1 := aB 1
  have ab2 := aB 2
  have ab3 := aB 3
  simp only [List.getElem?_toArray, List.getElem?_cons_zero, List.getElem?_cons_succ, List.size_toArray] at ab0 ab1 ab2 ab3
  clear aP aB
  have d := fun i => (hC.at (Grew.start ov (Fr.refl noF W).drew)).2.1 i
  have d0 := d 0
  have d1 := d 1
  have d2 := d 2
  have d3 := d 3
  simp only [List.getElem?_toArray, List.getElem?_cons_zero, List.getElem?_cons_succ, List.size_toArray] at d0 d1 d2 d3
  clear d
  have HC := Lib.hid hC
  have HS := Lib.hid (show SwI p c w s from ⟨_, _, hA⟩)
  have HBB := Lib.hid hbb
  clear hC hA hW hv hb hl hout hok hvn aF hcte hcke hszn  h1 h2 hct
  clear hvl hbb
  go_enter Tryz.func104, Tryz.ntmps104
  go_upto_region 1 with fail
  rw [← HW.out]
  go_region_law (first | (go_simp; go_at_call 106; (with_reducible refine (HD.out _).mono ?_); rintro e w' ⟨rfl, rfl⟩) | (go_simp; go_at_call 106; (with_reducible refine (HE.out _).mono ?_); rintro e w' ⟨rfl, rfl⟩) | fail)
  all_goals go_wp2_with fail
  all_goals (with_reducible refine (HV.out _).mono ?_)
  all_goals rintro e Y ⟨yv, rfl, hyo, hyf⟩
  all_goals obtain ⟨ya, yn, yc, rfl, -⟩ := hyo.rd.len
  all_goals have HYN := Lib.hid (HC.out.new hyo.blk)
  all_goals have HYF := Lib.hid (And.intro (((Fr.refl noF W).drew).trans hyf) hyo.rd)
  all_goals clear hyo hyf ab0 ab1 ab2 ab3 d0 d1 d2 d3
  all_goals have yp7 : Y.cell? ⟨p, 7, none⟩ = some ov := (HC.out.at (Grew.start ov HYF.out.1)).1 7
  all_goals have yb0 : Y.cell? ⟨w.heap.size, 0, none⟩ = some (.int .i64 9) := (HC.out.at (Grew.start ov HYF.out.1)).2.1 0
  all_goals have yb3 : Y.cell? ⟨w.heap.size, 3, none⟩ = some (.int .i64 sz) := (HC.out.at (Grew.start ov HYF.out.1)).2.1 3
  all_goals
    have HX1 := Lib.hid (And.intro ((Fr.refl noF Y).alloc (.cells #[.int .u8 (240 + ct)] U8 (0, 0))) (own_byte (u := b8 (240 + ct)) HBB.out (alloc_new Y (.cells #[.int .u8 (240 + ct)] U8 (0, 0)))))
    have rp7 : (Y.alloc (.cells #[.int .u8 (240 + ct)] U8 (0, 0))).cell? ⟨p, 7, none⟩ = some ov := (HC.out.at (Grew.start ov (HYF.out.1.trans HX1.out.1))).1 7
    go_wp2_with (at_builtin; refine append_bytes_at rfl _ _ rfl 0 ov (.slice (some ⟨Y.heap.size, 0, none⟩) 1 1) s.out [b8 (240 + ct)] rfl (HC.out.own (HYF.out.1.trans HX1.out.1)) rfl HX1.out.2 (by have := HL.out; simp only [List.length_singleton]; omega) (Nat.zero_le _) ?_)
    intro v' Z1 ho hg hat
    obtain ⟨va1, vn1, vc1, rfl, -⟩ := ho.rd.len
    have HZ1 := Lib.hid (And.intro ho (And.intro (Grew.more (Grew.start ov (HYF.out.1.trans HX1.out.1)) (OwnAt.refl W ov) hg) ((OwnAt.refl W ov).nextN (Nat.le_trans HYF.out.1.size (Nat.le_succ _)) hat)))
    have HR1 := Lib.hid (show Rd Z1 (.slice ya yn yc) (vint sz.toNat) from (HYF.out.2.keep (F := noF) HX1.out.1 fun _ _ x => x).grew (Grew.more (Grew.start ov (Fr.refl noF _)) (OwnAt.refl _ ov) hg) HYN.out)
    clear ho hg hat
    go_wp2_with (at_builtin; refine append_bytes_at rfl _ _ rfl 0 (.slice va1 vn1 vc1) (.slice ya yn yc) (s.out ++ [b8 (240 + ct)]) (vint sz.toNat) rfl HZ1.out.1 rfl HR1.out (by have := HL.out; simp only [List.length_singleton, List.length_append]; omega) (Nat.zero_le _) ?_)
    intro v' Z ho hg hat
    obtain ⟨za, zn, zc, rfl, -⟩ := ho.rd.len
    have hzG : Grew W Z ov := HZ1.out.2.1.more HZ1.out.2.2 hg
    have hzA : OwnAt w (.slice za zn zc) ov := (HZ1.out.2.2.next HZ1.out.2.1.size hat).up HC.out.le
    have zp7 : Z.cell? ⟨p, 7, none⟩ = some ov := (HC.out.at hzG).1 7
    have zf7 := (HC.out.at hzG).2.2.2 7
    have HX := Lib.hid (HC.out.fin hzG ho hzA)
    clear ho hg hat hzG hzA yp7 yb0 yb3
    go_wp2
    go_ret
    exact HX.out

end Go.Proofs.YtdifknecndlklaaGreatDoor
namespace Go.Proofs.YtdifknecndlklaaGreatDoor
open Go Go.RowKit
set_option maxHeartbeats 4000000
set_option maxRecDepth 100000
set_option linter.all false


theorem S_m11neg (p : Nat) (c : ConfV) (w : World) (s : SSt) (t k sz id n : Int) (v : Value) (l : List UInt8) (hv : Rd w v l) (hb : ∀ k, vblk v k → ¬ SwF p w k) (hl : l.length ≤ 1000000) (h : SwI p c w s) (hok : s.okS) (hout : s.out.length ≤ 10000000000) (h1 : sz < 0) :
    Calls Tryz.prog 104 #[.pointer (some ⟨p, 0, none⟩), .agg (stepA 11 t k sz id n v)] w (SR p c w (-2) s) := by
  obtain ⟨ov, uv, hA⟩ := h
  obtain ⟨va, vn, vc, rfl, hvn⟩ := hv.len
  have hC := CBox.start hA (stepA 11 t k sz id n (.slice va vn vc))
  obtain ⟨W, hW⟩ : ∃ W, W = w.alloc (.cells (stepA 11 t k sz id n (.slice va vn vc)) 239 (0, 0)) := ⟨_, rfl⟩
  have HW := Lib.hid hW
  rw [← hW] at hC
  obtain ⟨ct, hcte⟩ : ∃ ct, ct = ctype (t % 256) := ⟨_, rfl⟩
  obtain ⟨ck, hcke⟩ : ∃ ck, ck = ctype (k % 256) := ⟨_, rfl⟩
  have HD := Lib.hid (show ∀ X, Calls Tryz.prog 106 #[.int .i64 t] X (fun e w' => e = .returned (.int .u8 ct) ∧ X = w') from fun X => by rw [hcte]; exact S_code t X)
  have HE := Lib.hid (show ∀ X, Calls Tryz.prog 106 #[.int .i64 k] X (fun e w' => e = .returned (.int .u8 ck) ∧ X = w') from fun X => by rw [hcke]; exact S_code k X)
  have ct0 : 0 ≤ ct := by rw [hcte]; exact ctype_lo _
  have ct1 : ct ≤ 13 := by rw [hcte]; exact ctype_hi _
  have ck0 : 0 ≤ ck := by rw [hcke]; exact ctype_lo _
  have ck1 : ck ≤ 13 := by rw [hcke]; exact ctype_hi _
  obtain ⟨aP, aB, -, aF⟩ := hC.at (Grew.start ov (Fr.refl noF W))
  have ab0 := aB 0
  have ab1 := aB 1
  have ab2 := aB 2
  have ab3 := aB 3
  simp only [List.getElem?_toArray, List.getElem?_cons_zero, List.getElem?_cons_succ, List.size_toArray] at ab0 ab1 ab2 ab3
  clear aP aB
  have d := fun i => (hC.at (Grew.start ov (Fr.refl noF W).drew)).2.1 i
  have d0 := d 0
  have d1 := d 1
  have d2 := d 2
  have d3 := d 3
  simp only [List.getElem?_toArray, List.getElem?_cons_zero, List.getElem?_cons_succ, List.size_toArray] at d0 d1 d2 d3
  clear d
  have HC := Lib.hid hC
  have HS := Lib.hid (show SwI p c w s from ⟨_, _, hA⟩)
  clear hC hA hW hv hb hl hout hok hvn aF hcte hcke  
  go_enter Tryz.func104, Tryz.ntmps104
  go_upto_region 1 with fail
  rw [← HW.out]
  go_region_law (first | (go_simp; go_at_call 106; (with_reducible refine (HD.out _).mono ?_); rintro e w' ⟨rfl, rfl⟩) | (go_simp; go_at_call 106; (with_reducible refine (HE.out _).mono ?_); rintro e w' ⟨rfl, rfl⟩) | fail)
  all_goals have HX := Lib.hid (SR.under (k := -2) HS.out (HC.out.fr.trans ((Fr.refl noF W).drew)) (SR.self (SwI.quiet HS.out (HC.out.fr.trans ((Fr.refl noF W).drew))).1 (-2)))
  all_goals go_wp2
  all_goals go_ret
  all_goals exact HX.out

theorem S_m11big (p : Nat) (c : ConfV) (w : World) (s : SSt) (t k sz id n : Int) (v : Value) (l : List UInt8) (hv : Rd w v l) (hb : ∀ k, vblk v k → ¬ SwF p w k) (hl : l.length ≤ 1000000) (h : SwI p c w s) (hok : s.okS) (hout : s.out.length ≤ 10000000000) (h1 : 2147483647 < sz) :
    Calls Tryz.prog 104 #[.pointer (some ⟨p, 0, none⟩), .agg (stepA 11 t k sz id n v)] w (SR p c w (-2) s) := by
  obtain ⟨ov, uv, hA⟩ := h
  obtain ⟨va, vn, vc, rfl, hvn⟩ := hv.len
  have hC := CBox.start hA (stepA 11 t k sz id n (.slice va vn vc))
  obtain ⟨W, hW⟩ : ∃ W, W = w.alloc (.cells (stepA 11 t k sz id n (.slice va vn vc)) 239 (0, 0)) := ⟨_, rfl⟩
  have HW := Lib.hid hW
  rw [← hW] at hC
  obtain ⟨ct, hcte⟩ : ∃ ct, ct = ctype (t % 256) := ⟨_, rfl⟩
  obtain ⟨ck, hcke⟩ : ∃ ck, ck = ctype (k % 256) := ⟨_, rfl⟩
  have HD := Lib.hid (show ∀ X, Calls Tryz.prog 106 #[.int .i64 t] X (fun e w' => e = .returned (.int .u8 ct) ∧ X = w') from fun X => by rw [hcte]; exact S_code t X)
  have HE := Lib.hid (show ∀ X, Calls Tryz.prog 106 #[.int .i64 k] X (fun e w' => e = .returned (.int .u8 ck) ∧ X = w') from fun X => by rw [hcke]; exact S_code k X)
  have ct0 : 0 ≤ ct := by rw [hcte]; exact ctype_lo _
  have ct1 : ct ≤ 13 := by rw [hcte]; exact ctype_hi _
  have ck0 : 0 ≤ ck := by rw [hcke]; exact ctype_lo _
  have ck1 : ck ≤ 13 := by rw [hcke]; exact ctype_hi _
  obtain ⟨aP, aB, -, aF⟩ := hC.at (Grew.start ov (Fr.refl noF W))
  have ab0 := aB 0
  have ab1 := aB 1
  have ab2 := aB 2
  have ab3 := aB 3
  simp only [List.getElem?_toArray, List.getElem?_cons_zero, List.getElem?_cons_succ, List.size_toArray] at ab0 ab1 ab2 ab3
  clear aP aB
  have d := fun i => (hC.at (Grew.start ov (Fr.refl noF W).drew)).2.1 i
  have d0 := d 0
  have d1 := d 1
  have d2 := d 2
  have d3 := d 3
  simp only [List.getElem?_toArray, List.getElem?_cons_zero, List.getElem?_cons_succ, List.size_toArray] at d0 d1 d2 d3
  clear d
  have HC := Lib.hid hC
  have HS := Lib.hid (show SwI p c w s from ⟨_, _, hA⟩)
  clear hC hA hW hv hb hl hout hok hvn aF hcte hcke  
  have h2 : ¬ sz < 0 := by omega
  have h3 : sz > 2147483647 := h1
  go_enter Tryz.func104, Tryz.ntmps104
  go_upto_region 1 with fail
  rw [← HW.out]
  go_region_law (first | (go_simp; go_at_call 106; (with_reducible refine (HD.out _).mono ?_); rintro e w' ⟨rfl, rfl⟩) | (go_simp; go_at_call 106; (with_reducible refine (HE.out _).mono ?_); rintro e w' ⟨rfl, rfl⟩) | fail)
  all_goals have HX := Lib.hid (SR.under (k := -2) HS.out (HC.out.fr.trans ((Fr.refl noF W).drew)) (SR.self (SwI.quiet HS.out (HC.out.fr.trans ((Fr.refl noF W).drew))).1 (-2)))
  all_goals go_wp2
  all_goals go_ret
  all_goals exact HX.out

theorem S_m11ct0 (p : Nat) (c : ConfV) (w : World) (s : SSt) (t k sz id n : Int) (v : Value) (l : List UInt8) (hv : Rd w v l) (hb : ∀ k, vblk v k → ¬ SwF p w k) (hl : l.length ≤ 1000000) (h : SwI p c w s) (hok : s.okS) (hout : s.out.length ≤ 10000000000) (h1 : 0 ≤ sz) (h2 : sz ≤ 2147483647) (hct : ctype (t % 256) = 0) :
    Calls Tryz.prog 104 #[.pointer (some ⟨p, 0, none⟩), .agg (stepA 11 t k sz id n v)] w (SR p c w (-2) s) := by
  obtain ⟨ov, uv, hA⟩ := h
  obtain ⟨va, vn, vc, rfl, hvn⟩ := hv.len
  have hC := CBox.start hA (stepA 11 t k sz id n (.slice va vn vc))
  obtain ⟨W, hW⟩ : ∃ W, W = w.alloc (.cells (stepA 11 t k sz id n (.slice va vn vc)) 239 (0, 0)) := ⟨_, rfl⟩
  have HW := Lib.hid hW
  rw [← hW] at hC
  obtain ⟨ct, hcte⟩ : ∃ ct, ct = ctype (t % 256) := ⟨_, rfl⟩
  obtain ⟨ck, hcke⟩ : ∃ ck, ck = ctype (k % 256) := ⟨_, rfl⟩
  have HD := Lib.hid (show ∀ X, Calls Tryz.prog 106 #[.int .i64 t] X (fun e w' => e = .returned (.int .u8 ct) ∧ X = w') from fun X => by rw [hcte]; exact S_code t X)
  have HE := Lib.hid (show ∀ X, Calls Tryz.prog 106 #[.int .i64 k] X (fun e w' => e = .returned (.int .u8 ck) ∧ X = w') from fun X => by rw [hcke]; exact S_code k X)
  have ct0 : 0 ≤ ct := by rw [hcte]; exact ctype_lo _
  have ct1 : ct ≤ 13 := by rw [hcte]; exact ctype_hi _
  have ck0 : 0 ≤ ck := by rw [hcke]; exact ctype_lo _
  have ck1 : ck ≤ 13 := by rw [hcke]; exact ctype_hi _
  rw [← hcte] at hct
  have g1 : ¬ sz < 0 := by omega
  have g2 : ¬ sz > 2147483647 := by omega
  have hwu : IntKind.u64.wrap sz = sz := by rw [IntKind.wrap_u64]; omega
  have hszn : ((sz.toNat : Nat) : Int) = sz := by omega
  have HV := Lib.hid (show ∀ X, Calls Tryz.prog 101 #[.int .u64 sz] X (NewR (vint sz.toNat) X) from fun X => by have := S_varint sz.toNat (by omega) X; rwa [hszn] at this)
  have hvl := vint32_le sz.toNat (by omega)
  have g4 : (ct == 0) = true := by rw [hct]; rfl
  have HL := Lib.hid (And.intro hout hvl)
  obtain ⟨aP, aB, -, aF⟩ := hC.at (Grew.start ov (Fr.refl noF W))
  have ab0 := aB 0
  have ab1 := aB 1
  have ab2 := aB 2
  have ab3 := aB 3
  simp only [List.getElem?_toArray, List.getElem?_cons_zero, List.getElem?_cons_succ, List.size_toArray] at ab0 ab1 ab2 ab3
  clear aP aB
  have d := fun i => (hC.at (Grew.start ov (Fr.refl noF W).drew)).2.1 i
  have d0 := d 0
  have d1 := d 1
  have d2 := d 2
  have d3 := d 3
  simp only [List.getElem?_toArray, List.getElem?_cons_zero, List.getElem?_cons_succ, List.size_toArray] at d0 d1 d2 d3
  clear d
  have HC := Lib.hid hC
  have HS := Lib.hid (show SwI p c w s from ⟨_, _, hA⟩)
  clear hC hA hW hv hb hl hout hok hvn aF hcte hcke hszn  h1 h2 hct
  clear hvl
  go_enter Tryz.func104, Tryz.ntmps104
  go_upto_region 1 with fail
  rw [← HW.out]
  go_region_law (first | (go_simp; go_at_call 106; (with_reducible refine (HD.out _).mono ?_); rintro e w' ⟨rfl, rfl⟩) | (go_simp; go_at_call 106; (with_reducible refine (HE.out _).mono ?_); rintro e w' ⟨rfl, rfl⟩) | fail)
  all_goals go_wp2_with fail
  all_goals (with_reducible refine (HV.out _).mono ?_)
  all_goals rintro e Y ⟨yv, rfl, hyo, hyf⟩
  all_goals obtain ⟨ya, yn, yc, rfl, -⟩ := hyo.rd.len
  all_goals have HYN := Lib.hid (HC.out.new hyo.blk)
  all_goals have HYF := Lib.hid (And.intro (((Fr.refl noF W).drew).trans hyf) hyo.rd)
  all_goals clear hyo hyf ab0 ab1 ab2 ab3 d0 d1 d2 d3
  all_goals have yp7 : Y.cell? ⟨p, 7, none⟩ = some ov := (HC.out.at (Grew.start ov HYF.out.1)).1 7
  all_goals have yb0 : Y.cell? ⟨w.heap.size, 0, none⟩ = some (.int .i64 11) := (HC.out.at (Grew.start ov HYF.out.1)).2.1 0
  all_goals have yb3 : Y.cell? ⟨w.heap.size, 3, none⟩ = some (.int .i64 sz) := (HC.out.at (Grew.start ov HYF.out.1)).2.1 3
  all_goals have HX := Lib.hid (SR.under (k := -2) HS.out (HC.out.fr.trans HYF.out.1) (SR.self (SwI.quiet HS.out (HC.out.fr.trans HYF.out.1)).1 (-2)))
  all_goals go_wp2
  all_goals go_ret
  all_goals exact HX.out

theorem S_m11small (p : Nat) (c : ConfV) (w : World) (s : SSt) (t k sz id n : Int) (v : Value) (l : List UInt8) (hv : Rd w v l) (hb : ∀ k, vblk v k → ¬ SwF p w k) (hl : l.length ≤ 1000000) (h : SwI p c w s) (hok : s.okS) (hout : s.out.length ≤ 10000000000) (h1 : 0 ≤ sz) (h3 : sz ≤ 14) (hct : ctype (t % 256) ≠ 0) :
    Calls Tryz.prog 104 #[.pointer (some ⟨p, 0, none⟩), .agg (stepA 11 t k sz id n v)] w (SR p c w 0 ({ s with out := s.out ++ ([b8 (sz * 16 + ctype (t % 256))]) })) := by
  obtain ⟨ov, uv, hA⟩ := h
  obtain ⟨va, vn, vc, rfl, hvn⟩ := hv.len
  have hC := CBox.start hA (stepA 11 t k sz id n (.slice va vn vc))
  obtain ⟨W, hW⟩ : ∃ W, W = w.alloc (.cells (stepA 11 t k sz id n (.slice va vn vc)) 239 (0, 0)) := ⟨_, rfl⟩
  have HW := Lib.hid hW
  rw [← hW] at hC
  obtain ⟨ct, hcte⟩ : ∃ ct, ct = ctype (t % 256) := ⟨_, rfl⟩
  obtain ⟨ck, hcke⟩ : ∃ ck, ck = ctype (k % 256) := ⟨_, rfl⟩
  have HD := Lib.hid (show ∀ X, Calls Tryz.prog 106 #[.int .i64 t] X (fun e w' => e = .returned (.int .u8 ct) ∧ X = w') from fun X => by rw [hcte]; exact S_code t X)
  have HE := Lib.hid (show ∀ X, Calls Tryz.prog 106 #[.int .i64 k] X (fun e w' => e = .returned (.int .u8 ck) ∧ X = w') from fun X => by rw [hcke]; exact S_code k X)
  have ct0 : 0 ≤ ct := by rw [hcte]; exact ctype_lo _
  have ct1 : ct ≤ 13 := by rw [hcte]; exact ctype_hi _
  have ck0 : 0 ≤ ck := by rw [hcke]; exact ctype_lo _
  have ck1 : ck ≤ 13 := by rw [hcke]; exact ctype_hi _
  rw [← hcte] at hct
  rw [← hcte]
  have hlt : sz < 15 := by omega
  have g1 : ¬ sz < 0 := by omega
  have g2 : ¬ sz > 2147483647 := by omega
  have hwu : IntKind.u64.wrap sz = sz := by rw [IntKind.wrap_u64]; omega
  have hszn : ((sz.toNat : Nat) : Int) = sz := by omega
  have HV := Lib.hid (show ∀ X, Calls Tryz.prog 101 #[.int .u64 sz] X (NewR (vint sz.toNat) X) from fun X => by have := S_varint sz.toNat (by omega) X; rwa [hszn] at this)
  have hvl := vint32_le sz.toNat (by omega)
  have g4 : (ct == 0) = false := beq_eq_false_iff_ne.2 hct
  have hor := or_u8 sz ct (by omega) (by omega) (by omega) (by omega)
  have hm : sz * 16 % 256 = sz * 16 := by omega
  have hm2 : sz % 256 = sz := by omega
  have hm3 : IntKind.u8.wrap sz = sz := by rw [IntKind.wrap_u8]; omega
  have hm4 : IntKind.u8.wrap (sz * 16) = sz * 16 := by rw [IntKind.wrap_u8]; omega
  have hm5 : IntKind.u8.wrap (sz * 16 + ct) = sz * 16 + ct := by rw [IntKind.wrap_u8]; omega
  have hbb : sz * 16 + ct = ((b8 (sz * 16 + ct)).toNat : Int) := (b8_nat _ (by omega) (by omega)).symm
  have HL := Lib.hid (And.intro hout hvl)
  obtain ⟨aP, aB, -, aF⟩ := hC.at (Grew.start ov (Fr.refl noF W))
  have ab0 := aB 0
  have ab1 := aB 1
  have ab2 := aB 2
  have ab3 := aB 3
  simp only [List.getElem?_toArray, List.getElem?_cons_zero, List.getElem?_cons_succ, List.size_toArray] at ab0 ab1 ab2 ab3
  clear aP aB
  have d := fun i => (hC.at (Grew.start ov (Fr.refl noF W).drew)).2.1 i
  have d0 := d 0
  have d1 := d 1
  have d2 := d 2
  have d3 := d 3
  simp only [List.getElem?_toArray, List.getElem?_cons_zero, List.getElem?_cons_succ, List.size_toArray] at d0 d1 d2 d3
  clear d
  have HC := Lib.hid hC
  have HS := Lib.hid (show SwI p c w s from ⟨_, _, hA⟩)
  have HBB := Lib.hid hbb
  clear hC hA hW hv hb hl hout hok hvn aF hcte hcke hszn  h1 h3 hct
  clear hvl hbb
  go_enter Tryz.func104, Tryz.ntmps104
  go_upto_region 1 with fail
  rw [← HW.out]
  go_region_law (first | (go_simp; go_at_call 106; (with_reducible refine (HD.out _).mono ?_); rintro e w' ⟨rfl, rfl⟩) | (go_simp; go_at_call 106; (with_reducible refine (HE.out _).mono ?_); rintro e w' ⟨rfl, rfl⟩) | fail)
  all_goals go_wp2_with fail
  all_goals (with_reducible refine (HV.out _).mono ?_)
  all_goals rintro e Y ⟨yv, rfl, hyo, hyf⟩
  all_goals obtain ⟨ya, yn, yc, rfl, -⟩ := hyo.rd.len
  all_goals have HYN := Lib.hid (HC.out.new hyo.blk)
  all_goals have HYF := Lib.hid (And.intro (((Fr.refl noF W).drew).trans hyf) hyo.rd)
  all_goals clear hyo hyf ab0 ab1 ab2 ab3 d0 d1 d2 d3
  all_goals have yp7 : Y.cell? ⟨p, 7, none⟩ = some ov := (HC.out.at (Grew.start ov HYF.out.1)).1 7
  all_goals have yb0 : Y.cell? ⟨w.heap.size, 0, none⟩ = some (.int .i64 11) := (HC.out.at (Grew.start ov HYF.out.1)).2.1 0
  all_goals have yb3 : Y.cell? ⟨w.heap.size, 3, none⟩ = some (.int .i64 sz) := (HC.out.at (Grew.start ov HYF.out.1)).2.1 3
  all_goals
    have HX1 := Lib.hid (And.intro ((Fr.refl noF Y).alloc (.cells #[.int .u8 (sz * 16 + ct)] U8 (0, 0))) (own_byte (u := b8 (sz * 16 + ct)) HBB.out (alloc_new Y (.cells #[.int .u8 (sz * 16 + ct)] U8 (0, 0)))))
    have rp7 : (Y.alloc (.cells #[.int .u8 (sz * 16 + ct)] U8 (0, 0))).cell? ⟨p, 7, none⟩ = some ov := (HC.out.at (Grew.start ov (HYF.out.1.trans HX1.out.1))).1 7
    have rb3 : (Y.alloc (.cells #[.int .u8 (sz * 16 + ct)] U8 (0, 0))).cell? ⟨w.heap.size, 3, none⟩ = some (.int .i64 sz) := (HC.out.at (Grew.start ov (HYF.out.1.trans HX1.out.1))).2.1 3
    go_wp2_with fail
    go_region_law (first | ((refine step_bytes (by rfl) _ _ (by rfl) 0 ov (.slice (some ⟨Y.heap.size, 0, none⟩) 1 1) s.out [b8 (sz * 16 + ct)] (by rfl) (HC.out.own ((HYF.out.1.trans HX1.out.1).trans ?_)) (by rfl) (HX1.out.2.keep (F := noF) (F' := noF) ?_ fun _ _ x => x) (by have := HL.out; simp only [List.length_singleton]; omega) (Nat.zero_le _) ?_); (focus ((repeat (first | with_reducible exact Fr.refl _ _ | with_reducible assumption | with_reducible refine Fr.alloc ?_ _ | with_reducible refine Fr.drew ?_ | with_reducible refine Fr.drewN ?_ _ | with_reducible refine Fr.trans (F' := noF) ?_ (by with_reducible assumption) | fail)); done)); (focus ((repeat (first | with_reducible exact Fr.refl _ _ | with_reducible assumption | with_reducible refine Fr.alloc ?_ _ | with_reducible refine Fr.drew ?_ | with_reducible refine Fr.drewN ?_ _ | with_reducible refine Fr.trans (F' := noF) ?_ (by with_reducible assumption) | fail)); done)); intro za zn zc Z ho hg hat; have hzG : Grew W Z ov := Grew.more (Grew.start ov ((HYF.out.1.trans HX1.out.1).trans (by (focus ((repeat (first | with_reducible exact Fr.refl _ _ | with_reducible assumption | with_reducible refine Fr.alloc ?_ _ | with_reducible refine Fr.drew ?_ | with_reducible refine Fr.drewN ?_ _ | with_reducible refine Fr.trans (F' := noF) ?_ (by with_reducible assumption) | fail)); done))))) (OwnAt.refl W ov) hg; have hzA : OwnAt w (.slice za zn zc) ov := (OwnAt.refl w ov).next (Nat.le_trans HC.out.le (HYF.out.1.trans HX1.out.1).size) hat; have zp7 : Z.cell? ⟨p, 7, none⟩ = some ov := (HC.out.at hzG).1 7; have zf7 := (HC.out.at hzG).2.2.2 7; have HX := Lib.hid (HC.out.fin hzG ho hzA); clear ho hg hat hzG hzA) | fail)
  all_goals go_wp2
  all_goals go_ret
  all_goals exact HX.out

theorem S_m11large (p : Nat) (c : ConfV) (w : World) (s : SSt) (t k sz id n : Int) (v : Value) (l : List UInt8) (hv : Rd w v l) (hb : ∀ k, vblk v k → ¬ SwF p w k) (hl : l.length ≤ 1000000) (h : SwI p c w s) (hok : s.okS) (hout : s.out.length ≤ 10000000000) (h1 : 14 < sz) (h2 : sz ≤ 2147483647) (hct : ctype (t % 256) ≠ 0) :
    Calls Tryz.prog 104 #[.pointer (some ⟨p, 0, none⟩), .agg (stepA 11 t k sz id n v)] w (SR p c w 0 ({ s with out := s.out ++ ([b8 (240 + ctype (t % 256))] ++ vint sz.toNat) })) := by
  obtain ⟨ov, uv, hA⟩ := h
  obtain ⟨va, vn, vc, rfl, hvn⟩ := hv.len
  have hC := CBox.start hA (stepA 11 t k sz id n (.slice va vn vc))
  obtain ⟨W, hW⟩ : ∃ W, W = w.alloc (.cells (stepA 11 t k sz id n (.slice va vn vc)) 239 (0, 0)) := ⟨_, rfl⟩
  have HW := Lib.hid hW
  rw [← hW] at hC
  obtain ⟨ct, hcte⟩ : ∃ ct, ct = ctype (t % 256) := ⟨_, rfl⟩
  obtain ⟨ck, hcke⟩ : ∃ ck, ck = ctype (k % 256) := ⟨_, rfl⟩
  have HD := Lib.hid (show ∀ X, Calls Tryz.prog 106 #[.int .i64 t] X (fun e w' => e = .returned (.int .u8 ct) ∧ X = w') from fun X => by rw [hcte]; exact S_code t X)
  have HE := Lib.hid (show ∀ X, Calls Tryz.prog 106 #[.int .i64 k] X (fun e w' => e = .returned (.int .u8 ck) ∧ X = w') from fun X => by rw [hcke]; exact S_code k X)
  have ct0 : 0 ≤ ct := by rw [hcte]; exact ctype_lo _
  have ct1 : ct ≤ 13 := by rw [hcte]; exact ctype_hi _
  have ck0 : 0 ≤ ck := by rw [hcke]; exact ctype_lo _
  have ck1 : ck ≤ 13 := by rw [hcke]; exact ctype_hi _
  rw [← hcte] at hct
  rw [← hcte]
  have hlt : ¬ sz < 15 := by omega
  have g1 : ¬ sz < 0 := by omega
  have g2 : ¬ sz > 2147483647 := by omega
  have hwu : IntKind.u64.wrap sz = sz := by rw [IntKind.wrap_u64]; omega
  have hszn : ((sz.toNat : Nat) : Int) = sz := by omega
  have HV := Lib.hid (show ∀ X, Calls Tryz.prog 101 #[.int .u64 sz] X (NewR (vint sz.toNat) X) from fun X => by have := S_varint sz.toNat (by omega) X; rwa [hszn] at this)
  have hvl := vint32_le sz.toNat (by omega)
  have g4 : (ct == 0) = false := beq_eq_false_iff_ne.2 hct
  have hor : bits .or .u8 240 ct = 240 + ct := or_u8 15 ct (by omega) (by omega) (by omega) (by omega)
  have hbb : 240 + ct = ((b8 (240 + ct)).toNat : Int) := (b8_nat _ (by omega) (by omega)).symm
  have HL := Lib.hid (And.intro hout hvl)
  obtain ⟨aP, aB, -, aF⟩ := hC.at (Grew.start ov (Fr.refl noF W))
  have ab0 := aB 0
  have ab1 := aB 1
  have ab2 := aB 2
  have ab3 := aB 3
  simp only [List.getElem?_toArray, List.getElem?_cons_zero, List.getElem?_cons_succ, List.size_toArray] at ab0 ab1 ab2 ab3
  clear aP aB
  have d := fun i => (hC.at (Grew.start ov (Fr.refl noF W).drew)).2.1 i
  have d0 := d 0
  have d1 := d 1
  have d2 := d 2
  have d3 := d 3
  simp only [List.getElem?_toArray, List.getElem?_cons_zero, List.getElem?_cons_succ, List.size_toArray] at d0 d1 d2 d3
  clear d
  have HC := Lib.hid hC
  have HS := Lib.hid (show SwI p c w s from ⟨_, _, hA⟩)
  have HBB := Lib.hid hbb
  clear hC hA hW hv hb hl hout hok hvn aF hcte hcke hszn  h1 h2 hct
  clear hvl hbb
  go_enter Tryz.func104, Tryz.ntmps104
  go_upto_region 1 with fail
  rw [← HW.out]
  go_region_law (first | (go_simp; go_at_call 106; (with_reducible refine (HD.out _).mono ?_); rintro e w' ⟨rfl, rfl⟩) | (go_simp; go_at_call 106; (with_reducible refine (HE.out _).mono ?_); rintro e w' ⟨rfl, rfl⟩) | fail)
  all_goals go_wp2_with fail
  all_goals (with_reducible refine (HV.out _).mono ?_)
  all_goals rintro e Y ⟨yv, rfl, hyo, hyf⟩
  all_goals obtain ⟨ya, yn, yc, rfl, -⟩ := hyo.rd.len
  all_goals have HYN := Lib.hid (HC.out.new hyo.blk)
  all_goals have HYF := Lib.hid (And.intro (((Fr.refl noF W).drew).trans hyf) hyo.rd)
  all_goals clear hyo hyf ab0 ab1 ab2 ab3 d0 d1 d2 d3
  all_goals have yp7 : Y.cell? ⟨p, 7, none⟩ = some ov := (HC.out.at (Grew.start ov HYF.out.1)).1 7
  all_goals have yb0 : Y.cell? ⟨w.heap.size, 0, none⟩ = some (.int .i64 11) := (HC.out.at (Grew.start ov HYF.out.1)).2.1 0
  all_goals have yb3 : Y.cell? ⟨w.heap.size, 3, none⟩ = some (.int .i64 sz) := (HC.out.at (Grew.start ov HYF.out.1)).2.1 3
  all_goals
    have HX1 := Lib.hid (And.intro ((Fr.refl noF Y).alloc (.cells #[.int .u8 (240 + ct)] U8 (0, 0))) (own_byte (u := b8 (240 + ct)) HBB.out (alloc_new Y (.cells #[.int .u8 (240 + ct)] U8 (0, 0)))))
    have rp7 : (Y.alloc (.cells #[.int .u8 (240 + ct)] U8 (0, 0))).cell? ⟨p, 7, none⟩ = some ov := (HC.out.at (Grew.start ov (HYF.out.1.trans HX1.out.1))).1 7
    go_wp2_with (at_builtin; refine append_bytes_at rfl _ _ rfl 0 ov (.slice (some ⟨Y.heap.size, 0, none⟩) 1 1) s.out [b8 (240 + ct)] rfl (HC.out.own (HYF.out.1.trans HX1.out.1)) rfl HX1.out.2 (by have := HL.out; simp only [List.length_singleton]; omega) (Nat.zero_le _) ?_)
    intro v' Z1 ho hg hat
    obtain ⟨va1, vn1, vc1, rfl, -⟩ := ho.rd.len
    have HZ1 := Lib.hid (And.intro ho (And.intro (Grew.more (Grew.start ov (HYF.out.1.trans HX1.out.1)) (OwnAt.refl W ov) hg) ((OwnAt.refl W ov).nextN (Nat.le_trans HYF.out.1.size (Nat.le_succ _)) hat)))
    have HR1 := Lib.hid (show Rd Z1 (.slice ya yn yc) (vint sz.toNat) from (HYF.out.2.keep (F := noF) HX1.out.1 fun _ _ x => x).grew (Grew.more (Grew.start ov (Fr.refl noF _)) (OwnAt.refl _ ov) hg) HYN.out)
    clear ho hg hat
    go_wp2_with (at_builtin; refine append_bytes_at rfl _ _ rfl 0 (.slice va1 vn1 vc1) (.slice ya yn yc) (s.out ++ [b8 (240 + ct)]) (vint sz.toNat) rfl HZ1.out.1 rfl HR1.out (by have := HL.out; simp only [List.length_singleton, List.length_append]; omega) (Nat.zero_le _) ?_)
    intro v' Z ho hg hat
    obtain ⟨za, zn, zc, rfl, -⟩ := ho.rd.len
    have hzG : Grew W Z ov := HZ1.out.2.1.more HZ1.out.2.2 hg
    have hzA : OwnAt w (.slice za zn zc) ov := (HZ1.out.2.2.next HZ1.out.2.1.size hat).up HC.out.le
    have zp7 : Z.cell? ⟨p, 7, none⟩ = some ov := (HC.out.at hzG).1 7
    have zf7 := (HC.out.at hzG).2.2.2 7
    have HX := Lib.hid (HC.out.fin hzG ho hzA)
    clear ho hg hat hzG hzA yp7 yb0 yb3
    go_wp2
    go_ret
    exact HX.out

end Go.Proofs.YtdifknecndlklaaGreatDoor
