/- The specification's writer: a step by the compact protocol, where other functions do it. Printed by gen_sf.py. The specification's writer: a step by the compact protocol, the begins of maps, lists and sets. Printed by gen_sfd.py. The specification's writer: any step by the compact protocol. Printed by gen_sfz.py. The specification's writer: a step by the compact protocol, its flags with it. Printed by gen_sfz.py. -/
import Derived.Test.YtdifknecndlklaaGreatDoorZK
import Derived.Test.YtdifknecndlklaaGreatDoorZM
import Derived.Test.YtdifknecndlklaaGreatDoorZO
set_option linter.all false
namespace Go.Proofs.YtdifknecndlklaaGreatDoor
open Go Go.RowKit
set_option maxHeartbeats 4000000
set_option maxRecDepth 100000
set_option linter.all false

theorem S_s13pt (p : Nat) (c : ConfV) (w : World) (s : SSt) (t k sz id n : Int) (v : Value) (l : List UInt8) (hv : Rd w v l) (hb : ∀ k, vblk v k → ¬ SwF p w k) (hl : l.length ≤ 1000000) (h : SwI p c w s) (hok : s.okS) (hout : s.out.length ≤ 10000000000) (hpb : s.pb = true) (hn : n ≠ 0) :
    Calls Tryz.prog 95 #[.pointer (some ⟨p, 0, none⟩), .agg (stepA 13 t k sz id n v)] w (SR p c w 0 (SSt.field { s with pb := false } 1 s.id)) := by
  obtain ⟨ov, uv, hA⟩ := h
  obtain ⟨va, vn, vc, rfl, hvn⟩ := hv.len
  have hC := CBox.start hA (stepA 13 t k sz id n (.slice va vn vc))
  obtain ⟨W, hW⟩ : ∃ W, W = w.alloc (.cells (stepA 13 t k sz id n (.slice va vn vc)) 239 (0, 0)) := ⟨_, rfl⟩
  have HW := Lib.hid hW
  rw [← hW] at hC
  have hq := SwI.quiet (show SwI p c w s from ⟨_, _, hA⟩) hC.fr
  have hP := S_c13pt p c W s t k sz id n (.slice va vn vc) l (hv.keep (F := noF) hC.fr fun _ _ x => x) (fun j hj hx => hb j hj (hq.2.1 j hx)) hl hq.1 hok hout hpb hn
  obtain ⟨aP, aB, -, aF⟩ := hC.at (Grew.start ov (Fr.refl noF W))
  have ab0 := aB 0
  have ab1 := aB 1
  have ab2 := aB 2
  have ab3 := aB 3
  have ab4 := aB 4
  have ab5 := aB 5
  have ab6 := aB 6
  simp only [List.getElem?_toArray, List.getElem?_cons_zero, List.getElem?_cons_succ, List.size_toArray] at ab0 ab1 ab2 ab3 ab4 ab5 ab6
  clear aP aB
  have HP := Lib.hid hP
  have HH := Lib.hid (And.intro (show SwI p c w s from ⟨_, _, hA⟩) hC.fr)
  clear hC hA hW hv hb hl hout hok hvn aF hP hq hpb hn
  go_enter Tryz.func95, Tryz.ntmps95
  go_upto_region 1 with fail
  rw [← HW.out]
  go_wp2_with fail
  (with_reducible refine HP.out.mono ?_)
  rintro e Y ⟨rfl, hy1, hy2⟩
  have HX := Lib.hid (SR.under (k := 0) HH.out.1 HH.out.2 ⟨rfl, hy1, hy2⟩)
  clear hy1 hy2 ab0 ab1 ab2 ab3 ab4 ab5 ab6
  go_wp2
  go_ret
  exact HX.out

theorem S_s13qt (p : Nat) (c : ConfV) (w : World) (s : SSt) (t k sz id n : Int) (v : Value) (l : List UInt8) (hv : Rd w v l) (hb : ∀ k, vblk v k → ¬ SwF p w k) (hl : l.length ≤ 1000000) (h : SwI p c w s) (hok : s.okS) (hout : s.out.length ≤ 10000000000) (hpb : s.pb = false) (hn : n ≠ 0) :
    Calls Tryz.prog 95 #[.pointer (some ⟨p, 0, none⟩), .agg (stepA 13 t k sz id n v)] w (SR p c w 0 ({ s with out := s.out ++ ([1]) })) := by
  obtain ⟨ov, uv, hA⟩ := h
  obtain ⟨va, vn, vc, rfl, hvn⟩ := hv.len
  have hC := CBox.start hA (stepA 13 t k sz id n (.slice va vn vc))
  obtain ⟨W, hW⟩ : ∃ W, W = w.alloc (.cells (stepA 13 t k sz id n (.slice va vn vc)) 239 (0, 0)) := ⟨_, rfl⟩
  have HW := Lib.hid hW
  rw [← hW] at hC
  have hq := SwI.quiet (show SwI p c w s from ⟨_, _, hA⟩) hC.fr
  have hP := S_c13qt p c W s t k sz id n (.slice va vn vc) l (hv.keep (F := noF) hC.fr fun _ _ x => x) (fun j hj hx => hb j hj (hq.2.1 j hx)) hl hq.1 hok hout hpb hn
  obtain ⟨aP, aB, -, aF⟩ := hC.at (Grew.start ov (Fr.refl noF W))
  have ab0 := aB 0
  have ab1 := aB 1
  have ab2 := aB 2
  have ab3 := aB 3
  have ab4 := aB 4
  have ab5 := aB 5
  have ab6 := aB 6
  simp only [List.getElem?_toArray, List.getElem?_cons_zero, List.getElem?_cons_succ, List.size_toArray] at ab0 ab1 ab2 ab3 ab4 ab5 ab6
  clear aP aB
  have HP := Lib.hid hP
  have HH := Lib.hid (And.intro (show SwI p c w s from ⟨_, _, hA⟩) hC.fr)
  clear hC hA hW hv hb hl hout hok hvn aF hP hq hpb hn
  go_enter Tryz.func95, Tryz.ntmps95
  go_upto_region 1 with fail
  rw [← HW.out]
  go_wp2_with fail
  (with_reducible refine HP.out.mono ?_)
  rintro e Y ⟨rfl, hy1, hy2⟩
  have HX := Lib.hid (SR.under (k := 0) HH.out.1 HH.out.2 ⟨rfl, hy1, hy2⟩)
  clear hy1 hy2 ab0 ab1 ab2 ab3 ab4 ab5 ab6
  go_wp2
  go_ret
  exact HX.out

theorem S_s13pf (p : Nat) (c : ConfV) (w : World) (s : SSt) (t k sz id n : Int) (v : Value) (l : List UInt8) (hv : Rd w v l) (hb : ∀ k, vblk v k → ¬ SwF p w k) (hl : l.length ≤ 1000000) (h : SwI p c w s) (hok : s.okS) (hout : s.out.length ≤ 10000000000) (hpb : s.pb = true) (hn : n = 0) :
    Calls Tryz.prog 95 #[.pointer (some ⟨p, 0, none⟩), .agg (stepA 13 t k sz id n v)] w (SR p c w 0 (SSt.field { s with pb := false } 2 s.id)) := by
  obtain ⟨ov, uv, hA⟩ := h
  obtain ⟨va, vn, vc, rfl, hvn⟩ := hv.len
  have hC := CBox.start hA (stepA 13 t k sz id n (.slice va vn vc))
  obtain ⟨W, hW⟩ : ∃ W, W = w.alloc (.cells (stepA 13 t k sz id n (.slice va vn vc)) 239 (0, 0)) := ⟨_, rfl⟩
  have HW := Lib.hid hW
  rw [← hW] at hC
  have hq := SwI.quiet (show SwI p c w s from ⟨_, _, hA⟩) hC.fr
  have hP := S_c13pf p c W s t k sz id n (.slice va vn vc) l (hv.keep (F := noF) hC.fr fun _ _ x => x) (fun j hj hx => hb j hj (hq.2.1 j hx)) hl hq.1 hok hout hpb hn
  obtain ⟨aP, aB, -, aF⟩ := hC.at (Grew.start ov (Fr.refl noF W))
  have ab0 := aB 0
  have ab1 := aB 1
  have ab2 := aB 2
  have ab3 := aB 3
  have ab4 := aB 4
  have ab5 := aB 5
  have ab6 := aB 6
  simp only [List.getElem?_toArray, List.getElem?_cons_zero, List.getElem?_cons_succ, List.size_toArray] at ab0 ab1 ab2 ab3 ab4 ab5 ab6
  clear aP aB
  have HP := Lib.hid hP
  have HH := Lib.hid (And.intro (show SwI p c w s from ⟨_, _, hA⟩) hC.fr)
  clear hC hA hW hv hb hl hout hok hvn aF hP hq hpb hn
  go_enter Tryz.func95, Tryz.ntmps95
  go_upto_region 1 with fail
  rw [← HW.out]
  go_wp2_with fail
  (with_reducible refine HP.out.mono ?_)
  rintro e Y ⟨rfl, hy1, hy2⟩
  have HX := Lib.hid (SR.under (k := 0) HH.out.1 HH.out.2 ⟨rfl, hy1, hy2⟩)
  clear hy1 hy2 ab0 ab1 ab2 ab3 ab4 ab5 ab6
  go_wp2
  go_ret
  exact HX.out

theorem S_s13qf (p : Nat) (c : ConfV) (w : World) (s : SSt) (t k sz id n : Int) (v : Value) (l : List UInt8) (hv : Rd w v l) (hb : ∀ k, vblk v k → ¬ SwF p w k) (hl : l.length ≤ 1000000) (h : SwI p c w s) (hok : s.okS) (hout : s.out.length ≤ 10000000000) (hpb : s.pb = false) (hn : n = 0) :
    Calls Tryz.prog 95 #[.pointer (some ⟨p, 0, none⟩), .agg (stepA 13 t k sz id n v)] w (SR p c w 0 ({ s with out := s.out ++ ([2]) })) := by
  obtain ⟨ov, uv, hA⟩ := h
  obtain ⟨va, vn, vc, rfl, hvn⟩ := hv.len
  have hC := CBox.start hA (stepA 13 t k sz id n (.slice va vn vc))
  obtain ⟨W, hW⟩ : ∃ W, W = w.alloc (.cells (stepA 13 t k sz id n (.slice va vn vc)) 239 (0, 0)) := ⟨_, rfl⟩
  have HW := Lib.hid hW
  rw [← hW] at hC
  have hq := SwI.quiet (show SwI p c w s from ⟨_, _, hA⟩) hC.fr
  have hP := S_c13qf p c W s t k sz id n (.slice va vn vc) l (hv.keep (F := noF) hC.fr fun _ _ x => x) (fun j hj hx => hb j hj (hq.2.1 j hx)) hl hq.1 hok hout hpb hn
  obtain ⟨aP, aB, -, aF⟩ := hC.at (Grew.start ov (Fr.refl noF W))
  have ab0 := aB 0
  have ab1 := aB 1
  have ab2 := aB 2
  have ab3 := aB 3
  have ab4 := aB 4
  have ab5 := aB 5
  have ab6 := aB 6
  simp only [List.getElem?_toArray, List.getElem?_cons_zero, List.getElem?_cons_succ, List.size_toArray] at ab0 ab1 ab2 ab3 ab4 ab5 ab6
  clear aP aB
  have HP := Lib.hid hP
  have HH := Lib.hid (And.intro (show SwI p c w s from ⟨_, _, hA⟩) hC.fr)
  clear hC hA hW hv hb hl hout hok hvn aF hP hq hpb hn
  go_enter Tryz.func95, Tryz.ntmps95
  go_upto_region 1 with fail
  rw [← HW.out]
  go_wp2_with fail
  (with_reducible refine HP.out.mono ?_)
  rintro e Y ⟨rfl, hy1, hy2⟩
  have HX := Lib.hid (SR.under (k := 0) HH.out.1 HH.out.2 ⟨rfl, hy1, hy2⟩)
  clear hy1 hy2 ab0 ab1 ab2 ab3 ab4 ab5 ab6
  go_wp2
  go_ret
  exact HX.out

theorem S_s14 (p : Nat) (c : ConfV) (w : World) (s : SSt) (t k sz id n : Int) (v : Value) (l : List UInt8) (hv : Rd w v l) (hb : ∀ k, vblk v k → ¬ SwF p w k) (hl : l.length ≤ 1000000) (h : SwI p c w s) (hok : s.okS) (hout : s.out.length ≤ 10000000000) :
    Calls Tryz.prog 95 #[.pointer (some ⟨p, 0, none⟩), .agg (stepA 14 t k sz id n v)] w (SR p c w 0 ({ s with out := s.out ++ ([b8 n]) })) := by
  obtain ⟨ov, uv, hA⟩ := h
  obtain ⟨va, vn, vc, rfl, hvn⟩ := hv.len
  have hC := CBox.start hA (stepA 14 t k sz id n (.slice va vn vc))
  obtain ⟨W, hW⟩ : ∃ W, W = w.alloc (.cells (stepA 14 t k sz id n (.slice va vn vc)) 239 (0, 0)) := ⟨_, rfl⟩
  have HW := Lib.hid hW
  rw [← hW] at hC
  have hq := SwI.quiet (show SwI p c w s from ⟨_, _, hA⟩) hC.fr
  have hP := S_c14 p c W s t k sz id n (.slice va vn vc) l (hv.keep (F := noF) hC.fr fun _ _ x => x) (fun j hj hx => hb j hj (hq.2.1 j hx)) hl hq.1 hok hout
  obtain ⟨aP, aB, -, aF⟩ := hC.at (Grew.start ov (Fr.refl noF W))
  have ab0 := aB 0
  have ab1 := aB 1
  have ab2 := aB 2
  have ab3 := aB 3
  have ab4 := aB 4
  have ab5 := aB 5
  have ab6 := aB 6
  simp only [List.getElem?_toArray, List.getElem?_cons_zero, List.getElem?_cons_succ, List.size_toArray] at ab0 ab1 ab2 ab3 ab4 ab5 ab6
  clear aP aB
  have HP := Lib.hid hP
  have HH := Lib.hid (And.intro (show SwI p c w s from ⟨_, _, hA⟩) hC.fr)
  clear hC hA hW hv hb hl hout hok hvn aF hP hq
  go_enter Tryz.func95, Tryz.ntmps95
  go_upto_region 1 with fail
  rw [← HW.out]
  go_wp2_with fail
  (with_reducible refine HP.out.mono ?_)
  rintro e Y ⟨rfl, hy1, hy2⟩
  have HX := Lib.hid (SR.under (k := 0) HH.out.1 HH.out.2 ⟨rfl, hy1, hy2⟩)
  clear hy1 hy2 ab0 ab1 ab2 ab3 ab4 ab5 ab6
  go_wp2
  go_ret
  exact HX.out

theorem S_s15 (p : Nat) (c : ConfV) (w : World) (s : SSt) (t k sz id n : Int) (v : Value) (l : List UInt8) (hv : Rd w v l) (hb : ∀ k, vblk v k → ¬ SwF p w k) (hl : l.length ≤ 1000000) (h : SwI p c w s) (hok : s.okS) (hout : s.out.length ≤ 10000000000) :
    Calls Tryz.prog 95 #[.pointer (some ⟨p, 0, none⟩), .agg (stepA 15 t k sz id n v)] w (SR p c w 0 ({ s with out := s.out ++ (vint (zig (IntKind.i16.wrap n)).toNat) })) := by
  obtain ⟨ov, uv, hA⟩ := h
  obtain ⟨va, vn, vc, rfl, hvn⟩ := hv.len
  have hC := CBox.start hA (stepA 15 t k sz id n (.slice va vn vc))
  obtain ⟨W, hW⟩ : ∃ W, W = w.alloc (.cells (stepA 15 t k sz id n (.slice va vn vc)) 239 (0, 0)) := ⟨_, rfl⟩
  have HW := Lib.hid hW
  rw [← hW] at hC
  have hq := SwI.quiet (show SwI p c w s from ⟨_, _, hA⟩) hC.fr
  have hP := S_c15 p c W s t k sz id n (.slice va vn vc) l (hv.keep (F := noF) hC.fr fun _ _ x => x) (fun j hj hx => hb j hj (hq.2.1 j hx)) hl hq.1 hok hout
  obtain ⟨aP, aB, -, aF⟩ := hC.at (Grew.start ov (Fr.refl noF W))
  have ab0 := aB 0
  have ab1 := aB 1
  have ab2 := aB 2
  have ab3 := aB 3
  have ab4 := aB 4
  have ab5 := aB 5
  have ab6 := aB 6
  simp only [List.getElem?_toArray, List.getElem?_cons_zero, List.getElem?_cons_succ, List.size_toArray] at ab0 ab1 ab2 ab3 ab4 ab5 ab6
  clear aP aB
  have HP := Lib.hid hP
  have HH := Lib.hid (And.intro (show SwI p c w s from ⟨_, _, hA⟩) hC.fr)
  clear hC hA hW hv hb hl hout hok hvn aF hP hq
  go_enter Tryz.func95, Tryz.ntmps95
  go_upto_region 1 with fail
  rw [← HW.out]
  go_wp2_with fail
  (with_reducible refine HP.out.mono ?_)
  rintro e Y ⟨rfl, hy1, hy2⟩
  have HX := Lib.hid (SR.under (k := 0) HH.out.1 HH.out.2 ⟨rfl, hy1, hy2⟩)
  clear hy1 hy2 ab0 ab1 ab2 ab3 ab4 ab5 ab6
  go_wp2
  go_ret
  exact HX.out

theorem S_s16 (p : Nat) (c : ConfV) (w : World) (s : SSt) (t k sz id n : Int) (v : Value) (l : List UInt8) (hv : Rd w v l) (hb : ∀ k, vblk v k → ¬ SwF p w k) (hl : l.length ≤ 1000000) (h : SwI p c w s) (hok : s.okS) (hout : s.out.length ≤ 10000000000) :
    Calls Tryz.prog 95 #[.pointer (some ⟨p, 0, none⟩), .agg (stepA 16 t k sz id n v)] w (SR p c w 0 ({ s with out := s.out ++ (vint (zig (IntKind.i32.wrap n)).toNat) })) := by
  obtain ⟨ov, uv, hA⟩ := h
  obtain ⟨va, vn, vc, rfl, hvn⟩ := hv.len
  have hC := CBox.start hA (stepA 16 t k sz id n (.slice va vn vc))
  obtain ⟨W, hW⟩ : ∃ W, W = w.alloc (.cells (stepA 16 t k sz id n (.slice va vn vc)) 239 (0, 0)) := ⟨_, rfl⟩
  have HW := Lib.hid hW
  rw [← hW] at hC
  have hq := SwI.quiet (show SwI p c w s from ⟨_, _, hA⟩) hC.fr
  have hP := S_c16 p c W s t k sz id n (.slice va vn vc) l (hv.keep (F := noF) hC.fr fun _ _ x => x) (fun j hj hx => hb j hj (hq.2.1 j hx)) hl hq.1 hok hout
  obtain ⟨aP, aB, -, aF⟩ := hC.at (Grew.start ov (Fr.refl noF W))
  have ab0 := aB 0
  have ab1 := aB 1
  have ab2 := aB 2
  have ab3 := aB 3
  have ab4 := aB 4
  have ab5 := aB 5
  have ab6 := aB 6
  simp only [List.getElem?_toArray, List.getElem?_cons_zero, List.getElem?_cons_succ, List.size_toArray] at ab0 ab1 ab2 ab3 ab4 ab5 ab6
  clear aP aB
  have HP := Lib.hid hP
  have HH := Lib.hid (And.intro (show SwI p c w s from ⟨_, _, hA⟩) hC.fr)
  clear hC hA hW hv hb hl hout hok hvn aF hP hq
  go_enter Tryz.func95, Tryz.ntmps95
  go_upto_region 1 with fail
  rw [← HW.out]
  go_wp2_with fail
  (with_reducible refine HP.out.mono ?_)
  rintro e Y ⟨rfl, hy1, hy2⟩
  have HX := Lib.hid (SR.under (k := 0) HH.out.1 HH.out.2 ⟨rfl, hy1, hy2⟩)
  clear hy1 hy2 ab0 ab1 ab2 ab3 ab4 ab5 ab6
  go_wp2
  go_ret
  exact HX.out

theorem S_s17 (p : Nat) (c : ConfV) (w : World) (s : SSt) (t k sz id n : Int) (v : Value) (l : List UInt8) (hv : Rd w v l) (hb : ∀ k, vblk v k → ¬ SwF p w k) (hl : l.length ≤ 1000000) (h : SwI p c w s) (hok : s.okS) (hout : s.out.length ≤ 10000000000) (hr : -9223372036854775808 ≤ n ∧ n < 9223372036854775808) :
    Calls Tryz.prog 95 #[.pointer (some ⟨p, 0, none⟩), .agg (stepA 17 t k sz id n v)] w (SR p c w 0 ({ s with out := s.out ++ (vint (zig n).toNat) })) := by
  obtain ⟨ov, uv, hA⟩ := h
  obtain ⟨va, vn, vc, rfl, hvn⟩ := hv.len
  have hC := CBox.start hA (stepA 17 t k sz id n (.slice va vn vc))
  obtain ⟨W, hW⟩ : ∃ W, W = w.alloc (.cells (stepA 17 t k sz id n (.slice va vn vc)) 239 (0, 0)) := ⟨_, rfl⟩
  have HW := Lib.hid hW
  rw [← hW] at hC
  have hq := SwI.quiet (show SwI p c w s from ⟨_, _, hA⟩) hC.fr
  have hP := S_c17 p c W s t k sz id n (.slice va vn vc) l (hv.keep (F := noF) hC.fr fun _ _ x => x) (fun j hj hx => hb j hj (hq.2.1 j hx)) hl hq.1 hok hout hr
  obtain ⟨aP, aB, -, aF⟩ := hC.at (Grew.start ov (Fr.refl noF W))
  have ab0 := aB 0
  have ab1 := aB 1
  have ab2 := aB 2
  have ab3 := aB 3
  have ab4 := aB 4
  have ab5 := aB 5
  have ab6 := aB 6
  simp only [List.getElem?_toArray, List.getElem?_cons_zero, List.getElem?_cons_succ, List.size_toArray] at ab0 ab1 ab2 ab3 ab4 ab5 ab6
  clear aP aB
  have HP := Lib.hid hP
  have HH := Lib.hid (And.intro (show SwI p c w s from ⟨_, _, hA⟩) hC.fr)
  clear hC hA hW hv hb hl hout hok hvn aF hP hq hr
  go_enter Tryz.func95, Tryz.ntmps95
  go_upto_region 1 with fail
  rw [← HW.out]
  go_wp2_with fail
  (with_reducible refine HP.out.mono ?_)
  rintro e Y ⟨rfl, hy1, hy2⟩
  have HX := Lib.hid (SR.under (k := 0) HH.out.1 HH.out.2 ⟨rfl, hy1, hy2⟩)
  clear hy1 hy2 ab0 ab1 ab2 ab3 ab4 ab5 ab6
  go_wp2
  go_ret
  exact HX.out

theorem S_s19 (p : Nat) (c : ConfV) (w : World) (s : SSt) (t k sz id n : Int) (v : Value) (l : List UInt8) (hv : Rd w v l) (hb : ∀ k, vblk v k → ¬ SwF p w k) (hl : l.length ≤ 1000000) (h : SwI p c w s) (hok : s.okS) (hout : s.out.length ≤ 10000000000) :
    Calls Tryz.prog 95 #[.pointer (some ⟨p, 0, none⟩), .agg (stepA 19 t k sz id n v)] w (SR p c w 0 ({ s with out := s.out ++ (vint (l.length % 4294967296) ++ l) })) := by
  obtain ⟨ov, uv, hA⟩ := h
  obtain ⟨va, vn, vc, rfl, hvn⟩ := hv.len
  have hC := CBox.start hA (stepA 19 t k sz id n (.slice va vn vc))
  obtain ⟨W, hW⟩ : ∃ W, W = w.alloc (.cells (stepA 19 t k sz id n (.slice va vn vc)) 239 (0, 0)) := ⟨_, rfl⟩
  have HW := Lib.hid hW
  rw [← hW] at hC
  have hq := SwI.quiet (show SwI p c w s from ⟨_, _, hA⟩) hC.fr
  have hP := S_c19 p c W s t k sz id n (.slice va vn vc) l (hv.keep (F := noF) hC.fr fun _ _ x => x) (fun j hj hx => hb j hj (hq.2.1 j hx)) hl hq.1 hok hout
  obtain ⟨aP, aB, -, aF⟩ := hC.at (Grew.start ov (Fr.refl noF W))
  have ab0 := aB 0
  have ab1 := aB 1
  have ab2 := aB 2
  have ab3 := aB 3
  have ab4 := aB 4
  have ab5 := aB 5
  have ab6 := aB 6
  simp only [List.getElem?_toArray, List.getElem?_cons_zero, List.getElem?_cons_succ, List.size_toArray] at ab0 ab1 ab2 ab3 ab4 ab5 ab6
  clear aP aB
  have HP := Lib.hid hP
  have HH := Lib.hid (And.intro (show SwI p c w s from ⟨_, _, hA⟩) hC.fr)
  clear hC hA hW hv hb hl hout hok hvn aF hP hq
  go_enter Tryz.func95, Tryz.ntmps95
  go_upto_region 1 with fail
  rw [← HW.out]
  go_wp2_with fail
  (with_reducible refine HP.out.mono ?_)
  rintro e Y ⟨rfl, hy1, hy2⟩
  have HX := Lib.hid (SR.under (k := 0) HH.out.1 HH.out.2 ⟨rfl, hy1, hy2⟩)
  clear hy1 hy2 ab0 ab1 ab2 ab3 ab4 ab5 ab6
  go_wp2
  go_ret
  exact HX.out

theorem S_s20 (p : Nat) (c : ConfV) (w : World) (s : SSt) (t k sz id n : Int) (v : Value) (l : List UInt8) (hv : Rd w v l) (hb : ∀ k, vblk v k → ¬ SwF p w k) (hl : l.length ≤ 1000000) (h : SwI p c w s) (hok : s.okS) (hout : s.out.length ≤ 10000000000) :
    Calls Tryz.prog 95 #[.pointer (some ⟨p, 0, none⟩), .agg (stepA 20 t k sz id n v)] w (SR p c w 0 ({ s with out := s.out ++ (vint (l.length % 4294967296) ++ l) })) := by
  obtain ⟨ov, uv, hA⟩ := h
  obtain ⟨va, vn, vc, rfl, hvn⟩ := hv.len
  have hC := CBox.start hA (stepA 20 t k sz id n (.slice va vn vc))
  obtain ⟨W, hW⟩ : ∃ W, W = w.alloc (.cells (stepA 20 t k sz id n (.slice va vn vc)) 239 (0, 0)) := ⟨_, rfl⟩
  have HW := Lib.hid hW
  rw [← hW] at hC
  have hq := SwI.quiet (show SwI p c w s from ⟨_, _, hA⟩) hC.fr
  have hP := S_c20 p c W s t k sz id n (.slice va vn vc) l (hv.keep (F := noF) hC.fr fun _ _ x => x) (fun j hj hx => hb j hj (hq.2.1 j hx)) hl hq.1 hok hout
  obtain ⟨aP, aB, -, aF⟩ := hC.at (Grew.start ov (Fr.refl noF W))
  have ab0 := aB 0
  have ab1 := aB 1
  have ab2 := aB 2
  have ab3 := aB 3
  have ab4 := aB 4
  have ab5 := aB 5
  have ab6 := aB 6
  simp only [List.getElem?_toArray, List.getElem?_cons_zero, List.getElem?_cons_succ, List.size_toArray] at ab0 ab1 ab2 ab3 ab4 ab5 ab6
  clear aP aB
  have HP := Lib.hid hP
  have HH := Lib.hid (And.intro (show SwI p c w s from ⟨_, _, hA⟩) hC.fr)
  clear hC hA hW hv hb hl hout hok hvn aF hP hq
  go_enter Tryz.func95, Tryz.ntmps95
  go_upto_region 1 with fail
  rw [← HW.out]
  go_wp2_with fail
  (with_reducible refine HP.out.mono ?_)
  rintro e Y ⟨rfl, hy1, hy2⟩
  have HX := Lib.hid (SR.under (k := 0) HH.out.1 HH.out.2 ⟨rfl, hy1, hy2⟩)
  clear hy1 hy2 ab0 ab1 ab2 ab3 ab4 ab5 ab6
  go_wp2
  go_ret
  exact HX.out

theorem S_s21 (p : Nat) (c : ConfV) (w : World) (s : SSt) (t k sz id n : Int) (v : Value) (l : List UInt8) (hv : Rd w v l) (hb : ∀ k, vblk v k → ¬ SwF p w k) (hl : l.length ≤ 1000000) (h : SwI p c w s) (hok : s.okS) (hout : s.out.length ≤ 10000000000) :
    Calls Tryz.prog 95 #[.pointer (some ⟨p, 0, none⟩), .agg (stepA 21 t k sz id n v)] w (SR p c w 0 ({ s with out := s.out ++ (pad16 l) })) := by
  obtain ⟨ov, uv, hA⟩ := h
  obtain ⟨va, vn, vc, rfl, hvn⟩ := hv.len
  have hC := CBox.start hA (stepA 21 t k sz id n (.slice va vn vc))
  obtain ⟨W, hW⟩ : ∃ W, W = w.alloc (.cells (stepA 21 t k sz id n (.slice va vn vc)) 239 (0, 0)) := ⟨_, rfl⟩
  have HW := Lib.hid hW
  rw [← hW] at hC
  have hq := SwI.quiet (show SwI p c w s from ⟨_, _, hA⟩) hC.fr
  have hP := S_c21 p c W s t k sz id n (.slice va vn vc) l (hv.keep (F := noF) hC.fr fun _ _ x => x) (fun j hj hx => hb j hj (hq.2.1 j hx)) hl hq.1 hok hout
  obtain ⟨aP, aB, -, aF⟩ := hC.at (Grew.start ov (Fr.refl noF W))
  have ab0 := aB 0
  have ab1 := aB 1
  have ab2 := aB 2
  have ab3 := aB 3
  have ab4 := aB 4
  have ab5 := aB 5
  have ab6 := aB 6
  simp only [List.getElem?_toArray, List.getElem?_cons_zero, List.getElem?_cons_succ, List.size_toArray] at ab0 ab1 ab2 ab3 ab4 ab5 ab6
  clear aP aB
  have HP := Lib.hid hP
  have HH := Lib.hid (And.intro (show SwI p c w s from ⟨_, _, hA⟩) hC.fr)
  clear hC hA hW hv hb hl hout hok hvn aF hP hq
  go_enter Tryz.func95, Tryz.ntmps95
  go_upto_region 1 with fail
  rw [← HW.out]
  go_wp2_with fail
  (with_reducible refine HP.out.mono ?_)
  rintro e Y ⟨rfl, hy1, hy2⟩
  have HX := Lib.hid (SR.under (k := 0) HH.out.1 HH.out.2 ⟨rfl, hy1, hy2⟩)
  clear hy1 hy2 ab0 ab1 ab2 ab3 ab4 ab5 ab6
  go_wp2
  go_ret
  exact HX.out

theorem S_s1 (p : Nat) (c : ConfV) (w : World) (s : SSt) (t k sz id n : Int) (v : Value) (l : List UInt8) (hv : Rd w v l) (hb : ∀ k, vblk v k → ¬ SwF p w k) (hl : l.length ≤ 1000000) (h : SwI p c w s) (hok : s.okS) (hout : s.out.length ≤ 10000000000) :
    Calls Tryz.prog 95 #[.pointer (some ⟨p, 0, none⟩), .agg (stepA 1 t k sz id n v)] w (SR p c w 0 (s)) := by
  obtain ⟨ov, uv, hA⟩ := h
  obtain ⟨va, vn, vc, rfl, hvn⟩ := hv.len
  have hC := CBox.start hA (stepA 1 t k sz id n (.slice va vn vc))
  obtain ⟨W, hW⟩ : ∃ W, W = w.alloc (.cells (stepA 1 t k sz id n (.slice va vn vc)) 239 (0, 0)) := ⟨_, rfl⟩
  have HW := Lib.hid hW
  rw [← hW] at hC
  obtain ⟨aP, aB, -, aF⟩ := hC.at (Grew.start ov (Fr.refl noF W))
  have ab0 := aB 0
  have ab1 := aB 1
  have ab2 := aB 2
  have ab3 := aB 3
  have ab4 := aB 4
  have ab5 := aB 5
  have ab6 := aB 6
  simp only [List.getElem?_toArray, List.getElem?_cons_zero, List.getElem?_cons_succ, List.size_toArray] at ab0 ab1 ab2 ab3 ab4 ab5 ab6
  clear aP aB
  have HX := Lib.hid (SR.under (k := 0) (show SwI p c w s from ⟨_, _, hA⟩) hC.fr (SR.self (SwI.quiet (show SwI p c w s from ⟨_, _, hA⟩) hC.fr).1 0))
  clear hC hA hW hv hb hl hout hok hvn aF 
  go_enter Tryz.func95, Tryz.ntmps95
  go_upto_region 1 with fail
  rw [← HW.out]
  go_wp2
  go_ret
  exact HX.out

theorem S_s5 (p : Nat) (c : ConfV) (w : World) (s : SSt) (t k sz id n : Int) (v : Value) (l : List UInt8) (hv : Rd w v l) (hb : ∀ k, vblk v k → ¬ SwF p w k) (hl : l.length ≤ 1000000) (h : SwI p c w s) (hok : s.okS) (hout : s.out.length ≤ 10000000000) :
    Calls Tryz.prog 95 #[.pointer (some ⟨p, 0, none⟩), .agg (stepA 5 t k sz id n v)] w (SR p c w 0 (s)) := by
  obtain ⟨ov, uv, hA⟩ := h
  obtain ⟨va, vn, vc, rfl, hvn⟩ := hv.len
  have hC := CBox.start hA (stepA 5 t k sz id n (.slice va vn vc))
  obtain ⟨W, hW⟩ : ∃ W, W = w.alloc (.cells (stepA 5 t k sz id n (.slice va vn vc)) 239 (0, 0)) := ⟨_, rfl⟩
  have HW := Lib.hid hW
  rw [← hW] at hC
  obtain ⟨aP, aB, -, aF⟩ := hC.at (Grew.start ov (Fr.refl noF W))
  have ab0 := aB 0
  have ab1 := aB 1
  have ab2 := aB 2
  have ab3 := aB 3
  have ab4 := aB 4
  have ab5 := aB 5
  have ab6 := aB 6
  simp only [List.getElem?_toArray, List.getElem?_cons_zero, List.getElem?_cons_succ, List.size_toArray] at ab0 ab1 ab2 ab3 ab4 ab5 ab6
  clear aP aB
  have HX := Lib.hid (SR.under (k := 0) (show SwI p c w s from ⟨_, _, hA⟩) hC.fr (SR.self (SwI.quiet (show SwI p c w s from ⟨_, _, hA⟩) hC.fr).1 0))
  clear hC hA hW hv hb hl hout hok hvn aF 
  go_enter Tryz.func95, Tryz.ntmps95
  go_upto_region 1 with fail
  rw [← HW.out]
  go_wp2
  go_ret
  exact HX.out

theorem S_s8 (p : Nat) (c : ConfV) (w : World) (s : SSt) (t k sz id n : Int) (v : Value) (l : List UInt8) (hv : Rd w v l) (hb : ∀ k, vblk v k → ¬ SwF p w k) (hl : l.length ≤ 1000000) (h : SwI p c w s) (hok : s.okS) (hout : s.out.length ≤ 10000000000) :
    Calls Tryz.prog 95 #[.pointer (some ⟨p, 0, none⟩), .agg (stepA 8 t k sz id n v)] w (SR p c w 0 (s)) := by
  obtain ⟨ov, uv, hA⟩ := h
  obtain ⟨va, vn, vc, rfl, hvn⟩ := hv.len
  have hC := CBox.start hA (stepA 8 t k sz id n (.slice va vn vc))
  obtain ⟨W, hW⟩ : ∃ W, W = w.alloc (.cells (stepA 8 t k sz id n (.slice va vn vc)) 239 (0, 0)) := ⟨_, rfl⟩
  have HW := Lib.hid hW
  rw [← hW] at hC
  obtain ⟨aP, aB, -, aF⟩ := hC.at (Grew.start ov (Fr.refl noF W))
  have ab0 := aB 0
  have ab1 := aB 1
  have ab2 := aB 2
  have ab3 := aB 3
  have ab4 := aB 4
  have ab5 := aB 5
  have ab6 := aB 6
  simp only [List.getElem?_toArray, List.getElem?_cons_zero, List.getElem?_cons_succ, List.size_toArray] at ab0 ab1 ab2 ab3 ab4 ab5 ab6
  clear aP aB
  have HX := Lib.hid (SR.under (k := 0) (show SwI p c w s from ⟨_, _, hA⟩) hC.fr (SR.self (SwI.quiet (show SwI p c w s from ⟨_, _, hA⟩) hC.fr).1 0))
  clear hC hA hW hv hb hl hout hok hvn aF 
  go_enter Tryz.func95, Tryz.ntmps95
  go_upto_region 1 with fail
  rw [← HW.out]
  go_wp2
  go_ret
  exact HX.out

theorem S_s10 (p : Nat) (c : ConfV) (w : World) (s : SSt) (t k sz id n : Int) (v : Value) (l : List UInt8) (hv : Rd w v l) (hb : ∀ k, vblk v k → ¬ SwF p w k) (hl : l.length ≤ 1000000) (h : SwI p c w s) (hok : s.okS) (hout : s.out.length ≤ 10000000000) :
    Calls Tryz.prog 95 #[.pointer (some ⟨p, 0, none⟩), .agg (stepA 10 t k sz id n v)] w (SR p c w 0 (s)) := by
  obtain ⟨ov, uv, hA⟩ := h
  obtain ⟨va, vn, vc, rfl, hvn⟩ := hv.len
  have hC := CBox.start hA (stepA 10 t k sz id n (.slice va vn vc))
  obtain ⟨W, hW⟩ : ∃ W, W = w.alloc (.cells (stepA 10 t k sz id n (.slice va vn vc)) 239 (0, 0)) := ⟨_, rfl⟩
  have HW := Lib.hid hW
  rw [← hW] at hC
  obtain ⟨aP, aB, -, aF⟩ := hC.at (Grew.start ov (Fr.refl noF W))
  have ab0 := aB 0
  have ab1 := aB 1
  have ab2 := aB 2
  have ab3 := aB 3
  have ab4 := aB 4
  have ab5 := aB 5
  have ab6 := aB 6
  simp only [List.getElem?_toArray, List.getElem?_cons_zero, List.getElem?_cons_succ, List.size_toArray] at ab0 ab1 ab2 ab3 ab4 ab5 ab6
  clear aP aB
  have HX := Lib.hid (SR.under (k := 0) (show SwI p c w s from ⟨_, _, hA⟩) hC.fr (SR.self (SwI.quiet (show SwI p c w s from ⟨_, _, hA⟩) hC.fr).1 0))
  clear hC hA hW hv hb hl hout hok hvn aF 
  go_enter Tryz.func95, Tryz.ntmps95
  go_upto_region 1 with fail
  rw [← HW.out]
  go_wp2
  go_ret
  exact HX.out

theorem S_s12 (p : Nat) (c : ConfV) (w : World) (s : SSt) (t k sz id n : Int) (v : Value) (l : List UInt8) (hv : Rd w v l) (hb : ∀ k, vblk v k → ¬ SwF p w k) (hl : l.length ≤ 1000000) (h : SwI p c w s) (hok : s.okS) (hout : s.out.length ≤ 10000000000) :
    Calls Tryz.prog 95 #[.pointer (some ⟨p, 0, none⟩), .agg (stepA 12 t k sz id n v)] w (SR p c w 0 (s)) := by
  obtain ⟨ov, uv, hA⟩ := h
  obtain ⟨va, vn, vc, rfl, hvn⟩ := hv.len
  have hC := CBox.start hA (stepA 12 t k sz id n (.slice va vn vc))
  obtain ⟨W, hW⟩ : ∃ W, W = w.alloc (.cells (stepA 12 t k sz id n (.slice va vn vc)) 239 (0, 0)) := ⟨_, rfl⟩
  have HW := Lib.hid hW
  rw [← hW] at hC
  obtain ⟨aP, aB, -, aF⟩ := hC.at (Grew.start ov (Fr.refl noF W))
  have ab0 := aB 0
  have ab1 := aB 1
  have ab2 := aB 2
  have ab3 := aB 3
  have ab4 := aB 4
  have ab5 := aB 5
  have ab6 := aB 6
  simp only [List.getElem?_toArray, List.getElem?_cons_zero, List.getElem?_cons_succ, List.size_toArray] at ab0 ab1 ab2 ab3 ab4 ab5 ab6
  clear aP aB
  have HX := Lib.hid (SR.under (k := 0) (show SwI p c w s from ⟨_, _, hA⟩) hC.fr (SR.self (SwI.quiet (show SwI p c w s from ⟨_, _, hA⟩) hC.fr).1 0))
  clear hC hA hW hv hb hl hout hok hvn aF 
  go_enter Tryz.func95, Tryz.ntmps95
  go_upto_region 1 with fail
  rw [← HW.out]
  go_wp2
  go_ret
  exact HX.out

theorem S_s4 (p : Nat) (c : ConfV) (w : World) (s : SSt) (t k sz id n : Int) (v : Value) (l : List UInt8) (hv : Rd w v l) (hb : ∀ k, vblk v k → ¬ SwF p w k) (hl : l.length ≤ 1000000) (h : SwI p c w s) (hok : s.okS) (hout : s.out.length ≤ 10000000000) :
    Calls Tryz.prog 95 #[.pointer (some ⟨p, 0, none⟩), .agg (stepA 4 t k sz id n v)] w (SR p c w (sCs s (.fieldBegin (t % 256) (IntKind.i16.wrap id))).2 (sCs s (.fieldBegin (t % 256) (IntKind.i16.wrap id))).1) := by
  obtain ⟨ov, uv, hA⟩ := h
  obtain ⟨va, vn, vc, rfl, hvn⟩ := hv.len
  have hC := CBox.start hA (stepA 4 t k sz id n (.slice va vn vc))
  obtain ⟨W, hW⟩ : ∃ W, W = w.alloc (.cells (stepA 4 t k sz id n (.slice va vn vc)) 239 (0, 0)) := ⟨_, rfl⟩
  have HW := Lib.hid hW
  rw [← hW] at hC
  have hq := SwI.quiet (show SwI p c w s from ⟨_, _, hA⟩) hC.fr
  have hz := i16_rng id
  have hP := S_cfield p c W s (t % 256) (IntKind.i16.wrap id) ⟨by omega, by omega⟩ ⟨by omega, by omega⟩ hq.1 hok hout
  have ha := and255 t
  have hw : IntKind.i64.wrap (IntKind.i16.wrap id) = IntKind.i16.wrap id := by rw [IntKind.wrap_i64]; omega
  obtain ⟨aP, aB, -, aF⟩ := hC.at (Grew.start ov (Fr.refl noF W))
  have ab0 := aB 0
  have ab1 := aB 1
  have ab2 := aB 2
  have ab3 := aB 3
  have ab4 := aB 4
  have ab5 := aB 5
  have ab6 := aB 6
  simp only [List.getElem?_toArray, List.getElem?_cons_zero, List.getElem?_cons_succ, List.size_toArray] at ab0 ab1 ab2 ab3 ab4 ab5 ab6
  clear aP aB
  obtain ⟨k1, hk1⟩ : ∃ k, k = (sCs s (.fieldBegin (t % 256) (IntKind.i16.wrap id))).2 := ⟨_, rfl⟩
  obtain ⟨s1, hs1⟩ : ∃ k, k = (sCs s (.fieldBegin (t % 256) (IntKind.i16.wrap id))).1 := ⟨_, rfl⟩
  rw [← hk1, ← hs1] at hP ⊢
  have HP := Lib.hid hP
  have HH := Lib.hid (And.intro (show SwI p c w s from ⟨_, _, hA⟩) hC.fr)
  clear hC hA hW hv hb hl hout hok hvn aF hP hq hz hk1 hs1
  go_enter Tryz.func95, Tryz.ntmps95
  go_upto_region 1 with fail
  rw [← HW.out]
  go_wp2_with fail
  (with_reducible refine HP.out.mono ?_)
  rintro e Y ⟨rfl, hy1, hy2⟩
  have HX := Lib.hid (SR.under (k := k1) HH.out.1 HH.out.2 ⟨rfl, hy1, hy2⟩)
  clear hy1 hy2 ab0 ab1 ab2 ab3 ab4 ab5 ab6
  go_wp2
  go_ret
  exact HX.out

theorem S_s6 (p : Nat) (c : ConfV) (w : World) (s : SSt) (t k sz id n : Int) (v : Value) (l : List UInt8) (hv : Rd w v l) (hb : ∀ k, vblk v k → ¬ SwF p w k) (hl : l.length ≤ 1000000) (h : SwI p c w s) (hok : s.okS) (hout : s.out.length ≤ 10000000000) :
    Calls Tryz.prog 95 #[.pointer (some ⟨p, 0, none⟩), .agg (stepA 6 t k sz id n v)] w (SR p c w 0 ({ s with out := s.out ++ ([0]) })) := by
  obtain ⟨ov, uv, hA⟩ := h
  obtain ⟨va, vn, vc, rfl, hvn⟩ := hv.len
  have hC := CBox.start hA (stepA 6 t k sz id n (.slice va vn vc))
  obtain ⟨W, hW⟩ : ∃ W, W = w.alloc (.cells (stepA 6 t k sz id n (.slice va vn vc)) 239 (0, 0)) := ⟨_, rfl⟩
  have HW := Lib.hid hW
  rw [← hW] at hC
  obtain ⟨aP, aB, -, aF⟩ := hC.at (Grew.start ov (Fr.refl noF W))
  have ap7 := aP 7
  have ab0 := aB 0
  have ab1 := aB 1
  have ab2 := aB 2
  have ab3 := aB 3
  have ab4 := aB 4
  have ab5 := aB 5
  have ab6 := aB 6
  simp only [List.getElem?_toArray, List.getElem?_cons_zero, List.getElem?_cons_succ, List.size_toArray] at ap7 ab0 ab1 ab2 ab3 ab4 ab5 ab6
  clear aP aB
  have HB := Lib.hid (And.intro ((Fr.refl noF W).alloc (.cells #[.int .u8 0] U8 (0, 0))) (own_byte (u := 0) (by decide) (alloc_new W (.cells #[.int .u8 0] U8 (0, 0)))))
  obtain ⟨rP, rB, -, rF⟩ := hC.at (Grew.start ov ((Fr.refl noF W).alloc (.cells #[.int .u8 0] U8 (0, 0))))
  have rp7 := rP 7
  simp only [List.getElem?_toArray, List.getElem?_cons_zero, List.getElem?_cons_succ, List.size_toArray] at rp7
  clear rP rB
  have HC := Lib.hid hC
  have HL := Lib.hid hout
  clear hC hA hW hv hb hl hout hok hvn aF rF
  go_enter Tryz.func95, Tryz.ntmps95
  go_upto_region 1 with fail
  rw [← HW.out]
  go_wp2_with (at_builtin; refine append_bytes_at rfl _ _ rfl 0 ov (.slice (some ⟨W.heap.size, 0, none⟩) 1 1) s.out [0] rfl (HC.out.own HB.out.1) rfl HB.out.2 (by have := HL.out; simp only [List.length_singleton]; omega) (Nat.zero_le _) ?_)
  intro v' Z ho hg hat
  obtain ⟨za, zn, zc, rfl, -⟩ := ho.rd.len
  have hzG : Grew W Z ov := Grew.more (Grew.start ov HB.out.1) (OwnAt.refl W ov) hg
  have hzA : OwnAt w (.slice za zn zc) ov := (OwnAt.refl w ov).nextN (Nat.le_trans HC.out.le (Nat.le_succ _)) hat
  have zp7 := (HC.out.at hzG).1 7
  have zf7 := (HC.out.at hzG).2.2.2 7
  simp only [List.getElem?_toArray, List.getElem?_cons_zero, List.getElem?_cons_succ, List.size_toArray] at zp7
  have HX := Lib.hid (HC.out.fin hzG ho hzA)
  clear ho hg hat hzG hzA ap7 rp7 ab0 ab1 ab2 ab3 ab4 ab5 ab6
  go_wp2
  go_ret
  exact HX.out

end Go.Proofs.YtdifknecndlklaaGreatDoor
namespace Go.Proofs.YtdifknecndlklaaGreatDoor
open Go Go.RowKit
set_option maxHeartbeats 4000000
set_option maxRecDepth 100000
set_option linter.all false

theorem S_m7 (p : Nat) (c : ConfV) (w : World) (s : SSt) (t k sz id n : Int) (v : Value) (l : List UInt8) (hv : Rd w v l) (hb : ∀ k, vblk v k → ¬ SwF p w k) (hl : l.length ≤ 1000000) (h : SwI p c w s) (hok : s.okS) (hout : s.out.length ≤ 10000000000) :
    Calls Tryz.prog 104 #[.pointer (some ⟨p, 0, none⟩), .agg (stepA 7 t k sz id n v)] w (SR p c w (sCs s (.mapBegin (k % 256) (t % 256) sz)).2 (sCs s (.mapBegin (k % 256) (t % 256) sz)).1) := by
  have hmod : 0 ≤ sz → sz ≤ 2147483647 → sz % 4294967296 = sz := fun _ _ => by omega
  simp only [sCs]
  rcases Int.lt_or_le sz 0 with h1 | h1
  · rw [if_pos (Or.inl h1)]
    exact S_m7neg p c w s t k sz id n v l hv hb hl h hok hout h1
  rcases Int.lt_or_le 2147483647 sz with h2 | h2
  · rw [if_pos (Or.inr h2)]
    exact S_m7big p c w s t k sz id n v l hv hb hl h hok hout h2
  rw [if_neg (by omega : ¬ (sz < 0 ∨ 2147483647 < sz))]
  by_cases h3 : sz = 0
  · rw [if_pos h3]
    exact S_m7zero p c w s t k sz id n v l hv hb hl h hok hout h3
  rw [if_neg h3]
  by_cases hct : ctype (t % 256) = 0
  · rw [if_pos (Or.inl hct)]
    exact S_m7ct0 p c w s t k sz id n v l hv hb hl h hok hout h1 h2 hct h3
  by_cases hck : ctype (k % 256) = 0
  · rw [if_pos (Or.inr hck)]
    exact S_m7ck0 p c w s t k sz id n v l hv hb hl h hok hout h1 h2 h3 hct hck
  rw [if_neg (by rintro (h | h); exact hct h; exact hck h), mapC, if_neg h3, hmod h1 h2]
  exact S_m7map p c w s t k sz id n v l hv hb hl h hok hout h1 h2 h3 hct hck

theorem S_s7 (p : Nat) (c : ConfV) (w : World) (s : SSt) (t k sz id n : Int) (v : Value) (l : List UInt8) (hv : Rd w v l) (hb : ∀ k, vblk v k → ¬ SwF p w k) (hl : l.length ≤ 1000000) (h : SwI p c w s) (hok : s.okS) (hout : s.out.length ≤ 10000000000) :
    Calls Tryz.prog 95 #[.pointer (some ⟨p, 0, none⟩), .agg (stepA 7 t k sz id n v)] w (SR p c w (sCs s (.mapBegin (k % 256) (t % 256) sz)).2 (sCs s (.mapBegin (k % 256) (t % 256) sz)).1) := by
  obtain ⟨ov, uv, hA⟩ := h
  obtain ⟨va, vn, vc, rfl, hvn⟩ := hv.len
  have hC := CBox.start hA (stepA 7 t k sz id n (.slice va vn vc))
  obtain ⟨W, hW⟩ : ∃ W, W = w.alloc (.cells (stepA 7 t k sz id n (.slice va vn vc)) 239 (0, 0)) := ⟨_, rfl⟩
  have HW := Lib.hid hW
  rw [← hW] at hC
  have hq := SwI.quiet (show SwI p c w s from ⟨_, _, hA⟩) hC.fr
  have hP := S_m7 p c W s t k sz id n (.slice va vn vc) l (hv.keep (F := noF) hC.fr fun _ _ x => x) (fun j hj hx => hb j hj (hq.2.1 j hx)) hl hq.1 hok hout
  obtain ⟨aP, aB, -, aF⟩ := hC.at (Grew.start ov (Fr.refl noF W))
  have ab0 := aB 0
  have ab1 := aB 1
  have ab2 := aB 2
  have ab3 := aB 3
  have ab4 := aB 4
  have ab5 := aB 5
  have ab6 := aB 6
  simp only [List.getElem?_toArray, List.getElem?_cons_zero, List.getElem?_cons_succ, List.size_toArray] at ab0 ab1 ab2 ab3 ab4 ab5 ab6
  clear aP aB
  obtain ⟨k1, hk1⟩ : ∃ k1, k1 = (sCs s (.mapBegin (k % 256) (t % 256) sz)).2 := ⟨_, rfl⟩
  obtain ⟨s1, hs1⟩ : ∃ k1, k1 = (sCs s (.mapBegin (k % 256) (t % 256) sz)).1 := ⟨_, rfl⟩
  rw [← hk1, ← hs1] at hP ⊢
  have HP := Lib.hid hP
  have HH := Lib.hid (And.intro (show SwI p c w s from ⟨_, _, hA⟩) hC.fr)
  clear hC hA hW hv hb hl hout hok hvn aF hP hq hk1 hs1
  go_enter Tryz.func95, Tryz.ntmps95
  go_upto_region 1 with fail
  rw [← HW.out]
  go_wp2_with fail
  (with_reducible refine HP.out.mono ?_)
  rintro e Y ⟨rfl, hy1, hy2⟩
  have HX := Lib.hid (SR.under (k := k1) HH.out.1 HH.out.2 ⟨rfl, hy1, hy2⟩)
  clear hy1 hy2 ab0 ab1 ab2 ab3 ab4 ab5 ab6
  go_wp2
  go_ret
  exact HX.out

theorem S_m9 (p : Nat) (c : ConfV) (w : World) (s : SSt) (t k sz id n : Int) (v : Value) (l : List UInt8) (hv : Rd w v l) (hb : ∀ k, vblk v k → ¬ SwF p w k) (hl : l.length ≤ 1000000) (h : SwI p c w s) (hok : s.okS) (hout : s.out.length ≤ 10000000000) :
    Calls Tryz.prog 104 #[.pointer (some ⟨p, 0, none⟩), .agg (stepA 9 t k sz id n v)] w (SR p c w (sCs s (.listBegin (t % 256) sz)).2 (sCs s (.listBegin (t % 256) sz)).1) := by
  have hmod : 0 ≤ sz → sz ≤ 2147483647 → sz % 4294967296 = sz := fun _ _ => by omega
  simp only [sCs]
  rcases Int.lt_or_le sz 0 with h1 | h1
  · rw [if_pos (Or.inl h1)]
    exact S_m9neg p c w s t k sz id n v l hv hb hl h hok hout h1
  rcases Int.lt_or_le 2147483647 sz with h2 | h2
  · rw [if_pos (Or.inr h2)]
    exact S_m9big p c w s t k sz id n v l hv hb hl h hok hout h2
  rw [if_neg (by omega : ¬ (sz < 0 ∨ 2147483647 < sz))]
  by_cases hct : ctype (t % 256) = 0
  · rw [if_pos hct]
    exact S_m9ct0 p c w s t k sz id n v l hv hb hl h hok hout h1 h2 hct
  rw [if_neg hct, listC]
  by_cases h3 : sz ≤ 14
  · rw [if_pos h3]
    exact S_m9small p c w s t k sz id n v l hv hb hl h hok hout h1 h3 hct
  rw [if_neg h3, hmod h1 h2]
  exact S_m9large p c w s t k sz id n v l hv hb hl h hok hout (by omega) h2 hct

theorem S_s9 (p : Nat) (c : ConfV) (w : World) (s : SSt) (t k sz id n : Int) (v : Value) (l : List UInt8) (hv : Rd w v l) (hb : ∀ k, vblk v k → ¬ SwF p w k) (hl : l.length ≤ 1000000) (h : SwI p c w s) (hok : s.okS) (hout : s.out.length ≤ 10000000000) :
    Calls Tryz.prog 95 #[.pointer (some ⟨p, 0, none⟩), .agg (stepA 9 t k sz id n v)] w (SR p c w (sCs s (.listBegin (t % 256) sz)).2 (sCs s (.listBegin (t % 256) sz)).1) := by
  obtain ⟨ov, uv, hA⟩ := h
  obtain ⟨va, vn, vc, rfl, hvn⟩ := hv.len
  have hC := CBox.start hA (stepA 9 t k sz id n (.slice va vn vc))
  obtain ⟨W, hW⟩ : ∃ W, W = w.alloc (.cells (stepA 9 t k sz id n (.slice va vn vc)) 239 (0, 0)) := ⟨_, rfl⟩
  have HW := Lib.hid hW
  rw [← hW] at hC
  have hq := SwI.quiet (show SwI p c w s from ⟨_, _, hA⟩) hC.fr
  have hP := S_m9 p c W s t k sz id n (.slice va vn vc) l (hv.keep (F := noF) hC.fr fun _ _ x => x) (fun j hj hx => hb j hj (hq.2.1 j hx)) hl hq.1 hok hout
  obtain ⟨aP, aB, -, aF⟩ := hC.at (Grew.start ov (Fr.refl noF W))
  have ab0 := aB 0
  have ab1 := aB 1
  have ab2 := aB 2
  have ab3 := aB 3
  have ab4 := aB 4
  have ab5 := aB 5
  have ab6 := aB 6
  simp only [List.getElem?_toArray, List.getElem?_cons_zero, List.getElem?_cons_succ, List.size_toArray] at ab0 ab1 ab2 ab3 ab4 ab5 ab6
  clear aP aB
  obtain ⟨k1, hk1⟩ : ∃ k1, k1 = (sCs s (.listBegin (t % 256) sz)).2 := ⟨_, rfl⟩
  obtain ⟨s1, hs1⟩ : ∃ k1, k1 = (sCs s (.listBegin (t % 256) sz)).1 := ⟨_, rfl⟩
  rw [← hk1, ← hs1] at hP ⊢
  have HP := Lib.hid hP
  have HH := Lib.hid (And.intro (show SwI p c w s from ⟨_, _, hA⟩) hC.fr)
  clear hC hA hW hv hb hl hout hok hvn aF hP hq hk1 hs1
  go_enter Tryz.func95, Tryz.ntmps95
  go_upto_region 1 with fail
  rw [← HW.out]
  go_wp2_with fail
  (with_reducible refine HP.out.mono ?_)
  rintro e Y ⟨rfl, hy1, hy2⟩
  have HX := Lib.hid (SR.under (k := k1) HH.out.1 HH.out.2 ⟨rfl, hy1, hy2⟩)
  clear hy1 hy2 ab0 ab1 ab2 ab3 ab4 ab5 ab6
  go_wp2
  go_ret
  exact HX.out

theorem S_m11 (p : Nat) (c : ConfV) (w : World) (s : SSt) (t k sz id n : Int) (v : Value) (l : List UInt8) (hv : Rd w v l) (hb : ∀ k, vblk v k → ¬ SwF p w k) (hl : l.length ≤ 1000000) (h : SwI p c w s) (hok : s.okS) (hout : s.out.length ≤ 10000000000) :
    Calls Tryz.prog 104 #[.pointer (some ⟨p, 0, none⟩), .agg (stepA 11 t k sz id n v)] w (SR p c w (sCs s (.setBegin (t % 256) sz)).2 (sCs s (.setBegin (t % 256) sz)).1) := by
  have hmod : 0 ≤ sz → sz ≤ 2147483647 → sz % 4294967296 = sz := fun _ _ => by omega
  simp only [sCs]
  rcases Int.lt_or_le sz 0 with h1 | h1
  · rw [if_pos (Or.inl h1)]
    exact S_m11neg p c w s t k sz id n v l hv hb hl h hok hout h1
  rcases Int.lt_or_le 2147483647 sz with h2 | h2
  · rw [if_pos (Or.inr h2)]
    exact S_m11big p c w s t k sz id n v l hv hb hl h hok hout h2
  rw [if_neg (by omega : ¬ (sz < 0 ∨ 2147483647 < sz))]
  by_cases hct : ctype (t % 256) = 0
  · rw [if_pos hct]
    exact S_m11ct0 p c w s t k sz id n v l hv hb hl h hok hout h1 h2 hct
  rw [if_neg hct, listC]
  by_cases h3 : sz ≤ 14
  · rw [if_pos h3]
    exact S_m11small p c w s t k sz id n v l hv hb hl h hok hout h1 h3 hct
  rw [if_neg h3, hmod h1 h2]
  exact S_m11large p c w s t k sz id n v l hv hb hl h hok hout (by omega) h2 hct

theorem S_s11 (p : Nat) (c : ConfV) (w : World) (s : SSt) (t k sz id n : Int) (v : Value) (l : List UInt8) (hv : Rd w v l) (hb : ∀ k, vblk v k → ¬ SwF p w k) (hl : l.length ≤ 1000000) (h : SwI p c w s) (hok : s.okS) (hout : s.out.length ≤ 10000000000) :
    Calls Tryz.prog 95 #[.pointer (some ⟨p, 0, none⟩), .agg (stepA 11 t k sz id n v)] w (SR p c w (sCs s (.setBegin (t % 256) sz)).2 (sCs s (.setBegin (t % 256) sz)).1) := by
  obtain ⟨ov, uv, hA⟩ := h
  obtain ⟨va, vn, vc, rfl, hvn⟩ := hv.len
  have hC := CBox.start hA (stepA 11 t k sz id n (.slice va vn vc))
  obtain ⟨W, hW⟩ : ∃ W, W = w.alloc (.cells (stepA 11 t k sz id n (.slice va vn vc)) 239 (0, 0)) := ⟨_, rfl⟩
  have HW := Lib.hid hW
  rw [← hW] at hC
  have hq := SwI.quiet (show SwI p c w s from ⟨_, _, hA⟩) hC.fr
  have hP := S_m11 p c W s t k sz id n (.slice va vn vc) l (hv.keep (F := noF) hC.fr fun _ _ x => x) (fun j hj hx => hb j hj (hq.2.1 j hx)) hl hq.1 hok hout
  obtain ⟨aP, aB, -, aF⟩ := hC.at (Grew.start ov (Fr.refl noF W))
  have ab0 := aB 0
  have ab1 := aB 1
  have ab2 := aB 2
  have ab3 := aB 3
  have ab4 := aB 4
  have ab5 := aB 5
  have ab6 := aB 6
  simp only [List.getElem?_toArray, List.getElem?_cons_zero, List.getElem?_cons_succ, List.size_toArray] at ab0 ab1 ab2 ab3 ab4 ab5 ab6
  clear aP aB
  obtain ⟨k1, hk1⟩ : ∃ k1, k1 = (sCs s (.setBegin (t % 256) sz)).2 := ⟨_, rfl⟩
  obtain ⟨s1, hs1⟩ : ∃ k1, k1 = (sCs s (.setBegin (t % 256) sz)).1 := ⟨_, rfl⟩
  rw [← hk1, ← hs1] at hP ⊢
  have HP := Lib.hid hP
  have HH := Lib.hid (And.intro (show SwI p c w s from ⟨_, _, hA⟩) hC.fr)
  clear hC hA hW hv hb hl hout hok hvn aF hP hq hk1 hs1
  go_enter Tryz.func95, Tryz.ntmps95
  go_upto_region 1 with fail
  rw [← HW.out]
  go_wp2_with fail
  (with_reducible refine HP.out.mono ?_)
  rintro e Y ⟨rfl, hy1, hy2⟩
  have HX := Lib.hid (SR.under (k := k1) HH.out.1 HH.out.2 ⟨rfl, hy1, hy2⟩)
  clear hy1 hy2 ab0 ab1 ab2 ab3 ab4 ab5 ab6
  go_wp2
  go_ret
  exact HX.out

end Go.Proofs.YtdifknecndlklaaGreatDoor
namespace Go.Proofs.YtdifknecndlklaaGreatDoor
open Go Go.RowKit
set_option maxHeartbeats 4000000
set_option maxRecDepth 100000
set_option linter.all false

theorem S_s18 (p : Nat) (c : ConfV) (w : World) (s : SSt) (t k sz id n : Int) (v : Value) (l : List UInt8) (hv : Rd w v l) (hb : ∀ k, vblk v k → ¬ SwF p w k) (hl : l.length ≤ 1000000) (h : SwI p c w s) (hok : s.okS) (hout : s.out.length ≤ 9000000000) :
    Calls Tryz.prog 95 #[.pointer (some ⟨p, 0, none⟩), .agg (stepA 18 t k sz id n v)] w (SR p c w 0 ({ s with out := s.out ++ (le8 ((IntKind.u64.wrap n).toNat : Int)) })) := by
  obtain ⟨ov, uv, hA⟩ := h
  obtain ⟨va, vn, vc, rfl, hvn⟩ := hv.len
  have hC := CBox.start hA (stepA 18 t k sz id n (.slice va vn vc))
  obtain ⟨W, hW⟩ : ∃ W, W = w.alloc (.cells (stepA 18 t k sz id n (.slice va vn vc)) 239 (0, 0)) := ⟨_, rfl⟩
  have HW := Lib.hid hW
  rw [← hW] at hC
  have hq := SwI.quiet (show SwI p c w s from ⟨_, _, hA⟩) hC.fr
  have hP := S_c18 p c W s t k sz id n (.slice va vn vc) l (hv.keep (F := noF) hC.fr fun _ _ x => x) (fun j hj hx => hb j hj (hq.2.1 j hx)) hl hq.1 hok hout
  obtain ⟨aP, aB, -, aF⟩ := hC.at (Grew.start ov (Fr.refl noF W))
  have ab0 := aB 0
  have ab1 := aB 1
  have ab2 := aB 2
  have ab3 := aB 3
  have ab4 := aB 4
  have ab5 := aB 5
  have ab6 := aB 6
  simp only [List.getElem?_toArray, List.getElem?_cons_zero, List.getElem?_cons_succ, List.size_toArray] at ab0 ab1 ab2 ab3 ab4 ab5 ab6
  clear aP aB
  have HP := Lib.hid hP
  have HH := Lib.hid (And.intro (show SwI p c w s from ⟨_, _, hA⟩) hC.fr)
  clear hC hA hW hv hb hl hout hok hvn aF hP hq
  go_enter Tryz.func95, Tryz.ntmps95
  go_upto_region 1 with fail
  rw [← HW.out]
  go_wp2_with fail
  (with_reducible refine HP.out.mono ?_)
  rintro e Y ⟨rfl, hy1, hy2⟩
  have HX := Lib.hid (SR.under (k := 0) HH.out.1 HH.out.2 ⟨rfl, hy1, hy2⟩)
  clear hy1 hy2 ab0 ab1 ab2 ab3 ab4 ab5 ab6
  go_wp2
  go_ret
  exact HX.out

/-- Any step, where nothing is lost and no bool waits. -/
theorem S_cstep (p : Nat) (c : ConfV) (w : World) (s : SSt) (K t k sz id n : Int) (v : Value) (l : List UInt8) (op : WOp) (hop : (⟨K, t, k, sz, id, n, v, l⟩ : Stp).wop = some op) (hr : op.rngN) (hv : Rd w v l) (hb : ∀ k, vblk v k → ¬ SwF p w k) (hl : l.length ≤ 1000000) (h : SwI p c w s) (hok : s.okS) (hout9 : s.out.length ≤ 9000000000) (hou : s.outer.length ≤ 10000000000) :
    Calls Tryz.prog 95 #[.pointer (some ⟨p, 0, none⟩), .agg (stepA K t k sz id n v)] w (SR p c w (sCs s op).2 (sCs s op).1) := by
  have hout : s.out.length ≤ 10000000000 := by omega
  have hK : K = 0 ∨ K = 1 ∨ K = 2 ∨ K = 3 ∨ K = 4 ∨ K = 5 ∨ K = 6 ∨ K = 7 ∨ K = 8 ∨ K = 9 ∨ K = 10 ∨ K = 11 ∨ K = 12 ∨ K = 13 ∨ K = 14 ∨ K = 15 ∨ K = 16 ∨ K = 17 ∨ K = 18 ∨ K = 19 ∨ K = 20 ∨ K = 21 := by
    rcases Decidable.em (0 ≤ K ∧ K ≤ 21) with h | h
    · omega
    · rw [wop_none (x := ⟨K, t, k, sz, id, n, v, l⟩) (show K < 0 ∨ 21 < K by omega)] at hop
      cases hop
  rcases hK with rfl | rfl | rfl | rfl | rfl | rfl | rfl | rfl | rfl | rfl | rfl | rfl | rfl | rfl | rfl | rfl | rfl | rfl | rfl | rfl | rfl | rfl
  all_goals (simp only [Stp.wop, Option.some.injEq] at hop; subst hop)
  · exact S_s0 p c w s t k sz id n v l hv hb hl h hok hout9
  · exact S_s1 p c w s t k sz id n v l hv hb hl h hok hout
  · exact S_s2 p c w s t k sz id n v l hv hb hl h hok hout hou
  · simp only [sCs]
    by_cases he : s.outer = []
    · rw [if_pos he]
      exact S_s3e p c w s t k sz id n v l hv hb hl h hok hout he
    · rw [if_neg he]
      exact S_s3 p c w s t k sz id n v l hv hb hl h hok hout he
  · exact S_s4 p c w s t k sz id n v l hv hb hl h hok hout
  · exact S_s5 p c w s t k sz id n v l hv hb hl h hok hout
  · exact S_s6 p c w s t k sz id n v l hv hb hl h hok hout
  · exact S_s7 p c w s t k sz id n v l hv hb hl h hok hout
  · exact S_s8 p c w s t k sz id n v l hv hb hl h hok hout
  · exact S_s9 p c w s t k sz id n v l hv hb hl h hok hout
  · exact S_s10 p c w s t k sz id n v l hv hb hl h hok hout
  · exact S_s11 p c w s t k sz id n v l hv hb hl h hok hout
  · exact S_s12 p c w s t k sz id n v l hv hb hl h hok hout
  · simp only [sCs]
    by_cases hn : n = 0
    · have hn1 : (n != 0) = false := by simp [hn]
      rw [hn1]
      cases hpb : s.pb
      · have := S_s13qf p c w s t k sz id n v l hv hb hl h hok hout hpb hn
        rw [hpb] at this
        exact this
      · exact S_s13pf p c w s t k sz id n v l hv hb hl h hok hout hpb hn
    · have hn1 : (n != 0) = true := by simp [hn]
      rw [hn1]
      cases hpb : s.pb
      · have := S_s13qt p c w s t k sz id n v l hv hb hl h hok hout hpb hn
        rw [hpb] at this
        exact this
      · exact S_s13pt p c w s t k sz id n v l hv hb hl h hok hout hpb hn
  · simp only [sCs, b8_i8]
    exact S_s14 p c w s t k sz id n v l hv hb hl h hok hout
  · exact S_s15 p c w s t k sz id n v l hv hb hl h hok hout
  · exact S_s16 p c w s t k sz id n v l hv hb hl h hok hout
  · exact S_s17 p c w s t k sz id n v l hv hb hl h hok hout (by simp only [WOp.rngN] at hr; omega)
  · exact S_s18 p c w s t k sz id n v l hv hb hl h hok hout9
  · exact S_s19 p c w s t k sz id n v l hv hb hl h hok hout
  · exact S_s20 p c w s t k sz id n v l hv hb hl h hok hout
  · exact S_s21 p c w s t k sz id n v l hv hb hl h hok hout
end Go.Proofs.YtdifknecndlklaaGreatDoor
namespace Go.Proofs.YtdifknecndlklaaGreatDoor
open Go Go.RowKit
set_option maxHeartbeats 4000000
set_option maxRecDepth 100000
set_option linter.all false

theorem wop_bool (K t k sz id n : Int) (v : Value) (l : List UInt8) (op : WOp) (hop : (⟨K, t, k, sz, id, n, v, l⟩ : Stp).wop = some op) : op.isBool = decide (K = 13) := by
  have hK : K = 0 ∨ K = 1 ∨ K = 2 ∨ K = 3 ∨ K = 4 ∨ K = 5 ∨ K = 6 ∨ K = 7 ∨ K = 8 ∨ K = 9 ∨ K = 10 ∨ K = 11 ∨ K = 12 ∨ K = 13 ∨ K = 14 ∨ K = 15 ∨ K = 16 ∨ K = 17 ∨ K = 18 ∨ K = 19 ∨ K = 20 ∨ K = 21 := by
    rcases Decidable.em (0 ≤ K ∧ K ≤ 21) with h | h
    · omega
    · rw [wop_none (x := ⟨K, t, k, sz, id, n, v, l⟩) (show K < 0 ∨ 21 < K by omega)] at hop
      cases hop
  rcases hK with rfl | rfl | rfl | rfl | rfl | rfl | rfl | rfl | rfl | rfl | rfl | rfl | rfl | rfl | rfl | rfl | rfl | rfl | rfl | rfl | rfl | rfl
  all_goals (simp only [Stp.wop, Option.some.injEq] at hop; subst hop; rfl)

theorem S_cl (p : Nat) (c : ConfV) (w : World) (s : SSt) (K t k sz id n : Int) (v : Value) (l : List UInt8) (hv : Rd w v l) (hb : ∀ k, vblk v k → ¬ SwF p w k) (hl : l.length ≤ 1000000) (h : SwI p c w s) (hok : s.okS) (hout : s.out.length ≤ 9000000000) (hlo : s.lost = true) :
    Calls Tryz.prog 91 #[.pointer (some ⟨p, 0, none⟩), .agg (stepA K t k sz id n v)] w (SR p c w (-2) { s with lost := true }) := by
  obtain ⟨ov, uv, hA⟩ := h
  obtain ⟨va, vn, vc, rfl, hvn⟩ := hv.len
  have hC := CBox.start hA (stepA K t k sz id n (.slice va vn vc))
  obtain ⟨W, hW⟩ : ∃ W, W = w.alloc (.cells (stepA K t k sz id n (.slice va vn vc)) 239 (0, 0)) := ⟨_, rfl⟩
  have HW := Lib.hid hW
  rw [← hW] at hC
  have hAW := hA.keep hC.fr fun _ _ x => x
  obtain ⟨aP, aB, -, aF⟩ := hC.at (Grew.start ov (Fr.refl noF W))
  have ap10 := aP 10
  have ap12 := aP 12
  have ab0 := aB 0
  simp only [List.getElem?_toArray, List.getElem?_cons_zero, List.getElem?_cons_succ, List.size_toArray] at ap10 ap12 ab0
  clear aP aB
  have af12 := aF 12
  obtain ⟨hA2, hF2⟩ := hAW.setLost true
  rw [hlo] at ap12
  have HX := Lib.hid (SR.under (k := -2) (show SwI p c w s from ⟨_, _, hA⟩) hC.fr (e := .returned (.int .i64 (-2))) ⟨rfl, ⟨_, _, hA2⟩, hF2⟩)
  clear hC hA hW hv hb hl hout hok hvn aF hAW hA2 hF2 hlo
  go_enter Tryz.func91, Tryz.ntmps91
  go_upto_region 1 with fail
  rw [← HW.out]
  go_wp2
  go_ret
  exact HX.out

theorem S_cp (p : Nat) (c : ConfV) (w : World) (s : SSt) (K t k sz id n : Int) (v : Value) (l : List UInt8) (hv : Rd w v l) (hb : ∀ k, vblk v k → ¬ SwF p w k) (hl : l.length ≤ 1000000) (h : SwI p c w s) (hok : s.okS) (hout : s.out.length ≤ 9000000000) (hlo : s.lost = false) (hpb : s.pb = true) (hK : K ≠ 13) :
    Calls Tryz.prog 91 #[.pointer (some ⟨p, 0, none⟩), .agg (stepA K t k sz id n v)] w (SR p c w (-2) { s with lost := true }) := by
  obtain ⟨ov, uv, hA⟩ := h
  obtain ⟨va, vn, vc, rfl, hvn⟩ := hv.len
  have hC := CBox.start hA (stepA K t k sz id n (.slice va vn vc))
  obtain ⟨W, hW⟩ : ∃ W, W = w.alloc (.cells (stepA K t k sz id n (.slice va vn vc)) 239 (0, 0)) := ⟨_, rfl⟩
  have HW := Lib.hid hW
  rw [← hW] at hC
  have hAW := hA.keep hC.fr fun _ _ x => x
  obtain ⟨aP, aB, -, aF⟩ := hC.at (Grew.start ov (Fr.refl noF W))
  have ap10 := aP 10
  have ap12 := aP 12
  have ab0 := aB 0
  simp only [List.getElem?_toArray, List.getElem?_cons_zero, List.getElem?_cons_succ, List.size_toArray] at ap10 ap12 ab0
  clear aP aB
  have af12 := aF 12
  obtain ⟨hA2, hF2⟩ := hAW.setLost true
  rw [hlo] at ap12
  rw [hpb] at ap10
  have hK1 : (K != 13) = true := by simp [hK]
  have HX := Lib.hid (SR.under (k := -2) (show SwI p c w s from ⟨_, _, hA⟩) hC.fr (e := .returned (.int .i64 (-2))) ⟨rfl, ⟨_, _, hA2⟩, hF2⟩)
  clear hC hA hW hv hb hl hout hok hvn aF hAW hA2 hF2 hlo hpb hK
  go_enter Tryz.func91, Tryz.ntmps91
  go_upto_region 1 with fail
  rw [← HW.out]
  go_wp2
  go_ret
  exact HX.out

theorem S_cqy (p : Nat) (c : ConfV) (w : World) (s : SSt) (K t k sz id n : Int) (v : Value) (l : List UInt8) (hv : Rd w v l) (hb : ∀ k, vblk v k → ¬ SwF p w k) (hl : l.length ≤ 1000000) (h : SwI p c w s) (hok : s.okS) (hout : s.out.length ≤ 9000000000) (op : WOp) (hop : (⟨K, t, k, sz, id, n, v, l⟩ : Stp).wop = some op) (hr : op.rngN) (hou : s.outer.length ≤ 10000000000) (hlo : s.lost = false) (hpb : s.pb = false) (hk : (sCs s op).2 = -2) :
    Calls Tryz.prog 91 #[.pointer (some ⟨p, 0, none⟩), .agg (stepA K t k sz id n v)] w (SR p c w (sCs s op).2 { (sCs s op).1 with lost := true }) := by
  obtain ⟨ov, uv, hA⟩ := h
  obtain ⟨va, vn, vc, rfl, hvn⟩ := hv.len
  have hC := CBox.start hA (stepA K t k sz id n (.slice va vn vc))
  obtain ⟨W, hW⟩ : ∃ W, W = w.alloc (.cells (stepA K t k sz id n (.slice va vn vc)) 239 (0, 0)) := ⟨_, rfl⟩
  have HW := Lib.hid hW
  rw [← hW] at hC
  have hq := SwI.quiet (show SwI p c w s from ⟨_, _, hA⟩) hC.fr
  have hP := S_cstep p c W s K t k sz id n (.slice va vn vc) l op hop hr (hv.keep (F := noF) hC.fr fun _ _ x => x) (fun j hj hx => hb j hj (hq.2.1 j hx)) hl hq.1 hok hout hou
  obtain ⟨aP, aB, -, aF⟩ := hC.at (Grew.start ov (Fr.refl noF W))
  have ap10 := aP 10
  have ap12 := aP 12
  have ab0 := aB 0
  have ab1 := aB 1
  have ab2 := aB 2
  have ab3 := aB 3
  have ab4 := aB 4
  have ab5 := aB 5
  have ab6 := aB 6
  simp only [List.getElem?_toArray, List.getElem?_cons_zero, List.getElem?_cons_succ, List.size_toArray] at ap10 ap12 ab0 ab1 ab2 ab3 ab4 ab5 ab6
  clear aP aB
  obtain ⟨k1, hk1⟩ : ∃ k1, k1 = (sCs s op).2 := ⟨_, rfl⟩
  obtain ⟨s1, hs1⟩ : ∃ k1, k1 = (sCs s op).1 := ⟨_, rfl⟩
  rw [← hk1, ← hs1] at hP ⊢
  rw [← hk1] at hk
  rw [hlo] at ap12
  rw [hpb] at ap10
  have hkk : (k1 == -2) = true := by simp [hk]
  have HP := Lib.hid hP
  have HH := Lib.hid (And.intro (show SwI p c w s from ⟨_, _, hA⟩) hC.fr)
  clear hC hA hW hv hb hl hout hok hvn aF hP hq hk1 hs1 hlo hpb hop hr hou hk
  go_enter Tryz.func91, Tryz.ntmps91
  go_upto_region 1 with fail
  rw [← HW.out]
  go_wp2_with fail
  (with_reducible refine HP.out.mono ?_)
  rintro e Y ⟨rfl, ⟨ov2, uv2, hY⟩, hy2⟩
  obtain ⟨hA2, hF2⟩ := hY.setLost true
  have z12 : Y.cell? ⟨p, 12, none⟩ = some (.bool s1.lost) := by rw [cell_at hY.box]; rfl
  have zf12 := free_at hY.box 12
  have HX := Lib.hid (SR.under (k := k1) HH.out.1 HH.out.2 (e := .returned (.int .i64 k1)) ⟨rfl, ⟨_, _, hA2⟩, hy2.trans hF2⟩)
  clear hY hA2 hF2 hy2 ab0 ab1 ab2 ab3 ab4 ab5 ab6 ap10 ap12
  go_wp2
  go_ret
  exact HX.out

theorem S_cqn (p : Nat) (c : ConfV) (w : World) (s : SSt) (K t k sz id n : Int) (v : Value) (l : List UInt8) (hv : Rd w v l) (hb : ∀ k, vblk v k → ¬ SwF p w k) (hl : l.length ≤ 1000000) (h : SwI p c w s) (hok : s.okS) (hout : s.out.length ≤ 9000000000) (op : WOp) (hop : (⟨K, t, k, sz, id, n, v, l⟩ : Stp).wop = some op) (hr : op.rngN) (hou : s.outer.length ≤ 10000000000) (hlo : s.lost = false) (hpb : s.pb = false) (hk : (sCs s op).2 ≠ -2) :
    Calls Tryz.prog 91 #[.pointer (some ⟨p, 0, none⟩), .agg (stepA K t k sz id n v)] w (SR p c w (sCs s op).2 { (sCs s op).1 with lost := false }) := by
  obtain ⟨ov, uv, hA⟩ := h
  obtain ⟨va, vn, vc, rfl, hvn⟩ := hv.len
  have hC := CBox.start hA (stepA K t k sz id n (.slice va vn vc))
  obtain ⟨W, hW⟩ : ∃ W, W = w.alloc (.cells (stepA K t k sz id n (.slice va vn vc)) 239 (0, 0)) := ⟨_, rfl⟩
  have HW := Lib.hid hW
  rw [← hW] at hC
  have hq := SwI.quiet (show SwI p c w s from ⟨_, _, hA⟩) hC.fr
  have hP := S_cstep p c W s K t k sz id n (.slice va vn vc) l op hop hr (hv.keep (F := noF) hC.fr fun _ _ x => x) (fun j hj hx => hb j hj (hq.2.1 j hx)) hl hq.1 hok hout hou
  obtain ⟨aP, aB, -, aF⟩ := hC.at (Grew.start ov (Fr.refl noF W))
  have ap10 := aP 10
  have ap12 := aP 12
  have ab0 := aB 0
  have ab1 := aB 1
  have ab2 := aB 2
  have ab3 := aB 3
  have ab4 := aB 4
  have ab5 := aB 5
  have ab6 := aB 6
  simp only [List.getElem?_toArray, List.getElem?_cons_zero, List.getElem?_cons_succ, List.size_toArray] at ap10 ap12 ab0 ab1 ab2 ab3 ab4 ab5 ab6
  clear aP aB
  obtain ⟨k1, hk1⟩ : ∃ k1, k1 = (sCs s op).2 := ⟨_, rfl⟩
  obtain ⟨s1, hs1⟩ : ∃ k1, k1 = (sCs s op).1 := ⟨_, rfl⟩
  rw [← hk1, ← hs1] at hP ⊢
  rw [← hk1] at hk
  rw [hlo] at ap12
  rw [hpb] at ap10
  have hkk : (k1 == -2) = false := by simp [hk]
  have HP := Lib.hid hP
  have HH := Lib.hid (And.intro (show SwI p c w s from ⟨_, _, hA⟩) hC.fr)
  clear hC hA hW hv hb hl hout hok hvn aF hP hq hk1 hs1 hlo hpb hop hr hou hk
  go_enter Tryz.func91, Tryz.ntmps91
  go_upto_region 1 with fail
  rw [← HW.out]
  go_wp2_with fail
  (with_reducible refine HP.out.mono ?_)
  rintro e Y ⟨rfl, ⟨ov2, uv2, hY⟩, hy2⟩
  obtain ⟨hA2, hF2⟩ := hY.setLost false
  have z12 : Y.cell? ⟨p, 12, none⟩ = some (.bool s1.lost) := by rw [cell_at hY.box]; rfl
  have zf12 := free_at hY.box 12
  have HX := Lib.hid (SR.under (k := k1) HH.out.1 HH.out.2 (e := .returned (.int .i64 k1)) ⟨rfl, ⟨_, _, hA2⟩, hy2.trans hF2⟩)
  clear hY hA2 hF2 hy2 ab0 ab1 ab2 ab3 ab4 ab5 ab6 ap10 ap12
  go_wp2
  go_ret
  exact HX.out

theorem S_cby (p : Nat) (c : ConfV) (w : World) (s : SSt) (K t k sz id n : Int) (v : Value) (l : List UInt8) (hv : Rd w v l) (hb : ∀ k, vblk v k → ¬ SwF p w k) (hl : l.length ≤ 1000000) (h : SwI p c w s) (hok : s.okS) (hout : s.out.length ≤ 9000000000) (op : WOp) (hop : (⟨K, t, k, sz, id, n, v, l⟩ : Stp).wop = some op) (hr : op.rngN) (hou : s.outer.length ≤ 10000000000) (hlo : s.lost = false) (hpb : s.pb = true) (hK : K = 13) (hk : (sCs s op).2 = -2) :
    Calls Tryz.prog 91 #[.pointer (some ⟨p, 0, none⟩), .agg (stepA K t k sz id n v)] w (SR p c w (sCs s op).2 { (sCs s op).1 with lost := true }) := by
  obtain ⟨ov, uv, hA⟩ := h
  obtain ⟨va, vn, vc, rfl, hvn⟩ := hv.len
  have hC := CBox.start hA (stepA K t k sz id n (.slice va vn vc))
  obtain ⟨W, hW⟩ : ∃ W, W = w.alloc (.cells (stepA K t k sz id n (.slice va vn vc)) 239 (0, 0)) := ⟨_, rfl⟩
  have HW := Lib.hid hW
  rw [← hW] at hC
  have hq := SwI.quiet (show SwI p c w s from ⟨_, _, hA⟩) hC.fr
  have hP := S_cstep p c W s K t k sz id n (.slice va vn vc) l op hop hr (hv.keep (F := noF) hC.fr fun _ _ x => x) (fun j hj hx => hb j hj (hq.2.1 j hx)) hl hq.1 hok hout hou
  obtain ⟨aP, aB, -, aF⟩ := hC.at (Grew.start ov (Fr.refl noF W))
  have ap10 := aP 10
  have ap12 := aP 12
  have ab0 := aB 0
  have ab1 := aB 1
  have ab2 := aB 2
  have ab3 := aB 3
  have ab4 := aB 4
  have ab5 := aB 5
  have ab6 := aB 6
  simp only [List.getElem?_toArray, List.getElem?_cons_zero, List.getElem?_cons_succ, List.size_toArray] at ap10 ap12 ab0 ab1 ab2 ab3 ab4 ab5 ab6
  clear aP aB
  obtain ⟨k1, hk1⟩ : ∃ k1, k1 = (sCs s op).2 := ⟨_, rfl⟩
  obtain ⟨s1, hs1⟩ : ∃ k1, k1 = (sCs s op).1 := ⟨_, rfl⟩
  rw [← hk1, ← hs1] at hP ⊢
  rw [← hk1] at hk
  rw [hlo] at ap12
  rw [hpb] at ap10
  have hK1 : (K != 13) = false := by simp [hK]
  have hkk : (k1 == -2) = true := by simp [hk]
  have HP := Lib.hid hP
  have HH := Lib.hid (And.intro (show SwI p c w s from ⟨_, _, hA⟩) hC.fr)
  clear hC hA hW hv hb hl hout hok hvn aF hP hq hk1 hs1 hlo hpb hop hr hou hk hK
  go_enter Tryz.func91, Tryz.ntmps91
  go_upto_region 1 with fail
  rw [← HW.out]
  go_wp2_with fail
  (with_reducible refine HP.out.mono ?_)
  rintro e Y ⟨rfl, ⟨ov2, uv2, hY⟩, hy2⟩
  obtain ⟨hA2, hF2⟩ := hY.setLost true
  have z12 : Y.cell? ⟨p, 12, none⟩ = some (.bool s1.lost) := by rw [cell_at hY.box]; rfl
  have zf12 := free_at hY.box 12
  have HX := Lib.hid (SR.under (k := k1) HH.out.1 HH.out.2 (e := .returned (.int .i64 k1)) ⟨rfl, ⟨_, _, hA2⟩, hy2.trans hF2⟩)
  clear hY hA2 hF2 hy2 ab0 ab1 ab2 ab3 ab4 ab5 ab6 ap10 ap12
  go_wp2
  go_ret
  exact HX.out

theorem S_cbn (p : Nat) (c : ConfV) (w : World) (s : SSt) (K t k sz id n : Int) (v : Value) (l : List UInt8) (hv : Rd w v l) (hb : ∀ k, vblk v k → ¬ SwF p w k) (hl : l.length ≤ 1000000) (h : SwI p c w s) (hok : s.okS) (hout : s.out.length ≤ 9000000000) (op : WOp) (hop : (⟨K, t, k, sz, id, n, v, l⟩ : Stp).wop = some op) (hr : op.rngN) (hou : s.outer.length ≤ 10000000000) (hlo : s.lost = false) (hpb : s.pb = true) (hK : K = 13) (hk : (sCs s op).2 ≠ -2) :
    Calls Tryz.prog 91 #[.pointer (some ⟨p, 0, none⟩), .agg (stepA K t k sz id n v)] w (SR p c w (sCs s op).2 { (sCs s op).1 with lost := false }) := by
  obtain ⟨ov, uv, hA⟩ := h
  obtain ⟨va, vn, vc, rfl, hvn⟩ := hv.len
  have hC := CBox.start hA (stepA K t k sz id n (.slice va vn vc))
  obtain ⟨W, hW⟩ : ∃ W, W = w.alloc (.cells (stepA K t k sz id n (.slice va vn vc)) 239 (0, 0)) := ⟨_, rfl⟩
  have HW := Lib.hid hW
  rw [← hW] at hC
  have hq := SwI.quiet (show SwI p c w s from ⟨_, _, hA⟩) hC.fr
  have hP := S_cstep p c W s K t k sz id n (.slice va vn vc) l op hop hr (hv.keep (F := noF) hC.fr fun _ _ x => x) (fun j hj hx => hb j hj (hq.2.1 j hx)) hl hq.1 hok hout hou
  obtain ⟨aP, aB, -, aF⟩ := hC.at (Grew.start ov (Fr.refl noF W))
  have ap10 := aP 10
  have ap12 := aP 12
  have ab0 := aB 0
  have ab1 := aB 1
  have ab2 := aB 2
  have ab3 := aB 3
  have ab4 := aB 4
  have ab5 := aB 5
  have ab6 := aB 6
  simp only [List.getElem?_toArray, List.getElem?_cons_zero, List.getElem?_cons_succ, List.size_toArray] at ap10 ap12 ab0 ab1 ab2 ab3 ab4 ab5 ab6
  clear aP aB
  obtain ⟨k1, hk1⟩ : ∃ k1, k1 = (sCs s op).2 := ⟨_, rfl⟩
  obtain ⟨s1, hs1⟩ : ∃ k1, k1 = (sCs s op).1 := ⟨_, rfl⟩
  rw [← hk1, ← hs1] at hP ⊢
  rw [← hk1] at hk
  rw [hlo] at ap12
  rw [hpb] at ap10
  have hK1 : (K != 13) = false := by simp [hK]
  have hkk : (k1 == -2) = false := by simp [hk]
  have HP := Lib.hid hP
  have HH := Lib.hid (And.intro (show SwI p c w s from ⟨_, _, hA⟩) hC.fr)
  clear hC hA hW hv hb hl hout hok hvn aF hP hq hk1 hs1 hlo hpb hop hr hou hk hK
  go_enter Tryz.func91, Tryz.ntmps91
  go_upto_region 1 with fail
  rw [← HW.out]
  go_wp2_with fail
  (with_reducible refine HP.out.mono ?_)
  rintro e Y ⟨rfl, ⟨ov2, uv2, hY⟩, hy2⟩
  obtain ⟨hA2, hF2⟩ := hY.setLost false
  have z12 : Y.cell? ⟨p, 12, none⟩ = some (.bool s1.lost) := by rw [cell_at hY.box]; rfl
  have zf12 := free_at hY.box 12
  have HX := Lib.hid (SR.under (k := k1) HH.out.1 HH.out.2 (e := .returned (.int .i64 k1)) ⟨rfl, ⟨_, _, hA2⟩, hy2.trans hF2⟩)
  clear hY hA2 hF2 hy2 ab0 ab1 ab2 ab3 ab4 ab5 ab6 ap10 ap12
  go_wp2
  go_ret
  exact HX.out

/-- Any step by the compact protocol. -/
theorem S_compact (p : Nat) (c : ConfV) (w : World) (s : SSt) (K t k sz id n : Int) (v : Value) (l : List UInt8) (op : WOp) (hop : (⟨K, t, k, sz, id, n, v, l⟩ : Stp).wop = some op) (hr : op.rngN) (hv : Rd w v l) (hb : ∀ k, vblk v k → ¬ SwF p w k) (hl : l.length ≤ 1000000) (h : SwI p c w s) (hok : s.okS) (hout : s.out.length ≤ 9000000000) (hou : s.outer.length ≤ 10000000000) :
    Calls Tryz.prog 91 #[.pointer (some ⟨p, 0, none⟩), .agg (stepA K t k sz id n v)] w (SR p c w (sC s op).2 (sC s op).1) := by
  have hib := wop_bool K t k sz id n v l op hop
  unfold sC
  cases hlo : s.lost
  · cases hpb : s.pb
    · rw [if_neg (by simp)]
      by_cases hk : (sCs s op).2 = -2
      · rw [decide_eq_true hk]
        exact S_cqy p c w s K t k sz id n v l hv hb hl h hok hout op hop hr hou hlo hpb hk
      · rw [decide_eq_false hk]
        exact S_cqn p c w s K t k sz id n v l hv hb hl h hok hout op hop hr hou hlo hpb hk
    · by_cases hK : K = 13
      · rw [if_neg (by rw [hib, decide_eq_true hK]; simp)]
        by_cases hk : (sCs s op).2 = -2
        · rw [decide_eq_true hk]
          exact S_cby p c w s K t k sz id n v l hv hb hl h hok hout op hop hr hou hlo hpb hK hk
        · rw [decide_eq_false hk]
          exact S_cbn p c w s K t k sz id n v l hv hb hl h hok hout op hop hr hou hlo hpb hK hk
      · rw [if_pos (Or.inr ⟨rfl, by rw [hib, decide_eq_false hK]⟩)]
        have := S_cp p c w s K t k sz id n v l hv hb hl h hok hout hlo hpb hK
        rw [hpb] at this
        exact this
  · rw [if_pos (Or.inl rfl)]
    exact S_cl p c w s K t k sz id n v l hv hb hl h hok hout hlo
end Go.Proofs.YtdifknecndlklaaGreatDoor
