/- The thin package gets: what known() needs. -/
import Derived.Test.YtdedkoahfailcaaGreatDoorRd
import Derived.Laws.ResultCell
namespace Go.Proofs.YtdedkoahfailcaaGreatDoor
open Go Go.RowKit
set_option maxHeartbeats 1000000
set_option maxRecDepth 100000

theorem methB_ReadI32 (a : Addr) (w : World) : (method 446 PBP (.pointer (some a)) "ReadI32").run Tryz.prog w = .ok (210, .pointer (some a)) w := by kernel_rfl
theorem aheadB_ReadI32 (a : Addr) (w : World) : (nilAhead 446 PBP (.pointer (some a)) "ReadI32").run Tryz.prog w = .ok (some false) w := by kernel_rfl

abbrev gotV (n : Int) (s : Value) : Value := .agg #[.int .i64 0, .int .i64 0, .int .i64 0, .int .i64 0, .int .i64 0, .int .i64 n, s]
abbrev stepV (op : Int) : Value := .agg #[.int .i64 op, .int .i64 0, .int .i64 0, .int .i64 0, .int .i64 0, .int .i64 0, .slice none 0 0]

/-- Seven cells of a block are written. -/
abbrev store7 (w : World) (k : Nat) (v0 v1 v2 v3 v4 v5 v6 : Value) : World := (((((((w.setCell ⟨k, 0, none⟩ v0).setCell ⟨k, 1, none⟩ v1).setCell ⟨k, 2, none⟩ v2).setCell ⟨k, 3, none⟩ v3).setCell ⟨k, 4, none⟩ v4).setCell ⟨k, 5, none⟩ v5).setCell ⟨k, 6, none⟩ v6)
theorem store7_at {w : World} {k : Nat} {a0 a1 a2 a3 a4 a5 a6 : Value} {t : TypeId} (h : w.heap[k]? = some (.cells #[a0, a1, a2, a3, a4, a5, a6] t (0, 0))) (v0 v1 v2 v3 v4 v5 v6 : Value) :
    (store7 w k v0 v1 v2 v3 v4 v5 v6).heap[k]? = some (.cells #[v0, v1, v2, v3, v4, v5, v6] t (0, 0)) := by
  have h1 := setCell_at (i := 0) h v0
  have h2 := setCell_at (i := 1) h1 v1
  have h3 := setCell_at (i := 2) h2 v2
  have h4 := setCell_at (i := 3) h3 v3
  have h5 := setCell_at (i := 4) h4 v4
  have h6 := setCell_at (i := 5) h5 v5
  exact setCell_at (i := 6) h6 v6
theorem store7_fr {w0 w : World} {F F' : Nat → Prop} {k : Nat} (h : Fr F F' w0 w) (hk : F' k ∨ w0.heap.size ≤ k) (v0 v1 v2 v3 v4 v5 v6 : Value) : Fr F F' w0 (store7 w k v0 v1 v2 v3 v4 v5 v6) :=
  ((((((h.setCell (p := ⟨k, 0, none⟩) hk _).setCell (p := ⟨k, 1, none⟩) hk _).setCell (p := ⟨k, 2, none⟩) hk _).setCell (p := ⟨k, 3, none⟩) hk _).setCell (p := ⟨k, 4, none⟩) hk _).setCell (p := ⟨k, 5, none⟩) hk _).setCell (p := ⟨k, 6, none⟩) hk _
theorem Buf.old {w w' : World} {b T : Nat} {z : Bool} {l : List UInt8} {F F' : Nat → Prop} (h : Buf w b T z l) (hf : Fr F F' w w') (hn : ∀ k, BF w b k → ¬ F k) : Buf w' b T z l ∧ (∀ k, BF w' b k → BF w b k) :=
  ⟨h.keep hf hn, fun _ hk => (BF.of_same (hf.keep b h.lt (hn b (Or.inl rfl)))).1 hk⟩
/-- Something besides has turned: the protocol stands. -/
theorem BP.old {w w' : World} {p m b T : Nat} {cf : Value} {z : Bool} {l : List UInt8} {F F' : Nat → Prop} (h : BP w p m b cf T z l) (hf : Fr F F' w w') (hm : ¬ F m) (hn : ∀ k, BPF w p b k → ¬ F k) : BP w' p m b cf T z l ∧ (∀ k, BPF w' p b k → BPF w p b k) := by
  obtain ⟨⟨bf, hbf, ha⟩, ⟨sz, hM⟩, hB⟩ := h
  obtain ⟨h1, h2⟩ := hB.old hf fun k hk => hn k (Or.inr hk)
  exact ⟨⟨⟨bf, hbf, hf.block ha (hn p (Or.inl rfl))⟩, ⟨sz, hf.block hM hm⟩, h1⟩, fun k hk => hk.imp id (h2 k)⟩

theorem BP.alloc2 {w : World} {p m b T : Nat} {cf : Value} {z : Bool} {l : List UInt8} (h : BP w p m b cf T z l) (o o' : Obj) : BP ((w.alloc o).alloc o').drew p m b cf T z l ∧ Fr (BPF w p b) (BPF ((w.alloc o).alloc o').drew p b) w ((w.alloc o).alloc o').drew :=
  ⟨((h.alloc o).1.alloc o').1.drew, ((h.alloc o).2.trans ((h.alloc o).1.alloc o').2).drew⟩
theorem BP.notin {w : World} {p m b T : Nat} {cf : Value} {z : Bool} {l : List UInt8} (h : BP w p m b cf T z l) {k : Nat} {cs : Array Value} {t : TypeId} {f : Nat × Nat} (hk : w.heap[k]? = some (.cells cs t f)) (h1 : t ≠ TBP) (h2 : t ≠ TB) (h3 : t ≠ U8) : ¬ BPF w p b k := fun hx => by
  rcases hx with hx | hx
  · obtain ⟨bf, _, ha⟩ := h.arr
    exact tag_ne hk ha h1 hx
  · exact h.buf.other hk h2 h3 hx

/-- What is read lies in the new box of a Got. -/
theorem read_box {w w2 : World} {p m b T n : Nat} {cf : Value} {z : Bool} {l : List UInt8} {o : Obj} {a0 a1 a2 a3 a4 a5 a6 : Value} (h : BP w p m b cf T z l) (hP : BP w2 p m b cf T false (l.drop n)) (hF : Fr (BPF ((w.alloc o).alloc (.cells #[a0, a1, a2, a3, a4, a5, a6] 171 (0, 0))).drew p b) (BPF w2 p b) ((w.alloc o).alloc (.cells #[a0, a1, a2, a3, a4, a5, a6] 171 (0, 0))).drew w2)
    (hg : w2.heap[w.heap.size + 1]? = some (.cells #[a0, a1, a2, a3, a4, a5, a6] 171 (0, 0))) (v0 v1 v2 v3 v4 v5 v6 : Value) :
    (∀ i, (store7 w2 (w.heap.size + 1) v0 v1 v2 v3 v4 v5 v6).cell? ⟨w.heap.size + 1, i, none⟩ = (#[v0, v1, v2, v3, v4, v5, v6] : Array Value)[i]?) ∧
    BP (store7 w2 (w.heap.size + 1) v0 v1 v2 v3 v4 v5 v6) p m b cf T false (l.drop n) ∧ Fr (BPF w p b) (BPF (store7 w2 (w.heap.size + 1) v0 v1 v2 v3 v4 v5 v6) p b) w (store7 w2 (w.heap.size + 1) v0 v1 v2 v3 v4 v5 v6) := by
  have hn : ¬ BPF w2 p b (w.heap.size + 1) := hP.notin hg (by decide) (by decide) (by decide)
  obtain ⟨sz, hM⟩ := hP.mem
  have hs := store7_fr (Fr.refl (fun k => k = w.heap.size + 1) w2) (Or.inl rfl) v0 v1 v2 v3 v4 v5 v6
  obtain ⟨h1, h2⟩ := hP.old hs (tag_ne hM hg (by decide)) fun k hk he => hn (he ▸ hk)
  exact ⟨cell_at (store7_at hg v0 v1 v2 v3 v4 v5 v6), h1, (store7_fr ((h.alloc2 _ _).2.trans hF) (Or.inr (by omega)) v0 v1 v2 v3 v4 v5 v6).conv fun k _ hk => h2 k hk⟩

theorem read_I32_B (p m b T : Nat) (cf : Value) (z : Bool) (l : List UInt8) (w : World) (h : BP w p m b cf T z l) (hl : 4 ≤ l.length) :
    Calls Tryz.prog 79 #[binI p, stepV 16] w (BR w p m b cf T l 4 (gotV (wrap32 (Lib.beNat (l.take 4))) (.slice none 0 0))) := by
  have HC := Lib.hid I_ctx
  have hm := methB_ReadI32
  have ha := aheadB_ReadI32
  have hb := fun w' h' => B_ReadI32 p m b T cf z l w' h' hl
  have HB := Lib.hid hb
  have HH := Lib.hid h
  have hw64 : Hid (wrap64 (wrap32 (Lib.beNat (l.take 4))) = wrap32 (Lib.beNat (l.take 4))) := Lib.hid (by unfold wrap64 wrap32; omega)
  clear hb h
  go_enter Tryz.func79, Tryz.ntmps79
  go_wp2_with fail
  go_region_held3 (fun _ => True) (exact True.intro) (first | (go_at_call 73; refine (HC.out _).mono ?_; rintro e w1 ⟨rfl, rfl⟩) | (go_at_call 210; refine (HB.out _ (HH.out.alloc2 _ _).1).mono ?_; rintro e w2 ⟨rfl, hP, hF⟩; have hg := hF.block (new2 w _ _).2 ((HH.out.alloc2 _ _).1.notin (new2 w _ _).2 (by decide) (by decide) (by decide)); have HX := Lib.hid hP; have HG := Lib.hid hg; have HY := Lib.hid hF; clear hP hF hg))
  all_goals (have c0 := cell_at HG.out 0; have c1 := cell_at HG.out 1; have c2 := cell_at HG.out 2; have c3 := cell_at HG.out 3; have c4 := cell_at HG.out 4; have c5 := cell_at HG.out 5; have c6 := cell_at HG.out 6; have ff := free_at HG.out)
  all_goals simp only [List.getElem?_toArray, List.getElem?_cons_zero, List.getElem?_cons_succ] at c0 c1 c2 c3 c4 c5 c6
  all_goals go_wp2
  all_goals (obtain ⟨d, hq, hfr⟩ := read_box HH.out HX.out HY.out HG.out (.int .i64 0) (.int .i64 0) (.int .i64 0) (.int .i64 0) (.int .i64 0) (.int .i64 (wrap64 (wrap32 (Lib.beNat (l.take 4))))) (.slice none 0 0))
  all_goals (have d0 := d 0; have d1 := d 1; have d2 := d 2; have d3 := d 3; have d4 := d 4; have d5 := d 5; have d6 := d 6)
  all_goals simp only [List.getElem?_toArray, List.getElem?_cons_zero, List.getElem?_cons_succ] at d0 d1 d2 d3 d4 d5 d6
  all_goals clear d c0 c1 c2 c3 c4 c5 c6 ff
  all_goals refine bodyPost_ret (v := .tuple #[gotV (wrap64 (wrap32 (Lib.beNat (l.take 4)))) (.slice none 0 0), .nilIface]) ?_ rfl ⟨?_, hq, hfr⟩
  all_goals first
    | (rw [results_cell_tmp rfl]; clear hq hfr HG HX HY HB HC HH hm ha; go_simp; done)
    | (rw [hw64.out]; done)
end Go.Proofs.YtdedkoahfailcaaGreatDoor
