/- The thin package gets a number: what known() needs. -/
import Derived.Test.YtdedkoahfailcaaGreatDoorGot
namespace Go.Proofs.YtdedkoahfailcaaGreatDoor
open Go Go.RowKit
set_option maxHeartbeats 1000000
set_option maxRecDepth 100000

abbrev valN (t n : Int) : Value := .agg #[.int .i64 t, .int .i64 n, .slice none 0 0, .int .i64 0, .int .i64 0, .slice none 0 0, .slice none 0 0]

theorem new3 (w : World) (o0 o1 o2 : Obj) : (((w.alloc o0).alloc o1).alloc o2).heap[w.heap.size]? = some o0 ∧ (((w.alloc o0).alloc o1).alloc o2).heap[w.heap.size + 1]? = some o1 ∧ (((w.alloc o0).alloc o1).alloc o2).heap[w.heap.size + 1 + 1]? = some o2 := by
  have h1 := alloc_new (w.alloc o0) o1
  have h2 := alloc_new ((w.alloc o0).alloc o1) o2
  simp only [size_alloc] at h1 h2
  exact ⟨alloc_at (alloc_at (alloc_new w o0)), alloc_at h1, h2⟩
theorem BP.alloc3 {w : World} {p m b T : Nat} {cf : Value} {z : Bool} {l : List UInt8} (h : BP w p m b cf T z l) (o o' o'' : Obj) : BP (((w.alloc o).alloc o').alloc o'') p m b cf T z l ∧ Fr (BPF w p b) (BPF (((w.alloc o).alloc o').alloc o'') p b) w (((w.alloc o).alloc o').alloc o'') :=
  ⟨(((h.alloc o).1.alloc o').1.alloc o'').1, (h.alloc o).2.trans (((h.alloc o).1.alloc o').2.trans (((h.alloc o).1.alloc o').1.alloc o'').2)⟩

/-- Seven cells, told one by one. -/
def Cells7 (w : World) (k : Nat) (v0 v1 v2 v3 v4 v5 v6 : Value) : Prop :=
  w.cell? ⟨k, 0, none⟩ = some v0 ∧ w.cell? ⟨k, 1, none⟩ = some v1 ∧ w.cell? ⟨k, 2, none⟩ = some v2 ∧ w.cell? ⟨k, 3, none⟩ = some v3 ∧ w.cell? ⟨k, 4, none⟩ = some v4 ∧ w.cell? ⟨k, 5, none⟩ = some v5 ∧ w.cell? ⟨k, 6, none⟩ = some v6
theorem cells7 {w : World} {k : Nat} {v0 v1 v2 v3 v4 v5 v6 : Value} {t : TypeId} (h : w.heap[k]? = some (.cells #[v0, v1, v2, v3, v4, v5, v6] t (0, 0))) : Cells7 w k v0 v1 v2 v3 v4 v5 v6 ∧ ∀ i, w.frozen? ⟨k, i, none⟩ = false :=
  ⟨⟨cell_at h 0, cell_at h 1, cell_at h 2, cell_at h 3, cell_at h 4, cell_at h 5, cell_at h 6⟩, free_at h⟩

theorem keep3 {w w2 : World} {p m b T : Nat} {cf : Value} {z : Bool} {l : List UInt8} {x y u : Array Value} {F' : Nat → Prop} (h : BP w p m b cf T z l)
    (hF : Fr (BPF (((w.alloc (.cells x 55 (0, 0))).alloc (.cells y 55 (0, 0))).alloc (.cells u 171 (0, 0))) p b) F' (((w.alloc (.cells x 55 (0, 0))).alloc (.cells y 55 (0, 0))).alloc (.cells u 171 (0, 0))) w2) :
    w2.heap[w.heap.size]? = some (.cells x 55 (0, 0)) ∧ w2.heap[w.heap.size + 1]? = some (.cells y 55 (0, 0)) ∧ w2.heap[w.heap.size + 1 + 1]? = some (.cells u 171 (0, 0)) := by
  have h3 := (h.alloc3 (.cells x 55 (0, 0)) (.cells y 55 (0, 0)) (.cells u 171 (0, 0))).1
  obtain ⟨n1, n2, n3⟩ := new3 w (.cells x 55 (0, 0)) (.cells y 55 (0, 0)) (.cells u 171 (0, 0))
  exact ⟨hF.block n1 (h3.notin n1 (by decide) (by decide) (by decide)), hF.block n2 (h3.notin n2 (by decide) (by decide) (by decide)), hF.block n3 (h3.notin n3 (by decide) (by decide) (by decide))⟩

theorem cell_other {w : World} {b j k i : Nat} {v x : Value} (h : w.cell? ⟨b, j, none⟩ = some x) (hne : b ≠ k) : (w.setCell ⟨k, i, none⟩ v).cell? ⟨b, j, none⟩ = some x :=
  (World.cell?_of_block (a := ⟨b, j, none⟩) (Below.heap_setCell w ⟨k, i, none⟩ v b hne)).trans h
theorem got_in {w w2 : World} {p m b T n : Nat} {cf : Value} {z : Bool} {l : List UInt8} {x y : Array Value} {u0 u1 u2 u3 u4 u5 u6 : Value}
    (hg : w2.heap[w.heap.size]? = some (.cells x 55 (0, 0)) ∧ w2.heap[w.heap.size + 1]? = some (.cells y 55 (0, 0)) ∧ w2.heap[w.heap.size + 1 + 1]? = some (.cells #[u0, u1, u2, u3, u4, u5, u6] 171 (0, 0)))
    (hP : BP w2 p m b cf T false (l.drop n)) (hF : Fr (BPF (((w.alloc (.cells x 55 (0, 0))).alloc (.cells y 55 (0, 0))).alloc (.cells #[u0, u1, u2, u3, u4, u5, u6] 171 (0, 0))) p b) (BPF w2 p b) (((w.alloc (.cells x 55 (0, 0))).alloc (.cells y 55 (0, 0))).alloc (.cells #[u0, u1, u2, u3, u4, u5, u6] 171 (0, 0))) w2)
    (h : BP w p m b cf T z l) (v0 v1 v2 v3 v4 v5 v6 : Value) :
    ((store7 w2 (w.heap.size + 1 + 1) v0 v1 v2 v3 v4 v5 v6).heap[w.heap.size]? = some (.cells x 55 (0, 0)) ∧ (store7 w2 (w.heap.size + 1 + 1) v0 v1 v2 v3 v4 v5 v6).heap[w.heap.size + 1]? = some (.cells y 55 (0, 0)) ∧
      (store7 w2 (w.heap.size + 1 + 1) v0 v1 v2 v3 v4 v5 v6).heap[w.heap.size + 1 + 1]? = some (.cells #[v0, v1, v2, v3, v4, v5, v6] 171 (0, 0))) ∧
    BP (store7 w2 (w.heap.size + 1 + 1) v0 v1 v2 v3 v4 v5 v6) p m b cf T false (l.drop n) ∧ Fr (BPF w p b) (BPF (store7 w2 (w.heap.size + 1 + 1) v0 v1 v2 v3 v4 v5 v6) p b) w (store7 w2 (w.heap.size + 1 + 1) v0 v1 v2 v3 v4 v5 v6) := by
  obtain ⟨h1, h2, h3⟩ := hg
  have hs := store7_fr (Fr.refl (fun k => k = w.heap.size + 1 + 1) w2) (Or.inl rfl) v0 v1 v2 v3 v4 v5 v6
  have hn : ¬ BPF w2 p b (w.heap.size + 1 + 1) := hP.notin h3 (by decide) (by decide) (by decide)
  obtain ⟨sz, hM⟩ := hP.mem
  obtain ⟨q1, q2⟩ := hP.old hs (tag_ne hM h3 (by decide)) fun k hk he => hn (he ▸ hk)
  exact ⟨⟨hs.block h1 (by omega), hs.block h2 (by omega), store7_at h3 v0 v1 v2 v3 v4 v5 v6⟩, q1, (store7_fr ((h.alloc3 _ _ _).2.trans hF) (Or.inr (by omega)) v0 v1 v2 v3 v4 v5 v6).conv fun k _ hk => q2 k hk⟩

theorem val_in {w W : World} {p m b T n : Nat} {cf : Value} {l : List UInt8} {x u : Array Value} {v0 v1 v2 v3 v4 v5 v6 : Value} 
    (hg : W.heap[w.heap.size]? = some (.cells x 55 (0, 0)) ∧ W.heap[w.heap.size + 1]? = some (.cells #[v0, v1, v2, v3, v4, v5, v6] 55 (0, 0)) ∧ W.heap[w.heap.size + 1 + 1]? = some (.cells u 171 (0, 0)))
    (hP : BP W p m b cf T false (l.drop n)) (hF : Fr (BPF w p b) (BPF W p b) w W) (n1 n2 : Value) :
    ((W.setCell ⟨w.heap.size + 1, 1, none⟩ n1).setCell ⟨w.heap.size + 1, 2, none⟩ n2).drew.heap[w.heap.size]? = some (.cells x 55 (0, 0)) ∧
    ((W.setCell ⟨w.heap.size + 1, 1, none⟩ n1).setCell ⟨w.heap.size + 1, 2, none⟩ n2).drew.heap[w.heap.size + 1]? = some (.cells #[v0, n1, n2, v3, v4, v5, v6] 55 (0, 0)) ∧
    BP ((W.setCell ⟨w.heap.size + 1, 1, none⟩ n1).setCell ⟨w.heap.size + 1, 2, none⟩ n2).drew p m b cf T false (l.drop n) ∧
    Fr (BPF w p b) (BPF ((W.setCell ⟨w.heap.size + 1, 1, none⟩ n1).setCell ⟨w.heap.size + 1, 2, none⟩ n2).drew p b) w ((W.setCell ⟨w.heap.size + 1, 1, none⟩ n1).setCell ⟨w.heap.size + 1, 2, none⟩ n2).drew := by
  obtain ⟨h1, h2, h3⟩ := hg
  have hs : Fr (fun k => k = w.heap.size + 1) (fun k => k = w.heap.size + 1) W ((W.setCell ⟨w.heap.size + 1, 1, none⟩ n1).setCell ⟨w.heap.size + 1, 2, none⟩ n2) :=
    ((Fr.refl (fun k => k = w.heap.size + 1) W).setCell (p := ⟨w.heap.size + 1, 1, none⟩) (Or.inl rfl) _).setCell (p := ⟨w.heap.size + 1, 2, none⟩) (Or.inl rfl) _
  have hn : ¬ BPF W p b (w.heap.size + 1) := hP.notin h2 (by decide) (by decide) (by decide)
  obtain ⟨sz, hM⟩ := hP.mem
  obtain ⟨q1, q2⟩ := hP.old hs (tag_ne hM h2 (by decide)) fun k hk he => hn (he ▸ hk)
  have k1 := setCell_at (i := 1) h2 n1
  have k2 := setCell_at (i := 2) k1 n2
  exact ⟨hs.block h1 (by omega), k2, q1.drew, ((hF.setCell (p := ⟨w.heap.size + 1, 1, none⟩) (Or.inr (by simp)) _).setCell (p := ⟨w.heap.size + 1, 2, none⟩) (Or.inr (by simp)) _).drew.conv fun k _ hk => q2 k hk⟩
theorem val_out {w V : World} {p m b T n : Nat} {cf : Value} {l : List UInt8} {a0 a1 a2 a3 a4 a5 a6 : Value} (h : V.heap[w.heap.size]? = some (.cells #[a0, a1, a2, a3, a4, a5, a6] 55 (0, 0)))
    (hP : BP V p m b cf T false (l.drop n)) (hF : Fr (BPF w p b) (BPF V p b) w V) (v0 v1 v2 v3 v4 v5 v6 : Value) :
    Cells7 (store7 V w.heap.size v0 v1 v2 v3 v4 v5 v6) w.heap.size v0 v1 v2 v3 v4 v5 v6 ∧ BP (store7 V w.heap.size v0 v1 v2 v3 v4 v5 v6) p m b cf T false (l.drop n) ∧ Fr (BPF w p b) (BPF (store7 V w.heap.size v0 v1 v2 v3 v4 v5 v6) p b) w (store7 V w.heap.size v0 v1 v2 v3 v4 v5 v6) := by
  have hs := store7_fr (Fr.refl (fun k => k = w.heap.size) V) (Or.inl rfl) v0 v1 v2 v3 v4 v5 v6
  have hn : ¬ BPF V p b w.heap.size := hP.notin h (by decide) (by decide) (by decide)
  obtain ⟨sz, hM⟩ := hP.mem
  obtain ⟨q1, q2⟩ := hP.old hs (tag_ne hM h (by decide)) fun k hk he => hn (he ▸ hk)
  exact ⟨(cells7 (store7_at h v0 v1 v2 v3 v4 v5 v6)).1, q1, (store7_fr hF (Or.inr (Nat.le_refl _)) v0 v1 v2 v3 v4 v5 v6).conv fun k _ hk => q2 k hk⟩

theorem get_I32_B (p m b T : Nat) (cf : Value) (z : Bool) (l : List UInt8) (w : World) (h : BP w p m b cf T z l) (hl : 4 ≤ l.length) :
    Calls Tryz.prog 62 #[binI p, .int .u8 8, .int .i64 1] w (BR w p m b cf T l 4 (valN 8 (wrap32 (Lib.beNat (l.take 4))))) := by
  have hb := fun w' h' => read_I32_B p m b T cf z l w' h' hl
  have HB := Lib.hid hb
  have HH := Lib.hid h
  clear hb h
  go_enter Tryz.func62, Tryz.ntmps62
  go_wp2_with fail
  refine (HB.out _ (HH.out.alloc3 _ _ _).1).mono ?_
  rintro e w2 ⟨rfl, hP, hF⟩
  obtain ⟨hg0, hg1, hg2⟩ := keep3 HH.out hF
  obtain ⟨⟨a0, a1, a2, a3, a4, a5, a6⟩, fa⟩ := cells7 hg0
  obtain ⟨⟨b0, b1, b2, b3, b4, b5, b6⟩, fb⟩ := cells7 hg1
  obtain ⟨⟨c0, c1, c2, c3, c4, c5, c6⟩, fc⟩ := cells7 hg2
  have HP := Lib.hid hP
  have HF := Lib.hid hF
  have HG := Lib.hid (And.intro hg0 (And.intro hg1 hg2))
  clear hg0 hg1 hg2 hP hF
  go_wp2_with fail
  have hW := got_in HG.out HP.out HF.out HH.out (.int .i64 0) (.int .i64 0) (.int .i64 0) (.int .i64 0) (.int .i64 0) (.int .i64 (wrap32 (Lib.beNat (l.take 4)))) (.slice none 0 0)
  unfold store7 at hW
  obtain ⟨W, hWe⟩ : ∃ W, W = (World.setCell (World.setCell (World.setCell (World.setCell (World.setCell (World.setCell (World.setCell w2 ⟨(w.heap.size + 1 + 1), 0, none⟩ (.int .i64 0)) ⟨(w.heap.size + 1 + 1), 1, none⟩ (.int .i64 0)) ⟨(w.heap.size + 1 + 1), 2, none⟩ (.int .i64 0)) ⟨(w.heap.size + 1 + 1), 3, none⟩ (.int .i64 0)) ⟨(w.heap.size + 1 + 1), 4, none⟩ (.int .i64 0)) ⟨(w.heap.size + 1 + 1), 5, none⟩ (.int .i64 (wrap32 (Lib.beNat (l.take 4))))) ⟨(w.heap.size + 1 + 1), 6, none⟩ (.slice none 0 0)) := ⟨_, rfl⟩
  rw [← hWe] at hW ⊢
  clear hWe
  obtain ⟨⟨hg0, hg1, hg2⟩, hq, hfr⟩ := hW
  clear a0 a1 a2 a3 a4 a5 a6 fa b0 b1 b2 b3 b4 b5 b6 fb c0 c1 c2 c3 c4 c5 c6 fc HP HF HG
  obtain ⟨⟨b0, b1, b2, b3, b4, b5, b6⟩, fb⟩ := cells7 hg1
  obtain ⟨⟨c0, c1, c2, c3, c4, c5, c6⟩, fc⟩ := cells7 hg2
  have HP := Lib.hid hq
  have HF := Lib.hid hfr
  have HG := Lib.hid (And.intro hg0 (And.intro hg1 hg2))
  clear hg0 hg1 hg2 hq hfr
  go_region
  have hV := val_in HG.out HP.out HF.out (.int .i64 (wrap32 (Lib.beNat (l.take 4)))) (.slice none 0 0)
  obtain ⟨V, hVe⟩ : ∃ V, V = ((W.setCell ⟨w.heap.size + 1, 1, none⟩ (.int .i64 (wrap32 (Lib.beNat (l.take 4))))).setCell ⟨w.heap.size + 1, 2, none⟩ (.slice none 0 0)).drew := ⟨_, rfl⟩
  rw [← hVe] at hV ⊢
  clear hVe b0 b1 b2 b3 b4 b5 b6 fb c0 c1 c2 c3 c4 c5 c6 fc HP HF HG
  obtain ⟨hg0, hg1, hq, hfr⟩ := hV
  obtain ⟨⟨a0, a1, a2, a3, a4, a5, a6⟩, fa⟩ := cells7 hg0
  obtain ⟨⟨b0, b1, b2, b3, b4, b5, b6⟩, fb⟩ := cells7 hg1
  have HX := Lib.hid (val_out hg0 hq hfr (.int .i64 8) (.int .i64 (wrap32 (Lib.beNat (l.take 4)))) (.slice none 0 0) (.int .i64 0) (.int .i64 0) (.slice none 0 0) (.slice none 0 0))
  clear hg0 hg1 hq hfr
  go_wp2
  obtain ⟨Z, hZe⟩ : ∃ Z, Z = (World.setCell (World.setCell (World.setCell (World.setCell (World.setCell (World.setCell (World.setCell V ⟨w.heap.size, 0, none⟩ (.int .i64 8)) ⟨w.heap.size, 1, none⟩ (.int .i64 (wrap32 (Lib.beNat (l.take 4))))) ⟨w.heap.size, 2, none⟩ (.slice none 0 0)) ⟨w.heap.size, 3, none⟩ (.int .i64 0)) ⟨w.heap.size, 4, none⟩ (.int .i64 0)) ⟨w.heap.size, 5, none⟩ (.slice none 0 0)) ⟨w.heap.size, 6, none⟩ (.slice none 0 0)) := ⟨_, rfl⟩
  have HY := HX.out
  unfold store7 at HY
  rw [← hZe] at HY ⊢
  clear hZe HX a0 a1 a2 a3 a4 a5 a6 b0 b1 b2 b3 b4 b5 b6 fa fb
  obtain ⟨⟨d0, d1, d2, d3, d4, d5, d6⟩, hq, hfr⟩ := HY
  refine bodyPost_ret (v := .tuple #[valN 8 (wrap32 (Lib.beNat (l.take 4))), .nilIface]) ?_ rfl ⟨rfl, hq, hfr⟩
  clear hq hfr HH HB
  rw [results_cell_tmp rfl]
  go_simp
end Go.Proofs.YtdedkoahfailcaaGreatDoor
