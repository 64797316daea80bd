/- impl.Put of whatever value by whatever protocol. -/
import Derived.Test.YtoikkjefaakchaaGreatDoorZEncV
import Derived.Test.YtoikkjefaakchaaGreatDoorZPutV
set_option linter.all false
namespace Go.Proofs.YtoikkjefaakchaaGreatDoor
open Go Go.RowKit
set_option maxHeartbeats 4000000
set_option maxRecDepth 100000
set_option linter.all false

theorem putp_prep (c : ConfV) (x : VT) (hx : x.small) (hr : x.rng) (v : Value) (w W0 : World) (hv : ValR w x v) (hl : mostAll x.wops ≤ LIM) (hf0 : Fr noF noF w W0)
    (m b : Nat) (w1 : World) (hm : Mem w1 m b) (hb : Buf w1 b 0 true []) (hf : Fr noF (BF w1 b) W0 w1) (hmn : W0.heap.size ≤ m) :
    Calls Tryz.prog 54 #[c.val, memI m] w1 (fun e w2 => ∃ PT r F, e = .returned (.iface PT r) ∧ Fr noF F W0 w2 ∧ Calls Tryz.prog 65 #[.iface PT r, v] w2 (fun e w3 => ∃ F', e = .returned .nilIface ∧ Fr noF F' W0 w3 ∧ PutEnd w w3 m b (encAll c CSt.new x.wops))) := by
  refine (Prot_any m b c w1 hm hb).mono ?_
  rintro e w2 ⟨P, rfl, hM, hI, hF⟩
  have hfA : Fr noF (P.F w2) W0 w2 := (hf.conv (F'' := fun k => BF w1 b k ∨ k = m) fun k hk hx => by
    rcases hx with hx | rfl
    · exact hx
    · omega).trans hF
  refine ⟨P.T, P.recv, _, rfl, hfA, (I_put_any P hM.ok x hx w v w2 (0, [], CSt.new) hv (hf0.trans hfA) hI (hM.goods x.wops _ CSt.new_ok (by rw [Nat.zero_add]; exact hl) (rng_wops x hx hr) fun _ => by rw [dep_wops]; simp)).mono ?_⟩
  rintro e w3 ⟨rfl, hI3, hfr⟩
  rw [hM.steps] at hI3
  simp only [Nat.zero_add, List.nil_append] at hI3
  obtain ⟨h1, h2⟩ := hM.mem _ _ hI3
  have hend := hfA.trans hfr
  exact ⟨_, rfl, hend, h1, h2.tight, (hf0.trans hend).conv fun k _ hk => hM.foot _ _ hk⟩

theorem I_Put_any (c : ConfV) (x : VT) (hx : x.small) (hr : x.rng) (v : Value) (w : World) (hv : ValR w x v) (hl : mostAll x.wops ≤ LIM) :
    Calls Tryz.prog 30 #[c.val, v] w (PutR w (encAll c CSt.new x.wops)) := by
  obtain ⟨sa, sn, sc, ia, il, ic, la, ll, lc, rfl⟩ := hv.sl
  obtain ⟨T, N, Sb, K, E, ids, L⟩ := x
  have h1 := NewTMemoryBuffer_raw ((w.alloc (.cells #[.int .i64 c.proto, .bool c.plain, .bool c.sr, .bool c.sw, .int .i32 c.msg, .int .i32 c.con, .int .i32 c.fra] 23 (0, 0))).alloc (.cells #[.int .i64 T, .int .i64 N, .slice sa sn sc, .int .i64 K, .int .i64 E, .slice ia il ic, .slice la ll lc] 58 (0, 0)))
  have h2 := fun m b w1 hm hb hf hmn => putp_prep c (VT.mk T N Sb K E ids L) hx hr _ w ((w.alloc (.cells #[.int .i64 c.proto, .bool c.plain, .bool c.sr, .bool c.sw, .int .i32 c.msg, .int .i32 c.con, .int .i32 c.fra] 23 (0, 0))).alloc (.cells #[.int .i64 T, .int .i64 N, .slice sa sn sc, .int .i64 K, .int .i64 E, .slice ia il ic, .slice la ll lc] 58 (0, 0))) hv hl (((Fr.refl noF w).alloc _).alloc _) m b w1 hm hb hf hmn
  obtain ⟨news, hnews⟩ : ∃ news, news = encAll c CSt.new (VT.mk T N Sb K E ids L).wops := ⟨_, rfl⟩
  rw [← hnews] at h2 ⊢
  obtain ⟨pr, pl, sr, sw, ms, co, fr⟩ := c
  have hbx : ∀ {F : Nat → Prop} (X : World), Fr noF F ((w.alloc (.cells #[.int .i64 pr, .bool pl, .bool sr, .bool sw, .int .i32 ms, .int .i32 co, .int .i32 fr] 23 (0, 0))).alloc (.cells #[.int .i64 T, .int .i64 N, .slice sa sn sc, .int .i64 K, .int .i64 E, .slice ia il ic, .slice la ll lc] 58 (0, 0))) X →
      Boxes X w.heap.size pr pl sr sw ms co fr (.int .i64 T) (.int .i64 N) (.slice sa sn sc) (.int .i64 K) (.int .i64 E) (.slice ia il ic) (.slice la ll lc) := fun X hX => boxes (hX.block (new2 w _ _).1 fun x => x) (hX.block (new2 w _ _).2 fun x => x)
  have h3 : ∀ m b w1, Mem w1 m b → Buf w1 b 0 true [] → Fr noF (BF w1 b) ((w.alloc (.cells #[.int .i64 pr, .bool pl, .bool sr, .bool sw, .int .i32 ms, .int .i32 co, .int .i32 fr] 23 (0, 0))).alloc (.cells #[.int .i64 T, .int .i64 N, .slice sa sn sc, .int .i64 K, .int .i64 E, .slice ia il ic, .slice la ll lc] 58 (0, 0))) w1 → w.heap.size + 1 + 1 ≤ m →
      Calls Tryz.prog 54 #[.agg #[.int .i64 pr, .bool pl, .bool sr, .bool sw, .int .i32 ms, .int .i32 co, .int .i32 fr], memI m] w1.drew (fun e w2 => ∃ PT r, e = .returned (.iface PT r) ∧ Boxes w2 w.heap.size pr pl sr sw ms co fr (.int .i64 T) (.int .i64 N) (.slice sa sn sc) (.int .i64 K) (.int .i64 E) (.slice ia il ic) (.slice la ll lc) ∧
        Calls Tryz.prog 65 #[.iface PT r, .agg #[.int .i64 T, .int .i64 N, .slice sa sn sc, .int .i64 K, .int .i64 E, .slice ia il ic, .slice la ll lc]] w2 (fun e w3 => e = .returned .nilIface ∧ Boxes w3 w.heap.size pr pl sr sw ms co fr (.int .i64 T) (.int .i64 N) (.slice sa sn sc) (.int .i64 K) (.int .i64 E) (.slice ia il ic) (.slice la ll lc) ∧ PutEnd w w3 m b news)) := fun m b w1 hm hb hf hmn =>
    (h2 m b w1.drew hm hb hf.drew (by simpa using hmn)).mono fun e w2 ⟨PT, r, F, he, hF, hc⟩ => ⟨PT, r, he, hbx w2 hF, hc.mono fun e w3 ⟨F', he, hF', hE⟩ => ⟨he, hbx w3 hF', hE⟩⟩
  have hs : ((w.alloc (.cells #[.int .i64 pr, .bool pl, .bool sr, .bool sw, .int .i32 ms, .int .i32 co, .int .i32 fr] 23 (0, 0))).alloc (.cells #[.int .i64 T, .int .i64 N, .slice sa sn sc, .int .i64 K, .int .i64 E, .slice ia il ic, .slice la ll lc] 58 (0, 0))).heap.size = w.heap.size + 1 + 1 := by simp
  have H1 := Lib.hid h1
  have H2 := Lib.hid h3
  have HS := Lib.hid hs
  have HBF : Hid (∀ (b : Nat) (X : World), Fr noF (BF X b) ((w.alloc (.cells #[.int .i64 pr, .bool pl, .bool sr, .bool sw, .int .i32 ms, .int .i32 co, .int .i32 fr] 23 (0, 0))).alloc (.cells #[.int .i64 T, .int .i64 N, .slice sa sn sc, .int .i64 K, .int .i64 E, .slice ia il ic, .slice la ll lc] 58 (0, 0))) X →
      Boxes X w.heap.size pr pl sr sw ms co fr (.int .i64 T) (.int .i64 N) (.slice sa sn sc) (.int .i64 K) (.int .i64 E) (.slice ia il ic) (.slice la ll lc)) := Lib.hid fun b X hX => hbx X hX
  clear h1 h2 h3 hbx hs hnews hv hx hl hr
  go_enter Tryz.func30, Tryz.ntmps30
  go_wp2_with fail
  refine H1.out.mono ?_
  rintro e w1 ⟨m, b, rfl, hm, hb, hf, hmn⟩
  have c0 := HBF.out b w1 hf
  have HP := Lib.hid (H2.out m b w1 hm hb hf (by have := HS.out; omega))
  clear hm hb hf hmn
  go_wp2_with fail
  go_region_held3 (fun w' => w'.cell? ⟨w.heap.size, 0, none⟩ = some (.int .i64 pr) ∧ w'.cell? ⟨w.heap.size, 1, none⟩ = some (.bool pl) ∧ w'.cell? ⟨w.heap.size, 2, none⟩ = some (.bool sr) ∧ w'.cell? ⟨w.heap.size, 3, none⟩ = some (.bool sw) ∧ w'.cell? ⟨w.heap.size, 4, none⟩ = some (.int .i32 ms) ∧ w'.cell? ⟨w.heap.size, 5, none⟩ = some (.int .i32 co) ∧ w'.cell? ⟨w.heap.size, 6, none⟩ = some (.int .i32 fr) ∧ w'.cell? ⟨w.heap.size + 1, 0, none⟩ = some (.int .i64 T) ∧ w'.cell? ⟨w.heap.size + 1, 1, none⟩ = some (.int .i64 N) ∧ w'.cell? ⟨w.heap.size + 1, 2, none⟩ = some (.slice sa sn sc) ∧ w'.cell? ⟨w.heap.size + 1, 3, none⟩ = some (.int .i64 K) ∧ w'.cell? ⟨w.heap.size + 1, 4, none⟩ = some (.int .i64 E) ∧ w'.cell? ⟨w.heap.size + 1, 5, none⟩ = some (.slice ia il ic) ∧ w'.cell? ⟨w.heap.size + 1, 6, none⟩ = some (.slice la ll lc)) (first | exact c0 | exact d0 | exact e0)
    (first | (go_at_call 54; refine HP.out.mono ?_; rintro e w2 ⟨PT, r, rfl, d0, hcall⟩; have HC := Lib.hid hcall; clear hcall) | (go_at_call 65; refine HC.out.mono ?_; rintro e w3 ⟨rfl, e0, hend⟩; have HE := Lib.hid hend; clear hend))
  all_goals (have m0 := HE.out.1; clear e0 d0 c0)
  all_goals go_wp2_with fail
  all_goals (refine (Buf_Bytes b _ true news w3 HE.out.2.1).mono ?_; rintro e w4 ⟨v, q, rfl, rfl, hR, hblk⟩; have HR := Lib.hid (put_end HE.out q hR hblk); clear hR hblk)
  all_goals go_wp2_with (go_at_call 63; refine (kind_nil _).mono ?_; rintro e w' ⟨rfl, rfl⟩)
  all_goals go_ret2
  all_goals exact HR.out
end Go.Proofs.YtoikkjefaakchaaGreatDoor
