/- impl.Put of whatever value by the binary protocol. -/
import Derived.Test.YtoifjckhccbmlaaGreatDoorZPutV
import Derived.Test.YtoifjckhccbmlaaGreatDoorZ6
import Derived.Test.YtoifjckhccbmlaaGreatDoorZSq
set_option linter.all false
namespace Go.Proofs.YtoifjckhccbmlaaGreatDoor
open Go Go.RowKit
set_option maxHeartbeats 4000000
set_option maxRecDepth 100000
set_option linter.all false

theorem steps_B (p m b : Nat) (cf : Value) (c : ConfV) : ∀ (l : List WOp) (s : Nat × List UInt8), (protoB p m b cf c).steps s l = (s.1 + (bytesAll c.strictW l).length, s.2 ++ bytesAll c.strictW l)
  | [], s => by simp [WProto.steps, bytesAll]
  | op :: l, s => by
    show (protoB p m b cf c).steps ((protoB p m b cf c).step s op) l = _
    rw [steps_B p m b cf c l]
    simp [protoB, bytesAll, List.append_assoc, Nat.add_assoc]
theorem goods_B (p m b : Nat) (cf : Value) (c : ConfV) : ∀ (l : List WOp) (s : Nat × List UInt8), s.1 + (bytesAll c.strictW l).length ≤ LIM → (protoB p m b cf c).goods s l
  | [], s, _ => trivial
  | op :: l, s, h => by
    simp only [bytesAll, List.flatMap_cons, List.length_append] at h
    refine ⟨?_, goods_B p m b cf c l _ ?_⟩
    · show s.1 + (op.binB c.strictW).length ≤ LIM
      omega
    · show s.1 + (op.binB c.strictW).length + (l.flatMap (WOp.binB c.strictW)).length ≤ LIM
      omega

theorem putv_prep (c : ConfV) (hc : c.proto ≠ 1) (x : VT) (hx : x.small) (v : Value) (w W0 : World) (hv : ValR w x v) (hl : (x.bytesB c.strictW).length ≤ LIM) (hf0 : Fr noF noF w W0)
    (m b : Nat) (w1 : World) (hm : Mem w1 m b) (hb : Buf w1 b 0 true []) (hf : Fr noF (BF w1 b) W0 w1) (hmn : W0.heap.size ≤ m) :
    Calls Tryz.prog 44 #[c.val, memI m] w1 (fun e w2 => ∃ p F, e = .returned (binI p) ∧ Fr noF F W0 w2 ∧ Calls Tryz.prog 43 #[binI p, v] w2 (fun e w3 => ∃ F', e = .returned .nilIface ∧ Fr noF F' W0 w3 ∧ PutEnd w w3 m b (x.bytesB c.strictW))) := by
  have hf1 : Fr noF (BF w1 b) w w1 := hf0.trans hf
  refine (ProtB_raw m b 0 true [] c w1 hc hm hb).mono ?_
  rintro e w2 ⟨p, cf, rfl, hcf, hP, hF, hp, hcn⟩
  have hf2 : Fr noF (BPF w2 p b) W0 w2 := hf.trans hF
  have hsz : W0.heap.size ≤ w1.heap.size := hf.size
  have hfA : Fr noF (BAll w2 p m b cf) W0 w2 := hf2.conv fun k hk hx => by
    rcases hx with hx | rfl | hx
    · exact hx
    · omega
    · have := hcn k hx; omega
  refine ⟨p, _, rfl, hfA, (I_put_any (protoB p m b cf c) (protoB_ok p m b cf c) x hx w v w2 (0, []) hv (hf0.trans hfA) ⟨hP, hcf⟩ (goods_B p m b cf c _ _ (by rw [Nat.zero_add]; exact hl))).mono ?_⟩
  rintro e w3 ⟨rfl, ⟨hB, hC⟩, hfr⟩
  rw [steps_B] at hB
  simp only [Nat.zero_add, List.nil_append, bytesAll_wops] at hB
  have hB : BP w3 p m b cf (x.bytesB c.strictW).length true (x.bytesB c.strictW) := hB
  have hend := hfA.trans hfr
  exact ⟨_, rfl, hend, hB.mem.cell, hB.buf, (hf0.trans hend).conv fun k _ hk => Or.inl (Or.inr hk)⟩

theorem I_Put_val (c : ConfV) (hc : c.proto ≠ 1) (x : VT) (hx : x.small) (v : Value) (w : World) (hv : ValR w x v) (hl : (x.bytesB c.strictW).length ≤ LIM) :
    Calls Tryz.prog 16 #[c.val, v] w (PutR w (x.bytesB c.strictW)) := by
  obtain ⟨sa, sn, sc, ia, il, ic, la, ll, lc, rfl⟩ := hv.sl
  obtain ⟨T, N, Sb, K, E, ids, L⟩ := x
  have h1 := NewTMemoryBuffer_raw ((w.alloc (.cells #[.int .i64 c.proto, .bool c.plain, .bool c.sr, .bool c.sw, .int .i32 c.msg, .int .i32 c.con, .int .i32 c.fra] 31 (0, 0))).alloc (.cells #[.int .i64 T, .int .i64 N, .slice sa sn sc, .int .i64 K, .int .i64 E, .slice ia il ic, .slice la ll lc] 27 (0, 0)))
  have h2 := fun m b w1 hm hb hf hmn => putv_prep c hc (VT.mk T N Sb K E ids L) hx _ w ((w.alloc (.cells #[.int .i64 c.proto, .bool c.plain, .bool c.sr, .bool c.sw, .int .i32 c.msg, .int .i32 c.con, .int .i32 c.fra] 31 (0, 0))).alloc (.cells #[.int .i64 T, .int .i64 N, .slice sa sn sc, .int .i64 K, .int .i64 E, .slice ia il ic, .slice la ll lc] 27 (0, 0))) hv hl (((Fr.refl noF w).alloc _).alloc _) m b w1 hm hb hf hmn
  obtain ⟨news, hnews⟩ : ∃ news, news = (VT.mk T N Sb K E ids L).bytesB c.strictW := ⟨_, rfl⟩
  rw [← hnews] at h2 ⊢
  obtain ⟨pr, pl, sr, sw, ms, co, fr⟩ := c
  have hbx : ∀ {F : Nat → Prop} (X : World), Fr noF F ((w.alloc (.cells #[.int .i64 pr, .bool pl, .bool sr, .bool sw, .int .i32 ms, .int .i32 co, .int .i32 fr] 31 (0, 0))).alloc (.cells #[.int .i64 T, .int .i64 N, .slice sa sn sc, .int .i64 K, .int .i64 E, .slice ia il ic, .slice la ll lc] 27 (0, 0))) X →
      Boxes X w.heap.size pr pl sr sw ms co fr (.int .i64 T) (.int .i64 N) (.slice sa sn sc) (.int .i64 K) (.int .i64 E) (.slice ia il ic) (.slice la ll lc) := fun X hX => boxes (hX.block (new2 w _ _).1 fun x => x) (hX.block (new2 w _ _).2 fun x => x)
  have h3 : ∀ m b w1, Mem w1 m b → Buf w1 b 0 true [] → Fr noF (BF w1 b) ((w.alloc (.cells #[.int .i64 pr, .bool pl, .bool sr, .bool sw, .int .i32 ms, .int .i32 co, .int .i32 fr] 31 (0, 0))).alloc (.cells #[.int .i64 T, .int .i64 N, .slice sa sn sc, .int .i64 K, .int .i64 E, .slice ia il ic, .slice la ll lc] 27 (0, 0))) w1 → w.heap.size + 1 + 1 ≤ m →
      Calls Tryz.prog 44 #[.agg #[.int .i64 pr, .bool pl, .bool sr, .bool sw, .int .i32 ms, .int .i32 co, .int .i32 fr], memI m] w1.drew (fun e w2 => ∃ p, e = .returned (binI p) ∧ Boxes w2 w.heap.size pr pl sr sw ms co fr (.int .i64 T) (.int .i64 N) (.slice sa sn sc) (.int .i64 K) (.int .i64 E) (.slice ia il ic) (.slice la ll lc) ∧
        Calls Tryz.prog 43 #[binI p, .agg #[.int .i64 T, .int .i64 N, .slice sa sn sc, .int .i64 K, .int .i64 E, .slice ia il ic, .slice la ll lc]] w2 (fun e w3 => e = .returned .nilIface ∧ Boxes w3 w.heap.size pr pl sr sw ms co fr (.int .i64 T) (.int .i64 N) (.slice sa sn sc) (.int .i64 K) (.int .i64 E) (.slice ia il ic) (.slice la ll lc) ∧ PutEnd w w3 m b news)) := fun m b w1 hm hb hf hmn =>
    (h2 m b w1.drew hm hb hf.drew (by simpa using hmn)).mono fun e w2 ⟨p, F, he, hF, hc⟩ => ⟨p, he, hbx w2 hF, hc.mono fun e w3 ⟨F', he, hF', hE⟩ => ⟨he, hbx w3 hF', hE⟩⟩
  have hs : ((w.alloc (.cells #[.int .i64 pr, .bool pl, .bool sr, .bool sw, .int .i32 ms, .int .i32 co, .int .i32 fr] 31 (0, 0))).alloc (.cells #[.int .i64 T, .int .i64 N, .slice sa sn sc, .int .i64 K, .int .i64 E, .slice ia il ic, .slice la ll lc] 27 (0, 0))).heap.size = w.heap.size + 1 + 1 := by simp
  have H1 := Lib.hid h1
  have H2 := Lib.hid h3
  have HS := Lib.hid hs
  have HBF : Hid (∀ (b : Nat) (X : World), Fr noF (BF X b) ((w.alloc (.cells #[.int .i64 pr, .bool pl, .bool sr, .bool sw, .int .i32 ms, .int .i32 co, .int .i32 fr] 31 (0, 0))).alloc (.cells #[.int .i64 T, .int .i64 N, .slice sa sn sc, .int .i64 K, .int .i64 E, .slice ia il ic, .slice la ll lc] 27 (0, 0))) X →
      Boxes X w.heap.size pr pl sr sw ms co fr (.int .i64 T) (.int .i64 N) (.slice sa sn sc) (.int .i64 K) (.int .i64 E) (.slice ia il ic) (.slice la ll lc)) := Lib.hid fun b X hX => hbx X hX
  clear h1 h2 h3 hbx hs hnews hv hx hl hc
  go_enter Tryz.func16, Tryz.ntmps16
  go_wp2_with fail
  refine H1.out.mono ?_
  rintro e w1 ⟨m, b, rfl, hm, hb, hf, hmn⟩
  have c0 := HBF.out b w1 hf
  have HP := Lib.hid (H2.out m b w1 hm hb hf (by have := HS.out; omega))
  clear hm hb hf hmn
  go_wp2_with fail
  go_region_held3 (fun w' => w'.cell? ⟨w.heap.size, 0, none⟩ = some (.int .i64 pr) ∧ w'.cell? ⟨w.heap.size, 1, none⟩ = some (.bool pl) ∧ w'.cell? ⟨w.heap.size, 2, none⟩ = some (.bool sr) ∧ w'.cell? ⟨w.heap.size, 3, none⟩ = some (.bool sw) ∧ w'.cell? ⟨w.heap.size, 4, none⟩ = some (.int .i32 ms) ∧ w'.cell? ⟨w.heap.size, 5, none⟩ = some (.int .i32 co) ∧ w'.cell? ⟨w.heap.size, 6, none⟩ = some (.int .i32 fr) ∧ w'.cell? ⟨w.heap.size + 1, 0, none⟩ = some (.int .i64 T) ∧ w'.cell? ⟨w.heap.size + 1, 1, none⟩ = some (.int .i64 N) ∧ w'.cell? ⟨w.heap.size + 1, 2, none⟩ = some (.slice sa sn sc) ∧ w'.cell? ⟨w.heap.size + 1, 3, none⟩ = some (.int .i64 K) ∧ w'.cell? ⟨w.heap.size + 1, 4, none⟩ = some (.int .i64 E) ∧ w'.cell? ⟨w.heap.size + 1, 5, none⟩ = some (.slice ia il ic) ∧ w'.cell? ⟨w.heap.size + 1, 6, none⟩ = some (.slice la ll lc)) (first | exact c0 | exact d0 | exact e0)
    (first | (go_at_call 44; refine HP.out.mono ?_; rintro e w2 ⟨p, rfl, d0, hcall⟩; have HC := Lib.hid hcall; clear hcall) | (go_at_call 43; refine HC.out.mono ?_; rintro e w3 ⟨rfl, e0, hend⟩; have HE := Lib.hid hend; clear hend))
  all_goals (have m0 := HE.out.1; clear e0 d0 c0)
  all_goals go_wp2_with fail
  all_goals (refine (Buf_Bytes b _ true news w3 HE.out.2.1).mono ?_; rintro e w4 ⟨v, q, rfl, rfl, hR, hblk⟩; have HR := Lib.hid (put_end HE.out q hR hblk); clear hR hblk)
  all_goals go_wp2_with (go_at_call 46; refine (kind_nil _).mono ?_; rintro e w' ⟨rfl, rfl⟩)
  all_goals go_ret2
  all_goals exact HR.out
end Go.Proofs.YtoifjckhccbmlaaGreatDoor
