/- impl.PutMessage. Printed by gen_imp.py. -/
import Derived.Test.YtkfkieebcahiiaaGreatDoorZIm
set_option linter.all false
namespace Go.Proofs.YtkfkieebcahiiaaGreatDoor
open Go Go.RowKit
set_option maxHeartbeats 4000000
set_option maxRecDepth 100000
set_option linter.all false

theorem I_PutMessage (c : ConfV) (x : VT) (hx : x.small) (nm : List UInt8) (hnl : nm.length ≤ 1000000) (t sq : Int) (nv v : Value) (w : World) (hv : ValR w x v) (hn : Rd w nv nm) (l : List WOp) (hl : l = .msgBegin (strOf nm) (IntKind.i32.wrap t) sq :: (x.wops ++ [.msgEnd])) (hm2 : mostAll l ≤ LIM) (hr : rngAll l) (hd : c.proto = 1 → dep CSt.new.stack.length l ≠ none) :
    Calls Tryz.prog 14 #[c.val, nv, .int .i64 t, .int .i32 sq, v] w (PutR w (encAll c CSt.new l)) := by
  obtain ⟨sa, sn, sc, ia, il, ic, la, ll, lc, rfl⟩ := hv.sl
  obtain ⟨na, nn, nc, rfl, -⟩ := hn.len
  obtain ⟨T, N, Sb, K, E, ids, L⟩ := x
  have hchain := fun W0 hf0 m b w1 hm hb hf hmn => I_msg_chain c (VT.mk T N Sb K E ids L) hx nm hnl (IntKind.i32.wrap t) sq (.agg (valA T N (.slice sa sn sc) K E (.slice ia il ic) (.slice la ll lc))) w W0 hv hf0 l hl hm2 hr hd m b w1 hm hb hf hmn
  obtain ⟨news, hnews⟩ : ∃ news, news = encAll c CSt.new l := ⟨_, rfl⟩
  rw [← hnews] at hchain ⊢
  obtain ⟨pr, pl, sr, sw, ms, co, fr⟩ := c
  have hf0 : Fr noF noF w ((w.alloc (.cells #[.int .i64 pr, .bool pl, .bool sr, .bool sw, .int .i32 ms, .int .i32 co, .int .i32 fr] 23 (0, 0))).alloc (.cells #[.int .i64 T, .int .i64 N, .slice sa sn sc, .int .i64 K, .int .i64 E, .slice ia il ic, .slice la ll lc] 28 (0, 0))) := ((Fr.refl noF w).alloc _).alloc _
  have hbx : ∀ (X : World), Fr noF noF ((w.alloc (.cells #[.int .i64 pr, .bool pl, .bool sr, .bool sw, .int .i32 ms, .int .i32 co, .int .i32 fr] 23 (0, 0))).alloc (.cells #[.int .i64 T, .int .i64 N, .slice sa sn sc, .int .i64 K, .int .i64 E, .slice ia il ic, .slice la ll lc] 28 (0, 0))) X → Boxes X w.heap.size pr pl sr sw ms co fr (.int .i64 T) (.int .i64 N) (.slice sa sn sc) (.int .i64 K) (.int .i64 E) (.slice ia il ic) (.slice la ll lc) := fun X hX => boxes (hX.block (new2 w _ _).1 fun x => x) (hX.block (new2 w _ _).2 fun x => x)
  have hcv : ∀ (X : World), Fr noF noF ((w.alloc (.cells #[.int .i64 pr, .bool pl, .bool sr, .bool sw, .int .i32 ms, .int .i32 co, .int .i32 fr] 23 (0, 0))).alloc (.cells #[.int .i64 T, .int .i64 N, .slice sa sn sc, .int .i64 K, .int .i64 E, .slice ia il ic, .slice la ll lc] 28 (0, 0))) X → (convert 24 9 (.slice na nn nc)).run Tryz.prog X = .ok (.string (strOf nm)) X := fun X hX => conv_back (hn.keep (F := noF) (hf0.trans hX) fun _ _ x => x)
  have hs : (((w.alloc (.cells #[.int .i64 pr, .bool pl, .bool sr, .bool sw, .int .i32 ms, .int .i32 co, .int .i32 fr] 23 (0, 0))).alloc (.cells #[.int .i64 T, .int .i64 N, .slice sa sn sc, .int .i64 K, .int .i64 E, .slice ia il ic, .slice la ll lc] 28 (0, 0)))).heap.size = w.heap.size + 1 + 1 := by simp
  have H1 := Lib.hid (NewTMemoryBuffer_raw ((w.alloc (.cells #[.int .i64 pr, .bool pl, .bool sr, .bool sw, .int .i32 ms, .int .i32 co, .int .i32 fr] 23 (0, 0))).alloc (.cells #[.int .i64 T, .int .i64 N, .slice sa sn sc, .int .i64 K, .int .i64 E, .slice ia il ic, .slice la ll lc] 28 (0, 0))))
  have H2 := Lib.hid (hchain _ hf0)
  have HB := Lib.hid hbx
  have HCV := Lib.hid hcv
  have HCX := Lib.hid I_ctx
  clear hchain hbx hcv hs hnews hv hx hl hr hn hf0 hm2 hd hnl
  show Calls Tryz.prog 14 #[_, _, _, _, .agg (valA T N (.slice sa sn sc) K E (.slice ia il ic) (.slice la ll lc))] w _
  go_enter Tryz.func14, Tryz.ntmps14
  go_wp2_with fail
  refine H1.out.mono ?_
  rintro e w1 ⟨m, b, rfl, hm, hb, hf, hmn⟩
  obtain ⟨b0, b1, b2, b3, b4, b5, b6, b7, b8, b9, b10, b11, b12, b13⟩ := HB.out w1 (hf.conv fun _ _ x => x.elim)
  have HP := Lib.hid (H2.out m b w1 hm hb hf hmn)
  clear hm hb hf hmn
  go_wp2_with fail
  (with_reducible refine HP.out.mono ?_)
  rintro e w2 ⟨P, rfl, hOk, hF2, hcall⟩
  clear b0 b1 b2 b3 b4 b5 b6 b7 b8 b9 b10 b11 b12 b13
  have hm1 : ∀ w, (method 512 P.T P.recv "WriteMessageBegin").run Tryz.prog w = .ok (P.fn "WriteMessageBegin", P.recv) w := hOk.meth (.msgBegin default 0 0)
  have ha1 : ∀ w, (nilAhead 512 P.T P.recv "WriteMessageBegin").run Tryz.prog w = .ok (some false) w := hOk.ahead (.msgBegin default 0 0)
  have he1 : ∀ xs w, (callFunc (P.fn "WriteMessageBegin") xs).run Tryz.prog w = .ok (.enter (P.fn "WriteMessageBegin") xs) w := hOk.enter (.msgBegin default 0 0)
  have hm9 : ∀ w, (method 512 P.T P.recv "WriteMessageEnd").run Tryz.prog w = .ok (P.fn "WriteMessageEnd", P.recv) w := hOk.meth .msgEnd
  have ha9 : ∀ w, (nilAhead 512 P.T P.recv "WriteMessageEnd").run Tryz.prog w = .ok (some false) w := hOk.ahead .msgEnd
  have he9 : ∀ xs w, (callFunc (P.fn "WriteMessageEnd") xs).run Tryz.prog w = .ok (.enter (P.fn "WriteMessageEnd") xs) w := hOk.enter .msgEnd
  have hc2 := hcall w2.drew ((Fr.refl noF w2).drew)
  simp only [WOp.args, WOp.args.ctxW] at hc2
  obtain ⟨f, hff⟩ : ∃ f, f = P.fn "WriteMessageBegin" := ⟨_, rfl⟩
  obtain ⟨g, hgg⟩ : ∃ f, f = P.fn "WriteMessageEnd" := ⟨_, rfl⟩
  obtain ⟨PT, hPT⟩ : ∃ f, f = P.T := ⟨_, rfl⟩
  obtain ⟨r, hrr⟩ : ∃ f, f = P.recv := ⟨_, rfl⟩
  rw [← hff, ← hgg, ← hrr, ← hPT] at hc2
  rw [← hPT, ← hrr] at ha1 ha9
  rw [← hPT, ← hrr, ← hff] at hm1
  rw [← hPT, ← hrr, ← hgg] at hm9
  rw [← hff] at he1
  rw [← hgg] at he9
  rw [← hPT, ← hrr]
  have HC := Lib.hid hc2
  have k0 := HCV.out w2.drew hF2.drew
  clear hcall hc2 hOk hff hgg hPT hrr hF2
  go_wp2_with fail
  go_region_held3 (fun w' => (convert 24 9 (.slice na nn nc)).run Tryz.prog w' = .ok (.string (strOf nm)) w') (first | exact k0 | exact k1 | fail) (first | (go_at_call 45; refine (HCX.out _).mono ?_; rintro e w9 ⟨rfl, rfl⟩) | ((with_reducible refine HC.out.mono ?_); rintro e w3 ⟨rfl, hF3, hc3⟩; have k1 := HCV.out w3 hF3; have HD := Lib.hid (And.intro hF3 hc3); clear hF3 hc3) | fail)
  all_goals clear k0 k1
  all_goals obtain ⟨b0, b1, b2, b3, b4, b5, b6, b7, b8, b9, b10, b11, b12, b13⟩ := HB.out w3 HD.out.1
  all_goals go_wp2_with fail
  all_goals (with_reducible refine HD.out.2.mono ?_)
  all_goals rintro e w4 ⟨rfl, hF4, hc4⟩
  all_goals have HE := Lib.hid (hc4 w4.drew ((Fr.refl noF w4).drew))
  all_goals clear hF4 hc4 b0 b1 b2 b3 b4 b5 b6 b7 b8 b9 b10 b11 b12 b13
  all_goals go_wp2_with fail
  all_goals go_region_held3 (fun w' => True) (first | exact trivial) (first | (go_at_call 45; refine (HCX.out _).mono ?_; rintro e w9 ⟨rfl, rfl⟩) | ((with_reducible refine HE.out.mono ?_); rintro e w5 ⟨rfl, hF5, hend⟩; have HF := Lib.hid hend; clear hend hF5) | fail)
  all_goals have m0 := HF.out.1
  all_goals go_wp2_with fail
  all_goals (refine (Buf_Bytes b _ true news w5 HF.out.2.1).mono ?_; rintro e w6 ⟨v6, q6, rfl, rfl, hR, hblk⟩; have HR := Lib.hid (put_end HF.out q6 hR hblk); clear hR hblk)
  all_goals go_wp2_with (go_at_call 48; refine (kind_nil _).mono ?_; rintro e w9 ⟨rfl, rfl⟩)
  all_goals go_ret2
  all_goals exact HR.out
end Go.Proofs.YtkfkieebcahiiaaGreatDoor
