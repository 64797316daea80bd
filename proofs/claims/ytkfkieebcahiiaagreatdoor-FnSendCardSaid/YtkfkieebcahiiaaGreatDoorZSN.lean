/- Flush, by whatever protocol over a memory buffer. A client's call: a message's begin, a value, its end, a flush, by whatever protocol. impl.Send: a client's call over a new buffer, by whatever protocol. spec.Send: a message. laws.FnSend: the walk. Printed by gen_msgl.py. -/
import Derived.Test.YtkfkieebcahiiaaGreatDoorZE
import Derived.Test.YtkfkieebcahiiaaGreatDoorZIm
import Derived.Test.YtkfkieebcahiiaaGreatDoorZMsgPl
import Derived.Test.YtkfkieebcahiiaaGreatDoorZV
import Derived.Test.YtkfkieebcahiiaaGreatDoorZHvy
import Derived.Test.YtkfkieebcahiiaaGreatDoorZToldW
import Derived.Test.YtkfkieebcahiiaaGreatDoorZSameK
import Derived.Test.YtkfkieebcahiiaaGreatDoorZ3
set_option linter.all false
namespace Go.Proofs.YtkfkieebcahiiaaGreatDoor
open Go Go.RowKit
set_option maxHeartbeats 1000000
set_option linter.all false

theorem M_Flush (p c : Value) (w : World) : Calls Tryz.prog 85 #[p, c] w fun e w' => e = .returned .nilIface ∧ w = w' := by
  go_enter Tryz.func85, Tryz.ntmps85
  go_wp2
  go_ret
  exact ⟨rfl, rfl⟩
theorem meth_Flush (a : Addr) (w : World) : (method 512 PM (.pointer (some a)) "Flush").run Tryz.prog w = .ok (85, .pointer (some a)) w := by kernel_rfl
theorem ahead_Flush (a : Addr) (w : World) : (nilAhead 512 PM (.pointer (some a)) "Flush").run Tryz.prog w = .ok (some false) w := by kernel_rfl
theorem B_Flush (p m : Nat) (c : Value) (w : World) (h : w.cell? ⟨p, 0, none⟩ = some (memI m)) :
    Calls Tryz.prog 229 #[.pointer (some ⟨p, 0, none⟩), c] w fun e w' => e = .returned .nilIface ∧ w = w' := by
  have hme := meth_Flush ⟨m, 0, none⟩ w
  go_enter Tryz.func229, Tryz.ntmps229
  go_wp2_with (first | (go_at_call 85; refine (M_Flush _ _ _).mono ?_; rintro e w' ⟨rfl, rfl⟩) | (go_at_call 201; refine (exc_nil _).mono ?_; rintro e w' ⟨rfl, rfl⟩))
  go_ret
  exact ⟨rfl, rfl⟩
theorem C_Flush (p m : Nat) (c : Value) (w : World) (h : w.cell? ⟨p, 0, none⟩ = some (memI m)) :
    Calls Tryz.prog 153 #[.pointer (some ⟨p, 0, none⟩), c] w fun e w' => e = .returned .nilIface ∧ w = w' := by
  have hme := meth_Flush ⟨m, 0, none⟩ w
  go_enter Tryz.func153, Tryz.ntmps153
  go_wp2_with (first | (go_at_call 85; refine (M_Flush _ _ _).mono ?_; rintro e w' ⟨rfl, rfl⟩) | (go_at_call 201; refine (exc_nil _).mono ?_; rintro e w' ⟨rfl, rfl⟩))
  go_ret
  exact ⟨rfl, rfl⟩

/-- A protocol's Flush leaves all as it stands. -/
structure Flu (P : WProto WSt) (f : FuncId) : Prop where
  meth : ∀ w, (method 512 P.T P.recv "Flush").run Tryz.prog w = .ok (f, P.recv) w
  ahead : ∀ w, (nilAhead 512 P.T P.recv "Flush").run Tryz.prog w = .ok (some false) w
  enter : ∀ (xs : Array Value) w, (callFunc f xs).run Tryz.prog w = .ok (.enter f xs) w
  call : ∀ c w s, P.I w s → Calls Tryz.prog f #[P.recv, c] w fun e w' => e = .returned .nilIface ∧ w = w'
theorem fluB (p m b : Nat) (cf : Value) (c : ConfV) : Flu (protoB' p m b cf c) 229 where
  meth w := by kernel_rfl
  ahead w := by kernel_rfl
  enter xs w := by kernel_rfl
  call c w s h := by
    obtain ⟨bf, _, ha⟩ := h.1.arr
    exact B_Flush p m c w (ha.head 0 _ rfl)
theorem fluC (p m b : Nat) (cf : Value) (c : ConfV) : Flu (protoC p m b cf c) 153 where
  meth w := by kernel_rfl
  ahead w := by kernel_rfl
  enter xs w := by kernel_rfl
  call c w s h := C_Flush p m c w h.1.trans

/-- A protocol by a configuration, with its Flush; its type is one of two. -/
def ProtF (w : World) (m b : Nat) (c : ConfV) (e : Ending) (w' : World) : Prop :=
  ∃ (P : WProto WSt) (f : FuncId), e = .returned (protI P) ∧ Made c P m b ∧ Flu P f ∧ (P.T = PBP ∨ P.T = PCP) ∧ P.I w' (0, [], CSt.new) ∧ Fr (fun k => BF w b k ∨ k = m) (P.F w') w w'
theorem Prot_flu (m b : Nat) (c : ConfV) (w : World) (hm : Mem w m b) (hb : Buf w b 0 true []) : Calls Tryz.prog 44 #[c.val, memI m] w (ProtF w m b c) := by
  by_cases hc : c.proto = 1
  · refine (ProtC_raw m b 0 true [] c w hc hm hb).mono ?_
    rintro e w' ⟨p, cf, rfl, hcf, hP, hF, hp, hcn⟩
    refine ⟨protoC p m b cf c, _, rfl, madeC p m b cf c hc, fluC p m b cf c, Or.inr rfl, ⟨hP, hcf, CSt.new_ok, Nat.le_refl _⟩, hF.os, hF.tape, hF.output, hF.size, fun k hk hn => hF.keep k hk fun x => hn (Or.inl x), fun k hk hx => ?_⟩
    rcases hx with hx | rfl | hx
    · exact Or.inl (hF.foot k hk hx)
    · exact Or.inr rfl
    · have := hcn k hx; omega
  · refine (ProtB_raw m b 0 true [] c w hc hm hb).mono ?_
    rintro e w' ⟨p, cf, rfl, hcf, hP, hF, hp, hcn⟩
    refine ⟨protoB' p m b cf c, _, rfl, madeB p m b cf c hc, fluB p m b cf c, Or.inl rfl, ⟨hP, hcf⟩, hF.os, hF.tape, hF.output, hF.size, fun k hk hn => hF.keep k hk fun x => hn (Or.inl x), fun k hk hx => ?_⟩
    rcases hx with hx | rfl | hx
    · exact Or.inl (hF.foot k hk hx)
    · exact Or.inr rfl
    · have := hcn k hx; omega
end Go.Proofs.YtkfkieebcahiiaaGreatDoor
namespace Go.Proofs.YtkfkieebcahiiaaGreatDoor
open Go Go.RowKit
set_option maxHeartbeats 4000000
set_option maxRecDepth 100000
set_option linter.all false

theorem I_snd_chain (c : ConfV) (x : VT) (hx : x.small) (nm : List UInt8) (hnl : nm.length ≤ 1000000) (T sq : Int) (v : Value) (w W0 : World) (hv : ValR w x v) (hf0 : Fr noF noF w W0) (l : List WOp) (hl : l = .msgBegin (strOf nm) T sq :: (x.wops ++ [.msgEnd])) (hm2 : mostAll l ≤ LIM) (hr : rngAll l) (hd : c.proto = 1 → dep CSt.new.stack.length l ≠ none)
    (m b : Nat) (w1 : World) (hm : Mem w1 m b) (hb : Buf w1 b 0 true []) (hf : Fr noF (BF w1 b) W0 w1) (hmn : W0.heap.size ≤ m) :
    Calls Tryz.prog 44 #[c.val, memI m] w1 (fun e w2 => ∃ (P : WProto WSt) (ff : FuncId), e = .returned (.iface P.T P.recv) ∧ P.Ok ∧ Flu P ff ∧ Fr noF noF W0 w2 ∧ (∀ W2, Fr noF noF w2 W2 →
      Calls Tryz.prog (P.fn "WriteMessageBegin") ((WOp.msgBegin (strOf nm) T sq).args P.recv) W2 (fun e w3 => e = .returned .nilIface ∧ Fr noF noF W0 w3 ∧ (∀ k o, w2.heap.size ≤ k → W2.heap[k]? = some o → w3.heap[k]? = some o) ∧ (∀ W3, Fr noF noF w3 W3 →
        Calls Tryz.prog 46 #[.iface P.T P.recv, v] W3 (fun e w4 => e = .returned .nilIface ∧ Fr noF noF W0 w4 ∧
          Calls Tryz.prog (P.fn "WriteMessageEnd") (WOp.msgEnd.args P.recv) w4 (fun e w5 => e = .returned .nilIface ∧ Fr noF noF W0 w5 ∧ PutEnd w w5 m b (encAll c CSt.new l) ∧ Calls Tryz.prog ff #[P.recv, WOp.args.ctxW] w5 (fun e w6 => e = .returned .nilIface ∧ w5 = w6))))))) := by
  subst hl
  have nof : ∀ {F' : Nat → Prop} {a b : World}, Fr noF F' a b → Fr noF noF a b := fun h => h.conv fun _ _ x => x.elim
  refine (Prot_flu m b c w1 hm hb).mono ?_
  rintro e w2 ⟨P, ff, rfl, hM, hFl, _, hI, hF⟩
  have hfA : Fr noF (P.F w2) W0 w2 := (hf.conv (F'' := fun k => BF w1 b k ∨ k = m) fun k hk hx => by
    rcases hx with hx | rfl
    · exact hx
    · omega).trans hF
  have hg := hM.goods _ (0, [], CSt.new) CSt.new_ok (by rw [Nat.zero_add]; exact hm2) hr hd
  have hst := hM.steps (.msgBegin (strOf nm) T sq :: (x.wops ++ [.msgEnd])) (0, [], CSt.new)
  obtain ⟨hg1, hg2⟩ := hg
  rw [WProto.goods_append] at hg2
  have hst2 : P.step (P.steps (P.step (0, [], CSt.new) (.msgBegin (strOf nm) T sq)) x.wops) .msgEnd = P.steps (0, [], CSt.new) (.msgBegin (strOf nm) T sq :: (x.wops ++ [.msgEnd])) := by
    show _ = P.steps (P.step (0, [], CSt.new) (.msgBegin (strOf nm) T sq)) (x.wops ++ [.msgEnd])
    rw [WProto.steps_append]
    rfl
  refine ⟨P, ff, rfl, hM.ok, hFl, nof hfA, fun W2 hW2 => ?_⟩
  obtain ⟨hI2, hs2, q2⟩ := hM.ok.quiet hI hW2
  have hf2 := hfA.trans q2
  refine (hM.ok.call (.msgBegin (strOf nm) T sq) W2 _ hI2 hg1 (show (strOf nm).size ≤ maxLen by unfold maxLen; simp [strOf, ByteArray.size]; omega)).mono ?_
  rintro e w3 ⟨rfl, hI3, hF3⟩
  have hf3 := hf2.trans hF3
  refine ⟨rfl, nof hf3, fun k o hk ho => hF3.block ho fun hx => by have := hM.ok.lt hI (hs2 k hx); omega, fun W3 hW3 => ?_⟩
  obtain ⟨hI3', _, q3⟩ := hM.ok.quiet hI3 hW3
  have hf3' := hf3.trans q3
  refine (I_put_any P hM.ok x hx w v W3 _ hv (hf0.trans hf3') hI3' hg2.1).mono ?_
  rintro e w4 ⟨rfl, hI4, hF4⟩
  have hf4 := hf3'.trans hF4
  refine ⟨rfl, nof hf4, ?_⟩
  refine (hM.ok.call .msgEnd w4 _ hI4 hg2.2.1 trivial).mono ?_
  rintro e w5 ⟨rfl, hI6, hF6⟩
  have hf6 := hf4.trans hF6
  have hflu := hFl.call WOp.args.ctxW w5 _ hI6
  rw [hst2, hst] at hI6
  simp only [Nat.zero_add, List.nil_append] at hI6
  obtain ⟨h1, h2⟩ := hM.mem _ _ hI6
  exact ⟨rfl, nof hf6, ⟨h1, h2.tight, (hf0.trans hf6).conv fun k _ hk => hM.foot _ _ hk⟩, hflu⟩
end Go.Proofs.YtkfkieebcahiiaaGreatDoor
namespace Go.Proofs.YtkfkieebcahiiaaGreatDoor
open Go Go.RowKit
set_option maxHeartbeats 4000000
set_option maxRecDepth 100000
set_option linter.all false

abbrev PBody : TypeId := 118
abbrev TBody : TypeId := 120
theorem meth_body (a : Addr) (w : World) : (method 512 PBody (.pointer (some a)) "Write").run Tryz.prog w = .ok (151, .pointer (some a)) w := by kernel_rfl
theorem ahead_body (a : Addr) (w : World) : (nilAhead 512 PBody (.pointer (some a)) "Write").run Tryz.prog w = .ok (some false) w := by kernel_rfl

theorem I_body_Write (q : Nat) (PT : TypeId) (r c : Value) (T N : Int) (vS : Value) (K E : Int) (vI vL : Value) (dp : Value) (w : World) (Q : World → Prop) (hb : w.heap[q]? = some (.cells #[.int .i64 T, .int .i64 N, vS, .int .i64 K, .int .i64 E, vI, vL, dp] TBody (0, 0)))
    (hput : Calls Tryz.prog 46 #[.iface PT r, .agg (valA T N vS K E vI vL)] w (fun e w' => e = .returned .nilIface ∧ Q w')) :
    Calls Tryz.prog 151 #[.pointer (some ⟨q, 0, none⟩), c, .iface PT r] w (fun e w' => e = .returned .nilIface ∧ Q w') := by
  have cc := cell_at hb
  have d0 := cc 0; have d1 := cc 1; have d2 := cc 2; have d3 := cc 3; have d4 := cc 4; have d5 := cc 5; have d6 := cc 6
  simp only [List.getElem?_toArray, List.getElem?_cons_zero, List.getElem?_cons_succ] at d0 d1 d2 d3 d4 d5 d6
  have HP := Lib.hid hput
  clear cc hb hput
  go_enter Tryz.func151, Tryz.ntmps151
  go_wp2_with fail
  (with_reducible refine HP.out.mono ?_)
  rintro e w' ⟨rfl, hq⟩
  have HQ := Lib.hid hq
  clear hq d0 d1 d2 d3 d4 d5 d6
  go_wp2
  go_ret
  exact ⟨rfl, HQ.out⟩

theorem T_NewClient (PT : TypeId) (r : Value) (w : World) : Calls Tryz.prog 51 #[.iface PT r, .iface PT r] w fun e w' => ∃ g, e = .returned (.pointer (some ⟨g, 0, none⟩)) ∧ Fr noF noF w w' := by
  have hf := fun o => (Fr.refl noF w).alloc o
  have HF := Lib.hid hf
  clear hf
  go_enter Tryz.func51, Tryz.ntmps51
  go_wp2
  go_ret
  exact ⟨_, rfl, HF.out _⟩

theorem T_Send (PT : TypeId) (r : Value) (f g ff : FuncId) (nm : ByteArray) (sq : Int) (q : Nat) (cl : Value) (T N : Int) (vS : Value) (K E : Int) (vI vL dp : Value) (w : World) (Q : World → Prop)
    (hm1 : ∀ w, (method 512 PT r "WriteMessageBegin").run Tryz.prog w = .ok (f, r) w) (ha1 : ∀ w, (nilAhead 512 PT r "WriteMessageBegin").run Tryz.prog w = .ok (some false) w) (he1 : ∀ xs w, (callFunc f xs).run Tryz.prog w = .ok (.enter f xs) w)
    (hm9 : ∀ w, (method 512 PT r "WriteMessageEnd").run Tryz.prog w = .ok (g, r) w) (ha9 : ∀ w, (nilAhead 512 PT r "WriteMessageEnd").run Tryz.prog w = .ok (some false) w) (he9 : ∀ xs w, (callFunc g xs).run Tryz.prog w = .ok (.enter g xs) w)
    (hm3 : ∀ w, (method 512 PT r "Flush").run Tryz.prog w = .ok (ff, r) w) (ha3 : ∀ w, (nilAhead 512 PT r "Flush").run Tryz.prog w = .ok (some false) w) (he3 : ∀ xs w, (callFunc ff xs).run Tryz.prog w = .ok (.enter ff xs) w)
    (h : Calls Tryz.prog f #[r, WOp.args.ctxW, .string nm, .int .i32 1, .int .i32 sq] w (fun e w3 => e = .returned .nilIface ∧ w3.heap[q]? = some (.cells #[.int .i64 T, .int .i64 N, vS, .int .i64 K, .int .i64 E, vI, vL, dp] TBody (0, 0)) ∧
      Calls Tryz.prog 46 #[.iface PT r, .agg (valA T N vS K E vI vL)] w3 (fun e w4 => e = .returned .nilIface ∧ Calls Tryz.prog g #[r, WOp.args.ctxW] w4 (fun e w5 => e = .returned .nilIface ∧ Calls Tryz.prog ff #[r, WOp.args.ctxW] w5 (fun e w6 => e = .returned .nilIface ∧ Q w6))))) :
    Calls Tryz.prog 52 #[cl, WOp.args.ctxW, .iface PT r, .int .i32 sq, .string nm, .iface PBody (.pointer (some ⟨q, 0, none⟩))] w (fun e w' => e = .returned .nilIface ∧ Q w') := by
  have hmb := meth_body ⟨q, 0, none⟩
  have hab := ahead_body ⟨q, 0, none⟩
  have H := Lib.hid h
  clear h
  unfold WOp.args.ctxW at *
  go_enter Tryz.func52, Tryz.ntmps52
  go_wp2_with fail
  (with_reducible refine H.out.mono ?_)
  rintro e w3 ⟨rfl, hb, hput⟩
  have HB := Lib.hid (I_body_Write q PT r (.iface 236 (.agg #[])) T N vS K E vI vL dp w3 _ hb hput)
  clear hb hput
  go_wp2_with fail
  (with_reducible refine HB.out.mono ?_)
  rintro e w4 ⟨rfl, hend⟩
  have HE := Lib.hid hend
  clear hend
  go_wp2_with fail
  (with_reducible refine HE.out.mono ?_)
  rintro e w5 ⟨rfl, hfl⟩
  have HF := Lib.hid hfl
  clear hfl
  go_wp2_with fail
  (with_reducible refine HF.out.mono ?_)
  rintro e w6 ⟨rfl, hq⟩
  have HQ := Lib.hid hq
  clear hq
  go_wp2
  go_ret
  exact ⟨rfl, HQ.out⟩

theorem I_Send (c : ConfV) (x : VT) (hx : x.small) (nm : List UInt8) (hnl : nm.length ≤ 1000000) (sq : Int) (nv v : Value) (w : World) (hv : ValR w x v) (hn : Rd w nv nm) (l : List WOp) (hl : l = .msgBegin (strOf nm) 1 sq :: (x.wops ++ [.msgEnd])) (hm2 : mostAll l ≤ LIM) (hr : rngAll l) (hd : c.proto = 1 → dep CSt.new.stack.length l ≠ none) :
    Calls Tryz.prog 19 #[c.val, .int .i32 sq, nv, v] w (PutR w (encAll c CSt.new l)) := by
  obtain ⟨sa, sn, sc, ia, il, ic, la, ll, lc, rfl⟩ := hv.sl
  obtain ⟨na, nn, nc, rfl, -⟩ := hn.len
  obtain ⟨T, N, Sb, K, E, ids, L⟩ := x
  have hchain := fun W0 hf0 m b w1 hm hb hf hmn => I_snd_chain c (VT.mk T N Sb K E ids L) hx nm hnl 1 sq (.agg (valA T N (.slice sa sn sc) K E (.slice ia il ic) (.slice la ll lc))) w W0 hv hf0 l hl hm2 hr hd m b w1 hm hb hf hmn
  obtain ⟨news, hnews⟩ : ∃ news, news = encAll c CSt.new l := ⟨_, rfl⟩
  rw [← hnews] at hchain ⊢
  obtain ⟨pr, pl, sr, sw, ms, co, fr⟩ := c
  have hf0 : Fr noF noF w ((w.alloc (.cells #[.int .i64 pr, .bool pl, .bool sr, .bool sw, .int .i32 ms, .int .i32 co, .int .i32 fr] 23 (0, 0))).alloc (.cells #[.int .i64 T, .int .i64 N, .slice sa sn sc, .int .i64 K, .int .i64 E, .slice ia il ic, .slice la ll lc] 28 (0, 0))) := ((Fr.refl noF w).alloc _).alloc _
  have hbx : ∀ (X : World), Fr noF noF ((w.alloc (.cells #[.int .i64 pr, .bool pl, .bool sr, .bool sw, .int .i32 ms, .int .i32 co, .int .i32 fr] 23 (0, 0))).alloc (.cells #[.int .i64 T, .int .i64 N, .slice sa sn sc, .int .i64 K, .int .i64 E, .slice ia il ic, .slice la ll lc] 28 (0, 0))) X → Boxes X w.heap.size pr pl sr sw ms co fr (.int .i64 T) (.int .i64 N) (.slice sa sn sc) (.int .i64 K) (.int .i64 E) (.slice ia il ic) (.slice la ll lc) := fun X hX => boxes (hX.block (new2 w _ _).1 fun x => x) (hX.block (new2 w _ _).2 fun x => x)
  have hcv : ∀ (X : World), Fr noF noF ((w.alloc (.cells #[.int .i64 pr, .bool pl, .bool sr, .bool sw, .int .i32 ms, .int .i32 co, .int .i32 fr] 23 (0, 0))).alloc (.cells #[.int .i64 T, .int .i64 N, .slice sa sn sc, .int .i64 K, .int .i64 E, .slice ia il ic, .slice la ll lc] 28 (0, 0))) X → (convert 24 9 (.slice na nn nc)).run Tryz.prog X = .ok (.string (strOf nm)) X := fun X hX => conv_back (hn.keep (F := noF) (hf0.trans hX) fun _ _ x => x)
  have H1 := Lib.hid (NewTMemoryBuffer_raw ((w.alloc (.cells #[.int .i64 pr, .bool pl, .bool sr, .bool sw, .int .i32 ms, .int .i32 co, .int .i32 fr] 23 (0, 0))).alloc (.cells #[.int .i64 T, .int .i64 N, .slice sa sn sc, .int .i64 K, .int .i64 E, .slice ia il ic, .slice la ll lc] 28 (0, 0))))
  have H2 := Lib.hid (hchain _ hf0)
  have HB := Lib.hid hbx
  have HCV := Lib.hid hcv
  have HCX := Lib.hid I_ctx
  have HNC := Lib.hid T_NewClient
  clear hchain hbx hcv hnews hv hx hl hr hn hf0 hm2 hd hnl
  show Calls Tryz.prog 19 #[_, _, _, .agg (valA T N (.slice sa sn sc) K E (.slice ia il ic) (.slice la ll lc))] w _
  go_enter Tryz.func19, Tryz.ntmps19
  go_wp2_with fail
  refine H1.out.mono ?_
  rintro e w1 ⟨m, b, rfl, hm, hb, hf, hmn⟩
  obtain ⟨b0, b1, b2, b3, b4, b5, b6, b7, b8, b9, b10, b11, b12, b13⟩ := HB.out w1 (hf.conv fun _ _ x => x.elim)
  have HP := Lib.hid (H2.out m b w1 hm hb hf hmn)
  clear hm hb hf hmn
  go_wp2_with fail
  (with_reducible refine HP.out.mono ?_)
  rintro e w2 ⟨P, ff, rfl, hOk, hFl, hF2, hcall⟩
  clear b0 b1 b2 b3 b4 b5 b6 b7 b8 b9 b10 b11 b12 b13
  have hsnd : ∀ (cl : Value) (q : Nat) (X : World), w2.heap.size ≤ q → Fr noF noF w2 X → X.heap[q]? = some (.cells #[.int .i64 T, .int .i64 N, .slice sa sn sc, .int .i64 K, .int .i64 E, .slice ia il ic, .slice la ll lc, .int .i64 0] TBody (0, 0)) →
      Calls Tryz.prog 52 #[cl, WOp.args.ctxW, .iface P.T P.recv, .int .i32 sq, .string (strOf nm), .iface PBody (.pointer (some ⟨q, 0, none⟩))] X (fun e w' => e = .returned .nilIface ∧ PutEnd w w' m b news ∧ Fr noF noF ((w.alloc (.cells #[.int .i64 pr, .bool pl, .bool sr, .bool sw, .int .i32 ms, .int .i32 co, .int .i32 fr] 23 (0, 0))).alloc (.cells #[.int .i64 T, .int .i64 N, .slice sa sn sc, .int .i64 K, .int .i64 E, .slice ia il ic, .slice la ll lc] 28 (0, 0))) w') := fun cl q X hq hX hbq =>
    T_Send P.T P.recv (P.fn "WriteMessageBegin") (P.fn "WriteMessageEnd") ff (strOf nm) sq q cl T N _ K E _ _ _ X (fun w' => PutEnd w w' m b news ∧ Fr noF noF ((w.alloc (.cells #[.int .i64 pr, .bool pl, .bool sr, .bool sw, .int .i32 ms, .int .i32 co, .int .i32 fr] 23 (0, 0))).alloc (.cells #[.int .i64 T, .int .i64 N, .slice sa sn sc, .int .i64 K, .int .i64 E, .slice ia il ic, .slice la ll lc] 28 (0, 0))) w')
      (hOk.meth (.msgBegin default 0 0)) (hOk.ahead (.msgBegin default 0 0)) (hOk.enter (.msgBegin default 0 0)) (hOk.meth .msgEnd) (hOk.ahead .msgEnd) (hOk.enter .msgEnd) hFl.meth hFl.ahead hFl.enter
      ((hcall X hX).mono fun e w3 ⟨he, _, hblk, hp⟩ => ⟨he, hblk q _ hq hbq, (hp w3 (Fr.refl noF w3)).mono fun e w4 ⟨he, _, hc4⟩ => ⟨he, hc4.mono fun e w5 ⟨he, hf5, hend, hfl⟩ => ⟨he, hfl.mono fun e w6 ⟨he, hw⟩ => ⟨he, hw ▸ ⟨hend, hf5⟩⟩⟩⟩⟩)
  obtain ⟨PT, hPT⟩ : ∃ f, f = P.T := ⟨_, rfl⟩
  obtain ⟨r, hrr⟩ : ∃ f, f = P.recv := ⟨_, rfl⟩
  rw [← hrr, ← hPT] at hsnd
  rw [← hPT, ← hrr]
  have hheld : ∀ X, Fr noF noF ((w.alloc (.cells #[.int .i64 pr, .bool pl, .bool sr, .bool sw, .int .i32 ms, .int .i32 co, .int .i32 fr] 23 (0, 0))).alloc (.cells #[.int .i64 T, .int .i64 N, .slice sa sn sc, .int .i64 K, .int .i64 E, .slice ia il ic, .slice la ll lc] 28 (0, 0))) X → ((convert 24 9 (.slice na nn nc)).run Tryz.prog X = .ok (.string (strOf nm)) X ∧ X.cell? ⟨w.heap.size + 1, 0, none⟩ = some (.int .i64 T) ∧ X.cell? ⟨w.heap.size + 1, 1, none⟩ = some (.int .i64 N) ∧ X.cell? ⟨w.heap.size + 1, 2, none⟩ = some (.slice sa sn sc) ∧ X.cell? ⟨w.heap.size + 1, 3, none⟩ = some (.int .i64 K) ∧ X.cell? ⟨w.heap.size + 1, 4, none⟩ = some (.int .i64 E) ∧ X.cell? ⟨w.heap.size + 1, 5, none⟩ = some (.slice ia il ic) ∧ X.cell? ⟨w.heap.size + 1, 6, none⟩ = some (.slice la ll lc)) := fun X hX => by
    obtain ⟨b0, b1, b2, b3, b4, b5, b6, b7, b8, b9, b10, b11, b12, b13⟩ := HB.out X hX
    exact ⟨HCV.out X hX, b7, b8, b9, b10, b11, b12, b13⟩
  have HH := Lib.hid hheld
  have HS := Lib.hid hsnd
  have HF2 := Lib.hid hF2
  clear hcall hsnd hheld hOk hFl hPT hrr hF2
  unfold WOp.args.ctxW at HS
  go_wp2_with fail
  go_region_held3 (fun w' => (convert 24 9 (.slice na nn nc)).run Tryz.prog w' = .ok (.string (strOf nm)) w' ∧ w'.cell? ⟨w.heap.size + 1, 0, none⟩ = some (.int .i64 T) ∧ w'.cell? ⟨w.heap.size + 1, 1, none⟩ = some (.int .i64 N) ∧ w'.cell? ⟨w.heap.size + 1, 2, none⟩ = some (.slice sa sn sc) ∧ w'.cell? ⟨w.heap.size + 1, 3, none⟩ = some (.int .i64 K) ∧ w'.cell? ⟨w.heap.size + 1, 4, none⟩ = some (.int .i64 E) ∧ w'.cell? ⟨w.heap.size + 1, 5, none⟩ = some (.slice ia il ic) ∧ w'.cell? ⟨w.heap.size + 1, 6, none⟩ = some (.slice la ll lc)) (first | exact HH.out _ HF.out.2 | exact HH.out _ (HF2.out.trans (by (focus ((repeat (first | with_reducible exact Fr.refl _ _ | with_reducible assumption | with_reducible refine Fr.alloc ?_ _ | with_reducible refine Fr.drew ?_ | with_reducible refine Fr.drewN ?_ _ | with_reducible refine Fr.trans (F' := noF) ?_ (by with_reducible assumption) | fail)); done)))) | fail) (first | (go_at_call 45; refine (HCX.out _).mono ?_; rintro e w9 ⟨rfl, rfl⟩) | (go_at_call 51; (with_reducible refine (HNC.out _ _ _).mono ?_); rintro e X1 ⟨cl, rfl, hx1⟩) | (go_at_call 52; (with_reducible refine (HS.out _ _ _ ?_ ?_ ?_).mono ?_); (first | exact Nat.le_refl _ | exact Fr.size (F := noF) (F' := noF) (by (focus ((repeat (first | with_reducible exact Fr.refl _ _ | with_reducible assumption | with_reducible refine Fr.alloc ?_ _ | with_reducible refine Fr.drew ?_ | with_reducible refine Fr.drewN ?_ _ | with_reducible refine Fr.trans (F' := noF) ?_ (by with_reducible assumption) | fail)); done)))); (focus ((repeat (first | with_reducible exact Fr.refl _ _ | with_reducible assumption | with_reducible refine Fr.alloc ?_ _ | with_reducible refine Fr.drew ?_ | with_reducible refine Fr.drewN ?_ _ | with_reducible refine Fr.trans (F' := noF) ?_ (by with_reducible assumption) | fail)); done)); (focus ((repeat (first | with_reducible assumption | with_reducible exact alloc_new _ _ | ((with_reducible refine alloc_newE ?_); (first | with_reducible rfl | (simp; done))) | with_reducible refine alloc_at ?_ | with_reducible refine drew_at ?_ | with_reducible refine Fr.block (F := noF) (F' := noF) (by with_reducible assumption) ?_ (fun x => x) | fail)); done)); rintro e w5 ⟨rfl, hend⟩; have HF := Lib.hid hend; clear hend) | fail)
  all_goals have m0 := HF.out.1.1
  all_goals go_wp2_with fail
  all_goals (refine (Buf_Bytes b _ true news w5 HF.out.1.2.1).mono ?_; rintro e w6 ⟨v6, q6, rfl, rfl, hR, hblk⟩; have HR := Lib.hid (put_end HF.out.1 q6 hR hblk); clear hR hblk)
  all_goals go_wp2_with (go_at_call 48; refine (kind_nil _).mono ?_; rintro e w9 ⟨rfl, rfl⟩)
  all_goals go_ret2
  all_goals exact HR.out
end Go.Proofs.YtkfkieebcahiiaaGreatDoor
namespace Go.Proofs.YtkfkieebcahiiaaGreatDoor
open Go Go.RowKit
set_option maxHeartbeats 4000000
set_option maxRecDepth 100000
set_option linter.all false

theorem S_Send (c : ConfV) (x : VT) (hx : x.small) (nm : List UInt8) (sq : Int) (nv v : Value) (w : World) (hv : ValR w x v) (hn : Rd w nv nm) (hnl : nm.length ≤ 1000000) (hsq : -2147483648 ≤ sq ∧ sq < 2147483648)
    (hg : SGood SSt.new (msgL nm 1 sq x)) :
    Calls Tryz.prog 20 #[c.val, .int .i32 sq, nv, v] w (SPutR w (srun c SSt.new (msgL nm 1 sq x)).1.out (srun c SSt.new (msgL nm 1 sq x)).2) := by
  obtain ⟨sa, sn, sc, ia, il, ic, la, ll, lc, rfl⟩ := hv.sl
  obtain ⟨na, nn, nc, rfl, -⟩ := hn.len
  have hwsq : IntKind.i32.wrap sq = sq := by rw [wrap_i32']; omega
  have hf2 : Fr noF noF w ((w.alloc (.cells #[.int .i64 c.proto, .bool c.plain, .bool c.sr, .bool c.sw, .int .i32 c.msg, .int .i32 c.con, .int .i32 c.fra] 35 (0, 0))).alloc (.cells (valA x.T x.N (.slice sa sn sc) x.K x.E (.slice ia il ic) (.slice la ll lc)) TSVal (0, 0))) := ((Fr.refl noF w).alloc _).alloc _
  have hp := S_PutMessage c x hx nm 1 sq (.slice na nn nc) _ _ (hv.keep hf2) (hn.keep hf2 fun _ _ x => x) hnl hsq (by rw [hwsq]; exact hg) (srun c SSt.new (msgL nm 1 sq x)) (by rw [hwsq]; rfl)
  have HP := Lib.hid (hp.mono fun e w' ⟨r, he, h1, h2, h3⟩ => (show SPutR w (srun c SSt.new (msgL nm 1 sq x)).1.out (srun c SSt.new (msgL nm 1 sq x)).2 e w' from ⟨r, he, h1, fun j hj => by have := h2 j hj; have := hf2.size; omega, hf2.trans h3⟩))
  obtain ⟨R, hR⟩ : ∃ R, R = srun c SSt.new (msgL nm 1 sq x) := ⟨_, rfl⟩
  rw [← hR] at HP ⊢
  clear hp hf2 hwsq hg hR hv hn
  obtain ⟨pr, pl, sr, sw, ms, co, fr⟩ := c
  go_enter Tryz.func20, Tryz.ntmps20
  go_wp2_with fail
  (with_reducible refine HP.out.mono ?_)
  rintro e Y ⟨r, rfl, h1, h2, h3⟩
  obtain ⟨ra, rn, rc, rfl, -⟩ := h1.len
  have HX := Lib.hid (And.intro h1 (And.intro h2 h3))
  clear h1 h2 h3
  go_wp2
  go_ret2
  exact ⟨_, rfl, HX.out⟩
end Go.Proofs.YtkfkieebcahiiaaGreatDoor
namespace Go.Proofs.YtkfkieebcahiiaaGreatDoor
open Go Go.RowKit
set_option maxHeartbeats 4000000
set_option maxRecDepth 100000
set_option linter.all false

theorem L_FnSend (c : ConfV) (sq : Int) (nv : Value) (nm : List UInt8) (x : VT) (v : Value) (w : World) (hsq : -2147483648 ≤ sq ∧ sq ≤ 2147483647) (hn : Rd w nv nm) (hv : ValR w x v) (hr : x.rng) : Calls Tryz.prog 4 #[c.val, .int .i32 sq, nv, v] w (fun e w' => e = .returned (.bool true) ∧ Fr noF noF w w') := by
  obtain ⟨T, N, Sb, K, E, ids, L⟩ := x
  obtain ⟨vS, vI, vL, us, rfl, h1, h2, ⟨la, lc, rfl, -⟩, -⟩ := hv.inv
  obtain ⟨sa, sn, sc, rfl, -⟩ := h1.len
  obtain ⟨ia, il, ic, rfl, -⟩ := h2.len
  obtain ⟨na, nn, nc, rfl, hnn⟩ := hn.len
  obtain ⟨ll, hll⟩ : ∃ ll, ll = L.length := ⟨_, rfl⟩
  rw [← hll] at hv ⊢
  clear h1 h2 hll
  have hwsq : IntKind.i32.wrap sq = sq := by rw [wrap_i32']; omega
  have hvx : ∀ X, Fr noF noF w X → ValR X (VT.mk T N Sb K E ids L) (.agg (valA T N (.slice sa sn sc) K E (.slice ia il ic) (.slice la ll lc))) := fun X hX => hv.keep hX
  have hnx : ∀ X, Fr noF noF w X → Rd X (.slice na nn nc) nm := fun X hX => hn.keep hX fun _ _ x => x
  have hz : ∀ X, Fr noF noF w X → Calls Tryz.prog 11 #[(.agg (valA T N (.slice sa sn sc) K E (.slice ia il ic) (.slice la ll lc)))] X (BoolR X) := fun X hX => L_zzFits1 _ X _ (hvx X hX)
  have hhv : ∀ X, Fr noF noF w X → Calls Tryz.prog 12 #[.slice (some ⟨X.heap.size, 0, none⟩) 1 1] (X.alloc (.cells (valA T N (.slice sa sn sc) K E (.slice ia il ic) (.slice la ll lc)) 28 (0, 0))) (fun e w' => ∃ b, e = .returned (.bool b) ∧ (b = false → (VT.mk T N Sb K E ids L).small ∧ (VT.mk T N Sb K E ids L).weight ≤ 65536) ∧ Fr noF noF X w') := fun X hX =>
    (L_isHeavy1 X.heap.size (VT.mk T N Sb K E ids L) sa sn sc ia il ic la ll lc _ (alloc_new X _) (hvx _ (hX.alloc _))).mono fun e w' ⟨b, h1, h2, h3⟩ => ⟨b, h1, h2, ((Fr.refl noF X).alloc _).trans h3⟩
  have hput : ∀ X, (VT.mk T N Sb K E ids L).small ∧ (VT.mk T N Sb K E ids L).weight ≤ 65536 → nn ≤ 65536 → Fr noF noF w X → Calls Tryz.prog 19 #[c.val, .int .i32 sq, .slice na nn nc, (.agg (valA T N (.slice sa sn sc) K E (.slice ia il ic) (.slice la ll lc)))] X (fun e w' => ∃ ba bn bc, e = .returned (.tuple #[.slice ba bn bc, .int .i64 0]) ∧ Rd w' (.slice ba bn bc) (encAll c CSt.new (msgL nm 1 sq (VT.mk T N Sb K E ids L))) ∧ Fr noF noF X w') := fun X hs hl hX =>
    (I_Send c _ hs.1 nm (by omega) sq _ _ X (hvx X hX) (hnx X hX) (msgL nm 1 sq (VT.mk T N Sb K E ids L)) rfl (by have := msg_most nm 1 sq (VT.mk T N Sb K E ids L) hs.2 (by omega); unfold LIM; omega) (msg_rng nm _ sq _ hs.1 hr) (fun _ => msg_dep nm _ sq _ _)).mono fun e w' ⟨u, he, h1, _, h3⟩ => by
      obtain ⟨a, n, k, rfl, -⟩ := h1.len
      exact ⟨a, n, k, he, h1, h3⟩
  have htold : ∀ X, (VT.mk T N Sb K E ids L).small ∧ (VT.mk T N Sb K E ids L).weight ≤ 65536 → nn ≤ 65536 → Fr noF noF w X → Calls Tryz.prog 16 #[(.agg (valA T N (.slice sa sn sc) K E (.slice ia il ic) (.slice la ll lc)))] X (fun e w' => ∃ sa sn sc ia il ic la ll lc, e = .returned (.agg (valA T N (.slice sa sn sc) K E (.slice ia il ic) (.slice la ll lc))) ∧
      Calls Tryz.prog 20 #[c.val, .int .i32 sq, .slice na nn nc, .agg (valA T N (.slice sa sn sc) K E (.slice ia il ic) (.slice la ll lc))] w' (fun e w2 => ∃ da dn dc k, e = .returned (.tuple #[.slice da dn dc, .int .i64 k]) ∧ ((k = 0 ∧ Rd w2 (.slice da dn dc) (encAll c CSt.new (msgL nm 1 sq (VT.mk T N Sb K E ids L)))) ∨ k = -2) ∧ Fr noF noF w' w2) ∧ Fr noF noF X w') := fun X hs hl hX =>
    (L_told _ hs.1 X _ (hvx X hX)).mono fun e w' ⟨sa, sn, sc, ia, il, ic, la, ll, lc, he, h1, h2⟩ => ⟨sa, sn, sc, ia, il, ic, la, ll, lc, he,
      (S_Send c _ hs.1 nm sq _ _ w' h1 ((hnx X hX).keep h2 fun _ _ x => x) (by omega) (by omega) (msg_good nm _ sq _ hs.1 hr hs.2 (by omega))).mono fun e w2 ⟨r, he, h3, _, h5⟩ => by
        obtain ⟨a, n, k, rfl, -⟩ := h3.len
        refine ⟨a, n, k, _, he, ?_, h5⟩
        rcases srun_kind c (msgL nm 1 sq (VT.mk T N Sb K E ids L)) SSt.new with hk | hk
        · refine Or.inl ⟨hk, ?_⟩
          rw [← srun_enc c _ hk]
          exact h3
        · exact Or.inr hk, h2⟩
  obtain ⟨B, hB⟩ : ∃ B, B = encAll c CSt.new (msgL nm 1 sq (VT.mk T N Sb K E ids L)) := ⟨_, rfl⟩
  rw [← hB] at hput htold
  obtain ⟨P, hP⟩ : ∃ P : Prop, P = ((VT.mk T N Sb K E ids L).small ∧ (VT.mk T N Sb K E ids L).weight ≤ 65536) := ⟨_, rfl⟩
  rw [← hP] at hhv hput htold
  have hnn0 : (0 : Int) ≤ (nn : Int) := by omega
  obtain ⟨pr, pl, sr, sw, ms, co, fr⟩ := c
  have q2 := new2 w (.cells #[.int .i64 pr, .bool pl, .bool sr, .bool sw, .int .i32 ms, .int .i32 co, .int .i32 fr] 23 (0, 0)) (.cells (valA T N (.slice sa sn sc) K E (.slice ia il ic) (.slice la ll lc)) 28 (0, 0))
  have hf2 : Fr noF noF w ((w.alloc (.cells #[.int .i64 pr, .bool pl, .bool sr, .bool sw, .int .i32 ms, .int .i32 co, .int .i32 fr] 23 (0, 0))).alloc (.cells (valA T N (.slice sa sn sc) K E (.slice ia il ic) (.slice la ll lc)) 28 (0, 0))) := ((Fr.refl noF w).alloc _).alloc _
  have hbx : ∀ X, Fr noF noF ((w.alloc (.cells #[.int .i64 pr, .bool pl, .bool sr, .bool sw, .int .i32 ms, .int .i32 co, .int .i32 fr] 23 (0, 0))).alloc (.cells (valA T N (.slice sa sn sc) K E (.slice ia il ic) (.slice la ll lc)) 28 (0, 0))) X → Boxes X w.heap.size pr pl sr sw ms co fr (.int .i64 T) (.int .i64 N) (.slice sa sn sc) (.int .i64 K) (.int .i64 E) (.slice ia il ic) (.slice la ll lc) := fun X hX => boxes (hX.block q2.1 fun x => x) (hX.block q2.2 fun x => x)
  obtain ⟨W, hW⟩ : ∃ W, W = ((w.alloc (.cells #[.int .i64 pr, .bool pl, .bool sr, .bool sw, .int .i32 ms, .int .i32 co, .int .i32 fr] 23 (0, 0))).alloc (.cells (valA T N (.slice sa sn sc) K E (.slice ia il ic) (.slice la ll lc)) 28 (0, 0))) := ⟨_, rfl⟩
  have HW := Lib.hid hW
  rw [← hW] at hbx hf2
  have HB := Lib.hid hbx
  have HF2 := Lib.hid hf2
  have HZ := Lib.hid (hz W hf2)
  have HHV := Lib.hid (fun X hX => hhv X (hf2.trans hX))
  have HPUT := Lib.hid (fun X h h' hX => hput X h h' (hf2.trans hX))
  have HT := Lib.hid (fun X h h' hX => htold X h h' (hf2.trans hX))
  have HK := Lib.hid L_known
  have HE := Lib.hid L_equal
  have HSK := Lib.hid (show ∀ k, k = 0 ∨ k = -2 → ∀ X, Calls Tryz.prog 17 #[.int .i64 0, .int .i64 k] X fun e w' => e = .returned (.bool true) ∧ X = w' from fun k hk X => (S_SameKind 0 k X).mono fun e w' h => ⟨by rw [h.1]; rcases hk with rfl | rfl <;> rfl, h.2.symm⟩)
  clear hbx hf2 hz hhv hput htold hvx hnx hB hP hv hr hn hnn hwsq q2 hW hsq
  show Calls Tryz.prog 4 #[_, .int .i32 sq, _, .agg (valA T N (.slice sa sn sc) K E (.slice ia il ic) (.slice la ll lc))] w _
  go_enter Tryz.func4, Tryz.ntmps4
  go_upto_region 1 with fail
  rw [← HW.out]
  rcases Decidable.em ((nn : Int) > 2147483647) with k0 | k0
  · have HX := Lib.hid HF2.out
    go_wp2
    go_ret
    exact ⟨rfl, HX.out⟩
  have c0 := HB.out W (Fr.refl noF W)
  unfold Boxes at c0
  obtain ⟨a0, a1, a2, a3, a4, a5, a6, b0, b1, b2, b3, b4, b5, b6⟩ := c0
  go_wp2_with fail
  (with_reducible refine HZ.out.mono ?_)
  rintro e X1 ⟨b, rfl, hX1⟩
  clear a0 a1 a2 a3 a4 a5 a6 b0 b1 b2 b3 b4 b5 b6
  cases b
  · have HX := Lib.hid (HF2.out.trans hX1)
    clear hX1
    go_wp2
    go_ret
    exact ⟨rfl, HX.out⟩
  have c0 := HB.out X1 hX1
  unfold Boxes at c0
  obtain ⟨a0, a1, a2, a3, a4, a5, a6, b0, b1, b2, b3, b4, b5, b6⟩ := c0
  go_wp2_with fail
  (with_reducible refine (HHV.out X1 hX1).mono ?_)
  rintro e X2 ⟨b, rfl, hbp, hX2⟩
  have h2 := hX1.trans hX2
  clear a0 a1 a2 a3 a4 a5 a6 b0 b1 b2 b3 b4 b5 b6 hX1 hX2
  cases b
  rotate_left
  · clear hbp
    go_wp2_with fail
    (with_reducible refine (HK.out _).mono ?_)
    rintro e Z ⟨rfl, hz⟩
    have HX := Lib.hid (HF2.out.trans (h2.trans hz))
    clear hz h2
    go_wp2
    go_ret
    exact ⟨rfl, HX.out⟩
  have HP := Lib.hid (hbp rfl)
  clear hbp
  rcases Decidable.em ((nn : Int) > 65536) with k1 | k1
  · go_wp2_with fail
    (with_reducible refine (HK.out _).mono ?_)
    rintro e Z ⟨rfl, hz⟩
    have HX := Lib.hid (HF2.out.trans (h2.trans hz))
    clear hz h2
    go_wp2
    go_ret
    exact ⟨rfl, HX.out⟩
  have HN := Lib.hid (show nn ≤ 65536 by omega)
  have c0 := HB.out X2 h2
  unfold Boxes at c0
  obtain ⟨a0, a1, a2, a3, a4, a5, a6, b0, b1, b2, b3, b4, b5, b6⟩ := c0
  go_wp2_with fail
  (with_reducible refine (HPUT.out X2 HP.out HN.out h2).mono ?_)
  rintro e Z ⟨ba, bn, bc, rfl, hr, hz⟩
  have hwz := h2.trans hz
  have HQZ := Lib.hid (show ∀ X, Fr noF noF Z X → Boxes X w.heap.size pr pl sr sw ms co fr (.int .i64 T) (.int .i64 N) (.slice sa sn sc) (.int .i64 K) (.int .i64 E) (.slice ia il ic) (.slice la ll lc) from fun X hX => HB.out X (hwz.trans hX))
  have HR := Lib.hid hr
  clear hz hr a0 a1 a2 a3 a4 a5 a6 b0 b1 b2 b3 b4 b5 b6 h2
  have c0 := HQZ.out _ (Fr.refl noF Z).drew
  go_wp2_with fail
  go_region_held3 (fun w' => w'.cell? ⟨w.heap.size, 0, none⟩ = some (.int .i64 pr) ∧ w'.cell? ⟨w.heap.size, 1, none⟩ = some (.bool pl) ∧ w'.cell? ⟨w.heap.size, 2, none⟩ = some (.bool sr) ∧ w'.cell? ⟨w.heap.size, 3, none⟩ = some (.bool sw) ∧ w'.cell? ⟨w.heap.size, 4, none⟩ = some (.int .i32 ms) ∧ w'.cell? ⟨w.heap.size, 5, none⟩ = some (.int .i32 co) ∧ w'.cell? ⟨w.heap.size, 6, none⟩ = some (.int .i32 fr) ∧ w'.cell? ⟨w.heap.size + 1, 0, none⟩ = some (.int .i64 T) ∧ w'.cell? ⟨w.heap.size + 1, 1, none⟩ = some (.int .i64 N) ∧ w'.cell? ⟨w.heap.size + 1, 2, none⟩ = some (.slice sa sn sc) ∧ w'.cell? ⟨w.heap.size + 1, 3, none⟩ = some (.int .i64 K) ∧ w'.cell? ⟨w.heap.size + 1, 4, none⟩ = some (.int .i64 E) ∧ w'.cell? ⟨w.heap.size + 1, 5, none⟩ = some (.slice ia il ic) ∧ w'.cell? ⟨w.heap.size + 1, 6, none⟩ = some (.slice la ll lc)) (first | exact c2 | exact c1 | exact c0 | fail) (first | (go_at_call 16; (with_reducible refine (HT.out _ HP.out HN.out ?_).mono ?_); (focus ((repeat (first | with_reducible exact Fr.refl _ _ | with_reducible assumption | with_reducible refine Fr.alloc ?_ _ | with_reducible refine Fr.drew ?_ | with_reducible refine Fr.drewN ?_ _ | with_reducible refine Fr.trans (F' := noF) ?_ (by with_reducible assumption) | fail)); done)); rintro e X3 ⟨ua, un, uc, pa, pl', pc, oa, ol, oc, rfl, hsp, hx1⟩; have c1 := HQZ.out X3 (by (focus ((repeat (first | with_reducible exact Fr.refl _ _ | with_reducible assumption | with_reducible refine Fr.alloc ?_ _ | with_reducible refine Fr.drew ?_ | with_reducible refine Fr.drewN ?_ _ | with_reducible refine Fr.trans (F' := noF) ?_ (by with_reducible assumption) | fail)); done))); have HSP := Lib.hid hsp; clear hsp) | (go_at_call 20; (with_reducible refine HSP.out.mono ?_); rintro e X4 ⟨da, dn, dc, kk, rfl, hrd, hx2⟩; have c2 := HQZ.out X4 (by (focus ((repeat (first | with_reducible exact Fr.refl _ _ | with_reducible assumption | with_reducible refine Fr.alloc ?_ _ | with_reducible refine Fr.drew ?_ | with_reducible refine Fr.drewN ?_ _ | with_reducible refine Fr.trans (F' := noF) ?_ (by with_reducible assumption) | fail)); done))); have HRD := Lib.hid hrd; clear hrd) | fail)
  all_goals have HF := Lib.hid (show Fr noF noF Z X4 by (focus ((repeat (first | with_reducible exact Fr.refl _ _ | with_reducible assumption | with_reducible refine Fr.alloc ?_ _ | with_reducible refine Fr.drew ?_ | with_reducible refine Fr.drewN ?_ _ | with_reducible refine Fr.trans (F' := noF) ?_ (by with_reducible assumption) | fail)); done)))
  all_goals have HWF := Lib.hid (HF2.out.trans (hwz.trans HF.out))
  all_goals clear hwz hx1 hx2 c0 c1 c2
  all_goals have hrd := HRD.out
  all_goals clear HRD
  all_goals rcases hrd with ⟨rfl, hrd⟩ | rfl
  all_goals go_wp2_with fail
  all_goals (first | (with_reducible refine (HSK.out 0 (Or.inl rfl) X4).mono ?_) | (with_reducible refine (HSK.out (-2) (Or.inr rfl) X4).mono ?_))
  all_goals rintro e w' ⟨rfl, rfl⟩
  all_goals go_wp2_with fail
  all_goals (try (refine (HE.out _ _ B B X4 (HR.out.keep HF.out fun _ _ x => x) (by assumption)).mono ?_; rintro e w' ⟨he, q, rfl⟩; rw [decide_eq_true rfl] at he; subst he; clear hrd; go_wp2_with fail))
  all_goals (with_reducible refine (HK.out _).mono ?_)
  all_goals rintro e V ⟨rfl, hv⟩
  all_goals (first | have HV := Lib.hid (HWF.out.trans hv) | have HV := Lib.hid ((HWF.out.drewN q).trans hv))
  all_goals clear hv
  all_goals go_wp2
  all_goals go_ret
  all_goals exact ⟨rfl, HV.out⟩
end Go.Proofs.YtkfkieebcahiiaaGreatDoor
