/- The thin package puts maps, sets and lists, by whatever protocol. -/
import Derived.Test.YtdifknecndlklaaGreatDoorZPutA
set_option linter.all false
namespace Go.Proofs.YtdifknecndlklaaGreatDoor
open Go Go.RowKit
set_option maxHeartbeats 2000000
set_option maxRecDepth 100000

/-- Nothing in it is long. -/
inductive VT.small : VT → Prop
  | mk {T N : Int} {S : List UInt8} {K E : Int} {ids : List Int} {L : List VT} (hS : S.length ≤ 1000000) (hI : ids.length ≤ 1000000) (hL : L.length ≤ 1000000) (hE : ∀ (j : Nat) x, L[j]? = some x → VT.small x) : VT.small (.mk T N S K E ids L)

section
variable {S : Type} (P : WProto S) (hP : P.Ok)

/-- What stands while a value is put: the protocol in the state s, the value's copy in its box. -/
structure At (w : World) (cs : Array Value) (s : S) (X : World) : Prop where
  I : P.I X s
  fr : Fr (P.F w) (P.F X) w X
  box : X.heap[w.heap.size]? = some (.cells cs TVal (0, 0))
  apart : ¬ P.F X w.heap.size

include hP
theorem At.start {w : World} {s : S} (h : P.I w s) (cs : Array Value) : At P w cs s (w.alloc (.cells cs TVal (0, 0))) := by
  obtain ⟨h1, h2, h3⟩ := hP.quiet h ((Fr.refl noF w).alloc (.cells cs TVal (0, 0)))
  exact ⟨h1, h3, alloc_new w _, fun hk => by have := hP.lt h (h2 _ hk); omega⟩
theorem At.quiet {w X Y : World} {cs : Array Value} {s : S} (h : At P w cs s X) (hf : Fr noF noF X Y) : At P w cs s Y := by
  obtain ⟨h1, h2, h3⟩ := hP.quiet h.I hf
  exact ⟨h1, h.fr.trans h3, hf.block h.box fun x => x, fun hk => h.apart (h2 _ hk)⟩
omit hP in
theorem At.next {w X Y : World} {cs : Array Value} {s s' : S} {e : Ending} (h : At P w cs s X) (hw : WR P X s' e Y) : At P w cs s' Y :=
  ⟨hw.2.1, h.fr.trans hw.2.2, hw.2.2.block h.box h.apart, fun hk => h.apart (hw.2.2.foot _ (lt_heap h.box) hk)⟩
omit hP in
theorem At.done {w X : World} {cs : Array Value} {s : S} (h : At P w cs s X) : WR P w s (.returned .nilIface) X := ⟨rfl, h.I, h.fr⟩
/-- A call of the protocol's. -/
theorem At.call {w X : World} {cs : Array Value} {s : S} (op : WOp) (h : At P w cs s X) (hg : P.good s op) (hfit : op.fits X (P.F X)) : Calls Tryz.prog (P.fn op.name) (op.args P.recv) X (fun e Y => e = .returned .nilIface ∧ At P w cs (P.step s op) Y) :=
  (hP.call op X s h.I hg hfit).mono fun _ _ hw => ⟨hw.1, h.next P hw⟩

theorem I_put14 (w0 w : World) (s : S) (T N K E : Int) (vS vI : Value) (la : Option Addr) (n lc : Nat) (us : Nat → Array Value) (L : List VT) (hL : L.length = n) (hT : T % 256 = 14) (hnm : n ≤ 1000000)
    (hcell : 0 < n → ∃ g o, la = some ⟨g, o, none⟩ ∧ ∀ j, j < n → ∀ i u, (us j)[i]? = some u → w0.cell? ⟨g, o + j * 7 + i, none⟩ = some u)
    (hE : ∀ (j : Nat) x, L[j]? = some x → ValR w0 x (.agg (us j))) (hput : ∀ (j : Nat) x, L[j]? = some x → PutOK P x) (hF : Fr noF (P.F w) w0 w) (h : P.I w s)
    (hg : P.goods s (.setBegin (E % 256) n :: (allW L n ++ [.setEnd]))) :
    Calls Tryz.prog 49 #[.iface P.T P.recv, .agg (valA T N vS K E vI (.slice la n lc))] w (WR P w (P.steps s (.setBegin (E % 256) n :: (allW L n ++ [.setEnd])))) := by
  obtain ⟨hg1, hg2⟩ := hg
  rw [WProto.goods_append] at hg2
  obtain ⟨hg2, hg3, -⟩ := hg2
  have hb : ∀ X, At P w (valA T N vS K E vI (.slice la n lc)) s X → Calls Tryz.prog (P.fn "WriteSetBegin") #[P.recv, .iface 221 (.agg #[]), .int .u8 (E % 256), .int .i64 n] X (fun e Y => e = .returned .nilIface ∧ At P w (valA T N vS K E vI (.slice la n lc)) (P.step s (.setBegin (E % 256) n)) Y) := fun X hX =>
    hX.call P hP (.setBegin (E % 256) n) hg1 trivial
  have ha : ∀ X, At P w (valA T N vS K E vI (.slice la n lc)) (P.step s (.setBegin (E % 256) n)) X → Calls Tryz.prog 71 #[.iface P.T P.recv, .slice la n lc] X (fun e Y => e = .returned .nilIface ∧ At P w (valA T N vS K E vI (.slice la n lc)) (P.steps (P.step s (.setBegin (E % 256) n)) (allW L n)) Y) := fun X hX =>
    (I_putAll P hP w0 X _ L us la n lc (by omega) (by omega) hcell hE (fun j x _ hx => hput j x hx) (hF.trans hX.fr) hX.I hg2).mono fun _ _ hw => ⟨hw.1, hX.next P hw⟩
  have he : ∀ X, At P w (valA T N vS K E vI (.slice la n lc)) (P.steps (P.step s (.setBegin (E % 256) n)) (allW L n)) X → Calls Tryz.prog (P.fn "WriteSetEnd") #[P.recv, .iface 221 (.agg #[])] X (fun e Y => e = .returned .nilIface ∧ WR P w (P.steps s (.setBegin (E % 256) n :: (allW L n ++ [.setEnd]))) e Y) := fun X hX =>
    (hX.call P hP .setEnd hg3 trivial).mono fun e Y ⟨h1, h2⟩ => by
      subst h1
      refine ⟨rfl, ?_⟩
      have : P.steps s (.setBegin (E % 256) n :: (allW L n ++ [.setEnd])) = P.step (P.steps (P.step s (.setBegin (E % 256) n)) (allW L n)) .setEnd := by
        show P.steps (P.step s (.setBegin (E % 256) n)) (allW L n ++ [.setEnd]) = _
        rw [WProto.steps_append]
        rfl
      rw [this]
      exact h2.done P
  have h0 := At.start P hP h (valA T N vS K E vI (.slice la n lc))
  have hq : ∀ (s' : S) (X : World), At P w (valA T N vS K E vI (.slice la n lc)) s' X → X.cell? ⟨w.heap.size, 4, none⟩ = some (.int .i64 E) ∧ X.cell? ⟨w.heap.size, 6, none⟩ = some (.slice la n lc) := fun _ _ hX => ⟨by rw [cell_at hX.box]; rfl, by rw [cell_at hX.box]; rfl⟩
  have hdr : ∀ (s' : S) (X : World), At P w (valA T N vS K E vI (.slice la n lc)) s' X → At P w (valA T N vS K E vI (.slice la n lc)) s' X.drew := fun _ _ hX => hX.quiet P hP ((Fr.refl noF _).drew)
  have hm1 : ∀ w, (method 498 P.T P.recv "WriteSetBegin").run Tryz.prog w = .ok (P.fn "WriteSetBegin", P.recv) w := hP.meth (.setBegin 0 0)
  have ha1 : ∀ w, (nilAhead 498 P.T P.recv "WriteSetBegin").run Tryz.prog w = .ok (some false) w := hP.ahead (.setBegin 0 0)
  have he1 : ∀ xs w, (callFunc (P.fn "WriteSetBegin") xs).run Tryz.prog w = .ok (.enter (P.fn "WriteSetBegin") xs) w := hP.enter (.setBegin 0 0)
  have hm2 : ∀ w, (method 498 P.T P.recv "WriteSetEnd").run Tryz.prog w = .ok (P.fn "WriteSetEnd", P.recv) w := hP.meth .setEnd
  have ha2 : ∀ w, (nilAhead 498 P.T P.recv "WriteSetEnd").run Tryz.prog w = .ok (some false) w := hP.ahead .setEnd
  have he2 : ∀ xs w, (callFunc (P.fn "WriteSetEnd") xs).run Tryz.prog w = .ok (.enter (P.fn "WriteSetEnd") xs) w := hP.enter .setEnd
  obtain ⟨f1, hf1⟩ : ∃ f, f = P.fn "WriteSetBegin" := ⟨_, rfl⟩
  obtain ⟨f2, hf2⟩ : ∃ f, f = P.fn "WriteSetEnd" := ⟨_, rfl⟩
  obtain ⟨PT, hPT⟩ : ∃ f, f = P.T := ⟨_, rfl⟩
  obtain ⟨r, hr⟩ : ∃ f, f = P.recv := ⟨_, rfl⟩
  rw [← hf1, ← hr] at hb
  rw [← hf2, ← hr] at he
  rw [← hf1] at he1
  rw [← hf2] at he2
  rw [← hf1, ← hr, ← hPT] at hm1
  rw [← hf2, ← hr, ← hPT] at hm2
  rw [← hr, ← hPT] at ha1 ha2 ha
  rw [← hPT, ← hr]
  have HB := Lib.hid hb
  have HA := Lib.hid ha
  have HE := Lib.hid he
  have H0 := Lib.hid h0
  have HQ := Lib.hid hq
  have HD := Lib.hid hdr
  have HC := Lib.hid I_ctx
  have HT := Lib.hid (typ_is hT)
  have HTE := Lib.hid (typ_is (T := E) rfl)
  have q0 := hq _ _ (hdr _ _ h0)
  clear hb ha he h0 hdr hf1 hf2 hPT hr hP hg1 hg2 hg3 h hF hput hE hcell hT hL hq
  go_enter Tryz.func49, Tryz.ntmps49
  go_wp2_with (first | (go_at_call 57; (with_reducible refine (HT.out _).mono ?_); rintro e w' ⟨rfl, rfl⟩))
  go_region_held3 (fun w' => w'.cell? ⟨w.heap.size, 4, none⟩ = some (.int .i64 E) ∧ w'.cell? ⟨w.heap.size, 6, none⟩ = some (.slice la n lc)) (first | exact q0 | exact q1) (first | (go_at_call 38; (with_reducible refine (HC.out _).mono ?_); rintro e w1 ⟨rfl, rfl⟩) | (go_at_call 57; (with_reducible refine (HTE.out _).mono ?_); rintro e w1 ⟨rfl, rfl⟩) | ((with_reducible refine (HB.out _ (HD.out _ _ H0.out)).mono ?_); rintro e Y ⟨rfl, hY⟩; have q1 := HQ.out _ _ hY; have HY := Lib.hid hY; clear hY) | fail)
  all_goals clear q0
  all_goals go_wp2_with (first | ((with_reducible refine (HA.out _ HY.out).mono ?_); rintro e Z ⟨rfl, hZ⟩; have HZ := Lib.hid hZ; clear hZ q1) | fail)
  all_goals go_region_held3 (fun _ => True) (exact True.intro) (first | (go_at_call 38; (with_reducible refine (HC.out _).mono ?_); rintro e w1 ⟨rfl, rfl⟩) | ((with_reducible refine (HE.out _ (HD.out _ _ HZ.out)).mono ?_); rintro e V ⟨rfl, hV⟩; have HV := Lib.hid hV; clear hV) | fail)
  all_goals go_wp2
  all_goals go_ret
  all_goals exact HV.out
theorem I_put15 (w0 w : World) (s : S) (T N K E : Int) (vS vI : Value) (la : Option Addr) (n lc : Nat) (us : Nat → Array Value) (L : List VT) (hL : L.length = n) (hT : T % 256 = 15) (hnm : n ≤ 1000000)
    (hcell : 0 < n → ∃ g o, la = some ⟨g, o, none⟩ ∧ ∀ j, j < n → ∀ i u, (us j)[i]? = some u → w0.cell? ⟨g, o + j * 7 + i, none⟩ = some u)
    (hE : ∀ (j : Nat) x, L[j]? = some x → ValR w0 x (.agg (us j))) (hput : ∀ (j : Nat) x, L[j]? = some x → PutOK P x) (hF : Fr noF (P.F w) w0 w) (h : P.I w s)
    (hg : P.goods s (.listBegin (E % 256) n :: (allW L n ++ [.listEnd]))) :
    Calls Tryz.prog 49 #[.iface P.T P.recv, .agg (valA T N vS K E vI (.slice la n lc))] w (WR P w (P.steps s (.listBegin (E % 256) n :: (allW L n ++ [.listEnd])))) := by
  obtain ⟨hg1, hg2⟩ := hg
  rw [WProto.goods_append] at hg2
  obtain ⟨hg2, hg3, -⟩ := hg2
  have hb : ∀ X, At P w (valA T N vS K E vI (.slice la n lc)) s X → Calls Tryz.prog (P.fn "WriteListBegin") #[P.recv, .iface 221 (.agg #[]), .int .u8 (E % 256), .int .i64 n] X (fun e Y => e = .returned .nilIface ∧ At P w (valA T N vS K E vI (.slice la n lc)) (P.step s (.listBegin (E % 256) n)) Y) := fun X hX =>
    hX.call P hP (.listBegin (E % 256) n) hg1 trivial
  have ha : ∀ X, At P w (valA T N vS K E vI (.slice la n lc)) (P.step s (.listBegin (E % 256) n)) X → Calls Tryz.prog 71 #[.iface P.T P.recv, .slice la n lc] X (fun e Y => e = .returned .nilIface ∧ At P w (valA T N vS K E vI (.slice la n lc)) (P.steps (P.step s (.listBegin (E % 256) n)) (allW L n)) Y) := fun X hX =>
    (I_putAll P hP w0 X _ L us la n lc (by omega) (by omega) hcell hE (fun j x _ hx => hput j x hx) (hF.trans hX.fr) hX.I hg2).mono fun _ _ hw => ⟨hw.1, hX.next P hw⟩
  have he : ∀ X, At P w (valA T N vS K E vI (.slice la n lc)) (P.steps (P.step s (.listBegin (E % 256) n)) (allW L n)) X → Calls Tryz.prog (P.fn "WriteListEnd") #[P.recv, .iface 221 (.agg #[])] X (fun e Y => e = .returned .nilIface ∧ WR P w (P.steps s (.listBegin (E % 256) n :: (allW L n ++ [.listEnd]))) e Y) := fun X hX =>
    (hX.call P hP .listEnd hg3 trivial).mono fun e Y ⟨h1, h2⟩ => by
      subst h1
      refine ⟨rfl, ?_⟩
      have : P.steps s (.listBegin (E % 256) n :: (allW L n ++ [.listEnd])) = P.step (P.steps (P.step s (.listBegin (E % 256) n)) (allW L n)) .listEnd := by
        show P.steps (P.step s (.listBegin (E % 256) n)) (allW L n ++ [.listEnd]) = _
        rw [WProto.steps_append]
        rfl
      rw [this]
      exact h2.done P
  have h0 := At.start P hP h (valA T N vS K E vI (.slice la n lc))
  have hq : ∀ (s' : S) (X : World), At P w (valA T N vS K E vI (.slice la n lc)) s' X → X.cell? ⟨w.heap.size, 4, none⟩ = some (.int .i64 E) ∧ X.cell? ⟨w.heap.size, 6, none⟩ = some (.slice la n lc) := fun _ _ hX => ⟨by rw [cell_at hX.box]; rfl, by rw [cell_at hX.box]; rfl⟩
  have hdr : ∀ (s' : S) (X : World), At P w (valA T N vS K E vI (.slice la n lc)) s' X → At P w (valA T N vS K E vI (.slice la n lc)) s' X.drew := fun _ _ hX => hX.quiet P hP ((Fr.refl noF _).drew)
  have hm1 : ∀ w, (method 498 P.T P.recv "WriteListBegin").run Tryz.prog w = .ok (P.fn "WriteListBegin", P.recv) w := hP.meth (.listBegin 0 0)
  have ha1 : ∀ w, (nilAhead 498 P.T P.recv "WriteListBegin").run Tryz.prog w = .ok (some false) w := hP.ahead (.listBegin 0 0)
  have he1 : ∀ xs w, (callFunc (P.fn "WriteListBegin") xs).run Tryz.prog w = .ok (.enter (P.fn "WriteListBegin") xs) w := hP.enter (.listBegin 0 0)
  have hm2 : ∀ w, (method 498 P.T P.recv "WriteListEnd").run Tryz.prog w = .ok (P.fn "WriteListEnd", P.recv) w := hP.meth .listEnd
  have ha2 : ∀ w, (nilAhead 498 P.T P.recv "WriteListEnd").run Tryz.prog w = .ok (some false) w := hP.ahead .listEnd
  have he2 : ∀ xs w, (callFunc (P.fn "WriteListEnd") xs).run Tryz.prog w = .ok (.enter (P.fn "WriteListEnd") xs) w := hP.enter .listEnd
  obtain ⟨f1, hf1⟩ : ∃ f, f = P.fn "WriteListBegin" := ⟨_, rfl⟩
  obtain ⟨f2, hf2⟩ : ∃ f, f = P.fn "WriteListEnd" := ⟨_, rfl⟩
  obtain ⟨PT, hPT⟩ : ∃ f, f = P.T := ⟨_, rfl⟩
  obtain ⟨r, hr⟩ : ∃ f, f = P.recv := ⟨_, rfl⟩
  rw [← hf1, ← hr] at hb
  rw [← hf2, ← hr] at he
  rw [← hf1] at he1
  rw [← hf2] at he2
  rw [← hf1, ← hr, ← hPT] at hm1
  rw [← hf2, ← hr, ← hPT] at hm2
  rw [← hr, ← hPT] at ha1 ha2 ha
  rw [← hPT, ← hr]
  have HB := Lib.hid hb
  have HA := Lib.hid ha
  have HE := Lib.hid he
  have H0 := Lib.hid h0
  have HQ := Lib.hid hq
  have HD := Lib.hid hdr
  have HC := Lib.hid I_ctx
  have HT := Lib.hid (typ_is hT)
  have HTE := Lib.hid (typ_is (T := E) rfl)
  have q0 := hq _ _ (hdr _ _ h0)
  clear hb ha he h0 hdr hf1 hf2 hPT hr hP hg1 hg2 hg3 h hF hput hE hcell hT hL hq
  go_enter Tryz.func49, Tryz.ntmps49
  go_wp2_with (first | (go_at_call 57; (with_reducible refine (HT.out _).mono ?_); rintro e w' ⟨rfl, rfl⟩))
  go_region_held3 (fun w' => w'.cell? ⟨w.heap.size, 4, none⟩ = some (.int .i64 E) ∧ w'.cell? ⟨w.heap.size, 6, none⟩ = some (.slice la n lc)) (first | exact q0 | exact q1) (first | (go_at_call 38; (with_reducible refine (HC.out _).mono ?_); rintro e w1 ⟨rfl, rfl⟩) | (go_at_call 57; (with_reducible refine (HTE.out _).mono ?_); rintro e w1 ⟨rfl, rfl⟩) | ((with_reducible refine (HB.out _ (HD.out _ _ H0.out)).mono ?_); rintro e Y ⟨rfl, hY⟩; have q1 := HQ.out _ _ hY; have HY := Lib.hid hY; clear hY) | fail)
  all_goals clear q0
  all_goals go_wp2_with (first | ((with_reducible refine (HA.out _ HY.out).mono ?_); rintro e Z ⟨rfl, hZ⟩; have HZ := Lib.hid hZ; clear hZ q1) | fail)
  all_goals go_region_held3 (fun _ => True) (exact True.intro) (first | (go_at_call 38; (with_reducible refine (HC.out _).mono ?_); rintro e w1 ⟨rfl, rfl⟩) | ((with_reducible refine (HE.out _ (HD.out _ _ HZ.out)).mono ?_); rintro e V ⟨rfl, hV⟩; have HV := Lib.hid hV; clear hV) | fail)
  all_goals go_wp2
  all_goals go_ret
  all_goals exact HV.out
end
end Go.Proofs.YtdifknecndlklaaGreatDoor
