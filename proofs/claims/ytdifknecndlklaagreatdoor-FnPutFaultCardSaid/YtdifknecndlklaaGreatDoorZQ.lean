/- The specification's writer: a step, steps. The specification puts values by the binary protocol: what is put of values that are not taken apart; rows of values. The specification puts maps, sets and lists by the binary protocol. The specification puts structs, and whatever value, by the binary protocol. The specification puts whatever value by the binary protocol: spec.Put. -/
import Derived.Test.YtdifknecndlklaaGreatDoorZSx
import Derived.Test.YtdifknecndlklaaGreatDoorZ6
import Derived.Test.YtdifknecndlklaaGreatDoorZPutC
import Derived.Test.YtdifknecndlklaaGreatDoorZPutT
import Derived.Test.YtdifknecndlklaaGreatDoorZPutV
set_option linter.all false
namespace Go.Proofs.YtdifknecndlklaaGreatDoor
open Go Go.RowKit
set_option maxHeartbeats 4000000
set_option maxRecDepth 100000

theorem SSt.add_nil (s : SSt) : s.add [] = s := by
  obtain ⟨o, a, b, c, d, e⟩ := s
  simp [SSt.add]
theorem SSt.add_add (s : SSt) (a b : List UInt8) : (s.add a).add b = s.add (a ++ b) := by
  obtain ⟨o, _, _, _, _, _⟩ := s
  simp [SSt.add]
theorem SR.under {p : Nat} {c : ConfV} {w X : World} {s s' : SSt} {k : Int} {e : Ending} {w' : World} (h : SwI p c w s) (hX : Fr noF noF w X) (hr : SR p c X k s' e w') : SR p c w k s' e w' :=
  ⟨hr.1, hr.2.1, (h.quiet hX).2.2.trans hr.2.2⟩

theorem b8_mod (n : Int) : b8 (n % 256) = b8 n := by unfold b8; rw [Int.emod_emod_of_dvd _ (by decide)]
theorem b8_i8 (n : Int) : b8 (IntKind.i8.wrap n) = b8 n := by
  unfold b8
  rw [wrap_i8]
  congr 2
  omega
theorem be2_i16 (n : Int) : be2 (IntKind.i16.wrap n) = be2 n := by
  unfold be2
  rw [wrap_i16]
  congr 2
  omega
theorem be8_u64n (n : Int) : be8 (((IntKind.u64.wrap n).toNat : Nat) : Int) = be8 n := by
  unfold be8
  rw [IntKind.wrap_u64]
  congr 2
  omega

theorem bitB_of (n : Int) : [bitB n] = WOp.binB true (.bool (n != 0)) := by
  unfold WOp.binB bitB
  by_cases h : n = 0
  · simp [h]
  · simp [h]

/-- What a step of the binary protocol writes: as the package's. -/
theorem S_binary (x : Stp) (h0 : x.op ≠ 0) (hin : 0 ≤ x.op ∧ x.op ≤ 21) (p : Nat) (c : ConfV) (w : World) (s : SSt) (hv : Rd w x.v x.s) (hl : x.s.length ≤ 1000000) (h : SwI p c w s) (hout : s.out.length ≤ 10000000000) :
    Calls Tryz.prog 92 #[.pointer (some ⟨p, 0, none⟩), x.val] w (SR p c w 0 (s.add (x.binB c.strictW))) := by
  obtain ⟨op, t, k, sz, id, n, v, l⟩ := x
  have hcv : ∀ {B B' : List UInt8} {Q : List UInt8 → Prop}, B = B' → Q B → Q B' := fun e h => e ▸ h
  rcases (show op = 1 ∨ op = 2 ∨ op = 3 ∨ op = 4 ∨ op = 5 ∨ op = 6 ∨ op = 7 ∨ op = 8 ∨ op = 9 ∨ op = 10 ∨ op = 11 ∨ op = 12 ∨ op = 13 ∨ op = 14 ∨ op = 15 ∨ op = 16 ∨ op = 17 ∨ op = 18 ∨ op = 19 ∨ op = 20 ∨ op = 21 by
    dsimp only at h0 hin; omega) with rfl | rfl | rfl | rfl | rfl | rfl | rfl | rfl | rfl | rfl | rfl | rfl | rfl | rfl | rfl | rfl | rfl | rfl | rfl | rfl | rfl
  · exact S_bin1 p c w s t k sz id n v l hv hl h hout
  · exact S_bin2 p c w s t k sz id n v l hv hl h hout
  · exact S_bin3 p c w s t k sz id n v l hv hl h hout
  · have e : (Stp.binB c.strictW ⟨4, t, k, sz, id, n, v, l⟩) = b8 t :: be2 id := by show b8 (t % 256) :: be2 (IntKind.i16.wrap id) = _; rw [b8_mod, be2_i16]
    rw [e]; exact S_bin4 p c w s t k sz id n v l hv hl h hout
  · exact S_bin5 p c w s t k sz id n v l hv hl h hout
  · exact S_bin6 p c w s t k sz id n v l hv hl h hout
  · have e : (Stp.binB c.strictW ⟨7, t, k, sz, id, n, v, l⟩) = b8 k :: b8 t :: be4 sz := by show b8 (k % 256) :: b8 (t % 256) :: be4 sz = _; rw [b8_mod, b8_mod]
    rw [e]; exact S_bin7 p c w s t k sz id n v l hv hl h hout
  · exact S_bin8 p c w s t k sz id n v l hv hl h hout
  · have e : (Stp.binB c.strictW ⟨9, t, k, sz, id, n, v, l⟩) = b8 t :: be4 sz := by show b8 (t % 256) :: be4 sz = _; rw [b8_mod]
    rw [e]; exact S_bin9 p c w s t k sz id n v l hv hl h hout
  · exact S_bin10 p c w s t k sz id n v l hv hl h hout
  · have e : (Stp.binB c.strictW ⟨11, t, k, sz, id, n, v, l⟩) = b8 t :: be4 sz := by show b8 (t % 256) :: be4 sz = _; rw [b8_mod]
    rw [e]; exact S_bin11 p c w s t k sz id n v l hv hl h hout
  · exact S_bin12 p c w s t k sz id n v l hv hl h hout
  · have e : (Stp.binB c.strictW ⟨13, t, k, sz, id, n, v, l⟩) = [bitB n] := (bitB_of n).symm
    rw [e]; exact S_bin13 p c w s t k sz id n v l hv hl h hout
  · have e : (Stp.binB c.strictW ⟨14, t, k, sz, id, n, v, l⟩) = [b8 n] := by show [b8 (IntKind.i8.wrap n)] = _; rw [b8_i8]
    rw [e]; exact S_bin14 p c w s t k sz id n v l hv hl h hout
  · have e : (Stp.binB c.strictW ⟨15, t, k, sz, id, n, v, l⟩) = be2 n := be2_i16 n
    rw [e]; exact S_bin15 p c w s t k sz id n v l hv hl h hout
  · have e : (Stp.binB c.strictW ⟨16, t, k, sz, id, n, v, l⟩) = be4 n := be4_wrapK n
    rw [e]; exact S_bin16 p c w s t k sz id n v l hv hl h hout
  · exact S_bin17 p c w s t k sz id n v l hv hl h hout
  · have e : (Stp.binB c.strictW ⟨18, t, k, sz, id, n, v, l⟩) = be8 n := be8_u64n n
    rw [e]; exact S_bin18 p c w s t k sz id n v l hv hl h hout
  · have e : (Stp.binB c.strictW ⟨19, t, k, sz, id, n, v, l⟩) = be4 l.length ++ l := by simp [Stp.binB, Stp.wop, WOp.binB, strOf, ByteArray.size]
    rw [e]; exact S_bin19 p c w s t k sz id n v l hv hl h hout
  · exact S_bin20 p c w s t k sz id n v l hv hl h hout
  · exact S_bin21 p c w s t k sz id n v l hv hl h hout

theorem S_step (x : Stp) (h0 : x.op ≠ 0) (p : Nat) (c : ConfV) (hc : c.proto ≠ 1) (w : World) (s : SSt) (hv : Rd w x.v x.s) (hl : x.s.length ≤ 1000000) (h : SwI p c w s) (hout : s.out.length ≤ 10000000000) :
    Calls Tryz.prog 83 #[.pointer (some ⟨p, 0, none⟩), x.val] w (SR p c w 0 (s.add (x.binB c.strictW))) := by
  have hf0 : Fr noF noF w (w.alloc (.cells x.cells 239 (0, 0))) := (Fr.refl noF w).alloc _
  have hb0 := alloc_new w (.cells x.cells 239 (0, 0))
  obtain ⟨sa, sn, sc, hsl, -⟩ := hv.len
  by_cases hin : 0 ≤ x.op ∧ x.op ≤ 21
  · have hb := S_binary x h0 hin p c (w.alloc (.cells x.cells 239 (0, 0))) s (hv.keep (F := noF) (F' := noF) hf0 fun _ _ x => x) hl (h.quiet hf0).1 hout
    obtain ⟨ov, uv, hA⟩ := (h.quiet hf0).1
    have c0 := cell_at hA.box 0
    simp only [List.getElem?_toArray, List.getElem?_cons_zero] at c0
    have HB := Lib.hid hb
    have HH := Lib.hid (And.intro h hf0)
    obtain ⟨op, t, k, sz, id, n, v, l⟩ := x
    dsimp only at hsl
    subst hsl
    obtain ⟨hi1, hi2⟩ := hin
    dsimp only at hi1 hi2
    have n1 : (c.proto == 1) = false := beq_eq_false_iff_ne.2 hc
    have d0 := cell_at hb0 0; have d1 := cell_at hb0 1; have d2 := cell_at hb0 2; have d3 := cell_at hb0 3; have d4 := cell_at hb0 4; have d5 := cell_at hb0 5; have d6 := cell_at hb0 6
    simp only [Stp.cells, List.getElem?_toArray, List.getElem?_cons_zero, List.getElem?_cons_succ] at d0 d1 d2 d3 d4 d5 d6
    clear hb hA hf0 hb0 h hc h0 hv
    go_enter Tryz.func83, Tryz.ntmps83
    go_wp2_with fail
    (with_reducible refine HB.out.mono ?_)
    rintro e w1 hr
    obtain rfl := hr.1
    have HX := Lib.hid (SR.under HH.out.1 HH.out.2 hr)
    clear hr c0 d0 d1 d2 d3 d4 d5 d6
    go_wp2
    go_ret
    exact HX.out
  · have e : x.binB c.strictW = [] := by
      unfold Stp.binB
      rw [wop_none (by omega)]
    have HX := Lib.hid (show SR p c w 0 (s.add (x.binB c.strictW)) (.returned (.int .i64 0)) (w.alloc (.cells x.cells 239 (0, 0))) from by
      rw [e, SSt.add_nil]
      exact ⟨rfl, (h.quiet hf0).1, (h.quiet hf0).2.2⟩)
    obtain ⟨op, t, k, sz, id, n, v, l⟩ := x
    dsimp only at hsl hin
    subst hsl
    clear hf0 hb0 h hc h0 hv e
    rcases (show op < 0 ∨ (¬ op < 0 ∧ 21 < op) by omega) with h1 | ⟨h1, h2⟩
    · go_enter Tryz.func83, Tryz.ntmps83
      go_wp2
      go_ret
      exact HX.out
    · go_enter Tryz.func83, Tryz.ntmps83
      go_wp2
      go_ret
      exact HX.out
end Go.Proofs.YtdifknecndlklaaGreatDoor
namespace Go.Proofs.YtdifknecndlklaaGreatDoor
open Go Go.RowKit
set_option maxHeartbeats 4000000
set_option maxRecDepth 100000

/-- The step of a type that is not taken apart. -/
def sop (t : Int) : Int := if t = 2 then 13 else if t = 3 then 14 else if t = 6 then 15 else if t = 8 then 16 else if t = 10 then 17 else if t = 4 then 18 else if t = 11 then 19 else if t = 16 then 21 else -1

theorem S_op (t : Int) (w : World) : Calls Tryz.prog 82 #[.int .i64 t] w fun e w' => e = .returned (.int .i64 (sop t)) ∧ w = w' := by
  by_cases h : t = 2 ∨ t = 3 ∨ t = 6 ∨ t = 8 ∨ t = 10 ∨ t = 4 ∨ t = 11 ∨ t = 16
  · rcases h with rfl | rfl | rfl | rfl | rfl | rfl | rfl | rfl
    all_goals
      go_enter Tryz.func82, Tryz.ntmps82
      go_wp2
      go_ret
      exact ⟨rfl, rfl⟩
  · have h2 : t ≠ 2 ∧ t ≠ 3 ∧ t ≠ 6 ∧ t ≠ 8 ∧ t ≠ 10 ∧ t ≠ 4 ∧ t ≠ 11 ∧ t ≠ 16 := by omega
    clear h
    obtain ⟨t2, t3, t6, t8, t10, t4, t11, t16⟩ := h2
    have he : sop t = -1 := by unfold sop; simp [t2, t3, t6, t8, t10, t4, t11, t16]
    have HE := Lib.hid he
    have n2 : (t == 2) = false := beq_eq_false_iff_ne.2 t2
    have n3 : (t == 3) = false := beq_eq_false_iff_ne.2 t3
    have n6 : (t == 6) = false := beq_eq_false_iff_ne.2 t6
    have n8 : (t == 8) = false := beq_eq_false_iff_ne.2 t8
    have n10 : (t == 10) = false := beq_eq_false_iff_ne.2 t10
    have n4 : (t == 4) = false := beq_eq_false_iff_ne.2 t4
    have n11 : (t == 11) = false := beq_eq_false_iff_ne.2 t11
    have n16 : (t == 16) = false := beq_eq_false_iff_ne.2 t16
    clear t2 t3 t6 t8 t10 t4 t11 t16 he
    go_enter Tryz.func82, Tryz.ntmps82
    go_wp2
    go_ret
    exact ⟨by rw [HE.out]; rfl, rfl⟩

/-- The bytes of a value by the binary protocol. -/
def VT.bytesB (strict : Bool) (x : VT) : List UInt8 := x.wops.flatMap (WOp.binB strict)
def bytesAll (strict : Bool) (l : List WOp) : List UInt8 := l.flatMap (WOp.binB strict)

theorem wops_scalar {T N : Int} {S : List UInt8} {K E : Int} {ids : List Int} {L : List VT} (h : 0 ≤ sop (T % 256)) (v : Value) :
    ∃ op, (VT.mk T N S K E ids L).wops = [op] ∧ (⟨sop (T % 256), 0, 0, 0, 0, N, v, S⟩ : Stp).wop = some op := by
  have hs : T % 256 = 2 ∨ T % 256 = 3 ∨ T % 256 = 6 ∨ T % 256 = 8 ∨ T % 256 = 10 ∨ T % 256 = 4 ∨ T % 256 = 11 ∨ T % 256 = 16 := by
    unfold sop at h
    repeat' split at h
    all_goals omega
  rw [VT.wops]
  rcases hs with e | e | e | e | e | e | e | e <;> rw [e] <;> exact ⟨_, rfl, rfl⟩

/-- The contract of putting a value by the specification. -/
def SPutOK (p : Nat) (c : ConfV) (x : VT) : Prop := ∀ (w0 : World) (v : Value) (w : World) (s : SSt), ValR w0 x v → Fr noF (SwF p w) w0 w → SwI p c w s → s.out.length + (x.bytesB c.strictW).length ≤ 10000000000 →
  Calls Tryz.prog 64 #[.pointer (some ⟨p, 0, none⟩), v] w (SR p c w 0 (s.add (x.bytesB c.strictW)))

abbrev TSVal : TypeId := 98
/-- What stands while a value is put: the writer in the state s, the value's copy in its box. -/
structure SAt (p : Nat) (c : ConfV) (w : World) (cs : Array Value) (s : SSt) (X : World) : Prop where
  I : SwI p c X s
  fr : Fr (SwF p w) (SwF p X) w X
  box : X.heap[w.heap.size]? = some (.cells cs TSVal (0, 0))
  apart : ¬ SwF p X w.heap.size
theorem SAt.start {p : Nat} {c : ConfV} {w : World} {s : SSt} (h : SwI p c w s) (cs : Array Value) : SAt p c w cs s (w.alloc (.cells cs TSVal (0, 0))) := by
  obtain ⟨h1, h2, h3⟩ := h.quiet ((Fr.refl noF w).alloc (.cells cs TSVal (0, 0)))
  exact ⟨h1, h3, alloc_new w _, fun hk => by have := h.lt (h2 _ hk); omega⟩
theorem SAt.quiet {p : Nat} {c : ConfV} {w X Y : World} {cs : Array Value} {s : SSt} (h : SAt p c w cs s X) (hf : Fr noF noF X Y) : SAt p c w cs s Y := by
  obtain ⟨h1, h2, h3⟩ := h.I.quiet hf
  exact ⟨h1, h.fr.trans h3, hf.block h.box fun x => x, fun hk => h.apart (h2 _ hk)⟩
theorem SAt.next {p : Nat} {c : ConfV} {w X Y : World} {cs : Array Value} {s s' : SSt} {k : Int} {e : Ending} (h : SAt p c w cs s X) (hw : SR p c X k s' e Y) : SAt p c w cs s' Y :=
  ⟨hw.2.1, h.fr.trans hw.2.2, hw.2.2.block h.box h.apart, fun hk => h.apart (hw.2.2.foot _ (lt_heap h.box) hk)⟩
theorem SAt.done {p : Nat} {c : ConfV} {w X : World} {cs : Array Value} {s : SSt} (h : SAt p c w cs s X) : SR p c w 0 s (.returned (.int .i64 0)) X := ⟨rfl, h.I, h.fr⟩
/-- The type in the box is cut to its byte. -/
theorem SAt.setT {p : Nat} {c : ConfV} {w X : World} {cs : Array Value} {s : SSt} (h : SAt p c w cs s X) (i : Nat) (v : Value) : SAt p c w (cs.setIfInBounds i v) s (X.setCell ⟨w.heap.size, i, none⟩ v) := by
  have hf : Fr (fun k => k = w.heap.size) (fun k => k = w.heap.size) X (X.setCell ⟨w.heap.size, i, none⟩ v) := (Fr.refl (fun k => k = w.heap.size) X).setCell (p := ⟨w.heap.size, i, none⟩) (Or.inl rfl) v
  obtain ⟨h1, h2⟩ := h.I.keep hf fun k hk e => h.apart (by
    have e : k = w.heap.size := e
    exact e ▸ hk)
  have hlt := h.fr.size
  refine ⟨h1, ⟨hf.os.trans h.fr.os, hf.tape.trans h.fr.tape, hf.output.trans h.fr.output, Nat.le_trans h.fr.size hf.size, fun k hk hn => (hf.keep k (by omega) fun e => by
    have e : k = w.heap.size := e
    omega).trans (h.fr.keep k hk hn), fun k hk hx => h.fr.foot k hk (h2 k hx)⟩, setCell_at h.box v, fun hk => h.apart (h2 _ hk)⟩

theorem bytesB_len {strict : Bool} {x : VT} : (x.bytesB strict).length = (x.wops.flatMap (WOp.binB strict)).length := rfl

theorem and255 (T : Int) : bits .and .i64 T 255 = T % 256 := by
  have h255 : (BitVec.ofInt 64 255).toNat = 2 ^ 8 - 1 := by decide
  have key : (BitVec.ofInt 64 T &&& BitVec.ofInt 64 255).toNat = (T % ((2 ^ 64 : Nat) : Int)).toNat % 2 ^ 8 := by
    rw [BitVec.toNat_and, BitVec.toNat_ofInt, h255, Nat.and_two_pow_sub_one_eq_mod]
  show IntKind.i64.wrap ((BitVec.ofInt 64 T &&& BitVec.ofInt 64 255).toNat : Nat) = T % 256
  rw [key, IntKind.wrap_i64]
  omega

theorem S_put_scalar (p : Nat) (c : ConfV) (hc : c.proto ≠ 1) (w0 w : World) (s : SSt) (T N K E : Int) (vS vI vL : Value) (S : List UInt8) (hvS : Rd w0 vS S) (hS : S.length ≤ 1000000) (hT : 0 ≤ sop (T % 256)) (hF : Fr noF (SwF p w) w0 w) (h : SwI p c w s) (hout : s.out.length ≤ 10000000000)
    (B : List UInt8) (hB : B = Stp.binB c.strictW ⟨sop (T % 256), 0, 0, 0, 0, N, vS, S⟩) :
    Calls Tryz.prog 64 #[.pointer (some ⟨p, 0, none⟩), .agg (valA T N vS K E vI vL)] w (SR p c w 0 (s.add B)) := by
  obtain ⟨sa, sn, sc, rfl, -⟩ := hvS.len
  have h1 := SAt.start h (valA (T % 256) N (.slice sa sn sc) K E vI vL)
  have hs : sop (T % 256) ≠ 0 := by unfold sop; repeat' split; all_goals omega
  have hst := S_step ⟨sop (T % 256), 0, 0, 0, 0, N, .slice sa sn sc, S⟩ hs p c hc _ s ((hvS.keep hF fun _ _ x => x).keep h1.fr fun k hk hx => by
    have h2 := hvS.keep hF fun _ _ x => x
    refine hF.foot k ?_ hx
    rcases hvS with ⟨e, _⟩ | ⟨a, n, c, e, hl, _, _, hcc⟩
    · rw [e] at hk; exact hk.elim
    · rw [e] at hk
      match n, hk, hl with
      | n + 1, hk, hl =>
        obtain ⟨u, hu⟩ : ∃ u, S[0]? = some u := ⟨_, List.getElem?_eq_getElem (by omega)⟩
        have := World.block_lt_of_cell? w0 _ (hcc 0 u hu)
        rw [block_add'] at this
        exact hk ▸ this) hS h1.I hout
  rw [← hB] at hst
  have hst2 := hst.mono fun e Y hw => And.intro hw.1 ((h1.next hw).done)
  have hq : ∀ (X : World) (cs : Int), X.heap[w.heap.size]? = some (.cells (#[.int .i64 cs, .int .i64 N, .slice sa sn sc, .int .i64 K, .int .i64 E, vI, vL] : Array Value) TSVal (0, 0)) → X.cell? ⟨w.heap.size, 0, none⟩ = some (.int .i64 cs) ∧ X.cell? ⟨w.heap.size, 1, none⟩ = some (.int .i64 N) ∧ X.cell? ⟨w.heap.size, 2, none⟩ = some (.slice sa sn sc) := fun X cs hX => ⟨by rw [cell_at hX]; rfl, by rw [cell_at hX]; rfl, by rw [cell_at hX]; rfl⟩
  have q0 := hq _ _ (SAt.start h (valA T N (.slice sa sn sc) K E vI vL)).box
  have q1 := hq _ _ h1.box
  have ff := free_at (SAt.start h (valA T N (.slice sa sn sc) K E vI vL)).box 0
  have HS := Lib.hid hst2
  have HO := Lib.hid S_op
  have ha := and255 T
  obtain ⟨o, ho⟩ : ∃ o, o = sop (T % 256) := ⟨_, rfl⟩
  have HO2 := Lib.hid (show ∀ X, Calls Tryz.prog 82 #[.int .i64 (T % 256)] X fun e w' => e = .returned (.int .i64 o) ∧ X = w' from fun X => by rw [ho]; exact S_op _ X)
  rw [← ho] at HS hT
  clear h1 hs hst hst2 hq ho hB hF h hvS
  go_enter Tryz.func64, Tryz.ntmps64
  go_wp2_with fail
  (with_reducible refine (HO2.out _).mono ?_)
  rintro e w' ⟨rfl, rfl⟩
  go_wp2_with fail
  (with_reducible refine HS.out.mono ?_)
  rintro e Y ⟨rfl, hY⟩
  have HY := Lib.hid hY
  clear hY q0 q1 ff
  go_wp2
  go_ret
  exact HY.out
end Go.Proofs.YtdifknecndlklaaGreatDoor
namespace Go.Proofs.YtdifknecndlklaaGreatDoor
open Go Go.RowKit
set_option maxHeartbeats 4000000
set_option maxRecDepth 100000

theorem bytesAll_append (strict : Bool) (a b : List WOp) : bytesAll strict (a ++ b) = bytesAll strict a ++ bytesAll strict b := List.flatMap_append ..
theorem bytesAll_wops (strict : Bool) (x : VT) : bytesAll strict x.wops = x.bytesB strict := rfl

/-- A step without bytes of its own: what it is given. -/
theorem S_step0 (op t k sz id : Int) (h0 : op ≠ 0) (p : Nat) (c : ConfV) (hc : c.proto ≠ 1) {w X : World} {cs : Array Value} {s : SSt} (h : SAt p c w cs s X) (hout : s.out.length ≤ 10000000000) (B : List UInt8) (hB : B = Stp.binB c.strictW ⟨op, t, k, sz, id, 0, .slice none 0 0, []⟩) :
    Calls Tryz.prog 83 #[.pointer (some ⟨p, 0, none⟩), .agg (stepA op t k sz id 0 (.slice none 0 0))] X (fun e Y => e = .returned (.int .i64 0) ∧ SAt p c w cs (s.add B) Y) :=
  (S_step ⟨op, t, k, sz, id, 0, .slice none 0 0, []⟩ h0 p c hc X s (Or.inl ⟨rfl, rfl⟩) (Nat.zero_le _) h.I hout).mono fun e Y hw => ⟨hw.1, by rw [hB]; exact h.next hw⟩

/-- An element is put. -/
theorem SAt.elem {p : Nat} {c : ConfV} {w0 w X : World} {cs : Array Value} {s : SSt} {x : VT} {u : Value} (h : SAt p c w cs s X) (hF : Fr noF (SwF p w) w0 w) (hx : SPutOK p c x) (hu : ValR w0 x u) (hl : s.out.length + (x.bytesB c.strictW).length ≤ 10000000000) :
    Calls Tryz.prog 64 #[.pointer (some ⟨p, 0, none⟩), u] X (fun e Y => e = .returned (.int .i64 0) ∧ SAt p c w cs (s.add (x.bytesB c.strictW)) Y) :=
  (hx w0 u X s hu (hF.trans h.fr) h.I hl).mono fun e Y hw => ⟨hw.1, h.next hw⟩

theorem S_put14 (p : Nat) (c : ConfV) (hc : c.proto ≠ 1) (w0 w : World) (s : SSt) (T N K E : Int) (vS vI : Value) (la : Option Addr) (n lc d m : Nat) (us : Nat → Array Value) (L : List VT) (hL : L.length = n) (hT : T % 256 = 14) (hnm : n ≤ 1000000) (hm : m = n / 2) (hd : d = n)
    (hcell : 0 < n → ∃ g o, la = some ⟨g, o, none⟩ ∧ ∀ j, j < n → ∀ i u, (us j)[i]? = some u → w0.cell? ⟨g, o + j * 7 + i, none⟩ = some u)
    (hE : ∀ (j : Nat) x, L[j]? = some x → ValR w0 x (.agg (us j))) (hput : ∀ (j : Nat) x, L[j]? = some x → SPutOK p c x) (hF : Fr noF (SwF p w) w0 w) (h : SwI p c w s)
    (B : List UInt8) (hB : B = (WOp.setBegin (E % 256) n).binB c.strictW ++ bytesAll c.strictW (allW L d)) (hout : s.out.length + B.length ≤ 10000000000) :
    Calls Tryz.prog 64 #[.pointer (some ⟨p, 0, none⟩), .agg (valA T N vS K E vI (.slice la n lc))] w (SR p c w 0 (s.add B)) := by
  have h0 := SAt.start h (valA 14 N vS K E vI (.slice la n lc))
  have hst := S_step0 11 E 0 n 0 (by decide) p c hc h0 (by omega) ((WOp.setBegin (E % 256) n).binB c.strictW) rfl
  have hen := fun X (hX : SAt p c w (valA 14 N vS K E vI (.slice la n lc)) (s.add B) X) => S_step0 12 0 0 0 0 (by decide) p c hc hX (by show (s.out ++ B).length ≤ _; rw [List.length_append]; exact hout) [] rfl
  have hq : ∀ (s' : SSt) (X : World), SAt p c w (valA 14 N vS K E vI (.slice la n lc)) s' X → X.cell? ⟨w.heap.size, 4, none⟩ = some (.int .i64 E) ∧ X.cell? ⟨w.heap.size, 6, none⟩ = some (.slice la n lc) := fun s' X hX => ⟨(cell_at hX.box 4).trans rfl, (cell_at hX.box 6).trans rfl⟩
  have hel : ∀ k, k < n → ∃ g o x sa sn sc ia' il' ic' la' ll' lc', la = some ⟨g, o, none⟩ ∧ L[k]? = some x ∧ us k = valA x.T x.N (.slice sa sn sc) x.K x.E (.slice ia' il' ic') (.slice la' ll' lc') ∧
      ∀ s' X, SAt p c w (valA 14 N vS K E vI (.slice la n lc)) s' X → ∀ i u, (us k)[i]? = some u → X.cell? ⟨g, o + k * 7 + i, none⟩ = some u := fun k hk => by
    obtain ⟨g, o, rfl, hcc⟩ := hcell (by omega)
    have hx : L[k]? = some L[k] := List.getElem?_eq_getElem (by omega)
    obtain ⟨sa, sn, sc, ia', il', ic', la', ll', lc', he⟩ := (hE k _ hx).sl
    injection he with he
    exact ⟨g, o, _, sa, sn, sc, ia', il', ic', la', ll', lc', rfl, hx, he, fun s' X hX i u hu => (hF.trans hX.fr).cell (hcc k hk i u hu) fun x => x⟩
  have hstep : ∀ (k : Nat) x dn X, k < d → L[k]? = some x → SAt p c w (valA 14 N vS K E vI (.slice la n lc)) (s.add dn) X → dn ++ bytesAll c.strictW (allW (L.drop k) (d - k)) = B →
      (Calls Tryz.prog 64 #[.pointer (some ⟨p, 0, none⟩), .agg (us k)] X (fun e Y => e = .returned (.int .i64 0) ∧ SAt p c w (valA 14 N vS K E vI (.slice la n lc)) (s.add (dn ++ x.bytesB c.strictW)) Y)) ∧ (dn ++ x.bytesB c.strictW) ++ bytesAll c.strictW (allW (L.drop (k + 1)) (d - (k + 1))) = B := fun k x dn X hk hx hX hdn => by
    rw [allW_drop hx hk, bytesAll_append, bytesAll_wops, ← List.append_assoc] at hdn
    have hlen := congrArg List.length hdn
    simp only [List.length_append] at hlen
    refine ⟨?_, hdn⟩
    rw [← SSt.add_add]
    exact hX.elem hF (hput k x hx) (hE k x hx) (by show (s.out ++ dn).length + _ ≤ _; rw [List.length_append]; omega)
  have hfin : ∀ dn, dn ++ bytesAll c.strictW (allW (L.drop d) (d - d)) = B → dn = B := fun dn h => by
    rw [allW_end] at h
    simpa [bytesAll] using h
  have hdn0 : (WOp.setBegin (E % 256) n).binB c.strictW ++ bytesAll c.strictW (allW (L.drop 0) (d - 0)) = B := by rw [List.drop_zero, Nat.sub_zero]; exact hB.symm
  have q0 := hq _ _ h0
  have c0 : (w.alloc (.cells (valA 14 N vS K E vI (.slice la n lc)) TSVal (0, 0))).cell? ⟨w.heap.size, 0, none⟩ = some (.int .i64 14) := by rw [cell_at h0.box]; rfl
  have d0 : (w.alloc (.cells (valA T N vS K E vI (.slice la n lc)) TSVal (0, 0))).cell? ⟨w.heap.size, 0, none⟩ = some (.int .i64 T) := by rw [cell_at (alloc_new w _)]; rfl
  have ff := free_at (alloc_new w (.cells (valA T N vS K E vI (.slice la n lc)) TSVal (0, 0))) 0
  have HO := Lib.hid (show ∀ X, Calls Tryz.prog 82 #[.int .i64 14] X fun e w' => e = .returned (.int .i64 (-1)) ∧ X = w' from fun X => S_op 14 X)
  have ha : bits .and .i64 T 255 = 14 := (and255 T).trans hT
  have HS := Lib.hid hst
  have HE := Lib.hid hen
  have HQ := Lib.hid hq
  have HEL := Lib.hid hel
  have HST := Lib.hid hstep
  have HFI := Lib.hid hfin
  have HD0 := Lib.hid hdn0
  have HDN := Lib.hid hd
  
  have hnn : (n : Int) ≤ 1000000 := by omega
  have hdd : d ≤ n := by omega
  have hd0 : (0 : Int) ≤ (d : Int) := by omega
  have hd1 : (d : Int) ≤ 1000000 := by omega
  clear hst hen hq hel hstep hfin hdn0 h0 hF h hput hE hcell hL hB hout hc hd hnm hT hm
  go_enter Tryz.func64, Tryz.ntmps64
  go_wp2_with fail
  (with_reducible refine (HO.out _).mono ?_)
  rintro e w' ⟨rfl, rfl⟩
  go_wp2_with fail
  (with_reducible refine HS.out.mono ?_)
  rintro e Y ⟨rfl, hY⟩
  have q1 := HQ.out _ _ hY
  have c1 : Y.cell? ⟨w.heap.size, 0, none⟩ = some (.int .i64 14) := by rw [cell_at hY.box]; rfl
  have HY := Lib.hid hY
  clear hY q0 c0 d0 ff
  go_wp2_with fail
  go_loopw [11] (fun i wr => ∃ (k : Nat) (dn : List UInt8), i = .int .i64 k ∧ k ≤ d ∧ SAt p c w (valA 14 N vS K E vI (.slice la n lc)) (s.add dn) wr ∧ dn ++ bytesAll c.strictW (allW (L.drop k) (d - k)) = B) (fun i _ => d - (intOf i).toNat)
  case atStart => exact ⟨0, _, rfl, by omega, HY.out, HD0.out⟩
  case round =>
    obtain ⟨k, dn, rfl, hk, hA, hdn⟩ := hrel
    have q2 := HQ.out _ _ hA
    rcases Nat.lt_or_ge k d with hlt | hge
    · obtain ⟨g, o, x, sa, sn, sc, ia', il', ic', la', ll', lc', rfl, hx, hus, hcc⟩ := HEL.out k (by omega)
      have hcw := hcc _ _ hA
      obtain ⟨hcall, hnext⟩ := HST.out k x dn _ hlt hx hA hdn
      rw [hus] at hcw hcall
      have e0 : wr.cell? ⟨g, o + k * 7, none⟩ = some (.int .i64 x.T) := hcw 0 _ rfl
      have e1 : wr.cell? ⟨g, o + k * 7 + 1, none⟩ = some (.int .i64 x.N) := hcw 1 _ rfl
      have e2 : wr.cell? ⟨g, o + k * 7 + 2, none⟩ = some (.slice sa sn sc) := hcw 2 _ rfl
      have e3 : wr.cell? ⟨g, o + k * 7 + 3, none⟩ = some (.int .i64 x.K) := hcw 3 _ rfl
      have e4 : wr.cell? ⟨g, o + k * 7 + 4, none⟩ = some (.int .i64 x.E) := hcw 4 _ rfl
      have e5 : wr.cell? ⟨g, o + k * 7 + 5, none⟩ = some (.slice ia' il' ic') := hcw 5 _ rfl
      have e6 : wr.cell? ⟨g, o + k * 7 + 6, none⟩ = some (.slice la' ll' lc') := hcw 6 _ rfl
      have HV := Lib.hid hcall
      have HN := Lib.hid hnext
      have hk0 : (0 : Int) ≤ (k : Int) := by omega
      have hk1 : (k : Int) < (d : Int) := by omega
      have hk2 : (k : Int) < (n : Int) := by omega
      have hk3 : (k : Int) ≤ 1000000 := by omega
      clear hcall hnext hcw hcc hus hx hdn hA q1 c1
      go_wp2_with fail
      (with_reducible refine HV.out.mono ?_)
      rintro e Z ⟨rfl, hZ⟩
      have HZ := Lib.hid hZ
      clear hZ e0 e1 e2 e3 e4 e5 e6 q2
      go_wp2_with fail
      go_roundw
      case rel => exact ⟨k + 1, _, by go_num, by omega, HZ.out, HN.out⟩
      case measure => simp [intOf]; omega
    · obtain rfl : k = d := by omega
      have e := HFI.out dn hdn
      rw [e] at hA
      have HX := Lib.hid hA
      clear hA hdn e q1 c1
      have hkk : ¬ (k : Int) < (k : Int) := by omega
      have hkn : ¬ (k : Int) < (n : Int) := by have := HDN.out; omega
      go_wp2_with fail
      (with_reducible refine (HE.out _ HX.out).mono ?_)
      rintro e Z ⟨rfl, hZ⟩
      rw [SSt.add_nil] at hZ
      have HZ := Lib.hid hZ.done
      clear hZ q2
      go_wp2
      go_ret
      exact HZ.out
theorem S_put15 (p : Nat) (c : ConfV) (hc : c.proto ≠ 1) (w0 w : World) (s : SSt) (T N K E : Int) (vS vI : Value) (la : Option Addr) (n lc d m : Nat) (us : Nat → Array Value) (L : List VT) (hL : L.length = n) (hT : T % 256 = 15) (hnm : n ≤ 1000000) (hm : m = n / 2) (hd : d = n)
    (hcell : 0 < n → ∃ g o, la = some ⟨g, o, none⟩ ∧ ∀ j, j < n → ∀ i u, (us j)[i]? = some u → w0.cell? ⟨g, o + j * 7 + i, none⟩ = some u)
    (hE : ∀ (j : Nat) x, L[j]? = some x → ValR w0 x (.agg (us j))) (hput : ∀ (j : Nat) x, L[j]? = some x → SPutOK p c x) (hF : Fr noF (SwF p w) w0 w) (h : SwI p c w s)
    (B : List UInt8) (hB : B = (WOp.listBegin (E % 256) n).binB c.strictW ++ bytesAll c.strictW (allW L d)) (hout : s.out.length + B.length ≤ 10000000000) :
    Calls Tryz.prog 64 #[.pointer (some ⟨p, 0, none⟩), .agg (valA T N vS K E vI (.slice la n lc))] w (SR p c w 0 (s.add B)) := by
  have h0 := SAt.start h (valA 15 N vS K E vI (.slice la n lc))
  have hst := S_step0 9 E 0 n 0 (by decide) p c hc h0 (by omega) ((WOp.listBegin (E % 256) n).binB c.strictW) rfl
  have hen := fun X (hX : SAt p c w (valA 15 N vS K E vI (.slice la n lc)) (s.add B) X) => S_step0 10 0 0 0 0 (by decide) p c hc hX (by show (s.out ++ B).length ≤ _; rw [List.length_append]; exact hout) [] rfl
  have hq : ∀ (s' : SSt) (X : World), SAt p c w (valA 15 N vS K E vI (.slice la n lc)) s' X → X.cell? ⟨w.heap.size, 4, none⟩ = some (.int .i64 E) ∧ X.cell? ⟨w.heap.size, 6, none⟩ = some (.slice la n lc) := fun s' X hX => ⟨(cell_at hX.box 4).trans rfl, (cell_at hX.box 6).trans rfl⟩
  have hel : ∀ k, k < n → ∃ g o x sa sn sc ia' il' ic' la' ll' lc', la = some ⟨g, o, none⟩ ∧ L[k]? = some x ∧ us k = valA x.T x.N (.slice sa sn sc) x.K x.E (.slice ia' il' ic') (.slice la' ll' lc') ∧
      ∀ s' X, SAt p c w (valA 15 N vS K E vI (.slice la n lc)) s' X → ∀ i u, (us k)[i]? = some u → X.cell? ⟨g, o + k * 7 + i, none⟩ = some u := fun k hk => by
    obtain ⟨g, o, rfl, hcc⟩ := hcell (by omega)
    have hx : L[k]? = some L[k] := List.getElem?_eq_getElem (by omega)
    obtain ⟨sa, sn, sc, ia', il', ic', la', ll', lc', he⟩ := (hE k _ hx).sl
    injection he with he
    exact ⟨g, o, _, sa, sn, sc, ia', il', ic', la', ll', lc', rfl, hx, he, fun s' X hX i u hu => (hF.trans hX.fr).cell (hcc k hk i u hu) fun x => x⟩
  have hstep : ∀ (k : Nat) x dn X, k < d → L[k]? = some x → SAt p c w (valA 15 N vS K E vI (.slice la n lc)) (s.add dn) X → dn ++ bytesAll c.strictW (allW (L.drop k) (d - k)) = B →
      (Calls Tryz.prog 64 #[.pointer (some ⟨p, 0, none⟩), .agg (us k)] X (fun e Y => e = .returned (.int .i64 0) ∧ SAt p c w (valA 15 N vS K E vI (.slice la n lc)) (s.add (dn ++ x.bytesB c.strictW)) Y)) ∧ (dn ++ x.bytesB c.strictW) ++ bytesAll c.strictW (allW (L.drop (k + 1)) (d - (k + 1))) = B := fun k x dn X hk hx hX hdn => by
    rw [allW_drop hx hk, bytesAll_append, bytesAll_wops, ← List.append_assoc] at hdn
    have hlen := congrArg List.length hdn
    simp only [List.length_append] at hlen
    refine ⟨?_, hdn⟩
    rw [← SSt.add_add]
    exact hX.elem hF (hput k x hx) (hE k x hx) (by show (s.out ++ dn).length + _ ≤ _; rw [List.length_append]; omega)
  have hfin : ∀ dn, dn ++ bytesAll c.strictW (allW (L.drop d) (d - d)) = B → dn = B := fun dn h => by
    rw [allW_end] at h
    simpa [bytesAll] using h
  have hdn0 : (WOp.listBegin (E % 256) n).binB c.strictW ++ bytesAll c.strictW (allW (L.drop 0) (d - 0)) = B := by rw [List.drop_zero, Nat.sub_zero]; exact hB.symm
  have q0 := hq _ _ h0
  have c0 : (w.alloc (.cells (valA 15 N vS K E vI (.slice la n lc)) TSVal (0, 0))).cell? ⟨w.heap.size, 0, none⟩ = some (.int .i64 15) := by rw [cell_at h0.box]; rfl
  have d0 : (w.alloc (.cells (valA T N vS K E vI (.slice la n lc)) TSVal (0, 0))).cell? ⟨w.heap.size, 0, none⟩ = some (.int .i64 T) := by rw [cell_at (alloc_new w _)]; rfl
  have ff := free_at (alloc_new w (.cells (valA T N vS K E vI (.slice la n lc)) TSVal (0, 0))) 0
  have HO := Lib.hid (show ∀ X, Calls Tryz.prog 82 #[.int .i64 15] X fun e w' => e = .returned (.int .i64 (-1)) ∧ X = w' from fun X => S_op 15 X)
  have ha : bits .and .i64 T 255 = 15 := (and255 T).trans hT
  have HS := Lib.hid hst
  have HE := Lib.hid hen
  have HQ := Lib.hid hq
  have HEL := Lib.hid hel
  have HST := Lib.hid hstep
  have HFI := Lib.hid hfin
  have HD0 := Lib.hid hdn0
  have HDN := Lib.hid hd
  
  have hnn : (n : Int) ≤ 1000000 := by omega
  have hdd : d ≤ n := by omega
  have hd0 : (0 : Int) ≤ (d : Int) := by omega
  have hd1 : (d : Int) ≤ 1000000 := by omega
  clear hst hen hq hel hstep hfin hdn0 h0 hF h hput hE hcell hL hB hout hc hd hnm hT hm
  go_enter Tryz.func64, Tryz.ntmps64
  go_wp2_with fail
  (with_reducible refine (HO.out _).mono ?_)
  rintro e w' ⟨rfl, rfl⟩
  go_wp2_with fail
  (with_reducible refine HS.out.mono ?_)
  rintro e Y ⟨rfl, hY⟩
  have q1 := HQ.out _ _ hY
  have c1 : Y.cell? ⟨w.heap.size, 0, none⟩ = some (.int .i64 15) := by rw [cell_at hY.box]; rfl
  have HY := Lib.hid hY
  clear hY q0 c0 d0 ff
  go_wp2_with fail
  go_loopw [11] (fun i wr => ∃ (k : Nat) (dn : List UInt8), i = .int .i64 k ∧ k ≤ d ∧ SAt p c w (valA 15 N vS K E vI (.slice la n lc)) (s.add dn) wr ∧ dn ++ bytesAll c.strictW (allW (L.drop k) (d - k)) = B) (fun i _ => d - (intOf i).toNat)
  case atStart => exact ⟨0, _, rfl, by omega, HY.out, HD0.out⟩
  case round =>
    obtain ⟨k, dn, rfl, hk, hA, hdn⟩ := hrel
    have q2 := HQ.out _ _ hA
    rcases Nat.lt_or_ge k d with hlt | hge
    · obtain ⟨g, o, x, sa, sn, sc, ia', il', ic', la', ll', lc', rfl, hx, hus, hcc⟩ := HEL.out k (by omega)
      have hcw := hcc _ _ hA
      obtain ⟨hcall, hnext⟩ := HST.out k x dn _ hlt hx hA hdn
      rw [hus] at hcw hcall
      have e0 : wr.cell? ⟨g, o + k * 7, none⟩ = some (.int .i64 x.T) := hcw 0 _ rfl
      have e1 : wr.cell? ⟨g, o + k * 7 + 1, none⟩ = some (.int .i64 x.N) := hcw 1 _ rfl
      have e2 : wr.cell? ⟨g, o + k * 7 + 2, none⟩ = some (.slice sa sn sc) := hcw 2 _ rfl
      have e3 : wr.cell? ⟨g, o + k * 7 + 3, none⟩ = some (.int .i64 x.K) := hcw 3 _ rfl
      have e4 : wr.cell? ⟨g, o + k * 7 + 4, none⟩ = some (.int .i64 x.E) := hcw 4 _ rfl
      have e5 : wr.cell? ⟨g, o + k * 7 + 5, none⟩ = some (.slice ia' il' ic') := hcw 5 _ rfl
      have e6 : wr.cell? ⟨g, o + k * 7 + 6, none⟩ = some (.slice la' ll' lc') := hcw 6 _ rfl
      have HV := Lib.hid hcall
      have HN := Lib.hid hnext
      have hk0 : (0 : Int) ≤ (k : Int) := by omega
      have hk1 : (k : Int) < (d : Int) := by omega
      have hk2 : (k : Int) < (n : Int) := by omega
      have hk3 : (k : Int) ≤ 1000000 := by omega
      clear hcall hnext hcw hcc hus hx hdn hA q1 c1
      go_wp2_with fail
      (with_reducible refine HV.out.mono ?_)
      rintro e Z ⟨rfl, hZ⟩
      have HZ := Lib.hid hZ
      clear hZ e0 e1 e2 e3 e4 e5 e6 q2
      go_wp2_with fail
      go_roundw
      case rel => exact ⟨k + 1, _, by go_num, by omega, HZ.out, HN.out⟩
      case measure => simp [intOf]; omega
    · obtain rfl : k = d := by omega
      have e := HFI.out dn hdn
      rw [e] at hA
      have HX := Lib.hid hA
      clear hA hdn e q1 c1
      have hkk : ¬ (k : Int) < (k : Int) := by omega
      have hkn : ¬ (k : Int) < (n : Int) := by have := HDN.out; omega
      go_wp2_with fail
      (with_reducible refine (HE.out _ HX.out).mono ?_)
      rintro e Z ⟨rfl, hZ⟩
      rw [SSt.add_nil] at hZ
      have HZ := Lib.hid hZ.done
      clear hZ q2
      go_wp2
      go_ret
      exact HZ.out
theorem S_put13 (p : Nat) (c : ConfV) (hc : c.proto ≠ 1) (w0 w : World) (s : SSt) (T N K E : Int) (vS vI : Value) (la : Option Addr) (n lc d m : Nat) (us : Nat → Array Value) (L : List VT) (hL : L.length = n) (hT : T % 256 = 13) (hnm : n ≤ 1000000) (hm : m = n / 2) (hd : d = m * 2)
    (hcell : 0 < n → ∃ g o, la = some ⟨g, o, none⟩ ∧ ∀ j, j < n → ∀ i u, (us j)[i]? = some u → w0.cell? ⟨g, o + j * 7 + i, none⟩ = some u)
    (hE : ∀ (j : Nat) x, L[j]? = some x → ValR w0 x (.agg (us j))) (hput : ∀ (j : Nat) x, L[j]? = some x → SPutOK p c x) (hF : Fr noF (SwF p w) w0 w) (h : SwI p c w s)
    (B : List UInt8) (hB : B = (WOp.mapBegin (K % 256) (E % 256) m).binB c.strictW ++ bytesAll c.strictW (allW L d)) (hout : s.out.length + B.length ≤ 10000000000) :
    Calls Tryz.prog 64 #[.pointer (some ⟨p, 0, none⟩), .agg (valA T N vS K E vI (.slice la n lc))] w (SR p c w 0 (s.add B)) := by
  have h0 := SAt.start h (valA 13 N vS K E vI (.slice la n lc))
  have hst := S_step0 7 E K m 0 (by decide) p c hc h0 (by omega) ((WOp.mapBegin (K % 256) (E % 256) m).binB c.strictW) rfl
  have hen := fun X (hX : SAt p c w (valA 13 N vS K E vI (.slice la n lc)) (s.add B) X) => S_step0 8 0 0 0 0 (by decide) p c hc hX (by show (s.out ++ B).length ≤ _; rw [List.length_append]; exact hout) [] rfl
  have hq : ∀ (s' : SSt) (X : World), SAt p c w (valA 13 N vS K E vI (.slice la n lc)) s' X → X.cell? ⟨w.heap.size, 3, none⟩ = some (.int .i64 K) ∧ X.cell? ⟨w.heap.size, 4, none⟩ = some (.int .i64 E) ∧ X.cell? ⟨w.heap.size, 6, none⟩ = some (.slice la n lc) := fun s' X hX => ⟨(cell_at hX.box 3).trans rfl, (cell_at hX.box 4).trans rfl, (cell_at hX.box 6).trans rfl⟩
  have hel : ∀ k, k < n → ∃ g o x sa sn sc ia' il' ic' la' ll' lc', la = some ⟨g, o, none⟩ ∧ L[k]? = some x ∧ us k = valA x.T x.N (.slice sa sn sc) x.K x.E (.slice ia' il' ic') (.slice la' ll' lc') ∧
      ∀ s' X, SAt p c w (valA 13 N vS K E vI (.slice la n lc)) s' X → ∀ i u, (us k)[i]? = some u → X.cell? ⟨g, o + k * 7 + i, none⟩ = some u := fun k hk => by
    obtain ⟨g, o, rfl, hcc⟩ := hcell (by omega)
    have hx : L[k]? = some L[k] := List.getElem?_eq_getElem (by omega)
    obtain ⟨sa, sn, sc, ia', il', ic', la', ll', lc', he⟩ := (hE k _ hx).sl
    injection he with he
    exact ⟨g, o, _, sa, sn, sc, ia', il', ic', la', ll', lc', rfl, hx, he, fun s' X hX i u hu => (hF.trans hX.fr).cell (hcc k hk i u hu) fun x => x⟩
  have hstep : ∀ (k : Nat) x dn X, k < d → L[k]? = some x → SAt p c w (valA 13 N vS K E vI (.slice la n lc)) (s.add dn) X → dn ++ bytesAll c.strictW (allW (L.drop k) (d - k)) = B →
      (Calls Tryz.prog 64 #[.pointer (some ⟨p, 0, none⟩), .agg (us k)] X (fun e Y => e = .returned (.int .i64 0) ∧ SAt p c w (valA 13 N vS K E vI (.slice la n lc)) (s.add (dn ++ x.bytesB c.strictW)) Y)) ∧ (dn ++ x.bytesB c.strictW) ++ bytesAll c.strictW (allW (L.drop (k + 1)) (d - (k + 1))) = B := fun k x dn X hk hx hX hdn => by
    rw [allW_drop hx hk, bytesAll_append, bytesAll_wops, ← List.append_assoc] at hdn
    have hlen := congrArg List.length hdn
    simp only [List.length_append] at hlen
    refine ⟨?_, hdn⟩
    rw [← SSt.add_add]
    exact hX.elem hF (hput k x hx) (hE k x hx) (by show (s.out ++ dn).length + _ ≤ _; rw [List.length_append]; omega)
  have hfin : ∀ dn, dn ++ bytesAll c.strictW (allW (L.drop d) (d - d)) = B → dn = B := fun dn h => by
    rw [allW_end] at h
    simpa [bytesAll] using h
  have hdn0 : (WOp.mapBegin (K % 256) (E % 256) m).binB c.strictW ++ bytesAll c.strictW (allW (L.drop 0) (d - 0)) = B := by rw [List.drop_zero, Nat.sub_zero]; exact hB.symm
  have q0 := hq _ _ h0
  have c0 : (w.alloc (.cells (valA 13 N vS K E vI (.slice la n lc)) TSVal (0, 0))).cell? ⟨w.heap.size, 0, none⟩ = some (.int .i64 13) := by rw [cell_at h0.box]; rfl
  have d0 : (w.alloc (.cells (valA T N vS K E vI (.slice la n lc)) TSVal (0, 0))).cell? ⟨w.heap.size, 0, none⟩ = some (.int .i64 T) := by rw [cell_at (alloc_new w _)]; rfl
  have ff := free_at (alloc_new w (.cells (valA T N vS K E vI (.slice la n lc)) TSVal (0, 0))) 0
  have HO := Lib.hid (show ∀ X, Calls Tryz.prog 82 #[.int .i64 13] X fun e w' => e = .returned (.int .i64 (-1)) ∧ X = w' from fun X => S_op 13 X)
  have ha : bits .and .i64 T 255 = 13 := (and255 T).trans hT
  have HS := Lib.hid hst
  have HE := Lib.hid hen
  have HQ := Lib.hid hq
  have HEL := Lib.hid hel
  have HST := Lib.hid hstep
  have HFI := Lib.hid hfin
  have HD0 := Lib.hid hdn0
  have HDN := Lib.hid hd
  have x1 : ((n : Nat) : Int) / 2 = (m : Int) := by omega
  have x2 : ((n : Nat) : Int).tdiv 2 = (m : Int) := by rw [Int.tdiv_eq_ediv_of_nonneg (by omega)]; exact x1
  have x3 : (m : Int) * 2 = (d : Int) := by omega
  have x4 : (m : Int) ≤ 1000000 := by omega
  have x5 : (0 : Int) ≤ (m : Int) := by omega
  have hnn : (n : Int) ≤ 1000000 := by omega
  have hdd : d ≤ n := by omega
  have hd0 : (0 : Int) ≤ (d : Int) := by omega
  have hd1 : (d : Int) ≤ 1000000 := by omega
  clear hst hen hq hel hstep hfin hdn0 h0 hF h hput hE hcell hL hB hout hc hd hnm hT hm
  go_enter Tryz.func64, Tryz.ntmps64
  go_wp2_with fail
  (with_reducible refine (HO.out _).mono ?_)
  rintro e w' ⟨rfl, rfl⟩
  go_wp2_with fail
  (with_reducible refine HS.out.mono ?_)
  rintro e Y ⟨rfl, hY⟩
  have q1 := HQ.out _ _ hY
  have c1 : Y.cell? ⟨w.heap.size, 0, none⟩ = some (.int .i64 13) := by rw [cell_at hY.box]; rfl
  have HY := Lib.hid hY
  clear hY q0 c0 d0 ff
  go_wp2_with fail
  go_loopw [7] (fun i wr => ∃ (k : Nat) (dn : List UInt8), i = .int .i64 k ∧ k ≤ d ∧ SAt p c w (valA 13 N vS K E vI (.slice la n lc)) (s.add dn) wr ∧ dn ++ bytesAll c.strictW (allW (L.drop k) (d - k)) = B) (fun i _ => d - (intOf i).toNat)
  case atStart => exact ⟨0, _, rfl, by omega, HY.out, HD0.out⟩
  case round =>
    obtain ⟨k, dn, rfl, hk, hA, hdn⟩ := hrel
    have q2 := HQ.out _ _ hA
    rcases Nat.lt_or_ge k d with hlt | hge
    · obtain ⟨g, o, x, sa, sn, sc, ia', il', ic', la', ll', lc', rfl, hx, hus, hcc⟩ := HEL.out k (by omega)
      have hcw := hcc _ _ hA
      obtain ⟨hcall, hnext⟩ := HST.out k x dn _ hlt hx hA hdn
      rw [hus] at hcw hcall
      have e0 : wr.cell? ⟨g, o + k * 7, none⟩ = some (.int .i64 x.T) := hcw 0 _ rfl
      have e1 : wr.cell? ⟨g, o + k * 7 + 1, none⟩ = some (.int .i64 x.N) := hcw 1 _ rfl
      have e2 : wr.cell? ⟨g, o + k * 7 + 2, none⟩ = some (.slice sa sn sc) := hcw 2 _ rfl
      have e3 : wr.cell? ⟨g, o + k * 7 + 3, none⟩ = some (.int .i64 x.K) := hcw 3 _ rfl
      have e4 : wr.cell? ⟨g, o + k * 7 + 4, none⟩ = some (.int .i64 x.E) := hcw 4 _ rfl
      have e5 : wr.cell? ⟨g, o + k * 7 + 5, none⟩ = some (.slice ia' il' ic') := hcw 5 _ rfl
      have e6 : wr.cell? ⟨g, o + k * 7 + 6, none⟩ = some (.slice la' ll' lc') := hcw 6 _ rfl
      have HV := Lib.hid hcall
      have HN := Lib.hid hnext
      have hk0 : (0 : Int) ≤ (k : Int) := by omega
      have hk1 : (k : Int) < (d : Int) := by omega
      have hk2 : (k : Int) < (n : Int) := by omega
      have hk3 : (k : Int) ≤ 1000000 := by omega
      clear hcall hnext hcw hcc hus hx hdn hA q1 c1
      go_wp2_with fail
      (with_reducible refine HV.out.mono ?_)
      rintro e Z ⟨rfl, hZ⟩
      have HZ := Lib.hid hZ
      clear hZ e0 e1 e2 e3 e4 e5 e6 q2
      go_wp2_with fail
      go_roundw
      case rel => exact ⟨k + 1, _, by go_num, by omega, HZ.out, HN.out⟩
      case measure => simp [intOf]; omega
    · obtain rfl : k = d := by omega
      have e := HFI.out dn hdn
      rw [e] at hA
      have HX := Lib.hid hA
      clear hA hdn e q1 c1
      have hkk : ¬ (k : Int) < (k : Int) := by omega
      skip
      go_wp2_with fail
      (with_reducible refine (HE.out _ HX.out).mono ?_)
      rintro e Z ⟨rfl, hZ⟩
      rw [SSt.add_nil] at hZ
      have HZ := Lib.hid hZ.done
      clear hZ q2
      go_wp2
      go_ret
      exact HZ.out
end Go.Proofs.YtdifknecndlklaaGreatDoor
namespace Go.Proofs.YtdifknecndlklaaGreatDoor
open Go Go.RowKit
set_option maxHeartbeats 4000000
set_option maxRecDepth 100000

abbrev TStp : TypeId := 239
abbrev stp2 : Array Value := #[.int .i64 6, .int .i64 0, .int .i64 0, .int .i64 0, .int .i64 0, .int .i64 0, .slice none 0 0, .int .i64 3, .int .i64 0, .int .i64 0, .int .i64 0, .int .i64 0, .int .i64 0, .slice none 0 0]

/-- The two steps at a struct's end. -/
theorem S_all2 (p : Nat) (c : ConfV) (hc : c.proto ≠ 1) (g : Nat) (w X : World) (cs : Array Value) (s : SSt) (h : SAt p c w cs s X) (hg : X.heap[g]? = some (.cells stp2 TStp (0, 0))) (hgF : ¬ SwF p X g) (hout : s.out.length + 1 ≤ 10000000000) :
    Calls Tryz.prog 93 #[.pointer (some ⟨p, 0, none⟩), .slice (some ⟨g, 0, none⟩) 2 2] X (fun e Y => e = .returned (.int .i64 0) ∧ SAt p c w cs (s.add [0]) Y) := by
  have h6 : ∀ Y, SAt p c w cs s Y → Calls Tryz.prog 83 #[.pointer (some ⟨p, 0, none⟩), .agg #[.int .i64 6, .int .i64 0, .int .i64 0, .int .i64 0, .int .i64 0, .int .i64 0, .slice none 0 0]] Y (fun e Z => e = .returned (.int .i64 0) ∧ SAt p c w cs (s.add [0]) Z ∧ ∀ o, Y.heap[g]? = some o → ¬ SwF p Y g → Z.heap[g]? = some o ∧ ¬ SwF p Z g) := fun Y hY =>
    (S_step ⟨6, 0, 0, 0, 0, 0, .slice none 0 0, []⟩ (show (6 : Int) ≠ 0 by decide) p c hc Y s (Or.inl ⟨rfl, rfl⟩) (Nat.zero_le _) hY.I (by omega)).mono fun e Z hw => ⟨hw.1, hY.next hw, fun o ho hn => ⟨hw.2.2.block ho hn, fun hk => hn (hw.2.2.foot _ (lt_heap ho) hk)⟩⟩
  have h3 : ∀ Y, SAt p c w cs (s.add [0]) Y → Calls Tryz.prog 83 #[.pointer (some ⟨p, 0, none⟩), .agg #[.int .i64 3, .int .i64 0, .int .i64 0, .int .i64 0, .int .i64 0, .int .i64 0, .slice none 0 0]] Y (fun e Z => e = .returned (.int .i64 0) ∧ SAt p c w cs (s.add [0]) Z) := fun Y hY =>
    (S_step0 3 0 0 0 0 (by decide) p c hc hY (by show (s.out ++ [0]).length ≤ _; simp; omega) [] rfl).mono fun e Z hw => ⟨hw.1, by rw [SSt.add_nil] at hw; exact hw.2⟩
  have hcell : ∀ Y : World, Y.heap[g]? = some (.cells stp2 TStp (0, 0)) → (∀ i u, stp2[i]? = some u → Y.cell? ⟨g, i, none⟩ = some u) := fun Y hY i u hu => by rw [cell_at hY]; exact hu
  have H6 := Lib.hid (h6 X h)
  have H3 := Lib.hid h3
  have HG := Lib.hid (And.intro hg hgF)
  have hcc := hcell X hg
  have a0 := hcc 0 _ rfl; have a1 := hcc 1 _ rfl; have a2 := hcc 2 _ rfl; have a3 := hcc 3 _ rfl; have a4 := hcc 4 _ rfl; have a5 := hcc 5 _ rfl; have a6 := hcc 6 _ rfl
  have HC := Lib.hid hcell
  clear h6 h3 hcell hcc h hg hgF hout hc
  go_enter Tryz.func93, Tryz.ntmps93
  go_wp2_with fail
  go_loopw [5] (fun i wr => (i = .int .i64 0 ∧ wr = X) ∨ (i = .int .i64 1 ∧ SAt p c w cs (s.add [0]) wr ∧ wr.heap[g]? = some (.cells stp2 TStp (0, 0))) ∨ (i = .int .i64 2 ∧ SAt p c w cs (s.add [0]) wr)) (fun i _ => 2 - (intOf i).toNat)
  case atStart => exact Or.inl ⟨rfl, rfl⟩
  case round =>
    rcases hrel with ⟨rfl, rfl⟩ | ⟨rfl, hA, hb⟩ | ⟨rfl, hA⟩
    · go_wp2_with fail
      (with_reducible refine H6.out.mono ?_)
      rintro e Y ⟨rfl, hY, hk⟩
      have HY := Lib.hid (And.intro hY (hk _ HG.out.1 HG.out.2).1)
      clear hY hk a0 a1 a2 a3 a4 a5 a6
      go_wp2_with fail
      go_roundw
      case rel => exact Or.inr (Or.inl ⟨rfl, HY.out.1, HY.out.2⟩)
      case measure => simp [intOf]
    · clear a0 a1 a2 a3 a4 a5 a6
      have hcc := HC.out _ hb
      have a0 := hcc 7 _ rfl; have a1 := hcc 8 _ rfl; have a2 := hcc 9 _ rfl; have a3 := hcc 10 _ rfl; have a4 := hcc 11 _ rfl; have a5 := hcc 12 _ rfl; have a6 := hcc 13 _ rfl
      have HA := Lib.hid hA
      clear hA hcc hb
      go_wp2_with fail
      (with_reducible refine (H3.out _ HA.out).mono ?_)
      rintro e Y ⟨rfl, hY⟩
      have HY := Lib.hid hY
      clear hY a0 a1 a2 a3 a4 a5 a6
      go_wp2_with fail
      go_roundw
      case rel => exact Or.inr (Or.inr ⟨rfl, HY.out⟩)
      case measure => simp [intOf]
    · have HA := Lib.hid hA
      clear hA a0 a1 a2 a3 a4 a5 a6
      go_wp2
      go_ret
      exact ⟨rfl, HA.out⟩

theorem S_putStruct (p : Nat) (c : ConfV) (hc : c.proto ≠ 1) (w0 w : World) (s : SSt) (T N K E : Int) (vS : Value) (ia : Option Addr) (il ic : Nat) (la : Option Addr) (n lc : Nat) (us : Nat → Array Value) (ids : List Int) (L : List VT) (hL : L.length = n) (hnm : n ≤ 1000000) (hil : ids.length = il) (him : il ≤ 1000000)
    (hcell : 0 < n → ∃ g o, la = some ⟨g, o, none⟩ ∧ ∀ j, j < n → ∀ i u, (us j)[i]? = some u → w0.cell? ⟨g, o + j * 7 + i, none⟩ = some u)
    (hids : RdN w0 (.slice ia il ic) ids)
    (hE : ∀ (j : Nat) x, L[j]? = some x → ValR w0 x (.agg (us j))) (hput : ∀ (j : Nat) x, L[j]? = some x → SPutOK p c x) (hF : Fr noF (SwF p w) w0 w) (h : SwI p c w s)
    (B : List UInt8) (hB : B = bytesAll c.strictW (restW L ids 0)) (hout : s.out.length + B.length ≤ 10000000000) :
    Calls Tryz.prog 84 #[.pointer (some ⟨p, 0, none⟩), .agg (valA T N vS K E (.slice ia il ic) (.slice la n lc))] w (SR p c w 0 (s.add B)) := by
  obtain ⟨cs, hcs⟩ : ∃ cs, cs = valA T N vS K E (.slice ia il ic) (.slice la n lc) := ⟨_, rfl⟩
  have h0 := SAt.start h cs
  have h2 := S_step0 2 0 0 0 0 (by decide) p c hc h0 (by omega) [] rfl
  have h4 := fun (t id : Int) (dn : List UInt8) X (hX : SAt p c w cs (s.add dn) X) (hl : s.out.length + dn.length ≤ 10000000000) => (S_step0 4 t 0 0 id (by decide) p c hc hX (by show (s.out ++ dn).length ≤ _; rw [List.length_append]; exact hl) _ rfl)
  have h5 := fun (dn : List UInt8) X (hX : SAt p c w cs (s.add dn) X) (hl : s.out.length + dn.length ≤ 10000000000) => (S_step0 5 0 0 0 0 (by decide) p c hc hX (by show (s.out ++ dn).length ≤ _; rw [List.length_append]; exact hl) [] rfl)
  have hq : ∀ (s' : SSt) (X : World), SAt p c w cs s' X → X.cell? ⟨w.heap.size, 5, none⟩ = some (.slice ia il ic) ∧ X.cell? ⟨w.heap.size, 6, none⟩ = some (.slice la n lc) := fun s' X hX => by
    have hb := hX.box
    rw [hcs] at hb
    exact ⟨(cell_at hb 5).trans rfl, (cell_at hb 6).trans rfl⟩
  have hel : ∀ k, k < n → ∃ g o x sa sn sc ia' il' ic' la' ll' lc', la = some ⟨g, o, none⟩ ∧ L[k]? = some x ∧ us k = valA x.T x.N (.slice sa sn sc) x.K x.E (.slice ia' il' ic') (.slice la' ll' lc') ∧
      ∀ s' X, SAt p c w cs s' X → ∀ i u, (us k)[i]? = some u → X.cell? ⟨g, o + k * 7 + i, none⟩ = some u := fun k hk => by
    obtain ⟨g, o, rfl, hcc⟩ := hcell (by omega)
    have hx : L[k]? = some L[k] := List.getElem?_eq_getElem (by omega)
    obtain ⟨sa, sn, sc, ia', il', ic', la', ll', lc', he⟩ := (hE k _ hx).sl
    injection he with he
    exact ⟨g, o, _, sa, sn, sc, ia', il', ic', la', ll', lc', rfl, hx, he, fun s' X hX i u hu => (hF.trans hX.fr).cell (hcc k hk i u hu) fun x => x⟩
  have hid : ∀ k, k < il → ∃ a id, ia = some a ∧ ids[k]? = some id ∧ ∀ s' X, SAt p c w cs s' X → X.cell? (a.add k) = some (.int .i64 id) := fun k hk => by
    rcases hids with ⟨e, rfl⟩ | ⟨a, n', c', e, hl, _, _, hcc⟩
    · simp at hil; omega
    · injection e with e1 e2 e3
      subst e1
      have hi : ids[k]? = some ids[k] := List.getElem?_eq_getElem (by omega)
      exact ⟨a, _, rfl, hi, fun s' X hX => (hF.trans hX.fr).cell (hcc k _ hi) fun x => x⟩
  have hstep : ∀ (k : Nat) x id dn, L[k]? = some x → ids[k]? = some id → dn ++ bytesAll c.strictW (restW L ids k) = B →
      (s.out.length + dn.length ≤ 10000000000 ∧ s.out.length + (dn ++ (Stp.binB c.strictW ⟨4, x.T, 0, 0, id, 0, .slice none 0 0, []⟩)).length ≤ 10000000000 ∧ s.out.length + (dn ++ Stp.binB c.strictW ⟨4, x.T, 0, 0, id, 0, .slice none 0 0, []⟩ ++ x.bytesB c.strictW).length ≤ 10000000000) ∧
      (∀ X, SAt p c w cs (s.add (dn ++ Stp.binB c.strictW ⟨4, x.T, 0, 0, id, 0, .slice none 0 0, []⟩)) X → Calls Tryz.prog 64 #[.pointer (some ⟨p, 0, none⟩), .agg (us k)] X (fun e Y => e = .returned (.int .i64 0) ∧ SAt p c w cs (s.add (dn ++ Stp.binB c.strictW ⟨4, x.T, 0, 0, id, 0, .slice none 0 0, []⟩ ++ x.bytesB c.strictW)) Y)) ∧
      (dn ++ Stp.binB c.strictW ⟨4, x.T, 0, 0, id, 0, .slice none 0 0, []⟩ ++ x.bytesB c.strictW) ++ bytesAll c.strictW (restW L ids (k + 1)) = B := by
    intro k x id dn hx hi hdn
    have e : bytesAll c.strictW (restW L ids k) = Stp.binB c.strictW ⟨4, x.T, 0, 0, id, 0, .slice none 0 0, []⟩ ++ (x.bytesB c.strictW ++ bytesAll c.strictW (restW L ids (k + 1))) := by
      rw [restW_step hx hi]
      show bytesAll c.strictW ([_] ++ (x.wops ++ ([WOp.fieldEnd] ++ restW L ids (k + 1)))) = _
      rw [bytesAll_append, bytesAll_append, bytesAll_append, bytesAll_wops]
      simp [bytesAll, Stp.binB, Stp.wop, WOp.binB]
    rw [e] at hdn
    have hlen := congrArg List.length hdn
    simp only [List.length_append] at hlen
    refine ⟨⟨by omega, by rw [List.length_append]; omega, by rw [List.length_append, List.length_append]; omega⟩, fun X hX => ?_, by simpa [List.append_assoc] using hdn⟩
    have := hX.elem hF (hput k x hx) (hE k x hx) (by show (s.out ++ _).length + _ ≤ _; rw [List.length_append, List.length_append]; omega)
    rw [SSt.add_add] at this
    exact this
  have hfin : ∀ (k : Nat) dn, (L.length ≤ k ∨ ids.length ≤ k) → dn ++ bytesAll c.strictW (restW L ids k) = B → dn ++ [0] = B := fun k dn hk h => by
    rw [restW_end hk] at h
    simpa [bytesAll, WOp.binB] using h
  have hall := fun (g : Nat) (dn : List UInt8) X (hX : SAt p c w cs (s.add dn) X) (hg : X.heap[g]? = some (.cells stp2 TStp (0, 0))) (hgF : ¬ SwF p X g) (hl : dn ++ [0] = B) => S_all2 p c hc g w X cs (s.add dn) hX hg hgF (by
    have := congrArg List.length hl
    simp only [List.length_append, List.length_cons, List.length_nil] at this
    show (s.out ++ dn).length + 1 ≤ _
    rw [List.length_append]; omega)
  have hnew : ∀ (dn : List UInt8) X, SAt p c w cs (s.add dn) X → SAt p c w cs (s.add dn) (X.alloc (.cells stp2 TStp (0, 0))) ∧ ¬ SwF p (X.alloc (.cells stp2 TStp (0, 0))) X.heap.size := fun dn X hX => by
    have hf := (Fr.refl noF X).alloc (.cells stp2 TStp (0, 0))
    refine ⟨hX.quiet hf, fun hk => ?_⟩
    have := hX.I.lt ((hX.I.quiet hf).2.1 _ hk)
    omega
  have hdr : ∀ (s' : SSt) (X : World), SAt p c w cs s' X → SAt p c w cs s' X.drew := fun _ X hX => hX.quiet ((Fr.refl noF X).drew)
  have hdn0 : [] ++ bytesAll c.strictW (restW L ids 0) = B := by rw [List.nil_append]; exact hB.symm
  have HS2 := Lib.hid h2
  have HS4 := Lib.hid h4
  have HS5 := Lib.hid h5
  have HQ := Lib.hid hq
  have HEL := Lib.hid hel
  have HID := Lib.hid hid
  have HST := Lib.hid hstep
  have HFI := Lib.hid hfin
  have HAL := Lib.hid hall
  have HNW := Lib.hid hnew
  have HDR := Lib.hid hdr
  have HD0 := Lib.hid hdn0
  have HLn := Lib.hid (And.intro hL hil)
  have hnm0 : (n : Int) ≤ 1000000 := by omega
  have him0 : (il : Int) ≤ 1000000 := by omega
  have HCS := Lib.hid hcs
  clear h2 h4 h5 hq hel hid hstep hfin hall hnew hdr hdn0 h0 hF h hput hE hcell hids hL hil hnm him hB hout hc hcs
  go_enter Tryz.func84, Tryz.ntmps84
  rw [← HCS.out]
  go_wp2_with fail
  (with_reducible refine HS2.out.mono ?_)
  rintro e Y ⟨rfl, hY⟩
  have HY := Lib.hid hY
  clear hY
  go_wp2_with fail
  go_loopw [6] (fun i wr => ∃ (k : Nat) (dn : List UInt8), i = .int .i64 k ∧ k ≤ n ∧ k ≤ il ∧ SAt p c w cs (s.add dn) wr ∧ dn ++ bytesAll c.strictW (restW L ids k) = B) (fun i _ => n - (intOf i).toNat)
  case atStart => exact ⟨0, _, rfl, by omega, by omega, HY.out, HD0.out⟩
  case round =>
    obtain ⟨k, dn, rfl, hk, hki, hA, hdn⟩ := hrel
    have q1 := HQ.out _ _ hA
    by_cases hlt : k < n ∧ k < il
    · obtain ⟨hlt1, hlt2⟩ := hlt
      obtain ⟨g, o, x, sa, sn, sc, ia', il', ic', la', ll', lc', rfl, hx, hus, hcc⟩ := HEL.out k hlt1
      obtain ⟨a, id, rfl, hi, hic⟩ := HID.out k hlt2
      obtain ⟨hlens, hcall, hnext⟩ := HST.out k x id dn hx hi hdn
      rw [hus] at hcc hcall
      have hqk : ∀ (s' : SSt) (X : World), SAt p c w cs s' X → X.cell? ⟨w.heap.size, 5, none⟩ = some (.slice (some a) il ic) ∧ X.cell? ⟨w.heap.size, 6, none⟩ = some (.slice (some ⟨g, o, none⟩) n lc) ∧ X.cell? ⟨g, o + k * 7, none⟩ = some (.int .i64 x.T) ∧ X.cell? (a.add k) = some (.int .i64 id) := fun _ _ hX => ⟨(HQ.out _ _ hX).1, (HQ.out _ _ hX).2, hcc _ _ hX 0 _ rfl, hic _ _ hX⟩
      have hcells : ∀ (s' : SSt) (X : World), SAt p c w cs s' X → X.cell? ⟨w.heap.size, 6, none⟩ = some (.slice (some ⟨g, o, none⟩) n lc) ∧ X.cell? ⟨g, o + k * 7, none⟩ = some (.int .i64 x.T) ∧ X.cell? ⟨g, o + k * 7 + 1, none⟩ = some (.int .i64 x.N) ∧ X.cell? ⟨g, o + k * 7 + 2, none⟩ = some (.slice sa sn sc) ∧ X.cell? ⟨g, o + k * 7 + 3, none⟩ = some (.int .i64 x.K) ∧ X.cell? ⟨g, o + k * 7 + 4, none⟩ = some (.int .i64 x.E) ∧ X.cell? ⟨g, o + k * 7 + 5, none⟩ = some (.slice ia' il' ic') ∧ X.cell? ⟨g, o + k * 7 + 6, none⟩ = some (.slice la' ll' lc') := fun _ _ hX =>
        ⟨(HQ.out _ _ hX).2, hcc _ _ hX 0 _ rfl, hcc _ _ hX 1 _ rfl, hcc _ _ hX 2 _ rfl, hcc _ _ hX 3 _ rfl, hcc _ _ hX 4 _ rfl, hcc _ _ hX 5 _ rfl, hcc _ _ hX 6 _ rfl⟩
      have q2 := hqk _ _ (HDR.out _ _ hA)
      have h4' := HS4.out x.T id dn _ (HDR.out _ _ hA) hlens.1
      rw [SSt.add_add] at h4'
      have H4 := Lib.hid h4'
      have HA := Lib.hid hA
      have HQK := Lib.hid hqk
      have HCE := Lib.hid hcells
      have HGD := Lib.hid (And.intro hlens hnext)
      have HCA := Lib.hid hcall
      have hk0 : (0 : Int) ≤ (k : Int) := by omega
      have hk1 : (k : Int) < (n : Int) := by omega
      have hk2 : (k : Int) < (il : Int) := by omega
      have hk3 : (k : Int) ≤ 1000000 := by omega
      clear hA hqk hcells hlens hnext hcall hcc hic hus hx hi hdn h4'
      go_wp2_with fail
      clear q1
      go_region_held3 (fun w' => w'.cell? ⟨w.heap.size, 5, none⟩ = some (.slice (some a) il ic) ∧ w'.cell? ⟨w.heap.size, 6, none⟩ = some (.slice (some ⟨g, o, none⟩) n lc) ∧ w'.cell? ⟨g, o + k * 7, none⟩ = some (.int .i64 x.T) ∧ w'.cell? (a.add k) = some (.int .i64 id)) (first | exact q2 | exact q3) (first | ((with_reducible refine H4.out.mono ?_); rintro e Y2 ⟨rfl, hY2⟩; have q3 := HQK.out _ _ hY2; have HY2 := Lib.hid hY2; clear hY2) | fail)
      obtain ⟨e6, d0, d1, d2, d3, d4, d5, d6⟩ := HCE.out _ _ HY2.out
      clear q2 q3
      go_wp2_with fail
      (with_reducible refine (HCA.out _ HY2.out).mono ?_)
      rintro e Y3 ⟨rfl, hY3⟩
      have HY3 := Lib.hid hY3
      clear hY3 d0 d1 d2 d3 d4 d5 d6 e6
      go_wp2_with fail
      (with_reducible refine (HS5.out _ _ HY3.out HGD.out.1.2.2).mono ?_)
      rintro e Y4 ⟨rfl, hY4⟩
      rw [SSt.add_nil] at hY4
      have HY4 := Lib.hid hY4
      clear hY4
      go_wp2_with fail
      go_roundw
      case rel => exact ⟨k + 1, _, by go_num, by omega, by omega, HY4.out, HGD.out.2⟩
      case measure => simp [intOf]; omega
    · have hend := HFI.out k dn (by rw [HLn.out.1, HLn.out.2]; omega) hdn
      obtain ⟨hN1, hN2⟩ := HNW.out dn _ hA
      have hcall := HAL.out _ dn _ hN1 (alloc_new _ _) hN2 hend
      rw [SSt.add_add, hend] at hcall
      have HCA := Lib.hid (hcall.mono fun e Y hw => And.intro hw.1 hw.2.done)
      have hk0 : (0 : Int) ≤ (k : Int) := by omega
      clear hA hdn hend hN1 hN2 hcall
      rcases (show ((k : Int) < (n : Int) ∧ ¬ (k : Int) < (il : Int)) ∨ ¬ (k : Int) < (n : Int) by omega) with ⟨h3, h2⟩ | h3
      all_goals
        clear hlt
        go_wp2_with fail
        (with_reducible refine HCA.out.mono ?_)
        rintro e Y2 ⟨rfl, hY2⟩
        have HY2 := Lib.hid hY2
        clear hY2 q1
        go_wp2
        go_ret
        exact HY2.out
end Go.Proofs.YtdifknecndlklaaGreatDoor
namespace Go.Proofs.YtdifknecndlklaaGreatDoor
open Go Go.RowKit
set_option maxHeartbeats 4000000
set_option maxRecDepth 100000

theorem S_put12 (p : Nat) (c : ConfV) (hc : c.proto ≠ 1) (w0 w : World) (s : SSt) (T N K E : Int) (sa : Option Addr) (sn sc : Nat) (ia : Option Addr) (il ic : Nat) (la : Option Addr) (n lc : Nat) (us : Nat → Array Value) (ids : List Int) (L : List VT) (hT : T % 256 = 12) (hL : L.length = n) (hnm : n ≤ 1000000) (hil : ids.length = il) (him : il ≤ 1000000)
    (hcell : 0 < n → ∃ g o, la = some ⟨g, o, none⟩ ∧ ∀ j, j < n → ∀ i u, (us j)[i]? = some u → w0.cell? ⟨g, o + j * 7 + i, none⟩ = some u)
    (hids : RdN w0 (.slice ia il ic) ids)
    (hE : ∀ (j : Nat) x, L[j]? = some x → ValR w0 x (.agg (us j))) (hput : ∀ (j : Nat) x, L[j]? = some x → SPutOK p c x) (hF : Fr noF (SwF p w) w0 w) (h : SwI p c w s)
    (B : List UInt8) (hB : B = bytesAll c.strictW (restW L ids 0)) (hout : s.out.length + B.length ≤ 10000000000) :
    Calls Tryz.prog 64 #[.pointer (some ⟨p, 0, none⟩), .agg (valA T N (.slice sa sn sc) K E (.slice ia il ic) (.slice la n lc))] w (SR p c w 0 (s.add B)) := by
  have h0 := SAt.start h (valA 12 N (.slice sa sn sc) K E (.slice ia il ic) (.slice la n lc))
  have hs := (S_putStruct p c hc w0 _ s 12 N K E (.slice sa sn sc) ia il ic la n lc us ids L hL hnm hil him hcell hids hE hput (hF.trans h0.fr) h0.I B hB hout).mono fun e Y hw => And.intro hw.1 (h0.next hw).done
  have hc7 := cell_at h0.box
  have c0 := hc7 0; have c1 := hc7 1; have c2 := hc7 2; have c3 := hc7 3; have c4 := hc7 4; have c5 := hc7 5; have c6 := hc7 6
  simp only [List.getElem?_toArray, List.getElem?_cons_zero, List.getElem?_cons_succ] at c0 c1 c2 c3 c4 c5 c6
  have d0 : (w.alloc (.cells (valA T N (.slice sa sn sc) K E (.slice ia il ic) (.slice la n lc)) TSVal (0, 0))).cell? ⟨w.heap.size, 0, none⟩ = some (.int .i64 T) := by rw [cell_at (alloc_new w _)]; rfl
  have ff := free_at (alloc_new w (.cells (valA T N (.slice sa sn sc) K E (.slice ia il ic) (.slice la n lc)) TSVal (0, 0))) 0
  have ha : bits .and .i64 T 255 = 12 := (and255 T).trans hT
  have HO := Lib.hid (show ∀ X, Calls Tryz.prog 82 #[.int .i64 12] X fun e w' => e = .returned (.int .i64 (-1)) ∧ X = w' from fun X => S_op 12 X)
  have HS := Lib.hid hs
  clear hs h0 hc7 hF h hput hE hcell hids hL hB hout hc hnm hil him hT
  go_enter Tryz.func64, Tryz.ntmps64
  go_wp2_with fail
  (with_reducible refine (HO.out _).mono ?_)
  rintro e w' ⟨rfl, rfl⟩
  go_wp2_with fail
  (with_reducible refine HS.out.mono ?_)
  rintro e Y ⟨rfl, hY⟩
  have HY := Lib.hid hY
  clear hY c0 c1 c2 c3 c4 c5 c6 d0 ff
  go_wp2
  go_ret
  exact HY.out

theorem S_put_other (p : Nat) (c : ConfV) (w : World) (s : SSt) (T N K E : Int) (vS vI vL : Value) (hT : sop (T % 256) = -1 ∧ T % 256 ≠ 12 ∧ T % 256 ≠ 13 ∧ T % 256 ≠ 14 ∧ T % 256 ≠ 15) (h : SwI p c w s) :
    Calls Tryz.prog 64 #[.pointer (some ⟨p, 0, none⟩), .agg (valA T N vS K E vI vL)] w (SR p c w 0 s) := by
  obtain ⟨hs, t12, t13, t14, t15⟩ := hT
  have ha : bits .and .i64 T 255 = T % 256 := and255 T
  obtain ⟨t, ht⟩ : ∃ t, t = T % 256 := ⟨_, rfl⟩
  rw [← ht] at ha hs t12 t13 t14 t15
  have n12 : (t == 12) = false := beq_eq_false_iff_ne.2 t12
  have n13 : (t == 13) = false := beq_eq_false_iff_ne.2 t13
  have n14 : (t == 14) = false := beq_eq_false_iff_ne.2 t14
  have n15 : (t == 15) = false := beq_eq_false_iff_ne.2 t15
  have h0 := SAt.start h (valA t N vS K E vI vL)
  have c0 : (w.alloc (.cells (valA t N vS K E vI vL) TSVal (0, 0))).cell? ⟨w.heap.size, 0, none⟩ = some (.int .i64 t) := by rw [cell_at h0.box]; rfl
  have d0 : (w.alloc (.cells (valA T N vS K E vI vL) TSVal (0, 0))).cell? ⟨w.heap.size, 0, none⟩ = some (.int .i64 T) := by rw [cell_at (alloc_new w _)]; rfl
  have ff := free_at (alloc_new w (.cells (valA T N vS K E vI vL) TSVal (0, 0))) 0
  have HO := Lib.hid (show ∀ X, Calls Tryz.prog 82 #[.int .i64 t] X fun e w' => e = .returned (.int .i64 (-1)) ∧ X = w' from fun X => by
    have := S_op t X
    rw [hs] at this
    exact this)
  have HD := Lib.hid h0.done
  clear h0 h hs ht t12 t13 t14 t15
  go_enter Tryz.func64, Tryz.ntmps64
  go_wp2_with fail
  (with_reducible refine (HO.out _).mono ?_)
  rintro e w' ⟨rfl, rfl⟩
  go_wp2
  go_ret
  exact HD.out

theorem S_put_sized (p : Nat) (c : ConfV) (hc : c.proto ≠ 1) : ∀ (m : Nat) (x : VT), SizeOf.sizeOf x ≤ m → x.small → SPutOK p c x := by
  intro m
  induction m with
  | zero =>
    intro x hx
    obtain ⟨T, N, Sb, K, E, ids, L⟩ := x
    simp at hx
  | succ m ih =>
    intro x hx hsm w0 v w s hV hF h hout
    obtain ⟨T, N, Sb, K, E, ids, L⟩ := x
    cases hsm with
    | mk hS hI hL hEl =>
    obtain ⟨vS, vI, vL, us, rfl, h1, h2, ⟨la, lc, rfl, hlc, hlm, hcell⟩, hE⟩ := hV.inv
    have hput : ∀ (j : Nat) x, L[j]? = some x → SPutOK p c x := fun j x hj => by
      have hlt := List.sizeOf_lt_of_mem (List.mem_of_getElem? hj)
      refine ih x ?_ (hEl j x hj)
      simp at hx
      omega
    obtain ⟨sa, sn, sc, rfl, -⟩ := h1.len
    obtain ⟨ia, il, ic, rfl, hil, _, _⟩ := h2.len
    by_cases hsc : 0 ≤ sop (T % 256)
    · obtain ⟨op, hw, hop⟩ := wops_scalar (N := N) (S := Sb) (K := K) (E := E) (ids := ids) (L := L) hsc (.slice sa sn sc)
      refine S_put_scalar p c hc w0 w s T N K E _ _ _ Sb h1 hS hsc hF h (by omega) _ ?_
      unfold VT.bytesB Stp.binB
      rw [hw, hop]
      simp
    · have hm1 : sop (T % 256) = -1 := by unfold sop at hsc ⊢; repeat' split at hsc; all_goals first | omega | (simp_all; done) | rfl
      have hns : T % 256 ≠ 2 ∧ T % 256 ≠ 3 ∧ T % 256 ≠ 4 ∧ T % 256 ≠ 6 ∧ T % 256 ≠ 8 ∧ T % 256 ≠ 10 ∧ T % 256 ≠ 11 ∧ T % 256 ≠ 16 := by
        refine ⟨?_, ?_, ?_, ?_, ?_, ?_, ?_, ?_⟩ <;> (intro e; rw [e] at hm1; revert hm1; decide)
      obtain ⟨t2, t3, t4, t6, t8, t10, t11, t16⟩ := hns
      unfold VT.bytesB at hout ⊢
      rw [VT.wops, if_neg t2, if_neg t3, if_neg t4, if_neg t6, if_neg t8, if_neg t10, if_neg t11, if_neg t16] at hout ⊢
      by_cases t12 : T % 256 = 12
      · rw [if_pos t12] at hout ⊢
        exact S_put12 p c hc w0 w s T N K E sa sn sc ia il ic la L.length lc us ids L t12 rfl hL hil (by omega) hcell h2 hE hput hF h _ rfl hout
      rw [if_neg t12] at hout ⊢
      by_cases t13 : T % 256 = 13
      · rw [if_pos t13] at hout ⊢
        exact S_put13 p c hc w0 w s T N K E _ _ la L.length lc (L.length / 2 * 2) (L.length / 2) us L rfl t13 hL rfl rfl hcell hE hput hF h _ (by simp [bytesAll, WOp.binB]) hout
      rw [if_neg t13] at hout ⊢
      by_cases t14 : T % 256 = 14
      · rw [if_pos t14] at hout ⊢
        exact S_put14 p c hc w0 w s T N K E _ _ la L.length lc L.length (L.length / 2) us L rfl t14 hL rfl rfl hcell hE hput hF h _ (by simp [bytesAll, WOp.binB]) hout
      rw [if_neg t14] at hout ⊢
      by_cases t15 : T % 256 = 15
      · rw [if_pos t15] at hout ⊢
        exact S_put15 p c hc w0 w s T N K E _ _ la L.length lc L.length (L.length / 2) us L rfl t15 hL rfl rfl hcell hE hput hF h _ (by simp [bytesAll, WOp.binB]) hout
      rw [if_neg t15]
      rw [show s.add (([] : List WOp).flatMap (WOp.binB c.strictW)) = s from SSt.add_nil s]
      exact S_put_other p c w s T N K E _ _ _ ⟨hm1, t12, t13, t14, t15⟩ h
theorem S_put_any (p : Nat) (c : ConfV) (hc : c.proto ≠ 1) (x : VT) (hx : x.small) : SPutOK p c x := S_put_sized p c hc (SizeOf.sizeOf x) x (Nat.le_refl _) hx

/-- What spec.Put returns. -/
def SPutR (w : World) (l : List UInt8) (k : Int) (e : Ending) (w' : World) : Prop := ∃ r, e = .returned (.tuple #[r, .int .i64 k]) ∧ Rd w' r l ∧ (∀ j, vblk r j → w.heap.size ≤ j) ∧ Fr noF noF w w'

theorem S_Put (c : ConfV) (hc : c.proto ≠ 1) (x : VT) (hx : x.small) (hb : (x.bytesB c.strictW).length ≤ 10000000000) (v : Value) (w : World) (hv : ValR w x v) : Calls Tryz.prog 43 #[c.val, v] w (SPutR w (x.bytesB c.strictW) 0) := by
  obtain ⟨sa, sn, sc, ia, il, ic, la, ll, lc, rfl⟩ := hv.sl
  have q3 := new3 w (.cells #[.int .i64 c.proto, .bool c.plain, .bool c.sr, .bool c.sw, .int .i32 c.msg, .int .i32 c.con, .int .i32 c.fra] 29 (0, 0)) (.cells (valA x.T x.N (.slice sa sn sc) x.K x.E (.slice ia il ic) (.slice la ll lc)) TSVal (0, 0)) (.cells (SwC c ⟨[], 0, [], false, 0, false⟩ (.slice none 0 0) (.slice none 0 0)) TSW (0, 0))
  have hf2 : Fr noF noF w ((w.alloc (.cells #[.int .i64 c.proto, .bool c.plain, .bool c.sr, .bool c.sw, .int .i32 c.msg, .int .i32 c.con, .int .i32 c.fra] 29 (0, 0))).alloc (.cells (valA x.T x.N (.slice sa sn sc) x.K x.E (.slice ia il ic) (.slice la ll lc)) TSVal (0, 0))) := ((Fr.refl noF w).alloc _).alloc _
  have hs2 : (((w.alloc (.cells #[.int .i64 c.proto, .bool c.plain, .bool c.sr, .bool c.sw, .int .i32 c.msg, .int .i32 c.con, .int .i32 c.fra] 29 (0, 0))).alloc (.cells (valA x.T x.N (.slice sa sn sc) x.K x.E (.slice ia il ic) (.slice la ll lc)) TSVal (0, 0)))).heap.size = w.heap.size + 1 + 1 := by simp
  obtain ⟨X, hX⟩ : ∃ X, X = ((w.alloc (.cells #[.int .i64 c.proto, .bool c.plain, .bool c.sr, .bool c.sw, .int .i32 c.msg, .int .i32 c.con, .int .i32 c.fra] 29 (0, 0))).alloc (.cells (valA x.T x.N (.slice sa sn sc) x.K x.E (.slice ia il ic) (.slice la ll lc)) TSVal (0, 0))).alloc (.cells (SwC c ⟨[], 0, [], false, 0, false⟩ (.slice none 0 0) (.slice none 0 0)) TSW (0, 0)) := ⟨_, rfl⟩
  have hfX : Fr noF noF w X := by rw [hX]; exact hf2.alloc _
  rw [← hX] at q3
  have hA : SwA (w.heap.size + 1 + 1) c X ⟨[], 0, [], false, 0, false⟩ (.slice none 0 0) (.slice none 0 0) := ⟨q3.2.2, ⟨rfl, Or.inl ⟨rfl, rfl⟩⟩, Or.inl ⟨rfl, Or.inl ⟨rfl, rfl⟩⟩⟩
  have hI : SwI (w.heap.size + 1 + 1) c X ⟨[], 0, [], false, 0, false⟩ := ⟨_, _, hA⟩
  have hlow : ∀ k, SwF (w.heap.size + 1 + 1) X k → k = w.heap.size + 1 + 1 := fun k hk => by
    rcases hA.foot.1 hk with h | h | h
    · exact h
    · cases h
    · cases h
  have hp := (S_put_any (w.heap.size + 1 + 1) c hc x hx w _ X ⟨[], 0, [], false, 0, false⟩ hv (hfX.conv fun k hk h => by have := hlow k h; omega) hI (by simpa using hb)).mono (R' := fun e Y => e = .returned (.int .i64 0) ∧ ∃ ov, Y.cell? ⟨w.heap.size + 1 + 1, 7, none⟩ = some ov ∧ SPutR w (x.bytesB c.strictW) 0 (.returned (.tuple #[ov, .int .i64 0])) Y) (by
    rintro e Y ⟨rfl, ⟨ov, uv, hSw⟩, hf⟩
    have hge : ∀ k, SwF (w.heap.size + 1 + 1) Y k → w.heap.size ≤ k := fun k hk => by
      rcases Nat.lt_or_ge k X.heap.size with h | h
      · have := hlow k (hf.foot k h hk); omega
      · have := hfX.size; omega
    obtain ⟨oa, on, oc, rfl, -⟩ := hSw.out.rd.len
    refine ⟨rfl, _, hSw.cells.1, _, rfl, ?_, fun j hj => hge j (hSw.foot.2 (Or.inr (Or.inl ?_))), ⟨hf.os.trans hfX.os, hf.tape.trans hfX.tape, hf.output.trans hfX.output, Nat.le_trans hfX.size hf.size, fun k hk _ => (hf.keep k (by have := hfX.size; omega) fun h => by have := hlow k h; omega).trans (hfX.keep k hk fun x => x), fun _ _ h => h⟩⟩
    · simpa [SSt.add] using hSw.out.rd
    · cases oa with
      | none => cases hj
      | some a => cases on with
        | zero => cases hj
        | succ m => exact congrArg some hj)
  rw [hX] at hp q3
  have HP := Lib.hid hp
  have a0 := cell_at q3.1; have b0 := cell_at q3.2.1
  clear q3 hA hI hlow hfX hf2 hb hv hx hc hX hp
  go_enter Tryz.func43, Tryz.ntmps43
  go_wp2_with fail
  (with_reducible refine HP.out.mono ?_)
  rintro e Y ⟨rfl, ov, hc, hY⟩
  have HY := Lib.hid hY
  clear hY a0 b0
  go_wp2
  go_ret2
  exact HY.out
end Go.Proofs.YtdifknecndlklaaGreatDoor
