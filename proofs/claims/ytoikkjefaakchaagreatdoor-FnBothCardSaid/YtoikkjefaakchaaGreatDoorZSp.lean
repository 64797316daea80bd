/- The specification puts values by the binary protocol: what is put of values that are not taken apart; rows of values. -/
import Derived.Test.YtoikkjefaakchaaGreatDoorZSt
import Derived.Test.YtoikkjefaakchaaGreatDoorZPutC
set_option linter.all false
namespace Go.Proofs.YtoikkjefaakchaaGreatDoor
open Go Go.RowKit
set_option maxHeartbeats 4000000
set_option maxRecDepth 100000

/-- The step of a type that is not taken apart. -/
def sop (t : Int) : Int := if t = 2 then 13 else if t = 3 then 14 else if t = 6 then 15 else if t = 8 then 16 else if t = 10 then 17 else if t = 4 then 18 else if t = 11 then 19 else if t = 16 then 21 else -1

theorem S_op (t : Int) (w : World) : Calls Tryz.prog 106 #[.int .i64 t] w fun e w' => e = .returned (.int .i64 (sop t)) ∧ w = w' := by
  by_cases h : t = 2 ∨ t = 3 ∨ t = 6 ∨ t = 8 ∨ t = 10 ∨ t = 4 ∨ t = 11 ∨ t = 16
  · rcases h with rfl | rfl | rfl | rfl | rfl | rfl | rfl | rfl
    all_goals
      go_enter Tryz.func106, Tryz.ntmps106
      go_wp2
      go_ret
      exact ⟨rfl, rfl⟩
  · have h2 : t ≠ 2 ∧ t ≠ 3 ∧ t ≠ 6 ∧ t ≠ 8 ∧ t ≠ 10 ∧ t ≠ 4 ∧ t ≠ 11 ∧ t ≠ 16 := by omega
    clear h
    obtain ⟨t2, t3, t6, t8, t10, t4, t11, t16⟩ := h2
    have he : sop t = -1 := by unfold sop; simp [t2, t3, t6, t8, t10, t4, t11, t16]
    have HE := Lib.hid he
    have n2 : (t == 2) = false := beq_eq_false_iff_ne.2 t2
    have n3 : (t == 3) = false := beq_eq_false_iff_ne.2 t3
    have n6 : (t == 6) = false := beq_eq_false_iff_ne.2 t6
    have n8 : (t == 8) = false := beq_eq_false_iff_ne.2 t8
    have n10 : (t == 10) = false := beq_eq_false_iff_ne.2 t10
    have n4 : (t == 4) = false := beq_eq_false_iff_ne.2 t4
    have n11 : (t == 11) = false := beq_eq_false_iff_ne.2 t11
    have n16 : (t == 16) = false := beq_eq_false_iff_ne.2 t16
    clear t2 t3 t6 t8 t10 t4 t11 t16 he
    go_enter Tryz.func106, Tryz.ntmps106
    go_wp2
    go_ret
    exact ⟨by rw [HE.out]; rfl, rfl⟩

/-- The bytes of a value by the binary protocol. -/
def VT.bytesB (strict : Bool) (x : VT) : List UInt8 := x.wops.flatMap (WOp.binB strict)
def bytesAll (strict : Bool) (l : List WOp) : List UInt8 := l.flatMap (WOp.binB strict)

theorem wops_scalar {T N : Int} {S : List UInt8} {K E : Int} {ids : List Int} {L : List VT} (h : 0 ≤ sop (T % 256)) (v : Value) :
    ∃ op, (VT.mk T N S K E ids L).wops = [op] ∧ (⟨sop (T % 256), 0, 0, 0, 0, N, v, S⟩ : Stp).wop = some op := by
  have hs : T % 256 = 2 ∨ T % 256 = 3 ∨ T % 256 = 6 ∨ T % 256 = 8 ∨ T % 256 = 10 ∨ T % 256 = 4 ∨ T % 256 = 11 ∨ T % 256 = 16 := by
    unfold sop at h
    repeat' split at h
    all_goals omega
  rw [VT.wops]
  rcases hs with e | e | e | e | e | e | e | e <;> rw [e] <;> exact ⟨_, rfl, rfl⟩

/-- The contract of putting a value by the specification. -/
def SPutOK (p : Nat) (c : ConfV) (x : VT) : Prop := ∀ (w0 : World) (v : Value) (w : World) (s : SSt), ValR w0 x v → Fr noF (SwF p w) w0 w → SwI p c w s → s.out.length + (x.bytesB c.strictW).length ≤ 10000000000 →
  Calls Tryz.prog 73 #[.pointer (some ⟨p, 0, none⟩), v] w (SR p c w 0 (s.add (x.bytesB c.strictW)))

abbrev TSVal : TypeId := 74
/-- What stands while a value is put: the writer in the state s, the value's copy in its box. -/
structure SAt (p : Nat) (c : ConfV) (w : World) (cs : Array Value) (s : SSt) (X : World) : Prop where
  I : SwI p c X s
  fr : Fr (SwF p w) (SwF p X) w X
  box : X.heap[w.heap.size]? = some (.cells cs TSVal (0, 0))
  apart : ¬ SwF p X w.heap.size
theorem SAt.start {p : Nat} {c : ConfV} {w : World} {s : SSt} (h : SwI p c w s) (cs : Array Value) : SAt p c w cs s (w.alloc (.cells cs TSVal (0, 0))) := by
  obtain ⟨h1, h2, h3⟩ := h.quiet ((Fr.refl noF w).alloc (.cells cs TSVal (0, 0)))
  exact ⟨h1, h3, alloc_new w _, fun hk => by have := h.lt (h2 _ hk); omega⟩
theorem SAt.quiet {p : Nat} {c : ConfV} {w X Y : World} {cs : Array Value} {s : SSt} (h : SAt p c w cs s X) (hf : Fr noF noF X Y) : SAt p c w cs s Y := by
  obtain ⟨h1, h2, h3⟩ := h.I.quiet hf
  exact ⟨h1, h.fr.trans h3, hf.block h.box fun x => x, fun hk => h.apart (h2 _ hk)⟩
theorem SAt.next {p : Nat} {c : ConfV} {w X Y : World} {cs : Array Value} {s s' : SSt} {k : Int} {e : Ending} (h : SAt p c w cs s X) (hw : SR p c X k s' e Y) : SAt p c w cs s' Y :=
  ⟨hw.2.1, h.fr.trans hw.2.2, hw.2.2.block h.box h.apart, fun hk => h.apart (hw.2.2.foot _ (lt_heap h.box) hk)⟩
theorem SAt.done {p : Nat} {c : ConfV} {w X : World} {cs : Array Value} {s : SSt} (h : SAt p c w cs s X) : SR p c w 0 s (.returned (.int .i64 0)) X := ⟨rfl, h.I, h.fr⟩
/-- The type in the box is cut to its byte. -/
theorem SAt.setT {p : Nat} {c : ConfV} {w X : World} {cs : Array Value} {s : SSt} (h : SAt p c w cs s X) (i : Nat) (v : Value) : SAt p c w (cs.setIfInBounds i v) s (X.setCell ⟨w.heap.size, i, none⟩ v) := by
  have hf : Fr (fun k => k = w.heap.size) (fun k => k = w.heap.size) X (X.setCell ⟨w.heap.size, i, none⟩ v) := (Fr.refl (fun k => k = w.heap.size) X).setCell (p := ⟨w.heap.size, i, none⟩) (Or.inl rfl) v
  obtain ⟨h1, h2⟩ := h.I.keep hf fun k hk e => h.apart (by
    have e : k = w.heap.size := e
    exact e ▸ hk)
  have hlt := h.fr.size
  refine ⟨h1, ⟨hf.os.trans h.fr.os, hf.tape.trans h.fr.tape, hf.output.trans h.fr.output, Nat.le_trans h.fr.size hf.size, fun k hk hn => (hf.keep k (by omega) fun e => by
    have e : k = w.heap.size := e
    omega).trans (h.fr.keep k hk hn), fun k hk hx => h.fr.foot k hk (h2 k hx)⟩, setCell_at h.box v, fun hk => h.apart (h2 _ hk)⟩

theorem bytesB_len {strict : Bool} {x : VT} : (x.bytesB strict).length = (x.wops.flatMap (WOp.binB strict)).length := rfl

theorem and255 (T : Int) : bits .and .i64 T 255 = T % 256 := by
  have h255 : (BitVec.ofInt 64 255).toNat = 2 ^ 8 - 1 := by decide
  have key : (BitVec.ofInt 64 T &&& BitVec.ofInt 64 255).toNat = (T % ((2 ^ 64 : Nat) : Int)).toNat % 2 ^ 8 := by
    rw [BitVec.toNat_and, BitVec.toNat_ofInt, h255, Nat.and_two_pow_sub_one_eq_mod]
  show IntKind.i64.wrap ((BitVec.ofInt 64 T &&& BitVec.ofInt 64 255).toNat : Nat) = T % 256
  rw [key, IntKind.wrap_i64]
  omega

theorem S_put_scalar (p : Nat) (c : ConfV) (hc : c.proto ≠ 1) (w0 w : World) (s : SSt) (T N K E : Int) (vS vI vL : Value) (S : List UInt8) (hvS : Rd w0 vS S) (hS : S.length ≤ 1000000) (hT : 0 ≤ sop (T % 256)) (hF : Fr noF (SwF p w) w0 w) (h : SwI p c w s) (hout : s.out.length ≤ 10000000000)
    (B : List UInt8) (hB : B = Stp.binB c.strictW ⟨sop (T % 256), 0, 0, 0, 0, N, vS, S⟩) :
    Calls Tryz.prog 73 #[.pointer (some ⟨p, 0, none⟩), .agg (valA T N vS K E vI vL)] w (SR p c w 0 (s.add B)) := by
  obtain ⟨sa, sn, sc, rfl, -⟩ := hvS.len
  have h1 := SAt.start h (valA (T % 256) N (.slice sa sn sc) K E vI vL)
  have hs : sop (T % 256) ≠ 0 := by unfold sop; repeat' split; all_goals omega
  have hst := S_step ⟨sop (T % 256), 0, 0, 0, 0, N, .slice sa sn sc, S⟩ hs p c hc _ s ((hvS.keep hF fun _ _ x => x).keep h1.fr fun k hk hx => by
    have h2 := hvS.keep hF fun _ _ x => x
    refine hF.foot k ?_ hx
    rcases hvS with ⟨e, _⟩ | ⟨a, n, c, e, hl, _, _, hcc⟩
    · rw [e] at hk; exact hk.elim
    · rw [e] at hk
      match n, hk, hl with
      | n + 1, hk, hl =>
        obtain ⟨u, hu⟩ : ∃ u, S[0]? = some u := ⟨_, List.getElem?_eq_getElem (by omega)⟩
        have := World.block_lt_of_cell? w0 _ (hcc 0 u hu)
        rw [block_add'] at this
        exact hk ▸ this) hS h1.I hout
  rw [← hB] at hst
  have hst2 := hst.mono fun e Y hw => And.intro hw.1 ((h1.next hw).done)
  have hq : ∀ (X : World) (cs : Int), X.heap[w.heap.size]? = some (.cells (#[.int .i64 cs, .int .i64 N, .slice sa sn sc, .int .i64 K, .int .i64 E, vI, vL] : Array Value) TSVal (0, 0)) → X.cell? ⟨w.heap.size, 0, none⟩ = some (.int .i64 cs) ∧ X.cell? ⟨w.heap.size, 1, none⟩ = some (.int .i64 N) ∧ X.cell? ⟨w.heap.size, 2, none⟩ = some (.slice sa sn sc) := fun X cs hX => ⟨by rw [cell_at hX]; rfl, by rw [cell_at hX]; rfl, by rw [cell_at hX]; rfl⟩
  have q0 := hq _ _ (SAt.start h (valA T N (.slice sa sn sc) K E vI vL)).box
  have q1 := hq _ _ h1.box
  have ff := free_at (SAt.start h (valA T N (.slice sa sn sc) K E vI vL)).box 0
  have HS := Lib.hid hst2
  have HO := Lib.hid S_op
  have ha := and255 T
  obtain ⟨o, ho⟩ : ∃ o, o = sop (T % 256) := ⟨_, rfl⟩
  have HO2 := Lib.hid (show ∀ X, Calls Tryz.prog 106 #[.int .i64 (T % 256)] X fun e w' => e = .returned (.int .i64 o) ∧ X = w' from fun X => by rw [ho]; exact S_op _ X)
  rw [← ho] at HS hT
  clear h1 hs hst hst2 hq ho hB hF h hvS
  go_enter Tryz.func73, Tryz.ntmps73
  go_wp2_with fail
  (with_reducible refine (HO2.out _).mono ?_)
  rintro e w' ⟨rfl, rfl⟩
  go_wp2_with fail
  (with_reducible refine HS.out.mono ?_)
  rintro e Y ⟨rfl, hY⟩
  have HY := Lib.hid hY
  clear hY q0 q1 ff
  go_wp2
  go_ret
  exact HY.out
end Go.Proofs.YtoikkjefaakchaaGreatDoor
