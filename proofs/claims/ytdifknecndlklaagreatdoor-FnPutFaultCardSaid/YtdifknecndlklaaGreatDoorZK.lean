/- The specification's writer: the compact protocol's texts and fields. The specification's writer: texts and fields by the compact protocol. The specification's writer: plain values by the compact protocol. Printed by gen_se.py. The specification's writer: bools, bytes, numbers by the compact protocol. Printed by gen_se.py. The specification's writer: numbers by the compact protocol. Printed by gen_se.py. The specification's writer: texts and uuids by the compact protocol. Printed by gen_se.py. The specification's writer: the begin of a field by the compact protocol. -/
import Derived.Deep.RegionLaw
import Derived.Test.YtdifknecndlklaaGreatDoorZEV
import Derived.Test.YtdifknecndlklaaGreatDoorZQ
import Derived.Test.YtdifknecndlklaaGreatDoorZVarint0
import Derived.Test.YtdifknecndlklaaGreatDoorZSta
set_option linter.all false
namespace Go.Proofs.YtdifknecndlklaaGreatDoor
open Go Go.RowKit
set_option maxHeartbeats 4000000
set_option maxRecDepth 100000
set_option linter.all false

/-- Bytes appended, as a step of a region that draws its order. -/
theorem step_bytes {w : World} {ops : Array Oper} {o : Oper} {a : Act} {K : Act → World → Prop} {Q : Exit → Act → World → Prop} {E : Prop} (hgd : o.guard = none) (s x : Operand)
    (ho : o.op = .call { callee := .builtin .append, args := #[s, x], argTypes := #[24, 24] })
    (base : Nat) (v vx : Value) (L l : List UInt8) (hs : a.eval s = v) (hown : OwnB w base v L) (hx : a.eval x = vx) (hr : Rd w vx l) (hb : L.length + l.length ≤ 100000000000) (hbase : base ≤ w.heap.size)
    (h : ∀ va vn vc w', OwnB w' base (.slice va vn vc) (L ++ l) → w.grownBy w' v.ownBlock → ((Value.slice va vn vc).ownBlock = v.ownBlock ∨ (Value.slice va vn vc).ownBlock = some w.heap.size) → K (a.put o.dst (.slice va vn vc)) w') :
    if Region.wanted o (yielded ops a.tmps) = true then Oper.wp Tryz.prog o a w K Q else E := by
  have hw : Region.wanted o (yielded ops a.tmps) = true := by simp [Region.wanted, hgd]
  rw [if_pos hw]
  obtain ⟨i0, hi, hz0, hz1, hz2⟩ := info_parts info_u8
  rcases hr with ⟨rfl, rfl⟩ | ⟨ad, n, c, rfl, hn, hc, hm, hc2⟩
  · have hrun := run_append_owned_none (P := Tryz.prog) (w := w) base 24 o.type U8 i0 1 Tryz.underlying24 hi v L.length (Lib.byteCells L) hown
    obtain ⟨va, vn, vc, rfl, -⟩ := hown.rd.len
    unfold Oper.wp
    simp [execOp, ho, resolve, invoke, builtin, hs, hx, hrun, Result.andThen]
    exact h va vn vc w (by rw [List.append_nil]; exact hown) ⟨rfl, rfl, rfl, Nat.le_refl _, fun _ _ _ => rfl⟩ (Or.inl rfl)
  · obtain ⟨v', w', hrun, h2, h3, _, h5⟩ := run_append_own_at (P := Tryz.prog) (w := w) base 24 o.type U8 i0 (.int .u8 0) 1 1 Tryz.underlying24 hi hz0 hz1 hz2 rfl (by decide) v L.length (Lib.byteCells L) hown ad n c (Lib.byteCells l) (by rw [bcells_length]; omega) (fun j u hj => by obtain ⟨x, h1, rfl⟩ := bcells_get hj; exact hc2 j x h1) (fun u hu => by simp only [Lib.byteCells, List.mem_map] at hu; obtain ⟨x, _, rfl⟩ := hu; rfl) (by unfold maxLen; omega) (by omega) hbase
    have h2' : OwnB w' base v' (L ++ l) := OwnB.more h2 (by omega)
    obtain ⟨va, vn, vc, rfl, -⟩ := h2'.rd.len
    unfold Oper.wp execOp
    simp only [ho, resolve, invoke, builtin, Sem.run_bind, Sem.run_pure, Result.andThen_ok, List.map_toArray, List.map_cons, List.map_nil, hs, hx, hrun]
    exact h va vn vc w' h2' h3 h5

/-- What has turned is the row v's alone, and what is new. -/
structure Grew (w w4 : World) (ov : Value) : Prop where
  os : w4.os = w.os
  tape : w4.tape = w.tape
  output : w4.output = w.output
  size : w.heap.size ≤ w4.heap.size
  keep : ∀ k, k < w.heap.size → ov.ownBlock ≠ some k → w4.heap[k]? = w.heap[k]?
theorem Grew.start {w X : World} (ov : Value) (h : Fr noF noF w X) : Grew w X ov := ⟨h.os, h.tape, h.output, h.size, fun k hk _ => h.keep k hk fun x => x⟩
theorem Grew.fr {w X Y : World} {ov : Value} (h : Grew w X ov) (hf : Fr noF noF X Y) : Grew w Y ov :=
  ⟨hf.os.trans h.os, hf.tape.trans h.tape, hf.output.trans h.output, Nat.le_trans h.size hf.size, fun k hk hn => (hf.keep k (Nat.lt_of_lt_of_le hk h.size) fun x => x).trans (h.keep k hk hn)⟩
/-- Where a row lies: where it lay, or anew. -/
def OwnAt (w : World) (v ov : Value) : Prop := v.ownBlock = ov.ownBlock ∨ ∃ k, v.ownBlock = some k ∧ w.heap.size ≤ k
theorem OwnAt.refl (w : World) (ov : Value) : OwnAt w ov ov := Or.inl rfl
theorem OwnAt.next {w X : World} {v v' ov : Value} (h : OwnAt w v ov) (hX : w.heap.size ≤ X.heap.size) (h2 : v'.ownBlock = v.ownBlock ∨ v'.ownBlock = some X.heap.size) : OwnAt w v' ov := by
  rcases h2 with h2 | h2
  · rcases h with h | ⟨k, hk, hl⟩
    · exact Or.inl (h2.trans h)
    · exact Or.inr ⟨k, h2.trans hk, hl⟩
  · exact Or.inr ⟨_, h2, hX⟩
theorem OwnAt.nextN {w : World} {N : Nat} {v v' ov : Value} (h : OwnAt w v ov) (hX : w.heap.size ≤ N) (h2 : v'.ownBlock = v.ownBlock ∨ v'.ownBlock = some N) : OwnAt w v' ov := by
  rcases h2 with h2 | h2
  · rcases h with h | ⟨k, hk, hl⟩
    · exact Or.inl (h2.trans h)
    · exact Or.inr ⟨k, h2.trans hk, hl⟩
  · exact Or.inr ⟨_, h2, hX⟩
theorem Grew.more {w X Z : World} {v ov : Value} (h : Grew w X ov) (hv : OwnAt w v ov) (hg : X.grownBy Z v.ownBlock) : Grew w Z ov :=
  ⟨hg.os.trans h.os, hg.tape.trans h.tape, hg.output.trans h.output, Nat.le_trans h.size hg.size, fun k hk hn => (hg.block k (Nat.lt_of_lt_of_le hk h.size) fun e => by
    rcases hv with hv | ⟨j, hj, hl⟩
    · exact hn (hv.symm.trans e.symm)
    · rw [hj] at e
      injection e with e
      omega).trans (h.keep k hk hn)⟩
theorem Rd.grew {w Z : World} {v ov : Value} {l : List UInt8} (h : Rd w v l) (hg : Grew w Z ov) (hn : ∀ k, vblk v k → ov.ownBlock ≠ some k) : Rd Z v l := by
  refine h.keep (F := fun k => ov.ownBlock = some k) (F' := noF) ⟨hg.os, hg.tape, hg.output, hg.size, fun k hk hx => hg.keep k hk hx, fun _ _ x => x.elim⟩ fun k hk hx => hn k hk hx

/-- The row has grown, and is stored. -/
theorem SwA.wroteG {p : Nat} {c : ConfV} {w Z : World} {s : SSt} {ov uv v' : Value} {l : List UInt8} (h : SwA p c w s ov uv) (hG : Grew w Z ov) (hown : OwnB Z 0 v' l) (hat : OwnAt w v' ov) :
    (Z.cell? ⟨p, 7, none⟩ = some ov ∧ Z.frozen? ⟨p, 7, none⟩ = false) ∧ SwA p c (Z.setCell ⟨p, 7, none⟩ v') { s with out := l } v' uv ∧ Fr (SwF p w) (SwF p (Z.setCell ⟨p, 7, none⟩ v')) w (Z.setCell ⟨p, 7, none⟩ v') := by
  have hap : ∀ k, ov.ownBlock = some k → k ≠ p := fun k hk e => by
    obtain ⟨cur, hc⟩ := owns_block h.out hk
    subst e
    exact tag_ne hc h.box (by decide) rfl
  have hau : ∀ k, uv.ownBlock = some k → k ≠ p ∧ ov.ownBlock ≠ some k := fun k hk => by
    obtain ⟨cur, hc⟩ := ownu_block h.outer hk
    refine ⟨fun e => ?_, fun e => ?_⟩
    · subst e
      exact tag_ne hc h.box (by decide) rfl
    · obtain ⟨cur', hc'⟩ := owns_block h.out e
      exact tag_ne hc hc' (by decide) rfl
  have hpl := lt_heap h.box
  have hb4 : Z.heap[p]? = some (.cells (SwC c s ov uv) TSW (0, 0)) := (hG.keep p hpl fun e => hap p e rfl).trans h.box
  have hbz := setCell_at (i := 7) hb4 v'
  have hvp : ∀ k, v'.ownBlock = some k → k ≠ p := fun k hk e => by
    obtain ⟨cur, hc⟩ := owns_block hown hk
    subst e
    exact tag_ne hc hb4 (by decide) rfl
  have hA : SwA p c (Z.setCell ⟨p, 7, none⟩ v') { s with out := l } v' uv := by
    refine ⟨hbz, owns_keep hown fun k hk => ?_, ownu_keep h.outer fun k hk => ?_⟩
    · exact Below.heap_setCell _ _ _ _ (hvp k hk)
    · obtain ⟨cur, hc⟩ := ownu_block h.outer hk
      exact (Below.heap_setCell _ _ _ _ (hau k hk).1).trans (hG.keep k (lt_heap hc) (hau k hk).2)
  refine ⟨⟨by rw [cell_at hb4]; rfl, free_at hb4 7⟩, hA, hG.os, hG.tape, hG.output, by rw [setCell_size]; exact hG.size, fun k hk hn => ?_, fun k hk hx => ?_⟩
  · exact (Below.heap_setCell _ _ _ _ fun e => hn (Or.inl e)).trans (hG.keep k hk fun e => hn (h.foot.2 (Or.inr (Or.inl e))))
  · rcases hA.foot.1 hx with e | e | e
    · exact Or.inl e
    · rcases hat with hat | ⟨j, hj, hl⟩
      · rw [hat] at e
        exact h.foot.2 (Or.inr (Or.inl e))
      · rw [hj] at e
        injection e with e
        omega
    · exact h.foot.2 (Or.inr (Or.inr e))
/-- A number of the compact state is stored. -/
theorem SwA.setLast {p : Nat} {c : ConfV} {w : World} {s : SSt} {ov uv : Value} (h : SwA p c w s ov uv) (id : Int) :
    SwA p c (w.setCell ⟨p, 8, none⟩ (.int .i64 id)) { s with last := id } ov uv ∧ Fr (SwF p w) (SwF p (w.setCell ⟨p, 8, none⟩ (.int .i64 id))) w (w.setCell ⟨p, 8, none⟩ (.int .i64 id)) := by
  have hne : ∀ k, (∃ cur, w.heap[k]? = some (.cells cur U8 (0, 0)) ∨ w.heap[k]? = some (.cells cur TIn (0, 0))) → k ≠ p := fun k ⟨cur, hk⟩ e => by
    subst e
    rcases hk with hk | hk <;> exact tag_ne hk h.box (by decide) rfl
  have hA : SwA p c (w.setCell ⟨p, 8, none⟩ (.int .i64 id)) { s with last := id } ov uv := by
    refine ⟨setCell_at (i := 8) h.box _, owns_keep h.out fun k hk => ?_, ownu_keep h.outer fun k hk => ?_⟩
    · obtain ⟨cur, hc⟩ := owns_block h.out hk
      exact Below.heap_setCell _ _ _ _ (hne k ⟨cur, Or.inl hc⟩)
    · obtain ⟨cur, hc⟩ := ownu_block h.outer hk
      exact Below.heap_setCell _ _ _ _ (hne k ⟨cur, Or.inr hc⟩)
  refine ⟨hA, rfl, rfl, rfl, by rw [setCell_size]; exact Nat.le_refl _, fun k hk hn => Below.heap_setCell _ _ _ _ fun e => hn (Or.inl e), fun k hk hx => h.foot.2 (hA.foot.1 hx)⟩

/-- The compact type, by the specification. -/
theorem S_code (t : Int) (w : World) : Calls Tryz.prog 106 #[.int .i64 t] w fun e w' => e = .returned (.int .u8 (ctype (t % 256))) ∧ w = w' := by
  have ha := and255 t
  obtain ⟨u, hu⟩ : ∃ u, u = t % 256 := ⟨_, rfl⟩
  rw [← hu] at ha ⊢
  by_cases h : u = 2 ∨ u = 3 ∨ u = 6 ∨ u = 8 ∨ u = 10 ∨ u = 4 ∨ u = 11 ∨ u = 15 ∨ u = 14 ∨ u = 13 ∨ u = 12 ∨ u = 16
  · clear hu
    rcases h with rfl | rfl | rfl | rfl | rfl | rfl | rfl | rfl | rfl | rfl | rfl | rfl
    all_goals
      go_enter Tryz.func106, Tryz.ntmps106
      go_wp2
      go_ret
      exact ⟨rfl, rfl⟩
  · have he : ctype u = 0 := by unfold ctype; (repeat' split) <;> first | rfl | omega
    have HE := Lib.hid he
    have n2 : (u == 2) = false := beq_eq_false_iff_ne.2 (by omega)
    have n3 : (u == 3) = false := beq_eq_false_iff_ne.2 (by omega)
    have n6 : (u == 6) = false := beq_eq_false_iff_ne.2 (by omega)
    have n8 : (u == 8) = false := beq_eq_false_iff_ne.2 (by omega)
    have n10 : (u == 10) = false := beq_eq_false_iff_ne.2 (by omega)
    have n4 : (u == 4) = false := beq_eq_false_iff_ne.2 (by omega)
    have n11 : (u == 11) = false := beq_eq_false_iff_ne.2 (by omega)
    have n15 : (u == 15) = false := beq_eq_false_iff_ne.2 (by omega)
    have n14 : (u == 14) = false := beq_eq_false_iff_ne.2 (by omega)
    have n13 : (u == 13) = false := beq_eq_false_iff_ne.2 (by omega)
    have n12 : (u == 12) = false := beq_eq_false_iff_ne.2 (by omega)
    have n16 : (u == 16) = false := beq_eq_false_iff_ne.2 (by omega)
    clear h hu he
    go_enter Tryz.func106, Tryz.ntmps106
    go_wp2
    go_ret
    rw [HE.out]
    exact ⟨rfl, rfl⟩

theorem xor_u32 (v : Int) (h : -2147483648 ≤ v ∧ v < 2147483648) : bits .xor .u32 (v % 4294967296 * 2 % 4294967296) (v / 2147483648 % 4294967296) = zig v := by
  have e : bits .xor .u32 (v % 4294967296 * 2 % 4294967296) (v / 2147483648 % 4294967296) = IntKind.u32.wrap (bits .xor .i32 (v * 2) (v / 2147483648)) := by
    show IntKind.u32.wrap ((BitVec.ofInt 32 (v % 4294967296 * 2 % 4294967296) ^^^ BitVec.ofInt 32 (v / 2147483648 % 4294967296)).toNat : Int) = IntKind.u32.wrap (IntKind.i32.wrap ((BitVec.ofInt 32 (v * 2) ^^^ BitVec.ofInt 32 (v / 2147483648)).toNat : Int))
    have e1 : BitVec.ofInt 32 (v % 4294967296 * 2 % 4294967296) = BitVec.ofInt 32 (v * 2) := by
      apply BitVec.eq_of_toNat_eq
      rw [BitVec.toNat_ofInt, BitVec.toNat_ofInt]
      congr 1
      simp
      omega
    have e2 : BitVec.ofInt 32 (v / 2147483648 % 4294967296) = BitVec.ofInt 32 (v / 2147483648) := by
      apply BitVec.eq_of_toNat_eq
      rw [BitVec.toNat_ofInt, BitVec.toNat_ofInt]
      congr 1
      simp
    rw [e1, e2]
    generalize ((BitVec.ofInt 32 (v * 2) ^^^ BitVec.ofInt 32 (v / 2147483648)).toNat : Int) = N
    rw [wrap_i32']
    simp only [IntKind.wrap, IntKind.bits, IntKind.signed]
    simp
    try omega
  rw [e]
  unfold zig
  split
  · rw [show v / 2147483648 = -1 by omega, xorM_i32, wrap_i32']
    simp only [IntKind.wrap, IntKind.bits, IntKind.signed]
    simp
    omega
  · rw [show v / 2147483648 = 0 by omega, xor0_i32, wrap_i32']
    simp only [IntKind.wrap, IntKind.bits, IntKind.signed]
    simp
    omega
theorem S_zig32 (v : Int) (h : -2147483648 ≤ v ∧ v < 2147483648) (w : World) : Calls Tryz.prog 108 #[.int .i32 v] w fun e w' => e = .returned (.int .u32 (zig v)) ∧ w = w' := by
  have HX := Lib.hid (xor_u32 v h)
  clear h
  go_enter Tryz.func108, Tryz.ntmps108
  go_wp2
  go_ret
  rw [HX.out]
  exact ⟨rfl, rfl⟩
end Go.Proofs.YtdifknecndlklaaGreatDoor
namespace Go.Proofs.YtdifknecndlklaaGreatDoor
open Go Go.RowKit
set_option maxHeartbeats 4000000
set_option maxRecDepth 100000
set_option linter.all false

theorem xor_u64 (v : Int) (h : -9223372036854775808 ≤ v ∧ v < 9223372036854775808) : bits .xor .u64 (v % 18446744073709551616 * 2 % 18446744073709551616) (v / 9223372036854775808 % 18446744073709551616) = zig v := by
  have e : bits .xor .u64 (v % 18446744073709551616 * 2 % 18446744073709551616) (v / 9223372036854775808 % 18446744073709551616) = IntKind.u64.wrap (bits .xor .i64 (v * 2) (v / 9223372036854775808)) := by
    show IntKind.u64.wrap ((BitVec.ofInt 64 (v % 18446744073709551616 * 2 % 18446744073709551616) ^^^ BitVec.ofInt 64 (v / 9223372036854775808 % 18446744073709551616)).toNat : Int) = IntKind.u64.wrap (IntKind.i64.wrap ((BitVec.ofInt 64 (v * 2) ^^^ BitVec.ofInt 64 (v / 9223372036854775808)).toNat : Int))
    have e1 : BitVec.ofInt 64 (v % 18446744073709551616 * 2 % 18446744073709551616) = BitVec.ofInt 64 (v * 2) := by
      apply BitVec.eq_of_toNat_eq
      rw [BitVec.toNat_ofInt, BitVec.toNat_ofInt]
      congr 1
      simp
      omega
    have e2 : BitVec.ofInt 64 (v / 9223372036854775808 % 18446744073709551616) = BitVec.ofInt 64 (v / 9223372036854775808) := by
      apply BitVec.eq_of_toNat_eq
      rw [BitVec.toNat_ofInt, BitVec.toNat_ofInt]
      congr 1
      simp
    rw [e1, e2]
    generalize ((BitVec.ofInt 64 (v * 2) ^^^ BitVec.ofInt 64 (v / 9223372036854775808)).toNat : Int) = N
    rw [IntKind.wrap_i64, IntKind.wrap_u64, IntKind.wrap_u64]
    omega
  rw [e]
  unfold zig
  split
  · rw [show v / 9223372036854775808 = -1 by omega, xorM_i64, IntKind.wrap_i64, IntKind.wrap_u64]
    omega
  · rw [show v / 9223372036854775808 = 0 by omega, xor0_i64, IntKind.wrap_i64, IntKind.wrap_u64]
    omega
theorem S_zig64 (v : Int) (h : -9223372036854775808 ≤ v ∧ v < 9223372036854775808) (w : World) : Calls Tryz.prog 109 #[.int .i64 v] w fun e w' => e = .returned (.int .u64 (zig v)) ∧ w = w' := by
  have HX := Lib.hid (xor_u64 v h)
  clear h
  go_enter Tryz.func109, Tryz.ntmps109
  go_wp2
  go_ret
  refine ⟨?_, rfl⟩
  simp only [IntKind.wrap_u64]
  rw [HX.out]
  rfl

/-- What a writing of the specification's leaves that tells nothing. -/
def SV (p : Nat) (c : ConfV) (w : World) (s' : SSt) (e : Ending) (w' : World) : Prop := e = .returned (.tuple #[]) ∧ SwI p c w' s' ∧ Fr (SwF p w) (SwF p w') w w'

theorem S_wtext (p : Nat) (c : ConfV) (w : World) (s : SSt) (v : Value) (l : List UInt8) (hv : Rd w v l) (hb : ∀ k, vblk v k → ¬ SwF p w k) (hl : l.length ≤ 1000000) (h : SwI p c w s) (hout : s.out.length ≤ 10000000000) :
    Calls Tryz.prog 102 #[.pointer (some ⟨p, 0, none⟩), v] w (SV p c w { s with out := s.out ++ (vint (l.length % 4294967296) ++ l) }) := by
  obtain ⟨ov, uv, hA⟩ := h
  obtain ⟨va, vn, vc, rfl, hvn⟩ := hv.len
  subst hvn
  rw [show l.length % 4294967296 = l.length by omega]
  have hov : ∀ k, vblk (.slice va l.length vc) k → ov.ownBlock ≠ some k := fun k hk e => hb k hk (hA.foot.2 (Or.inr (Or.inl e)))
  have hvl := vint32_le l.length (by omega)
  have hq : ∀ Z, Grew w Z ov → Z.cell? ⟨p, 7, none⟩ = some ov ∧ Rd Z (.slice va l.length vc) l := fun Z hZ => by
    refine ⟨?_, hv.grew hZ hov⟩
    have hp : ov.ownBlock ≠ some p := fun e => by
      obtain ⟨cur, hc⟩ := owns_block hA.out e
      exact tag_ne hc hA.box (by decide) rfl
    rw [World.cell?_of_block (a := ⟨p, 7, none⟩) (hZ.keep p (lt_heap hA.box) hp)]
    exact hA.cells.1
  have hown : ∀ Z, Fr noF noF w Z → OwnB Z 0 ov s.out := fun Z hZ => (hA.keep hZ fun _ _ x => x).out
  have hfin : ∀ Z va' vn' vc', Grew w Z ov → OwnB Z 0 (.slice va' vn' vc') (s.out ++ vint l.length ++ l) → OwnAt w (.slice va' vn' vc') ov → (Z.cell? ⟨p, 7, none⟩ = some ov ∧ Z.frozen? ⟨p, 7, none⟩ = false) ∧ SV p c w { s with out := s.out ++ (vint l.length ++ l) } (.returned (.tuple #[])) (Z.setCell ⟨p, 7, none⟩ (.slice va' vn' vc')) := fun Z va' vn' vc' hG ho hat => by
    obtain ⟨h1, h2, h3⟩ := hA.wroteG hG ho hat
    exact ⟨h1, rfl, ⟨_, _, by rw [← List.append_assoc]; exact h2⟩, h3⟩
  have HV := Lib.hid (fun X => S_varint l.length (by omega) X)
  have HQ := Lib.hid hq
  have HO := Lib.hid hown
  have HF := Lib.hid hfin
  have HL := Lib.hid (And.intro hout (And.intro hl hvl))
  have q0 := (hq w (Grew.start ov (Fr.refl noF w))).1
  have q1 : w.drew.cell? ⟨p, 7, none⟩ = some ov := q0
  have hl0 : (l.length : Int) ≤ 1000000 := by omega
  have hwu : IntKind.u64.wrap (l.length : Int) = (l.length : Int) := by rw [IntKind.wrap_u64]; omega
  clear hq hown hfin hA hv hb hl hvl hov hout
  go_enter Tryz.func102, Tryz.ntmps102
  go_region_law (first | (go_simp; go_at_call 101; (with_reducible refine (HV.out _).mono ?_); rintro e Y ⟨yv, rfl, hyo, hyf⟩; obtain ⟨ya, yn, yc, rfl, hyn⟩ := hyo.rd.len; have qy := (HQ.out Y (Grew.start ov (by (focus ((repeat (first | with_reducible exact Fr.refl _ _ | with_reducible assumption | with_reducible refine Fr.alloc ?_ _ | with_reducible refine Fr.drew ?_ | with_reducible refine Fr.drewN ?_ _ | with_reducible refine Fr.trans (F' := noF) ?_ (by with_reducible assumption) | fail)); done))))).1; have hwy : Fr noF noF w Y := (by (focus ((repeat (first | with_reducible exact Fr.refl _ _ | with_reducible assumption | with_reducible refine Fr.alloc ?_ _ | with_reducible refine Fr.drew ?_ | with_reducible refine Fr.drewN ?_ _ | with_reducible refine Fr.trans (F' := noF) ?_ (by with_reducible assumption) | fail)); done))); have hyr := hyo.rd; clear hyo) | ((refine step_bytes (by rfl) _ _ (by rfl) 0 (.slice za zn zc) (.slice va l.length vc) _ l (by rfl) hz1 (by rfl) (HQ.out Z hz2).2 (by have := HL.out; simp only [List.length_append]; omega) (Nat.zero_le _) ?_); intro ta tn tc T ht1 ht2 ht3; obtain ⟨⟨t7, tf⟩, hfin⟩ := HF.out T ta tn tc (hz2.more hz3 ht2) ht1 (hz3.next hz2.size ht3); have HX := Lib.hid hfin; clear hfin ht1 ht2 ht3 hz1 hz2 hz3) | ((refine step_bytes (by rfl) _ _ (by rfl) 0 ov (.slice ya yn yc) s.out (vint l.length) (by rfl) (HO.out _ ?_) (by rfl) ?_ (by have := HL.out; omega) (Nat.zero_le _) ?_); (focus ((repeat (first | with_reducible exact Fr.refl _ _ | with_reducible assumption | with_reducible refine Fr.alloc ?_ _ | with_reducible refine Fr.drew ?_ | with_reducible refine Fr.drewN ?_ _ | with_reducible refine Fr.trans (F' := noF) ?_ (by with_reducible assumption) | fail)); done)); (focus ((repeat (first | with_reducible assumption | with_reducible refine Rd.keep (F := noF) (F' := noF) ?_ (Fr.alloc (Fr.refl noF _) _) (fun _ _ x => x) | with_reducible refine Rd.keep (F := noF) (F' := noF) ?_ (Fr.drew (Fr.refl noF _)) (fun _ _ x => x) | with_reducible refine Rd.keep (F := noF) (F' := noF) ?_ (by with_reducible assumption) (fun _ _ x => x) | fail)); done)); intro za zn zc Z hz1 hzg hzh; have hz2 : Grew w Z ov := Grew.more (Grew.start ov (by (focus ((repeat (first | with_reducible exact Fr.refl _ _ | with_reducible assumption | with_reducible refine Fr.alloc ?_ _ | with_reducible refine Fr.drew ?_ | with_reducible refine Fr.drewN ?_ _ | with_reducible refine Fr.trans (F' := noF) ?_ (by with_reducible assumption) | fail)); done)))) (OwnAt.refl w ov) hzg; have hz3 : OwnAt w (.slice za zn zc) ov := (OwnAt.refl w ov).next (Fr.size (by (focus ((repeat (first | with_reducible exact Fr.refl _ _ | with_reducible assumption | with_reducible refine Fr.alloc ?_ _ | with_reducible refine Fr.drew ?_ | with_reducible refine Fr.drewN ?_ _ | with_reducible refine Fr.trans (F' := noF) ?_ (by with_reducible assumption) | fail)); done)))) hzh; clear hzg hzh) | fail)
  all_goals go_wp2
  all_goals refine bodyPost_ret (results_none rfl _ _ _) rfl ?_
  all_goals exact HX.out

/-- A field's begin. -/
theorem S_field (p : Nat) (c : ConfV) (w : World) (s : SSt) (code id : Int) (hc0 : 0 ≤ code) (hc1 : code < 16) (hid : -32768 ≤ id ∧ id < 32768) (hla : -32768 ≤ s.last ∧ s.last < 32768) (h : SwI p c w s) (hout : s.out.length ≤ 10000000000) :
    Calls Tryz.prog 107 #[.pointer (some ⟨p, 0, none⟩), .int .u8 code, .int .i64 id] w (SV p c w (s.field code id)) := by
  obtain ⟨ov, uv, hA⟩ := h
  have hq : ∀ Z, Grew w Z ov → Z.cell? ⟨p, 7, none⟩ = some ov := fun Z hZ => by
    have hp : ov.ownBlock ≠ some p := fun e => by
      obtain ⟨cur, hc⟩ := owns_block hA.out e
      exact tag_ne hc hA.box (by decide) rfl
    rw [World.cell?_of_block (a := ⟨p, 7, none⟩) (hZ.keep p (lt_heap hA.box) hp)]
    exact hA.cells.1
  have hown : ∀ Z, Fr noF noF w Z → OwnB Z 0 ov s.out := fun Z hZ => (hA.keep hZ fun _ _ x => x).out
  have hfin : ∀ Z va' vn' vc' news, Grew w Z ov → OwnB Z 0 (.slice va' vn' vc') (s.out ++ news) → OwnAt w (.slice va' vn' vc') ov → (Z.cell? ⟨p, 7, none⟩ = some ov ∧ Z.frozen? ⟨p, 7, none⟩ = false) ∧ ((Z.setCell ⟨p, 7, none⟩ (.slice va' vn' vc')).cell? ⟨p, 8, none⟩ = some (.int .i64 s.last) ∧ (Z.setCell ⟨p, 7, none⟩ (.slice va' vn' vc')).frozen? ⟨p, 8, none⟩ = false) ∧
      SV p c w { s with out := s.out ++ news, last := id } (.returned (.tuple #[])) ((Z.setCell ⟨p, 7, none⟩ (.slice va' vn' vc')).setCell ⟨p, 8, none⟩ (.int .i64 id)) := fun Z va' vn' vc' news hG ho hat => by
    obtain ⟨h1, h2, h3⟩ := hA.wroteG hG ho hat
    obtain ⟨h4, h5⟩ := h2.setLast id
    exact ⟨h1, ⟨by rw [cell_at h2.box]; rfl, free_at h2.box 8⟩, rfl, ⟨_, _, h4⟩, h3.trans h5⟩
  have q0 := hA.cells.1
  have q8 : w.cell? ⟨p, 8, none⟩ = some (.int .i64 s.last) := by rw [cell_at hA.box]; rfl
  have hvl := vint32_le (zig id).toNat (by have := zig_nat id 32768 hid; omega)
  have hzn : (zig id) = (((zig id).toNat : Nat) : Int) := by unfold zig; split <;> omega
  have hvar : ∀ X, Calls Tryz.prog 101 #[.int .u64 (zig id)] X (NewR (vint (zig id).toNat) X) := fun X => by
    have := S_varint (zig id).toNat (by have := zig_nat id 32768 hid; omega) X
    rwa [← hzn] at this
  have HZ := Lib.hid (fun X => S_zig32 id ⟨by omega, by omega⟩ X)
  have HV := Lib.hid hvar
  have HD := Lib.hid (show s.field code id = { s with out := s.out ++ fieldC s.last code id, last := id } from rfl)
  rw [HD.out]
  obtain ⟨la, hla'⟩ : ∃ la, la = s.last := ⟨_, rfl⟩
  rw [← hla'] at q8 hla
  have HFC := Lib.hid (show fieldC s.last code id = if la < id ∧ id - la ≤ 15 then [b8 ((id - la) * 16 + code)] else b8 code :: vint (zig id).toNat by rw [hla']; rfl)
  have HQ := Lib.hid hq
  have HO := Lib.hid hown
  rw [← hla'] at hfin
  have HF := Lib.hid (show ∀ Z va' vn' vc' news, Grew w Z ov → OwnB Z 0 (.slice va' vn' vc') (s.out ++ news) → OwnAt w (.slice va' vn' vc') ov → (Z.cell? ⟨p, 7, none⟩ = some ov ∧ Z.frozen? ⟨p, 7, none⟩ = false) ∧ ((Z.setCell ⟨p, 7, none⟩ (.slice va' vn' vc')).cell? ⟨p, 8, none⟩ = some (.int .i64 la) ∧ (Z.setCell ⟨p, 7, none⟩ (.slice va' vn' vc')).frozen? ⟨p, 8, none⟩ = false) ∧
      SV p c w { s with out := s.out ++ news, last := id } (.returned (.tuple #[])) ((Z.setCell ⟨p, 7, none⟩ (.slice va' vn' vc')).setCell ⟨p, 8, none⟩ (.int .i64 id)) from hfin)
  have HL := Lib.hid (And.intro hout hvl)
  obtain ⟨l1, l2⟩ := hla
  obtain ⟨d1, d2⟩ := hid
  have hw1 : IntKind.i64.wrap (id - la) = id - la := by rw [IntKind.wrap_i64]; omega
  have hw2 : IntKind.i32.wrap id = id := by rw [wrap_i32']; omega
  have hw3 : zig id % 18446744073709551616 = zig id := by unfold zig; split <;> omega
  have hw4 : IntKind.u64.wrap (zig id) = zig id := by rw [IntKind.wrap_u64]; exact hw3
  clear hq hown hfin hA hout hvl hla' hvar hzn
  by_cases hs : 0 < id - la ∧ id - la ≤ 15
  · obtain ⟨s1, s2⟩ := hs
    have HB := Lib.hid (HFC.out.trans (if_pos ⟨by omega, s2⟩))
    have hor := or_u8 (id - la) code (by omega) (by omega) hc0 hc1
    have hm : (id - la) * 16 % 256 = (id - la) * 16 := by omega
    have hm2 : (id - la) % 256 = id - la := by omega
    have hbb : (id - la) * 16 + code = ((b8 ((id - la) * 16 + code)).toNat : Int) := (b8_nat _ (by omega) (by omega)).symm
    have HBB := Lib.hid hbb
    have HX := Lib.hid (And.intro ((Fr.refl noF w).alloc (.cells #[.int .u8 ((id - la) * 16 + code)] U8 (0, 0))) (own_byte (u := b8 ((id - la) * 16 + code)) hbb (alloc_new w (.cells #[.int .u8 ((id - la) * 16 + code)] U8 (0, 0)))))
    clear hbb
    go_enter Tryz.func107, Tryz.ntmps107
    go_wp2_with (at_builtin; refine append_bytes_at rfl _ _ rfl 0 ov (.slice (some ⟨w.heap.size, 0, none⟩) 1 1) s.out [b8 ((id - la) * 16 + code)] rfl (HO.out _ HX.out.1) rfl HX.out.2 (by have := HL.out; simp only [List.length_singleton]; omega) (Nat.zero_le _) ?_)
    intro v' Z ho hg hat
    obtain ⟨va, vn, vc, rfl, -⟩ := ho.rd.len
    obtain ⟨⟨z7, f7⟩, ⟨z8, f8⟩, hfin⟩ := HF.out Z va vn vc _ ((Grew.start ov HX.out.1).more (OwnAt.refl w ov) hg) ho ((OwnAt.refl w ov).nextN (Nat.le_succ _) hat)
    have HR := Lib.hid hfin
    clear ho hg hat hfin
    go_wp2
    refine bodyPost_ret (results_none rfl _ _ _) rfl ?_
    rw [HB.out]
    exact HR.out
  · have HB := Lib.hid (HFC.out.trans (if_neg (by omega)))
    have hbb : code = ((b8 code).toNat : Int) := (b8_nat _ hc0 (by omega)).symm
    have HX := Lib.hid (And.intro ((Fr.refl noF w).alloc (.cells #[.int .u8 code] U8 (0, 0))) (own_byte (u := b8 code) hbb (alloc_new w (.cells #[.int .u8 code] U8 (0, 0)))))
    clear hbb
    go_enter Tryz.func107, Tryz.ntmps107
    rcases (show ¬ 0 < id - la ∨ (0 < id - la ∧ ¬ id - la ≤ 15) by omega) with s1 | ⟨s1, s2⟩
    all_goals
      clear hs
      go_wp2_with (at_builtin; refine append_bytes_at rfl _ _ rfl 0 ov (.slice (some ⟨w.heap.size, 0, none⟩) 1 1) s.out [b8 code] rfl (HO.out _ HX.out.1) rfl HX.out.2 (by have := HL.out; simp only [List.length_singleton]; omega) (Nat.zero_le _) ?_)
      intro v' Z ho hg hat
      obtain ⟨va, vn, vc, rfl, -⟩ := ho.rd.len
      have HG := Lib.hid (And.intro ho (And.intro ((Grew.start ov HX.out.1).more (OwnAt.refl w ov) hg) ((OwnAt.refl w ov).nextN (Nat.le_succ _) hat)))
      clear ho hg hat
      go_wp2_with fail
      (with_reducible refine (HZ.out _).mono ?_)
      rintro e w' ⟨rfl, rfl⟩
      go_wp2_with fail
      (with_reducible refine (HV.out _).mono ?_)
      rintro e Y ⟨yv, rfl, hyo, hyf⟩
      obtain ⟨ya, yn, yc, rfl, -⟩ := hyo.rd.len
      have HY := Lib.hid (And.intro hyo.rd (And.intro (HG.out.2.1.fr hyf) (owns_fr HG.out.1 hyf)))
      clear hyo hyf
      go_wp2_with (at_builtin; refine append_bytes_at rfl _ _ rfl 0 (.slice va vn vc) (.slice ya yn yc) (s.out ++ [b8 code]) (vint (zig id).toNat) rfl HY.out.2.2 rfl HY.out.1 (by have := HL.out; simp only [List.length_append, List.length_singleton]; omega) (Nat.zero_le _) ?_)
      intro v' Z2 ho hg hat
      obtain ⟨ta, tn, tc, rfl, -⟩ := ho.rd.len
      obtain ⟨⟨z7, f7⟩, ⟨z8, f8⟩, hfin⟩ := HF.out Z2 ta tn tc _ (HY.out.2.1.more HG.out.2.2 hg) ho (HG.out.2.2.next HY.out.2.1.size hat)
      have HR := Lib.hid hfin
      clear ho hg hat hfin
      go_wp2
      refine bodyPost_ret (results_none rfl _ _ _) rfl ?_
      rw [HB.out]
      exact HR.out
end Go.Proofs.YtdifknecndlklaaGreatDoor
namespace Go.Proofs.YtdifknecndlklaaGreatDoor
open Go Go.RowKit
set_option maxHeartbeats 4000000
set_option maxRecDepth 100000
set_option linter.all false

/-- What stands around a step of the compact protocol: the writer, the step's box. -/
structure CBox (p : Nat) (c : ConfV) (w : World) (s : SSt) (ov uv : Value) (cs : Array Value) (W : World) : Prop where
  A : SwA p c w s ov uv
  fr : Fr noF noF w W
  box : W.heap[w.heap.size]? = some (.cells cs 239 (0, 0))
theorem CBox.start {p : Nat} {c : ConfV} {w : World} {s : SSt} {ov uv : Value} (h : SwA p c w s ov uv) (cs : Array Value) : CBox p c w s ov uv cs (w.alloc (.cells cs 239 (0, 0))) := ⟨h, (Fr.refl noF w).alloc _, alloc_new w _⟩
theorem CBox.ne {p : Nat} {c : ConfV} {w W : World} {s : SSt} {ov uv : Value} {cs : Array Value} (h : CBox p c w s ov uv cs W) : ov.ownBlock ≠ some p ∧ ov.ownBlock ≠ some w.heap.size := by
  refine ⟨fun e => ?_, fun e => ?_⟩
  · obtain ⟨cur, hc⟩ := owns_block h.A.out e
    exact tag_ne hc h.A.box (by decide) rfl
  · obtain ⟨cur, hc⟩ := owns_block h.A.out e
    exact Nat.lt_irrefl _ (lt_heap hc)
/-- Whatever is new behind it. -/
theorem CBox.at {p : Nat} {c : ConfV} {w W Z : World} {s : SSt} {ov uv : Value} {cs : Array Value} (h : CBox p c w s ov uv cs W) (hG : Grew W Z ov) : (∀ i, Z.cell? ⟨p, i, none⟩ = (SwC c s ov uv)[i]?) ∧ (∀ i, Z.cell? ⟨w.heap.size, i, none⟩ = cs[i]?) ∧ Grew w Z ov ∧ (∀ i, Z.frozen? ⟨p, i, none⟩ = false) := by
  obtain ⟨n1, n2⟩ := h.ne
  have hlt := lt_heap h.box
  have hp := lt_heap h.A.box
  have hsz := h.fr.size
  have e1 : Z.heap[p]? = some (.cells (SwC c s ov uv) TSW (0, 0)) := (hG.keep p (by omega) n1).trans (h.fr.block h.A.box fun x => x)
  have e2 := (hG.keep _ hlt n2).trans h.box
  exact ⟨fun i => cell_at e1 i, fun i => cell_at e2 i, ⟨hG.os.trans h.fr.os, hG.tape.trans h.fr.tape, hG.output.trans h.fr.output, Nat.le_trans hsz hG.size, fun k hk hn => (hG.keep k (by omega) hn).trans (h.fr.keep k hk fun x => x)⟩, fun i => free_at e1 i⟩
theorem CBox.own {p : Nat} {c : ConfV} {w W Z : World} {s : SSt} {ov uv : Value} {cs : Array Value} (h : CBox p c w s ov uv cs W) (hf : Fr noF noF W Z) : OwnB Z 0 ov s.out := (h.A.keep (h.fr.trans hf) fun _ _ x => x).out
theorem CBox.fin {p : Nat} {c : ConfV} {w W Z : World} {s : SSt} {ov uv : Value} {cs : Array Value} {news : List UInt8} {va : Option Addr} {vn vc : Nat} (h : CBox p c w s ov uv cs W) (hG : Grew W Z ov) (ho : OwnB Z 0 (.slice va vn vc) (s.out ++ news)) (hat : OwnAt w (.slice va vn vc) ov) :
    SR p c w 0 { s with out := s.out ++ news } (.returned (.int .i64 0)) (Z.setCell ⟨p, 7, none⟩ (.slice va vn vc)) := by
  obtain ⟨_, h2, h3⟩ := h.A.wroteG (h.at hG).2.2.1 ho hat
  exact ⟨rfl, ⟨_, _, h2⟩, h3⟩
theorem CBox.le {p : Nat} {c : ConfV} {w W : World} {s : SSt} {ov uv : Value} {cs : Array Value} (h : CBox p c w s ov uv cs W) : w.heap.size ≤ W.heap.size := h.fr.size

theorem w32s (n : Int) : IntKind.i32.wrap (IntKind.i32.wrap n) = IntKind.i32.wrap n := by rw [wrap_i32', wrap_i32']; omega

/-- A scalar of the writer is set. -/
theorem SwA.setNum {p : Nat} {c : ConfV} {w : World} {s : SSt} {ov uv : Value} (h : SwA p c w s ov uv) (i : Nat) (x : Value) (s' : SSt) (hb : (w.setCell ⟨p, i, none⟩ x).heap[p]? = some (.cells (SwC c s' ov uv) TSW (0, 0))) (ho : s'.out = s.out) (hu : s'.outer = s.outer) :
    SwA p c (w.setCell ⟨p, i, none⟩ x) s' ov uv ∧ Fr (SwF p w) (SwF p (w.setCell ⟨p, i, none⟩ x)) w (w.setCell ⟨p, i, none⟩ x) := by
  have hne : ∀ k, (∃ cur, w.heap[k]? = some (.cells cur U8 (0, 0)) ∨ w.heap[k]? = some (.cells cur TIn (0, 0))) → k ≠ p := fun k ⟨cur, hk⟩ e => by
    subst e
    rcases hk with hk | hk <;> exact tag_ne hk h.box (by decide) rfl
  have hA : SwA p c (w.setCell ⟨p, i, none⟩ x) s' ov uv := by
    refine ⟨hb, ?_, ?_⟩
    · rw [ho]
      refine owns_keep h.out fun k hk => ?_
      obtain ⟨cur, hc⟩ := owns_block h.out hk
      exact Below.heap_setCell _ _ _ _ (hne k ⟨cur, Or.inl hc⟩)
    · rw [hu]
      refine ownu_keep h.outer fun k hk => ?_
      obtain ⟨cur, hc⟩ := ownu_block h.outer hk
      exact Below.heap_setCell _ _ _ _ (hne k ⟨cur, Or.inr hc⟩)
  refine ⟨hA, rfl, rfl, rfl, by rw [setCell_size]; exact Nat.le_refl _, fun k hk hn => Below.heap_setCell _ _ _ _ fun e => hn (Or.inl e), fun k hk hx => h.foot.2 (hA.foot.1 hx)⟩
theorem SwA.setPb {p : Nat} {c : ConfV} {w : World} {s : SSt} {ov uv : Value} (h : SwA p c w s ov uv) (b : Bool) : SwA p c (w.setCell ⟨p, 10, none⟩ (.bool b)) { s with pb := b } ov uv ∧ Fr (SwF p w) (SwF p (w.setCell ⟨p, 10, none⟩ (.bool b))) w (w.setCell ⟨p, 10, none⟩ (.bool b)) := h.setNum 10 _ _ (setCell_at (i := 10) h.box _) rfl rfl
theorem SwA.setId {p : Nat} {c : ConfV} {w : World} {s : SSt} {ov uv : Value} (h : SwA p c w s ov uv) (b : Int) : SwA p c (w.setCell ⟨p, 11, none⟩ (.int .i64 b)) { s with id := b } ov uv ∧ Fr (SwF p w) (SwF p (w.setCell ⟨p, 11, none⟩ (.int .i64 b))) w (w.setCell ⟨p, 11, none⟩ (.int .i64 b)) := h.setNum 11 _ _ (setCell_at (i := 11) h.box _) rfl rfl
theorem SwA.setLost {p : Nat} {c : ConfV} {w : World} {s : SSt} {ov uv : Value} (h : SwA p c w s ov uv) (b : Bool) : SwA p c (w.setCell ⟨p, 12, none⟩ (.bool b)) { s with lost := b } ov uv ∧ Fr (SwF p w) (SwF p (w.setCell ⟨p, 12, none⟩ (.bool b))) w (w.setCell ⟨p, 12, none⟩ (.bool b)) := h.setNum 12 _ _ (setCell_at (i := 12) h.box _) rfl rfl

end Go.Proofs.YtdifknecndlklaaGreatDoor
namespace Go.Proofs.YtdifknecndlklaaGreatDoor
open Go Go.RowKit
set_option maxHeartbeats 4000000
set_option maxRecDepth 100000
set_option linter.all false

theorem S_c14 (p : Nat) (c : ConfV) (w : World) (s : SSt) (t k sz id n : Int) (v : Value) (l : List UInt8) (hv : Rd w v l) (hb : ∀ k, vblk v k → ¬ SwF p w k) (hl : l.length ≤ 1000000) (h : SwI p c w s) (hok : s.okS) (hout : s.out.length ≤ 10000000000) :
    Calls Tryz.prog 105 #[.pointer (some ⟨p, 0, none⟩), .agg (stepA 14 t k sz id n v)] w (SR p c w 0 ({ s with out := s.out ++ ([b8 n]) })) := by
  obtain ⟨ov, uv, hA⟩ := h
  obtain ⟨va, vn, vc, rfl, hvn⟩ := hv.len
  have hC := CBox.start hA (stepA 14 t k sz id n (.slice va vn vc))
  obtain ⟨W, hW⟩ : ∃ W, W = w.alloc (.cells (stepA 14 t k sz id n (.slice va vn vc)) 239 (0, 0)) := ⟨_, rfl⟩
  have HW := Lib.hid hW
  rw [← hW] at hC
  have hbb : IntKind.u8.wrap n = ((b8 n).toNat : Int) := by rw [b8_toNat, IntKind.wrap_u8]
  obtain ⟨aP, aB, -, aF⟩ := hC.at (Grew.start ov (Fr.refl noF W))
  have ap7 := aP 7
  have ab0 := aB 0
  have ab5 := aB 5
  simp only [List.getElem?_toArray, List.getElem?_cons_zero, List.getElem?_cons_succ, List.size_toArray] at ap7 ab0 ab5
  clear aP aB
  obtain ⟨rP, rB, -, rF⟩ := hC.at (Grew.start ov ((Fr.refl noF W).alloc (.cells #[.int .u8 (IntKind.u8.wrap n)] U8 (0, 0))))
  have rp7 := rP 7
  have rb5 := rB 5
  simp only [List.getElem?_toArray, List.getElem?_cons_zero, List.getElem?_cons_succ, List.size_toArray] at rp7 rb5
  clear rP rB
  have HR := Lib.hid (show ∀ X : World, Fr noF noF (W.alloc (.cells #[.int .u8 (IntKind.u8.wrap n)] U8 (0, 0))) X → Rd X (.slice (some ⟨W.heap.size, 0, none⟩) 1 1) [b8 n] from fun X hX => (own_byte (u := b8 n) hbb (alloc_new W (.cells #[.int .u8 (IntKind.u8.wrap n)] U8 (0, 0)))).keep (F := noF) hX fun _ _ x => x)
  have HC := Lib.hid hC
  have HL := Lib.hid hout
  clear hC hA hW hv hb hl hout hok hvn aF rF hbb
  go_enter Tryz.func105, Tryz.ntmps105
  go_upto_region 1 with fail
  rw [← HW.out]
  go_wp2_with fail
  go_region_law (first | ((refine step_bytes (by rfl) _ _ (by rfl) 0 ov (.slice (some ⟨W.heap.size, 0, none⟩) 1 1) s.out ([b8 n]) (by rfl) (HC.out.own ?_) (by rfl) ?_ (by have := HL.out; simp only [List.length_singleton]; omega) (Nat.zero_le _) ?_); (focus ((repeat (first | with_reducible exact Fr.refl _ _ | with_reducible assumption | with_reducible refine Fr.alloc ?_ _ | with_reducible refine Fr.drew ?_ | with_reducible refine Fr.drewN ?_ _ | with_reducible refine Fr.trans (F' := noF) ?_ (by with_reducible assumption) | fail)); done)); ((refine HR.out _ ?_); (focus ((repeat (first | with_reducible exact Fr.refl _ _ | with_reducible assumption | with_reducible refine Fr.alloc ?_ _ | with_reducible refine Fr.drew ?_ | with_reducible refine Fr.drewN ?_ _ | with_reducible refine Fr.trans (F' := noF) ?_ (by with_reducible assumption) | fail)); done))); intro za zn zc Z hz1 hzg hzh; have hzG : Grew W Z ov := Grew.more (Grew.start ov (by (focus ((repeat (first | with_reducible exact Fr.refl _ _ | with_reducible assumption | with_reducible refine Fr.alloc ?_ _ | with_reducible refine Fr.drew ?_ | with_reducible refine Fr.drewN ?_ _ | with_reducible refine Fr.trans (F' := noF) ?_ (by with_reducible assumption) | fail)); done)))) (OwnAt.refl W ov) hzg; have hzA : OwnAt w (.slice za zn zc) ov := (OwnAt.refl w ov).nextN (Nat.le_trans HC.out.le (Fr.size (F := noF) (F' := noF) (by (focus ((repeat (first | with_reducible exact Fr.refl _ _ | with_reducible assumption | with_reducible refine Fr.alloc ?_ _ | with_reducible refine Fr.drew ?_ | with_reducible refine Fr.drewN ?_ _ | with_reducible refine Fr.trans (F' := noF) ?_ (by with_reducible assumption) | fail)); done))))) hzh; have zp7 := (HC.out.at hzG).1 7; have zf7 := (HC.out.at hzG).2.2.2 7; simp only [List.getElem?_toArray, List.getElem?_cons_zero, List.getElem?_cons_succ, List.size_toArray] at zp7; have HX := Lib.hid (HC.out.fin hzG hz1 hzA); clear hz1 hzg hzh hzG hzA) | fail)
  all_goals go_wp2
  all_goals go_ret
  all_goals exact HX.out

theorem S_c15 (p : Nat) (c : ConfV) (w : World) (s : SSt) (t k sz id n : Int) (v : Value) (l : List UInt8) (hv : Rd w v l) (hb : ∀ k, vblk v k → ¬ SwF p w k) (hl : l.length ≤ 1000000) (h : SwI p c w s) (hok : s.okS) (hout : s.out.length ≤ 10000000000) :
    Calls Tryz.prog 105 #[.pointer (some ⟨p, 0, none⟩), .agg (stepA 15 t k sz id n v)] w (SR p c w 0 ({ s with out := s.out ++ (vint (zig (IntKind.i16.wrap n)).toNat) })) := by
  obtain ⟨ov, uv, hA⟩ := h
  obtain ⟨va, vn, vc, rfl, hvn⟩ := hv.len
  have hC := CBox.start hA (stepA 15 t k sz id n (.slice va vn vc))
  obtain ⟨W, hW⟩ : ∃ W, W = w.alloc (.cells (stepA 15 t k sz id n (.slice va vn vc)) 239 (0, 0)) := ⟨_, rfl⟩
  have HW := Lib.hid hW
  rw [← hW] at hC
  have hz := i16_rng n
  have HZ := Lib.hid (fun X => S_zig32 (IntKind.i16.wrap n) ⟨by omega, by omega⟩ X)
  have hzn : (zig (IntKind.i16.wrap n)) = (((zig (IntKind.i16.wrap n)).toNat : Nat) : Int) := by unfold zig; split <;> omega
  have hz2 := zig_nat (IntKind.i16.wrap n) 32768 hz
  have HV := Lib.hid (show ∀ X, Calls Tryz.prog 101 #[.int .u64 (zig (IntKind.i16.wrap n))] X (NewR (vint (zig (IntKind.i16.wrap n)).toNat) X) from fun X => by have := S_varint (zig (IntKind.i16.wrap n)).toNat (by omega) X; rwa [← hzn] at this)
  have hw4 : IntKind.u64.wrap (zig (IntKind.i16.wrap n)) = zig (IntKind.i16.wrap n) := by rw [IntKind.wrap_u64]; omega
  have hw5 : zig (IntKind.i16.wrap n) % 18446744073709551616 = zig (IntKind.i16.wrap n) := by omega
  have hw6 : IntKind.i32.wrap (IntKind.i16.wrap n) = IntKind.i16.wrap n := by rw [wrap_i32']; omega
  have hvl := vint32_le (zig (IntKind.i16.wrap n)).toNat (by omega)
  obtain ⟨aP, aB, -, aF⟩ := hC.at (Grew.start ov (Fr.refl noF W))
  have ap7 := aP 7
  have ab0 := aB 0
  have ab5 := aB 5
  simp only [List.getElem?_toArray, List.getElem?_cons_zero, List.getElem?_cons_succ, List.size_toArray] at ap7 ab0 ab5
  clear aP aB
  have HC := Lib.hid hC
  have HL := Lib.hid (And.intro hout hvl)
  clear hC hA hW hv hb hl hout hok hvn hvl aF hzn hz hz2
  go_enter Tryz.func105, Tryz.ntmps105
  go_upto_region 1 with fail
  rw [← HW.out]
  go_wp2_with fail
  go_region_law (first | (go_simp; go_at_call 108; (with_reducible refine (HZ.out _).mono ?_); rintro e w' ⟨rfl, rfl⟩) | (go_simp; go_at_call 101; (with_reducible refine (HV.out _).mono ?_); rintro e Y ⟨yv, rfl, hyo, hyf⟩; obtain ⟨ya, yn, yc, rfl, -⟩ := hyo.rd.len; have hyr := hyo.rd; have hyF : Fr noF noF W Y := (by (focus ((repeat (first | with_reducible exact Fr.refl _ _ | with_reducible assumption | with_reducible refine Fr.alloc ?_ _ | with_reducible refine Fr.drew ?_ | with_reducible refine Fr.drewN ?_ _ | with_reducible refine Fr.trans (F' := noF) ?_ (by with_reducible assumption) | fail)); done))); have yp7 : Y.cell? ⟨p, 7, none⟩ = some ov := (HC.out.at (Grew.start ov hyF)).1 7; clear hyo) | ((refine step_bytes (by rfl) _ _ (by rfl) 0 ov (.slice ya yn yc) s.out (vint (zig (IntKind.i16.wrap n)).toNat) (by rfl) (HC.out.own ?_) (by rfl) ?_ (by have := HL.out; skip; omega) (Nat.zero_le _) ?_); (focus ((repeat (first | with_reducible exact Fr.refl _ _ | with_reducible assumption | with_reducible refine Fr.alloc ?_ _ | with_reducible refine Fr.drew ?_ | with_reducible refine Fr.drewN ?_ _ | with_reducible refine Fr.trans (F' := noF) ?_ (by with_reducible assumption) | fail)); done)); (focus ((repeat (first | with_reducible assumption | with_reducible refine Rd.keep (F := noF) (F' := noF) ?_ (Fr.alloc (Fr.refl noF _) _) (fun _ _ x => x) | with_reducible refine Rd.keep (F := noF) (F' := noF) ?_ (Fr.drew (Fr.refl noF _)) (fun _ _ x => x) | with_reducible refine Rd.keep (F := noF) (F' := noF) ?_ (by with_reducible assumption) (fun _ _ x => x) | fail)); done)); intro za zn zc Z hz1 hzg hzh; have hzG : Grew W Z ov := Grew.more (Grew.start ov (by (focus ((repeat (first | with_reducible exact Fr.refl _ _ | with_reducible assumption | with_reducible refine Fr.alloc ?_ _ | with_reducible refine Fr.drew ?_ | with_reducible refine Fr.drewN ?_ _ | with_reducible refine Fr.trans (F' := noF) ?_ (by with_reducible assumption) | fail)); done)))) (OwnAt.refl W ov) hzg; have hzA : OwnAt w (.slice za zn zc) ov := (OwnAt.refl w ov).nextN (Nat.le_trans HC.out.le (Fr.size (F := noF) (F' := noF) (by (focus ((repeat (first | with_reducible exact Fr.refl _ _ | with_reducible assumption | with_reducible refine Fr.alloc ?_ _ | with_reducible refine Fr.drew ?_ | with_reducible refine Fr.drewN ?_ _ | with_reducible refine Fr.trans (F' := noF) ?_ (by with_reducible assumption) | fail)); done))))) hzh; have zp7 := (HC.out.at hzG).1 7; have zf7 := (HC.out.at hzG).2.2.2 7; simp only [List.getElem?_toArray, List.getElem?_cons_zero, List.getElem?_cons_succ, List.size_toArray] at zp7; have HX := Lib.hid (HC.out.fin hzG hz1 hzA); clear hz1 hzg hzh hzG hzA) | fail)
  all_goals go_wp2
  all_goals go_ret
  all_goals exact HX.out

theorem S_c13pt (p : Nat) (c : ConfV) (w : World) (s : SSt) (t k sz id n : Int) (v : Value) (l : List UInt8) (hv : Rd w v l) (hb : ∀ k, vblk v k → ¬ SwF p w k) (hl : l.length ≤ 1000000) (h : SwI p c w s) (hok : s.okS) (hout : s.out.length ≤ 10000000000) (hpb : s.pb = true) (hn : n ≠ 0) :
    Calls Tryz.prog 105 #[.pointer (some ⟨p, 0, none⟩), .agg (stepA 13 t k sz id n v)] w (SR p c w 0 (SSt.field { s with pb := false } 1 s.id)) := by
  obtain ⟨ov, uv, hA⟩ := h
  obtain ⟨va, vn, vc, rfl, hvn⟩ := hv.len
  have hC := CBox.start hA (stepA 13 t k sz id n (.slice va vn vc))
  obtain ⟨W, hW⟩ : ∃ W, W = w.alloc (.cells (stepA 13 t k sz id n (.slice va vn vc)) 239 (0, 0)) := ⟨_, rfl⟩
  have HW := Lib.hid hW
  rw [← hW] at hC
  have hn1 : (n != 0) = true := by simp [hn]
  obtain ⟨aP, aB, -, aF⟩ := hC.at (Grew.start ov (Fr.refl noF W))
  have ap10 := aP 10
  have ap11 := aP 11
  have ab0 := aB 0
  have ab5 := aB 5
  simp only [List.getElem?_toArray, List.getElem?_cons_zero, List.getElem?_cons_succ, List.size_toArray] at ap10 ap11 ab0 ab5
  clear aP aB
  rw [hpb] at ap10
  have af10 := aF 10
  have hAW := hA.keep hC.fr fun _ _ x => x
  obtain ⟨h1, h2⟩ := hAW.setPb false
  have b11 : (W.setCell ⟨p, 10, none⟩ (.bool false)).cell? ⟨p, 11, none⟩ = some (.int .i64 s.id) := by rw [cell_at h1.box]; rfl
  have hF := S_field p c (W.setCell ⟨p, 10, none⟩ (.bool false)) { s with pb := false } 1 s.id (by decide) (by decide) hok.2.1 hok.1 ⟨_, _, h1⟩ hout
  have HF := Lib.hid hF
  have HH := Lib.hid (And.intro (show SwI p c w s from ⟨_, _, hA⟩) (And.intro hC.fr h2))
  clear hC hA hW hv hb hl hout hok hvn aF hAW h1 h2 hF hn hpb
  go_enter Tryz.func105, Tryz.ntmps105
  go_upto_region 1 with fail
  rw [← HW.out]
  go_wp2_with fail
  (with_reducible refine HF.out.mono ?_)
  rintro e Y ⟨rfl, hy1, hy2⟩
  have HX := Lib.hid (SR.under (k := 0) HH.out.1 HH.out.2.1 ⟨rfl, hy1, HH.out.2.2.trans hy2⟩)
  clear hy1 hy2 b11 ap10 ap11 ab0 ab5 af10
  go_wp2
  go_ret
  exact HX.out

theorem S_c13qt (p : Nat) (c : ConfV) (w : World) (s : SSt) (t k sz id n : Int) (v : Value) (l : List UInt8) (hv : Rd w v l) (hb : ∀ k, vblk v k → ¬ SwF p w k) (hl : l.length ≤ 1000000) (h : SwI p c w s) (hok : s.okS) (hout : s.out.length ≤ 10000000000) (hpb : s.pb = false) (hn : n ≠ 0) :
    Calls Tryz.prog 105 #[.pointer (some ⟨p, 0, none⟩), .agg (stepA 13 t k sz id n v)] w (SR p c w 0 ({ s with out := s.out ++ ([1]) })) := by
  obtain ⟨ov, uv, hA⟩ := h
  obtain ⟨va, vn, vc, rfl, hvn⟩ := hv.len
  have hC := CBox.start hA (stepA 13 t k sz id n (.slice va vn vc))
  obtain ⟨W, hW⟩ : ∃ W, W = w.alloc (.cells (stepA 13 t k sz id n (.slice va vn vc)) 239 (0, 0)) := ⟨_, rfl⟩
  have HW := Lib.hid hW
  rw [← hW] at hC
  have hn1 : (n != 0) = true := by simp [hn]
  obtain ⟨aP, aB, -, aF⟩ := hC.at (Grew.start ov (Fr.refl noF W))
  have ap7 := aP 7
  have ap10 := aP 10
  have ab0 := aB 0
  have ab5 := aB 5
  simp only [List.getElem?_toArray, List.getElem?_cons_zero, List.getElem?_cons_succ, List.size_toArray] at ap7 ap10 ab0 ab5
  clear aP aB
  rw [hpb] at ap10
  have HB := Lib.hid (And.intro ((Fr.refl noF W).alloc (.cells #[.int .u8 1] U8 (0, 0))) (own_byte (u := 1) (by decide) (alloc_new W (.cells #[.int .u8 1] U8 (0, 0)))))
  obtain ⟨rP, rB, -, rF⟩ := hC.at (Grew.start ov ((Fr.refl noF W).alloc (.cells #[.int .u8 1] U8 (0, 0))))
  have rp7 := rP 7
  simp only [List.getElem?_toArray, List.getElem?_cons_zero, List.getElem?_cons_succ, List.size_toArray] at rp7
  clear rP rB
  have HC := Lib.hid hC
  have HL := Lib.hid hout
  clear hC hA hW hv hb hl hout hok hvn aF rF hn hpb
  go_enter Tryz.func105, Tryz.ntmps105
  go_upto_region 1 with fail
  rw [← HW.out]
  go_wp2_with (at_builtin; refine append_bytes_at rfl _ _ rfl 0 ov (.slice (some ⟨W.heap.size, 0, none⟩) 1 1) s.out [1] rfl (HC.out.own HB.out.1) rfl HB.out.2 (by have := HL.out; simp only [List.length_singleton]; omega) (Nat.zero_le _) ?_)
  intro v' Z ho hg hat
  obtain ⟨za, zn, zc, rfl, -⟩ := ho.rd.len
  have hzG : Grew W Z ov := Grew.more (Grew.start ov HB.out.1) (OwnAt.refl W ov) hg
  have hzA : OwnAt w (.slice za zn zc) ov := (OwnAt.refl w ov).nextN (Nat.le_trans HC.out.le (Nat.le_succ _)) hat
  have zp7 := (HC.out.at hzG).1 7
  have zf7 := (HC.out.at hzG).2.2.2 7
  simp only [List.getElem?_toArray, List.getElem?_cons_zero, List.getElem?_cons_succ, List.size_toArray] at zp7
  have HX := Lib.hid (HC.out.fin hzG ho hzA)
  clear ho hg hat hzG hzA ap7 ap10 ab0 ab5 rp7
  go_wp2
  go_ret
  exact HX.out

theorem S_c13pf (p : Nat) (c : ConfV) (w : World) (s : SSt) (t k sz id n : Int) (v : Value) (l : List UInt8) (hv : Rd w v l) (hb : ∀ k, vblk v k → ¬ SwF p w k) (hl : l.length ≤ 1000000) (h : SwI p c w s) (hok : s.okS) (hout : s.out.length ≤ 10000000000) (hpb : s.pb = true) (hn : n = 0) :
    Calls Tryz.prog 105 #[.pointer (some ⟨p, 0, none⟩), .agg (stepA 13 t k sz id n v)] w (SR p c w 0 (SSt.field { s with pb := false } 2 s.id)) := by
  obtain ⟨ov, uv, hA⟩ := h
  obtain ⟨va, vn, vc, rfl, hvn⟩ := hv.len
  have hC := CBox.start hA (stepA 13 t k sz id n (.slice va vn vc))
  obtain ⟨W, hW⟩ : ∃ W, W = w.alloc (.cells (stepA 13 t k sz id n (.slice va vn vc)) 239 (0, 0)) := ⟨_, rfl⟩
  have HW := Lib.hid hW
  rw [← hW] at hC
  have hn1 : (n != 0) = false := by simp [hn]
  obtain ⟨aP, aB, -, aF⟩ := hC.at (Grew.start ov (Fr.refl noF W))
  have ap10 := aP 10
  have ap11 := aP 11
  have ab0 := aB 0
  have ab5 := aB 5
  simp only [List.getElem?_toArray, List.getElem?_cons_zero, List.getElem?_cons_succ, List.size_toArray] at ap10 ap11 ab0 ab5
  clear aP aB
  rw [hpb] at ap10
  have af10 := aF 10
  have hAW := hA.keep hC.fr fun _ _ x => x
  obtain ⟨h1, h2⟩ := hAW.setPb false
  have b11 : (W.setCell ⟨p, 10, none⟩ (.bool false)).cell? ⟨p, 11, none⟩ = some (.int .i64 s.id) := by rw [cell_at h1.box]; rfl
  have hF := S_field p c (W.setCell ⟨p, 10, none⟩ (.bool false)) { s with pb := false } 2 s.id (by decide) (by decide) hok.2.1 hok.1 ⟨_, _, h1⟩ hout
  have HF := Lib.hid hF
  have HH := Lib.hid (And.intro (show SwI p c w s from ⟨_, _, hA⟩) (And.intro hC.fr h2))
  clear hC hA hW hv hb hl hout hok hvn aF hAW h1 h2 hF hn hpb
  go_enter Tryz.func105, Tryz.ntmps105
  go_upto_region 1 with fail
  rw [← HW.out]
  go_wp2_with fail
  (with_reducible refine HF.out.mono ?_)
  rintro e Y ⟨rfl, hy1, hy2⟩
  have HX := Lib.hid (SR.under (k := 0) HH.out.1 HH.out.2.1 ⟨rfl, hy1, HH.out.2.2.trans hy2⟩)
  clear hy1 hy2 b11 ap10 ap11 ab0 ab5 af10
  go_wp2
  go_ret
  exact HX.out

theorem S_c13qf (p : Nat) (c : ConfV) (w : World) (s : SSt) (t k sz id n : Int) (v : Value) (l : List UInt8) (hv : Rd w v l) (hb : ∀ k, vblk v k → ¬ SwF p w k) (hl : l.length ≤ 1000000) (h : SwI p c w s) (hok : s.okS) (hout : s.out.length ≤ 10000000000) (hpb : s.pb = false) (hn : n = 0) :
    Calls Tryz.prog 105 #[.pointer (some ⟨p, 0, none⟩), .agg (stepA 13 t k sz id n v)] w (SR p c w 0 ({ s with out := s.out ++ ([2]) })) := by
  obtain ⟨ov, uv, hA⟩ := h
  obtain ⟨va, vn, vc, rfl, hvn⟩ := hv.len
  have hC := CBox.start hA (stepA 13 t k sz id n (.slice va vn vc))
  obtain ⟨W, hW⟩ : ∃ W, W = w.alloc (.cells (stepA 13 t k sz id n (.slice va vn vc)) 239 (0, 0)) := ⟨_, rfl⟩
  have HW := Lib.hid hW
  rw [← hW] at hC
  have hn1 : (n != 0) = false := by simp [hn]
  obtain ⟨aP, aB, -, aF⟩ := hC.at (Grew.start ov (Fr.refl noF W))
  have ap7 := aP 7
  have ap10 := aP 10
  have ab0 := aB 0
  have ab5 := aB 5
  simp only [List.getElem?_toArray, List.getElem?_cons_zero, List.getElem?_cons_succ, List.size_toArray] at ap7 ap10 ab0 ab5
  clear aP aB
  rw [hpb] at ap10
  have HB := Lib.hid (And.intro ((Fr.refl noF W).alloc (.cells #[.int .u8 2] U8 (0, 0))) (own_byte (u := 2) (by decide) (alloc_new W (.cells #[.int .u8 2] U8 (0, 0)))))
  obtain ⟨rP, rB, -, rF⟩ := hC.at (Grew.start ov ((Fr.refl noF W).alloc (.cells #[.int .u8 2] U8 (0, 0))))
  have rp7 := rP 7
  simp only [List.getElem?_toArray, List.getElem?_cons_zero, List.getElem?_cons_succ, List.size_toArray] at rp7
  clear rP rB
  have HC := Lib.hid hC
  have HL := Lib.hid hout
  clear hC hA hW hv hb hl hout hok hvn aF rF hn hpb
  go_enter Tryz.func105, Tryz.ntmps105
  go_upto_region 1 with fail
  rw [← HW.out]
  go_wp2_with (at_builtin; refine append_bytes_at rfl _ _ rfl 0 ov (.slice (some ⟨W.heap.size, 0, none⟩) 1 1) s.out [2] rfl (HC.out.own HB.out.1) rfl HB.out.2 (by have := HL.out; simp only [List.length_singleton]; omega) (Nat.zero_le _) ?_)
  intro v' Z ho hg hat
  obtain ⟨za, zn, zc, rfl, -⟩ := ho.rd.len
  have hzG : Grew W Z ov := Grew.more (Grew.start ov HB.out.1) (OwnAt.refl W ov) hg
  have hzA : OwnAt w (.slice za zn zc) ov := (OwnAt.refl w ov).nextN (Nat.le_trans HC.out.le (Nat.le_succ _)) hat
  have zp7 := (HC.out.at hzG).1 7
  have zf7 := (HC.out.at hzG).2.2.2 7
  simp only [List.getElem?_toArray, List.getElem?_cons_zero, List.getElem?_cons_succ, List.size_toArray] at zp7
  have HX := Lib.hid (HC.out.fin hzG ho hzA)
  clear ho hg hat hzG hzA ap7 ap10 ab0 ab5 rp7
  go_wp2
  go_ret
  exact HX.out

end Go.Proofs.YtdifknecndlklaaGreatDoor
namespace Go.Proofs.YtdifknecndlklaaGreatDoor
open Go Go.RowKit
set_option maxHeartbeats 4000000
set_option maxRecDepth 100000
set_option linter.all false

theorem S_c16 (p : Nat) (c : ConfV) (w : World) (s : SSt) (t k sz id n : Int) (v : Value) (l : List UInt8) (hv : Rd w v l) (hb : ∀ k, vblk v k → ¬ SwF p w k) (hl : l.length ≤ 1000000) (h : SwI p c w s) (hok : s.okS) (hout : s.out.length ≤ 10000000000) :
    Calls Tryz.prog 105 #[.pointer (some ⟨p, 0, none⟩), .agg (stepA 16 t k sz id n v)] w (SR p c w 0 ({ s with out := s.out ++ (vint (zig (IntKind.i32.wrap n)).toNat) })) := by
  obtain ⟨ov, uv, hA⟩ := h
  obtain ⟨va, vn, vc, rfl, hvn⟩ := hv.len
  have hC := CBox.start hA (stepA 16 t k sz id n (.slice va vn vc))
  obtain ⟨W, hW⟩ : ∃ W, W = w.alloc (.cells (stepA 16 t k sz id n (.slice va vn vc)) 239 (0, 0)) := ⟨_, rfl⟩
  have HW := Lib.hid hW
  rw [← hW] at hC
  have hz : -2147483648 ≤ IntKind.i32.wrap n ∧ IntKind.i32.wrap n < 2147483648 := by rw [wrap_i32']; omega
  have HZ := Lib.hid (fun X => S_zig32 (IntKind.i32.wrap n) hz X)
  have hzn : (zig (IntKind.i32.wrap n)) = (((zig (IntKind.i32.wrap n)).toNat : Nat) : Int) := by unfold zig; split <;> omega
  have hz2 := zig_nat (IntKind.i32.wrap n) 2147483648 hz
  have HV := Lib.hid (show ∀ X, Calls Tryz.prog 101 #[.int .u64 (zig (IntKind.i32.wrap n))] X (NewR (vint (zig (IntKind.i32.wrap n)).toNat) X) from fun X => by have := S_varint (zig (IntKind.i32.wrap n)).toNat (by omega) X; rwa [← hzn] at this)
  have hw4 : IntKind.u64.wrap (zig (IntKind.i32.wrap n)) = zig (IntKind.i32.wrap n) := by rw [IntKind.wrap_u64]; omega
  have hw5 : zig (IntKind.i32.wrap n) % 18446744073709551616 = zig (IntKind.i32.wrap n) := by omega
  have hw7 := w32s n
  have hvl := vint32_le (zig (IntKind.i32.wrap n)).toNat (by omega)
  obtain ⟨aP, aB, -, aF⟩ := hC.at (Grew.start ov (Fr.refl noF W))
  have ap7 := aP 7
  have ab0 := aB 0
  have ab5 := aB 5
  simp only [List.getElem?_toArray, List.getElem?_cons_zero, List.getElem?_cons_succ, List.size_toArray] at ap7 ab0 ab5
  clear aP aB
  have HC := Lib.hid hC
  have HL := Lib.hid (And.intro hout hvl)
  clear hC hA hW hv hb hl hout hok hvn hvl aF hzn hz hz2
  go_enter Tryz.func105, Tryz.ntmps105
  go_upto_region 1 with fail
  rw [← HW.out]
  go_wp2_with fail
  go_region_law (first | (go_simp; go_at_call 108; (with_reducible refine (HZ.out _).mono ?_); rintro e w' ⟨rfl, rfl⟩) | (go_simp; go_at_call 101; (with_reducible refine (HV.out _).mono ?_); rintro e Y ⟨yv, rfl, hyo, hyf⟩; obtain ⟨ya, yn, yc, rfl, -⟩ := hyo.rd.len; have hyr := hyo.rd; have hyF : Fr noF noF W Y := (by (focus ((repeat (first | with_reducible exact Fr.refl _ _ | with_reducible assumption | with_reducible refine Fr.alloc ?_ _ | with_reducible refine Fr.drew ?_ | with_reducible refine Fr.drewN ?_ _ | with_reducible refine Fr.trans (F' := noF) ?_ (by with_reducible assumption) | fail)); done))); have yp7 : Y.cell? ⟨p, 7, none⟩ = some ov := (HC.out.at (Grew.start ov hyF)).1 7; clear hyo) | ((refine step_bytes (by rfl) _ _ (by rfl) 0 ov (.slice ya yn yc) s.out (vint (zig (IntKind.i32.wrap n)).toNat) (by rfl) (HC.out.own ?_) (by rfl) ?_ (by have := HL.out; skip; omega) (Nat.zero_le _) ?_); (focus ((repeat (first | with_reducible exact Fr.refl _ _ | with_reducible assumption | with_reducible refine Fr.alloc ?_ _ | with_reducible refine Fr.drew ?_ | with_reducible refine Fr.drewN ?_ _ | with_reducible refine Fr.trans (F' := noF) ?_ (by with_reducible assumption) | fail)); done)); (focus ((repeat (first | with_reducible assumption | with_reducible refine Rd.keep (F := noF) (F' := noF) ?_ (Fr.alloc (Fr.refl noF _) _) (fun _ _ x => x) | with_reducible refine Rd.keep (F := noF) (F' := noF) ?_ (Fr.drew (Fr.refl noF _)) (fun _ _ x => x) | with_reducible refine Rd.keep (F := noF) (F' := noF) ?_ (by with_reducible assumption) (fun _ _ x => x) | fail)); done)); intro za zn zc Z hz1 hzg hzh; have hzG : Grew W Z ov := Grew.more (Grew.start ov (by (focus ((repeat (first | with_reducible exact Fr.refl _ _ | with_reducible assumption | with_reducible refine Fr.alloc ?_ _ | with_reducible refine Fr.drew ?_ | with_reducible refine Fr.drewN ?_ _ | with_reducible refine Fr.trans (F' := noF) ?_ (by with_reducible assumption) | fail)); done)))) (OwnAt.refl W ov) hzg; have hzA : OwnAt w (.slice za zn zc) ov := (OwnAt.refl w ov).nextN (Nat.le_trans HC.out.le (Fr.size (F := noF) (F' := noF) (by (focus ((repeat (first | with_reducible exact Fr.refl _ _ | with_reducible assumption | with_reducible refine Fr.alloc ?_ _ | with_reducible refine Fr.drew ?_ | with_reducible refine Fr.drewN ?_ _ | with_reducible refine Fr.trans (F' := noF) ?_ (by with_reducible assumption) | fail)); done))))) hzh; have zp7 := (HC.out.at hzG).1 7; have zf7 := (HC.out.at hzG).2.2.2 7; simp only [List.getElem?_toArray, List.getElem?_cons_zero, List.getElem?_cons_succ, List.size_toArray] at zp7; have HX := Lib.hid (HC.out.fin hzG hz1 hzA); clear hz1 hzg hzh hzG hzA) | fail)
  all_goals go_wp2
  all_goals go_ret
  all_goals exact HX.out

theorem S_c17 (p : Nat) (c : ConfV) (w : World) (s : SSt) (t k sz id n : Int) (v : Value) (l : List UInt8) (hv : Rd w v l) (hb : ∀ k, vblk v k → ¬ SwF p w k) (hl : l.length ≤ 1000000) (h : SwI p c w s) (hok : s.okS) (hout : s.out.length ≤ 10000000000) (hr : -9223372036854775808 ≤ n ∧ n < 9223372036854775808) :
    Calls Tryz.prog 105 #[.pointer (some ⟨p, 0, none⟩), .agg (stepA 17 t k sz id n v)] w (SR p c w 0 ({ s with out := s.out ++ (vint (zig n).toNat) })) := by
  obtain ⟨ov, uv, hA⟩ := h
  obtain ⟨va, vn, vc, rfl, hvn⟩ := hv.len
  have hC := CBox.start hA (stepA 17 t k sz id n (.slice va vn vc))
  obtain ⟨W, hW⟩ : ∃ W, W = w.alloc (.cells (stepA 17 t k sz id n (.slice va vn vc)) 239 (0, 0)) := ⟨_, rfl⟩
  have HW := Lib.hid hW
  rw [← hW] at hC
  have HZ := Lib.hid (fun X => S_zig64 n hr X)
  have hzn : (zig n) = (((zig n).toNat : Nat) : Int) := by unfold zig; split <;> omega
  have hz2 := zig_nat n 9223372036854775808 hr
  have HV := Lib.hid (show ∀ X, Calls Tryz.prog 101 #[.int .u64 (zig n)] X (NewR (vint (zig n).toNat) X) from fun X => by have := S_varint (zig n).toNat (by omega) X; rwa [← hzn] at this)
  have hvl := vint64_le (zig n).toNat (by omega)
  obtain ⟨aP, aB, -, aF⟩ := hC.at (Grew.start ov (Fr.refl noF W))
  have ap7 := aP 7
  have ab0 := aB 0
  have ab5 := aB 5
  simp only [List.getElem?_toArray, List.getElem?_cons_zero, List.getElem?_cons_succ, List.size_toArray] at ap7 ab0 ab5
  clear aP aB
  have HC := Lib.hid hC
  have HL := Lib.hid (And.intro hout hvl)
  clear hC hA hW hv hb hl hout hok hvn hvl aF hzn hr hz2
  go_enter Tryz.func105, Tryz.ntmps105
  go_upto_region 1 with fail
  rw [← HW.out]
  go_wp2_with fail
  go_region_law (first | (go_simp; go_at_call 109; (with_reducible refine (HZ.out _).mono ?_); rintro e w' ⟨rfl, rfl⟩) | (go_simp; go_at_call 101; (with_reducible refine (HV.out _).mono ?_); rintro e Y ⟨yv, rfl, hyo, hyf⟩; obtain ⟨ya, yn, yc, rfl, -⟩ := hyo.rd.len; have hyr := hyo.rd; have hyF : Fr noF noF W Y := (by (focus ((repeat (first | with_reducible exact Fr.refl _ _ | with_reducible assumption | with_reducible refine Fr.alloc ?_ _ | with_reducible refine Fr.drew ?_ | with_reducible refine Fr.drewN ?_ _ | with_reducible refine Fr.trans (F' := noF) ?_ (by with_reducible assumption) | fail)); done))); have yp7 : Y.cell? ⟨p, 7, none⟩ = some ov := (HC.out.at (Grew.start ov hyF)).1 7; clear hyo) | ((refine step_bytes (by rfl) _ _ (by rfl) 0 ov (.slice ya yn yc) s.out (vint (zig n).toNat) (by rfl) (HC.out.own ?_) (by rfl) ?_ (by have := HL.out; skip; omega) (Nat.zero_le _) ?_); (focus ((repeat (first | with_reducible exact Fr.refl _ _ | with_reducible assumption | with_reducible refine Fr.alloc ?_ _ | with_reducible refine Fr.drew ?_ | with_reducible refine Fr.drewN ?_ _ | with_reducible refine Fr.trans (F' := noF) ?_ (by with_reducible assumption) | fail)); done)); (focus ((repeat (first | with_reducible assumption | with_reducible refine Rd.keep (F := noF) (F' := noF) ?_ (Fr.alloc (Fr.refl noF _) _) (fun _ _ x => x) | with_reducible refine Rd.keep (F := noF) (F' := noF) ?_ (Fr.drew (Fr.refl noF _)) (fun _ _ x => x) | with_reducible refine Rd.keep (F := noF) (F' := noF) ?_ (by with_reducible assumption) (fun _ _ x => x) | fail)); done)); intro za zn zc Z hz1 hzg hzh; have hzG : Grew W Z ov := Grew.more (Grew.start ov (by (focus ((repeat (first | with_reducible exact Fr.refl _ _ | with_reducible assumption | with_reducible refine Fr.alloc ?_ _ | with_reducible refine Fr.drew ?_ | with_reducible refine Fr.drewN ?_ _ | with_reducible refine Fr.trans (F' := noF) ?_ (by with_reducible assumption) | fail)); done)))) (OwnAt.refl W ov) hzg; have hzA : OwnAt w (.slice za zn zc) ov := (OwnAt.refl w ov).nextN (Nat.le_trans HC.out.le (Fr.size (F := noF) (F' := noF) (by (focus ((repeat (first | with_reducible exact Fr.refl _ _ | with_reducible assumption | with_reducible refine Fr.alloc ?_ _ | with_reducible refine Fr.drew ?_ | with_reducible refine Fr.drewN ?_ _ | with_reducible refine Fr.trans (F' := noF) ?_ (by with_reducible assumption) | fail)); done))))) hzh; have zp7 := (HC.out.at hzG).1 7; have zf7 := (HC.out.at hzG).2.2.2 7; simp only [List.getElem?_toArray, List.getElem?_cons_zero, List.getElem?_cons_succ, List.size_toArray] at zp7; have HX := Lib.hid (HC.out.fin hzG hz1 hzA); clear hz1 hzg hzh hzG hzA) | fail)
  all_goals go_wp2
  all_goals go_ret
  all_goals exact HX.out

end Go.Proofs.YtdifknecndlklaaGreatDoor
namespace Go.Proofs.YtdifknecndlklaaGreatDoor
open Go Go.RowKit
set_option maxHeartbeats 4000000
set_option maxRecDepth 100000
set_option linter.all false

theorem S_c19 (p : Nat) (c : ConfV) (w : World) (s : SSt) (t k sz id n : Int) (v : Value) (l : List UInt8) (hv : Rd w v l) (hb : ∀ k, vblk v k → ¬ SwF p w k) (hl : l.length ≤ 1000000) (h : SwI p c w s) (hok : s.okS) (hout : s.out.length ≤ 10000000000) :
    Calls Tryz.prog 105 #[.pointer (some ⟨p, 0, none⟩), .agg (stepA 19 t k sz id n v)] w (SR p c w 0 ({ s with out := s.out ++ (vint (l.length % 4294967296) ++ l) })) := by
  obtain ⟨ov, uv, hA⟩ := h
  obtain ⟨va, vn, vc, rfl, hvn⟩ := hv.len
  have hC := CBox.start hA (stepA 19 t k sz id n (.slice va vn vc))
  obtain ⟨W, hW⟩ : ∃ W, W = w.alloc (.cells (stepA 19 t k sz id n (.slice va vn vc)) 239 (0, 0)) := ⟨_, rfl⟩
  have HW := Lib.hid hW
  rw [← hW] at hC
  have hT := S_wtext p c W s (.slice va vn vc) l (hv.keep (F := noF) hC.fr fun _ _ x => x) (fun j hj hx => hb j hj ((SwI.quiet ⟨_, _, hA⟩ hC.fr).2.1 j hx)) hl (SwI.quiet ⟨_, _, hA⟩ hC.fr).1 hout
  obtain ⟨aP, aB, -, aF⟩ := hC.at (Grew.start ov (Fr.refl noF W))
  have ap7 := aP 7
  have ab0 := aB 0
  have ab6 := aB 6
  simp only [List.getElem?_toArray, List.getElem?_cons_zero, List.getElem?_cons_succ, List.size_toArray] at ap7 ab0 ab6
  clear aP aB
  have HT := Lib.hid hT
  have HH := Lib.hid (And.intro (show SwI p c w s from ⟨_, _, hA⟩) hC.fr)
  clear hC hA hW hv hb hl hout hok hvn aF hT
  go_enter Tryz.func105, Tryz.ntmps105
  go_upto_region 1 with fail
  rw [← HW.out]
  go_wp2_with fail
  (with_reducible refine HT.out.mono ?_)
  rintro e Y ⟨rfl, hy1, hy2⟩
  have HX := Lib.hid (SR.under (k := 0) HH.out.1 HH.out.2 ⟨rfl, hy1, hy2⟩)
  clear hy1 hy2 ap7 ab0 ab6
  go_wp2
  go_ret
  exact HX.out

theorem S_c20 (p : Nat) (c : ConfV) (w : World) (s : SSt) (t k sz id n : Int) (v : Value) (l : List UInt8) (hv : Rd w v l) (hb : ∀ k, vblk v k → ¬ SwF p w k) (hl : l.length ≤ 1000000) (h : SwI p c w s) (hok : s.okS) (hout : s.out.length ≤ 10000000000) :
    Calls Tryz.prog 105 #[.pointer (some ⟨p, 0, none⟩), .agg (stepA 20 t k sz id n v)] w (SR p c w 0 ({ s with out := s.out ++ (vint (l.length % 4294967296) ++ l) })) := by
  obtain ⟨ov, uv, hA⟩ := h
  obtain ⟨va, vn, vc, rfl, hvn⟩ := hv.len
  have hC := CBox.start hA (stepA 20 t k sz id n (.slice va vn vc))
  obtain ⟨W, hW⟩ : ∃ W, W = w.alloc (.cells (stepA 20 t k sz id n (.slice va vn vc)) 239 (0, 0)) := ⟨_, rfl⟩
  have HW := Lib.hid hW
  rw [← hW] at hC
  have hT := S_wtext p c W s (.slice va vn vc) l (hv.keep (F := noF) hC.fr fun _ _ x => x) (fun j hj hx => hb j hj ((SwI.quiet ⟨_, _, hA⟩ hC.fr).2.1 j hx)) hl (SwI.quiet ⟨_, _, hA⟩ hC.fr).1 hout
  obtain ⟨aP, aB, -, aF⟩ := hC.at (Grew.start ov (Fr.refl noF W))
  have ap7 := aP 7
  have ab0 := aB 0
  have ab6 := aB 6
  simp only [List.getElem?_toArray, List.getElem?_cons_zero, List.getElem?_cons_succ, List.size_toArray] at ap7 ab0 ab6
  clear aP aB
  have HT := Lib.hid hT
  have HH := Lib.hid (And.intro (show SwI p c w s from ⟨_, _, hA⟩) hC.fr)
  clear hC hA hW hv hb hl hout hok hvn aF hT
  go_enter Tryz.func105, Tryz.ntmps105
  go_upto_region 1 with fail
  rw [← HW.out]
  go_wp2_with fail
  (with_reducible refine HT.out.mono ?_)
  rintro e Y ⟨rfl, hy1, hy2⟩
  have HX := Lib.hid (SR.under (k := 0) HH.out.1 HH.out.2 ⟨rfl, hy1, hy2⟩)
  clear hy1 hy2 ap7 ab0 ab6
  go_wp2
  go_ret
  exact HX.out

theorem S_c21 (p : Nat) (c : ConfV) (w : World) (s : SSt) (t k sz id n : Int) (v : Value) (l : List UInt8) (hv : Rd w v l) (hb : ∀ k, vblk v k → ¬ SwF p w k) (hl : l.length ≤ 1000000) (h : SwI p c w s) (hok : s.okS) (hout : s.out.length ≤ 10000000000) :
    Calls Tryz.prog 105 #[.pointer (some ⟨p, 0, none⟩), .agg (stepA 21 t k sz id n v)] w (SR p c w 0 ({ s with out := s.out ++ (pad16 l) })) := by
  obtain ⟨ov, uv, hA⟩ := h
  obtain ⟨va, vn, vc, rfl, hvn⟩ := hv.len
  have hC := CBox.start hA (stepA 21 t k sz id n (.slice va vn vc))
  obtain ⟨W, hW⟩ : ∃ W, W = w.alloc (.cells (stepA 21 t k sz id n (.slice va vn vc)) 239 (0, 0)) := ⟨_, rfl⟩
  have HW := Lib.hid hW
  rw [← hW] at hC
  have HU := Lib.hid (show ∀ X, Fr noF noF W X → Calls Tryz.prog 99 #[.slice va vn vc] X (NewR (pad16 l) X) from fun X hX => S_uuid16 (.slice va vn vc) l X (hv.keep (F := noF) (hC.fr.trans hX) fun _ _ x => x))
  obtain ⟨aP, aB, -, aF⟩ := hC.at (Grew.start ov (Fr.refl noF W))
  have ap7 := aP 7
  have ab0 := aB 0
  have ab6 := aB 6
  simp only [List.getElem?_toArray, List.getElem?_cons_zero, List.getElem?_cons_succ, List.size_toArray] at ap7 ab0 ab6
  clear aP aB
  have HC := Lib.hid hC
  have HL := Lib.hid hout
  clear hC hA hW hv hb hl hout hok hvn aF
  go_enter Tryz.func105, Tryz.ntmps105
  go_upto_region 1 with fail
  rw [← HW.out]
  go_wp2_with fail
  go_region_law (first | (go_simp; go_at_call 99; (with_reducible refine (HU.out _ ?_).mono ?_); (focus ((repeat (first | with_reducible exact Fr.refl _ _ | with_reducible assumption | with_reducible refine Fr.alloc ?_ _ | with_reducible refine Fr.drew ?_ | with_reducible refine Fr.drewN ?_ _ | with_reducible refine Fr.trans (F' := noF) ?_ (by with_reducible assumption) | fail)); done)); rintro e Y ⟨yv, rfl, hyo, hyf⟩; obtain ⟨ya, yn, yc, rfl, -⟩ := hyo.rd.len; have hyr := hyo.rd; have hyF : Fr noF noF W Y := (by (focus ((repeat (first | with_reducible exact Fr.refl _ _ | with_reducible assumption | with_reducible refine Fr.alloc ?_ _ | with_reducible refine Fr.drew ?_ | with_reducible refine Fr.drewN ?_ _ | with_reducible refine Fr.trans (F' := noF) ?_ (by with_reducible assumption) | fail)); done))); have yp7 : Y.cell? ⟨p, 7, none⟩ = some ov := (HC.out.at (Grew.start ov hyF)).1 7; clear hyo) | ((refine step_bytes (by rfl) _ _ (by rfl) 0 ov (.slice ya yn yc) s.out (pad16 l) (by rfl) (HC.out.own ?_) (by rfl) ?_ (by have := HL.out; rw [pad16_len]; omega) (Nat.zero_le _) ?_); (focus ((repeat (first | with_reducible exact Fr.refl _ _ | with_reducible assumption | with_reducible refine Fr.alloc ?_ _ | with_reducible refine Fr.drew ?_ | with_reducible refine Fr.drewN ?_ _ | with_reducible refine Fr.trans (F' := noF) ?_ (by with_reducible assumption) | fail)); done)); (focus ((repeat (first | with_reducible assumption | with_reducible refine Rd.keep (F := noF) (F' := noF) ?_ (Fr.alloc (Fr.refl noF _) _) (fun _ _ x => x) | with_reducible refine Rd.keep (F := noF) (F' := noF) ?_ (Fr.drew (Fr.refl noF _)) (fun _ _ x => x) | with_reducible refine Rd.keep (F := noF) (F' := noF) ?_ (by with_reducible assumption) (fun _ _ x => x) | fail)); done)); intro za zn zc Z hz1 hzg hzh; have hzG : Grew W Z ov := Grew.more (Grew.start ov (by (focus ((repeat (first | with_reducible exact Fr.refl _ _ | with_reducible assumption | with_reducible refine Fr.alloc ?_ _ | with_reducible refine Fr.drew ?_ | with_reducible refine Fr.drewN ?_ _ | with_reducible refine Fr.trans (F' := noF) ?_ (by with_reducible assumption) | fail)); done)))) (OwnAt.refl W ov) hzg; have hzA : OwnAt w (.slice za zn zc) ov := (OwnAt.refl w ov).nextN (Nat.le_trans HC.out.le (Fr.size (F := noF) (F' := noF) (by (focus ((repeat (first | with_reducible exact Fr.refl _ _ | with_reducible assumption | with_reducible refine Fr.alloc ?_ _ | with_reducible refine Fr.drew ?_ | with_reducible refine Fr.drewN ?_ _ | with_reducible refine Fr.trans (F' := noF) ?_ (by with_reducible assumption) | fail)); done))))) hzh; have zp7 := (HC.out.at hzG).1 7; have zf7 := (HC.out.at hzG).2.2.2 7; simp only [List.getElem?_toArray, List.getElem?_cons_zero, List.getElem?_cons_succ, List.size_toArray] at zp7; have HX := Lib.hid (HC.out.fin hzG hz1 hzA); clear hz1 hzg hzh hzG hzA) | fail)
  all_goals go_wp2
  all_goals go_ret
  all_goals exact HX.out

end Go.Proofs.YtdifknecndlklaaGreatDoor
namespace Go.Proofs.YtdifknecndlklaaGreatDoor
open Go Go.RowKit
set_option maxHeartbeats 4000000
set_option maxRecDepth 100000
set_option linter.all false

theorem SR.self {p : Nat} {c : ConfV} {w : World} {s : SSt} (h : SwI p c w s) (k : Int) : SR p c w k s (.returned (.int .i64 k)) w := ⟨rfl, h, (h.quiet (Fr.refl noF w)).2.2⟩
theorem S_cfield (p : Nat) (c : ConfV) (w : World) (s : SSt) (t id : Int) (ht : 0 ≤ t ∧ t < 256) (hid : -32768 ≤ id ∧ id < 32768) (h : SwI p c w s) (hok : s.okS) (hout : s.out.length ≤ 10000000000) :
    Calls Tryz.prog 103 #[.pointer (some ⟨p, 0, none⟩), .int .i64 t, .int .i64 id] w (SR p c w (sCs s (.fieldBegin t id)).2 (sCs s (.fieldBegin t id)).1) := by
  by_cases h2 : t = 2
  · subst h2
    obtain ⟨ov, uv, hA⟩ := h
    obtain ⟨h1, f1⟩ := hA.setPb true
    obtain ⟨h3, f3⟩ := h1.setId id
    have c10 : w.cell? ⟨p, 10, none⟩ = some (.bool s.pb) := by rw [cell_at hA.box]; rfl
    have z10 := free_at hA.box 10
    have c11 : (w.setCell ⟨p, 10, none⟩ (.bool true)).cell? ⟨p, 11, none⟩ = some (.int .i64 s.id) := by rw [cell_at h1.box]; rfl
    have z11 := free_at h1.box 11
    have HX := Lib.hid (show SR p c w (sCs s (.fieldBegin 2 id)).2 (sCs s (.fieldBegin 2 id)).1 (.returned (.int .i64 0)) ((w.setCell ⟨p, 10, none⟩ (.bool true)).setCell ⟨p, 11, none⟩ (.int .i64 id)) from ⟨rfl, ⟨_, _, h3⟩, f1.trans f3⟩)
    clear hA h1 f1 h3 f3 hok hout hid ht
    go_enter Tryz.func103, Tryz.ntmps103
    go_wp2
    go_ret
    exact HX.out
  · have n2 : (t == 2) = false := beq_eq_false_iff_ne.2 h2
    have hm : t % 256 = t := by omega
    have HD := Lib.hid (fun X => S_code t X)
    have hs : sCs s (.fieldBegin t id) = if ctype t = 0 then (s, -2) else (s.field (ctype t) id, 0) := if_neg h2
    rw [hs]
    by_cases h0 : ctype t = 0
    · rw [if_pos h0]
      have HX := Lib.hid (SR.self h (-2))
      have HE := Lib.hid h0
      have HM := Lib.hid hm
      clear hs h hok hout hid ht h2 h0 hm
      go_enter Tryz.func103, Tryz.ntmps103
      go_wp2_with fail
      (with_reducible refine (HD.out _).mono ?_)
      rintro e w' ⟨rfl, rfl⟩
      rw [HM.out, HE.out]
      go_wp2
      go_ret
      exact HX.out
    · rw [if_neg h0]
      have n0 : (ctype t == 0) = false := beq_eq_false_iff_ne.2 h0
      have HF := Lib.hid (S_field p c w s (ctype t) id (ctype_lo t) (by have := ctype_hi t; omega) hid hok.1 h hout)
      have HM := Lib.hid hm
      clear hs h hok hout hid ht h2 h0 hm
      go_enter Tryz.func103, Tryz.ntmps103
      go_wp2_with fail
      (with_reducible refine (HD.out _).mono ?_)
      rintro e w' ⟨rfl, rfl⟩
      rw [HM.out]
      go_wp2_with fail
      (with_reducible refine HF.out.mono ?_)
      rintro e Y ⟨rfl, hy1, hy2⟩
      have HX := Lib.hid (show SR p c _ 0 (s.field (ctype t) id) (.returned (.int .i64 0)) Y from ⟨rfl, hy1, hy2⟩)
      clear hy1 hy2
      go_wp2
      go_ret
      exact HX.out
end Go.Proofs.YtdifknecndlklaaGreatDoor
