/- The specification's writer: the steps of the binary protocol. Printed by gen_sb.py. -/
import Derived.Deep.RegionHeld3
import Derived.Deep.AppendLies
import Derived.Deep.DeepCutAuto
import Derived.Deep.CutBlock
import Derived.Test.YtdifknecndlklaaGreatDoorZSw
import Derived.Test.YtdifknecndlklaaGreatDoorZFrg
import Derived.Test.YtdifknecndlklaaGreatDoorZLimits
set_option linter.all false
namespace Go.Proofs.YtdifknecndlklaaGreatDoor
open Go Go.RowKit
set_option maxHeartbeats 4000000
set_option maxRecDepth 100000

theorem own_one {X : World} {N : Nat} {y : Int} {u : UInt8} (hy : y = u.toNat) (hb : X.heap[N]? = some (.cells #[.int .u8 y] U8 (0, 0))) : X.ownsRow 0 U8 1 (.slice (some ⟨N, 0, none⟩) 1 1) 1 (Lib.byteCells [u]) := by
  subst hy
  exact own_made (l := [u]) (Nat.zero_le _) hb rfl (by decide)
theorem own_two {X : World} {N : Nat} {y z : Int} {u v : UInt8} (hy : y = u.toNat) (hz : z = v.toNat) (hb : X.heap[N]? = some (.cells #[.int .u8 y, .int .u8 z] U8 (0, 0))) : X.ownsRow 0 U8 1 (.slice (some ⟨N, 0, none⟩) 2 2) 2 (Lib.byteCells [u, v]) := by
  subst hy hz
  exact own_made (l := [u, v]) (Nat.zero_le _) hb rfl (by decide)
theorem own_byte {X : World} {N : Nat} {y : Int} {u : UInt8} (hy : y = u.toNat) (hb : X.heap[N]? = some (.cells #[.int .u8 y] U8 (0, 0))) : Rd X (.slice (some ⟨N, 0, none⟩) 1 1) [u] := OwnB.rd (own_one hy hb)

/-- New bytes, and where they lie. -/
theorem newS {l : List UInt8} {w w' : World} {e : Ending} (hl : 0 < l.length) (h : NewR l w e w') : ∃ g c, e = .returned (.slice (some ⟨g, 0, none⟩) l.length c) ∧ w'.ownsRow 0 U8 1 (.slice (some ⟨g, 0, none⟩) l.length c) l.length (Lib.byteCells l) ∧ w.heap.size ≤ g ∧ Fr noF noF w w' := by
  obtain ⟨v, rfl, ho, hf⟩ := h
  rcases ho.2 with ⟨_, h0⟩ | ⟨g, cap, cur, rfl, hb, hg, rest⟩
  · omega
  · exact ⟨g, cap, rfl, ⟨ho.1, Or.inr ⟨g, cap, cur, rfl, Nat.zero_le _, hg, rest⟩⟩, hb, hf⟩
theorem big_new (n : Int) (size : Nat) (hs : size ≤ 8) (h0 : 0 < size) (w : World) : Calls Tryz.prog 97 #[.int .i64 n, .int .i64 size] w (fun e w' => ∃ g c, e = .returned (.slice (some ⟨g, 0, none⟩) size c) ∧ w'.ownsRow 0 U8 1 (.slice (some ⟨g, 0, none⟩) size c) size (Lib.byteCells (bigB n size)) ∧ w.heap.size ≤ g ∧ Fr noF noF w w') :=
  (S_big n size hs w).mono fun e w' h => by
    have := newS (by rw [bigB_length]; exact h0) h
    rwa [bigB_length] at this
theorem text_new (v : Value) (l : List UInt8) (w : World) (h : Rd w v l) (hl : l.length ≤ 1000000000) : Calls Tryz.prog 98 #[v] w (fun e w' => ∃ g c, e = .returned (.slice (some ⟨g, 0, none⟩) (l.length + 4) c) ∧ w'.ownsRow 0 U8 1 (.slice (some ⟨g, 0, none⟩) (l.length + 4) c) (l.length + 4) (Lib.byteCells (be4 l.length ++ l)) ∧ w.heap.size ≤ g ∧ Fr noF noF w w') :=
  (S_text v l w h hl).mono fun e w' h => by
    have := newS (by rw [List.length_append, be4_length]; omega) h
    rwa [List.length_append, be4_length, Nat.add_comm 4] at this
theorem news_of {w : World} {g n m c : Nat} {l : List UInt8} (h : w.ownsRow 0 U8 1 (.slice (some ⟨g, 0, none⟩) n c) m (Lib.byteCells l)) (hm : m = l.length) : ∀ (j : Nat) u, (Lib.byteCells l)[j]? = some u → w.cell? ((⟨g, 0, none⟩ : Addr).add j) = some u := by
  subst hm
  have hr : Rd w (.slice (some ⟨g, 0, none⟩) n c) l := OwnB.rd h
  exact (Rd.src hr).2
theorem rd_of {w : World} {v : Value} {m : Nat} {l : List UInt8} (h : w.ownsRow 0 U8 1 v m (Lib.byteCells l)) (hm : m = l.length) : Rd w v l := by
  subst hm
  exact OwnB.rd h
theorem owns_fr {w w' : World} {e : TypeId} {v : Value} {n : Nat} {xs : List Value} (h : w.ownsRow 0 e 1 v n xs) (hf : Fr noF noF w w') : w'.ownsRow 0 e 1 v n xs := owns_keep h fun k hk => by
  obtain ⟨cur, hc⟩ := owns_block h hk
  exact hf.keep k (lt_heap hc) fun x => x
theorem owns_cat {w : World} {v : Value} {n : Nat} {a b : List UInt8} (h : w.ownsRow 0 U8 1 v n (Lib.byteCells a ++ Lib.byteCells b)) : w.ownsRow 0 U8 1 v n (Lib.byteCells (a ++ b)) := by rw [bcells_append]; exact h
theorem fr_app {w X Z : World} {g : Nat} {n c : Nat} (hX : Fr noF noF w X) (hg : X.grownBy Z (Value.slice (some ⟨g, 0, none⟩) n c).ownBlock) (hn : w.heap.size ≤ g) : Fr noF noF w Z := hX.grown hg fun k hk => by injection hk with hk; exact hk ▸ hn
theorem keep_app {X Z : World} {g n c k : Nat} {o : Obj} (hg : X.grownBy Z (Value.slice (some ⟨g, 0, none⟩) n c).ownBlock) (hk : X.heap[k]? = some o) (hne : k ≠ g) : Z.heap[k]? = some o :=
  (hg.block k (lt_heap hk) fun e => hne (by injection e)).trans hk
/-- The state behind a step. -/
abbrev SSt.add (s : SSt) (l : List UInt8) : SSt := { s with out := s.out ++ l }

theorem ver_or (t : Int) : be4 (bits .or .i64 2147549184 t) = verB (IntKind.i32.wrap t) := by
  have e1 : bits .or .i64 2147549184 t = IntKind.i64.wrap (((2147549184 ||| (t % 18446744073709551616).toNat : Nat) : Int)) := by
    show IntKind.i64.wrap ((BitVec.ofInt 64 2147549184 ||| BitVec.ofInt 64 t).toNat : Int) = _
    rw [BitVec.toNat_or, BitVec.toNat_ofInt, BitVec.toNat_ofInt]
    rfl
  have e2 : bits .or .u32 2147549184 (IntKind.i32.wrap t % 4294967296) = IntKind.u32.wrap (((2147549184 ||| (t % 4294967296).toNat : Nat) : Int)) := by
    show IntKind.u32.wrap ((BitVec.ofInt 32 2147549184 ||| BitVec.ofInt 32 (IntKind.i32.wrap t % 4294967296)).toNat : Int) = _
    rw [BitVec.toNat_or, BitVec.toNat_ofInt, BitVec.toNat_ofInt, wrap_i32']
    have : ((((t + 2147483648) % 4294967296 - 2147483648) % 4294967296) % ((2 ^ 32 : Nat) : Int)).toNat = (t % 4294967296).toNat := by omega
    rw [this]
    rfl
  have e3 : (2147549184 ||| (t % 18446744073709551616).toNat) % 4294967296 = 2147549184 ||| (t % 4294967296).toNat := by
    have := @Nat.or_mod_two_pow 2147549184 (t % 18446744073709551616).toNat 32
    rw [show (2 : Nat) ^ 32 = 4294967296 by decide] at this
    rw [this]
    congr 1
    omega
  have e4 : 2147549184 ||| (t % 4294967296).toNat < 4294967296 := by rw [← e3]; exact Nat.mod_lt _ (by decide)
  have e5 : IntKind.u32.wrap (((2147549184 ||| (t % 4294967296).toNat : Nat) : Int)) = ((2147549184 ||| (t % 4294967296).toNat : Nat) : Int) := by
    simp only [IntKind.wrap, IntKind.bits, IntKind.signed]
    simp
    omega
  have key : bits .or .i64 2147549184 t % 4294967296 = bits .or .u32 2147549184 (IntKind.i32.wrap t % 4294967296) % 4294967296 := by
    rw [e1, e2, e5, IntKind.wrap_i64]
    clear e1 e2 e5
    generalize 2147549184 ||| (t % 18446744073709551616).toNat = N1 at *
    generalize 2147549184 ||| (t % 4294967296).toNat = N2 at *
    omega
  unfold verB be4
  rw [key]
theorem owns_len {w : World} {v : Value} {n : Nat} {xs : List Value} {l : List UInt8} (h : w.ownsRow 0 U8 1 v n xs) (hl : n = l.length) (hx : xs = Lib.byteCells l) : OwnB w 0 v l := by
  subst hl hx
  exact h

theorem S_bin1 (p : Nat) (c : ConfV) (w : World) (s : SSt) (t k sz id n : Int) (v : Value) (l : List UInt8) (hv : Rd w v l) (hl : l.length ≤ 1000000) (h : SwI p c w s) (hout : s.out.length ≤ 10000000000) :
    Calls Tryz.prog 92 #[.pointer (some ⟨p, 0, none⟩), .agg (stepA 1 t k sz id n v)] w (SR p c w 0 (s.add ([]))) := by
  obtain ⟨ov, uv, hA⟩ := h
  obtain ⟨i0, hi, hz0, hz1, hz2⟩ := info_parts info_u8
  have HI := Lib.hid (And.intro hi (And.intro hz0 (And.intro hz1 hz2)))
  obtain ⟨va, vn, vc, rfl, hvn⟩ := hv.len
  have hb0 := alloc_new w (.cells (stepA 1 t k sz id n (.slice va vn vc)) 239 (0, 0))
  have hf0 : Fr noF noF w (w.alloc (.cells (stepA 1 t k sz id n (.slice va vn vc)) 239 (0, 0))) := (Fr.refl noF w).alloc _
  obtain ⟨W, hW⟩ : ∃ W, W = w.alloc (.cells (stepA 1 t k sz id n (.slice va vn vc)) 239 (0, 0)) := ⟨_, rfl⟩
  have hlen : ([] : List UInt8).length ≤ 10000000 := by simp
  have hq : ∀ X : World, X.heap[w.heap.size]? = some (.cells (stepA 1 t k sz id n (.slice va vn vc)) 239 (0, 0)) → X.cell? ⟨w.heap.size, 0, none⟩ = some (.int .i64 1) := fun X hX => by rw [cell_at hX]; rfl
  have HQ := Lib.hid hq
  have hvW := hv.keep (F := noF) (F' := noF) hf0 fun _ _ x => x
  have HA := Lib.hid hA
  have HO := Lib.hid hout
  have HW := Lib.hid hW
  have HLn := Lib.hid hlen
  have HV := Lib.hid (And.intro hv (And.intro hl hvn))
  rw [← hW] at hf0 hb0 hvW
  clear hi hz0 hz1 hz2 hA hout hq hW hlen hv hl hvn 
  go_enter Tryz.func92, Tryz.ntmps92
  go_upto_block 0 with fail
  rw [← HW.out]
  go_cut [5] (fun s5 wx => ∃ xa xn xc, s5 = .slice xa xn xc ∧ Rd wx (.slice xa xn xc) ([] : List UInt8) ∧ Fr noF noF w wx)
  case first =>
    have q0 := HQ.out _ hb0
    go_wp2_with fail
    go_meet
    exact ⟨none, 0, 0, rfl, Or.inl ⟨rfl, rfl⟩, hf0⟩
  case rest =>
    obtain ⟨ba, bn, bc, rfl, hb, hf⟩ := hcut
    have hAc := HA.out.keep hf fun _ _ x => x
    obtain ⟨c7, c9⟩ := hAc.cells
    have f7 := free_at hAc.box 7
    have HX := Lib.hid (And.intro hb (And.intro hf hAc))
    clear hb hf hAc hb0 hf0 hvW
    go_wp2_with (at_builtin; refine append_bytes_at rfl _ _ rfl 0 _ _ s.out ([] : List UInt8) rfl HX.out.2.2.out rfl HX.out.1 (by have h1 := HO.out; have h2 := HLn.out; omega) (Nat.zero_le _) ?_)
    intro v' w4 hown hgrow hat
    obtain ⟨xa, xn, xc, rfl, -⟩ := hown.rd.len
    have HY := Lib.hid (HA.out.wrote HX.out.2.1 hown hgrow hat)
    obtain ⟨hcold, hfr⟩ := HY.out.1
    clear hown hgrow hat c7 c9 f7
    go_wp2
    go_ret
    first
      | exact ⟨rfl, ⟨_, _, HY.out.2.1⟩, HY.out.2.2⟩
      | (refine ⟨rfl, ⟨.slice xa xn xc, uv, ?_⟩, HY.out.2.2⟩; simpa [SSt.add] using HY.out.2.1)

theorem S_bin2 (p : Nat) (c : ConfV) (w : World) (s : SSt) (t k sz id n : Int) (v : Value) (l : List UInt8) (hv : Rd w v l) (hl : l.length ≤ 1000000) (h : SwI p c w s) (hout : s.out.length ≤ 10000000000) :
    Calls Tryz.prog 92 #[.pointer (some ⟨p, 0, none⟩), .agg (stepA 2 t k sz id n v)] w (SR p c w 0 (s.add ([]))) := by
  obtain ⟨ov, uv, hA⟩ := h
  obtain ⟨i0, hi, hz0, hz1, hz2⟩ := info_parts info_u8
  have HI := Lib.hid (And.intro hi (And.intro hz0 (And.intro hz1 hz2)))
  obtain ⟨va, vn, vc, rfl, hvn⟩ := hv.len
  have hb0 := alloc_new w (.cells (stepA 2 t k sz id n (.slice va vn vc)) 239 (0, 0))
  have hf0 : Fr noF noF w (w.alloc (.cells (stepA 2 t k sz id n (.slice va vn vc)) 239 (0, 0))) := (Fr.refl noF w).alloc _
  obtain ⟨W, hW⟩ : ∃ W, W = w.alloc (.cells (stepA 2 t k sz id n (.slice va vn vc)) 239 (0, 0)) := ⟨_, rfl⟩
  have hlen : ([] : List UInt8).length ≤ 10000000 := by simp
  have hq : ∀ X : World, X.heap[w.heap.size]? = some (.cells (stepA 2 t k sz id n (.slice va vn vc)) 239 (0, 0)) → X.cell? ⟨w.heap.size, 0, none⟩ = some (.int .i64 2) := fun X hX => by rw [cell_at hX]; rfl
  have HQ := Lib.hid hq
  have hvW := hv.keep (F := noF) (F' := noF) hf0 fun _ _ x => x
  have HA := Lib.hid hA
  have HO := Lib.hid hout
  have HW := Lib.hid hW
  have HLn := Lib.hid hlen
  have HV := Lib.hid (And.intro hv (And.intro hl hvn))
  rw [← hW] at hf0 hb0 hvW
  clear hi hz0 hz1 hz2 hA hout hq hW hlen hv hl hvn 
  go_enter Tryz.func92, Tryz.ntmps92
  go_upto_block 0 with fail
  rw [← HW.out]
  go_cut [5] (fun s5 wx => ∃ xa xn xc, s5 = .slice xa xn xc ∧ Rd wx (.slice xa xn xc) ([] : List UInt8) ∧ Fr noF noF w wx)
  case first =>
    have q0 := HQ.out _ hb0
    go_wp2_with fail
    go_meet
    exact ⟨none, 0, 0, rfl, Or.inl ⟨rfl, rfl⟩, hf0⟩
  case rest =>
    obtain ⟨ba, bn, bc, rfl, hb, hf⟩ := hcut
    have hAc := HA.out.keep hf fun _ _ x => x
    obtain ⟨c7, c9⟩ := hAc.cells
    have f7 := free_at hAc.box 7
    have HX := Lib.hid (And.intro hb (And.intro hf hAc))
    clear hb hf hAc hb0 hf0 hvW
    go_wp2_with (at_builtin; refine append_bytes_at rfl _ _ rfl 0 _ _ s.out ([] : List UInt8) rfl HX.out.2.2.out rfl HX.out.1 (by have h1 := HO.out; have h2 := HLn.out; omega) (Nat.zero_le _) ?_)
    intro v' w4 hown hgrow hat
    obtain ⟨xa, xn, xc, rfl, -⟩ := hown.rd.len
    have HY := Lib.hid (HA.out.wrote HX.out.2.1 hown hgrow hat)
    obtain ⟨hcold, hfr⟩ := HY.out.1
    clear hown hgrow hat c7 c9 f7
    go_wp2
    go_ret
    first
      | exact ⟨rfl, ⟨_, _, HY.out.2.1⟩, HY.out.2.2⟩
      | (refine ⟨rfl, ⟨.slice xa xn xc, uv, ?_⟩, HY.out.2.2⟩; simpa [SSt.add] using HY.out.2.1)

theorem S_bin3 (p : Nat) (c : ConfV) (w : World) (s : SSt) (t k sz id n : Int) (v : Value) (l : List UInt8) (hv : Rd w v l) (hl : l.length ≤ 1000000) (h : SwI p c w s) (hout : s.out.length ≤ 10000000000) :
    Calls Tryz.prog 92 #[.pointer (some ⟨p, 0, none⟩), .agg (stepA 3 t k sz id n v)] w (SR p c w 0 (s.add ([]))) := by
  obtain ⟨ov, uv, hA⟩ := h
  obtain ⟨i0, hi, hz0, hz1, hz2⟩ := info_parts info_u8
  have HI := Lib.hid (And.intro hi (And.intro hz0 (And.intro hz1 hz2)))
  obtain ⟨va, vn, vc, rfl, hvn⟩ := hv.len
  have hb0 := alloc_new w (.cells (stepA 3 t k sz id n (.slice va vn vc)) 239 (0, 0))
  have hf0 : Fr noF noF w (w.alloc (.cells (stepA 3 t k sz id n (.slice va vn vc)) 239 (0, 0))) := (Fr.refl noF w).alloc _
  obtain ⟨W, hW⟩ : ∃ W, W = w.alloc (.cells (stepA 3 t k sz id n (.slice va vn vc)) 239 (0, 0)) := ⟨_, rfl⟩
  have hlen : ([] : List UInt8).length ≤ 10000000 := by simp
  have hq : ∀ X : World, X.heap[w.heap.size]? = some (.cells (stepA 3 t k sz id n (.slice va vn vc)) 239 (0, 0)) → X.cell? ⟨w.heap.size, 0, none⟩ = some (.int .i64 3) := fun X hX => by rw [cell_at hX]; rfl
  have HQ := Lib.hid hq
  have hvW := hv.keep (F := noF) (F' := noF) hf0 fun _ _ x => x
  have HA := Lib.hid hA
  have HO := Lib.hid hout
  have HW := Lib.hid hW
  have HLn := Lib.hid hlen
  have HV := Lib.hid (And.intro hv (And.intro hl hvn))
  rw [← hW] at hf0 hb0 hvW
  clear hi hz0 hz1 hz2 hA hout hq hW hlen hv hl hvn 
  go_enter Tryz.func92, Tryz.ntmps92
  go_upto_block 0 with fail
  rw [← HW.out]
  go_cut [5] (fun s5 wx => ∃ xa xn xc, s5 = .slice xa xn xc ∧ Rd wx (.slice xa xn xc) ([] : List UInt8) ∧ Fr noF noF w wx)
  case first =>
    have q0 := HQ.out _ hb0
    go_wp2_with fail
    go_meet
    exact ⟨none, 0, 0, rfl, Or.inl ⟨rfl, rfl⟩, hf0⟩
  case rest =>
    obtain ⟨ba, bn, bc, rfl, hb, hf⟩ := hcut
    have hAc := HA.out.keep hf fun _ _ x => x
    obtain ⟨c7, c9⟩ := hAc.cells
    have f7 := free_at hAc.box 7
    have HX := Lib.hid (And.intro hb (And.intro hf hAc))
    clear hb hf hAc hb0 hf0 hvW
    go_wp2_with (at_builtin; refine append_bytes_at rfl _ _ rfl 0 _ _ s.out ([] : List UInt8) rfl HX.out.2.2.out rfl HX.out.1 (by have h1 := HO.out; have h2 := HLn.out; omega) (Nat.zero_le _) ?_)
    intro v' w4 hown hgrow hat
    obtain ⟨xa, xn, xc, rfl, -⟩ := hown.rd.len
    have HY := Lib.hid (HA.out.wrote HX.out.2.1 hown hgrow hat)
    obtain ⟨hcold, hfr⟩ := HY.out.1
    clear hown hgrow hat c7 c9 f7
    go_wp2
    go_ret
    first
      | exact ⟨rfl, ⟨_, _, HY.out.2.1⟩, HY.out.2.2⟩
      | (refine ⟨rfl, ⟨.slice xa xn xc, uv, ?_⟩, HY.out.2.2⟩; simpa [SSt.add] using HY.out.2.1)

theorem S_bin5 (p : Nat) (c : ConfV) (w : World) (s : SSt) (t k sz id n : Int) (v : Value) (l : List UInt8) (hv : Rd w v l) (hl : l.length ≤ 1000000) (h : SwI p c w s) (hout : s.out.length ≤ 10000000000) :
    Calls Tryz.prog 92 #[.pointer (some ⟨p, 0, none⟩), .agg (stepA 5 t k sz id n v)] w (SR p c w 0 (s.add ([]))) := by
  obtain ⟨ov, uv, hA⟩ := h
  obtain ⟨i0, hi, hz0, hz1, hz2⟩ := info_parts info_u8
  have HI := Lib.hid (And.intro hi (And.intro hz0 (And.intro hz1 hz2)))
  obtain ⟨va, vn, vc, rfl, hvn⟩ := hv.len
  have hb0 := alloc_new w (.cells (stepA 5 t k sz id n (.slice va vn vc)) 239 (0, 0))
  have hf0 : Fr noF noF w (w.alloc (.cells (stepA 5 t k sz id n (.slice va vn vc)) 239 (0, 0))) := (Fr.refl noF w).alloc _
  obtain ⟨W, hW⟩ : ∃ W, W = w.alloc (.cells (stepA 5 t k sz id n (.slice va vn vc)) 239 (0, 0)) := ⟨_, rfl⟩
  have hlen : ([] : List UInt8).length ≤ 10000000 := by simp
  have hq : ∀ X : World, X.heap[w.heap.size]? = some (.cells (stepA 5 t k sz id n (.slice va vn vc)) 239 (0, 0)) → X.cell? ⟨w.heap.size, 0, none⟩ = some (.int .i64 5) := fun X hX => by rw [cell_at hX]; rfl
  have HQ := Lib.hid hq
  have hvW := hv.keep (F := noF) (F' := noF) hf0 fun _ _ x => x
  have HA := Lib.hid hA
  have HO := Lib.hid hout
  have HW := Lib.hid hW
  have HLn := Lib.hid hlen
  have HV := Lib.hid (And.intro hv (And.intro hl hvn))
  rw [← hW] at hf0 hb0 hvW
  clear hi hz0 hz1 hz2 hA hout hq hW hlen hv hl hvn 
  go_enter Tryz.func92, Tryz.ntmps92
  go_upto_block 0 with fail
  rw [← HW.out]
  go_cut [5] (fun s5 wx => ∃ xa xn xc, s5 = .slice xa xn xc ∧ Rd wx (.slice xa xn xc) ([] : List UInt8) ∧ Fr noF noF w wx)
  case first =>
    have q0 := HQ.out _ hb0
    go_wp2_with fail
    go_meet
    exact ⟨none, 0, 0, rfl, Or.inl ⟨rfl, rfl⟩, hf0⟩
  case rest =>
    obtain ⟨ba, bn, bc, rfl, hb, hf⟩ := hcut
    have hAc := HA.out.keep hf fun _ _ x => x
    obtain ⟨c7, c9⟩ := hAc.cells
    have f7 := free_at hAc.box 7
    have HX := Lib.hid (And.intro hb (And.intro hf hAc))
    clear hb hf hAc hb0 hf0 hvW
    go_wp2_with (at_builtin; refine append_bytes_at rfl _ _ rfl 0 _ _ s.out ([] : List UInt8) rfl HX.out.2.2.out rfl HX.out.1 (by have h1 := HO.out; have h2 := HLn.out; omega) (Nat.zero_le _) ?_)
    intro v' w4 hown hgrow hat
    obtain ⟨xa, xn, xc, rfl, -⟩ := hown.rd.len
    have HY := Lib.hid (HA.out.wrote HX.out.2.1 hown hgrow hat)
    obtain ⟨hcold, hfr⟩ := HY.out.1
    clear hown hgrow hat c7 c9 f7
    go_wp2
    go_ret
    first
      | exact ⟨rfl, ⟨_, _, HY.out.2.1⟩, HY.out.2.2⟩
      | (refine ⟨rfl, ⟨.slice xa xn xc, uv, ?_⟩, HY.out.2.2⟩; simpa [SSt.add] using HY.out.2.1)

theorem S_bin8 (p : Nat) (c : ConfV) (w : World) (s : SSt) (t k sz id n : Int) (v : Value) (l : List UInt8) (hv : Rd w v l) (hl : l.length ≤ 1000000) (h : SwI p c w s) (hout : s.out.length ≤ 10000000000) :
    Calls Tryz.prog 92 #[.pointer (some ⟨p, 0, none⟩), .agg (stepA 8 t k sz id n v)] w (SR p c w 0 (s.add ([]))) := by
  obtain ⟨ov, uv, hA⟩ := h
  obtain ⟨i0, hi, hz0, hz1, hz2⟩ := info_parts info_u8
  have HI := Lib.hid (And.intro hi (And.intro hz0 (And.intro hz1 hz2)))
  obtain ⟨va, vn, vc, rfl, hvn⟩ := hv.len
  have hb0 := alloc_new w (.cells (stepA 8 t k sz id n (.slice va vn vc)) 239 (0, 0))
  have hf0 : Fr noF noF w (w.alloc (.cells (stepA 8 t k sz id n (.slice va vn vc)) 239 (0, 0))) := (Fr.refl noF w).alloc _
  obtain ⟨W, hW⟩ : ∃ W, W = w.alloc (.cells (stepA 8 t k sz id n (.slice va vn vc)) 239 (0, 0)) := ⟨_, rfl⟩
  have hlen : ([] : List UInt8).length ≤ 10000000 := by simp
  have hq : ∀ X : World, X.heap[w.heap.size]? = some (.cells (stepA 8 t k sz id n (.slice va vn vc)) 239 (0, 0)) → X.cell? ⟨w.heap.size, 0, none⟩ = some (.int .i64 8) := fun X hX => by rw [cell_at hX]; rfl
  have HQ := Lib.hid hq
  have hvW := hv.keep (F := noF) (F' := noF) hf0 fun _ _ x => x
  have HA := Lib.hid hA
  have HO := Lib.hid hout
  have HW := Lib.hid hW
  have HLn := Lib.hid hlen
  have HV := Lib.hid (And.intro hv (And.intro hl hvn))
  rw [← hW] at hf0 hb0 hvW
  clear hi hz0 hz1 hz2 hA hout hq hW hlen hv hl hvn 
  go_enter Tryz.func92, Tryz.ntmps92
  go_upto_block 0 with fail
  rw [← HW.out]
  go_cut [5] (fun s5 wx => ∃ xa xn xc, s5 = .slice xa xn xc ∧ Rd wx (.slice xa xn xc) ([] : List UInt8) ∧ Fr noF noF w wx)
  case first =>
    have q0 := HQ.out _ hb0
    go_wp2_with fail
    go_meet
    exact ⟨none, 0, 0, rfl, Or.inl ⟨rfl, rfl⟩, hf0⟩
  case rest =>
    obtain ⟨ba, bn, bc, rfl, hb, hf⟩ := hcut
    have hAc := HA.out.keep hf fun _ _ x => x
    obtain ⟨c7, c9⟩ := hAc.cells
    have f7 := free_at hAc.box 7
    have HX := Lib.hid (And.intro hb (And.intro hf hAc))
    clear hb hf hAc hb0 hf0 hvW
    go_wp2_with (at_builtin; refine append_bytes_at rfl _ _ rfl 0 _ _ s.out ([] : List UInt8) rfl HX.out.2.2.out rfl HX.out.1 (by have h1 := HO.out; have h2 := HLn.out; omega) (Nat.zero_le _) ?_)
    intro v' w4 hown hgrow hat
    obtain ⟨xa, xn, xc, rfl, -⟩ := hown.rd.len
    have HY := Lib.hid (HA.out.wrote HX.out.2.1 hown hgrow hat)
    obtain ⟨hcold, hfr⟩ := HY.out.1
    clear hown hgrow hat c7 c9 f7
    go_wp2
    go_ret
    first
      | exact ⟨rfl, ⟨_, _, HY.out.2.1⟩, HY.out.2.2⟩
      | (refine ⟨rfl, ⟨.slice xa xn xc, uv, ?_⟩, HY.out.2.2⟩; simpa [SSt.add] using HY.out.2.1)

theorem S_bin10 (p : Nat) (c : ConfV) (w : World) (s : SSt) (t k sz id n : Int) (v : Value) (l : List UInt8) (hv : Rd w v l) (hl : l.length ≤ 1000000) (h : SwI p c w s) (hout : s.out.length ≤ 10000000000) :
    Calls Tryz.prog 92 #[.pointer (some ⟨p, 0, none⟩), .agg (stepA 10 t k sz id n v)] w (SR p c w 0 (s.add ([]))) := by
  obtain ⟨ov, uv, hA⟩ := h
  obtain ⟨i0, hi, hz0, hz1, hz2⟩ := info_parts info_u8
  have HI := Lib.hid (And.intro hi (And.intro hz0 (And.intro hz1 hz2)))
  obtain ⟨va, vn, vc, rfl, hvn⟩ := hv.len
  have hb0 := alloc_new w (.cells (stepA 10 t k sz id n (.slice va vn vc)) 239 (0, 0))
  have hf0 : Fr noF noF w (w.alloc (.cells (stepA 10 t k sz id n (.slice va vn vc)) 239 (0, 0))) := (Fr.refl noF w).alloc _
  obtain ⟨W, hW⟩ : ∃ W, W = w.alloc (.cells (stepA 10 t k sz id n (.slice va vn vc)) 239 (0, 0)) := ⟨_, rfl⟩
  have hlen : ([] : List UInt8).length ≤ 10000000 := by simp
  have hq : ∀ X : World, X.heap[w.heap.size]? = some (.cells (stepA 10 t k sz id n (.slice va vn vc)) 239 (0, 0)) → X.cell? ⟨w.heap.size, 0, none⟩ = some (.int .i64 10) := fun X hX => by rw [cell_at hX]; rfl
  have HQ := Lib.hid hq
  have hvW := hv.keep (F := noF) (F' := noF) hf0 fun _ _ x => x
  have HA := Lib.hid hA
  have HO := Lib.hid hout
  have HW := Lib.hid hW
  have HLn := Lib.hid hlen
  have HV := Lib.hid (And.intro hv (And.intro hl hvn))
  rw [← hW] at hf0 hb0 hvW
  clear hi hz0 hz1 hz2 hA hout hq hW hlen hv hl hvn 
  go_enter Tryz.func92, Tryz.ntmps92
  go_upto_block 0 with fail
  rw [← HW.out]
  go_cut [5] (fun s5 wx => ∃ xa xn xc, s5 = .slice xa xn xc ∧ Rd wx (.slice xa xn xc) ([] : List UInt8) ∧ Fr noF noF w wx)
  case first =>
    have q0 := HQ.out _ hb0
    go_wp2_with fail
    go_meet
    exact ⟨none, 0, 0, rfl, Or.inl ⟨rfl, rfl⟩, hf0⟩
  case rest =>
    obtain ⟨ba, bn, bc, rfl, hb, hf⟩ := hcut
    have hAc := HA.out.keep hf fun _ _ x => x
    obtain ⟨c7, c9⟩ := hAc.cells
    have f7 := free_at hAc.box 7
    have HX := Lib.hid (And.intro hb (And.intro hf hAc))
    clear hb hf hAc hb0 hf0 hvW
    go_wp2_with (at_builtin; refine append_bytes_at rfl _ _ rfl 0 _ _ s.out ([] : List UInt8) rfl HX.out.2.2.out rfl HX.out.1 (by have h1 := HO.out; have h2 := HLn.out; omega) (Nat.zero_le _) ?_)
    intro v' w4 hown hgrow hat
    obtain ⟨xa, xn, xc, rfl, -⟩ := hown.rd.len
    have HY := Lib.hid (HA.out.wrote HX.out.2.1 hown hgrow hat)
    obtain ⟨hcold, hfr⟩ := HY.out.1
    clear hown hgrow hat c7 c9 f7
    go_wp2
    go_ret
    first
      | exact ⟨rfl, ⟨_, _, HY.out.2.1⟩, HY.out.2.2⟩
      | (refine ⟨rfl, ⟨.slice xa xn xc, uv, ?_⟩, HY.out.2.2⟩; simpa [SSt.add] using HY.out.2.1)

theorem S_bin12 (p : Nat) (c : ConfV) (w : World) (s : SSt) (t k sz id n : Int) (v : Value) (l : List UInt8) (hv : Rd w v l) (hl : l.length ≤ 1000000) (h : SwI p c w s) (hout : s.out.length ≤ 10000000000) :
    Calls Tryz.prog 92 #[.pointer (some ⟨p, 0, none⟩), .agg (stepA 12 t k sz id n v)] w (SR p c w 0 (s.add ([]))) := by
  obtain ⟨ov, uv, hA⟩ := h
  obtain ⟨i0, hi, hz0, hz1, hz2⟩ := info_parts info_u8
  have HI := Lib.hid (And.intro hi (And.intro hz0 (And.intro hz1 hz2)))
  obtain ⟨va, vn, vc, rfl, hvn⟩ := hv.len
  have hb0 := alloc_new w (.cells (stepA 12 t k sz id n (.slice va vn vc)) 239 (0, 0))
  have hf0 : Fr noF noF w (w.alloc (.cells (stepA 12 t k sz id n (.slice va vn vc)) 239 (0, 0))) := (Fr.refl noF w).alloc _
  obtain ⟨W, hW⟩ : ∃ W, W = w.alloc (.cells (stepA 12 t k sz id n (.slice va vn vc)) 239 (0, 0)) := ⟨_, rfl⟩
  have hlen : ([] : List UInt8).length ≤ 10000000 := by simp
  have hq : ∀ X : World, X.heap[w.heap.size]? = some (.cells (stepA 12 t k sz id n (.slice va vn vc)) 239 (0, 0)) → X.cell? ⟨w.heap.size, 0, none⟩ = some (.int .i64 12) := fun X hX => by rw [cell_at hX]; rfl
  have HQ := Lib.hid hq
  have hvW := hv.keep (F := noF) (F' := noF) hf0 fun _ _ x => x
  have HA := Lib.hid hA
  have HO := Lib.hid hout
  have HW := Lib.hid hW
  have HLn := Lib.hid hlen
  have HV := Lib.hid (And.intro hv (And.intro hl hvn))
  rw [← hW] at hf0 hb0 hvW
  clear hi hz0 hz1 hz2 hA hout hq hW hlen hv hl hvn 
  go_enter Tryz.func92, Tryz.ntmps92
  go_upto_block 0 with fail
  rw [← HW.out]
  go_cut [5] (fun s5 wx => ∃ xa xn xc, s5 = .slice xa xn xc ∧ Rd wx (.slice xa xn xc) ([] : List UInt8) ∧ Fr noF noF w wx)
  case first =>
    have q0 := HQ.out _ hb0
    go_wp2_with fail
    go_meet
    exact ⟨none, 0, 0, rfl, Or.inl ⟨rfl, rfl⟩, hf0⟩
  case rest =>
    obtain ⟨ba, bn, bc, rfl, hb, hf⟩ := hcut
    have hAc := HA.out.keep hf fun _ _ x => x
    obtain ⟨c7, c9⟩ := hAc.cells
    have f7 := free_at hAc.box 7
    have HX := Lib.hid (And.intro hb (And.intro hf hAc))
    clear hb hf hAc hb0 hf0 hvW
    go_wp2_with (at_builtin; refine append_bytes_at rfl _ _ rfl 0 _ _ s.out ([] : List UInt8) rfl HX.out.2.2.out rfl HX.out.1 (by have h1 := HO.out; have h2 := HLn.out; omega) (Nat.zero_le _) ?_)
    intro v' w4 hown hgrow hat
    obtain ⟨xa, xn, xc, rfl, -⟩ := hown.rd.len
    have HY := Lib.hid (HA.out.wrote HX.out.2.1 hown hgrow hat)
    obtain ⟨hcold, hfr⟩ := HY.out.1
    clear hown hgrow hat c7 c9 f7
    go_wp2
    go_ret
    first
      | exact ⟨rfl, ⟨_, _, HY.out.2.1⟩, HY.out.2.2⟩
      | (refine ⟨rfl, ⟨.slice xa xn xc, uv, ?_⟩, HY.out.2.2⟩; simpa [SSt.add] using HY.out.2.1)

theorem S_bin4 (p : Nat) (c : ConfV) (w : World) (s : SSt) (t k sz id n : Int) (v : Value) (l : List UInt8) (hv : Rd w v l) (hl : l.length ≤ 1000000) (h : SwI p c w s) (hout : s.out.length ≤ 10000000000) :
    Calls Tryz.prog 92 #[.pointer (some ⟨p, 0, none⟩), .agg (stepA 4 t k sz id n v)] w (SR p c w 0 (s.add (b8 t :: be2 id))) := by
  obtain ⟨ov, uv, hA⟩ := h
  obtain ⟨i0, hi, hz0, hz1, hz2⟩ := info_parts info_u8
  have HI := Lib.hid (And.intro hi (And.intro hz0 (And.intro hz1 hz2)))
  obtain ⟨va, vn, vc, rfl, hvn⟩ := hv.len
  have hb0 := alloc_new w (.cells (stepA 4 t k sz id n (.slice va vn vc)) 239 (0, 0))
  have hf0 : Fr noF noF w (w.alloc (.cells (stepA 4 t k sz id n (.slice va vn vc)) 239 (0, 0))) := (Fr.refl noF w).alloc _
  obtain ⟨W, hW⟩ : ∃ W, W = w.alloc (.cells (stepA 4 t k sz id n (.slice va vn vc)) 239 (0, 0)) := ⟨_, rfl⟩
  have hlen : (b8 t :: be2 id : List UInt8).length ≤ 10000000 := by simp [be2_length]
  have hg1 : ∀ X, Calls Tryz.prog 97 #[.int .i64 id, .int .i64 2] X (fun e w' => ∃ g c, e = .returned (.slice (some ⟨g, 0, none⟩) 2 c) ∧ w'.ownsRow 0 U8 1 (.slice (some ⟨g, 0, none⟩) 2 c) 2 (Lib.byteCells (be2 id)) ∧ X.heap.size ≤ g ∧ Fr noF noF X w') := fun X => by
    have := big_new (id) 2 (by decide) (by decide) X
    rw [bigB_2] at this
    exact this
  have hq : ∀ X : World, X.heap[w.heap.size]? = some (.cells (stepA 4 t k sz id n (.slice va vn vc)) 239 (0, 0)) → X.cell? ⟨w.heap.size, 0, none⟩ = some (.int .i64 4) ∧ X.cell? ⟨w.heap.size, 1, none⟩ = some (.int .i64 t) ∧ X.cell? ⟨w.heap.size, 4, none⟩ = some (.int .i64 id) := fun X hX => ⟨by rw [cell_at hX]; rfl, by rw [cell_at hX]; rfl, by rw [cell_at hX]; rfl⟩
  have HQ := Lib.hid hq
  have HG1 := Lib.hid hg1
  have hvW := hv.keep (F := noF) (F' := noF) hf0 fun _ _ x => x
  have HA := Lib.hid hA
  have HO := Lib.hid hout
  have HW := Lib.hid hW
  have HLn := Lib.hid hlen
  have HV := Lib.hid (And.intro hv (And.intro hl hvn))
  rw [← hW] at hf0 hb0 hvW
  clear hi hz0 hz1 hz2 hA hout hq hW hlen hv hl hvn hg1
  go_enter Tryz.func92, Tryz.ntmps92
  go_upto_block 0 with fail
  rw [← HW.out]
  go_cut [5] (fun s5 wx => ∃ xa xn xc, s5 = .slice xa xn xc ∧ Rd wx (.slice xa xn xc) (b8 t :: be2 id : List UInt8) ∧ Fr noF noF w wx)
  case first =>
    have q0 := HQ.out _ hb0
    go_wp2_with fail
    have q1 := HQ.out _ (drew_at hb0)
    go_region_held3 (fun w' => w'.cell? ⟨w.heap.size, 0, none⟩ = some (.int .i64 4) ∧ w'.cell? ⟨w.heap.size, 1, none⟩ = some (.int .i64 t) ∧ w'.cell? ⟨w.heap.size, 4, none⟩ = some (.int .i64 id)) (first | with_reducible assumption | ((with_reducible refine HQ.out _ ?_); (focus ((repeat (first | with_reducible assumption | with_reducible exact alloc_new _ _ | ((with_reducible refine alloc_newE ?_); (first | with_reducible rfl | (simp; done))) | with_reducible refine alloc_at ?_ | with_reducible refine drew_at ?_ | with_reducible refine Fr.block (F := noF) (F' := noF) (by with_reducible assumption) ?_ (fun x => x) | fail)); done))) | fail) (first | ((with_reducible refine (HG1.out _).mono ?_); rintro e Y ⟨gg, gc, rfl, hgr, hgn, hgf⟩; have sy := HQ.out Y (by (focus ((repeat (first | with_reducible assumption | with_reducible exact alloc_new _ _ | ((with_reducible refine alloc_newE ?_); (first | with_reducible rfl | (simp; done))) | with_reducible refine alloc_at ?_ | with_reducible refine drew_at ?_ | with_reducible refine Fr.block (F := noF) (F' := noF) (by with_reducible assumption) ?_ (fun x => x) | fail)); done)))) | ((refine step_append_lies _ (by rfl) _ _ _ (by rfl) 0 U8 i0 (.int .u8 0) 1 1 Tryz.underlying24 HI.out.1 HI.out.2.1 HI.out.2.2.1 HI.out.2.2.2 rfl (by decide) _ 1 (Lib.byteCells [b8 t]) (by rfl) ?_ ⟨gg, 0, none⟩ 2 gc (Lib.byteCells (be2 id)) (by rfl) (by rw [bcells_length]; rfl) ?_ (Lib.byteCells_one _) (by decide) (by decide) (by decide) (Nat.zero_le _) _ rfl ?_); ((refine own_one (u8_wrap_b8 t) ?_); (focus ((repeat (first | with_reducible assumption | with_reducible exact alloc_new _ _ | ((with_reducible refine alloc_newE ?_); (first | with_reducible rfl | (simp; done))) | with_reducible refine alloc_at ?_ | with_reducible refine drew_at ?_ | with_reducible refine Fr.block (F := noF) (F' := noF) (by with_reducible assumption) ?_ (fun x => x) | fail)); done))); ((refine news_of (owns_fr hgr ?_) rfl); (focus ((repeat (first | with_reducible exact Fr.refl _ _ | with_reducible assumption | with_reducible refine Fr.alloc ?_ _ | with_reducible refine Fr.drew ?_ | with_reducible refine Fr.drewN ?_ _ | with_reducible refine Fr.trans (F' := noF) ?_ (by with_reducible assumption) | fail)); done))); intro ng cap Z hown hgrow hlies hlt; have sz := HQ.out Z (keep_app hgrow (by (focus ((repeat (first | with_reducible assumption | with_reducible exact alloc_new _ _ | ((with_reducible refine alloc_newE ?_); (first | with_reducible rfl | (simp; done))) | with_reducible refine alloc_at ?_ | with_reducible refine drew_at ?_ | with_reducible refine Fr.block (F := noF) (F' := noF) (by with_reducible assumption) ?_ (fun x => x) | fail)); done))) (by have h1 := lt_heap hb0; have h2 := hgf.size; simp only [World.size_alloc, World.size_drew] at h2; omega))) | fail)
    all_goals go_wp2_with fail
    all_goals go_meet
    all_goals exact ⟨_, _, _, rfl, rd_of (owns_cat hown) rfl, fr_app (by (focus ((repeat (first | with_reducible exact Fr.refl _ _ | with_reducible assumption | with_reducible refine Fr.alloc ?_ _ | with_reducible refine Fr.drew ?_ | with_reducible refine Fr.drewN ?_ _ | with_reducible refine Fr.trans (F' := noF) ?_ (by with_reducible assumption) | fail)); done))) hgrow (by have h1 := hf0.size; have h2 := hgf.size; simp only [World.size_alloc, World.size_drew] at h2; omega)⟩
  case rest =>
    obtain ⟨ba, bn, bc, rfl, hb, hf⟩ := hcut
    have hAc := HA.out.keep hf fun _ _ x => x
    obtain ⟨c7, c9⟩ := hAc.cells
    have f7 := free_at hAc.box 7
    have HX := Lib.hid (And.intro hb (And.intro hf hAc))
    clear hb hf hAc hb0 hf0 hvW
    go_wp2_with (at_builtin; refine append_bytes_at rfl _ _ rfl 0 _ _ s.out (b8 t :: be2 id : List UInt8) rfl HX.out.2.2.out rfl HX.out.1 (by have h1 := HO.out; have h2 := HLn.out; omega) (Nat.zero_le _) ?_)
    intro v' w4 hown hgrow hat
    obtain ⟨xa, xn, xc, rfl, -⟩ := hown.rd.len
    have HY := Lib.hid (HA.out.wrote HX.out.2.1 hown hgrow hat)
    obtain ⟨hcold, hfr⟩ := HY.out.1
    clear hown hgrow hat c7 c9 f7
    go_wp2
    go_ret
    first
      | exact ⟨rfl, ⟨_, _, HY.out.2.1⟩, HY.out.2.2⟩
      | (refine ⟨rfl, ⟨.slice xa xn xc, uv, ?_⟩, HY.out.2.2⟩; simpa [SSt.add] using HY.out.2.1)

theorem S_bin6 (p : Nat) (c : ConfV) (w : World) (s : SSt) (t k sz id n : Int) (v : Value) (l : List UInt8) (hv : Rd w v l) (hl : l.length ≤ 1000000) (h : SwI p c w s) (hout : s.out.length ≤ 10000000000) :
    Calls Tryz.prog 92 #[.pointer (some ⟨p, 0, none⟩), .agg (stepA 6 t k sz id n v)] w (SR p c w 0 (s.add ([0]))) := by
  obtain ⟨ov, uv, hA⟩ := h
  obtain ⟨i0, hi, hz0, hz1, hz2⟩ := info_parts info_u8
  have HI := Lib.hid (And.intro hi (And.intro hz0 (And.intro hz1 hz2)))
  obtain ⟨va, vn, vc, rfl, hvn⟩ := hv.len
  have hb0 := alloc_new w (.cells (stepA 6 t k sz id n (.slice va vn vc)) 239 (0, 0))
  have hf0 : Fr noF noF w (w.alloc (.cells (stepA 6 t k sz id n (.slice va vn vc)) 239 (0, 0))) := (Fr.refl noF w).alloc _
  obtain ⟨W, hW⟩ : ∃ W, W = w.alloc (.cells (stepA 6 t k sz id n (.slice va vn vc)) 239 (0, 0)) := ⟨_, rfl⟩
  have hlen : ([0] : List UInt8).length ≤ 10000000 := by simp
  have hq : ∀ X : World, X.heap[w.heap.size]? = some (.cells (stepA 6 t k sz id n (.slice va vn vc)) 239 (0, 0)) → X.cell? ⟨w.heap.size, 0, none⟩ = some (.int .i64 6) := fun X hX => by rw [cell_at hX]; rfl
  have HQ := Lib.hid hq
  have hvW := hv.keep (F := noF) (F' := noF) hf0 fun _ _ x => x
  have HA := Lib.hid hA
  have HO := Lib.hid hout
  have HW := Lib.hid hW
  have HLn := Lib.hid hlen
  have HV := Lib.hid (And.intro hv (And.intro hl hvn))
  rw [← hW] at hf0 hb0 hvW
  clear hi hz0 hz1 hz2 hA hout hq hW hlen hv hl hvn 
  go_enter Tryz.func92, Tryz.ntmps92
  go_upto_block 0 with fail
  rw [← HW.out]
  go_cut [5] (fun s5 wx => ∃ xa xn xc, s5 = .slice xa xn xc ∧ Rd wx (.slice xa xn xc) ([0] : List UInt8) ∧ Fr noF noF w wx)
  case first =>
    have q0 := HQ.out _ hb0
    go_wp2_with fail
    go_meet
    exact ⟨_, _, _, rfl, own_byte (show (0 : Int) = ((0 : UInt8).toNat : Int) from rfl) (by (focus ((repeat (first | with_reducible assumption | with_reducible exact alloc_new _ _ | ((with_reducible refine alloc_newE ?_); (first | with_reducible rfl | (simp; done))) | with_reducible refine alloc_at ?_ | with_reducible refine drew_at ?_ | with_reducible refine Fr.block (F := noF) (F' := noF) (by with_reducible assumption) ?_ (fun x => x) | fail)); done))), by (focus ((repeat (first | with_reducible exact Fr.refl _ _ | with_reducible assumption | with_reducible refine Fr.alloc ?_ _ | with_reducible refine Fr.drew ?_ | with_reducible refine Fr.drewN ?_ _ | with_reducible refine Fr.trans (F' := noF) ?_ (by with_reducible assumption) | fail)); done))⟩
  case rest =>
    obtain ⟨ba, bn, bc, rfl, hb, hf⟩ := hcut
    have hAc := HA.out.keep hf fun _ _ x => x
    obtain ⟨c7, c9⟩ := hAc.cells
    have f7 := free_at hAc.box 7
    have HX := Lib.hid (And.intro hb (And.intro hf hAc))
    clear hb hf hAc hb0 hf0 hvW
    go_wp2_with (at_builtin; refine append_bytes_at rfl _ _ rfl 0 _ _ s.out ([0] : List UInt8) rfl HX.out.2.2.out rfl HX.out.1 (by have h1 := HO.out; have h2 := HLn.out; omega) (Nat.zero_le _) ?_)
    intro v' w4 hown hgrow hat
    obtain ⟨xa, xn, xc, rfl, -⟩ := hown.rd.len
    have HY := Lib.hid (HA.out.wrote HX.out.2.1 hown hgrow hat)
    obtain ⟨hcold, hfr⟩ := HY.out.1
    clear hown hgrow hat c7 c9 f7
    go_wp2
    go_ret
    first
      | exact ⟨rfl, ⟨_, _, HY.out.2.1⟩, HY.out.2.2⟩
      | (refine ⟨rfl, ⟨.slice xa xn xc, uv, ?_⟩, HY.out.2.2⟩; simpa [SSt.add] using HY.out.2.1)

theorem S_bin7 (p : Nat) (c : ConfV) (w : World) (s : SSt) (t k sz id n : Int) (v : Value) (l : List UInt8) (hv : Rd w v l) (hl : l.length ≤ 1000000) (h : SwI p c w s) (hout : s.out.length ≤ 10000000000) :
    Calls Tryz.prog 92 #[.pointer (some ⟨p, 0, none⟩), .agg (stepA 7 t k sz id n v)] w (SR p c w 0 (s.add (b8 k :: b8 t :: be4 sz))) := by
  obtain ⟨ov, uv, hA⟩ := h
  obtain ⟨i0, hi, hz0, hz1, hz2⟩ := info_parts info_u8
  have HI := Lib.hid (And.intro hi (And.intro hz0 (And.intro hz1 hz2)))
  obtain ⟨va, vn, vc, rfl, hvn⟩ := hv.len
  have hb0 := alloc_new w (.cells (stepA 7 t k sz id n (.slice va vn vc)) 239 (0, 0))
  have hf0 : Fr noF noF w (w.alloc (.cells (stepA 7 t k sz id n (.slice va vn vc)) 239 (0, 0))) := (Fr.refl noF w).alloc _
  obtain ⟨W, hW⟩ : ∃ W, W = w.alloc (.cells (stepA 7 t k sz id n (.slice va vn vc)) 239 (0, 0)) := ⟨_, rfl⟩
  have hlen : (b8 k :: b8 t :: be4 sz : List UInt8).length ≤ 10000000 := by simp [be4_length]
  have hg1 : ∀ X, Calls Tryz.prog 97 #[.int .i64 sz, .int .i64 4] X (fun e w' => ∃ g c, e = .returned (.slice (some ⟨g, 0, none⟩) 4 c) ∧ w'.ownsRow 0 U8 1 (.slice (some ⟨g, 0, none⟩) 4 c) 4 (Lib.byteCells (be4 sz)) ∧ X.heap.size ≤ g ∧ Fr noF noF X w') := fun X => by
    have := big_new (sz) 4 (by decide) (by decide) X
    rw [bigB_4] at this
    exact this
  have hq : ∀ X : World, X.heap[w.heap.size]? = some (.cells (stepA 7 t k sz id n (.slice va vn vc)) 239 (0, 0)) → X.cell? ⟨w.heap.size, 0, none⟩ = some (.int .i64 7) ∧ X.cell? ⟨w.heap.size, 1, none⟩ = some (.int .i64 t) ∧ X.cell? ⟨w.heap.size, 2, none⟩ = some (.int .i64 k) ∧ X.cell? ⟨w.heap.size, 3, none⟩ = some (.int .i64 sz) := fun X hX => ⟨by rw [cell_at hX]; rfl, by rw [cell_at hX]; rfl, by rw [cell_at hX]; rfl, by rw [cell_at hX]; rfl⟩
  have HQ := Lib.hid hq
  have HG1 := Lib.hid hg1
  have hvW := hv.keep (F := noF) (F' := noF) hf0 fun _ _ x => x
  have HA := Lib.hid hA
  have HO := Lib.hid hout
  have HW := Lib.hid hW
  have HLn := Lib.hid hlen
  have HV := Lib.hid (And.intro hv (And.intro hl hvn))
  rw [← hW] at hf0 hb0 hvW
  clear hi hz0 hz1 hz2 hA hout hq hW hlen hv hl hvn hg1
  go_enter Tryz.func92, Tryz.ntmps92
  go_upto_block 0 with fail
  rw [← HW.out]
  go_cut [5] (fun s5 wx => ∃ xa xn xc, s5 = .slice xa xn xc ∧ Rd wx (.slice xa xn xc) (b8 k :: b8 t :: be4 sz : List UInt8) ∧ Fr noF noF w wx)
  case first =>
    have q0 := HQ.out _ hb0
    go_wp2_with fail
    have q1 := HQ.out _ (drew_at hb0)
    go_region_held3 (fun w' => w'.cell? ⟨w.heap.size, 0, none⟩ = some (.int .i64 7) ∧ w'.cell? ⟨w.heap.size, 1, none⟩ = some (.int .i64 t) ∧ w'.cell? ⟨w.heap.size, 2, none⟩ = some (.int .i64 k) ∧ w'.cell? ⟨w.heap.size, 3, none⟩ = some (.int .i64 sz)) (first | with_reducible assumption | ((with_reducible refine HQ.out _ ?_); (focus ((repeat (first | with_reducible assumption | with_reducible exact alloc_new _ _ | ((with_reducible refine alloc_newE ?_); (first | with_reducible rfl | (simp; done))) | with_reducible refine alloc_at ?_ | with_reducible refine drew_at ?_ | with_reducible refine Fr.block (F := noF) (F' := noF) (by with_reducible assumption) ?_ (fun x => x) | fail)); done))) | fail) (first | ((with_reducible refine (HG1.out _).mono ?_); rintro e Y ⟨gg, gc, rfl, hgr, hgn, hgf⟩; have sy := HQ.out Y (by (focus ((repeat (first | with_reducible assumption | with_reducible exact alloc_new _ _ | ((with_reducible refine alloc_newE ?_); (first | with_reducible rfl | (simp; done))) | with_reducible refine alloc_at ?_ | with_reducible refine drew_at ?_ | with_reducible refine Fr.block (F := noF) (F' := noF) (by with_reducible assumption) ?_ (fun x => x) | fail)); done)))) | ((refine step_append_lies _ (by rfl) _ _ _ (by rfl) 0 U8 i0 (.int .u8 0) 1 1 Tryz.underlying24 HI.out.1 HI.out.2.1 HI.out.2.2.1 HI.out.2.2.2 rfl (by decide) _ 2 (Lib.byteCells [b8 k, b8 t]) (by rfl) ?_ ⟨gg, 0, none⟩ 4 gc (Lib.byteCells (be4 sz)) (by rfl) (by rw [bcells_length]; rfl) ?_ (Lib.byteCells_one _) (by decide) (by decide) (by decide) (Nat.zero_le _) _ rfl ?_); ((refine own_two (u8_wrap_b8 k) (u8_wrap_b8 t) ?_); (focus ((repeat (first | with_reducible assumption | with_reducible exact alloc_new _ _ | ((with_reducible refine alloc_newE ?_); (first | with_reducible rfl | (simp; done))) | with_reducible refine alloc_at ?_ | with_reducible refine drew_at ?_ | with_reducible refine Fr.block (F := noF) (F' := noF) (by with_reducible assumption) ?_ (fun x => x) | fail)); done))); ((refine news_of (owns_fr hgr ?_) rfl); (focus ((repeat (first | with_reducible exact Fr.refl _ _ | with_reducible assumption | with_reducible refine Fr.alloc ?_ _ | with_reducible refine Fr.drew ?_ | with_reducible refine Fr.drewN ?_ _ | with_reducible refine Fr.trans (F' := noF) ?_ (by with_reducible assumption) | fail)); done))); intro ng cap Z hown hgrow hlies hlt; have sz := HQ.out Z (keep_app hgrow (by (focus ((repeat (first | with_reducible assumption | with_reducible exact alloc_new _ _ | ((with_reducible refine alloc_newE ?_); (first | with_reducible rfl | (simp; done))) | with_reducible refine alloc_at ?_ | with_reducible refine drew_at ?_ | with_reducible refine Fr.block (F := noF) (F' := noF) (by with_reducible assumption) ?_ (fun x => x) | fail)); done))) (by have h1 := lt_heap hb0; have h2 := hgf.size; simp only [World.size_alloc, World.size_drew] at h2; omega))) | fail)
    all_goals go_wp2_with fail
    all_goals go_meet
    all_goals exact ⟨_, _, _, rfl, rd_of (owns_cat hown) rfl, fr_app (by (focus ((repeat (first | with_reducible exact Fr.refl _ _ | with_reducible assumption | with_reducible refine Fr.alloc ?_ _ | with_reducible refine Fr.drew ?_ | with_reducible refine Fr.drewN ?_ _ | with_reducible refine Fr.trans (F' := noF) ?_ (by with_reducible assumption) | fail)); done))) hgrow (by have h1 := hf0.size; have h2 := hgf.size; simp only [World.size_alloc, World.size_drew] at h2; omega)⟩
  case rest =>
    obtain ⟨ba, bn, bc, rfl, hb, hf⟩ := hcut
    have hAc := HA.out.keep hf fun _ _ x => x
    obtain ⟨c7, c9⟩ := hAc.cells
    have f7 := free_at hAc.box 7
    have HX := Lib.hid (And.intro hb (And.intro hf hAc))
    clear hb hf hAc hb0 hf0 hvW
    go_wp2_with (at_builtin; refine append_bytes_at rfl _ _ rfl 0 _ _ s.out (b8 k :: b8 t :: be4 sz : List UInt8) rfl HX.out.2.2.out rfl HX.out.1 (by have h1 := HO.out; have h2 := HLn.out; omega) (Nat.zero_le _) ?_)
    intro v' w4 hown hgrow hat
    obtain ⟨xa, xn, xc, rfl, -⟩ := hown.rd.len
    have HY := Lib.hid (HA.out.wrote HX.out.2.1 hown hgrow hat)
    obtain ⟨hcold, hfr⟩ := HY.out.1
    clear hown hgrow hat c7 c9 f7
    go_wp2
    go_ret
    first
      | exact ⟨rfl, ⟨_, _, HY.out.2.1⟩, HY.out.2.2⟩
      | (refine ⟨rfl, ⟨.slice xa xn xc, uv, ?_⟩, HY.out.2.2⟩; simpa [SSt.add] using HY.out.2.1)

theorem S_bin9 (p : Nat) (c : ConfV) (w : World) (s : SSt) (t k sz id n : Int) (v : Value) (l : List UInt8) (hv : Rd w v l) (hl : l.length ≤ 1000000) (h : SwI p c w s) (hout : s.out.length ≤ 10000000000) :
    Calls Tryz.prog 92 #[.pointer (some ⟨p, 0, none⟩), .agg (stepA 9 t k sz id n v)] w (SR p c w 0 (s.add (b8 t :: be4 sz))) := by
  obtain ⟨ov, uv, hA⟩ := h
  obtain ⟨i0, hi, hz0, hz1, hz2⟩ := info_parts info_u8
  have HI := Lib.hid (And.intro hi (And.intro hz0 (And.intro hz1 hz2)))
  obtain ⟨va, vn, vc, rfl, hvn⟩ := hv.len
  have hb0 := alloc_new w (.cells (stepA 9 t k sz id n (.slice va vn vc)) 239 (0, 0))
  have hf0 : Fr noF noF w (w.alloc (.cells (stepA 9 t k sz id n (.slice va vn vc)) 239 (0, 0))) := (Fr.refl noF w).alloc _
  obtain ⟨W, hW⟩ : ∃ W, W = w.alloc (.cells (stepA 9 t k sz id n (.slice va vn vc)) 239 (0, 0)) := ⟨_, rfl⟩
  have hlen : (b8 t :: be4 sz : List UInt8).length ≤ 10000000 := by simp [be4_length]
  have hg1 : ∀ X, Calls Tryz.prog 97 #[.int .i64 sz, .int .i64 4] X (fun e w' => ∃ g c, e = .returned (.slice (some ⟨g, 0, none⟩) 4 c) ∧ w'.ownsRow 0 U8 1 (.slice (some ⟨g, 0, none⟩) 4 c) 4 (Lib.byteCells (be4 sz)) ∧ X.heap.size ≤ g ∧ Fr noF noF X w') := fun X => by
    have := big_new (sz) 4 (by decide) (by decide) X
    rw [bigB_4] at this
    exact this
  have hq : ∀ X : World, X.heap[w.heap.size]? = some (.cells (stepA 9 t k sz id n (.slice va vn vc)) 239 (0, 0)) → X.cell? ⟨w.heap.size, 0, none⟩ = some (.int .i64 9) ∧ X.cell? ⟨w.heap.size, 1, none⟩ = some (.int .i64 t) ∧ X.cell? ⟨w.heap.size, 3, none⟩ = some (.int .i64 sz) := fun X hX => ⟨by rw [cell_at hX]; rfl, by rw [cell_at hX]; rfl, by rw [cell_at hX]; rfl⟩
  have HQ := Lib.hid hq
  have HG1 := Lib.hid hg1
  have hvW := hv.keep (F := noF) (F' := noF) hf0 fun _ _ x => x
  have HA := Lib.hid hA
  have HO := Lib.hid hout
  have HW := Lib.hid hW
  have HLn := Lib.hid hlen
  have HV := Lib.hid (And.intro hv (And.intro hl hvn))
  rw [← hW] at hf0 hb0 hvW
  clear hi hz0 hz1 hz2 hA hout hq hW hlen hv hl hvn hg1
  go_enter Tryz.func92, Tryz.ntmps92
  go_upto_block 0 with fail
  rw [← HW.out]
  go_cut [5] (fun s5 wx => ∃ xa xn xc, s5 = .slice xa xn xc ∧ Rd wx (.slice xa xn xc) (b8 t :: be4 sz : List UInt8) ∧ Fr noF noF w wx)
  case first =>
    have q0 := HQ.out _ hb0
    go_wp2_with fail
    have q1 := HQ.out _ (drew_at hb0)
    go_region_held3 (fun w' => w'.cell? ⟨w.heap.size, 0, none⟩ = some (.int .i64 9) ∧ w'.cell? ⟨w.heap.size, 1, none⟩ = some (.int .i64 t) ∧ w'.cell? ⟨w.heap.size, 3, none⟩ = some (.int .i64 sz)) (first | with_reducible assumption | ((with_reducible refine HQ.out _ ?_); (focus ((repeat (first | with_reducible assumption | with_reducible exact alloc_new _ _ | ((with_reducible refine alloc_newE ?_); (first | with_reducible rfl | (simp; done))) | with_reducible refine alloc_at ?_ | with_reducible refine drew_at ?_ | with_reducible refine Fr.block (F := noF) (F' := noF) (by with_reducible assumption) ?_ (fun x => x) | fail)); done))) | fail) (first | ((with_reducible refine (HG1.out _).mono ?_); rintro e Y ⟨gg, gc, rfl, hgr, hgn, hgf⟩; have sy := HQ.out Y (by (focus ((repeat (first | with_reducible assumption | with_reducible exact alloc_new _ _ | ((with_reducible refine alloc_newE ?_); (first | with_reducible rfl | (simp; done))) | with_reducible refine alloc_at ?_ | with_reducible refine drew_at ?_ | with_reducible refine Fr.block (F := noF) (F' := noF) (by with_reducible assumption) ?_ (fun x => x) | fail)); done)))) | ((refine step_append_lies _ (by rfl) _ _ _ (by rfl) 0 U8 i0 (.int .u8 0) 1 1 Tryz.underlying24 HI.out.1 HI.out.2.1 HI.out.2.2.1 HI.out.2.2.2 rfl (by decide) _ 1 (Lib.byteCells [b8 t]) (by rfl) ?_ ⟨gg, 0, none⟩ 4 gc (Lib.byteCells (be4 sz)) (by rfl) (by rw [bcells_length]; rfl) ?_ (Lib.byteCells_one _) (by decide) (by decide) (by decide) (Nat.zero_le _) _ rfl ?_); ((refine own_one (u8_wrap_b8 t) ?_); (focus ((repeat (first | with_reducible assumption | with_reducible exact alloc_new _ _ | ((with_reducible refine alloc_newE ?_); (first | with_reducible rfl | (simp; done))) | with_reducible refine alloc_at ?_ | with_reducible refine drew_at ?_ | with_reducible refine Fr.block (F := noF) (F' := noF) (by with_reducible assumption) ?_ (fun x => x) | fail)); done))); ((refine news_of (owns_fr hgr ?_) rfl); (focus ((repeat (first | with_reducible exact Fr.refl _ _ | with_reducible assumption | with_reducible refine Fr.alloc ?_ _ | with_reducible refine Fr.drew ?_ | with_reducible refine Fr.drewN ?_ _ | with_reducible refine Fr.trans (F' := noF) ?_ (by with_reducible assumption) | fail)); done))); intro ng cap Z hown hgrow hlies hlt; have sz := HQ.out Z (keep_app hgrow (by (focus ((repeat (first | with_reducible assumption | with_reducible exact alloc_new _ _ | ((with_reducible refine alloc_newE ?_); (first | with_reducible rfl | (simp; done))) | with_reducible refine alloc_at ?_ | with_reducible refine drew_at ?_ | with_reducible refine Fr.block (F := noF) (F' := noF) (by with_reducible assumption) ?_ (fun x => x) | fail)); done))) (by have h1 := lt_heap hb0; have h2 := hgf.size; simp only [World.size_alloc, World.size_drew] at h2; omega))) | fail)
    all_goals go_wp2_with fail
    all_goals go_meet
    all_goals exact ⟨_, _, _, rfl, rd_of (owns_cat hown) rfl, fr_app (by (focus ((repeat (first | with_reducible exact Fr.refl _ _ | with_reducible assumption | with_reducible refine Fr.alloc ?_ _ | with_reducible refine Fr.drew ?_ | with_reducible refine Fr.drewN ?_ _ | with_reducible refine Fr.trans (F' := noF) ?_ (by with_reducible assumption) | fail)); done))) hgrow (by have h1 := hf0.size; have h2 := hgf.size; simp only [World.size_alloc, World.size_drew] at h2; omega)⟩
  case rest =>
    obtain ⟨ba, bn, bc, rfl, hb, hf⟩ := hcut
    have hAc := HA.out.keep hf fun _ _ x => x
    obtain ⟨c7, c9⟩ := hAc.cells
    have f7 := free_at hAc.box 7
    have HX := Lib.hid (And.intro hb (And.intro hf hAc))
    clear hb hf hAc hb0 hf0 hvW
    go_wp2_with (at_builtin; refine append_bytes_at rfl _ _ rfl 0 _ _ s.out (b8 t :: be4 sz : List UInt8) rfl HX.out.2.2.out rfl HX.out.1 (by have h1 := HO.out; have h2 := HLn.out; omega) (Nat.zero_le _) ?_)
    intro v' w4 hown hgrow hat
    obtain ⟨xa, xn, xc, rfl, -⟩ := hown.rd.len
    have HY := Lib.hid (HA.out.wrote HX.out.2.1 hown hgrow hat)
    obtain ⟨hcold, hfr⟩ := HY.out.1
    clear hown hgrow hat c7 c9 f7
    go_wp2
    go_ret
    first
      | exact ⟨rfl, ⟨_, _, HY.out.2.1⟩, HY.out.2.2⟩
      | (refine ⟨rfl, ⟨.slice xa xn xc, uv, ?_⟩, HY.out.2.2⟩; simpa [SSt.add] using HY.out.2.1)

theorem S_bin11 (p : Nat) (c : ConfV) (w : World) (s : SSt) (t k sz id n : Int) (v : Value) (l : List UInt8) (hv : Rd w v l) (hl : l.length ≤ 1000000) (h : SwI p c w s) (hout : s.out.length ≤ 10000000000) :
    Calls Tryz.prog 92 #[.pointer (some ⟨p, 0, none⟩), .agg (stepA 11 t k sz id n v)] w (SR p c w 0 (s.add (b8 t :: be4 sz))) := by
  obtain ⟨ov, uv, hA⟩ := h
  obtain ⟨i0, hi, hz0, hz1, hz2⟩ := info_parts info_u8
  have HI := Lib.hid (And.intro hi (And.intro hz0 (And.intro hz1 hz2)))
  obtain ⟨va, vn, vc, rfl, hvn⟩ := hv.len
  have hb0 := alloc_new w (.cells (stepA 11 t k sz id n (.slice va vn vc)) 239 (0, 0))
  have hf0 : Fr noF noF w (w.alloc (.cells (stepA 11 t k sz id n (.slice va vn vc)) 239 (0, 0))) := (Fr.refl noF w).alloc _
  obtain ⟨W, hW⟩ : ∃ W, W = w.alloc (.cells (stepA 11 t k sz id n (.slice va vn vc)) 239 (0, 0)) := ⟨_, rfl⟩
  have hlen : (b8 t :: be4 sz : List UInt8).length ≤ 10000000 := by simp [be4_length]
  have hg1 : ∀ X, Calls Tryz.prog 97 #[.int .i64 sz, .int .i64 4] X (fun e w' => ∃ g c, e = .returned (.slice (some ⟨g, 0, none⟩) 4 c) ∧ w'.ownsRow 0 U8 1 (.slice (some ⟨g, 0, none⟩) 4 c) 4 (Lib.byteCells (be4 sz)) ∧ X.heap.size ≤ g ∧ Fr noF noF X w') := fun X => by
    have := big_new (sz) 4 (by decide) (by decide) X
    rw [bigB_4] at this
    exact this
  have hq : ∀ X : World, X.heap[w.heap.size]? = some (.cells (stepA 11 t k sz id n (.slice va vn vc)) 239 (0, 0)) → X.cell? ⟨w.heap.size, 0, none⟩ = some (.int .i64 11) ∧ X.cell? ⟨w.heap.size, 1, none⟩ = some (.int .i64 t) ∧ X.cell? ⟨w.heap.size, 3, none⟩ = some (.int .i64 sz) := fun X hX => ⟨by rw [cell_at hX]; rfl, by rw [cell_at hX]; rfl, by rw [cell_at hX]; rfl⟩
  have HQ := Lib.hid hq
  have HG1 := Lib.hid hg1
  have hvW := hv.keep (F := noF) (F' := noF) hf0 fun _ _ x => x
  have HA := Lib.hid hA
  have HO := Lib.hid hout
  have HW := Lib.hid hW
  have HLn := Lib.hid hlen
  have HV := Lib.hid (And.intro hv (And.intro hl hvn))
  rw [← hW] at hf0 hb0 hvW
  clear hi hz0 hz1 hz2 hA hout hq hW hlen hv hl hvn hg1
  go_enter Tryz.func92, Tryz.ntmps92
  go_upto_block 0 with fail
  rw [← HW.out]
  go_cut [5] (fun s5 wx => ∃ xa xn xc, s5 = .slice xa xn xc ∧ Rd wx (.slice xa xn xc) (b8 t :: be4 sz : List UInt8) ∧ Fr noF noF w wx)
  case first =>
    have q0 := HQ.out _ hb0
    go_wp2_with fail
    have q1 := HQ.out _ (drew_at hb0)
    go_region_held3 (fun w' => w'.cell? ⟨w.heap.size, 0, none⟩ = some (.int .i64 11) ∧ w'.cell? ⟨w.heap.size, 1, none⟩ = some (.int .i64 t) ∧ w'.cell? ⟨w.heap.size, 3, none⟩ = some (.int .i64 sz)) (first | with_reducible assumption | ((with_reducible refine HQ.out _ ?_); (focus ((repeat (first | with_reducible assumption | with_reducible exact alloc_new _ _ | ((with_reducible refine alloc_newE ?_); (first | with_reducible rfl | (simp; done))) | with_reducible refine alloc_at ?_ | with_reducible refine drew_at ?_ | with_reducible refine Fr.block (F := noF) (F' := noF) (by with_reducible assumption) ?_ (fun x => x) | fail)); done))) | fail) (first | ((with_reducible refine (HG1.out _).mono ?_); rintro e Y ⟨gg, gc, rfl, hgr, hgn, hgf⟩; have sy := HQ.out Y (by (focus ((repeat (first | with_reducible assumption | with_reducible exact alloc_new _ _ | ((with_reducible refine alloc_newE ?_); (first | with_reducible rfl | (simp; done))) | with_reducible refine alloc_at ?_ | with_reducible refine drew_at ?_ | with_reducible refine Fr.block (F := noF) (F' := noF) (by with_reducible assumption) ?_ (fun x => x) | fail)); done)))) | ((refine step_append_lies _ (by rfl) _ _ _ (by rfl) 0 U8 i0 (.int .u8 0) 1 1 Tryz.underlying24 HI.out.1 HI.out.2.1 HI.out.2.2.1 HI.out.2.2.2 rfl (by decide) _ 1 (Lib.byteCells [b8 t]) (by rfl) ?_ ⟨gg, 0, none⟩ 4 gc (Lib.byteCells (be4 sz)) (by rfl) (by rw [bcells_length]; rfl) ?_ (Lib.byteCells_one _) (by decide) (by decide) (by decide) (Nat.zero_le _) _ rfl ?_); ((refine own_one (u8_wrap_b8 t) ?_); (focus ((repeat (first | with_reducible assumption | with_reducible exact alloc_new _ _ | ((with_reducible refine alloc_newE ?_); (first | with_reducible rfl | (simp; done))) | with_reducible refine alloc_at ?_ | with_reducible refine drew_at ?_ | with_reducible refine Fr.block (F := noF) (F' := noF) (by with_reducible assumption) ?_ (fun x => x) | fail)); done))); ((refine news_of (owns_fr hgr ?_) rfl); (focus ((repeat (first | with_reducible exact Fr.refl _ _ | with_reducible assumption | with_reducible refine Fr.alloc ?_ _ | with_reducible refine Fr.drew ?_ | with_reducible refine Fr.drewN ?_ _ | with_reducible refine Fr.trans (F' := noF) ?_ (by with_reducible assumption) | fail)); done))); intro ng cap Z hown hgrow hlies hlt; have sz := HQ.out Z (keep_app hgrow (by (focus ((repeat (first | with_reducible assumption | with_reducible exact alloc_new _ _ | ((with_reducible refine alloc_newE ?_); (first | with_reducible rfl | (simp; done))) | with_reducible refine alloc_at ?_ | with_reducible refine drew_at ?_ | with_reducible refine Fr.block (F := noF) (F' := noF) (by with_reducible assumption) ?_ (fun x => x) | fail)); done))) (by have h1 := lt_heap hb0; have h2 := hgf.size; simp only [World.size_alloc, World.size_drew] at h2; omega))) | fail)
    all_goals go_wp2_with fail
    all_goals go_meet
    all_goals exact ⟨_, _, _, rfl, rd_of (owns_cat hown) rfl, fr_app (by (focus ((repeat (first | with_reducible exact Fr.refl _ _ | with_reducible assumption | with_reducible refine Fr.alloc ?_ _ | with_reducible refine Fr.drew ?_ | with_reducible refine Fr.drewN ?_ _ | with_reducible refine Fr.trans (F' := noF) ?_ (by with_reducible assumption) | fail)); done))) hgrow (by have h1 := hf0.size; have h2 := hgf.size; simp only [World.size_alloc, World.size_drew] at h2; omega)⟩
  case rest =>
    obtain ⟨ba, bn, bc, rfl, hb, hf⟩ := hcut
    have hAc := HA.out.keep hf fun _ _ x => x
    obtain ⟨c7, c9⟩ := hAc.cells
    have f7 := free_at hAc.box 7
    have HX := Lib.hid (And.intro hb (And.intro hf hAc))
    clear hb hf hAc hb0 hf0 hvW
    go_wp2_with (at_builtin; refine append_bytes_at rfl _ _ rfl 0 _ _ s.out (b8 t :: be4 sz : List UInt8) rfl HX.out.2.2.out rfl HX.out.1 (by have h1 := HO.out; have h2 := HLn.out; omega) (Nat.zero_le _) ?_)
    intro v' w4 hown hgrow hat
    obtain ⟨xa, xn, xc, rfl, -⟩ := hown.rd.len
    have HY := Lib.hid (HA.out.wrote HX.out.2.1 hown hgrow hat)
    obtain ⟨hcold, hfr⟩ := HY.out.1
    clear hown hgrow hat c7 c9 f7
    go_wp2
    go_ret
    first
      | exact ⟨rfl, ⟨_, _, HY.out.2.1⟩, HY.out.2.2⟩
      | (refine ⟨rfl, ⟨.slice xa xn xc, uv, ?_⟩, HY.out.2.2⟩; simpa [SSt.add] using HY.out.2.1)

/-- A bool's byte. -/
def bitB (n : Int) : UInt8 := if n = 0 then 0 else 1
theorem bitB_0 {n : Int} (h : n = 0) : (0 : Int) = ((bitB n).toNat : Int) := by unfold bitB; rw [if_pos h]; rfl
theorem bitB_1 {n : Int} (h : n ≠ 0) : (1 : Int) = ((bitB n).toNat : Int) := by unfold bitB; rw [if_neg h]; rfl

theorem S_bin13 (p : Nat) (c : ConfV) (w : World) (s : SSt) (t k sz id n : Int) (v : Value) (l : List UInt8) (hv : Rd w v l) (hl : l.length ≤ 1000000) (h : SwI p c w s) (hout : s.out.length ≤ 10000000000) :
    Calls Tryz.prog 92 #[.pointer (some ⟨p, 0, none⟩), .agg (stepA 13 t k sz id n v)] w (SR p c w 0 (s.add ([bitB n]))) := by
  obtain ⟨ov, uv, hA⟩ := h
  obtain ⟨i0, hi, hz0, hz1, hz2⟩ := info_parts info_u8
  have HI := Lib.hid (And.intro hi (And.intro hz0 (And.intro hz1 hz2)))
  obtain ⟨va, vn, vc, rfl, hvn⟩ := hv.len
  have hb0 := alloc_new w (.cells (stepA 13 t k sz id n (.slice va vn vc)) 239 (0, 0))
  have hf0 : Fr noF noF w (w.alloc (.cells (stepA 13 t k sz id n (.slice va vn vc)) 239 (0, 0))) := (Fr.refl noF w).alloc _
  obtain ⟨W, hW⟩ : ∃ W, W = w.alloc (.cells (stepA 13 t k sz id n (.slice va vn vc)) 239 (0, 0)) := ⟨_, rfl⟩
  have hlen : ([bitB n] : List UInt8).length ≤ 10000000 := by simp
  have hq : ∀ X : World, X.heap[w.heap.size]? = some (.cells (stepA 13 t k sz id n (.slice va vn vc)) 239 (0, 0)) → X.cell? ⟨w.heap.size, 0, none⟩ = some (.int .i64 13) ∧ X.cell? ⟨w.heap.size, 5, none⟩ = some (.int .i64 n) := fun X hX => ⟨by rw [cell_at hX]; rfl, by rw [cell_at hX]; rfl⟩
  have HQ := Lib.hid hq
  have hvW := hv.keep (F := noF) (F' := noF) hf0 fun _ _ x => x
  have HA := Lib.hid hA
  have HO := Lib.hid hout
  have HW := Lib.hid hW
  have HLn := Lib.hid hlen
  have HV := Lib.hid (And.intro hv (And.intro hl hvn))
  rw [← hW] at hf0 hb0 hvW
  clear hi hz0 hz1 hz2 hA hout hq hW hlen hv hl hvn 
  go_enter Tryz.func92, Tryz.ntmps92
  go_upto_block 0 with fail
  rw [← HW.out]
  go_cut [5] (fun s5 wx => ∃ xa xn xc, s5 = .slice xa xn xc ∧ Rd wx (.slice xa xn xc) ([bitB n] : List UInt8) ∧ Fr noF noF w wx)
  case first =>
    have q0 := HQ.out _ hb0
    have q2 := HQ.out _ (alloc_at (o := .cells #[.int .u8 0] U8 (0, 0)) hb0)
    have hz := cell_at (alloc_new W (.cells #[.int .u8 0] U8 (0, 0))) 0
    have hzf := free_at (alloc_new W (.cells #[.int .u8 0] U8 (0, 0))) 0
    simp only [List.getElem?_toArray, List.getElem?_cons_zero] at hz
    by_cases h0 : n = 0
    · have e0 : (n != 0) = false := by simpa using h0
      have HZ := Lib.hid (bitB_0 h0)
      clear h0
      go_wp2_with fail
      go_meet
      exact ⟨_, _, _, rfl, own_byte HZ.out (by (focus ((repeat (first | with_reducible assumption | with_reducible exact alloc_new _ _ | ((with_reducible refine alloc_newE ?_); (first | with_reducible rfl | (simp; done))) | with_reducible refine alloc_at ?_ | with_reducible refine drew_at ?_ | with_reducible refine Fr.block (F := noF) (F' := noF) (by with_reducible assumption) ?_ (fun x => x) | fail)); done))), by (focus ((repeat (first | with_reducible exact Fr.refl _ _ | with_reducible assumption | with_reducible refine Fr.alloc ?_ _ | with_reducible refine Fr.drew ?_ | with_reducible refine Fr.drewN ?_ _ | with_reducible refine Fr.trans (F' := noF) ?_ (by with_reducible assumption) | fail)); done))⟩
    · have e0 : (n != 0) = true := by simpa using h0
      have HZ := Lib.hid (bitB_1 h0)
      clear h0
      go_wp2_with fail
      go_meet
      exact ⟨_, _, _, rfl, own_byte HZ.out (by (focus ((repeat (first | with_reducible assumption | with_reducible exact alloc_new _ _ | ((with_reducible refine alloc_newE ?_); (first | with_reducible rfl | (simp; done))) | with_reducible refine alloc_at ?_ | with_reducible refine drew_at ?_ | with_reducible refine Fr.block (F := noF) (F' := noF) (by with_reducible assumption) ?_ (fun x => x) | fail)); done))), by (focus ((repeat (first | with_reducible exact Fr.refl _ _ | with_reducible assumption | with_reducible refine Fr.alloc ?_ _ | with_reducible refine Fr.drew ?_ | with_reducible refine Fr.drewN ?_ _ | with_reducible refine Fr.trans (F' := noF) ?_ (by with_reducible assumption) | fail)); done))⟩
  case rest =>
    obtain ⟨ba, bn, bc, rfl, hb, hf⟩ := hcut
    have hAc := HA.out.keep hf fun _ _ x => x
    obtain ⟨c7, c9⟩ := hAc.cells
    have f7 := free_at hAc.box 7
    have HX := Lib.hid (And.intro hb (And.intro hf hAc))
    clear hb hf hAc hb0 hf0 hvW
    go_wp2_with (at_builtin; refine append_bytes_at rfl _ _ rfl 0 _ _ s.out ([bitB n] : List UInt8) rfl HX.out.2.2.out rfl HX.out.1 (by have h1 := HO.out; have h2 := HLn.out; omega) (Nat.zero_le _) ?_)
    intro v' w4 hown hgrow hat
    obtain ⟨xa, xn, xc, rfl, -⟩ := hown.rd.len
    have HY := Lib.hid (HA.out.wrote HX.out.2.1 hown hgrow hat)
    obtain ⟨hcold, hfr⟩ := HY.out.1
    clear hown hgrow hat c7 c9 f7
    go_wp2
    go_ret
    first
      | exact ⟨rfl, ⟨_, _, HY.out.2.1⟩, HY.out.2.2⟩
      | (refine ⟨rfl, ⟨.slice xa xn xc, uv, ?_⟩, HY.out.2.2⟩; simpa [SSt.add] using HY.out.2.1)

theorem S_bin14 (p : Nat) (c : ConfV) (w : World) (s : SSt) (t k sz id n : Int) (v : Value) (l : List UInt8) (hv : Rd w v l) (hl : l.length ≤ 1000000) (h : SwI p c w s) (hout : s.out.length ≤ 10000000000) :
    Calls Tryz.prog 92 #[.pointer (some ⟨p, 0, none⟩), .agg (stepA 14 t k sz id n v)] w (SR p c w 0 (s.add ([b8 n]))) := by
  obtain ⟨ov, uv, hA⟩ := h
  obtain ⟨i0, hi, hz0, hz1, hz2⟩ := info_parts info_u8
  have HI := Lib.hid (And.intro hi (And.intro hz0 (And.intro hz1 hz2)))
  obtain ⟨va, vn, vc, rfl, hvn⟩ := hv.len
  have hb0 := alloc_new w (.cells (stepA 14 t k sz id n (.slice va vn vc)) 239 (0, 0))
  have hf0 : Fr noF noF w (w.alloc (.cells (stepA 14 t k sz id n (.slice va vn vc)) 239 (0, 0))) := (Fr.refl noF w).alloc _
  obtain ⟨W, hW⟩ : ∃ W, W = w.alloc (.cells (stepA 14 t k sz id n (.slice va vn vc)) 239 (0, 0)) := ⟨_, rfl⟩
  have hlen : ([b8 n] : List UInt8).length ≤ 10000000 := by simp
  have hq : ∀ X : World, X.heap[w.heap.size]? = some (.cells (stepA 14 t k sz id n (.slice va vn vc)) 239 (0, 0)) → X.cell? ⟨w.heap.size, 0, none⟩ = some (.int .i64 14) ∧ X.cell? ⟨w.heap.size, 5, none⟩ = some (.int .i64 n) := fun X hX => ⟨by rw [cell_at hX]; rfl, by rw [cell_at hX]; rfl⟩
  have HQ := Lib.hid hq
  have hvW := hv.keep (F := noF) (F' := noF) hf0 fun _ _ x => x
  have HA := Lib.hid hA
  have HO := Lib.hid hout
  have HW := Lib.hid hW
  have HLn := Lib.hid hlen
  have HV := Lib.hid (And.intro hv (And.intro hl hvn))
  rw [← hW] at hf0 hb0 hvW
  clear hi hz0 hz1 hz2 hA hout hq hW hlen hv hl hvn 
  go_enter Tryz.func92, Tryz.ntmps92
  go_upto_block 0 with fail
  rw [← HW.out]
  go_cut [5] (fun s5 wx => ∃ xa xn xc, s5 = .slice xa xn xc ∧ Rd wx (.slice xa xn xc) ([b8 n] : List UInt8) ∧ Fr noF noF w wx)
  case first =>
    have q0 := HQ.out _ hb0
    go_wp2_with fail
    go_meet
    exact ⟨_, _, _, rfl, own_byte ((b8_toNat n).symm) (by (focus ((repeat (first | with_reducible assumption | with_reducible exact alloc_new _ _ | ((with_reducible refine alloc_newE ?_); (first | with_reducible rfl | (simp; done))) | with_reducible refine alloc_at ?_ | with_reducible refine drew_at ?_ | with_reducible refine Fr.block (F := noF) (F' := noF) (by with_reducible assumption) ?_ (fun x => x) | fail)); done))), by (focus ((repeat (first | with_reducible exact Fr.refl _ _ | with_reducible assumption | with_reducible refine Fr.alloc ?_ _ | with_reducible refine Fr.drew ?_ | with_reducible refine Fr.drewN ?_ _ | with_reducible refine Fr.trans (F' := noF) ?_ (by with_reducible assumption) | fail)); done))⟩
  case rest =>
    obtain ⟨ba, bn, bc, rfl, hb, hf⟩ := hcut
    have hAc := HA.out.keep hf fun _ _ x => x
    obtain ⟨c7, c9⟩ := hAc.cells
    have f7 := free_at hAc.box 7
    have HX := Lib.hid (And.intro hb (And.intro hf hAc))
    clear hb hf hAc hb0 hf0 hvW
    go_wp2_with (at_builtin; refine append_bytes_at rfl _ _ rfl 0 _ _ s.out ([b8 n] : List UInt8) rfl HX.out.2.2.out rfl HX.out.1 (by have h1 := HO.out; have h2 := HLn.out; omega) (Nat.zero_le _) ?_)
    intro v' w4 hown hgrow hat
    obtain ⟨xa, xn, xc, rfl, -⟩ := hown.rd.len
    have HY := Lib.hid (HA.out.wrote HX.out.2.1 hown hgrow hat)
    obtain ⟨hcold, hfr⟩ := HY.out.1
    clear hown hgrow hat c7 c9 f7
    go_wp2
    go_ret
    first
      | exact ⟨rfl, ⟨_, _, HY.out.2.1⟩, HY.out.2.2⟩
      | (refine ⟨rfl, ⟨.slice xa xn xc, uv, ?_⟩, HY.out.2.2⟩; simpa [SSt.add] using HY.out.2.1)

theorem S_bin15 (p : Nat) (c : ConfV) (w : World) (s : SSt) (t k sz id n : Int) (v : Value) (l : List UInt8) (hv : Rd w v l) (hl : l.length ≤ 1000000) (h : SwI p c w s) (hout : s.out.length ≤ 10000000000) :
    Calls Tryz.prog 92 #[.pointer (some ⟨p, 0, none⟩), .agg (stepA 15 t k sz id n v)] w (SR p c w 0 (s.add (be2 n))) := by
  obtain ⟨ov, uv, hA⟩ := h
  obtain ⟨i0, hi, hz0, hz1, hz2⟩ := info_parts info_u8
  have HI := Lib.hid (And.intro hi (And.intro hz0 (And.intro hz1 hz2)))
  obtain ⟨va, vn, vc, rfl, hvn⟩ := hv.len
  have hb0 := alloc_new w (.cells (stepA 15 t k sz id n (.slice va vn vc)) 239 (0, 0))
  have hf0 : Fr noF noF w (w.alloc (.cells (stepA 15 t k sz id n (.slice va vn vc)) 239 (0, 0))) := (Fr.refl noF w).alloc _
  obtain ⟨W, hW⟩ : ∃ W, W = w.alloc (.cells (stepA 15 t k sz id n (.slice va vn vc)) 239 (0, 0)) := ⟨_, rfl⟩
  have hlen : (be2 n : List UInt8).length ≤ 10000000 := by simp [be2_length]
  have hg1 : ∀ X, Calls Tryz.prog 97 #[.int .i64 n, .int .i64 2] X (fun e w' => ∃ g c, e = .returned (.slice (some ⟨g, 0, none⟩) 2 c) ∧ w'.ownsRow 0 U8 1 (.slice (some ⟨g, 0, none⟩) 2 c) 2 (Lib.byteCells (be2 n)) ∧ X.heap.size ≤ g ∧ Fr noF noF X w') := fun X => by
    have := big_new (n) 2 (by decide) (by decide) X
    rw [bigB_2] at this
    exact this
  have hq : ∀ X : World, X.heap[w.heap.size]? = some (.cells (stepA 15 t k sz id n (.slice va vn vc)) 239 (0, 0)) → X.cell? ⟨w.heap.size, 0, none⟩ = some (.int .i64 15) ∧ X.cell? ⟨w.heap.size, 5, none⟩ = some (.int .i64 n) := fun X hX => ⟨by rw [cell_at hX]; rfl, by rw [cell_at hX]; rfl⟩
  have HQ := Lib.hid hq
  have HG1 := Lib.hid hg1
  have hvW := hv.keep (F := noF) (F' := noF) hf0 fun _ _ x => x
  have HA := Lib.hid hA
  have HO := Lib.hid hout
  have HW := Lib.hid hW
  have HLn := Lib.hid hlen
  have HV := Lib.hid (And.intro hv (And.intro hl hvn))
  rw [← hW] at hf0 hb0 hvW
  clear hi hz0 hz1 hz2 hA hout hq hW hlen hv hl hvn hg1
  go_enter Tryz.func92, Tryz.ntmps92
  go_upto_block 0 with fail
  rw [← HW.out]
  go_cut [5] (fun s5 wx => ∃ xa xn xc, s5 = .slice xa xn xc ∧ Rd wx (.slice xa xn xc) (be2 n : List UInt8) ∧ Fr noF noF w wx)
  case first =>
    have q0 := HQ.out _ hb0
    go_wp2_with fail
    (with_reducible refine (HG1.out _).mono ?_)
    rintro e Y ⟨gg, gc, rfl, hgr, hgn, hgf⟩
    go_wp2_with fail
    go_meet
    exact ⟨_, _, _, rfl, rd_of hgr rfl, by (focus ((repeat (first | with_reducible exact Fr.refl _ _ | with_reducible assumption | with_reducible refine Fr.alloc ?_ _ | with_reducible refine Fr.drew ?_ | with_reducible refine Fr.drewN ?_ _ | with_reducible refine Fr.trans (F' := noF) ?_ (by with_reducible assumption) | fail)); done))⟩
  case rest =>
    obtain ⟨ba, bn, bc, rfl, hb, hf⟩ := hcut
    have hAc := HA.out.keep hf fun _ _ x => x
    obtain ⟨c7, c9⟩ := hAc.cells
    have f7 := free_at hAc.box 7
    have HX := Lib.hid (And.intro hb (And.intro hf hAc))
    clear hb hf hAc hb0 hf0 hvW
    go_wp2_with (at_builtin; refine append_bytes_at rfl _ _ rfl 0 _ _ s.out (be2 n : List UInt8) rfl HX.out.2.2.out rfl HX.out.1 (by have h1 := HO.out; have h2 := HLn.out; omega) (Nat.zero_le _) ?_)
    intro v' w4 hown hgrow hat
    obtain ⟨xa, xn, xc, rfl, -⟩ := hown.rd.len
    have HY := Lib.hid (HA.out.wrote HX.out.2.1 hown hgrow hat)
    obtain ⟨hcold, hfr⟩ := HY.out.1
    clear hown hgrow hat c7 c9 f7
    go_wp2
    go_ret
    first
      | exact ⟨rfl, ⟨_, _, HY.out.2.1⟩, HY.out.2.2⟩
      | (refine ⟨rfl, ⟨.slice xa xn xc, uv, ?_⟩, HY.out.2.2⟩; simpa [SSt.add] using HY.out.2.1)

theorem S_bin16 (p : Nat) (c : ConfV) (w : World) (s : SSt) (t k sz id n : Int) (v : Value) (l : List UInt8) (hv : Rd w v l) (hl : l.length ≤ 1000000) (h : SwI p c w s) (hout : s.out.length ≤ 10000000000) :
    Calls Tryz.prog 92 #[.pointer (some ⟨p, 0, none⟩), .agg (stepA 16 t k sz id n v)] w (SR p c w 0 (s.add (be4 n))) := by
  obtain ⟨ov, uv, hA⟩ := h
  obtain ⟨i0, hi, hz0, hz1, hz2⟩ := info_parts info_u8
  have HI := Lib.hid (And.intro hi (And.intro hz0 (And.intro hz1 hz2)))
  obtain ⟨va, vn, vc, rfl, hvn⟩ := hv.len
  have hb0 := alloc_new w (.cells (stepA 16 t k sz id n (.slice va vn vc)) 239 (0, 0))
  have hf0 : Fr noF noF w (w.alloc (.cells (stepA 16 t k sz id n (.slice va vn vc)) 239 (0, 0))) := (Fr.refl noF w).alloc _
  obtain ⟨W, hW⟩ : ∃ W, W = w.alloc (.cells (stepA 16 t k sz id n (.slice va vn vc)) 239 (0, 0)) := ⟨_, rfl⟩
  have hlen : (be4 n : List UInt8).length ≤ 10000000 := by simp [be4_length]
  have hg1 : ∀ X, Calls Tryz.prog 97 #[.int .i64 n, .int .i64 4] X (fun e w' => ∃ g c, e = .returned (.slice (some ⟨g, 0, none⟩) 4 c) ∧ w'.ownsRow 0 U8 1 (.slice (some ⟨g, 0, none⟩) 4 c) 4 (Lib.byteCells (be4 n)) ∧ X.heap.size ≤ g ∧ Fr noF noF X w') := fun X => by
    have := big_new (n) 4 (by decide) (by decide) X
    rw [bigB_4] at this
    exact this
  have hq : ∀ X : World, X.heap[w.heap.size]? = some (.cells (stepA 16 t k sz id n (.slice va vn vc)) 239 (0, 0)) → X.cell? ⟨w.heap.size, 0, none⟩ = some (.int .i64 16) ∧ X.cell? ⟨w.heap.size, 5, none⟩ = some (.int .i64 n) := fun X hX => ⟨by rw [cell_at hX]; rfl, by rw [cell_at hX]; rfl⟩
  have HQ := Lib.hid hq
  have HG1 := Lib.hid hg1
  have hvW := hv.keep (F := noF) (F' := noF) hf0 fun _ _ x => x
  have HA := Lib.hid hA
  have HO := Lib.hid hout
  have HW := Lib.hid hW
  have HLn := Lib.hid hlen
  have HV := Lib.hid (And.intro hv (And.intro hl hvn))
  rw [← hW] at hf0 hb0 hvW
  clear hi hz0 hz1 hz2 hA hout hq hW hlen hv hl hvn hg1
  go_enter Tryz.func92, Tryz.ntmps92
  go_upto_block 0 with fail
  rw [← HW.out]
  go_cut [5] (fun s5 wx => ∃ xa xn xc, s5 = .slice xa xn xc ∧ Rd wx (.slice xa xn xc) (be4 n : List UInt8) ∧ Fr noF noF w wx)
  case first =>
    have q0 := HQ.out _ hb0
    go_wp2_with fail
    (with_reducible refine (HG1.out _).mono ?_)
    rintro e Y ⟨gg, gc, rfl, hgr, hgn, hgf⟩
    go_wp2_with fail
    go_meet
    exact ⟨_, _, _, rfl, rd_of hgr rfl, by (focus ((repeat (first | with_reducible exact Fr.refl _ _ | with_reducible assumption | with_reducible refine Fr.alloc ?_ _ | with_reducible refine Fr.drew ?_ | with_reducible refine Fr.drewN ?_ _ | with_reducible refine Fr.trans (F' := noF) ?_ (by with_reducible assumption) | fail)); done))⟩
  case rest =>
    obtain ⟨ba, bn, bc, rfl, hb, hf⟩ := hcut
    have hAc := HA.out.keep hf fun _ _ x => x
    obtain ⟨c7, c9⟩ := hAc.cells
    have f7 := free_at hAc.box 7
    have HX := Lib.hid (And.intro hb (And.intro hf hAc))
    clear hb hf hAc hb0 hf0 hvW
    go_wp2_with (at_builtin; refine append_bytes_at rfl _ _ rfl 0 _ _ s.out (be4 n : List UInt8) rfl HX.out.2.2.out rfl HX.out.1 (by have h1 := HO.out; have h2 := HLn.out; omega) (Nat.zero_le _) ?_)
    intro v' w4 hown hgrow hat
    obtain ⟨xa, xn, xc, rfl, -⟩ := hown.rd.len
    have HY := Lib.hid (HA.out.wrote HX.out.2.1 hown hgrow hat)
    obtain ⟨hcold, hfr⟩ := HY.out.1
    clear hown hgrow hat c7 c9 f7
    go_wp2
    go_ret
    first
      | exact ⟨rfl, ⟨_, _, HY.out.2.1⟩, HY.out.2.2⟩
      | (refine ⟨rfl, ⟨.slice xa xn xc, uv, ?_⟩, HY.out.2.2⟩; simpa [SSt.add] using HY.out.2.1)

theorem S_bin17 (p : Nat) (c : ConfV) (w : World) (s : SSt) (t k sz id n : Int) (v : Value) (l : List UInt8) (hv : Rd w v l) (hl : l.length ≤ 1000000) (h : SwI p c w s) (hout : s.out.length ≤ 10000000000) :
    Calls Tryz.prog 92 #[.pointer (some ⟨p, 0, none⟩), .agg (stepA 17 t k sz id n v)] w (SR p c w 0 (s.add (be8 n))) := by
  obtain ⟨ov, uv, hA⟩ := h
  obtain ⟨i0, hi, hz0, hz1, hz2⟩ := info_parts info_u8
  have HI := Lib.hid (And.intro hi (And.intro hz0 (And.intro hz1 hz2)))
  obtain ⟨va, vn, vc, rfl, hvn⟩ := hv.len
  have hb0 := alloc_new w (.cells (stepA 17 t k sz id n (.slice va vn vc)) 239 (0, 0))
  have hf0 : Fr noF noF w (w.alloc (.cells (stepA 17 t k sz id n (.slice va vn vc)) 239 (0, 0))) := (Fr.refl noF w).alloc _
  obtain ⟨W, hW⟩ : ∃ W, W = w.alloc (.cells (stepA 17 t k sz id n (.slice va vn vc)) 239 (0, 0)) := ⟨_, rfl⟩
  have hlen : (be8 n : List UInt8).length ≤ 10000000 := by simp [be8_length]
  have hg1 : ∀ X, Calls Tryz.prog 97 #[.int .i64 n, .int .i64 8] X (fun e w' => ∃ g c, e = .returned (.slice (some ⟨g, 0, none⟩) 8 c) ∧ w'.ownsRow 0 U8 1 (.slice (some ⟨g, 0, none⟩) 8 c) 8 (Lib.byteCells (be8 n)) ∧ X.heap.size ≤ g ∧ Fr noF noF X w') := fun X => by
    have := big_new (n) 8 (by decide) (by decide) X
    rw [bigB_8] at this
    exact this
  have hq : ∀ X : World, X.heap[w.heap.size]? = some (.cells (stepA 17 t k sz id n (.slice va vn vc)) 239 (0, 0)) → X.cell? ⟨w.heap.size, 0, none⟩ = some (.int .i64 17) ∧ X.cell? ⟨w.heap.size, 5, none⟩ = some (.int .i64 n) := fun X hX => ⟨by rw [cell_at hX]; rfl, by rw [cell_at hX]; rfl⟩
  have HQ := Lib.hid hq
  have HG1 := Lib.hid hg1
  have hvW := hv.keep (F := noF) (F' := noF) hf0 fun _ _ x => x
  have HA := Lib.hid hA
  have HO := Lib.hid hout
  have HW := Lib.hid hW
  have HLn := Lib.hid hlen
  have HV := Lib.hid (And.intro hv (And.intro hl hvn))
  rw [← hW] at hf0 hb0 hvW
  clear hi hz0 hz1 hz2 hA hout hq hW hlen hv hl hvn hg1
  go_enter Tryz.func92, Tryz.ntmps92
  go_upto_block 0 with fail
  rw [← HW.out]
  go_cut [5] (fun s5 wx => ∃ xa xn xc, s5 = .slice xa xn xc ∧ Rd wx (.slice xa xn xc) (be8 n : List UInt8) ∧ Fr noF noF w wx)
  case first =>
    have q0 := HQ.out _ hb0
    go_wp2_with fail
    (with_reducible refine (HG1.out _).mono ?_)
    rintro e Y ⟨gg, gc, rfl, hgr, hgn, hgf⟩
    go_wp2_with fail
    go_meet
    exact ⟨_, _, _, rfl, rd_of hgr rfl, by (focus ((repeat (first | with_reducible exact Fr.refl _ _ | with_reducible assumption | with_reducible refine Fr.alloc ?_ _ | with_reducible refine Fr.drew ?_ | with_reducible refine Fr.drewN ?_ _ | with_reducible refine Fr.trans (F' := noF) ?_ (by with_reducible assumption) | fail)); done))⟩
  case rest =>
    obtain ⟨ba, bn, bc, rfl, hb, hf⟩ := hcut
    have hAc := HA.out.keep hf fun _ _ x => x
    obtain ⟨c7, c9⟩ := hAc.cells
    have f7 := free_at hAc.box 7
    have HX := Lib.hid (And.intro hb (And.intro hf hAc))
    clear hb hf hAc hb0 hf0 hvW
    go_wp2_with (at_builtin; refine append_bytes_at rfl _ _ rfl 0 _ _ s.out (be8 n : List UInt8) rfl HX.out.2.2.out rfl HX.out.1 (by have h1 := HO.out; have h2 := HLn.out; omega) (Nat.zero_le _) ?_)
    intro v' w4 hown hgrow hat
    obtain ⟨xa, xn, xc, rfl, -⟩ := hown.rd.len
    have HY := Lib.hid (HA.out.wrote HX.out.2.1 hown hgrow hat)
    obtain ⟨hcold, hfr⟩ := HY.out.1
    clear hown hgrow hat c7 c9 f7
    go_wp2
    go_ret
    first
      | exact ⟨rfl, ⟨_, _, HY.out.2.1⟩, HY.out.2.2⟩
      | (refine ⟨rfl, ⟨.slice xa xn xc, uv, ?_⟩, HY.out.2.2⟩; simpa [SSt.add] using HY.out.2.1)

theorem S_bin18 (p : Nat) (c : ConfV) (w : World) (s : SSt) (t k sz id n : Int) (v : Value) (l : List UInt8) (hv : Rd w v l) (hl : l.length ≤ 1000000) (h : SwI p c w s) (hout : s.out.length ≤ 10000000000) :
    Calls Tryz.prog 92 #[.pointer (some ⟨p, 0, none⟩), .agg (stepA 18 t k sz id n v)] w (SR p c w 0 (s.add (be8 n))) := by
  obtain ⟨ov, uv, hA⟩ := h
  obtain ⟨i0, hi, hz0, hz1, hz2⟩ := info_parts info_u8
  have HI := Lib.hid (And.intro hi (And.intro hz0 (And.intro hz1 hz2)))
  obtain ⟨va, vn, vc, rfl, hvn⟩ := hv.len
  have hb0 := alloc_new w (.cells (stepA 18 t k sz id n (.slice va vn vc)) 239 (0, 0))
  have hf0 : Fr noF noF w (w.alloc (.cells (stepA 18 t k sz id n (.slice va vn vc)) 239 (0, 0))) := (Fr.refl noF w).alloc _
  obtain ⟨W, hW⟩ : ∃ W, W = w.alloc (.cells (stepA 18 t k sz id n (.slice va vn vc)) 239 (0, 0)) := ⟨_, rfl⟩
  have hlen : (be8 n : List UInt8).length ≤ 10000000 := by simp [be8_length]
  have hg1 : ∀ X, Calls Tryz.prog 97 #[.int .i64 n, .int .i64 8] X (fun e w' => ∃ g c, e = .returned (.slice (some ⟨g, 0, none⟩) 8 c) ∧ w'.ownsRow 0 U8 1 (.slice (some ⟨g, 0, none⟩) 8 c) 8 (Lib.byteCells (be8 n)) ∧ X.heap.size ≤ g ∧ Fr noF noF X w') := fun X => by
    have := big_new (n) 8 (by decide) (by decide) X
    rw [bigB_8] at this
    exact this
  have hq : ∀ X : World, X.heap[w.heap.size]? = some (.cells (stepA 18 t k sz id n (.slice va vn vc)) 239 (0, 0)) → X.cell? ⟨w.heap.size, 0, none⟩ = some (.int .i64 18) ∧ X.cell? ⟨w.heap.size, 5, none⟩ = some (.int .i64 n) := fun X hX => ⟨by rw [cell_at hX]; rfl, by rw [cell_at hX]; rfl⟩
  have HQ := Lib.hid hq
  have HG1 := Lib.hid hg1
  have hvW := hv.keep (F := noF) (F' := noF) hf0 fun _ _ x => x
  have HA := Lib.hid hA
  have HO := Lib.hid hout
  have HW := Lib.hid hW
  have HLn := Lib.hid hlen
  have HV := Lib.hid (And.intro hv (And.intro hl hvn))
  rw [← hW] at hf0 hb0 hvW
  clear hi hz0 hz1 hz2 hA hout hq hW hlen hv hl hvn hg1
  go_enter Tryz.func92, Tryz.ntmps92
  go_upto_block 0 with fail
  rw [← HW.out]
  go_cut [5] (fun s5 wx => ∃ xa xn xc, s5 = .slice xa xn xc ∧ Rd wx (.slice xa xn xc) (be8 n : List UInt8) ∧ Fr noF noF w wx)
  case first =>
    have q0 := HQ.out _ hb0
    go_wp2_with fail
    (with_reducible refine (HG1.out _).mono ?_)
    rintro e Y ⟨gg, gc, rfl, hgr, hgn, hgf⟩
    go_wp2_with fail
    go_meet
    exact ⟨_, _, _, rfl, rd_of hgr rfl, by (focus ((repeat (first | with_reducible exact Fr.refl _ _ | with_reducible assumption | with_reducible refine Fr.alloc ?_ _ | with_reducible refine Fr.drew ?_ | with_reducible refine Fr.drewN ?_ _ | with_reducible refine Fr.trans (F' := noF) ?_ (by with_reducible assumption) | fail)); done))⟩
  case rest =>
    obtain ⟨ba, bn, bc, rfl, hb, hf⟩ := hcut
    have hAc := HA.out.keep hf fun _ _ x => x
    obtain ⟨c7, c9⟩ := hAc.cells
    have f7 := free_at hAc.box 7
    have HX := Lib.hid (And.intro hb (And.intro hf hAc))
    clear hb hf hAc hb0 hf0 hvW
    go_wp2_with (at_builtin; refine append_bytes_at rfl _ _ rfl 0 _ _ s.out (be8 n : List UInt8) rfl HX.out.2.2.out rfl HX.out.1 (by have h1 := HO.out; have h2 := HLn.out; omega) (Nat.zero_le _) ?_)
    intro v' w4 hown hgrow hat
    obtain ⟨xa, xn, xc, rfl, -⟩ := hown.rd.len
    have HY := Lib.hid (HA.out.wrote HX.out.2.1 hown hgrow hat)
    obtain ⟨hcold, hfr⟩ := HY.out.1
    clear hown hgrow hat c7 c9 f7
    go_wp2
    go_ret
    first
      | exact ⟨rfl, ⟨_, _, HY.out.2.1⟩, HY.out.2.2⟩
      | (refine ⟨rfl, ⟨.slice xa xn xc, uv, ?_⟩, HY.out.2.2⟩; simpa [SSt.add] using HY.out.2.1)

theorem S_bin19 (p : Nat) (c : ConfV) (w : World) (s : SSt) (t k sz id n : Int) (v : Value) (l : List UInt8) (hv : Rd w v l) (hl : l.length ≤ 1000000) (h : SwI p c w s) (hout : s.out.length ≤ 10000000000) :
    Calls Tryz.prog 92 #[.pointer (some ⟨p, 0, none⟩), .agg (stepA 19 t k sz id n v)] w (SR p c w 0 (s.add (be4 l.length ++ l))) := by
  obtain ⟨ov, uv, hA⟩ := h
  obtain ⟨i0, hi, hz0, hz1, hz2⟩ := info_parts info_u8
  have HI := Lib.hid (And.intro hi (And.intro hz0 (And.intro hz1 hz2)))
  obtain ⟨va, vn, vc, rfl, hvn⟩ := hv.len
  have hb0 := alloc_new w (.cells (stepA 19 t k sz id n (.slice va vn vc)) 239 (0, 0))
  have hf0 : Fr noF noF w (w.alloc (.cells (stepA 19 t k sz id n (.slice va vn vc)) 239 (0, 0))) := (Fr.refl noF w).alloc _
  obtain ⟨W, hW⟩ : ∃ W, W = w.alloc (.cells (stepA 19 t k sz id n (.slice va vn vc)) 239 (0, 0)) := ⟨_, rfl⟩
  have hlen : (be4 l.length ++ l : List UInt8).length ≤ 10000000 := by rw [List.length_append, be4_length]; omega
  have hq : ∀ X : World, X.heap[w.heap.size]? = some (.cells (stepA 19 t k sz id n (.slice va vn vc)) 239 (0, 0)) → X.cell? ⟨w.heap.size, 0, none⟩ = some (.int .i64 19) ∧ X.cell? ⟨w.heap.size, 6, none⟩ = some (.slice va vn vc) := fun X hX => ⟨by rw [cell_at hX]; rfl, by rw [cell_at hX]; rfl⟩
  have HQ := Lib.hid hq
  have HT := Lib.hid (fun X (hX : Rd X (.slice va vn vc) l) => text_new (.slice va vn vc) l X hX (by omega))
  have hvW := hv.keep (F := noF) (F' := noF) hf0 fun _ _ x => x
  have HA := Lib.hid hA
  have HO := Lib.hid hout
  have HW := Lib.hid hW
  have HLn := Lib.hid hlen
  have HV := Lib.hid (And.intro hv (And.intro hl hvn))
  rw [← hW] at hf0 hb0 hvW
  clear hi hz0 hz1 hz2 hA hout hq hW hlen hv hl hvn 
  go_enter Tryz.func92, Tryz.ntmps92
  go_upto_block 0 with fail
  rw [← HW.out]
  go_cut [5] (fun s5 wx => ∃ xa xn xc, s5 = .slice xa xn xc ∧ Rd wx (.slice xa xn xc) (be4 l.length ++ l : List UInt8) ∧ Fr noF noF w wx)
  case first =>
    have q0 := HQ.out _ hb0
    go_wp2_with fail
    (with_reducible refine (HT.out _ hvW).mono ?_)
    rintro e Y ⟨gg, gc, rfl, hgr, hgn, hgf⟩
    go_wp2_with fail
    go_meet
    exact ⟨_, _, _, rfl, rd_of hgr (by rw [List.length_append, be4_length, Nat.add_comm]), by (focus ((repeat (first | with_reducible exact Fr.refl _ _ | with_reducible assumption | with_reducible refine Fr.alloc ?_ _ | with_reducible refine Fr.drew ?_ | with_reducible refine Fr.drewN ?_ _ | with_reducible refine Fr.trans (F' := noF) ?_ (by with_reducible assumption) | fail)); done))⟩
  case rest =>
    obtain ⟨ba, bn, bc, rfl, hb, hf⟩ := hcut
    have hAc := HA.out.keep hf fun _ _ x => x
    obtain ⟨c7, c9⟩ := hAc.cells
    have f7 := free_at hAc.box 7
    have HX := Lib.hid (And.intro hb (And.intro hf hAc))
    clear hb hf hAc hb0 hf0 hvW
    go_wp2_with (at_builtin; refine append_bytes_at rfl _ _ rfl 0 _ _ s.out (be4 l.length ++ l : List UInt8) rfl HX.out.2.2.out rfl HX.out.1 (by have h1 := HO.out; have h2 := HLn.out; omega) (Nat.zero_le _) ?_)
    intro v' w4 hown hgrow hat
    obtain ⟨xa, xn, xc, rfl, -⟩ := hown.rd.len
    have HY := Lib.hid (HA.out.wrote HX.out.2.1 hown hgrow hat)
    obtain ⟨hcold, hfr⟩ := HY.out.1
    clear hown hgrow hat c7 c9 f7
    go_wp2
    go_ret
    first
      | exact ⟨rfl, ⟨_, _, HY.out.2.1⟩, HY.out.2.2⟩
      | (refine ⟨rfl, ⟨.slice xa xn xc, uv, ?_⟩, HY.out.2.2⟩; simpa [SSt.add] using HY.out.2.1)

theorem S_bin20 (p : Nat) (c : ConfV) (w : World) (s : SSt) (t k sz id n : Int) (v : Value) (l : List UInt8) (hv : Rd w v l) (hl : l.length ≤ 1000000) (h : SwI p c w s) (hout : s.out.length ≤ 10000000000) :
    Calls Tryz.prog 92 #[.pointer (some ⟨p, 0, none⟩), .agg (stepA 20 t k sz id n v)] w (SR p c w 0 (s.add (be4 l.length ++ l))) := by
  obtain ⟨ov, uv, hA⟩ := h
  obtain ⟨i0, hi, hz0, hz1, hz2⟩ := info_parts info_u8
  have HI := Lib.hid (And.intro hi (And.intro hz0 (And.intro hz1 hz2)))
  obtain ⟨va, vn, vc, rfl, hvn⟩ := hv.len
  have hb0 := alloc_new w (.cells (stepA 20 t k sz id n (.slice va vn vc)) 239 (0, 0))
  have hf0 : Fr noF noF w (w.alloc (.cells (stepA 20 t k sz id n (.slice va vn vc)) 239 (0, 0))) := (Fr.refl noF w).alloc _
  obtain ⟨W, hW⟩ : ∃ W, W = w.alloc (.cells (stepA 20 t k sz id n (.slice va vn vc)) 239 (0, 0)) := ⟨_, rfl⟩
  have hlen : (be4 l.length ++ l : List UInt8).length ≤ 10000000 := by rw [List.length_append, be4_length]; omega
  have hq : ∀ X : World, X.heap[w.heap.size]? = some (.cells (stepA 20 t k sz id n (.slice va vn vc)) 239 (0, 0)) → X.cell? ⟨w.heap.size, 0, none⟩ = some (.int .i64 20) ∧ X.cell? ⟨w.heap.size, 6, none⟩ = some (.slice va vn vc) := fun X hX => ⟨by rw [cell_at hX]; rfl, by rw [cell_at hX]; rfl⟩
  have HQ := Lib.hid hq
  have HT := Lib.hid (fun X (hX : Rd X (.slice va vn vc) l) => text_new (.slice va vn vc) l X hX (by omega))
  have hvW := hv.keep (F := noF) (F' := noF) hf0 fun _ _ x => x
  have HA := Lib.hid hA
  have HO := Lib.hid hout
  have HW := Lib.hid hW
  have HLn := Lib.hid hlen
  have HV := Lib.hid (And.intro hv (And.intro hl hvn))
  rw [← hW] at hf0 hb0 hvW
  clear hi hz0 hz1 hz2 hA hout hq hW hlen hv hl hvn 
  go_enter Tryz.func92, Tryz.ntmps92
  go_upto_block 0 with fail
  rw [← HW.out]
  go_cut [5] (fun s5 wx => ∃ xa xn xc, s5 = .slice xa xn xc ∧ Rd wx (.slice xa xn xc) (be4 l.length ++ l : List UInt8) ∧ Fr noF noF w wx)
  case first =>
    have q0 := HQ.out _ hb0
    go_wp2_with fail
    (with_reducible refine (HT.out _ hvW).mono ?_)
    rintro e Y ⟨gg, gc, rfl, hgr, hgn, hgf⟩
    go_wp2_with fail
    go_meet
    exact ⟨_, _, _, rfl, rd_of hgr (by rw [List.length_append, be4_length, Nat.add_comm]), by (focus ((repeat (first | with_reducible exact Fr.refl _ _ | with_reducible assumption | with_reducible refine Fr.alloc ?_ _ | with_reducible refine Fr.drew ?_ | with_reducible refine Fr.drewN ?_ _ | with_reducible refine Fr.trans (F' := noF) ?_ (by with_reducible assumption) | fail)); done))⟩
  case rest =>
    obtain ⟨ba, bn, bc, rfl, hb, hf⟩ := hcut
    have hAc := HA.out.keep hf fun _ _ x => x
    obtain ⟨c7, c9⟩ := hAc.cells
    have f7 := free_at hAc.box 7
    have HX := Lib.hid (And.intro hb (And.intro hf hAc))
    clear hb hf hAc hb0 hf0 hvW
    go_wp2_with (at_builtin; refine append_bytes_at rfl _ _ rfl 0 _ _ s.out (be4 l.length ++ l : List UInt8) rfl HX.out.2.2.out rfl HX.out.1 (by have h1 := HO.out; have h2 := HLn.out; omega) (Nat.zero_le _) ?_)
    intro v' w4 hown hgrow hat
    obtain ⟨xa, xn, xc, rfl, -⟩ := hown.rd.len
    have HY := Lib.hid (HA.out.wrote HX.out.2.1 hown hgrow hat)
    obtain ⟨hcold, hfr⟩ := HY.out.1
    clear hown hgrow hat c7 c9 f7
    go_wp2
    go_ret
    first
      | exact ⟨rfl, ⟨_, _, HY.out.2.1⟩, HY.out.2.2⟩
      | (refine ⟨rfl, ⟨.slice xa xn xc, uv, ?_⟩, HY.out.2.2⟩; simpa [SSt.add] using HY.out.2.1)

theorem S_bin21 (p : Nat) (c : ConfV) (w : World) (s : SSt) (t k sz id n : Int) (v : Value) (l : List UInt8) (hv : Rd w v l) (hl : l.length ≤ 1000000) (h : SwI p c w s) (hout : s.out.length ≤ 10000000000) :
    Calls Tryz.prog 92 #[.pointer (some ⟨p, 0, none⟩), .agg (stepA 21 t k sz id n v)] w (SR p c w 0 (s.add (pad16 l))) := by
  obtain ⟨ov, uv, hA⟩ := h
  obtain ⟨i0, hi, hz0, hz1, hz2⟩ := info_parts info_u8
  have HI := Lib.hid (And.intro hi (And.intro hz0 (And.intro hz1 hz2)))
  obtain ⟨va, vn, vc, rfl, hvn⟩ := hv.len
  have hb0 := alloc_new w (.cells (stepA 21 t k sz id n (.slice va vn vc)) 239 (0, 0))
  have hf0 : Fr noF noF w (w.alloc (.cells (stepA 21 t k sz id n (.slice va vn vc)) 239 (0, 0))) := (Fr.refl noF w).alloc _
  obtain ⟨W, hW⟩ : ∃ W, W = w.alloc (.cells (stepA 21 t k sz id n (.slice va vn vc)) 239 (0, 0)) := ⟨_, rfl⟩
  have hlen : (pad16 l : List UInt8).length ≤ 10000000 := by rw [pad16_len]; decide
  have hq : ∀ X : World, X.heap[w.heap.size]? = some (.cells (stepA 21 t k sz id n (.slice va vn vc)) 239 (0, 0)) → X.cell? ⟨w.heap.size, 0, none⟩ = some (.int .i64 21) ∧ X.cell? ⟨w.heap.size, 6, none⟩ = some (.slice va vn vc) := fun X hX => ⟨by rw [cell_at hX]; rfl, by rw [cell_at hX]; rfl⟩
  have HQ := Lib.hid hq
  have HU := Lib.hid (fun X (hX : Rd X (.slice va vn vc) l) => S_uuid16 (.slice va vn vc) l X hX)
  have hvW := hv.keep (F := noF) (F' := noF) hf0 fun _ _ x => x
  have HA := Lib.hid hA
  have HO := Lib.hid hout
  have HW := Lib.hid hW
  have HLn := Lib.hid hlen
  have HV := Lib.hid (And.intro hv (And.intro hl hvn))
  rw [← hW] at hf0 hb0 hvW
  clear hi hz0 hz1 hz2 hA hout hq hW hlen hv hl hvn 
  go_enter Tryz.func92, Tryz.ntmps92
  go_upto_block 0 with fail
  rw [← HW.out]
  go_cut [5] (fun s5 wx => ∃ xa xn xc, s5 = .slice xa xn xc ∧ Rd wx (.slice xa xn xc) (pad16 l : List UInt8) ∧ Fr noF noF w wx)
  case first =>
    have q0 := HQ.out _ hb0
    go_wp2_with fail
    (with_reducible refine (HU.out _ hvW).mono ?_)
    rintro e Y ⟨uv', rfl, huo, huf⟩
    obtain ⟨ua, un, uc, rfl, -⟩ := huo.rd.len
    have hur := huo.rd
    clear huo
    go_wp2_with fail
    go_meet
    exact ⟨_, _, _, rfl, hur, by (focus ((repeat (first | with_reducible exact Fr.refl _ _ | with_reducible assumption | with_reducible refine Fr.alloc ?_ _ | with_reducible refine Fr.drew ?_ | with_reducible refine Fr.drewN ?_ _ | with_reducible refine Fr.trans (F' := noF) ?_ (by with_reducible assumption) | fail)); done))⟩
  case rest =>
    obtain ⟨ba, bn, bc, rfl, hb, hf⟩ := hcut
    have hAc := HA.out.keep hf fun _ _ x => x
    obtain ⟨c7, c9⟩ := hAc.cells
    have f7 := free_at hAc.box 7
    have HX := Lib.hid (And.intro hb (And.intro hf hAc))
    clear hb hf hAc hb0 hf0 hvW
    go_wp2_with (at_builtin; refine append_bytes_at rfl _ _ rfl 0 _ _ s.out (pad16 l : List UInt8) rfl HX.out.2.2.out rfl HX.out.1 (by have h1 := HO.out; have h2 := HLn.out; omega) (Nat.zero_le _) ?_)
    intro v' w4 hown hgrow hat
    obtain ⟨xa, xn, xc, rfl, -⟩ := hown.rd.len
    have HY := Lib.hid (HA.out.wrote HX.out.2.1 hown hgrow hat)
    obtain ⟨hcold, hfr⟩ := HY.out.1
    clear hown hgrow hat c7 c9 f7
    go_wp2
    go_ret
    first
      | exact ⟨rfl, ⟨_, _, HY.out.2.1⟩, HY.out.2.2⟩
      | (refine ⟨rfl, ⟨.slice xa xn xc, uv, ?_⟩, HY.out.2.2⟩; simpa [SSt.add] using HY.out.2.1)

end Go.Proofs.YtdifknecndlklaaGreatDoor
