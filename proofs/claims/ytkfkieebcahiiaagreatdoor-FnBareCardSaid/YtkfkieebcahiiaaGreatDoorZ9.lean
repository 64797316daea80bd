/- laws.sameGot: Gots that are the same. laws.big: the lowest bytes of a number, the highest one first. laws.alone: one step is written as these bytes, and read of them, by the binary protocol. -/
import Derived.Deep.RegionHeld3
import Derived.Test.YtkfkieebcahiiaaGreatDoorZB
import Derived.Test.YtkfkieebcahiiaaGreatDoorZ3
import Derived.Test.YtkfkieebcahiiaaGreatDoorZ4
import Derived.Test.YtkfkieebcahiiaaGreatDoorZ1
set_option linter.all false
namespace Go.Proofs.YtkfkieebcahiiaaGreatDoor
open Go Go.RowKit
set_option maxHeartbeats 2000000
set_option maxRecDepth 100000

/-- A slice of Gots, each with the kind of its error. -/
def RdG (w : World) (v : Value) (gs : List (Int × GotD)) : Prop :=
  (∃ a c, v = .slice a 0 c ∧ gs = []) ∨
  ∃ g o c, v = .slice (some ⟨g, o, none⟩) gs.length c ∧ gs.length ≤ 100000000 ∧ ∀ (j : Nat) x, gs[j]? = some x → ∃ a n c, (∀ (i : Nat) u, (x.2.cells x.1 (.slice a n c))[i]? = some u → w.cell? ⟨g, o + j * 7 + i, none⟩ = some u) ∧ Rd w (.slice a n c) x.2.s
theorem RdG.keep {w w' : World} {v : Value} {gs : List (Int × GotD)} (h : RdG w v gs) (hf : Fr noF noF w w') : RdG w' v gs := by
  rcases h with h | ⟨g, o, c, rfl, hl, h⟩
  · exact Or.inl h
  · refine Or.inr ⟨g, o, c, rfl, hl, fun j x hj => ?_⟩
    obtain ⟨a, n, c', h1, h2⟩ := h j x hj
    exact ⟨a, n, c', fun i u hi => hf.cell (h1 i u hi) fun x => x, h2.keep hf fun _ _ x => x⟩
theorem RdG.len {w : World} {v : Value} {gs : List (Int × GotD)} (h : RdG w v gs) : ∃ a c, v = .slice a gs.length c := by
  rcases h with ⟨a, c, rfl, rfl⟩ | ⟨g, o, c, rfl, _⟩
  · exact ⟨a, c, rfl⟩
  · exact ⟨_, c, rfl⟩

theorem L_sameGot (v1 v2 : Value) (gs : List (Int × GotD)) (w : World) (h1 : RdG w v1 gs) (h2 : RdG w v2 gs) : Calls Tryz.prog 37 #[v1, v2] w fun e w' => e = .returned (.bool true) ∧ Fr noF noF w w' := by
  obtain ⟨a1, c1, rfl⟩ := h1.len
  obtain ⟨a2, c2, rfl⟩ := h2.len
  obtain ⟨n, hn⟩ : ∃ n, n = gs.length := ⟨_, rfl⟩
  rw [← hn] at h1 h2 ⊢
  have H1 := Lib.hid h1
  have H2 := Lib.hid h2
  have HN := Lib.hid hn
  have HE := Lib.hid L_equal
  clear h1 h2 hn
  go_enter Tryz.func37, Tryz.ntmps37
  go_wp2_with fail
  go_loopw [5] (fun i wr => ∃ k : Nat, i = .int .i64 k ∧ k ≤ n ∧ Fr noF noF w wr) (fun i _ => n - (intOf i).toNat)
  case atStart => exact ⟨0, rfl, by omega, Fr.refl noF w⟩
  case round =>
    obtain ⟨k, rfl, hk, hf⟩ := hrel
    rcases Nat.lt_or_ge k n with hlt | hge
    · obtain ⟨x, hx⟩ : ∃ x, gs[k]? = some x := ⟨_, List.getElem?_eq_getElem (by rw [← HN.out]; exact hlt)⟩
      have hk0 : (0 : Int) ≤ (k : Int) := by omega
      have hk1 : (k : Int) < (n : Int) := by omega
      have hkb : (k : Int) ≤ 100000000 := by
        rcases H1.out with ⟨_, _, _, h⟩ | ⟨_, _, _, _, h, _⟩
        · rw [h] at hx; simp at hx
        · have := HN.out; omega
      rcases H1.out.keep hf with ⟨_, _, _, h⟩ | ⟨g1, o1, c1', e1, -, r1⟩
      · rw [h] at hx; simp at hx
      rcases H2.out.keep hf with ⟨_, _, _, h⟩ | ⟨g2, o2, c2', e2, -, r2⟩
      · rw [h] at hx; simp at hx
      obtain ⟨s1a, s1n, s1c, q1, t1⟩ := r1 k x hx
      obtain ⟨s2a, s2n, s2c, q2, t2⟩ := r2 k x hx
      have f1 : a1 = some ⟨g1, o1, none⟩ := by injection e1
      have f2 : a2 = some ⟨g2, o2, none⟩ := by injection e2
      clear e1 e2
      subst f1 f2
      have A0 : wr.cell? ⟨g1, o1 + k * 7, none⟩ = some (.int .i64 x.1) := q1 0 _ rfl
      have A1 : wr.cell? ⟨g1, o1 + k * 7 + 1, none⟩ = some (.int .i64 x.2.t) := q1 1 _ rfl
      have A2 : wr.cell? ⟨g1, o1 + k * 7 + 2, none⟩ = some (.int .i64 x.2.k) := q1 2 _ rfl
      have A3 : wr.cell? ⟨g1, o1 + k * 7 + 3, none⟩ = some (.int .i64 x.2.sz) := q1 3 _ rfl
      have A4 : wr.cell? ⟨g1, o1 + k * 7 + 4, none⟩ = some (.int .i64 x.2.id) := q1 4 _ rfl
      have A5 : wr.cell? ⟨g1, o1 + k * 7 + 5, none⟩ = some (.int .i64 x.2.n) := q1 5 _ rfl
      have A6 : wr.cell? ⟨g1, o1 + k * 7 + 6, none⟩ = some (.slice s1a s1n s1c) := q1 6 _ rfl
      have B0 : wr.cell? ⟨g2, o2 + k * 7, none⟩ = some (.int .i64 x.1) := q2 0 _ rfl
      have B1 : wr.cell? ⟨g2, o2 + k * 7 + 1, none⟩ = some (.int .i64 x.2.t) := q2 1 _ rfl
      have B2 : wr.cell? ⟨g2, o2 + k * 7 + 2, none⟩ = some (.int .i64 x.2.k) := q2 2 _ rfl
      have B3 : wr.cell? ⟨g2, o2 + k * 7 + 3, none⟩ = some (.int .i64 x.2.sz) := q2 3 _ rfl
      have B4 : wr.cell? ⟨g2, o2 + k * 7 + 4, none⟩ = some (.int .i64 x.2.id) := q2 4 _ rfl
      have B5 : wr.cell? ⟨g2, o2 + k * 7 + 5, none⟩ = some (.int .i64 x.2.n) := q2 5 _ rfl
      have B6 : wr.cell? ⟨g2, o2 + k * 7 + 6, none⟩ = some (.slice s2a s2n s2c) := q2 6 _ rfl
      have hS : ∀ X, Fr noF noF wr X → (X.cell? ⟨g1, o1 + k * 7, none⟩ = some (.int .i64 x.1) ∧ X.cell? ⟨g1, o1 + k * 7 + 1, none⟩ = some (.int .i64 x.2.t) ∧ X.cell? ⟨g1, o1 + k * 7 + 2, none⟩ = some (.int .i64 x.2.k) ∧ X.cell? ⟨g1, o1 + k * 7 + 3, none⟩ = some (.int .i64 x.2.sz) ∧ X.cell? ⟨g1, o1 + k * 7 + 4, none⟩ = some (.int .i64 x.2.id) ∧ X.cell? ⟨g1, o1 + k * 7 + 5, none⟩ = some (.int .i64 x.2.n) ∧ X.cell? ⟨g1, o1 + k * 7 + 6, none⟩ = some (.slice s1a s1n s1c) ∧ X.cell? ⟨g2, o2 + k * 7, none⟩ = some (.int .i64 x.1) ∧ X.cell? ⟨g2, o2 + k * 7 + 1, none⟩ = some (.int .i64 x.2.t) ∧ X.cell? ⟨g2, o2 + k * 7 + 2, none⟩ = some (.int .i64 x.2.k) ∧ X.cell? ⟨g2, o2 + k * 7 + 3, none⟩ = some (.int .i64 x.2.sz) ∧ X.cell? ⟨g2, o2 + k * 7 + 4, none⟩ = some (.int .i64 x.2.id) ∧ X.cell? ⟨g2, o2 + k * 7 + 5, none⟩ = some (.int .i64 x.2.n) ∧ X.cell? ⟨g2, o2 + k * 7 + 6, none⟩ = some (.slice s2a s2n s2c)) := fun X hX => ⟨hX.cell A0 fun x => x, hX.cell A1 fun x => x, hX.cell A2 fun x => x, hX.cell A3 fun x => x, hX.cell A4 fun x => x, hX.cell A5 fun x => x, hX.cell A6 fun x => x, hX.cell B0 fun x => x, hX.cell B1 fun x => x, hX.cell B2 fun x => x, hX.cell B3 fun x => x, hX.cell B4 fun x => x, hX.cell B5 fun x => x, hX.cell B6 fun x => x⟩
      have HK := Lib.hid hS
      have HF := Lib.hid (And.intro hf (And.intro t1 t2))
      clear hx r1 r2 q1 q2 t1 t2 hf hS A0 A1 A2 A3 A4 A5 A6 B0 B1 B2 B3 B4 B5 B6
      go_wp2_with fail
      go_region_held3 (fun w' => w'.cell? ⟨g1, o1 + k * 7, none⟩ = some (.int .i64 x.1) ∧ w'.cell? ⟨g1, o1 + k * 7 + 1, none⟩ = some (.int .i64 x.2.t) ∧ w'.cell? ⟨g1, o1 + k * 7 + 2, none⟩ = some (.int .i64 x.2.k) ∧ w'.cell? ⟨g1, o1 + k * 7 + 3, none⟩ = some (.int .i64 x.2.sz) ∧ w'.cell? ⟨g1, o1 + k * 7 + 4, none⟩ = some (.int .i64 x.2.id) ∧ w'.cell? ⟨g1, o1 + k * 7 + 5, none⟩ = some (.int .i64 x.2.n) ∧ w'.cell? ⟨g1, o1 + k * 7 + 6, none⟩ = some (.slice s1a s1n s1c) ∧ w'.cell? ⟨g2, o2 + k * 7, none⟩ = some (.int .i64 x.1) ∧ w'.cell? ⟨g2, o2 + k * 7 + 1, none⟩ = some (.int .i64 x.2.t) ∧ w'.cell? ⟨g2, o2 + k * 7 + 2, none⟩ = some (.int .i64 x.2.k) ∧ w'.cell? ⟨g2, o2 + k * 7 + 3, none⟩ = some (.int .i64 x.2.sz) ∧ w'.cell? ⟨g2, o2 + k * 7 + 4, none⟩ = some (.int .i64 x.2.id) ∧ w'.cell? ⟨g2, o2 + k * 7 + 5, none⟩ = some (.int .i64 x.2.n) ∧ w'.cell? ⟨g2, o2 + k * 7 + 6, none⟩ = some (.slice s2a s2n s2c)) (first | exact HK.out _ ((Fr.refl noF wr).drew) | exact HK.out _ (((Fr.refl noF wr).alloc _).drew) | exact HK.out _ ((((Fr.refl noF wr).alloc _).alloc _).drew)) (fail)
      all_goals go_wp2_with fail
      all_goals (with_reducible refine (HE.out _ _ x.2.s x.2.s _ (HF.out.2.1.keep (F := noF) (F' := noF) ((((Fr.refl noF wr).alloc _).alloc _).drew) fun _ _ x => x) (HF.out.2.2.keep (F := noF) (F' := noF) ((((Fr.refl noF wr).alloc _).alloc _).drew) fun _ _ x => x)).mono ?_)
      all_goals rintro e w' ⟨he, q, rfl⟩
      all_goals (rw [decide_eq_true rfl] at he; subst he)
      all_goals go_wp2_with fail
      all_goals go_roundw
      case rel => exact ⟨k + 1, by go_num, by omega, (((HF.out.1.alloc _).alloc _).drewN _)⟩
      case measure => simp [intOf]; omega
      case rel => exact ⟨k + 1, by go_num, by omega, (((HF.out.1.alloc _).alloc _).drewN _)⟩
      case measure => simp [intOf]; omega
    · obtain rfl : k = n := by omega
      have HF := Lib.hid hf
      clear hf
      have hkk : ¬ (k : Int) < (k : Int) := by omega
      go_wp2
      go_ret
      exact ⟨rfl, HF.out⟩
end Go.Proofs.YtkfkieebcahiiaaGreatDoor
namespace Go.Proofs.YtkfkieebcahiiaaGreatDoor
open Go Go.RowKit
set_option maxHeartbeats 2000000
set_option maxRecDepth 100000

theorem big_more (j m V : Nat) : Lib.beBytes (m + 1) (V / 256 ^ j) = Lib.beBytes m (V / 256 ^ (j + 1)) ++ [(V / 256 ^ j % 256).toUInt8] := by
  rw [beBytes_succ, Nat.div_div_eq_div_mul, ← Nat.pow_succ]
theorem big_val (n : Int) (j : Nat) : IntKind.u64.wrap n / 2 ^ (8 * j) % 256 = (((n % 18446744073709551616).toNat / 256 ^ j % 256).toUInt8.toNat : Int) := by
  have h1 : IntKind.u64.wrap n = ((n % 18446744073709551616).toNat : Int) := by rw [IntKind.wrap_u64]; omega
  rw [h1, Int.pow_mul]
  have h2 : ((2 : Int) ^ 8) ^ j = ((256 ^ j : Nat) : Int) := by norm_cast
  rw [h2]
  obtain ⟨V, hV⟩ : ∃ V, V = (n % 18446744073709551616).toNat := ⟨_, rfl⟩
  rw [← hV]
  have h3 : (V / 256 ^ j % 256).toUInt8.toNat = V / 256 ^ j % 256 := by
    show (UInt8.ofNat _).toNat = _
    rw [UInt8.toNat_ofNat']
    omega
  rw [h3]
  push_cast
  rfl

theorem L_big (n : Int) (size : Nat) (hs : size ≤ 8) (w : World) : Calls Tryz.prog 33 #[.int .i64 n, .int .i64 size] w (NewR (bigB n size) w) := by
  obtain ⟨i0, hi, hz0, hz1, hz2⟩ := info_parts info_u8
  have HI := Lib.hid (And.intro hi (And.intro hz0 (And.intro hz1 hz2)))
  obtain ⟨V, hV⟩ : ∃ V, V = (n % 18446744073709551616).toNat := ⟨_, rfl⟩
  have HB := Lib.hid (show bigB n size = Lib.beBytes size V by rw [hV]; rfl)
  have HV := Lib.hid (show ∀ j, IntKind.u64.wrap n / 2 ^ (8 * j) % 256 = ((V / 256 ^ j % 256).toUInt8.toNat : Int) from fun j => by rw [hV]; exact big_val n j)
  have hs' : (size : Int) ≤ 8 := by omega
  clear hi hz0 hz1 hz2 hV
  go_enter Tryz.func33, Tryz.ntmps33
  go_wp2
  go_loopw [5, 6] (fun v i wr => ∃ k : Nat, i = .int .i64 ((k : Int) - 1) ∧ k ≤ size ∧ OwnB wr w.heap.size v (Lib.beBytes (size - k) (V / 256 ^ k)) ∧ Fr noF noF w wr) (fun _ i _ => (intOf i + 1).toNat)
  case atStart =>
    refine ⟨size, by first | rfl | go_num, Nat.le_refl _, ?_, Fr.refl noF w⟩
    rw [Nat.sub_self]
    exact OwnB.nil w _
  case round =>
    obtain ⟨k, rfl, hk, hown, hf⟩ := hrel
    rcases Nat.eq_zero_or_pos k with rfl | hpos
    · have HX := Lib.hid (And.intro hown hf)
      clear hown hf
      go_wp2
      go_ret
      refine ⟨_, rfl, ?_, HX.out.2⟩
      have := HX.out.1
      rw [Nat.sub_zero, Nat.pow_zero, Nat.div_one, ← HB.out] at this
      exact this
    · obtain ⟨j, rfl⟩ : ∃ j, k = j + 1 := ⟨k - 1, by omega⟩
      have e1 : ((j + 1 : Nat) : Int) - 1 = (j : Int) := by omega
      rw [e1]
      have hj0 : (0 : Int) ≤ (j : Int) := by omega
      have hj1 : (j : Int) ≤ 7 := by omega
      have hnx := big_more j (size - (j + 1)) V
      rw [show size - (j + 1) + 1 = size - j by omega] at hnx
      have hlen : (Lib.beBytes (size - (j + 1)) (V / 256 ^ (j + 1))).length ≤ 8 := by rw [Lib.beBytes_length]; omega
      obtain ⟨L, hL⟩ : ∃ L, L = Lib.beBytes (size - (j + 1)) (V / 256 ^ (j + 1)) := ⟨_, rfl⟩
      rw [← hL] at hown hnx hlen
      have HX := Lib.hid (And.intro hown (And.intro hf (And.intro hnx hlen)))
      have hz := hf.size
      clear hown hf e1 hnx hL hlen
      have hzz : w.heap.size ≤ (wr.alloc (.cells #[.int .u8 (IntKind.u64.wrap n / 2 ^ (8 * j) % 256)] U8 (0, 0))).heap.size := by simp; omega
      have HZ := Lib.hid hzz
      clear hz hzz
      go_wp2_with (at_builtin; refine wpList_append_own _ rfl _ _ 24 rfl w.heap.size U8 i0 (.int .u8 0) 1 1 Tryz.underlying24 HI.out.1 HI.out.2.1 HI.out.2.2.1 HI.out.2.2.2 rfl (by decide) _ L.length (Lib.byteCells L) rfl (HX.out.1.alloc _) ⟨wr.heap.size, 0, none⟩ 1 1 [.int .u8 (IntKind.u64.wrap n / 2 ^ (8 * j) % 256)] rfl rfl (app_cell _ _ _) (app_one rfl) (by have := HX.out.2.2.2; unfold maxLen; omega) (by have := HX.out.2.2.2; omega) HZ.out ?_)
      intro v' w1 hown' hgrow _
      have hY : OwnB w1 w.heap.size v' (Lib.beBytes (size - j) (V / 256 ^ j)) := by
        rw [HX.out.2.2.1]
        exact OwnB.snoc hown' rfl (HV.out j)
      have hfr := ((HX.out.2.1.alloc _).grown hgrow (fun k hk => (HX.out.1.own k hk)))
      have HY := Lib.hid (And.intro hY hfr)
      clear hown' hgrow hY hfr
      go_wp2_with fail
      go_roundw
      case rel => exact ⟨j, by first | rfl | go_num, by omega, HY.out.1, HY.out.2⟩
      case measure => simp [intOf]
end Go.Proofs.YtkfkieebcahiiaaGreatDoor
namespace Go.Proofs.YtkfkieebcahiiaaGreatDoor
open Go Go.RowKit
set_option maxHeartbeats 2000000
set_option maxRecDepth 100000

theorem RdS_one {w : World} {g : Nat} {x : Stp} {cs : Array Value} {t : TypeId} {f : Nat × Nat} (h : w.heap[g]? = some (.cells cs t f)) (hc : cs = x.cells) (hv : Rd w x.v x.s) (hl : x.s.length ≤ maxLen) : RdS w noF (.slice (some ⟨g, 0, none⟩) 1 1) [x] := by
  subst hc
  refine Or.inr ⟨g, 0, 1, rfl, Nat.le_refl _, by decide, fun h => h, fun j y hj => ?_⟩
  match j, hj with
  | 0, hj =>
    simp at hj
    subst hj
    refine ⟨fun i u hi => ?_, hv, fun _ _ h => h, hl⟩
    rw [cell_at h]
    simpa using hi
theorem RdG_one {w : World} {g : Nat} {kd : Int} {gd : GotD} {a : Option Addr} {n c : Nat} {cs : Array Value} {t : TypeId} {f : Nat × Nat} (h : w.heap[g]? = some (.cells cs t f)) (hc : cs = gd.cells kd (.slice a n c)) (hv : Rd w (.slice a n c) gd.s) : RdG w (.slice (some ⟨g, 0, none⟩) 1 1) [(kd, gd)] := by
  subst hc
  refine Or.inr ⟨g, 0, 1, rfl, by simp, fun j y hj => ?_⟩
  match j, hj with
  | 0, hj =>
    simp at hj
    subst hj
    refine ⟨a, n, c, fun i u hi => ?_, hv⟩
    rw [cell_at h]
    simpa using hi
theorem GotsV.one {w : World} {base : Nat} {v : Value} {gd : GotD} (h : GotsV w base v [gd]) : RdG w v [(0, gd)] := by
  obtain ⟨vs, hl, hown, hea⟩ := h
  match vs, hl with
  | [u], _ =>
    obtain ⟨hr, _⟩ := hea 0 gd u rfl rfl
    obtain ⟨a, n, c, rfl, -⟩ := hr.len
    rcases hown.2 with ⟨_, h0⟩ | ⟨g, cap, cur, rfl, _, hg, _⟩
    · cases h0
    · have hc := hown.cells (g := g) rfl
      refine Or.inr ⟨g, 0, cap, rfl, by simp, fun j y hj => ?_⟩
      match j, hj with
      | 0, hj =>
        simp at hj
        subst hj
        refine ⟨a, n, c, fun i x hi => ?_, hr⟩
        have := hc i x (by simpa [gotCells] using hi)
        rw [Lib.addr_add] at this
        simpa using this
theorem OwnI.one {w : World} {base : Nat} {v : Value} (h : OwnI w base v [0]) : ∃ g c, v = .slice (some ⟨g, 0, none⟩) 1 c ∧ w.cell? ⟨g, 0, none⟩ = some (.int .i64 0) := by
  rcases h.2 with ⟨_, h0⟩ | ⟨g, cap, cur, rfl, _, hg, _⟩
  · cases h0
  · have hc := World.ownsRow.cells h (g := g) rfl 0 (.int .i64 0) rfl
    rw [Lib.addr_add] at hc
    exact ⟨g, cap, rfl, by simpa using hc⟩

end Go.Proofs.YtkfkieebcahiiaaGreatDoor
