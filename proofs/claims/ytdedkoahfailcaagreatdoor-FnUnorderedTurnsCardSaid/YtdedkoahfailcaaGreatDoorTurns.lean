/- FnUnorderedTurns: walked. -/
import Derived.Test.YtdedkoahfailcaaGreatDoorUnordI
import Derived.Test.YtdedkoahfailcaaGreatDoorOwned
import Derived.Deep.RegionWith
namespace Go.Proofs.YtdedkoahfailcaaGreatDoor
open Go Go.RowKit
set_option maxHeartbeats 4000000
set_option maxRecDepth 100000

abbrev TInt : TypeId := 3
theorem info_int : (Tryz.prog.info? 3).map (fun i => (i.zero, i.size, i.bytes)) = some (some (.int .i64 0), 1, 8) := by kernel_rfl
abbrev icells (l : List Int) : List Value := l.map (Value.int .i64)
/-- The value v holds the numbers l, in a block from base on. -/
def OwnI (w : World) (base : Nat) (v : Value) (l : List Int) : Prop := w.ownsRow base TInt 1 v l.length (icells l)
theorem OwnI.nil (w : World) (base : Nat) : OwnI w base (.slice none 0 0) [] := ⟨rfl, Or.inl ⟨rfl, rfl⟩⟩
theorem icell_at {l : List Int} {j : Nat} {u : Int} (h : l[j]? = some u) : (icells l)[j]? = some (.int .i64 u) := by simp [icells, h]
theorem OwnI.rd {w : World} {base : Nat} {v : Value} {l : List Int} (h : OwnI w base v l) : RdI w v l := by
  rcases h.2 with ⟨rfl, h0⟩ | ⟨g, cap, cur, rfl, hb, hg, hn, hm, hs, ht⟩
  · exact Or.inl ⟨rfl, List.length_eq_zero_iff.1 h0⟩
  · refine Or.inr ⟨_, _, _, rfl, rfl, hn, hm, fun j u hj => ?_⟩
    rw [Lib.addr_add, cell_at hg]
    have hjl : j < l.length := (List.getElem?_eq_some_iff.1 hj).1
    have h1 : (cur.toList.take (l.length * 1))[j]? = (icells l)[j]? := by rw [ht]
    rw [List.getElem?_take_of_lt (by omega)] at h1
    simp only [Array.getElem?_toList] at h1
    rw [Nat.zero_add, h1, icell_at hj]
theorem OwnI.own {w : World} {base : Nat} {v : Value} {l : List Int} (h : OwnI w base v l) : ∀ k, v.ownBlock = some k → base ≤ k := by
  intro k hk
  rcases h.2 with ⟨rfl, _⟩ | ⟨g, cap, cur, rfl, hb, _⟩
  · cases hk
  · injection hk with hk; subst hk; exact hb
theorem OwnI.drewN {w : World} {base : Nat} {v : Value} {l : List Int} (h : OwnI w base v l) (q : Nat) : OwnI (w.drewN q) base v l := h
/-- Where it lies. -/
theorem OwnI.at {w : World} {base n c : Nat} {a : Option Addr} {l : List Int} (h : OwnI w base (.slice a n c) l) (hl : 0 < n) : ∃ g, a = some ⟨g, 0, none⟩ ∧ base ≤ g ∧ l.length = n ∧ ∀ (j : Nat) u, l[j]? = some u → w.cell? ⟨g, j, none⟩ = some (.int .i64 u) ∧ w.frozen? ⟨g, j, none⟩ = false := by
  have hr := h.rd
  obtain ⟨h0, ⟨h, _⟩ | ⟨g', cap, cur, hv, hb, hg, h1, h2, h3, h4⟩⟩ := h
  · injection h with _ h _; omega
  · injection hv with hv hn hc
    subst hv
    refine ⟨g', rfl, hb, hn.symm, fun j u hj => ⟨?_, free_at hg j⟩⟩
    rcases hr with ⟨h, _⟩ | ⟨a', n', c', h, _, _, _, hs⟩
    · cases h
    · injection h with h _ _
      injection h with h
      subst h
      have := hs j u hj
      rwa [Lib.addr_add, Nat.zero_add] at this
theorem OwnI.set {w : World} {base g c n : Nat} {l : List Int} (h : OwnI w base (.slice (some ⟨g, 0, none⟩) n c) l) (k : Nat) (u : Int) : OwnI (w.setCell ⟨g, k, none⟩ (.int .i64 u)) base (.slice (some ⟨g, 0, none⟩) n c) (l.set k u) := by
  obtain ⟨h0, ⟨h, _⟩ | ⟨g', cap, cur, hv, hb, hg, h1, h2, h3, h4⟩⟩ := h
  · cases h
  · injection hv with hv hn hc
    injection hv with hv
    injection hv with hv
    subst hv hc hn
    refine ⟨by simp [icells], Or.inr ⟨g, c, _, by rw [List.length_set], hb, setCell_at hg _, by rw [List.length_set]; exact h1, h2, by simpa using h3, ?_⟩⟩
    rw [Array.toList_setIfInBounds, List.length_set, List.take_set, h4]
    simp only [icells, List.map_set]

/-- Numbers appended, whatever they are held by. -/
theorem append_ints {w : World} {ops : Array Oper} {rest : List Oper} {o : Oper} {a : Act} {Q : Exit → Act → World → Prop} (hgd : o.guard = none) (s x : Operand)
    (ho : o.op = .call { callee := .builtin .append, args := #[s, x], argTypes := #[30, 30] })
    (base : Nat) (v vx : Value) (L l : List Int) (hs : a.eval s = v) (hown : OwnI w base v L) (hx : a.eval x = vx) (hr : RdI w vx l) (hb : L.length + l.length ≤ 1000000) (hbase : base ≤ w.heap.size)
    (h : ∀ v' w', OwnI w' base v' (L ++ l) → w.grownBy w' v.ownBlock → wpList Tryz.prog ops Q rest (a.put o.dst v') w') : wpList Tryz.prog ops Q (o :: rest) a w := by
  obtain ⟨i0, hi, hz0, hz1, hz2⟩ := info_parts info_int
  rcases hr with ⟨rfl, rfl⟩ | ⟨ad, n, c, rfl, hn, hc, hm, hc2⟩
  · refine wpList_append_own_none hgd s x 30 ho base TInt i0 1 Tryz.underlying30 hi v L.length (icells L) hs hown hx (h v w (by rw [List.append_nil]; exact hown) ⟨rfl, rfl, rfl, Nat.le_refl _, fun _ _ _ => rfl⟩)
  · refine wpList_append_own w hgd s x 30 ho base TInt i0 (.int .i64 0) 1 8 Tryz.underlying30 hi hz0 hz1 hz2 rfl (by decide) v L.length (icells L) hs hown ad n c (icells l) hx (by simp [icells]; omega) (fun j u hj => ?_) (fun u hu => ?_) (by unfold maxLen; omega) (by omega) hbase ?_
    · simp only [icells, List.getElem?_map, Option.map_eq_some_iff] at hj
      obtain ⟨y, h1, rfl⟩ := hj
      exact hc2 j y h1
    · simp only [icells, List.mem_map] at hu
      obtain ⟨y, _, rfl⟩ := hu
      rfl
    · intro v' w' h1 h2 _
      refine h v' w' ?_ h2
      unfold OwnI icells
      rw [List.length_append, List.map_append, hn]
      exact h1

/-- .. where it is guarded, and wanted. -/
theorem append_ints_g {w : World} {ops : Array Oper} {rest : List Oper} {o : Oper} {a : Act} {Q : Exit → Act → World → Prop} (hw : Region.wanted o (yielded ops a.tmps) = true) (s x : Operand)
    (ho : o.op = .call { callee := .builtin .append, args := #[s, x], argTypes := #[30, 30] })
    (base : Nat) (v vx : Value) (L l : List Int) (hs : a.eval s = v) (hown : OwnI w base v L) (hx : a.eval x = vx) (hr : RdI w vx l) (hb : L.length + l.length ≤ 1000000) (hbase : base ≤ w.heap.size)
    (h : ∀ v' w', OwnI w' base v' (L ++ l) → w.grownBy w' v.ownBlock → wpList Tryz.prog ops Q rest (a.put o.dst v') w') : wpList Tryz.prog ops Q (o :: rest) a w := by
  obtain ⟨i0, hi, hz0, hz1, hz2⟩ := info_parts info_int
  refine BigFrame.wpList_want hw fun K hK => ?_
  rcases hr with ⟨rfl, rfl⟩ | ⟨ad, n, c, rfl, hn, hc, hm, hc2⟩
  · have hrun := run_append_owned_none (P := Tryz.prog) (w := w) base 30 o.type TInt i0 1 Tryz.underlying30 hi v L.length (icells L) hown
    unfold Oper.wp
    simp [execOp, ho, resolve, invoke, builtin, hs, hx, hrun, Result.andThen]
    exact hK _ _ (h v w (by rw [List.append_nil]; exact hown) ⟨rfl, rfl, rfl, Nat.le_refl _, fun _ _ _ => rfl⟩)
  · refine wp_append_own w s x 30 ho base TInt i0 (.int .i64 0) 1 8 Tryz.underlying30 hi hz0 hz1 hz2 rfl (by decide) v L.length (icells L) hs hown ad n c (icells l) hx (by simp [icells]; omega) (fun j u hj => ?_) (fun u hu => ?_) (by unfold maxLen; omega) (by omega) hbase ?_
    · simp only [icells, List.getElem?_map, Option.map_eq_some_iff] at hj
      obtain ⟨y, h1, rfl⟩ := hj
      exact hc2 j y h1
    · simp only [icells, List.mem_map] at hu
      obtain ⟨y, _, rfl⟩ := hu
      rfl
    · intro v' w' h1 h2 _
      refine hK _ _ (h v' w' ?_ h2)
      unfold OwnI icells
      rw [List.length_append, List.map_append, hn]
      exact h1
theorem own_alloc {w : World} {base : Nat} {v : Value} {l : List Int} (h : OwnI w base v l) (o : Obj) : OwnI (w.alloc o) base v l := by
  obtain ⟨h0, h | ⟨g', cap, cur, hv, hb, hg, h1, h2, h3, h4⟩⟩ := h
  · exact ⟨h0, Or.inl h⟩
  · exact ⟨h0, Or.inr ⟨g', cap, cur, hv, hb, alloc_at hg, h1, h2, h3, h4⟩⟩
theorem one_int (w : World) (n : Int) : RdI (w.alloc (.cells #[.int .i64 n] TInt (0, 0))) (.slice (some ⟨w.heap.size, 0, none⟩) 1 1) [n] :=
  Or.inr ⟨_, 1, 1, rfl, rfl, Nat.le_refl _, by decide, fun j u hj => by
    match j, hj with
    | 0, hj =>
      simp at hj
      subst hj
      rw [Lib.addr_add, cell_at (alloc_new w _)]
      rfl⟩

theorem RdI.bound {w : World} {a : Option Addr} {n c : Nat} {l : List Int} (h : RdI w (.slice a n c) l) : l.length = n := by
  rcases h with ⟨h, rfl⟩ | ⟨_, _, _, h, hl, _, _, _⟩
  · injection h with _ h _; subst h; rfl
  · injection h with _ h _; subst h; exact hl

theorem L_FnUnorderedTurns (va : Value) (a : List Int) (vb : Value) (b : List Int) (vs : Value) (same : List Int) (vy : Value) (by' : List Int) (more : Int) (w : World)
    (ra : RdI w va a) (rb : RdI w vb b) (rs : RdI w vs same) (ry : RdI w vy by') : Calls Tryz.prog 4 #[va, vb, vs, vy, .int .i64 more] w fun e w' => e = .returned (.bool true) ∧ Fr noF noF w w' := by
  have HK := Lib.hid L_known
  have HU := Lib.hid I_Unordered
  obtain ⟨a1, n1, c1, rfl, -⟩ := ra.len
  obtain ⟨a2, n2, c2, rfl, -⟩ := rb.len
  obtain ⟨a3, n3, c3, rfl, -⟩ := rs.len
  obtain ⟨a4, n4, c4, rfl, -⟩ := ry.len
  have HA := Lib.hid (And.intro ra ra.bound)
  have HB := Lib.hid (And.intro rb rb.bound)
  have HS := Lib.hid (And.intro rs rs.bound)
  have HY := Lib.hid (And.intro ry ry.bound)
  clear ra rb rs ry
  rcases (show (2147483647 < n1) ∨ (n1 ≤ 2147483647 ∧ 2147483647 < n2) ∨ (n1 ≤ 2147483647 ∧ n2 ≤ 2147483647 ∧ 2147483647 < n3) ∨ (n1 ≤ 2147483647 ∧ n2 ≤ 2147483647 ∧ n3 ≤ 2147483647 ∧ 2147483647 < n4) ∨ (n1 ≤ 2147483647 ∧ n2 ≤ 2147483647 ∧ n3 ≤ 2147483647 ∧ n4 ≤ 2147483647) by omega) with h | ⟨h, h'⟩ | ⟨h, h', h''⟩ | ⟨h, h', h'', h3⟩ | ⟨h, h', h'', h3⟩
  · have q1 : (2147483647 : Int) < (n1 : Int) := by omega
    clear h
    go_enter Tryz.func4, Tryz.ntmps4
    go_wp2
    go_ret
    exact ⟨rfl, Fr.refl noF w⟩
  · have q1 : ¬ (2147483647 : Int) < (n1 : Int) := by omega
    have q2 : (2147483647 : Int) < (n2 : Int) := by omega
    clear h h'
    go_enter Tryz.func4, Tryz.ntmps4
    go_wp2
    go_ret
    exact ⟨rfl, Fr.refl noF w⟩
  · have q1 : ¬ (2147483647 : Int) < (n1 : Int) := by omega
    have q2 : ¬ (2147483647 : Int) < (n2 : Int) := by omega
    have q3 : (2147483647 : Int) < (n3 : Int) := by omega
    clear h h' h''
    go_enter Tryz.func4, Tryz.ntmps4
    go_wp2
    go_ret
    exact ⟨rfl, Fr.refl noF w⟩
  · have q1 : ¬ (2147483647 : Int) < (n1 : Int) := by omega
    have q2 : ¬ (2147483647 : Int) < (n2 : Int) := by omega
    have q3 : ¬ (2147483647 : Int) < (n3 : Int) := by omega
    have q4 : (2147483647 : Int) < (n4 : Int) := by omega
    clear h h' h'' h3
    go_enter Tryz.func4, Tryz.ntmps4
    go_wp2
    go_ret
    exact ⟨rfl, Fr.refl noF w⟩
  have q1 : ¬ (2147483647 : Int) < (n1 : Int) := by omega
  have q2 : ¬ (2147483647 : Int) < (n2 : Int) := by omega
  have q3 : ¬ (2147483647 : Int) < (n3 : Int) := by omega
  have q4 : ¬ (2147483647 : Int) < (n4 : Int) := by omega
  clear h h' h'' h3
  rcases (show (1024 < n1) ∨ (n1 ≤ 1024 ∧ 1024 < n2) ∨ (n1 ≤ 1024 ∧ n2 ≤ 1024 ∧ 65536 < n3) ∨ (n1 ≤ 1024 ∧ n2 ≤ 1024 ∧ n3 ≤ 65536 ∧ 65536 < n4) ∨ (n1 ≤ 1024 ∧ n2 ≤ 1024 ∧ n3 ≤ 65536 ∧ n4 ≤ 65536) by omega) with h | ⟨h, h'⟩ | ⟨h, h', h''⟩ | ⟨h, h', h'', h3⟩ | ⟨h, h', h'', h3⟩
  · have p1 : (1024 : Int) < (n1 : Int) := by omega
    clear h
    go_enter Tryz.func4, Tryz.ntmps4
    go_wp2_with (go_at_call 13; refine (HK.out _).mono ?_; rintro e w1 ⟨rfl, hf⟩; have HX := Lib.hid hf; clear hf)
    go_ret
    exact ⟨rfl, HX.out⟩
  · have p1 : ¬ (1024 : Int) < (n1 : Int) := by omega
    have p2 : (1024 : Int) < (n2 : Int) := by omega
    clear h h'
    go_enter Tryz.func4, Tryz.ntmps4
    go_wp2_with (go_at_call 13; refine (HK.out _).mono ?_; rintro e w1 ⟨rfl, hf⟩; have HX := Lib.hid hf; clear hf)
    go_ret
    exact ⟨rfl, HX.out⟩
  · have p1 : ¬ (1024 : Int) < (n1 : Int) := by omega
    have p2 : ¬ (1024 : Int) < (n2 : Int) := by omega
    have p3 : (65536 : Int) < (n3 : Int) := by omega
    clear h h' h''
    go_enter Tryz.func4, Tryz.ntmps4
    go_wp2_with (go_at_call 13; refine (HK.out _).mono ?_; rintro e w1 ⟨rfl, hf⟩; have HX := Lib.hid hf; clear hf)
    go_ret
    exact ⟨rfl, HX.out⟩
  · have p1 : ¬ (1024 : Int) < (n1 : Int) := by omega
    have p2 : ¬ (1024 : Int) < (n2 : Int) := by omega
    have p3 : ¬ (65536 : Int) < (n3 : Int) := by omega
    have p4 : (65536 : Int) < (n4 : Int) := by omega
    clear h h' h'' h3
    go_enter Tryz.func4, Tryz.ntmps4
    go_wp2_with (go_at_call 13; refine (HK.out _).mono ?_; rintro e w1 ⟨rfl, hf⟩; have HX := Lib.hid hf; clear hf)
    go_ret
    exact ⟨rfl, HX.out⟩
  have p1 : ¬ (1024 : Int) < (n1 : Int) := by omega
  have p2 : ¬ (1024 : Int) < (n2 : Int) := by omega
  have p3 : ¬ (65536 : Int) < (n3 : Int) := by omega
  have p4 : ¬ (65536 : Int) < (n4 : Int) := by omega
  have HL := Lib.hid (And.intro h (And.intro h' (And.intro h'' h3)))
  have HN := Lib.hid (OwnI.nil w w.heap.size)
  clear h h' h'' h3
  go_enter Tryz.func4, Tryz.ntmps4
  go_wp2_with (at_builtin; refine append_ints rfl _ _ rfl w.heap.size (.slice none 0 0) (.slice a1 n1 c1) [] a rfl HN.out rfl HA.out.1 (by have := HA.out.2; have := HL.out.1; simp; omega) (Nat.le_refl _) ?_)
  intro vt w1 hown hg
  obtain ⟨at', nt, ct, rfl, hnt⟩ := hown.rd.len
  have H1 := Lib.hid (And.intro hown (And.intro hnt ((Fr.refl noF w).grown hg fun k hk => by cases hk)))
  clear hown hg hnt
  go_wp2_with fail
  go_loopw [12] (fun i wr => ∃ (p : Nat) (TL : List Int), i = .int .i64 p ∧ p ≤ n4 ∧ TL.Perm a ∧ OwnI wr w.heap.size (.slice at' nt ct) TL ∧ Fr noF noF w wr) (fun i _ => n4 - (intOf i).toNat)
  case atStart => exact ⟨0, a, rfl, by omega, List.Perm.refl _, H1.out.1, H1.out.2.2⟩
  case round =>
    obtain ⟨p, TL, rfl, hp, hperm, hown, hfr⟩ := hrel
    rcases (show (p < n4 ∧ 0 < nt) ∨ (p = n4 ∨ (p < n4 ∧ nt = 0)) by omega) with ⟨hlt, hpos⟩ | hend
    · obtain ⟨g, rfl, hgB, hTL, hcells⟩ := hown.at hpos
      obtain ⟨z, hz⟩ : ∃ z, by'[p]? = some z := ⟨_, List.getElem?_eq_getElem (by have := HY.out.2; omega)⟩
      have hyc : ∃ b4, a4 = some b4 ∧ wr.cell? (b4.add p) = some (.int .i64 z) := by
        rcases HY.out.1 with ⟨_, h⟩ | ⟨a', n', c', h, _, _, _, hs⟩
        · rw [h] at hz; cases hz
        · injection h with h _ _; exact ⟨a', h, hfr.cell (hs p z hz) fun x => x⟩
      obtain ⟨b4, rfl, dz⟩ := hyc
      obtain ⟨kN, hkN⟩ : ∃ kN, kN = p % nt := ⟨_, rfl⟩
      have hk : Int.tmod (p : Int) (nt : Int) = (kN : Int) := by rw [hkN, Int.tmod_eq_emod_of_nonneg (by omega)]; rfl
      have hp0 : (0 : Int) ≤ (p : Int) := by omega
      have hp1 : (p : Int) < (n4 : Int) := by omega
      have hn0 : (0 : Int) < (nt : Int) := by omega
      have hn1 : ¬ (nt : Int) = 0 := by omega
      have hn2 : (nt : Int) ≤ 1024 := by have := HL.out.1; have := H1.out.2.1; have := HA.out.2; omega
      have HC := Lib.hid hcells
      have HO := Lib.hid (And.intro hown (And.intro hfr hperm))
      have HKK0 := Lib.hid hk
      obtain ⟨mN, hmN⟩ : ∃ mN, mN = (z % 18446744073709551616).toNat % nt := ⟨_, rfl⟩
      have hm : Int.tmod (IntKind.u64.wrap z) (nt : Int) = (mN : Int) := by
        rw [IntKind.wrap_u64, hmN]
        have e : z % 18446744073709551616 = (((z % 18446744073709551616).toNat : Nat) : Int) := by omega
        rw [e, Int.tmod_eq_emod_of_nonneg (by omega)]
        simp only [Int.toNat_natCast]
        rfl
      have hkl : kN < nt := by rw [hkN]; exact Nat.mod_lt _ hpos
      have hml : mN < nt := by rw [hmN]; exact Nat.mod_lt _ hpos
      have HMM := Lib.hid hm
      clear hmN hkN hm hk
      have HKK := HKK0
      obtain ⟨x, hx⟩ : ∃ x, TL[kN]? = some x := ⟨_, List.getElem?_eq_getElem (by rw [hTL]; exact hkl)⟩
      obtain ⟨y, hy⟩ : ∃ y, TL[mN]? = some y := ⟨_, List.getElem?_eq_getElem (by rw [hTL]; exact hml)⟩
      obtain ⟨ck, fk⟩ := hcells kN x hx
      obtain ⟨cm, fm⟩ := hcells mN y hy
      have hk0 : (0 : Int) ≤ (kN : Int) := by omega
      have hk1 : (kN : Int) < (nt : Int) := by omega
      have hm0 : (0 : Int) ≤ (mN : Int) := by omega
      have hm1 : (mN : Int) < (nt : Int) := by omega
      have hm2 : wrap64 (mN : Int) = (mN : Int) := by unfold wrap64; omega
      have hp2 : (p : Int) + 1 ≤ 100001 := by have := HL.out.2.2.2; omega
      have HXY := Lib.hid (And.intro hx hy)
      obtain ⟨y', hy'⟩ : ∃ y', (TL.set kN y)[mN]? = some y' := ⟨_, List.getElem?_eq_getElem (by rw [List.length_set, hTL]; exact hml)⟩
      obtain ⟨g', hg', -, -, hc2⟩ := (hown.set kN y).at hpos
      obtain rfl : g = g' := by simpa using hg'
      obtain ⟨cm2, fm2⟩ := hc2 mN y' hy'
      clear hg' hc2 hy'
      clear hcells hown hfr hperm hz hx hy hkl hml
      have hk := HKK.out
      have hm := HMM.out
      go_wp2_with fail
      go_region
      all_goals go_wp2
      all_goals
        refine ⟨⟨p + 1, (TL.set kN y).set mN x, rfl, by omega, (swap_perm HXY.out.1 HXY.out.2).trans HO.out.2.2, ((HO.out.1.set kN y).set mN x).drewN 1, (((HO.out.2.1.setCell (p := ⟨g, kN, none⟩) (Or.inr hgB) _).setCell (p := ⟨g, mN, none⟩) (Or.inr hgB) _)).drew⟩, ?_⟩
        have e1 : intOf (Value.int IntKind.i64 (↑p + 1)) = p + 1 := rfl
        have e2 : intOf (Value.int IntKind.i64 (p : Int)) = p := rfl
        rw [e1, e2]; omega
    · have HT := Lib.hid (And.intro hown.rd (And.intro hperm hfr))
      clear hown hperm hfr
      rcases hend with rfl | ⟨hlt, rfl⟩
      · skip
        go_wp2_with fail
        refine (HU.out _ _ _ a TL same wr (HA.out.1.keep HT.out.2.2) HT.out.1 (HS.out.1.keep HT.out.2.2) (by have := HL.out.1; have := HA.out.2; omega) (by have := HT.out.2.1.length_eq; have := HL.out.1; have := HA.out.2; omega)).mono ?_
        rintro e w2 ⟨r1, rfl, hr1, hf⟩
        obtain rfl : true = r1 := (hr1.2 (HT.out.2.1.symm.map _)).symm
        have R2 := Lib.hid (And.intro (HT.out.2.2.trans hf) (HT.out.1.keep hf))
        clear hr1 hf
        go_wp2_with fail
        refine (HU.out _ _ _ a b same w2 (HA.out.1.keep R2.out.1) (HB.out.1.keep R2.out.1) (HS.out.1.keep R2.out.1) (by have := HL.out.1; have := HA.out.2; omega) (by have := HL.out.2.1; have := HB.out.2; omega)).mono ?_
        rintro e w3 ⟨r2, rfl, hr2, hf⟩
        have R3 := Lib.hid (And.intro (R2.out.1.trans hf) (And.intro (R2.out.2.keep hf) hr2))
        clear hr2 hf R2
        go_wp2_with fail
        refine (HU.out _ _ _ b a same w3 (HB.out.1.keep R3.out.1) (HA.out.1.keep R3.out.1) (HS.out.1.keep R3.out.1) (by have := HL.out.2.1; have := HB.out.2; omega) (by have := HL.out.1; have := HA.out.2; omega)).mono ?_
        rintro e w4 ⟨r3, rfl, hr3, hf⟩
        obtain rfl : r2 = r3 := Bool.eq_iff_iff.2 (R3.out.2.2.trans ((List.perm_comm).trans hr3.symm))
        have R4 := Lib.hid (And.intro (R3.out.1.trans hf) (R3.out.2.1.keep hf))
        clear hr3 hf R3
        have hbb : (r2 == r2) = true := by simp
        have hsz := R4.out.1.size
        have HTL := Lib.hid (show TL.length ≤ 1024 by have := HT.out.2.1.length_eq; have := HL.out.1; have := HA.out.2; omega)
        go_wp2_with (at_builtin; refine append_ints_g (by rfl) _ _ rfl w.heap.size (.slice none 0 0) (.slice at' nt ct) [] TL rfl (OwnI.nil _ _) rfl R4.out.2 (by have := HTL.out; simp; omega) hsz ?_)
        intro v5 w5 ho5 hg5
        have R5 := Lib.hid (And.intro ho5 (R4.out.1.grown hg5 fun k hk => by cases hk))
        have hs5 := R5.out.2.size
        clear ho5 hg5
        go_wp2_with (at_builtin; refine append_ints_g (by rfl) _ _ rfl w.heap.size v5 (.slice (some ⟨w5.heap.size, 0, none⟩) 1 1) TL [more] rfl (own_alloc R5.out.1 _) rfl (one_int w5 more) (by have := HTL.out; simp; omega) (by first | omega | (simp; omega)) ?_)
        intro v6 w6 ho6 hg6
        have R6 := Lib.hid (And.intro ho6.rd ((R5.out.2.alloc _).grown hg6 fun k hk => R5.out.1.own k hk))
        clear ho6 hg6
        go_wp2_with fail
        refine (HU.out _ _ _ a (TL ++ [more]) same w6 (HA.out.1.keep R6.out.2) R6.out.1 (HS.out.1.keep R6.out.2) (by have := HL.out.1; have := HA.out.2; omega) (by have := HTL.out; simp; omega)).mono ?_
        rintro e w7 ⟨r4, rfl, hr4, hf⟩
        obtain rfl : false = r4 := by
          cases r4 with
          | false => rfl
          | true =>
            have h1 := (hr4.1 rfl).length_eq
            have h2 := HT.out.2.1.length_eq
            simp at h1
            omega
        have R7 := Lib.hid (R6.out.2.trans hf)
        clear hr4 hf
        go_wp2_with fail
        refine (HK.out _).mono ?_
        rintro e w8 ⟨rfl, hf⟩
        have HX := Lib.hid (R7.out.trans hf)
        clear hf
        go_wp2
        go_ret
        exact ⟨rfl, HX.out⟩
      · have hp1 : (p : Int) < (n4 : Int) := by omega
        go_wp2_with fail
        refine (HU.out _ _ _ a TL same wr (HA.out.1.keep HT.out.2.2) HT.out.1 (HS.out.1.keep HT.out.2.2) (by have := HL.out.1; have := HA.out.2; omega) (by have := HT.out.2.1.length_eq; have := HL.out.1; have := HA.out.2; omega)).mono ?_
        rintro e w2 ⟨r1, rfl, hr1, hf⟩
        obtain rfl : true = r1 := (hr1.2 (HT.out.2.1.symm.map _)).symm
        have R2 := Lib.hid (And.intro (HT.out.2.2.trans hf) (HT.out.1.keep hf))
        clear hr1 hf
        go_wp2_with fail
        refine (HU.out _ _ _ a b same w2 (HA.out.1.keep R2.out.1) (HB.out.1.keep R2.out.1) (HS.out.1.keep R2.out.1) (by have := HL.out.1; have := HA.out.2; omega) (by have := HL.out.2.1; have := HB.out.2; omega)).mono ?_
        rintro e w3 ⟨r2, rfl, hr2, hf⟩
        have R3 := Lib.hid (And.intro (R2.out.1.trans hf) (And.intro (R2.out.2.keep hf) hr2))
        clear hr2 hf R2
        go_wp2_with fail
        refine (HU.out _ _ _ b a same w3 (HB.out.1.keep R3.out.1) (HA.out.1.keep R3.out.1) (HS.out.1.keep R3.out.1) (by have := HL.out.2.1; have := HB.out.2; omega) (by have := HL.out.1; have := HA.out.2; omega)).mono ?_
        rintro e w4 ⟨r3, rfl, hr3, hf⟩
        obtain rfl : r2 = r3 := Bool.eq_iff_iff.2 (R3.out.2.2.trans ((List.perm_comm).trans hr3.symm))
        have R4 := Lib.hid (And.intro (R3.out.1.trans hf) (R3.out.2.1.keep hf))
        clear hr3 hf R3
        have hbb : (r2 == r2) = true := by simp
        have hsz := R4.out.1.size
        have HTL := Lib.hid (show TL.length ≤ 1024 by have := HT.out.2.1.length_eq; have := HL.out.1; have := HA.out.2; omega)
        go_wp2_with (at_builtin; refine append_ints_g (by rfl) _ _ rfl w.heap.size (.slice none 0 0) (.slice at' 0 ct) [] TL rfl (OwnI.nil _ _) rfl R4.out.2 (by have := HTL.out; simp; omega) hsz ?_)
        intro v5 w5 ho5 hg5
        have R5 := Lib.hid (And.intro ho5 (R4.out.1.grown hg5 fun k hk => by cases hk))
        have hs5 := R5.out.2.size
        clear ho5 hg5
        go_wp2_with (at_builtin; refine append_ints_g (by rfl) _ _ rfl w.heap.size v5 (.slice (some ⟨w5.heap.size, 0, none⟩) 1 1) TL [more] rfl (own_alloc R5.out.1 _) rfl (one_int w5 more) (by have := HTL.out; simp; omega) (by first | omega | (simp; omega)) ?_)
        intro v6 w6 ho6 hg6
        have R6 := Lib.hid (And.intro ho6.rd ((R5.out.2.alloc _).grown hg6 fun k hk => R5.out.1.own k hk))
        clear ho6 hg6
        go_wp2_with fail
        refine (HU.out _ _ _ a (TL ++ [more]) same w6 (HA.out.1.keep R6.out.2) R6.out.1 (HS.out.1.keep R6.out.2) (by have := HL.out.1; have := HA.out.2; omega) (by have := HTL.out; simp; omega)).mono ?_
        rintro e w7 ⟨r4, rfl, hr4, hf⟩
        obtain rfl : false = r4 := by
          cases r4 with
          | false => rfl
          | true =>
            have h1 := (hr4.1 rfl).length_eq
            have h2 := HT.out.2.1.length_eq
            simp at h1
            omega
        have R7 := Lib.hid (R6.out.2.trans hf)
        clear hr4 hf
        go_wp2_with fail
        refine (HK.out _).mono ?_
        rintro e w8 ⟨rfl, hf⟩
        have HX := Lib.hid (R7.out.trans hf)
        clear hf
        go_wp2
        go_ret
        exact ⟨rfl, HX.out⟩
end Go.Proofs.YtdedkoahfailcaaGreatDoor
