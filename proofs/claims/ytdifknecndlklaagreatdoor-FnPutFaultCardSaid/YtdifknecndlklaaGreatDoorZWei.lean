/- How much there is in a value: laws.weigh, laws.isHeavy; what it writes by the binary protocol. -/
import Derived.Lib.MinMax
import Derived.Test.YtdifknecndlklaaGreatDoorZToldW
import Derived.Test.YtdifknecndlklaaGreatDoorZQ
set_option linter.all false
namespace Go.Proofs.YtdifknecndlklaaGreatDoor
open Go Go.RowKit
set_option maxHeartbeats 4000000
set_option maxRecDepth 100000
set_option linter.all false

mutual
def VT.weight : VT → Nat
  | .mk _ _ S _ _ ids L => 1 + S.length + ids.length + weightL L
def weightL : List VT → Nat
  | [] => 0
  | x :: l => 8 + x.weight + weightL l
end
theorem weightL_take {L : List VT} : ∀ {k : Nat} {x : VT}, L[k]? = some x → weightL (L.take (k + 1)) = weightL (L.take k) + 8 + x.weight := by
  induction L with
  | nil => intro k x h; simp at h
  | cons y l ih =>
    intro k x h
    cases k with
    | zero =>
      simp only [List.getElem?_cons_zero, Option.some.injEq] at h
      subst h
      simp [weightL]
    | succ k =>
      simp only [List.take_succ_cons, weightL]
      have := ih (k := k) (x := x) h
      omega
theorem weightL_len (L : List VT) : 8 * L.length ≤ weightL L := by
  induction L with
  | nil => simp [weightL]
  | cons x l ih => simp only [weightL, List.length_cons]; omega

theorem allW_len {strict : Bool} {L : List VT} (h : ∀ (j : Nat) x, L[j]? = some x → (x.bytesB strict).length ≤ 20 * x.weight) : ∀ n, (bytesAll strict (allW L n)).length ≤ 20 * weightL L := by
  induction L with
  | nil => intro n; cases n <;> simp [allW, bytesAll, weightL]
  | cons x l ih =>
    intro n
    cases n with
    | zero => simp [allW, bytesAll]
    | succ n =>
      rw [allW, bytesAll_append, bytesAll_wops, List.length_append, weightL]
      have h0 := h 0 x rfl
      have h1 := ih (fun j x hj => h (j + 1) x hj) n
      omega
theorem fieldsW_len {strict : Bool} {L : List VT} (h : ∀ (j : Nat) x, L[j]? = some x → (x.bytesB strict).length ≤ 20 * x.weight) : ∀ ids, (bytesAll strict (fieldsW L ids)).length ≤ 20 * weightL L := by
  induction L with
  | nil => intro ids; cases ids <;> simp [fieldsW, bytesAll, weightL]
  | cons x l ih =>
    intro ids
    cases ids with
    | nil => simp [fieldsW, bytesAll]
    | cons i ids =>
      rw [fieldsW]
      show (bytesAll strict ([_] ++ (x.wops ++ ([WOp.fieldEnd] ++ fieldsW l ids)))).length ≤ _
      rw [bytesAll_append, bytesAll_append, bytesAll_append, bytesAll_wops, List.length_append, List.length_append, List.length_append, weightL]
      have h0 := h 0 x rfl
      have h1 := ih (fun j x hj => h (j + 1) x hj) ids
      have h2 : (bytesAll strict [WOp.fieldBegin (x.T % 256) (IntKind.i16.wrap i)]).length = 3 := by simp [bytesAll, WOp.binB, be2_length]
      have h3 : (bytesAll strict [WOp.fieldEnd]).length = 0 := rfl
      omega
theorem bytesB_le_sized (strict : Bool) : ∀ (m : Nat) (x : VT), SizeOf.sizeOf x ≤ m → (x.bytesB strict).length ≤ 20 * x.weight := by
  intro m
  induction m with
  | zero =>
    intro x hx
    obtain ⟨T, N, Sb, K, E, ids, L⟩ := x
    simp at hx
  | succ m ih =>
    intro x hx
    obtain ⟨T, N, Sb, K, E, ids, L⟩ := x
    have hel : ∀ (j : Nat) x, L[j]? = some x → (x.bytesB strict).length ≤ 20 * x.weight := fun j x hj => by
      have hlt := List.sizeOf_lt_of_mem (List.mem_of_getElem? hj)
      refine ih x ?_
      simp at hx
      omega
    have ha := allW_len hel
    have hf := fieldsW_len hel
    show (bytesAll strict (VT.mk T N Sb K E ids L).wops).length ≤ _
    rw [VT.wops, VT.weight]
    have one : ∀ op : WOp, bytesAll strict [op] = op.binB strict := fun op => by simp [bytesAll]
    have cons : ∀ (op : WOp) l, (bytesAll strict (op :: l)).length = (op.binB strict).length + (bytesAll strict l).length := fun op l => by simp [bytesAll]
    have app : ∀ a b, (bytesAll strict (a ++ b)).length = (bytesAll strict a).length + (bytesAll strict b).length := fun a b => by rw [bytesAll_append, List.length_append]
    have e0 : (bytesAll strict []).length = 0 := rfl
    by_cases t2 : T % 256 = 2
    · rw [if_pos t2]
      simp only [cons, app, WOp.binB, List.length_cons, List.length_append, List.length_nil, be2_length, be4_length, be8_length, pad16_len, e0]
      omega
    rw [if_neg t2]
    by_cases t3 : T % 256 = 3
    · rw [if_pos t3]
      simp only [cons, app, WOp.binB, List.length_cons, List.length_append, List.length_nil, be2_length, be4_length, be8_length, pad16_len, e0]
      omega
    rw [if_neg t3]
    by_cases t4 : T % 256 = 4
    · rw [if_pos t4]
      simp only [cons, app, WOp.binB, List.length_cons, List.length_append, List.length_nil, be2_length, be4_length, be8_length, pad16_len, e0]
      omega
    rw [if_neg t4]
    by_cases t6 : T % 256 = 6
    · rw [if_pos t6]
      simp only [cons, app, WOp.binB, List.length_cons, List.length_append, List.length_nil, be2_length, be4_length, be8_length, pad16_len, e0]
      omega
    rw [if_neg t6]
    by_cases t8 : T % 256 = 8
    · rw [if_pos t8]
      simp only [cons, app, WOp.binB, List.length_cons, List.length_append, List.length_nil, be2_length, be4_length, be8_length, pad16_len, e0]
      omega
    rw [if_neg t8]
    by_cases t10 : T % 256 = 10
    · rw [if_pos t10]
      simp only [cons, app, WOp.binB, List.length_cons, List.length_append, List.length_nil, be2_length, be4_length, be8_length, pad16_len, e0]
      omega
    rw [if_neg t10]
    by_cases t11 : T % 256 = 11
    · rw [if_pos t11]
      simp only [cons, app, WOp.binB, List.length_cons, List.length_append, List.length_nil, be2_length, be4_length, be8_length, pad16_len, e0]
      simp [strOf]
      omega
    rw [if_neg t11]
    by_cases t16 : T % 256 = 16
    · rw [if_pos t16]
      simp only [cons, app, WOp.binB, List.length_cons, List.length_append, List.length_nil, be2_length, be4_length, be8_length, pad16_len, e0]
      omega
    rw [if_neg t16]
    by_cases t12 : T % 256 = 12
    · rw [if_pos t12]
      simp only [cons, app, WOp.binB, List.length_cons, List.length_append, List.length_nil, be2_length, be4_length, be8_length, pad16_len, e0]
      have := hf ids
      omega
    rw [if_neg t12]
    by_cases t13 : T % 256 = 13
    · rw [if_pos t13]
      simp only [cons, app, WOp.binB, List.length_cons, List.length_append, List.length_nil, be2_length, be4_length, be8_length, pad16_len, e0]
      have := ha (L.length / 2 * 2)
      omega
    rw [if_neg t13]
    by_cases t14 : T % 256 = 14
    · rw [if_pos t14]
      simp only [cons, app, WOp.binB, List.length_cons, List.length_append, List.length_nil, be2_length, be4_length, be8_length, pad16_len, e0]
      have := ha L.length
      omega
    rw [if_neg t14]
    by_cases t15 : T % 256 = 15
    · rw [if_pos t15]
      simp only [cons, app, WOp.binB, List.length_cons, List.length_append, List.length_nil, be2_length, be4_length, be8_length, pad16_len, e0]
      have := ha L.length
      omega
    rw [if_neg t15]
    rw [e0]
    exact Nat.zero_le _
theorem bytesB_le (strict : Bool) (x : VT) : (x.bytesB strict).length ≤ 20 * x.weight := bytesB_le_sized strict _ x (Nat.le_refl _)

theorem L_weigh_sized : ∀ (m : Nat) (x : VT), SizeOf.sizeOf x ≤ m → ∀ (w : World) (v : Value) (n : Nat), n ≤ 65544 → ValR w x v →
    Calls Tryz.prog 44 #[v, .int .i64 n] w (fun e w' => ∃ r : Nat, e = .returned (.int .i64 r) ∧ r ≤ 196619 ∧ (r ≤ 65536 → r = n + x.weight ∧ x.small) ∧ Fr noF noF w w') := by
  intro m
  induction m with
  | zero =>
    intro x hx
    obtain ⟨T, N, Sb, K, E, ids, L⟩ := x
    simp at hx
  | succ m ih =>
    intro x hx w v n hn hV
    obtain ⟨T, N, Sb, K, E, ids, L⟩ := x
    obtain ⟨vS, vI, vL, us, rfl, h1, h2, ⟨la, lc, rfl, hlc, hlm, hcell⟩, hE⟩ := hV.inv
    obtain ⟨sa, sn, sc, rfl, hsn⟩ := h1.len
    obtain ⟨ia, il, ic, rfl, hil, hic, him⟩ := h2.len
    have hcall : ∀ (k r : Nat) x X, L[k]? = some x → r ≤ 65536 → Fr noF noF w X → Calls Tryz.prog 44 #[.agg (us k), .int .i64 (r + 8)] X (fun e w' => ∃ r' : Nat, e = .returned (.int .i64 r') ∧ r' ≤ 196619 ∧ (r' ≤ 65536 → r' = r + 8 + x.weight ∧ x.small) ∧ Fr noF noF X w') := fun k r x X hk hr hf => by
      have hlt := List.sizeOf_lt_of_mem (List.mem_of_getElem? hk)
      exact ih x (by simp at hx; omega) X _ (r + 8) (by omega) ((hE k x hk).keep hf)
    have hel : ∀ k, k < L.length → ∃ g o x sa sn sc ia' il' ic' la' ll' lc', la = some ⟨g, o, none⟩ ∧ L[k]? = some x ∧ us k = valA x.T x.N (.slice sa sn sc) x.K x.E (.slice ia' il' ic') (.slice la' ll' lc') ∧
        ∀ X, Fr noF noF w X → ∀ i u, (us k)[i]? = some u → X.cell? ⟨g, o + k * 7 + i, none⟩ = some u := fun k hk => by
      obtain ⟨g, o, rfl, hcc⟩ := hcell (by omega)
      have hx : L[k]? = some L[k] := List.getElem?_eq_getElem (by omega)
      obtain ⟨sa, sn, sc, ia', il', ic', la', ll', lc', he⟩ := (hE k _ hx).sl
      injection he with he
      exact ⟨g, o, _, sa, sn, sc, ia', il', ic', la', ll', lc', rfl, hx, he, fun X hX i u hu => hX.cell (hcc k hk i u hu) fun x => x⟩
    have c0 := cell_at (alloc_new w (.cells (valA T N (.slice sa sn sc) K E (.slice ia il ic) (.slice la L.length lc)) 46 (0, 0)))
    have hsml : ∀ r k : Nat, r ≤ 65536 → r = n + 1 + Sb.length + ids.length + weightL (L.take k) → ¬ k < L.length → (∀ j x, j < k → L[j]? = some x → x.small) → r = n + (VT.mk T N Sb K E ids L).weight ∧ (VT.mk T N Sb K E ids L).small := fun r k hr he hk hj => by
      have ht : L.take k = L := List.take_of_length_le (by omega)
      rw [ht] at he
      have := weightL_len L
      refine ⟨by rw [VT.weight]; omega, .mk (by omega) (by omega) (by omega) fun j x hx => hj j x ?_ hx⟩
      have := (List.getElem?_eq_some_iff.1 hx).1
      omega
    obtain ⟨m0, hmd⟩ : ∃ m0, m0 = n + (1 + min sn 65537 + min il 65537) := ⟨_, rfl⟩
    have hmn : (n : Int) + (1 + min (sn : Int) 65537 + min (il : Int) 65537) = (m0 : Int) := by
      omega
    have hm0 : m0 ≤ 196619 ∧ (m0 ≤ 65536 → m0 = n + 1 + Sb.length + ids.length + weightL (L.take 0)) := by
      have : weightL (L.take 0) = 0 := by simp [weightL]
      omega
    clear hmd
    have hfr0 : Fr noF noF w (w.alloc (.cells (valA T N (.slice sa sn sc) K E (.slice ia il ic) (.slice la L.length lc)) 46 (0, 0))) := (Fr.refl noF w).alloc _
    have hb0 := alloc_new w (.cells (valA T N (.slice sa sn sc) K E (.slice ia il ic) (.slice la L.length lc)) 46 (0, 0))
    have hlm2 : (L.length : Int) ≤ 9223372036854775807 := by unfold maxLen at hlm; omega
    have hn0 : (n : Int) ≤ 65544 := by omega
    have HC := Lib.hid hcall
    have HEL := Lib.hid hel
    have HS := Lib.hid hsml
    have HMN := Lib.hid hmn
    have H0 := Lib.hid (And.intro hm0 (And.intro hfr0 hb0))
    clear hcall hel hsml hmn hm0 hfr0 hb0 hx hE hcell h1 h2 hsn hil hic him hV ih hn hlc hlm
    go_enter Tryz.func44, Tryz.ntmps44
    go_wp2_with fail
    rw [HMN.out]
    go_loopw [1, 5] (fun nn i wr => ∃ (k r : Nat), i = .int .i64 k ∧ nn = .int .i64 r ∧ k ≤ L.length ∧ r ≤ 196619 ∧ (r ≤ 65536 → r = n + 1 + Sb.length + ids.length + weightL (L.take k) ∧ ∀ j x, j < k → L[j]? = some x → x.small) ∧ Fr noF noF w wr ∧ wr.heap[w.heap.size]? = some (.cells (valA T N (.slice sa sn sc) K E (.slice ia il ic) (.slice la L.length lc)) 46 (0, 0))) (fun _ i _ => L.length - (intOf i).toNat)
    case atStart => exact ⟨0, _, rfl, rfl, by omega, H0.out.1.1, fun h => ⟨H0.out.1.2 h, fun j x hj => absurd hj (by omega)⟩, H0.out.2.1, H0.out.2.2⟩
    case round =>
      obtain ⟨k, r, rfl, rfl, hk, hr, hrw, hf, hb⟩ := hrel
      clear c0 H0 HMN
      have c6 : wr.cell? ⟨w.heap.size, 6, none⟩ = some (.slice la L.length lc) := by rw [cell_at hb]; rfl
      have hk0 : (0 : Int) ≤ (k : Int) := by omega
      have hr0 : (r : Int) ≤ 196619 := by omega
      have hr00 : (0 : Int) ≤ (r : Int) := by omega
      by_cases hlt : k < L.length ∧ r ≤ 65536
      · obtain ⟨hlt, hrl⟩ := hlt
        obtain ⟨g, o, x, ta, tn, tc, ja, jl, jc, ma, ml, mc, rfl, hx, hus, hcc⟩ := HEL.out k hlt
        have hcall := HC.out k r x wr hx hrl hf
        rw [hus] at hcc hcall
        have d0 : wr.cell? ⟨g, o + k * 7, none⟩ = some (.int .i64 x.T) := hcc wr hf 0 _ rfl
        have d1 : wr.cell? ⟨g, o + k * 7 + 1, none⟩ = some (.int .i64 x.N) := hcc wr hf 1 _ rfl
        have d2 : wr.cell? ⟨g, o + k * 7 + 2, none⟩ = some (.slice ta tn tc) := hcc wr hf 2 _ rfl
        have d3 : wr.cell? ⟨g, o + k * 7 + 3, none⟩ = some (.int .i64 x.K) := hcc wr hf 3 _ rfl
        have d4 : wr.cell? ⟨g, o + k * 7 + 4, none⟩ = some (.int .i64 x.E) := hcc wr hf 4 _ rfl
        have d5 : wr.cell? ⟨g, o + k * 7 + 5, none⟩ = some (.slice ja jl jc) := hcc wr hf 5 _ rfl
        have d6 : wr.cell? ⟨g, o + k * 7 + 6, none⟩ = some (.slice ma ml mc) := hcc wr hf 6 _ rfl
        have hrr := hrw hrl
        have hcall2 := hcall.mono (R' := fun e Y => ∃ r' : Nat, e = .returned (.int .i64 r') ∧ (r' ≤ 196619 ∧ (r' ≤ 65536 → r' = n + 1 + Sb.length + ids.length + weightL (L.take (k + 1)) ∧ ∀ j x, j < k + 1 → L[j]? = some x → x.small) ∧ Fr noF noF w Y ∧ Y.heap[w.heap.size]? = some (.cells (valA T N (.slice sa sn sc) K E (.slice ia il ic) (.slice (some ⟨g, o, none⟩) L.length lc)) 46 (0, 0)))) (by
          rintro e Y ⟨r', rfl, q1, q2, q3⟩
          refine ⟨r', rfl, q1, fun h => ?_, hf.trans q3, q3.block hb fun x => x⟩
          have ht := weightL_take hx
          refine ⟨by have := (q2 h).1; omega, fun j y hj hy => ?_⟩
          rcases Nat.lt_or_ge j k with h' | h'
          · exact hrr.2 j y h' hy
          · obtain rfl : j = k := by omega
            rw [hx] at hy
            injection hy with hy
            exact hy ▸ (q2 h).2)
        have hk1 : (k : Int) < (L.length : Int) := by omega
        have hr1 : (r : Int) ≤ 65536 := by omega
        have HCA := Lib.hid hcall2
        clear hcall hcall2 hcc hus hx hf hb hrr hrw
        go_wp2_with fail
        (with_reducible refine HCA.out.mono ?_)
        rintro e Y ⟨r', rfl, hY⟩
        have HY := Lib.hid hY
        clear hY d0 d1 d2 d3 d4 d5 d6 c6
        go_wp2_with fail
        go_roundw
        case rel => exact ⟨k + 1, r', by go_num, rfl, by omega, HY.out⟩
        case measure => simp [intOf]; omega
      · have hend : r ≤ 65536 → r = n + (VT.mk T N Sb K E ids L).weight ∧ (VT.mk T N Sb K E ids L).small := fun h => HS.out r k h (hrw h).1 (by omega) (hrw h).2
        have HD := Lib.hid (And.intro hr (And.intro hend hf))
        clear hend hrw hf hb
        rcases (show ((k : Int) < (L.length : Int) ∧ ¬ (r : Int) ≤ 65536) ∨ ¬ (k : Int) < (L.length : Int) by omega) with ⟨h3, h2⟩ | h3
        all_goals
          clear hlt
          go_wp2
          go_ret
          exact ⟨r, rfl, HD.out⟩
theorem L_weigh (x : VT) (w : World) (v : Value) (n : Nat) (hn : n ≤ 65544) (h : ValR w x v) :
    Calls Tryz.prog 44 #[v, .int .i64 n] w (fun e w' => ∃ r : Nat, e = .returned (.int .i64 r) ∧ r ≤ 196619 ∧ (r ≤ 65536 → r = n + x.weight ∧ x.small) ∧ Fr noF noF w w') := L_weigh_sized _ x (Nat.le_refl _) w v n hn h
end Go.Proofs.YtdifknecndlklaaGreatDoor
