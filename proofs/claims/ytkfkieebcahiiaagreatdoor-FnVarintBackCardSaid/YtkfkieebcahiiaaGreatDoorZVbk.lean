/- laws.FnVarintBack: the plain law and the walk. -/
import Derived.Test.YtkfkieebcahiiaaGreatDoorZUnv
import Derived.Test.YtkfkieebcahiiaaGreatDoorZJn
set_option linter.all false
namespace Go.Proofs.YtkfkieebcahiiaaGreatDoor
open Go Go.RowKit
set_option maxHeartbeats 4000000
set_option maxRecDepth 100000
set_option linter.all false

/-- What stands at a place of a varint. -/
theorem vint_at (N : Nat) : ∀ (k : Nat) (u : UInt8), (vint N)[k]? = some u → u.toNat = (if N / 128 ^ k < 128 then N / 128 ^ k else N / 128 ^ k % 128 + 128) ∧ (k + 1 < (vint N).length ↔ 128 ≤ N / 128 ^ k) ∧ (0 < k → 0 < N / 128 ^ k) := by
  induction N using Nat.strongRecOn with
  | _ N ih =>
    intro k u hu
    rcases Nat.lt_or_ge N 128 with h | h
    · rw [vint_small h] at hu ⊢
      match k, hu with
      | 0, hu =>
        simp only [List.getElem?_cons_zero, Option.some.injEq] at hu
        have := u8_nat N (by omega)
        subst hu
        simp only [Nat.pow_zero, Nat.div_one, List.length_singleton]
        refine ⟨?_, by omega, by omega⟩
        rw [if_pos h]
        omega
    · rw [vint_big (by omega)] at hu ⊢
      match k, hu with
      | 0, hu =>
        simp only [List.getElem?_cons_zero, Option.some.injEq] at hu
        have := u8_nat (N % 128 + 128) (by omega)
        subst hu
        have hl : 0 < (vint (N / 128)).length := by
          rcases Nat.lt_or_ge (N / 128) 128 with h1 | h1
          · rw [vint_small h1]; simp
          · rw [vint_big (by omega)]; simp
        simp only [Nat.pow_zero, Nat.div_one, List.length_cons]
        refine ⟨?_, by omega, by omega⟩
        rw [if_neg (by omega)]
        omega
      | k + 1, hu =>
        have hu : (vint (N / 128))[k]? = some u := by simpa using hu
        obtain ⟨h1, h2, h3⟩ := ih (N / 128) (by omega) k u hu
        have e : N / 128 ^ (k + 1) = N / 128 / 128 ^ k := by rw [Nat.pow_succ', Nat.div_div_eq_div_mul]
        rw [e, List.length_cons]
        refine ⟨h1, by omega, fun _ => ?_⟩
        match k with
        | 0 => simp; omega
        | k + 1 => exact h3 (by omega)
theorem mod_next (N k : Nat) : N % 128 ^ (k + 1) = N / 128 ^ k % 128 * 128 ^ k + N % 128 ^ k := by
  rw [Nat.pow_succ, Nat.mod_mul, Nat.mul_comm, Nat.add_comm]
theorem vint_all (N : Nat) : N % 128 ^ (vint N).length = N := by
  have hp := vint_pos N
  obtain ⟨j, hj⟩ : ∃ j, (vint N).length = j + 1 := ⟨(vint N).length - 1, by omega⟩
  obtain ⟨u, hu⟩ : ∃ u, (vint N)[j]? = some u := ⟨_, List.getElem?_eq_getElem (by omega)⟩
  obtain ⟨_, h2, _⟩ := vint_at N j u hu
  rw [hj]
  apply Nat.mod_eq_of_lt
  have h3 : N / 128 ^ j < 128 := by
    rcases Nat.lt_or_ge (N / 128 ^ j) 128 with h | h
    · exact h
    · have := h2.2 h; omega
  have h4 := (Nat.div_lt_iff_lt_mul (Nat.pow_pos (by decide))).1 h3
  rw [Nat.pow_succ, Nat.mul_comm]
  exact h4
theorem or_above_u (res m s : Nat) (hr : res < 2 ^ s) (hs : s ≤ 63) (hb : m * 2 ^ s + res < 18446744073709551616) : bits .or .u64 (res : Int) ((m * 2 ^ s : Nat) : Int) = ((m * 2 ^ s + res : Nat) : Int) := by
  show IntKind.u64.wrap ((BitVec.ofInt 64 (res : Int) ||| BitVec.ofInt 64 ((m * 2 ^ s : Nat) : Int)).toNat : Int) = _
  have e1 : (BitVec.ofInt 64 (res : Int)).toNat = res := by rw [BitVec.toNat_ofInt]; omega
  have e2 : (BitVec.ofInt 64 ((m * 2 ^ s : Nat) : Int)).toNat = m * 2 ^ s := by rw [BitVec.toNat_ofInt]; omega
  rw [BitVec.toNat_or, e1, e2, Nat.or_comm, ← Nat.shiftLeft_eq, ← Nat.shiftLeft_add_eq_or_of_lt hr, Nat.shiftLeft_eq, IntKind.wrap_u64]
  omega

theorem vint_byte {N k rk r1 d : Nat} {u : UInt8} (hu : (vint N)[k]? = some u) (hN : N < 18446744073709551616) (hk : k ≤ 9) (hrk : rk = N % 128 ^ k) (hr1 : r1 = N % 128 ^ (k + 1)) (hd : d = u.toNat % 128) :
    bits .or .u64 (rk : Int) (IntKind.u64.wrap ((d : Int) * 2 ^ (7 * k))) = (r1 : Int) := by
  obtain ⟨p1, -, -⟩ := vint_at N k u hu
  have hdd : d = N / 128 ^ k % 128 := by rw [hd, p1]; split <;> omega
  have hm := mod_next N k
  rw [← hrk, ← hr1, ← hdd] at hm
  have hle : r1 ≤ N := by rw [hr1]; exact Nat.mod_le _ _
  have h1 : rk < 2 ^ (7 * k) := by rw [← pow128, hrk]; exact Nat.mod_lt _ (Nat.pow_pos (by decide))
  rw [pow128] at hm
  have h2 := or_above_u rk d (7 * k) h1 (by omega) (by omega)
  rw [hm, ← h2]
  congr 1
  rw [IntKind.wrap_u64]
  have e : ((d : Int) * 2 ^ (7 * k)) = ((d * 2 ^ (7 * k) : Nat) : Int) := by push_cast; rfl
  rw [e]
  omega
theorem vint_last {N k : Nat} {u : UInt8} {B : List UInt8} (hu : (vint N)[k]? = some u) (hB : B = vint N) : ((128 : Int) ≤ (u.toNat : Int) ∧ (k : Int) < (B.length : Int) - 1) ∨ (¬ (128 : Int) ≤ (u.toNat : Int) ∧ ¬ (k : Int) < (B.length : Int) - 1) := by
  obtain ⟨p1, p2, -⟩ := vint_at N k u hu
  rw [← hB] at p2
  rcases Nat.lt_or_ge (N / 128 ^ k) 128 with h | h
  · rw [if_pos h] at p1
    exact Or.inr ⟨by omega, by omega⟩
  · rw [if_neg (by omega)] at p1
    have := p2.2 h
    exact Or.inl ⟨by omega, by omega⟩

theorem vint_end {N M : Nat} {u : UInt8} {B : List UInt8} (hu : (vint N)[M]? = some u) (hB : B = vint N) (hM : B.length = M + 1) : 0 < M → u.toNat ≠ 0 := fun hz => by
  obtain ⟨p1, p2, p3⟩ := vint_at N M u hu
  rw [← hB] at p2
  have h := p3 hz
  rw [p1]
  split <;> omega

/-- What the number's bytes are, where they lie. -/
abbrev VbB (B : List UInt8) (a : Addr) (c : Nat) (X : World) : Prop := B.length ≤ c ∧ c ≤ maxLen ∧ ∀ j u, B[j]? = some u → X.cell? (a.add j) = some (.int .u8 u.toNat)
theorem vb_cells {B : List UInt8} (a : Addr) (c : Nat) (X1 X : World) (k : Nat) (h : VbB B a c X1) (hX : Fr noF noF X1 X) : ∀ j u, (B.take k)[j]? = some u → X.cell? (a.add j) = some (.int .u8 u.toNat) := fun j u hj => by
  rw [List.getElem?_take] at hj
  split at hj
  · exact hX.cell (h.2.2 j u hj) fun x => x
  · cases hj
theorem vb_join {B tail : List UInt8} {ta : Option Addr} {tn tc : Nat} {w : World} (hb : B.length ≤ 10) (htn : tail.length = tn) (ht : Rd w (.slice ta tn tc) tail) (K : Nat) (hK : B.length = K) (a : Addr) (c : Nat) (X1 X : World) (g : Nat) (h : VbB B a c X1) (h1 : Fr noF noF w X1) (hX : Fr noF noF X1 X)
    (hg : X.heap[g]? = some (.cells #[.slice (some a) K c, .slice ta tn tc] 24 (0, 0))) (htl : tn ≤ 65536) :
    Calls Tryz.prog 32 #[.slice (some ⟨g, 0, none⟩) 2 2] X (fun e w' => ∃ a n c, e = .returned (.slice a n c) ∧ Rd w' (.slice a n c) (B ++ tail) ∧ Fr noF noF X1 w') := by
  subst hK
  refine (joined2 B tail (by omega) (by omega) hg (Or.inr ⟨a, _, c, rfl, rfl, h.1, h.2.1, fun j u hj => hX.cell (h.2.2 j u hj) fun x => x⟩) (ht.keep (h1.trans hX) fun _ _ x => x)).mono ?_
  rintro e w' ⟨a, n, c, he, hr, hf⟩
  exact ⟨a, n, c, he, hr, hX.trans hf⟩
theorem vb_read (long : Bool) (W : Int) {B tail : List UInt8} {N tn : Nat} (hW : (if long then wrap64 (N : Nat) else wrap32 (wrap64 (N : Nat))) = W) (hB : B = vint N) (hNl : N < 18446744073709551616) (hb : B.length ≤ 10) (htn : tail.length = tn) (htl : tn ≤ 65536) (X : World) (v : Value) (hv : Rd X v (B ++ tail)) :
    Calls Tryz.prog 40 #[v, .bool long] X (fun e w' => e = .returned (.tuple #[.int .i64 W, .int .i64 0, .int .i64 tn]) ∧ Fr noF noF X w') := by
  have hll : (B ++ tail).length ≤ LIM := by rw [List.length_append]; unfold LIM; omega
  have hr : -9223372036854775808 ≤ wrap64 (N : Nat) ∧ wrap64 (N : Nat) < 9223372036854775808 := by unfold wrap64; omega
  have := I_Unvarint long v (B ++ tail) tail (wrap64 (N : Nat)) 0 .nilIface X hv hll hr (fun p m b w2 hc hF => (C_readVarint64 p m b _ _ CSt.new true N hNl tail w2 (hB ▸ hc)).mono fun _ _ h => h.ur) (fun X _ => kind_nil X)
  rw [htn, hW] at this
  exact this
theorem vb_cut (long : Bool) {B : List UInt8} {N : Nat} {w : World} {a0 a1 : Addr} (hE : Ends w a0 a1) (hB : B = vint N) (hb : B.length ≤ 10) (a : Addr) (c : Nat) (X1 : World) (h : VbB B a c X1) (X : World) (k : Nat) (hk : k < B.length) (h1 : Fr noF noF w X1) (hX : Fr noF noF X1 X) :
    Calls Tryz.prog 40 #[.slice (some a) k k, .bool long] X (fun e w' => ∃ x, e = .returned (.tuple #[.int .i64 x, .int .i64 1, .int .i64 0]) ∧ Fr noF noF X w') := by
  have hlt : (B.take k).length = k := by rw [List.length_take]; omega
  have hv : Rd X (.slice (some a) k k) (B.take k) := Or.inr ⟨a, k, k, rfl, hlt, Nat.le_refl _, by have := h.1; have := h.2.1; omega, vb_cells a c X1 X k h hX⟩
  have hhi : ∀ u ∈ B.take k, 128 ≤ u.toNat := fun u hu => by
    obtain ⟨j, hj⟩ := List.getElem?_of_mem hu
    rw [List.getElem?_take] at hj
    split at hj
    · rcases vint_last (k := j) (u := u) (B := B) (by rw [← hB]; exact hj) hB with ⟨q, _⟩ | ⟨_, q⟩ <;> omega
    · cases hj
  have hEX := (hE.keep (h1.trans hX))
  refine (I_Unvarint long _ (B.take k) [] 0 1 (eofV a0) X hv (by rw [hlt]; unfold LIM; omega) (by omega) (fun p m b w2 hc hF => ?_) (fun Y hY => kind_eof Y a0 a1 (hEX.keep hY))).mono fun e w' ⟨he, hf⟩ => ⟨_, he, hf⟩
  exact (C_readVarint64_eof p m b _ _ CSt.new true (B.take k) (by omega) hhi a0 w2 hc (hEX.keep hF).eof fun hx => (hF.foot _ (World.block_lt_of_cell? X _ hEX.eof) hx).elim).mono fun _ _ h => h.ur

theorem L_Vbk_false (n : Int) (tv : Value) (tail : List UInt8) (w : World) (hn : -9223372036854775808 ≤ n ∧ n ≤ 9223372036854775807) (ht : Rd w tv tail) (a0 a1 : Addr) (hE : Ends w a0 a1) :
    Calls Tryz.prog 10 #[.int .i64 n, .bool false, tv] w fun e w' => e = .returned (.bool true) ∧ Fr noF noF w w' := by
  obtain ⟨long, hlong⟩ : ∃ b, b = false := ⟨_, rfl⟩
  obtain ⟨N, hN⟩ : ∃ N : Nat, N = (if long then (n % 18446744073709551616).toNat else (n % 4294967296).toNat) := ⟨_, rfl⟩
  have hNl : N < 18446744073709551616 := by rw [hN]; split <;> omega
  have hlen := vint_length N 10 (by omega) (by decide)
  have hpos := vint_pos N
  obtain ⟨B, hB⟩ : ∃ B, B = vint N := ⟨_, rfl⟩
  have hvar : ∀ X, Calls Tryz.prog 39 #[.int .i64 n, .bool long] X (fun e w' => ∃ a c, e = .returned (.slice (some a) B.length c) ∧ B.length ≤ c ∧ c ≤ maxLen ∧ (∀ j u, B[j]? = some u → w'.cell? (a.add j) = some (.int .u8 u.toNat)) ∧ Fr noF noF X w') := fun X => (I_Varint n long X).mono fun e w' ⟨v, he, hr, _, hf⟩ => by
    rw [← hN, ← hB] at hr
    rcases hr with ⟨_, h0⟩ | ⟨a, k, c, rfl, hl, hc, hm, hcell⟩
    · rw [h0] at hB; rw [← hB] at hpos; simp at hpos
    · exact ⟨a, c, by rw [he, hl], by omega, hm, hcell, hf⟩
  obtain ⟨ta, tn, tc, rfl, htn⟩ := ht.len
  have hbl10 : B.length ≤ 10 := by rw [hB]; omega
  have HJ0 := Lib.hid (vb_join hbl10 htn ht)
  have HU0 := Lib.hid (fun W hW X (v : Value) (htl : tn ≤ 65536) hv => vb_read false W hW hB hNl hbl10 htn htl X v hv)
  have HUE := Lib.hid (vb_cut false hE hB hbl10)
  have HV := Lib.hid hvar
  have HK := Lib.hid L_known
  have htn0 : (0 : Int) ≤ (tn : Int) := by omega
  have hbits : long = false → n % 4294967296 = (N : Int) := fun h => by subst h; rw [hN]; simp; omega
  have hbits1 : long = true → IntKind.u64.wrap n = (N : Int) := fun h => by subst h; rw [hN, IntKind.wrap_u64]; simp; omega
  have HN := Lib.hid (And.intro hN hB)
  have hbl : (B.length : Int) ≤ 10 := by rw [hB]; omega
  have hbp : (1 : Int) ≤ (B.length : Int) := by rw [hB]; omega
  clear hN hB hvar hlen hpos htn ht hE hbl10
  subst hlong
  · have hbt := hbits rfl
    clear hbits hbits1
    go_enter Tryz.func10, Tryz.ntmps10
    rcases Decidable.em ((tn : Int) > 2147483647) with k0 | k0
    · go_wp2
      go_ret
      exact ⟨rfl, Fr.refl _ _⟩
    rcases Decidable.em ((tn : Int) > 65536) with k1 | k1
    · go_wp2_with fail
      (with_reducible refine (HK.out _).mono ?_)
      rintro e Z ⟨rfl, hz⟩
      have HX := Lib.hid hz
      clear hz
      go_wp2
      go_ret
      exact ⟨rfl, HX.out⟩
    have htl : tn ≤ 65536 := by omega
    have HJ := Lib.hid (fun K hK a c X1 X g h h1 hX hg => HJ0.out K hK a c X1 X g h h1 hX hg htl)
    have hW : wrap64 (wrap32 n) = wrap32 (wrap64 (N : Nat)) := by have := HN.out.1; unfold wrap64 wrap32; simp at this; omega
    obtain ⟨W, hWd⟩ : ∃ W, W = wrap32 (wrap64 (N : Nat)) := ⟨_, rfl⟩
    have hWW : (if false then wrap64 (N : Nat) else wrap32 (wrap64 (N : Nat))) = W := (if_neg (show ¬ (false = true) by decide)).trans hWd.symm
    have HU := Lib.hid (fun X v (hX : Fr noF noF w X) hv => HU0.out W hWW X v htl hv)
    rw [← hWd] at hW
    clear hWd HJ0 HU0 htl hWW
    skip
    go_wp2_with fail
    (with_reducible refine (HV.out _).mono ?_)
    rintro e X1 ⟨a, c, rfl, hc, hm, hcell, hf1⟩
    have HC := Lib.hid (And.intro hc (And.intro hm hcell))
    have HX1 := Lib.hid hf1
    clear hc hm hcell hf1
    go_wp2_with fail
    go_loopw [10, 11] (fun sm i wr => ∃ k : Nat, i = .int .i64 k ∧ k ≤ B.length ∧ sm = .int .u64 (N % 128 ^ k : Nat) ∧ X1 = wr) (fun _ i _ => B.length - (intOf i).toNat)
    case atStart => exact ⟨0, rfl, by omega, by simp [Nat.mod_one], by first | rfl | trivial⟩
    case round =>
      obtain ⟨k, rfl, hk, rfl, rfl⟩ := hrel
      have hk0 : (0 : Int) ≤ (k : Int) := by omega
      by_cases hlt : k < B.length
      · obtain ⟨u, hu⟩ : ∃ u, B[k]? = some u := ⟨_, List.getElem?_eq_getElem hlt⟩
        have d0 := HC.out.2.2 k u hu
        have hk1 : (k : Int) < (B.length : Int) := by omega
        have hk10 : (k : Int) ≤ 9 := by omega
        obtain ⟨rk, hrk⟩ : ∃ rk, rk = N % 128 ^ k := ⟨_, rfl⟩
        obtain ⟨r1, hr1⟩ : ∃ r1, r1 = N % 128 ^ (k + 1) := ⟨_, rfl⟩
        obtain ⟨d, hd⟩ : ∃ d, d = u.toNat % 128 := ⟨_, rfl⟩
        have hdl : d < 128 := by omega
        have hb := vint_byte (by rw [← HN.out.2]; exact hu) hNl (by omega) hrk hr1 hd
        have hcs := vint_last (by rw [← HN.out.2]; exact hu) (HN.out.2)
        have h127 := u8_and127 u
        rw [← hd] at h127
        obtain ⟨y, hy⟩ : ∃ y, y = u.toNat := ⟨_, rfl⟩
        rw [← hy] at d0 h127 hcs
        have hwd : IntKind.u64.wrap (d : Int) = (d : Int) := by rw [IntKind.wrap_u64]; omega
        rw [← hrk]
        have HR := Lib.hid hr1
        clear hlt hy hd hrk hu hr1
        rcases hcs with ⟨q1, q2⟩ | ⟨q1, q2⟩
        all_goals
          go_wp2_with fail
          go_roundw
          case rel => exact ⟨k + 1, by go_num, by omega, by rw [HR.out], by first | rfl | trivial⟩
          case measure => simp [intOf]; omega
      · obtain rfl : k = B.length := by omega
        have hall := vint_all N
        rw [← HN.out.2] at hall
        rw [hall]
        have hk1 : ¬ (B.length : Int) < (B.length : Int) := by omega
        obtain ⟨M, hM⟩ : ∃ M, B.length = M + 1 := ⟨B.length - 1, by omega⟩
        obtain ⟨u, hu⟩ : ∃ u, B[M]? = some u := ⟨_, List.getElem?_eq_getElem (by omega)⟩
        have d0 := HC.out.2.2 M u hu
        have hlz := vint_end (by rw [← HN.out.2]; exact hu) HN.out.2 hM
        obtain ⟨y, hy⟩ : ∃ y, y = u.toNat := ⟨_, rfl⟩
        rw [← hy] at d0 hlz
        have HH := Lib.hid (And.intro hM HN.out)
        rw [hM] at hk1 hbl ⊢
        have hM9 : (M : Int) ≤ 9 := by omega
        have hM0 : (0 : Int) ≤ (M : Int) := by omega
        clear hu hy hall hk hk0 hbp
        rcases Nat.eq_zero_or_pos M with hz | hz
        · subst hz
          go_wp2_with fail
          as_aux_lemma =>
            (with_reducible refine (HJ.out 1 HH.out.1 a c X1 _ _ (HC.out) HX1.out ((Fr.refl noF X1).alloc _) (alloc_new X1 _)).mono ?_)
            rintro e X2 ⟨ja, jn, jc, rfl, hjr, hx2⟩
            have HJR := Lib.hid hjr
            have hx2' : Fr noF noF X1 X2 := hx2
            clear hjr hx2
            go_wp2_with fail
            (with_reducible refine (HU.out X2 _ (HX1.out.trans hx2') HJR.out).mono ?_)
            rintro e X3 ⟨rfl, hx3⟩
            have HX3 := Lib.hid (hx2'.trans hx3)
            clear hx2' hx3
            go_wp2_with fail
            go_loopw [15] (fun i wr => ∃ k : Nat, i = .int .i64 k ∧ k ≤ 1 ∧ Fr noF noF X1 wr) (fun i _ => 1 - (intOf i).toNat)
            case atStart => exact ⟨0, rfl, by omega, HX3.out⟩
            case round =>
              obtain ⟨k, rfl, hk, hf⟩ := hrel
              have hk0 : (0 : Int) ≤ (k : Int) := by omega
              by_cases hlt : k < 1
              · have hk1 : (k : Int) < 1 := by omega
                have hkc : (k : Int) ≤ (c : Int) := by have := HC.out.1; have := HH.out.1; omega
                have HUK := Lib.hid (HUE.out a c X1 HC.out wr k (by have := HH.out.1; omega) HX1.out hf)
                go_wp2_with fail
                (with_reducible refine HUK.out.mono ?_)
                rintro e X5 ⟨x, rfl, hx5⟩
                have HX5 := Lib.hid (hf.trans hx5)
                clear hx5 hf
                go_wp2_with fail
                go_roundw
                case rel => exact ⟨k + 1, by go_num, by omega, HX5.out⟩
                case measure => simp [intOf]; omega
              · have hk1 : ¬ (k : Int) < 1 := by omega
                have hf0 := HX1.out.trans hf
                clear hf
                go_wp2_with fail
                (with_reducible refine (HK.out _).mono ?_)
                rintro e Z ⟨rfl, hz⟩
                have HX := Lib.hid (hf0.trans hz)
                clear hz hf0
                go_wp2
                go_ret
                exact ⟨rfl, HX.out⟩
        · have hy0 : ((y : Int) == 0) = false := by have := hlz hz; simp; omega
          have hMp : (M : Int) > 0 := by omega
          clear hlz hz
          go_wp2_with fail
          as_aux_lemma =>
            (with_reducible refine (HJ.out (M + 1) HH.out.1 a c X1 _ _ (HC.out) HX1.out ((Fr.refl noF X1).alloc _) (alloc_new X1 _)).mono ?_)
            rintro e X2 ⟨ja, jn, jc, rfl, hjr, hx2⟩
            have HJR := Lib.hid hjr
            have hx2' : Fr noF noF X1 X2 := hx2
            clear hjr hx2
            go_wp2_with fail
            (with_reducible refine (HU.out X2 _ (HX1.out.trans hx2') HJR.out).mono ?_)
            rintro e X3 ⟨rfl, hx3⟩
            have HX3 := Lib.hid (hx2'.trans hx3)
            clear hx2' hx3
            go_wp2_with fail
            go_loopw [15] (fun i wr => ∃ k : Nat, i = .int .i64 k ∧ k ≤ (M + 1) ∧ Fr noF noF X1 wr) (fun i _ => (M + 1) - (intOf i).toNat)
            case atStart => exact ⟨0, rfl, by omega, HX3.out⟩
            case round =>
              obtain ⟨k, rfl, hk, hf⟩ := hrel
              have hk0 : (0 : Int) ≤ (k : Int) := by omega
              by_cases hlt : k < (M + 1)
              · have hk1 : (k : Int) < (M : Int) + 1 := by omega
                have hkc : (k : Int) ≤ (c : Int) := by have := HC.out.1; have := HH.out.1; omega
                have HUK := Lib.hid (HUE.out a c X1 HC.out wr k (by have := HH.out.1; omega) HX1.out hf)
                go_wp2_with fail
                (with_reducible refine HUK.out.mono ?_)
                rintro e X5 ⟨x, rfl, hx5⟩
                have HX5 := Lib.hid (hf.trans hx5)
                clear hx5 hf
                go_wp2_with fail
                go_roundw
                case rel => exact ⟨k + 1, by go_num, by omega, HX5.out⟩
                case measure => simp [intOf]; omega
              · have hk1 : ¬ (k : Int) < (M : Int) + 1 := by omega
                have hf0 := HX1.out.trans hf
                clear hf
                go_wp2_with fail
                (with_reducible refine (HK.out _).mono ?_)
                rintro e Z ⟨rfl, hz⟩
                have HX := Lib.hid (hf0.trans hz)
                clear hz hf0
                go_wp2
                go_ret
                exact ⟨rfl, HX.out⟩

theorem L_Vbk_true (n : Int) (tv : Value) (tail : List UInt8) (w : World) (hn : -9223372036854775808 ≤ n ∧ n ≤ 9223372036854775807) (ht : Rd w tv tail) (a0 a1 : Addr) (hE : Ends w a0 a1) :
    Calls Tryz.prog 10 #[.int .i64 n, .bool true, tv] w fun e w' => e = .returned (.bool true) ∧ Fr noF noF w w' := by
  obtain ⟨long, hlong⟩ : ∃ b, b = true := ⟨_, rfl⟩
  obtain ⟨N, hN⟩ : ∃ N : Nat, N = (if long then (n % 18446744073709551616).toNat else (n % 4294967296).toNat) := ⟨_, rfl⟩
  have hNl : N < 18446744073709551616 := by rw [hN]; split <;> omega
  have hlen := vint_length N 10 (by omega) (by decide)
  have hpos := vint_pos N
  obtain ⟨B, hB⟩ : ∃ B, B = vint N := ⟨_, rfl⟩
  have hvar : ∀ X, Calls Tryz.prog 39 #[.int .i64 n, .bool long] X (fun e w' => ∃ a c, e = .returned (.slice (some a) B.length c) ∧ B.length ≤ c ∧ c ≤ maxLen ∧ (∀ j u, B[j]? = some u → w'.cell? (a.add j) = some (.int .u8 u.toNat)) ∧ Fr noF noF X w') := fun X => (I_Varint n long X).mono fun e w' ⟨v, he, hr, _, hf⟩ => by
    rw [← hN, ← hB] at hr
    rcases hr with ⟨_, h0⟩ | ⟨a, k, c, rfl, hl, hc, hm, hcell⟩
    · rw [h0] at hB; rw [← hB] at hpos; simp at hpos
    · exact ⟨a, c, by rw [he, hl], by omega, hm, hcell, hf⟩
  obtain ⟨ta, tn, tc, rfl, htn⟩ := ht.len
  have hbl10 : B.length ≤ 10 := by rw [hB]; omega
  have HJ0 := Lib.hid (vb_join hbl10 htn ht)
  have HU0 := Lib.hid (fun W hW X (v : Value) (htl : tn ≤ 65536) hv => vb_read true W hW hB hNl hbl10 htn htl X v hv)
  have HUE := Lib.hid (vb_cut true hE hB hbl10)
  have HV := Lib.hid hvar
  have HK := Lib.hid L_known
  have htn0 : (0 : Int) ≤ (tn : Int) := by omega
  have hbits : long = false → n % 4294967296 = (N : Int) := fun h => by subst h; rw [hN]; simp; omega
  have hbits1 : long = true → IntKind.u64.wrap n = (N : Int) := fun h => by subst h; rw [hN, IntKind.wrap_u64]; simp; omega
  have HN := Lib.hid (And.intro hN hB)
  have hbl : (B.length : Int) ≤ 10 := by rw [hB]; omega
  have hbp : (1 : Int) ≤ (B.length : Int) := by rw [hB]; omega
  clear hN hB hvar hlen hpos htn ht hE hbl10
  subst hlong
  · have hbt := hbits1 rfl
    clear hbits hbits1
    go_enter Tryz.func10, Tryz.ntmps10
    rcases Decidable.em ((tn : Int) > 2147483647) with k0 | k0
    · go_wp2
      go_ret
      exact ⟨rfl, Fr.refl _ _⟩
    rcases Decidable.em ((tn : Int) > 65536) with k1 | k1
    · go_wp2_with fail
      (with_reducible refine (HK.out _).mono ?_)
      rintro e Z ⟨rfl, hz⟩
      have HX := Lib.hid hz
      clear hz
      go_wp2
      go_ret
      exact ⟨rfl, HX.out⟩
    have htl : tn ≤ 65536 := by omega
    have HJ := Lib.hid (fun K hK a c X1 X g h h1 hX hg => HJ0.out K hK a c X1 X g h h1 hX hg htl)
    have hW : n = wrap64 (N : Nat) := by have := HN.out.1; unfold wrap64; simp at this; omega
    obtain ⟨W, hWd⟩ : ∃ W, W = wrap64 (N : Nat) := ⟨_, rfl⟩
    have hWW : (if true then wrap64 (N : Nat) else wrap32 (wrap64 (N : Nat))) = W := (if_pos rfl).trans hWd.symm
    have HU := Lib.hid (fun X v (hX : Fr noF noF w X) hv => HU0.out W hWW X v htl hv)
    rw [← hWd] at hW
    clear hWd HJ0 HU0 htl hWW
    subst hW
    go_wp2_with fail
    (with_reducible refine (HV.out _).mono ?_)
    rintro e X1 ⟨a, c, rfl, hc, hm, hcell, hf1⟩
    have HC := Lib.hid (And.intro hc (And.intro hm hcell))
    have HX1 := Lib.hid hf1
    clear hc hm hcell hf1
    go_wp2_with fail
    go_loopw [10, 11] (fun sm i wr => ∃ k : Nat, i = .int .i64 k ∧ k ≤ B.length ∧ sm = .int .u64 (N % 128 ^ k : Nat) ∧ X1 = wr) (fun _ i _ => B.length - (intOf i).toNat)
    case atStart => exact ⟨0, rfl, by omega, by simp [Nat.mod_one], by first | rfl | trivial⟩
    case round =>
      obtain ⟨k, rfl, hk, rfl, rfl⟩ := hrel
      have hk0 : (0 : Int) ≤ (k : Int) := by omega
      by_cases hlt : k < B.length
      · obtain ⟨u, hu⟩ : ∃ u, B[k]? = some u := ⟨_, List.getElem?_eq_getElem hlt⟩
        have d0 := HC.out.2.2 k u hu
        have hk1 : (k : Int) < (B.length : Int) := by omega
        have hk10 : (k : Int) ≤ 9 := by omega
        obtain ⟨rk, hrk⟩ : ∃ rk, rk = N % 128 ^ k := ⟨_, rfl⟩
        obtain ⟨r1, hr1⟩ : ∃ r1, r1 = N % 128 ^ (k + 1) := ⟨_, rfl⟩
        obtain ⟨d, hd⟩ : ∃ d, d = u.toNat % 128 := ⟨_, rfl⟩
        have hdl : d < 128 := by omega
        have hb := vint_byte (by rw [← HN.out.2]; exact hu) hNl (by omega) hrk hr1 hd
        have hcs := vint_last (by rw [← HN.out.2]; exact hu) (HN.out.2)
        have h127 := u8_and127 u
        rw [← hd] at h127
        obtain ⟨y, hy⟩ : ∃ y, y = u.toNat := ⟨_, rfl⟩
        rw [← hy] at d0 h127 hcs
        have hwd : IntKind.u64.wrap (d : Int) = (d : Int) := by rw [IntKind.wrap_u64]; omega
        rw [← hrk]
        have HR := Lib.hid hr1
        clear hlt hy hd hrk hu hr1
        rcases hcs with ⟨q1, q2⟩ | ⟨q1, q2⟩
        all_goals
          go_wp2_with fail
          go_roundw
          case rel => exact ⟨k + 1, by go_num, by omega, by rw [HR.out], by first | rfl | trivial⟩
          case measure => simp [intOf]; omega
      · obtain rfl : k = B.length := by omega
        have hall := vint_all N
        rw [← HN.out.2] at hall
        rw [hall]
        have hk1 : ¬ (B.length : Int) < (B.length : Int) := by omega
        obtain ⟨M, hM⟩ : ∃ M, B.length = M + 1 := ⟨B.length - 1, by omega⟩
        obtain ⟨u, hu⟩ : ∃ u, B[M]? = some u := ⟨_, List.getElem?_eq_getElem (by omega)⟩
        have d0 := HC.out.2.2 M u hu
        have hlz := vint_end (by rw [← HN.out.2]; exact hu) HN.out.2 hM
        obtain ⟨y, hy⟩ : ∃ y, y = u.toNat := ⟨_, rfl⟩
        rw [← hy] at d0 hlz
        have HH := Lib.hid (And.intro hM HN.out)
        rw [hM] at hk1 hbl ⊢
        have hM9 : (M : Int) ≤ 9 := by omega
        have hM0 : (0 : Int) ≤ (M : Int) := by omega
        clear hu hy hall hk hk0 hbp
        rcases Nat.eq_zero_or_pos M with hz | hz
        · subst hz
          go_wp2_with fail
          as_aux_lemma =>
            (with_reducible refine (HJ.out 1 HH.out.1 a c X1 _ _ (HC.out) HX1.out ((Fr.refl noF X1).alloc _) (alloc_new X1 _)).mono ?_)
            rintro e X2 ⟨ja, jn, jc, rfl, hjr, hx2⟩
            have HJR := Lib.hid hjr
            have hx2' : Fr noF noF X1 X2 := hx2
            clear hjr hx2
            go_wp2_with fail
            (with_reducible refine (HU.out X2 _ (HX1.out.trans hx2') HJR.out).mono ?_)
            rintro e X3 ⟨rfl, hx3⟩
            have HX3 := Lib.hid (hx2'.trans hx3)
            clear hx2' hx3
            go_wp2_with fail
            go_loopw [15] (fun i wr => ∃ k : Nat, i = .int .i64 k ∧ k ≤ 1 ∧ Fr noF noF X1 wr) (fun i _ => 1 - (intOf i).toNat)
            case atStart => exact ⟨0, rfl, by omega, HX3.out⟩
            case round =>
              obtain ⟨k, rfl, hk, hf⟩ := hrel
              have hk0 : (0 : Int) ≤ (k : Int) := by omega
              by_cases hlt : k < 1
              · have hk1 : (k : Int) < 1 := by omega
                have hkc : (k : Int) ≤ (c : Int) := by have := HC.out.1; have := HH.out.1; omega
                have HUK := Lib.hid (HUE.out a c X1 HC.out wr k (by have := HH.out.1; omega) HX1.out hf)
                go_wp2_with fail
                (with_reducible refine HUK.out.mono ?_)
                rintro e X5 ⟨x, rfl, hx5⟩
                have HX5 := Lib.hid (hf.trans hx5)
                clear hx5 hf
                go_wp2_with fail
                go_roundw
                case rel => exact ⟨k + 1, by go_num, by omega, HX5.out⟩
                case measure => simp [intOf]; omega
              · have hk1 : ¬ (k : Int) < 1 := by omega
                have hf0 := HX1.out.trans hf
                clear hf
                go_wp2_with fail
                (with_reducible refine (HK.out _).mono ?_)
                rintro e Z ⟨rfl, hz⟩
                have HX := Lib.hid (hf0.trans hz)
                clear hz hf0
                go_wp2
                go_ret
                exact ⟨rfl, HX.out⟩
        · have hy0 : ((y : Int) == 0) = false := by have := hlz hz; simp; omega
          have hMp : (M : Int) > 0 := by omega
          clear hlz hz
          go_wp2_with fail
          as_aux_lemma =>
            (with_reducible refine (HJ.out (M + 1) HH.out.1 a c X1 _ _ (HC.out) HX1.out ((Fr.refl noF X1).alloc _) (alloc_new X1 _)).mono ?_)
            rintro e X2 ⟨ja, jn, jc, rfl, hjr, hx2⟩
            have HJR := Lib.hid hjr
            have hx2' : Fr noF noF X1 X2 := hx2
            clear hjr hx2
            go_wp2_with fail
            (with_reducible refine (HU.out X2 _ (HX1.out.trans hx2') HJR.out).mono ?_)
            rintro e X3 ⟨rfl, hx3⟩
            have HX3 := Lib.hid (hx2'.trans hx3)
            clear hx2' hx3
            go_wp2_with fail
            go_loopw [15] (fun i wr => ∃ k : Nat, i = .int .i64 k ∧ k ≤ (M + 1) ∧ Fr noF noF X1 wr) (fun i _ => (M + 1) - (intOf i).toNat)
            case atStart => exact ⟨0, rfl, by omega, HX3.out⟩
            case round =>
              obtain ⟨k, rfl, hk, hf⟩ := hrel
              have hk0 : (0 : Int) ≤ (k : Int) := by omega
              by_cases hlt : k < (M + 1)
              · have hk1 : (k : Int) < (M : Int) + 1 := by omega
                have hkc : (k : Int) ≤ (c : Int) := by have := HC.out.1; have := HH.out.1; omega
                have HUK := Lib.hid (HUE.out a c X1 HC.out wr k (by have := HH.out.1; omega) HX1.out hf)
                go_wp2_with fail
                (with_reducible refine HUK.out.mono ?_)
                rintro e X5 ⟨x, rfl, hx5⟩
                have HX5 := Lib.hid (hf.trans hx5)
                clear hx5 hf
                go_wp2_with fail
                go_roundw
                case rel => exact ⟨k + 1, by go_num, by omega, HX5.out⟩
                case measure => simp [intOf]; omega
              · have hk1 : ¬ (k : Int) < (M : Int) + 1 := by omega
                have hf0 := HX1.out.trans hf
                clear hf
                go_wp2_with fail
                (with_reducible refine (HK.out _).mono ?_)
                rintro e Z ⟨rfl, hz⟩
                have HX := Lib.hid (hf0.trans hz)
                clear hz hf0
                go_wp2
                go_ret
                exact ⟨rfl, HX.out⟩

theorem L_FnVarintBack (n : Int) (long : Bool) (tv : Value) (tail : List UInt8) (w : World) (hn : -9223372036854775808 ≤ n ∧ n ≤ 9223372036854775807) (ht : Rd w tv tail) (a0 a1 : Addr) (hE : Ends w a0 a1) :
    Calls Tryz.prog 10 #[.int .i64 n, .bool long, tv] w fun e w' => e = .returned (.bool true) ∧ Fr noF noF w w' := by
  cases long
  · exact L_Vbk_false n tv tail w hn ht a0 a1 hE
  · exact L_Vbk_true n tv tail w hn ht a0 a1 hE
end Go.Proofs.YtkfkieebcahiiaaGreatDoor
