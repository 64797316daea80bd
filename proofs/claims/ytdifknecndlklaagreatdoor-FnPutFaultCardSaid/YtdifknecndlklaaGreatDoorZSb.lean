/- The specification's bytes: big, text, uuid16. -/
import Derived.Laws.OwnMore
import Derived.Test.YtdifknecndlklaaGreatDoorZ4
import Derived.Test.YtdifknecndlklaaGreatDoorZApp
set_option linter.all false
namespace Go.Proofs.YtdifknecndlklaaGreatDoor
open Go Go.RowKit
set_option maxHeartbeats 2000000
set_option maxRecDepth 100000

theorem leBytes_snoc : ∀ (k V : Nat), Lib.leBytes (k + 1) V = Lib.leBytes k V ++ [(V / 256 ^ k % 256).toUInt8]
  | 0, V => by simp [Lib.leBytes]
  | k + 1, V => by
    rw [Lib.leBytes, leBytes_snoc k (V / 256), Lib.leBytes, Nat.div_div_eq_div_mul, ← Nat.pow_succ']
    rfl
theorem beBytes_cons (k V : Nat) : Lib.beBytes (k + 1) V = (V / 256 ^ k % 256).toUInt8 :: Lib.beBytes k V := by
  unfold Lib.beBytes
  rw [leBytes_snoc]
  simp
theorem shr_byte (n : Int) (k : Nat) (hk : k < 8) : n / 2 ^ (8 * k) % 256 = (((n % 18446744073709551616).toNat / 256 ^ k % 256).toUInt8.toNat : Int) := by
  have h3 : ∀ V : Nat, (V % 256).toUInt8.toNat = V % 256 := fun V => by
    show (UInt8.ofNat _).toNat = _
    rw [UInt8.toNat_ofNat']
    omega
  rw [h3]
  rcases (show k = 0 ∨ k = 1 ∨ k = 2 ∨ k = 3 ∨ k = 4 ∨ k = 5 ∨ k = 6 ∨ k = 7 by omega) with rfl | rfl | rfl | rfl | rfl | rfl | rfl | rfl <;> simp <;> omega

/-- The last k bytes are there. -/
def bigL (size k V : Nat) : List UInt8 := List.replicate (size - k) 0 ++ Lib.beBytes k V
theorem bigL_set {size k V : Nat} (hk : k < size) : (Lib.byteCells (bigL size k V)).set (size - 1 - k) (.int .u8 ((V / 256 ^ k % 256).toUInt8.toNat : Int)) = Lib.byteCells (bigL size (k + 1) V) := by
  obtain ⟨m, hm⟩ : ∃ m, size - k = m + 1 := ⟨size - k - 1, by omega⟩
  have e1 : size - 1 - k = m := by omega
  have e2 : size - (k + 1) = m := by omega
  unfold bigL
  rw [e1, e2, hm, beBytes_cons, bcells_append, bcells_append]
  have : Lib.byteCells (List.replicate (m + 1) (0 : UInt8)) = Lib.byteCells (List.replicate m (0 : UInt8)) ++ [.int .u8 0] := by
    rw [List.replicate_succ', bcells_append]; rfl
  rw [this, List.append_assoc, List.set_append, if_neg (by rw [bcells_length, List.length_replicate]; omega), bcells_length, List.length_replicate, Nat.sub_self]
  rfl
theorem bigL_len (size k V : Nat) (h : k ≤ size) : (bigL size k V).length = size := by
  unfold bigL
  rw [List.length_append, List.length_replicate, Lib.beBytes_length]
  omega
theorem own_made {w : World} {base g m : Nat} {l : List UInt8} (hb : base ≤ g) (h : w.heap[g]? = some (.cells (Lib.byteCells l).toArray U8 (0, 0))) (hl : l.length = m) (hm : m ≤ maxLen) : OwnB w base (.slice (some ⟨g, 0, none⟩) m m) l := by
  subst hl
  refine ⟨by rw [bcells_length, Nat.mul_one], Or.inr ⟨g, _, _, rfl, hb, h, Nat.le_refl _, hm, by simp [bcells_length], ?_⟩⟩
  simp only [Nat.mul_one]
  rw [List.take_of_length_le (by rw [bcells_length]; exact Nat.le_refl _)]
theorem made_zeros (m : Nat) : (madeCells #[Value.int .u8 0] m).toList = Lib.byteCells (List.replicate m 0) := by
  rw [toList_madeCells_one]
  simp [Lib.byteCells]

theorem S_big (n : Int) (size : Nat) (hs : size ≤ 8) (w : World) : Calls Tryz.prog 97 #[.int .i64 n, .int .i64 size] w (NewR (bigB n size) w) := by
  obtain ⟨i0, hi, hz0, hz1, hz2⟩ := info_parts info_u8
  have HI := Lib.hid (And.intro hi (And.intro hz0 (And.intro hz1 hz2)))
  obtain ⟨V, hV⟩ : ∃ V, V = (n % 18446744073709551616).toNat := ⟨_, rfl⟩
  have HB := Lib.hid (show bigB n size = Lib.beBytes size V by rw [hV]; rfl)
  have HV := Lib.hid (show ∀ k, k < 8 → n / 2 ^ (8 * k) % 256 = ((V / 256 ^ k % 256).toUInt8.toNat : Int) from fun k hk => by rw [hV]; exact shr_byte n k hk)
  have hs' : (size : Int) ≤ 8 := by omega
  clear hi hz0 hz1 hz2 hV
  go_enter Tryz.func97, Tryz.ntmps97
  go_wp2_with (refine wpList_make_full _ rfl _ _ 24 rfl w.heap.size U8 i0 (.int .u8 0) 1 Tryz.underlying24 HI.out.1 HI.out.2.1 HI.out.2.2.1 .i64 .i64 size size size rfl rfl rfl rfl (by rw [HI.out.2.2.2]; omega) (by unfold maxLen; omega) (Nat.le_refl _) ?_)
  intro w1 hown hg
  have hrow := own_row hown
  rw [made_zeros] at hrow
  have H1 := Lib.hid (And.intro hrow ((Fr.refl noF w).grown hg fun k hk => by cases hk))
  clear hown hg hrow
  go_wp2_with fail
  go_loopw [6] (fun i wr => ∃ k : Nat, i = .int .i64 k ∧ k ≤ size ∧ wr.heap[w.heap.size]? = some (.cells (Lib.byteCells (bigL size k V)).toArray U8 (0, 0)) ∧ Fr noF noF w wr) (fun i _ => size - (intOf i).toNat)
  case atStart => exact ⟨0, rfl, by omega, by simpa [bigL, Lib.beBytes, Lib.leBytes] using H1.out.1, H1.out.2⟩
  case round =>
    obtain ⟨k, rfl, hk, hb, hfr⟩ := hrel
    rcases Nat.lt_or_ge k size with hlt | hge
    · have hk0 : (0 : Int) ≤ (k : Int) := by omega
      have hk1 : (k : Int) < (size : Int) := by omega
      have hlen := bigL_len size k V hk
      have hidx : (size : Int) - 1 - (k : Int) = ((size - 1 - k : Nat) : Int) := by omega
      obtain ⟨u0, c0⟩ : ∃ u0, wr.cell? ⟨w.heap.size, size - 1 - k, none⟩ = some u0 := ⟨_, by
        rw [cell_at hb, Array.getElem?_eq_getElem (by simp only [List.size_toArray, bcells_length]; omega)]⟩
      have f0 := free_at hb (size - 1 - k)
      have hval := HV.out k (by omega)
      have hnx : (wr.setCell ⟨w.heap.size, size - 1 - k, none⟩ (.int .u8 (n / 2 ^ (8 * k) % 256))).heap[w.heap.size]? = some (.cells (Lib.byteCells (bigL size (k + 1) V)).toArray U8 (0, 0)) := by
        rw [setCell_at hb]
        simp only [List.setIfInBounds_toArray]
        rw [hval, bigL_set hlt]
      have HX := hid2 (And.intro hnx (hfr.setCell (p := ⟨w.heap.size, size - 1 - k, none⟩) (Or.inr (Nat.le_refl _)) (.int .u8 (n / 2 ^ (8 * k) % 256))))
      obtain ⟨q, hq⟩ : ∃ q, q = size - 1 - k := ⟨_, rfl⟩
      rw [← hq] at c0 f0 HX hidx
      have hq0 : (q : Int) < (size : Int) := by omega
      have hq1 : (q : Int) ≤ 7 := by omega
      clear hnx hfr hb hval hlen hq
      go_wp2
      go_roundw
      case rel => exact ⟨k + 1, by go_num, by omega, HX.out.1, HX.out.2⟩
      case measure => simp [intOf]; omega
    · obtain rfl : k = size := by omega
      have e : bigL k k V = Lib.beBytes k V := by unfold bigL; rw [Nat.sub_self]; rfl
      rw [e] at hb
      have HX := Lib.hid (And.intro (own_made (Nat.le_refl w.heap.size) hb (Lib.beBytes_length _ _) (by unfold maxLen; omega)) hfr)
      have hkk : ¬ (k : Int) < (k : Int) := by omega
      clear hb hfr e
      go_wp2
      go_ret
      exact ⟨_, rfl, by rw [HB.out]; exact HX.out.1, HX.out.2⟩

theorem S_text (v : Value) (l : List UInt8) (w : World) (h : Rd w v l) (hl : l.length ≤ 1000000000) : Calls Tryz.prog 98 #[v] w (NewR (be4 l.length ++ l) w) := by
  obtain ⟨a, n, c, rfl, hn⟩ := h.len
  subst hn
  have hg : ∀ X, Calls Tryz.prog 97 #[.int .i64 l.length, .int .i64 4] X (NewR (be4 l.length) X) := fun X => by
    have := S_big l.length 4 (by decide) X
    rw [bigB_4] at this
    exact this
  have HG := Lib.hid hg
  have HR := Lib.hid h
  have HL := Lib.hid hl
  clear h hg hl
  go_enter Tryz.func98, Tryz.ntmps98
  go_wp2_with fail
  (with_reducible refine (HG.out _).mono ?_)
  rintro e w1 ⟨v, rfl, ho, hf⟩
  have HO := Lib.hid (And.intro ho (And.intro hf (HR.out.keep hf fun _ _ x => x)))
  have HZ := Lib.hid hf.size
  clear ho hf
  go_wp2_with (at_builtin; refine append_bytes rfl _ _ rfl w.heap.size _ _ (be4 l.length) l rfl HO.out.1 rfl HO.out.2.2 (by have := HL.out; rw [be4_length]; omega) HZ.out ?_)
  intro v' w2 ho2 hg2
  have HX := Lib.hid (And.intro ho2 (HO.out.2.1.grown hg2 HO.out.1.own))
  clear ho2 hg2
  go_wp2
  go_ret
  exact ⟨_, rfl, HX.out.1, HX.out.2⟩

theorem S_uuid16 (v : Value) (l : List UInt8) (w : World) (h : Rd w v l) : Calls Tryz.prog 99 #[v] w (NewR (pad16 l) w) := by
  obtain ⟨i0, hi, hz0, hz1, hz2⟩ := info_parts info_u8
  obtain ⟨a, n, c, rfl, hn⟩ := h.len
  have HI := Lib.hid (And.intro hi (And.intro hz0 (And.intro hz1 hz2)))
  have HR := Lib.hid h
  have HN := Lib.hid hn
  clear h hi hz0 hz1 hz2 hn
  go_enter Tryz.func99, Tryz.ntmps99
  go_wp2_with (refine wpList_make_full _ rfl _ _ 24 rfl w.heap.size U8 i0 (.int .u8 0) 1 Tryz.underlying24 HI.out.1 HI.out.2.1 HI.out.2.2.1 .i64 .i64 16 16 16 rfl rfl rfl rfl (by rw [HI.out.2.2.2]; decide) (by unfold maxLen; omega) (Nat.le_refl _) ?_)
  intro w1 hown hg
  have hrow := own_row hown
  rw [made_zeros] at hrow
  have hf := (Fr.refl noF w).grown hg fun k hk => by cases hk
  have hcopy : ∃ Z W', (Builtin.copy_ #[24, 24] 3 #[.slice (some ⟨w.heap.size, 0, none⟩) 16 16, .slice a n c]).run Tryz.prog w1 = .ok Z W' ∧
      W'.heap[w.heap.size]? = some (.cells (Lib.byteCells (pad16 l)).toArray U8 (0, 0)) ∧ Fr noF noF w W' := by
    rcases HR.out.keep (F := noF) hf fun _ _ x => x with ⟨e, rfl⟩ | ⟨a', n', c', e, hn, hc, hm, hs⟩
    · cases e
      exact ⟨_, w1, run_copy_none w1 24 24 3 5 _ none 16 16 0 0 Tryz.underlying24 hinfo rfl, hrow, hf⟩
    · cases e
      have hl : (Lib.byteCells (l.take 16)).length = Nat.min n 16 := by
        rw [bcells_length, List.length_take, hn]
        exact Nat.min_comm _ _
      have hcp := run_copy_row (P := Tryz.prog) w1 24 24 3 5 w.heap.size 0 16 16 a' n c (Lib.byteCells (List.replicate 16 0)).toArray U8 (Lib.byteCells (l.take 16)) Tryz.underlying24 hinfo hrow hl
        (fun j u hj => by
          obtain ⟨x, h1, rfl⟩ := bcells_get hj
          exact hs j x (by rw [List.getElem?_take] at h1; split at h1; exact h1; cases h1))
        (by rw [hl]; show 0 + min n 16 ≤ 16; omega) (Lib.byteCells_one _)
      refine ⟨_, _, hcp, ?_, hf.setRow (Or.inr (Nat.le_refl _)) _⟩
      rw [setRow_heap w1 w.heap.size _ _ _ _ hrow]
      congr 2
      apply Array.ext'
      simp only [List.take_zero, List.nil_append, pad16, bcells_append, bcells_length, Nat.zero_add]
      congr 1
      rw [List.length_take]
      have hz : Lib.byteCells (List.replicate 16 0) = List.replicate 16 (Value.int .u8 0) := rfl
      rw [hz, List.drop_replicate, show 16 - min 16 l.length = 16 - l.length by omega]
      simp [Lib.byteCells]
  obtain ⟨Z, W', hcp, e1, e2⟩ := hcopy
  have HX := Lib.hid (And.intro (own_made (Nat.le_refl w.heap.size) e1 (pad16_len l) (by unfold maxLen; omega)) e2)
  clear hown hg hrow hf e1 e2
  go_wp2
  go_ret
  exact ⟨_, rfl, HX.out.1, HX.out.2⟩
end Go.Proofs.YtdifknecndlklaaGreatDoor
