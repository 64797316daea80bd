/- laws.joined, laws.padded, laws.upper, laws.lower. -/
import Derived.Test.YtdedkoahfailcaaGreatDoorUuidP
import Derived.Test.YtdedkoahfailcaaGreatDoorOwned
import Derived.Test.YtdedkoahfailcaaGreatDoorEqual
namespace Go.Proofs.YtdedkoahfailcaaGreatDoor
open Go Go.RowKit
set_option maxHeartbeats 2000000
set_option maxRecDepth 100000

theorem L_joined (g n : Nat) (vs : List Value) (ls : List (List UInt8)) (w : World) (hg : ∀ (i : Nat) v, vs[i]? = some v → w.cell? ⟨g, i, none⟩ = some v)
    (hv : ∀ (i : Nat) v l, vs[i]? = some v → ls[i]? = some l → Rd w v l) (h1 : vs.length = n) (h2 : ls.length = n) (hn : n ≤ 100) (hb : ∀ l ∈ ls, l.length ≤ 1000000000) (hB : ∀ k, ((ls.take k).flatten).length ≤ 1000000000) :
    Calls Tryz.prog 50 #[.slice (some ⟨g, 0, none⟩) n n] w (NewR ls.flatten w) := by
  obtain ⟨i0, hi, hz0, hz1, hz2⟩ := info_parts info_u8
  have HG := Lib.hid hg
  have HV := Lib.hid hv
  have HB := Lib.hid (And.intro hb hB)
  have HN := Lib.hid (OwnB.nil w w.heap.size)
  clear hg hv hb hB
  go_enter Tryz.func50, Tryz.ntmps50
  go_wp2_with fail
  go_loopw [3, 4] (fun o i wr => ∃ k : Nat, i = .int .i64 k ∧ k ≤ n ∧ OwnB wr w.heap.size o (ls.take k).flatten ∧ Fr noF noF w wr) (fun _ i _ => n - (intOf i).toNat)
  case atStart => exact ⟨0, rfl, by omega, HN.out, Fr.refl noF w⟩
  case round =>
    obtain ⟨k, rfl, hk, hown, hfr⟩ := hrel
    rcases Nat.lt_or_ge k n with hlt | hge
    · obtain ⟨v, hvk⟩ : ∃ v, vs[k]? = some v := ⟨_, List.getElem?_eq_getElem (by omega)⟩
      obtain ⟨l, hlk⟩ : ∃ l, ls[k]? = some l := ⟨_, List.getElem?_eq_getElem (by omega)⟩
      have d1 := hfr.cell (HG.out k v hvk) fun x => x
      have hrd := (HV.out k v l hvk hlk).keep (F := noF) hfr fun _ _ x => x
      have hsz := hfr.size
      have hk0 : (0 : Int) ≤ (k : Int) := by omega
      have hk1 : (k : Int) < (n : Int) := by omega
      have hll : l.length ≤ 1000000000 := HB.out.1 l (List.mem_of_getElem? hlk)
      have hol := HB.out.2 k
      have hst : (ls.take (k + 1)).flatten = (ls.take k).flatten ++ l := by rw [List.take_add_one, hlk]; simp
      have HS := Lib.hid (And.intro hst hfr)
      have HL := Lib.hid hol
      have HSM := Lib.hid (show ((ls.take k).flatten).length = (List.take k (List.map List.length ls)).sum by rw [List.length_flatten, List.map_take])
      clear hst hfr hvk hlk
      rcases hrd with ⟨rfl, rfl⟩ | ⟨a, m, c, rfl, hm, hc, hmx, hs⟩
      · go_wp2_with (at_builtin; refine wpList_append_own_none rfl _ _ 35 rfl w.heap.size U8 i0 1 Tryz.underlying35 hi _ _ _ rfl hown rfl ?_)
        refine ⟨⟨k + 1, rfl, by omega, by rw [HS.out.1, List.append_nil]; exact hown, HS.out.2⟩, ?_⟩
        have e1 : intOf (Value.int IntKind.i64 (↑k + 1)) = k + 1 := rfl
        have e2 : intOf (Value.int IntKind.i64 (k : Int)) = k := rfl
        rw [e1, e2]; omega
      · have HC := Lib.hid hs
        clear hs
        go_wp2_with (at_builtin; refine wpList_append_own _ rfl _ _ 35 rfl w.heap.size U8 i0 (.int .u8 0) 1 1 Tryz.underlying35 hi hz0 hz1 hz2 rfl (by decide) _ _ _ rfl hown a m c (Lib.byteCells l) rfl (by rw [bcells_length]; omega) (fun j u hj => by obtain ⟨x, h1, rfl⟩ := bcells_get hj; exact HC.out j x h1) (fun u hu => by simp only [Lib.byteCells, List.mem_map] at hu; obtain ⟨x, _, rfl⟩ := hu; rfl) (by have := HL.out; unfold maxLen; omega) (by have := HL.out; omega) hsz ?_)
        intro v' w1 hown' hg' _
        have HG1 := Lib.hid (And.intro (OwnB.more (l := (ls.take k).flatten) (m := l) hown' (by have := HSM.out; omega)) (HS.out.2.grown hg' fun k hk => hown.own k hk))
        clear hown' hg' hown
        go_wp2
        refine ⟨⟨k + 1, rfl, by omega, by rw [HS.out.1]; exact HG1.out.1, HG1.out.2⟩, ?_⟩
        have e1 : intOf (Value.int IntKind.i64 (↑k + 1)) = k + 1 := rfl
        have e2 : intOf (Value.int IntKind.i64 (k : Int)) = k := rfl
        rw [e1, e2]; omega
    · obtain rfl : k = n := by omega
      rw [List.take_of_length_le (by omega)] at hown
      have HX := Lib.hid (And.intro hown hfr)
      clear hown hfr
      go_wp2
      go_ret
      exact ⟨_, rfl, HX.out.1, HX.out.2⟩

/-- Sixteen bytes of some. -/
def pad16 (l : List UInt8) : List UInt8 := l.take 16 ++ List.replicate (16 - l.length) 0
theorem pad16_len (l : List UInt8) : (pad16 l).length = 16 := by simp [pad16]; omega
theorem pad16_same {l : List UInt8} (h : l.length = 16) : pad16 l = l := by
  unfold pad16
  rw [List.take_of_length_le (by omega), h]
  simp
theorem uL_set {U : List UInt8} {k : Nat} (h : U.length = k) (hk : k < 16) (u : UInt8) : (uL U).set k (.int .u8 u.toNat) = uL (U ++ [u]) := by
  unfold uL
  rw [List.length_append, bcells_append, show 16 - U.length = (16 - (U.length + 1)) + 1 by omega, List.replicate_succ, List.set_append, if_neg (by rw [bcells_length]; omega), bcells_length, show k - U.length = 0 by omega, List.set_cons_zero, List.append_assoc]
  rfl
theorem uL_pad (l : List UInt8) (k : Nat) (hk : k ≤ 16) (h : k = 16 ∨ l.length ≤ k) : uL (l.take k) = Lib.byteCells (pad16 l) := by
  have e : l.take k = l.take 16 := by
    rcases h with rfl | h
    · rfl
    · rw [List.take_of_length_le h, List.take_of_length_le (by omega)]
  unfold uL pad16
  rw [e, bcells_append]
  congr 1
  rw [List.length_take, show 16 - min 16 l.length = 16 - l.length by omega]
  simp [Lib.byteCells]

theorem rd_at {w : World} {b : Nat} {d : List UInt8} {t : TypeId} {f : Nat × Nat} (h : w.heap[b]? = some (.cells (Lib.byteCells d).toArray t f)) (hd : d.length = 16) : Rd w (.slice (some ⟨b, 0, none⟩) 16 16) d :=
  Or.inr ⟨_, 16, 16, rfl, hd, Nat.le_refl _, by decide, fun j u hj => by
    rw [Lib.addr_add, cell_at h]
    simp [Lib.byteCells, hj]⟩

theorem hid2 {p : Prop} (h : p) : Hid p := Lib.hid h
theorem made16 : (madeCells #[Value.int .u8 0] 16).toList = uL [] := by
  apply List.ext_getElem
  · simp [madeCells, uL, Lib.byteCells]
  · intro i h1 h2
    have hi : i < 16 := by simpa [madeCells] using h1
    have hw : i = 0 ∨ i = 1 ∨ i = 2 ∨ i = 3 ∨ i = 4 ∨ i = 5 ∨ i = 6 ∨ i = 7 ∨ i = 8 ∨ i = 9 ∨ i = 10 ∨ i = 11 ∨ i = 12 ∨ i = 13 ∨ i = 14 ∨ i = 15 := by omega
    rcases hw with rfl | rfl | rfl | rfl | rfl | rfl | rfl | rfl | rfl | rfl | rfl | rfl | rfl | rfl | rfl | rfl <;> simp [madeCells, uL, Lib.byteCells]
theorem own_row {w : World} {base g m : Nat} {e : TypeId} {L : List Value} (h : w.ownsRow base e 1 (.slice (some ⟨g, 0, none⟩) m m) m L) : w.heap[g]? = some (.cells L.toArray e (0, 0)) := by
  obtain ⟨h0, h | ⟨g', cap, cur, hv, hb, hg, h1, h2, h3, h4⟩⟩ := h
  · cases h.1
  · injection hv with hv _ hc
    injection hv with hv
    injection hv with hv
    subst hv hc
    rw [hg]
    congr 2
    apply Array.ext'
    rw [← h4, List.take_of_length_le (by rw [Array.length_toList]; omega)]

theorem L_padded (v : Value) (l : List UInt8) (w : World) (h : Rd w v l) : Calls Tryz.prog 23 #[v] w fun e w' => ∃ r, e = .returned r ∧ Rd w' r (pad16 l) ∧ (∀ k, vblk r k → w.heap.size ≤ k) ∧ Fr noF noF w w' := by
  obtain ⟨a, n, c, rfl, hn⟩ := h.len
  have H := Lib.hid h
  have hmx : (n : Int) ≤ 9223372036854775807 := by
    rcases h with ⟨h, _⟩ | ⟨_, _, _, h, _, hc, hm, _⟩
    · injection h with _ h _; omega
    · injection h with _ h _; unfold maxLen at hm; omega
  clear h
  obtain ⟨i0, hi, hz0, hz1, hz2⟩ := info_parts info_u8
  go_enter Tryz.func23, Tryz.ntmps23
  go_wp2_with (refine wpList_make_full _ rfl _ _ 35 rfl w.heap.size U8 i0 (.int .u8 0) 1 Tryz.underlying35 hi hz0 hz1 .i64 .i64 16 16 16 rfl rfl rfl rfl (by rw [hz2]; decide) (by decide) (Nat.le_refl _) ?_)
  intro w1 hown hg
  have hrow := own_row hown
  rw [made16] at hrow
  have H1 := Lib.hid (And.intro hrow ((Fr.refl noF w).grown hg fun k hk => by cases hk))
  clear hown hg hrow
  go_wp2_with fail
  go_loopw [4] (fun i wr => ∃ k : Nat, i = .int .i64 k ∧ k ≤ 16 ∧ k ≤ n ∧ wr.heap[w.heap.size]? = some (.cells (uL (l.take k)).toArray U8 (0, 0)) ∧ Fr noF noF w wr) (fun i _ => 16 - (intOf i).toNat)
  case atStart =>
    refine ⟨0, rfl, by omega, by omega, ?_, ?_⟩
    · exact H1.out.1
    · exact H1.out.2
  case round =>
    obtain ⟨k, rfl, hk, hkn, hb, hfr⟩ := hrel
    rcases (show (k < 16 ∧ k < n) ∨ (k = 16 ∨ n ≤ k) by omega) with ⟨h16, hlt⟩ | hend
    · obtain ⟨u, hu⟩ : ∃ u, l[k]? = some u := ⟨_, List.getElem?_eq_getElem (by omega)⟩
      have hcell : ∃ b1, a = some b1 ∧ wr.cell? (b1.add k) = some (.int .u8 u.toNat) := by
        rcases H.out with ⟨h, rfl⟩ | ⟨a', n', c', h, _, _, _, hs⟩
        · simp at hu
        · injection h with h _ _; exact ⟨a', h, hfr.cell (hs k u hu) fun x => x⟩
      obtain ⟨b1, rfl, d1⟩ := hcell
      have hk0 : (0 : Int) ≤ (k : Int) := by omega
      have hk1 : (k : Int) < 16 := by omega
      have hk2 : (k : Int) < (n : Int) := by omega
      have hkl : (l.take k).length = k := by rw [List.length_take]; omega
      have c0 : wr.cell? ⟨w.heap.size, k, none⟩ = some (.int .u8 0) := by rw [cell_at hb]; simpa using uL_at (l.take k) k hkl h16
      have f0 := free_at hb k
      have hnx : (wr.setCell ⟨w.heap.size, k, none⟩ (.int .u8 u.toNat)).heap[w.heap.size]? = some (.cells (uL (l.take (k + 1))).toArray U8 (0, 0)) := by
        rw [setCell_at hb]
        simp only [List.setIfInBounds_toArray]
        rw [uL_set hkl h16 u, List.take_add_one, hu]
        rfl
      have HX := hid2 (And.intro hnx (hfr.setCell (p := ⟨w.heap.size, k, none⟩) (Or.inr (Nat.le_refl _)) (.int .u8 u.toNat)))
      clear hnx hfr hb hu hkl
      obtain ⟨x, hx⟩ : ∃ x : Int, x = (u.toNat : Int) := ⟨_, rfl⟩
      rw [← hx] at HX d1
      clear hx
      go_wp2
      refine ⟨⟨k + 1, rfl, by omega, by omega, HX.out.1, HX.out.2⟩, ?_⟩
      have e1 : intOf (Value.int IntKind.i64 (↑k + 1)) = k + 1 := rfl
      have e2 : intOf (Value.int IntKind.i64 (k : Int)) = k := rfl
      rw [e1, e2]; omega
    · have hpad := uL_pad l k hk (by omega)
      rw [hpad] at hb
      have HX := Lib.hid (And.intro hb hfr)
      have hR : Rd wr (.slice (some ⟨w.heap.size, 0, none⟩) 16 16) (pad16 l) := rd_at hb (pad16_len l)
      have HR := Lib.hid hR
      clear hR hb hfr hpad
      rcases hend with rfl | hend
      · go_wp2
        go_ret
        exact ⟨_, rfl, HR.out, fun k hk => by rw [← (show w.heap.size = k from hk)]; exact Nat.le_refl _, HX.out.2⟩
      · rcases Nat.lt_or_ge k 16 with h16 | h16
        · have hk1 : (k : Int) < 16 := by omega
          have hk2 : ¬ (k : Int) < (n : Int) := by omega
          go_wp2
          go_ret
          exact ⟨_, rfl, HR.out, fun k hk => by rw [← (show w.heap.size = k from hk)]; exact Nat.le_refl _, HX.out.2⟩
        · have hk1 : ¬ (k : Int) < 16 := by omega
          go_wp2
          go_ret
          exact ⟨_, rfl, HR.out, fun k hk => by rw [← (show w.heap.size = k from hk)]; exact Nat.le_refl _, HX.out.2⟩

/-- A byte with its case turned. -/
def upB (u : UInt8) : UInt8 := if 97 ≤ u.toNat ∧ u.toNat ≤ 122 then UInt8.ofNat (u.toNat - 32) else u
def loB (u : UInt8) : UInt8 := if 65 ≤ u.toNat ∧ u.toNat ≤ 90 then UInt8.ofNat (u.toNat + 32) else u
theorem OwnB.set {w : World} {base g c n : Nat} {l : List UInt8} (h : OwnB w base (.slice (some ⟨g, 0, none⟩) n c) l) (k : Nat) (u : UInt8) : OwnB (w.setCell ⟨g, k, none⟩ (.int .u8 u.toNat)) base (.slice (some ⟨g, 0, none⟩) n c) (l.set k u) := by
  obtain ⟨h0, ⟨h, _⟩ | ⟨g', cap, cur, hv, hb, hg, h1, h2, h3, h4⟩⟩ := h
  · cases h
  · injection hv with hv hn hc
    injection hv with hv
    injection hv with hv
    subst hv hc hn
    refine ⟨by rw [bcells_length, List.length_set]; omega, Or.inr ⟨g, c, _, by rw [List.length_set], hb, setCell_at hg _, by rw [List.length_set]; exact h1, h2, by simpa using h3, ?_⟩⟩
    rw [Array.toList_setIfInBounds, List.length_set, List.take_set, h4]
    simp only [Lib.byteCells, List.map_set]
theorem OwnB.cell {w : World} {base g c n : Nat} {l : List UInt8} (h : OwnB w base (.slice (some ⟨g, 0, none⟩) n c) l) {k : Nat} {u : UInt8} (hu : l[k]? = some u) : w.cell? ⟨g, k, none⟩ = some (.int .u8 u.toNat) ∧ w.frozen? ⟨g, k, none⟩ = false ∧ base ≤ g ∧ n = l.length ∧ n ≤ 9223372036854775807 := by
  have hr := h.rd
  obtain ⟨h0, ⟨h, _⟩ | ⟨g', cap, cur, hv, hb, hg, h1, h2, h3, h4⟩⟩ := h
  · cases h
  · injection hv with hv hn hc
    injection hv with hv
    injection hv with hv
    subst hv hc hn
    rcases hr with ⟨h, _⟩ | ⟨a, n', c', h, _, _, _, hs⟩
    · cases h
    · injection h with h _ _
      injection h with h
      subst h
      have := hs k u hu
      rw [Lib.addr_add, Nat.zero_add] at this
      exact ⟨this, free_at hg k, hb, rfl, by unfold maxLen at h2; omega⟩
theorem set_same {l : List UInt8} {k : Nat} {u : UInt8} (h : l[k]? = some u) : l.set k u = l := by
  have hk := (List.getElem?_eq_some_iff.1 h).1
  have hu := (List.getElem?_eq_some_iff.1 h).2
  have := List.set_getElem_self hk
  rw [hu] at this
  exact this
/-- Half way. -/
def half (F : UInt8 → UInt8) (l : List UInt8) (k : Nat) : List UInt8 := (l.take k).map F ++ l.drop k
theorem half_len (F : UInt8 → UInt8) (l : List UInt8) (k : Nat) : (half F l k).length = l.length := by simp [half]; omega
theorem half_at {F : UInt8 → UInt8} {l : List UInt8} {k : Nat} {u : UInt8} (h : l[k]? = some u) : (half F l k)[k]? = some u ∧ half F l (k + 1) = (half F l k).set k (F u) := by
  have hk : k < l.length := (List.getElem?_eq_some_iff.1 h).1
  have hu : l[k] = u := (List.getElem?_eq_some_iff.1 h).2
  have hl : ((l.take k).map F).length = k := by simp; omega
  have hd : l.drop k = u :: l.drop (k + 1) := by rw [List.drop_eq_getElem_cons hk, hu]
  unfold half
  rw [hd]
  constructor
  · rw [List.getElem?_append_right (by omega), hl, Nat.sub_self]
    rfl
  · rw [List.take_add_one, h, List.set_append, if_neg (by omega), hl, Nat.sub_self]
    simp

theorem L_upper (v : Value) (l : List UInt8) (w : World) (h : Rd w v l) (hb : l.length ≤ 100000) : Calls Tryz.prog 22 #[v] w fun e w' => ∃ r, e = .returned r ∧ Rd w' r (l.map upB) ∧ (∀ k, vblk r k → w.heap.size ≤ k) ∧ Fr noF noF w w' := by
  obtain ⟨a, n, c, rfl, hn⟩ := h.len
  have hJ := L_joined w.heap.size 1 [.slice a n c] [l] (w.alloc (.cells #[.slice a n c] 35 (0, 0)))
    (fun i v hv => by rw [cell_at (alloc_new w _)]; simpa using hv)
    (fun i v l' hv hl' => by
      match i, hv, hl' with
      | 0, hv, hl' =>
        simp at hv hl'
        subst hv hl'
        exact h.keep (F := noF) ((Fr.refl noF w).alloc _) fun _ _ x => x)
    rfl rfl (by decide) (by simpa using (by omega : l.length ≤ 1000000000)) (fun k => by
      match k with
      | 0 => simp
      | k + 1 => simp; omega)
  rw [show ([l] : List (List UInt8)).flatten = l by simp] at hJ
  have HJ := Lib.hid hJ
  clear hJ h hn
  go_enter Tryz.func22, Tryz.ntmps22
  go_wp2_with fail
  refine HJ.out.mono ?_
  rintro e w1 ⟨v', rfl, hown, hf⟩
  have hF1 : Fr noF noF w w1 := ((Fr.refl noF w).alloc _).trans hf
  have hbase : w.heap.size ≤ (w.alloc (.cells #[.slice a n c] 35 (0, 0))).heap.size := by simp
  obtain ⟨B, hB⟩ : ∃ B, B = (w.alloc (.cells #[.slice a n c] 35 (0, 0))).heap.size := ⟨_, rfl⟩
  rw [← hB] at hown hbase
  clear hf HJ hB
  have hsh := hown.2
  rcases hsh with ⟨rfl, h0⟩ | ⟨g, cap, cur, rfl, hbg, hg, h1, h2, -, -⟩
  · obtain rfl := List.length_eq_zero_iff.1 h0
    have HX := Lib.hid (And.intro hown hF1)
    clear hown hF1
    go_wp2_with fail
    go_loopw [4] (fun i wr => i = .int .i64 0 ∧ wr = w1) (fun _ _ => 0)
    case atStart => exact ⟨rfl, rfl⟩
    case round =>
      obtain ⟨rfl, rfl⟩ := hrel
      go_wp2
      go_ret
      exact ⟨_, rfl, HX.out.1.rd, fun k hk => hk.elim, HX.out.2⟩
  · obtain ⟨m, hm⟩ : ∃ m, m = l.length := ⟨_, rfl⟩
    rw [← hm] at hown h1 ⊢
    clear h2
    have hH : OwnB w1 B (.slice (some ⟨g, 0, none⟩) m cap) (half upB l 0) := by simpa [half] using (by rw [hm]; rw [hm] at hown; exact hown)
    have HH := Lib.hid (And.intro hH hF1)
    have HM := Lib.hid hm
    clear hown hH hF1 hg hm
    go_wp2_with fail
    go_loopw [4] (fun i wr => ∃ k : Nat, i = .int .i64 k ∧ k ≤ m ∧ OwnB wr B (.slice (some ⟨g, 0, none⟩) m cap) (half upB l k) ∧ Fr noF noF w wr) (fun i _ => m - (intOf i).toNat)
    case atStart => exact ⟨0, rfl, by omega, HH.out.1, HH.out.2⟩
    case round =>
      obtain ⟨k, rfl, hk, hown, hfr⟩ := hrel
      rcases Nat.lt_or_ge k m with hlt | hge
      · obtain ⟨u, hu⟩ : ∃ u, l[k]? = some u := ⟨_, List.getElem?_eq_getElem (by rw [← HM.out]; exact hlt)⟩
        obtain ⟨hat, hnx⟩ := half_at (F := upB) hu
        obtain ⟨d1, f1, hgB, -, -⟩ := hown.cell hat
        have hk0 : (0 : Int) ≤ (k : Int) := by omega
        have hk1 : (k : Int) < (m : Int) := by omega
        have hk2 : (k : Int) + 1 ≤ 100001 := by have := HM.out; omega
        have hu1 := UInt8.toNat_lt u
        rcases (show (97 ≤ u.toNat ∧ u.toNat ≤ 122) ∨ (u.toNat < 97 ∨ 122 < u.toNat) by omega) with ⟨hlo, hhi⟩ | hout
        · have hF : ((upB u).toNat : Int) = (u.toNat : Int) - 32 := by
            unfold upB
            rw [if_pos ⟨hlo, hhi⟩, UInt8.toNat_ofNat']
            omega
          have hs := hown.set k (upB u)
          rw [← hnx, hF] at hs
          have HS := Lib.hid (And.intro hs (hfr.setCell (p := ⟨g, k, none⟩) (Or.inr (by show w.heap.size ≤ g; omega)) (.int .u8 ((u.toNat : Int) - 32))))
          have q1 : (97 : Int) ≤ (u.toNat : Int) := by omega
          have q2 : (u.toNat : Int) ≤ 122 := by omega
          clear hown hfr hs hnx hat hF hu hlo hhi hu1
          obtain ⟨x, hx⟩ : ∃ x : Int, x = (u.toNat : Int) := ⟨_, rfl⟩
          rw [← hx] at HS d1 q1 q2
          clear hx
          go_wp2
          refine ⟨⟨k + 1, rfl, by omega, HS.out.1, HS.out.2⟩, ?_⟩
          have e1 : intOf (Value.int IntKind.i64 (↑k + 1)) = k + 1 := rfl
          have e2 : intOf (Value.int IntKind.i64 (k : Int)) = k := rfl
          rw [e1, e2]; omega
        · have hF : upB u = u := by unfold upB; rw [if_neg (by omega)]
          have hs : half upB l (k + 1) = half upB l k := by
            rw [hnx, hF]
            exact set_same hat
          rw [← hs] at hown
          have HS := Lib.hid (And.intro hown hfr)
          clear hown hfr hs hnx hat hF hu
          rcases hout with ho | ho
          · have q1 : (u.toNat : Int) < 97 := by omega
            clear ho hu1
            obtain ⟨x, hx⟩ : ∃ x : Int, x = (u.toNat : Int) := ⟨_, rfl⟩
            rw [← hx] at d1 q1
            have q3 : decide ((97 : Int) ≤ x) = false := decide_eq_false (by omega)
            clear hx q1
            go_wp2
            refine ⟨⟨k + 1, rfl, by omega, HS.out.1, HS.out.2⟩, ?_⟩
            have e1 : intOf (Value.int IntKind.i64 (↑k + 1)) = k + 1 := rfl
            have e2 : intOf (Value.int IntKind.i64 (k : Int)) = k := rfl
            rw [e1, e2]; omega
          · have q1 : (97 : Int) ≤ (u.toNat : Int) := by omega
            have q2 : (122 : Int) < (u.toNat : Int) := by omega
            clear ho hu1
            obtain ⟨x, hx⟩ : ∃ x : Int, x = (u.toNat : Int) := ⟨_, rfl⟩
            rw [← hx] at d1 q1 q2
            have q3 : decide (x ≤ (122 : Int)) = false := decide_eq_false (by omega)
            have q4 : decide ((97 : Int) ≤ x) = true := decide_eq_true q1
            clear hx q1 q2
            go_wp2
            refine ⟨⟨k + 1, rfl, by omega, HS.out.1, HS.out.2⟩, ?_⟩
            have e1 : intOf (Value.int IntKind.i64 (↑k + 1)) = k + 1 := rfl
            have e2 : intOf (Value.int IntKind.i64 (k : Int)) = k := rfl
            rw [e1, e2]; omega
      · obtain rfl : k = m := by omega
        have hfin : half upB l k = l.map upB := by unfold half; rw [List.take_of_length_le (by have := HM.out; omega), List.drop_of_length_le (by have := HM.out; omega), List.append_nil]
        rw [hfin] at hown
        have HX := Lib.hid (And.intro hown hfr)
        clear hown hfr hfin
        have hkk : ¬ (k : Int) < (k : Int) := by omega
        go_wp2
        go_ret
        exact ⟨_, rfl, HX.out.1.rd, fun k hk => Nat.le_trans hbase (HX.out.1.blk k hk), HX.out.2⟩
theorem L_lower (v : Value) (l : List UInt8) (w : World) (h : Rd w v l) (hb : l.length ≤ 100000) : Calls Tryz.prog 24 #[v] w fun e w' => ∃ r, e = .returned r ∧ Rd w' r (l.map loB) ∧ (∀ k, vblk r k → w.heap.size ≤ k) ∧ Fr noF noF w w' := by
  obtain ⟨a, n, c, rfl, hn⟩ := h.len
  have hJ := L_joined w.heap.size 1 [.slice a n c] [l] (w.alloc (.cells #[.slice a n c] 35 (0, 0)))
    (fun i v hv => by rw [cell_at (alloc_new w _)]; simpa using hv)
    (fun i v l' hv hl' => by
      match i, hv, hl' with
      | 0, hv, hl' =>
        simp at hv hl'
        subst hv hl'
        exact h.keep (F := noF) ((Fr.refl noF w).alloc _) fun _ _ x => x)
    rfl rfl (by decide) (by simpa using (by omega : l.length ≤ 1000000000)) (fun k => by
      match k with
      | 0 => simp
      | k + 1 => simp; omega)
  rw [show ([l] : List (List UInt8)).flatten = l by simp] at hJ
  have HJ := Lib.hid hJ
  clear hJ h hn
  go_enter Tryz.func24, Tryz.ntmps24
  go_wp2_with fail
  refine HJ.out.mono ?_
  rintro e w1 ⟨v', rfl, hown, hf⟩
  have hF1 : Fr noF noF w w1 := ((Fr.refl noF w).alloc _).trans hf
  have hbase : w.heap.size ≤ (w.alloc (.cells #[.slice a n c] 35 (0, 0))).heap.size := by simp
  obtain ⟨B, hB⟩ : ∃ B, B = (w.alloc (.cells #[.slice a n c] 35 (0, 0))).heap.size := ⟨_, rfl⟩
  rw [← hB] at hown hbase
  clear hf HJ hB
  have hsh := hown.2
  rcases hsh with ⟨rfl, h0⟩ | ⟨g, cap, cur, rfl, hbg, hg, h1, h2, -, -⟩
  · obtain rfl := List.length_eq_zero_iff.1 h0
    have HX := Lib.hid (And.intro hown hF1)
    clear hown hF1
    go_wp2_with fail
    go_loopw [4] (fun i wr => i = .int .i64 0 ∧ wr = w1) (fun _ _ => 0)
    case atStart => exact ⟨rfl, rfl⟩
    case round =>
      obtain ⟨rfl, rfl⟩ := hrel
      go_wp2
      go_ret
      exact ⟨_, rfl, HX.out.1.rd, fun k hk => hk.elim, HX.out.2⟩
  · obtain ⟨m, hm⟩ : ∃ m, m = l.length := ⟨_, rfl⟩
    rw [← hm] at hown h1 ⊢
    clear h2
    have hH : OwnB w1 B (.slice (some ⟨g, 0, none⟩) m cap) (half loB l 0) := by simpa [half] using (by rw [hm]; rw [hm] at hown; exact hown)
    have HH := Lib.hid (And.intro hH hF1)
    have HM := Lib.hid hm
    clear hown hH hF1 hg hm
    go_wp2_with fail
    go_loopw [4] (fun i wr => ∃ k : Nat, i = .int .i64 k ∧ k ≤ m ∧ OwnB wr B (.slice (some ⟨g, 0, none⟩) m cap) (half loB l k) ∧ Fr noF noF w wr) (fun i _ => m - (intOf i).toNat)
    case atStart => exact ⟨0, rfl, by omega, HH.out.1, HH.out.2⟩
    case round =>
      obtain ⟨k, rfl, hk, hown, hfr⟩ := hrel
      rcases Nat.lt_or_ge k m with hlt | hge
      · obtain ⟨u, hu⟩ : ∃ u, l[k]? = some u := ⟨_, List.getElem?_eq_getElem (by rw [← HM.out]; exact hlt)⟩
        obtain ⟨hat, hnx⟩ := half_at (F := loB) hu
        obtain ⟨d1, f1, hgB, -, -⟩ := hown.cell hat
        have hk0 : (0 : Int) ≤ (k : Int) := by omega
        have hk1 : (k : Int) < (m : Int) := by omega
        have hk2 : (k : Int) + 1 ≤ 100001 := by have := HM.out; omega
        have hu1 := UInt8.toNat_lt u
        rcases (show (65 ≤ u.toNat ∧ u.toNat ≤ 90) ∨ (u.toNat < 65 ∨ 90 < u.toNat) by omega) with ⟨hlo, hhi⟩ | hout
        · have hF : ((loB u).toNat : Int) = (u.toNat : Int) + 32 := by
            unfold loB
            rw [if_pos ⟨hlo, hhi⟩, UInt8.toNat_ofNat']
            omega
          have hs := hown.set k (loB u)
          rw [← hnx, hF] at hs
          have HS := Lib.hid (And.intro hs (hfr.setCell (p := ⟨g, k, none⟩) (Or.inr (by show w.heap.size ≤ g; omega)) (.int .u8 ((u.toNat : Int) + 32))))
          have q1 : (65 : Int) ≤ (u.toNat : Int) := by omega
          have q2 : (u.toNat : Int) ≤ 90 := by omega
          clear hown hfr hs hnx hat hF hu hlo hhi hu1
          obtain ⟨x, hx⟩ : ∃ x : Int, x = (u.toNat : Int) := ⟨_, rfl⟩
          rw [← hx] at HS d1 q1 q2
          clear hx
          go_wp2
          refine ⟨⟨k + 1, rfl, by omega, HS.out.1, HS.out.2⟩, ?_⟩
          have e1 : intOf (Value.int IntKind.i64 (↑k + 1)) = k + 1 := rfl
          have e2 : intOf (Value.int IntKind.i64 (k : Int)) = k := rfl
          rw [e1, e2]; omega
        · have hF : loB u = u := by unfold loB; rw [if_neg (by omega)]
          have hs : half loB l (k + 1) = half loB l k := by
            rw [hnx, hF]
            exact set_same hat
          rw [← hs] at hown
          have HS := Lib.hid (And.intro hown hfr)
          clear hown hfr hs hnx hat hF hu
          rcases hout with ho | ho
          · have q1 : (u.toNat : Int) < 65 := by omega
            clear ho hu1
            obtain ⟨x, hx⟩ : ∃ x : Int, x = (u.toNat : Int) := ⟨_, rfl⟩
            rw [← hx] at d1 q1
            have q3 : decide ((65 : Int) ≤ x) = false := decide_eq_false (by omega)
            clear hx q1
            go_wp2
            refine ⟨⟨k + 1, rfl, by omega, HS.out.1, HS.out.2⟩, ?_⟩
            have e1 : intOf (Value.int IntKind.i64 (↑k + 1)) = k + 1 := rfl
            have e2 : intOf (Value.int IntKind.i64 (k : Int)) = k := rfl
            rw [e1, e2]; omega
          · have q1 : (65 : Int) ≤ (u.toNat : Int) := by omega
            have q2 : (90 : Int) < (u.toNat : Int) := by omega
            clear ho hu1
            obtain ⟨x, hx⟩ : ∃ x : Int, x = (u.toNat : Int) := ⟨_, rfl⟩
            rw [← hx] at d1 q1 q2
            have q3 : decide (x ≤ (90 : Int)) = false := decide_eq_false (by omega)
            have q4 : decide ((65 : Int) ≤ x) = true := decide_eq_true q1
            clear hx q1 q2
            go_wp2
            refine ⟨⟨k + 1, rfl, by omega, HS.out.1, HS.out.2⟩, ?_⟩
            have e1 : intOf (Value.int IntKind.i64 (↑k + 1)) = k + 1 := rfl
            have e2 : intOf (Value.int IntKind.i64 (k : Int)) = k := rfl
            rw [e1, e2]; omega
      · obtain rfl : k = m := by omega
        have hfin : half loB l k = l.map loB := by unfold half; rw [List.take_of_length_le (by have := HM.out; omega), List.drop_of_length_le (by have := HM.out; omega), List.append_nil]
        rw [hfin] at hown
        have HX := Lib.hid (And.intro hown hfr)
        clear hown hfr hfin
        have hkk : ¬ (k : Int) < (k : Int) := by omega
        go_wp2
        go_ret
        exact ⟨_, rfl, HX.out.1.rd, fun k hk => Nat.le_trans hbase (HX.out.1.blk k hk), HX.out.2⟩
end Go.Proofs.YtdedkoahfailcaaGreatDoor
