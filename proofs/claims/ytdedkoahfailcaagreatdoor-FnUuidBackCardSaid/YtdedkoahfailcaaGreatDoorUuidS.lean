/- spec.Uuid: how the specification reads a uuid. -/
import Derived.Test.YtdedkoahfailcaaGreatDoorUuidF
import Derived.Test.YtdedkoahfailcaaGreatDoorOwned
namespace Go.Proofs.YtdedkoahfailcaaGreatDoor
open Go Go.RowKit
set_option maxHeartbeats 2000000
set_option maxRecDepth 100000

theorem srun_inv {l : List UInt8} : ∀ {k : Nat} {O : List UInt8} {H : Int}, srun l k = some (O, H) → (H = -1 ∨ (0 ≤ H ∧ H < 16)) ∧ O.length ≤ k
  | 0, O, H, h => by
    injection h with h
    injection h with h1 h2
    subst h1 h2
    exact ⟨Or.inl rfl, Nat.le_refl _⟩
  | k + 1, O, H, h => by
    have h' : (srun l k).bind (sstep l k) = some (O, H) := h
    cases hs : srun l k with
    | none => rw [hs] at h'; cases h'
    | some st =>
      obtain ⟨O', H'⟩ := st
      obtain ⟨i1, i2⟩ := srun_inv hs
      rw [hs] at h'
      have h2 : sstep l k (O', H') = some (O, H) := h'
      unfold sstep at h2
      split at h2
      · split at h2
        · injection h2 with h2; injection h2 with e1 e2; subst e1 e2; exact ⟨i1, by omega⟩
        · cases h2
      · cases hd : hexd (bat l k) with
        | none => rw [hd] at h2; cases h2
        | some n =>
          rw [hd] at h2
          have hr := hexd_range hd
          simp only at h2
          split at h2
          · injection h2 with h2; injection h2 with e1 e2; subst e1 e2; exact ⟨Or.inr hr, by omega⟩
          · injection h2 with h2; injection h2 with e1 e2; subst e1 e2; exact ⟨Or.inl rfl, by simp; omega⟩

/-- What the specification tells. -/
def UuidS (l : List UInt8) (w : World) (e : Ending) (w' : World) : Prop :=
  Fr noF noF w w' ∧ ∃ v, e = .returned (.tuple #[v, .bool (uu l).isSome]) ∧ ∀ d, uu l = some d → Rd w' v d ∧ ∀ k, vblk v k → w.heap.size ≤ k
theorem uuidS_none {l : List UInt8} {w w' : World} (h : uu l = none) (hf : Fr noF noF w w') : UuidS l w (.returned (.tuple #[.slice none 0 0, .bool false])) w' :=
  ⟨hf, _, by rw [h]; rfl, fun d hd => by rw [h] at hd; cases hd⟩
theorem uuidS_some {l d : List UInt8} {w w' : World} {v : Value} (h : uu l = some d) (hf : Fr noF noF w w') (ho : OwnB w' w.heap.size v d) : UuidS l w (.returned (.tuple #[v, .bool true])) w' :=
  ⟨hf, _, by rw [h]; rfl, fun d' hd => by rw [h] at hd; injection hd with hd; subst hd; exact ⟨ho.rd, ho.blk⟩⟩
theorem uu_stop {l : List UInt8} {k : Nat} (hl : l.length = 36) (hk : k ≤ 36) (h : srun l k = none) : uu l = none := by
  have := srun_none h 36 hk
  rw [srun_all l hl] at this
  cases hu : uu l with
  | none => rfl
  | some d => rw [hu] at this; cases this
theorem uu_end {l O : List UInt8} {H : Int} (hl : l.length = 36) (h : srun l 36 = some (O, H)) : uu l = some O := by
  rw [srun_all l hl] at h
  cases hu : uu l with
  | none => rw [hu] at h; cases h
  | some d =>
    rw [hu] at h
    injection h with h
    injection h with h1 _
    rw [h1]
theorem bat_at {l : List UInt8} {k : Nat} (h : k < l.length) : ∃ u, l[k]? = some u ∧ bat l k = (u.toNat : Int) := by
  refine ⟨l[k], List.getElem?_eq_getElem h, ?_⟩
  unfold bat
  rw [List.getD_eq_getElem?_getD, List.getElem?_eq_getElem h]
  rfl

theorem Rd.len' {w : World} {v : Value} {l : List UInt8} (h : Rd w v l) : ∃ a n c, v = .slice a n c ∧ l.length = n := by
  rcases h with ⟨rfl, rfl⟩ | ⟨a, n, c, rfl, hl, _⟩
  · exact ⟨none, 0, 0, rfl, rfl⟩
  · exact ⟨_, _, _, rfl, hl⟩
theorem S_Uuid (v : Value) (l : List UInt8) (w : World) (h : Rd w v l) (hb : l.length ≤ 1000000000) : Calls Tryz.prog 20 #[v] w (UuidS l w) := by
  obtain ⟨i0, hi, hz0, hz1, hz2⟩ := info_parts info_u8
  have HD := Lib.hid S_isDash
  have HH := Lib.hid S_hex
  by_cases hl : l.length = 36
  · rcases h with ⟨rfl, rfl⟩ | ⟨a, n, c, rfl, hn, hc, hm, hs⟩
    · simp at hl
    obtain rfl : n = 36 := by omega
    have HS := Lib.hid hs
    have h0 : srun l 0 = some ([], -1) := rfl
    have H0 := Lib.hid h0
    have HN := Lib.hid (OwnB.nil w w.heap.size)
    clear hs h0 hn
    go_enter Tryz.func20, Tryz.ntmps20
    go_wp2_with fail
    go_loopw [4, 5, 6] (fun o h i wr => ∃ (k : Nat) (O : List UInt8) (H : Int), i = .int .i64 k ∧ k ≤ 36 ∧ h = .int .i64 H ∧ srun l k = some (O, H) ∧ OwnB wr w.heap.size o O ∧ Fr noF noF w wr) (fun _ _ i _ => 36 - (intOf i).toNat)
    case atStart => exact ⟨0, [], -1, rfl, by omega, rfl, H0.out, HN.out, Fr.refl noF w⟩
    case round =>
      obtain ⟨k, O, H, rfl, hk, rfl, hrun, hown, hfr⟩ := hrel
      have hinv := srun_inv hrun
      rcases Nat.lt_or_ge k 36 with hlt | hge
      · obtain ⟨u, hu, hbu⟩ := bat_at (l := l) (k := k) (by omega)
        have d1 := hfr.cell (HS.out k u hu) fun x => x
        have hk0 : (0 : Int) ≤ (k : Int) := by omega
        have hk1 : (k : Int) < 36 := by omega
        have hk2 : (k : Int) + 1 ≤ 9223372036854775807 := by omega
        have HR := Lib.hid (And.intro hrun (And.intro hown hfr))
        have HU := Lib.hid (And.intro hu hbu)
        clear hrun hown hfr hu hbu
        cases hd : isDash k with
        | true =>
          by_cases h45 : (u.toNat : Int) = 45
          · have hst : srun l (k + 1) = some (O, H) := by
              show (srun l k).bind (sstep l k) = _
              rw [HR.out.1]
              show sstep l k (O, H) = _
              unfold sstep
              rw [hd, HU.out.2, if_pos rfl, if_pos h45]
            have HX := Lib.hid hst
            have hbb : (((u.toNat : Nat) : Int) != 45) = false := by rw [h45]; rfl
            clear hst h45
            go_wp2_with (go_at_call 46; refine (HD.out _ _).mono ?_; rintro e w' ⟨rfl, rfl⟩; simp only [hd])
            refine ⟨⟨k + 1, O, H, rfl, by omega, rfl, HX.out, HR.out.2.1, HR.out.2.2⟩, ?_⟩
            have e1 : intOf (Value.int IntKind.i64 (↑k + 1)) = k + 1 := rfl
            have e2 : intOf (Value.int IntKind.i64 (k : Int)) = k := rfl
            rw [e1, e2]; omega
          · have hst : srun l (k + 1) = none := by
              show (srun l k).bind (sstep l k) = _
              rw [HR.out.1]
              show sstep l k (O, H) = _
              unfold sstep
              rw [hd, HU.out.2, if_pos rfl, if_neg h45]
            have HX := Lib.hid (uu_stop hl (by omega) hst)
            have hbb : (((u.toNat : Nat) : Int) != 45) = true := by simp [h45]
            clear hst h45
            go_wp2_with (go_at_call 46; refine (HD.out _ _).mono ?_; rintro e w' ⟨rfl, rfl⟩; simp only [hd])
            go_ret2
            exact uuidS_none HX.out HR.out.2.2
        | false =>
          cases hh : hexd (u.toNat : Int) with
          | none =>
            have hst : srun l (k + 1) = none := by
              show (srun l k).bind (sstep l k) = _
              rw [HR.out.1]
              show sstep l k (O, H) = _
              unfold sstep
              rw [hd, HU.out.2, hh]
              rfl
            have HX := Lib.hid (uu_stop hl (by omega) hst)
            clear hst
            go_wp2_with (first | (go_at_call 46; refine (HD.out _ _).mono ?_; rintro e w' ⟨rfl, rfl⟩; simp only [hd]) | (go_at_call 47; refine (HH.out _ _).mono ?_; rintro e w' ⟨rfl, rfl⟩; simp only [hh, Option.getD]))
            go_ret2
            exact uuidS_none HX.out HR.out.2.2
          | some x =>
            have hx := hexd_range hh
            have hst : srun l (k + 1) = if H < 0 then some (O, x) else some (O ++ [UInt8.ofNat (16 * H + x).toNat], -1) := by
              show (srun l k).bind (sstep l k) = _
              rw [HR.out.1]
              show sstep l k (O, H) = _
              unfold sstep
              rw [hd, HU.out.2, hh]
              rfl
            obtain ⟨hx0, hx1⟩ := hx
            have hx2 : ¬ x < 0 := by omega
            rcases hinv.1 with hH | ⟨hH0, hH1⟩
            · subst hH
              rw [if_pos (by omega)] at hst
              have HX := Lib.hid hst
              clear hst hinv
              go_wp2_with (first | (go_at_call 46; refine (HD.out _ _).mono ?_; rintro e w' ⟨rfl, rfl⟩; simp only [hd]) | (go_at_call 47; refine (HH.out _ _).mono ?_; rintro e w' ⟨rfl, rfl⟩; simp only [hh, Option.getD]))
              refine ⟨⟨k + 1, O, x, rfl, by omega, rfl, HX.out, HR.out.2.1, HR.out.2.2⟩, ?_⟩
              have e1 : intOf (Value.int IntKind.i64 (↑k + 1)) = k + 1 := rfl
              have e2 : intOf (Value.int IntKind.i64 (k : Int)) = k := rfl
              rw [e1, e2]; omega
            · rw [if_neg (by omega)] at hst
              have HX := Lib.hid hst
              have hOl := hinv.2
              have hsz := HR.out.2.2.size
              have hown := HR.out.2.1
              have hH2 : ¬ H < 0 := by omega
              clear hst hinv
              go_wp2_with (first | (go_at_call 46; refine (HD.out _ _).mono ?_; rintro e w' ⟨rfl, rfl⟩; simp only [hd]) | (go_at_call 47; refine (HH.out _ _).mono ?_; rintro e w' ⟨rfl, rfl⟩; simp only [hh, Option.getD]) | (at_builtin; refine wpList_append_own _ rfl _ _ 35 rfl w.heap.size U8 i0 (.int .u8 0) 1 1 Tryz.underlying35 hi hz0 hz1 hz2 rfl (by decide) _ _ _ rfl (hown.alloc _) ⟨wr.heap.size, 0, none⟩ 1 1 [.int .u8 (16 * H + x)] rfl rfl ?c1 ?c2 ?c3 ?c4 ?c5 ?_))
              case c2 => rfl
              case c3 => unfold maxLen; omega
              case c4 => omega
              case c5 => omega
              · intro v' w1 hown' hg _
                have HG := Lib.hid (And.intro (OwnB.snoc (l := O) (u := UInt8.ofNat (16 * H + x).toNat) hown' rfl (by rw [UInt8.toNat_ofNat']; omega)) (((HR.out.2.2.alloc _).grown hg fun k hk => by have := hown.own k hk; exact this)))
                clear hown' hg hown
                go_wp2
                refine ⟨⟨k + 1, _, -1, rfl, by omega, rfl, HX.out, HG.out.1, HG.out.2⟩, ?_⟩
                have e1 : intOf (Value.int IntKind.i64 (↑k + 1)) = k + 1 := rfl
                have e2 : intOf (Value.int IntKind.i64 (k : Int)) = k := rfl
                rw [e1, e2]; omega
      · obtain rfl : k = 36 := by omega
        have HX := Lib.hid (And.intro (uu_end hl hrun) (And.intro hown hfr))
        clear hrun hown hfr
        go_wp2
        go_ret2
        exact uuidS_some HX.out.1 HX.out.2.2 HX.out.2.1
  · obtain ⟨a, n, c, rfl, hn⟩ := Rd.len' h
    have hu : uu l = none := by unfold uu; rw [if_neg (fun h => hl h.1)]
    have hn36 : ¬ (n : Int) = 36 := by omega
    have HU := Lib.hid hu
    clear hu h
    go_enter Tryz.func20, Tryz.ntmps20
    go_wp2
    go_ret2
    exact uuidS_none HU.out (Fr.refl noF w)
end Go.Proofs.YtdedkoahfailcaaGreatDoor
