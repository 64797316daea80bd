/- FnPieces, the specification's side: laws.endsLate, spec.SameKind, spec.Pieces. -/
import Derived.Test.YtoifjckhccbmlaaGreatDoorZ4
import Derived.Test.YtoifjckhccbmlaaGreatDoorZApp
set_option linter.all false
namespace Go.Proofs.YtoifjckhccbmlaaGreatDoor
open Go Go.RowKit
set_option maxHeartbeats 2000000
set_option maxRecDepth 100000

/-- Does a reader tell the end early? -/
def late (cuts : List Int) : Bool := cuts.any fun z => decide (z < 0)
theorem late_step {cuts : List Int} {k : Nat} {z : Int} (h : cuts[k]? = some z) : late (cuts.take (k + 1)) = (late (cuts.take k) || decide (z < 0)) := by
  unfold late
  rw [List.take_add_one, h, List.any_append]
  simp
theorem late_some {cuts : List Int} {k : Nat} {z : Int} (h : cuts[k]? = some z) (hz : z < 0) : late cuts = true := by
  unfold late
  rw [List.any_eq_true]
  exact ⟨z, List.mem_of_getElem? h, decide_eq_true hz⟩

theorem L_endsLate (v : Value) (cuts : List Int) (w : World) (h : RdI w v cuts) (hb : cuts.length ≤ 100000) : Calls Tryz.prog 21 #[v] w fun e w' => e = .returned (.bool (late cuts)) ∧ w' = w := by
  obtain ⟨a, n, c, rfl, hn⟩ := h.len
  have H := Lib.hid (And.intro h (And.intro hn hb))
  clear h hn hb
  go_enter Tryz.func21, Tryz.ntmps21
  go_wp2_with fail
  go_loopw [3] (fun i wr => ∃ k : Nat, i = .int .i64 k ∧ k ≤ n ∧ late (cuts.take k) = false ∧ wr = w) (fun i _ => n - (intOf i).toNat)
  case atStart => exact ⟨0, rfl, by omega, rfl, rfl⟩
  case round =>
    obtain ⟨k, rfl, hk, hl, rfl⟩ := hrel
    rcases Nat.lt_or_ge k n with hlt | hge
    · obtain ⟨z, hz⟩ : ∃ z, cuts[k]? = some z := ⟨_, List.getElem?_eq_getElem (by rw [H.out.2.1]; exact hlt)⟩
      have hc : ∃ b, a = some b ∧ wr.cell? (b.add k) = some (.int .i64 z) := by
        rcases H.out.1 with ⟨_, h⟩ | ⟨a', n', c', h, _, _, _, hs⟩
        · rw [h] at hz; cases hz
        · injection h with h _ _; exact ⟨a', h, hs k z hz⟩
      obtain ⟨b, rfl, d⟩ := hc
      have hk0 : (0 : Int) ≤ (k : Int) := by omega
      have hk1 : (k : Int) < (n : Int) := by omega
      have hk2 : (k : Int) + 1 ≤ 100001 := by have := H.out.2; omega
      have HS := Lib.hid (late_step hz)
      have HL := Lib.hid hl
      by_cases hneg : z < 0
      · have HX := Lib.hid (late_some hz hneg)
        clear hl hz
        go_wp2
        go_ret
        exact ⟨by rw [HX.out]; rfl, rfl⟩
      · have hd : decide (z < 0) = false := decide_eq_false hneg
        have HD := Lib.hid hd
        clear hl hz hd
        go_wp2
        refine ⟨⟨k + 1, rfl, by omega, by rw [HS.out, HL.out, HD.out]; rfl, by first | rfl | trivial⟩, ?_⟩
        have e1 : intOf (Value.int IntKind.i64 (↑k + 1)) = k + 1 := rfl
        have e2 : intOf (Value.int IntKind.i64 (k : Int)) = k := rfl
        rw [e1, e2]; omega
    · obtain rfl : k = n := by omega
      rw [List.take_of_length_le (by have := H.out.2.1; omega)] at hl
      have HL := Lib.hid hl
      clear hl
      go_wp2
      go_ret
      exact ⟨by rw [HL.out]; rfl, rfl⟩

/-- Is a kind what is told of it? -/
def sameKind (k t : Int) : Bool := t == -2 || (t == -1 && k != 0) || k == t
theorem S_SameKind (k t : Int) (w : World) : Calls Tryz.prog 24 #[.int .i64 k, .int .i64 t] w fun e w' => e = .returned (.bool (sameKind k t)) ∧ w' = w := by
  unfold sameKind
  cases h1 : (t == -2) with
  | true =>
    go_enter Tryz.func24, Tryz.ntmps24
    go_wp2
    go_ret
    exact ⟨rfl, rfl⟩
  | false =>
    cases h2 : (t == -1) with
    | true =>
      cases h3 : (k != 0) with
      | true =>
        go_enter Tryz.func24, Tryz.ntmps24
        go_wp2
        go_ret
        exact ⟨rfl, rfl⟩
      | false =>
        cases h4 : (k == t) <;>
        · go_enter Tryz.func24, Tryz.ntmps24
          go_wp2
          go_ret
          exact ⟨rfl, rfl⟩
    | false =>
      cases h4 : (k == t) <;>
      · go_enter Tryz.func24, Tryz.ntmps24
        go_wp2
        go_ret
        exact ⟨rfl, rfl⟩

/-- What spec.Pieces tells: the kind, and of kind 0 the bytes. -/
def pkind (size : Int) (cuts : List Int) (l : List UInt8) : Int := if size < 0 ∨ (late cuts = true ∧ 512 < size) then -2 else if (l.length : Int) < size then -1 else 0
def PieceR (size : Int) (cuts : List Int) (l : List UInt8) (w : World) (e : Ending) (w' : World) : Prop :=
  Fr noF noF w w' ∧ ∃ v, e = .returned (.tuple #[v, .int .i64 (pkind size cuts l)]) ∧ (pkind size cuts l = 0 → Rd w' v (l.take size.toNat) ∧ ∀ k, vblk v k → w.heap.size ≤ k)

theorem piece_ways (size : Int) (b : Bool) : size < 0 ∨ (0 ≤ size ∧ b = true ∧ 512 < size) ∨ (0 ≤ size ∧ ¬ (b = true ∧ 512 < size)) := by
  by_cases h : size < 0
  · exact Or.inl h
  · by_cases h' : b = true ∧ 512 < size
    · exact Or.inr (Or.inl ⟨by omega, h'.1, h'.2⟩)
    · exact Or.inr (Or.inr ⟨by omega, h'⟩)
/-- The first bytes of some. -/
theorem Rd.first {w : World} {a : Addr} {n c : Nat} {l : List UInt8} (h : Rd w (.slice (some a) n c) l) (m : Nat) (hm : m ≤ n) : Rd w (.slice (some a) m c) (l.take m) := by
  rcases h with ⟨h, _⟩ | ⟨a', n', c', h, hl, hc, hmx, hs⟩
  · cases h
  · injection h with h1 h2 h3
    injection h1 with h1
    subst h1 h2 h3
    refine Or.inr ⟨_, _, _, rfl, by rw [List.length_take]; omega, by omega, hmx, fun j u hj => hs j u ?_⟩
    rw [List.getElem?_take] at hj
    split at hj
    · exact hj
    · cases hj

theorem S_Pieces (size : Int) (vc : Value) (cuts : List Int) (vi : Value) (l : List UInt8) (w : World) (hs : -2147483648 ≤ size ∧ size ≤ 2147483647) (hc : RdI w vc cuts) (hi : Rd w vi l) (h1 : cuts.length ≤ 100000) (h2 : l.length ≤ 1000000000) :
    Calls Tryz.prog 23 #[.int .i32 size, vc, vi] w (PieceR size cuts l w) := by
  obtain ⟨a, n, c, rfl, hn⟩ := hc.len
  obtain ⟨a2, n2, c2, rfl, hn2⟩ := hi.len
  have H := Lib.hid (And.intro hc (And.intro hn h1))
  have HI := Lib.hid (And.intro hi (And.intro hn2 h2))
  obtain ⟨hs1, hs2⟩ := hs
  clear hc hn h1 hi hn2 h2
  go_enter Tryz.func23, Tryz.ntmps23
  go_wp2_with fail
  go_loopw [8, 9] (fun e i wr => ∃ k : Nat, i = .int .i64 k ∧ k ≤ n ∧ e = .bool (late (cuts.take k)) ∧ wr = w) (fun _ i _ => n - (intOf i).toNat)
  case atStart => exact ⟨0, rfl, by omega, rfl, rfl⟩
  case round =>
    obtain ⟨k, rfl, hk, rfl, rfl⟩ := hrel
    rcases Nat.lt_or_ge k n with hlt | hge
    · obtain ⟨z, hz⟩ : ∃ z, cuts[k]? = some z := ⟨_, List.getElem?_eq_getElem (by rw [H.out.2.1]; exact hlt)⟩
      have hcl : ∃ b, a = some b ∧ wr.cell? (b.add k) = some (.int .i64 z) := by
        rcases H.out.1 with ⟨_, h⟩ | ⟨a', n', c', h, _, _, _, hs⟩
        · rw [h] at hz; cases hz
        · injection h with h _ _; exact ⟨a', h, hs k z hz⟩
      obtain ⟨b, rfl, d⟩ := hcl
      have hk0 : (0 : Int) ≤ (k : Int) := by omega
      have hk1 : (k : Int) < (n : Int) := by omega
      have hk2 : (k : Int) + 1 ≤ 100001 := by have := H.out.2; omega
      have HS := Lib.hid (late_step hz)
      clear hz hs1 hs2
      cases hl : late (cuts.take k) with
      | true =>
        have HL := Lib.hid hl
        clear hl
        go_wp2
        refine ⟨⟨k + 1, rfl, by omega, by rw [HS.out, HL.out]; rfl, by first | rfl | trivial⟩, ?_⟩
        have e1 : intOf (Value.int IntKind.i64 (↑k + 1)) = k + 1 := rfl
        have e2 : intOf (Value.int IntKind.i64 (k : Int)) = k := rfl
        rw [e1, e2]; omega
      | false =>
        have HL := Lib.hid hl
        clear hl
        go_wp2
        refine ⟨⟨k + 1, rfl, by omega, by rw [HS.out, HL.out]; rfl, by first | rfl | trivial⟩, ?_⟩
        have e1 : intOf (Value.int IntKind.i64 (↑k + 1)) = k + 1 := rfl
        have e2 : intOf (Value.int IntKind.i64 (k : Int)) = k := rfl
        rw [e1, e2]; omega
    · obtain rfl : k = n := by omega
      rw [List.take_of_length_le (by have := H.out.2.1; omega)]
      rcases piece_ways size (late cuts) with hneg | ⟨hpos, hl, hbig⟩ | ⟨hpos, hno⟩
      · have hp : pkind size cuts l = -2 := by unfold pkind; rw [if_pos (Or.inl hneg)]
        have HP := Lib.hid hp
        clear hp
        go_wp2
        go_ret2
        exact ⟨Fr.refl noF _, _, by rw [HP.out]; rfl, fun h => by rw [HP.out] at h; cases h⟩
      · have hp : pkind size cuts l = -2 := by unfold pkind; rw [if_pos (Or.inr ⟨hl, hbig⟩)]
        have HP := Lib.hid hp
        rw [hl]
        clear hp hl
        go_wp2
        go_ret2
        exact ⟨Fr.refl noF _, _, by rw [HP.out]; rfl, fun h => by rw [HP.out] at h; cases h⟩
      · have hg : late cuts = true → size ≤ 512 := fun h => by
          rcases Int.lt_or_le 512 size with h' | h'
          · exact absurd ⟨h, h'⟩ hno
          · exact h'
        rcases (show (n2 : Int) < size ∨ size ≤ (n2 : Int) by omega) with hgt | hle
        · have hp : pkind size cuts l = -1 := by
            unfold pkind
            rw [if_neg (fun h => h.elim (fun h => by omega) hno), if_pos (by have := HI.out.2.1; omega)]
          have HP := Lib.hid hp
          clear hp hno
          cases hl : late cuts with
          | true =>
            have h5 := hg hl
            clear hg hl
            go_wp2
            go_ret2
            exact ⟨Fr.refl noF _, _, by rw [HP.out]; rfl, fun h => by rw [HP.out] at h; cases h⟩
          | false =>
            clear hg hl
            go_wp2
            go_ret2
            exact ⟨Fr.refl noF _, _, by rw [HP.out]; rfl, fun h => by rw [HP.out] at h; cases h⟩
        · obtain ⟨m, rfl⟩ : ∃ m : Nat, size = m := ⟨size.toNat, by omega⟩
          have hp : pkind (m : Int) cuts l = 0 := by
            unfold pkind
            rw [if_neg (fun h => h.elim (fun h => by omega) hno), if_neg (by have := HI.out.2.1; omega)]
          have HP := Lib.hid hp
          have hml : m ≤ n2 := by omega
          have hb5 : (late cuts && decide ((512 : Int) < (m : Int))) = false := by
            cases hl : late cuts with
            | true => rw [decide_eq_false (by have := hg hl; omega)]; rfl
            | false => rfl
          clear hp hno hg
          obtain ⟨lt, hlt⟩ : ∃ lt, lt = late cuts := ⟨_, rfl⟩
          rcases HI.out.1 with ⟨h, hl0⟩ | ⟨ad, n', c', h, _, hcc, _, _⟩
          · injection h with g1 g2 g3
            subst g1 g2 g3
            obtain rfl : m = 0 := by omega
            have HR : Hid (Rd wr (.slice none 0 0) (l.take 0)) := Lib.hid (Or.inl ⟨rfl, rfl⟩)
            clear hb5 hml
            cases hl : late cuts
            all_goals clear hl hlt
            all_goals
              go_wp2_with (at_builtin; refine append_bytes rfl _ _ rfl wr.heap.size (.slice none 0 0) (.slice none 0 0) [] (l.take 0) rfl (OwnB.nil _ _) rfl HR.out (by simp only [List.length_nil, List.length_take]; have := HI.out.2.2; omega) (Nat.le_refl _) ?_)
              intro v' w' hown hg'
              have HO := Lib.hid (And.intro hown ((Fr.refl noF wr).grown hg' fun k hk => by cases hk))
              clear hown hg'
              go_wp2
              go_ret2
              exact ⟨HO.out.2, _, by rw [HP.out]; rfl, fun _ => ⟨HO.out.1.rd, HO.out.1.blk⟩⟩
          · injection h with g1 g2 g3
            subst g1 g2 g3
            have HR := Lib.hid (HI.out.1.first m hml)
            have hc1 : (m : Int) ≤ (c2 : Int) := by omega
            have hm0 : (0 : Int) ≤ (m : Int) := by omega
            cases hl : late cuts with
            | true =>
              rw [hl] at hb5
              have hq : ¬ (512 : Int) < (m : Int) := by simpa using hb5
              clear hl hlt hb5
              go_wp2_with (at_builtin; refine append_bytes rfl _ _ rfl wr.heap.size (.slice none 0 0) (.slice (some ad) m c2) [] (l.take m) rfl (OwnB.nil _ _) rfl HR.out (by simp only [List.length_nil, List.length_take]; have := HI.out.2.2; omega) (Nat.le_refl _) ?_)
              intro v' w' hown hg'
              have HO := Lib.hid (And.intro hown ((Fr.refl noF wr).grown hg' fun k hk => by cases hk))
              clear hown hg'
              go_wp2
              go_ret2
              exact ⟨HO.out.2, _, by rw [HP.out]; rfl, fun _ => ⟨HO.out.1.rd, HO.out.1.blk⟩⟩
            | false =>
              clear hl hlt hb5
              go_wp2_with (at_builtin; refine append_bytes rfl _ _ rfl wr.heap.size (.slice none 0 0) (.slice (some ad) m c2) [] (l.take m) rfl (OwnB.nil _ _) rfl HR.out (by simp only [List.length_nil, List.length_take]; have := HI.out.2.2; omega) (Nat.le_refl _) ?_)
              intro v' w' hown hg'
              have HO := Lib.hid (And.intro hown ((Fr.refl noF wr).grown hg' fun k hk => by cases hk))
              clear hown hg'
              go_wp2
              go_ret2
              exact ⟨HO.out.2, _, by rw [HP.out]; rfl, fun _ => ⟨HO.out.1.rd, HO.out.1.blk⟩⟩
end Go.Proofs.YtoifjckhccbmlaaGreatDoor
