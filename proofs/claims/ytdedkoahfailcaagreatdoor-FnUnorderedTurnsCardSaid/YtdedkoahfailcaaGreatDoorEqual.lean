/- The laws' comparison of bytes. -/
import Derived.Test.YtdedkoahfailcaaGreatDoorGets
namespace Go.Proofs.YtdedkoahfailcaaGreatDoor
open Go Go.RowKit
set_option maxHeartbeats 1000000
set_option maxRecDepth 100000

theorem Rd.len {w : World} {v : Value} {l : List UInt8} (h : Rd w v l) : ∃ a n c, v = .slice a n c ∧ l.length = n := by
  rcases h with ⟨rfl, rfl⟩ | ⟨a, n, c, rfl, hl, _⟩
  · exact ⟨none, 0, 0, rfl, rfl⟩
  · exact ⟨_, _, _, rfl, hl⟩

theorem L_equal (v1 v2 : Value) (l1 l2 : List UInt8) (w : World) (h1 : Rd w v1 l1) (h2 : Rd w v2 l2) : Calls Tryz.prog 15 #[v1, v2] w fun e w' => e = .returned (.bool (decide (l1 = l2))) ∧ ∃ q, w.drewN q = w' := by
  obtain ⟨a1, n1, c1, rfl, e1⟩ := h1.len
  obtain ⟨a2, n2, c2, rfl, e2⟩ := h2.len
  by_cases hne : n1 = n2
  · subst hne
    have hb : (n1 : Int) ≤ 9223372036854775807 := by
      rcases h1 with ⟨h, _⟩ | ⟨a, n, c, h, _, hc, hm, _⟩
      · injection h with _ h _; omega
      · injection h with _ h _; unfold maxLen at hm; omega
    have H1 := Lib.hid h1
    have H2 := Lib.hid h2
    clear h1 h2
    go_enter Tryz.func15, Tryz.ntmps15
    go_wp2_with fail
    go_loopw [5] (fun i wr => ∃ (k q : Nat), i = .int .i64 k ∧ k ≤ n1 ∧ l1.take k = l2.take k ∧ wr = w.drewN q) (fun i _ => n1 - (intOf i).toNat)
    case atStart => exact ⟨0, 0, rfl, by omega, rfl, rfl⟩
    case round =>
      obtain ⟨k, q, rfl, hk, htk, rfl⟩ := hrel
      rcases Nat.lt_or_ge k n1 with hlt | hge
      · have hk0 : (0 : Int) ≤ (k : Int) := by omega
        have hk1 : (k : Int) < (n1 : Int) := by omega
        obtain ⟨u1, hu1⟩ : ∃ u, l1[k]? = some u := ⟨_, List.getElem?_eq_getElem (by omega)⟩
        obtain ⟨u2, hu2⟩ : ∃ u, l2[k]? = some u := ⟨_, List.getElem?_eq_getElem (by omega)⟩
        have p1 : ∃ b1, a1 = some b1 ∧ w.cell? (b1.add k) = some (.int .u8 u1.toNat) := by
          rcases H1.out with ⟨h, rfl⟩ | ⟨a, n, c, h, _, _, _, hs⟩
          · simp at hu1
          · injection h with h _ _; exact ⟨a, h, hs k u1 hu1⟩
        have p2 : ∃ b1, a2 = some b1 ∧ w.cell? (b1.add k) = some (.int .u8 u2.toNat) := by
          rcases H2.out with ⟨h, rfl⟩ | ⟨a, n, c, h, _, _, _, hs⟩
          · simp at hu2
          · injection h with h _ _; exact ⟨a, h, hs k u2 hu2⟩
        obtain ⟨b1, rfl, d1⟩ := p1
        obtain ⟨b2, rfl, d2⟩ := p2
        by_cases hu : u1 = u2
        · subst hu
          have hst : l1.take (k + 1) = l2.take (k + 1) := by rw [List.take_add_one, List.take_add_one, htk, hu1, hu2]
          have HS := Lib.hid hst
          have hbb : (((u1.toNat : Nat) : Int) != ((u1.toNat : Nat) : Int)) = false := by simp
          have hk2 : (k : Int) + 1 ≤ 9223372036854775807 := by omega
          clear hst htk hu1 hu2
          go_wp2_with fail
          go_quiet (fail)
          go_wp2
          refine ⟨⟨k + 1, q + nq, rfl, by omega, HS.out, ?_⟩, ?_⟩
          · first | rfl | (simp [World.drewN]; omega)
          · show n1 - ((k : Int) + 1).toNat < n1 - (k : Int).toNat
            omega
        · have hd : decide (l1 = l2) = false := decide_eq_false (fun e => hu (by rw [e, hu2] at hu1; exact (Option.some.inj hu1).symm))
          have HD := Lib.hid hd
          have hbb : (((u1.toNat : Nat) : Int) != ((u2.toNat : Nat) : Int)) = true := by
            simp only [bne_iff_ne, ne_eq, Int.ofNat_inj]
            exact fun e => hu (UInt8.toNat_inj.1 e)
          clear hd htk hu1 hu2
          go_wp2_with fail
          go_quiet (fail)
          go_wp2
          go_ret
          exact ⟨by rw [HD.out]; rfl, q + nq, by first | rfl | (simp [World.drewN]; omega)⟩
      · obtain rfl : k = n1 := by omega
        have hd : decide (l1 = l2) = true := by
          rw [List.take_of_length_le (by omega), List.take_of_length_le (by omega)] at htk
          exact decide_eq_true htk
        have HD := Lib.hid hd
        clear hd htk
        go_wp2
        go_ret
        exact ⟨by rw [HD.out]; rfl, _, rfl⟩
  · have hd : decide (l1 = l2) = false := decide_eq_false (fun e => hne (by rw [← e1, ← e2, e]))
    have hnn : ¬ (n1 : Int) = n2 := by omega
    rw [hd]
    clear h1 h2
    go_enter Tryz.func15, Tryz.ntmps15
    go_wp2
    go_ret
    exact ⟨rfl, 0, rfl⟩
end Go.Proofs.YtdedkoahfailcaaGreatDoor
