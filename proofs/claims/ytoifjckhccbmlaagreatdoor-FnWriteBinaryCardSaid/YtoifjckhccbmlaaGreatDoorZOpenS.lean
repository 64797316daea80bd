/- Arguments opened: steps. -/
import Derived.Test.YtoifjckhccbmlaaGreatDoorZOpenV
import Derived.Test.YtoifjckhccbmlaaGreatDoorZ6
set_option linter.all false
namespace Go.Proofs.YtoifjckhccbmlaaGreatDoor
set_option maxRecDepth 100000
set_option linter.all false
open Go.ChangeShapes Go.WideShapes Go.ChangeAt Go.RowKit

instance : Inhabited Stp := ⟨⟨0, 0, 0, 0, 0, 0, .slice none 0 0, []⟩⟩
section
variable {H : Type} {enc : TypeId × Value → H} {W : World} {sp : Nat → Bool} {v : Value} {d : DataW H} {p : List MemPlace} {r : Reach} {b0 : Nat}

theorem trod_step {fuel : Nat} {cs : List Value} {x : DataW H × List MemPlace} (hf : DataW.trod enc Tryz.prog W 0 sp true fuel 54 cs = some x) : ∃ X : Stp, cs = X.cells.toList ∧ Rd W X.v X.s := by
  obtain ⟨xs, n, hn, _, hcl, hxl, hx⟩ := DataW.trod_struct Tryz.underlying54 hf
  have k1 : Tryz.prog.cellsOf 3 = 1 := by kernel_rfl
  have k2 : Tryz.prog.cellsOf 2 = 1 := by kernel_rfl
  have k3 : Tryz.prog.cellsOf 23 = 1 := by kernel_rfl
  have k7 : Tryz.prog.cellsOf 54 = 7 := by kernel_rfl
  have hl : xs.length = 7 := hxl
  rw [k7] at hcl
  obtain ⟨a, b, c, d', e, f, g, ha⟩ := array7 (cs := cs.toArray) (by simpa using hcl)
  obtain rfl : cs = [a, b, c, d', e, f, g] := by
    have := congrArg Array.toList ha
    simpa using this
  have g0 := (hx 0 _ rfl).trans (List.getElem?_eq_getElem (by omega))
  have g1 := (hx 1 _ rfl).trans (List.getElem?_eq_getElem (by omega))
  have g2 := (hx 2 _ rfl).trans (List.getElem?_eq_getElem (by omega))
  have g3 := (hx 3 _ rfl).trans (List.getElem?_eq_getElem (by omega))
  have g4 := (hx 4 _ rfl).trans (List.getElem?_eq_getElem (by omega))
  have g5 := (hx 5 _ rfl).trans (List.getElem?_eq_getElem (by omega))
  have g6 := (hx 6 _ rfl).trans (List.getElem?_eq_getElem (by omega))
  simp only [List.getElem_toArray, List.getElem_cons_zero, List.getElem_cons_succ, k1, k2, k3, List.drop_zero, List.drop_succ_cons, List.take_succ_cons, List.take_zero] at g0 g1 g2 g3 g4 g5 g6
  obtain ⟨n0, h0, _, w0⟩ := DataW.trod_int Tryz.underlying3 g0
  obtain ⟨n1, h1, _, w1⟩ := DataW.trod_int Tryz.underlying3 g1
  obtain ⟨n2, h2, _, w2⟩ := DataW.trod_int Tryz.underlying3 g2
  obtain ⟨n3, h3, _, w3⟩ := DataW.trod_int Tryz.underlying3 g3
  obtain ⟨n4, h4, _, w4⟩ := DataW.trod_int Tryz.underlying3 g4
  obtain ⟨n5, h5, _, w5⟩ := DataW.trod_int Tryz.underlying2 g5
  obtain ⟨v6, l6, h6, r6⟩ := trod_bytes g6
  simp only [List.cons.injEq, and_true] at h0 h1 h2 h3 h4 h5 h6
  subst h0 h1 h2 h3 h4 h5 h6
  exact ⟨⟨n0, n1, n2, n3, n4, n5, g, l6⟩, rfl, r6⟩

theorem open_steps (hv : Value.okWide Tryz.prog W r b0 50 v) (h : DataW.Trod enc Tryz.prog W 0 sp true 50 v d p) : ∃ xs, RdS W noF v xs := by
  obtain ⟨a, n, c, rfl⟩ := okWide_slice Tryz.underlying50 hv
  obtain ⟨fuel, hf⟩ := h
  have k7 : Tryz.prog.cellsOf 54 = 7 := by kernel_rfl
  rcases DataW.trod_slice Tryz.underlying50 hf with ⟨hc, _⟩ | ⟨ad, len, cap, elems, rest, m, hm, hc, _, hb, hlc, hmx, hlen, hel, _⟩
  · simp [Value.cells] at hc
    obtain ⟨rfl, rfl, rfl⟩ := hc
    exact ⟨[], Or.inl ⟨_, _, rfl, rfl⟩⟩
  · simp [Value.cells] at hc
    obtain ⟨rfl, rfl, rfl⟩ := hc
    rw [k7] at hel
    have each : ∀ i, i < n → ∃ y : Stp, Rd W y.v y.s ∧ ∀ q, q < 7 → W.cell? ((ad.add (i * 7)).add q) = y.cells[q]? := fun i hi => by
      have h1 := (hel i hi).trans (List.getElem?_eq_getElem (by omega))
      obtain ⟨cs', hc1, hc2⟩ := Option.bind_eq_some_iff.1 h1
      obtain ⟨X, rfl, hr⟩ := trod_step hc2
      obtain ⟨_, hcl', hcc⟩ := World.cells?_some hc1
      exact ⟨X, hr, fun q hq => by rw [hcc q hq]; simp⟩
    obtain ⟨F, hF⟩ := Go.Deep.choose_lt each
    refine ⟨(List.range n).map F, ?_⟩
    rcases Nat.eq_zero_or_pos n with h0 | hp
    · subst h0
      exact Or.inl ⟨_, _, rfl, rfl⟩
    · have h00 := (hF 0 hp).2 0 (by decide)
      rw [Nat.zero_mul] at h00
      have had := spot_none (h00.trans (show (F 0).cells[0]? = some (.int .i64 (F 0).op) from rfl))
      have e0 : (ad.add 0).add 0 = ad := by simp [Addr.add]
      rw [e0] at had
      refine Or.inr ⟨ad.block, ad.off, c, by rw [← had]; simp, by simpa using hlc, hmx, fun h => h, fun j x hj => ?_⟩
      rw [List.getElem?_map] at hj
      have hlt : j < n := by
        rcases Nat.lt_or_ge j n with h | h
        · exact h
        · rw [List.getElem?_eq_none (by simpa using h)] at hj; cases hj
      rw [List.getElem?_range hlt] at hj
      simp only [Option.map_some, Option.some.injEq] at hj
      subst hj
      obtain ⟨hr, hcc⟩ := hF j hlt
      refine ⟨fun i u hi => ?_, hr, fun _ _ h => h, ?_⟩
      · have hq : i < 7 := (Array.getElem?_eq_some_iff.1 hi).1
        have := hcc i hq
        rw [had, Lib.addr_add, Lib.addr_add] at this
        exact this.trans hi
      · rcases hr with ⟨_, e⟩ | ⟨a', n', c', _, hl', hc', hm', _⟩
        · rw [e]; exact Nat.zero_le _
        · omega
end
end Go.Proofs.YtoifjckhccbmlaaGreatDoor
