/- Arguments opened: values. -/
import Derived.Deep.Slices
import Derived.Test.YtkfkieebcahiiaaGreatDoorZ4
import Derived.Test.YtkfkieebcahiiaaGreatDoorZVal
import Derived.Test.YtkfkieebcahiiaaGreatDoorZPutA
set_option linter.all false
namespace Go.Proofs.YtkfkieebcahiiaaGreatDoor
set_option maxRecDepth 100000
set_option linter.all false
open Go.ChangeShapes Go.WideShapes Go.ChangeAt Go.RowKit

instance : Inhabited VT := ⟨.mk 0 0 [] 0 0 [] []⟩
theorem spot_none {w : World} {a : Addr} {v : Value} (h : w.cell? a = some v) : a = ⟨a.block, a.off, none⟩ := by
  unfold World.cell? at h
  obtain ⟨b, o, s⟩ := a
  cases s with
  | none => rfl
  | some s => split at h <;> simp at h

section
variable {H : Type} {enc : TypeId × Value → H} {W : World} {sp : Nat → Bool} {v : Value} {d : DataW H} {p : List MemPlace} {r : Reach} {b0 : Nat}

theorem trod_bytes {fuel : Nat} {cs : List Value} {x : DataW H × List MemPlace} (hf : DataW.trod enc Tryz.prog W 0 sp true fuel 24 cs = some x) : ∃ v l, cs = [v] ∧ Rd W v l := by
  rcases open_ints Tryz.underlying24 Tryz.underlying5 (by kernel_rfl) hf with ⟨hc, _⟩ | ⟨a', n, cap, zs, hc, _, hle, hmax, hlen, _, hcell, hwf⟩
  · exact ⟨_, [], hc, Or.inl ⟨rfl, rfl⟩⟩
  · have hll : n ≤ zs.length := by rw [hlen]; split <;> omega
    refine ⟨_, (zs.take n).map fun z => UInt8.ofNat z.toNat, hc, Or.inr ⟨_, _, _, rfl, ?_, hle, hmax, ?_⟩⟩
    · simp; omega
    · intro j u hj
      simp only [List.getElem?_map, Option.map_eq_some_iff] at hj
      obtain ⟨z, hz, rfl⟩ := hj
      have hzj : zs[j]? = some z := by
        rw [List.getElem?_take] at hz
        split at hz
        · exact hz
        · cases hz
      have hjl : j < zs.length := (List.getElem?_eq_some_iff.1 hzj).1
      have hb := bounds_u8 (hwf z (List.mem_of_getElem? hzj))
      rw [hcell j hjl]
      have e1 : zs.getD j 0 = z := by simp [List.getD, hzj]
      rw [e1, UInt8.toNat_ofNat']
      congr 2
      omega
theorem trod_nums {fuel : Nat} {cs : List Value} {x : DataW H × List MemPlace} (hf : DataW.trod enc Tryz.prog W 0 sp true fuel 25 cs = some x) : ∃ v l, cs = [v] ∧ RdN W v l := by
  rcases open_ints Tryz.underlying25 Tryz.underlying3 (by kernel_rfl) hf with ⟨hc, _⟩ | ⟨a', n, cap, zs, hc, _, hle, hmax, hlen, _, hcell, hwf⟩
  · exact ⟨_, [], hc, Or.inl ⟨rfl, rfl⟩⟩
  · have hll : n ≤ zs.length := by rw [hlen]; split <;> omega
    refine ⟨_, zs.take n, hc, Or.inr ⟨_, _, _, rfl, by simp; omega, hle, hmax, ?_⟩⟩
    intro j u hj
    have hzj : zs[j]? = some u := by
      rw [List.getElem?_take] at hj
      split at hj
      · exact hj
      · cases hj
    have hjl : j < zs.length := (List.getElem?_eq_some_iff.1 hzj).1
    rw [hcell j hjl]
    have e1 : zs.getD j 0 = u := by simp [List.getD, hzj]
    rw [e1]

theorem trod_val : ∀ (fuel : Nat) (cs : List Value) (x : DataW H × List MemPlace), DataW.trod enc Tryz.prog W 0 sp true fuel 28 cs = some x → ∃ X a, cs = a.toList ∧ ValR W X (.agg a) ∧ X.rng := by
  intro fuel
  induction fuel using Nat.strongRecOn with
  | ind fuel ih =>
  intro cs x hf
  obtain ⟨xs, n, hn, _, hcl, hxl, hx⟩ := DataW.trod_struct Tryz.underlying28 hf
  have k1 : Tryz.prog.cellsOf 3 = 1 := by kernel_rfl
  have k2 : Tryz.prog.cellsOf 2 = 1 := by kernel_rfl
  have k3 : Tryz.prog.cellsOf 24 = 1 := by kernel_rfl
  have k4 : Tryz.prog.cellsOf 25 = 1 := by kernel_rfl
  have k5 : Tryz.prog.cellsOf 26 = 1 := by kernel_rfl
  have k7 : Tryz.prog.cellsOf 28 = 7 := by kernel_rfl
  have hl : xs.length = 7 := hxl
  rw [k7] at hcl
  obtain ⟨a, b, c, d', e, f, g, ha⟩ := array7 (cs := cs.toArray) (by simpa using hcl)
  obtain rfl : cs = [a, b, c, d', e, f, g] := by
    have := congrArg Array.toList ha
    simpa using this
  have g0 := (hx 0 _ rfl).trans (List.getElem?_eq_getElem (by omega))
  have g1 := (hx 1 _ rfl).trans (List.getElem?_eq_getElem (by omega))
  have g2 := (hx 2 _ rfl).trans (List.getElem?_eq_getElem (by omega))
  have g3 := (hx 3 _ rfl).trans (List.getElem?_eq_getElem (by omega))
  have g4 := (hx 4 _ rfl).trans (List.getElem?_eq_getElem (by omega))
  have g5 := (hx 5 _ rfl).trans (List.getElem?_eq_getElem (by omega))
  have g6 := (hx 6 _ rfl).trans (List.getElem?_eq_getElem (by omega))
  simp only [List.getElem_toArray, List.getElem_cons_zero, List.getElem_cons_succ, k1, k2, k3, k4, k5, List.drop_zero, List.drop_succ_cons, List.take_succ_cons, List.take_zero] at g0 g1 g2 g3 g4 g5 g6
  obtain ⟨n0, h0, _, w0⟩ := DataW.trod_int Tryz.underlying3 g0
  obtain ⟨n1, h1, _, w1⟩ := DataW.trod_int Tryz.underlying2 g1
  obtain ⟨v2, l2, h2, r2⟩ := trod_bytes g2
  obtain ⟨n3, h3, _, w3⟩ := DataW.trod_int Tryz.underlying3 g3
  obtain ⟨n4, h4, _, w4⟩ := DataW.trod_int Tryz.underlying3 g4
  obtain ⟨v5, l5, h5, r5⟩ := trod_nums g5
  simp only [List.cons.injEq, and_true] at h0 h1 h2 h3 h4 h5
  subst h0 h1 h2 h3 h4 h5
  have hL : ∃ (L : List VT) (us : Nat → Array Value), RdV W g L.length us ∧ ∀ (j : Nat) x, L[j]? = some x → ValR W x (.agg (us j)) ∧ x.rng := by
    rcases DataW.trod_slice Tryz.underlying26 g6 with ⟨hc, _⟩ | ⟨ad, len, cap, elems, rest, m, hm, hc, _, hb, hlc, hmx, hlen, hel, _⟩
    · simp only [List.cons.injEq, and_true] at hc
      subst hc
      exact ⟨[], fun _ => #[], ⟨none, 0, rfl, Nat.le_refl _, Nat.zero_le _, fun h => absurd h (by decide)⟩, fun j x h => by simp at h⟩
    · simp only [List.cons.injEq, and_true] at hc
      subst hc
      rw [k7] at hel
      have each : ∀ i, i < len → ∃ y : VT × Array Value, y.2.size = 7 ∧ (ValR W y.1 (.agg y.2) ∧ y.1.rng) ∧ ∀ q, q < 7 → W.cell? ((ad.add (i * 7)).add q) = y.2[q]? := fun i hi => by
        have h1 := (hel i hi).trans (List.getElem?_eq_getElem (by omega))
        obtain ⟨cs', hc1, hc2⟩ := Option.bind_eq_some_iff.1 h1
        obtain ⟨X, a, rfl, hv⟩ := ih m (by omega) cs' _ hc2
        obtain ⟨_, hcl', hcc⟩ := World.cells?_some hc1
        exact ⟨(X, a), by simpa using hcl', hv, fun q hq => by rw [hcc q hq]; simp⟩
      obtain ⟨F, hF⟩ := Go.Deep.choose_lt each
      refine ⟨(List.range len).map fun i => (F i).1, fun i => (F i).2, ⟨some ad, cap, by simp, by simpa using hlc, hmx, fun hp => ?_⟩, fun j x hj => ?_⟩
      · have hp : 0 < len := by simpa using hp
        have h00 := (hF 0 hp).2.2 0 (by decide)
        rw [Nat.zero_mul] at h00
        have h7 := (hF 0 hp).1
        have hsome : (F 0).2[0]? = some (F 0).2[0] := Array.getElem?_eq_getElem (by omega)
        have had := spot_none (h00.trans hsome)
        have e0 : (ad.add 0).add 0 = ad := by simp [Addr.add]
        rw [e0] at had
        refine ⟨ad.block, ad.off, by rw [← had], fun j hj i u hu => ?_⟩
        have hj : j < len := by simpa using hj
        have hq : i < 7 := by
          have := (Array.getElem?_eq_some_iff.1 hu).1
          have h7 := (hF j hj).1
          have hu' : i < (F j).2.size := this
          omega
        have := (hF j hj).2.2 i hq
        rw [had, Lib.addr_add, Lib.addr_add] at this
        exact this.trans hu
      · rw [List.getElem?_map] at hj
        have hlt : j < len := by
          rcases Nat.lt_or_ge j len with h | h
          · exact h
          · rw [List.getElem?_eq_none (by simpa using h)] at hj; cases hj
        rw [List.getElem?_range hlt] at hj
        simp only [Option.map_some, Option.some.injEq] at hj
        subst hj
        exact (hF j hlt).2.1
  obtain ⟨L, us, hV, hE⟩ := hL
  exact ⟨.mk n0 n1 l2 n3 n4 l5 L, #[.int .i64 n0, .int .i64 n1, c, .int .i64 n3, .int .i64 n4, f, g], rfl, .mk us r2 r5 hV fun j x hj => (hE j x hj).1, .mk (bounds_i64 w1) fun x hx => by obtain ⟨j, hj⟩ := List.getElem?_of_mem hx; exact (hE j x hj).2⟩

theorem open_valr (hv : Value.okWide Tryz.prog W r b0 28 v) (h : DataW.Trod enc Tryz.prog W 0 sp true 28 v d p) : ∃ X, ValR W X v ∧ X.rng := by
  obtain ⟨cs, rfl, hsz⟩ := okWide_struct Tryz.underlying28 hv
  obtain ⟨fuel, hf⟩ := h
  obtain ⟨X, a, ha, hX, hr⟩ := trod_val fuel _ _ hf
  have e : cs = a := by
    apply Array.ext'
    simpa [Value.cells] using ha
  exact ⟨X, e ▸ hX, hr⟩
theorem open_val (hv : Value.okWide Tryz.prog W r b0 28 v) (h : DataW.Trod enc Tryz.prog W 0 sp true 28 v d p) : ∃ X, ValR W X v := by
  obtain ⟨X, h1, _⟩ := open_valr hv h
  exact ⟨X, h1⟩
end
end Go.Proofs.YtkfkieebcahiiaaGreatDoor
