/- The thin package puts values: one behind the other, a struct, whatever value, by whatever protocol. -/
import Derived.Test.YtdifknecndlklaaGreatDoorZPv
set_option linter.all false
namespace Go.Proofs.YtdifknecndlklaaGreatDoor
open Go Go.RowKit
set_option maxHeartbeats 2000000
set_option maxRecDepth 100000

abbrev TVal : TypeId := 46
theorem ValR.sl {w : World} {x : VT} {v : Value} (h : ValR w x v) : ∃ sa sn sc ia il ic la ll lc, v = .agg (valA x.T x.N (.slice sa sn sc) x.K x.E (.slice ia il ic) (.slice la ll lc)) := by
  obtain ⟨T, N, S, K, E, ids, L⟩ := x
  obtain ⟨vS, vI, vL, us, rfl, h1, h2, ⟨a, c, rfl, _⟩, _⟩ := h.inv
  obtain ⟨sa, sn, sc, rfl, _⟩ := h1.len
  obtain ⟨ia, il, ic, rfl, _⟩ := h2.len
  exact ⟨_, _, _, _, _, _, _, _, _, rfl⟩

section
variable {S : Type} (P : WProto S) (hP : P.Ok)

/-- The contract of putting a value. -/
def PutOK (x : VT) : Prop := ∀ (w0 : World) (v : Value) (w : World) (s : S), ValR w0 x v → Fr noF (P.F w) w0 w → P.I w s → P.goods s x.wops → Calls Tryz.prog 49 #[.iface P.T P.recv, v] w (WR P w (P.steps s x.wops))

include hP
theorem under {w0 w X : World} {s : S} (h : P.I w s) (hF : Fr noF (P.F w) w0 w) (hf : Fr noF noF w X) : P.I X s ∧ Fr (P.F w) (P.F X) w X ∧ Fr noF (P.F X) w0 X := by
  obtain ⟨h1, _, h3⟩ := hP.quiet h hf
  exact ⟨h1, h3, hF.trans h3⟩

theorem I_putAll (w0 w : World) (s : S) (L : List VT) (us : Nat → Array Value) (a : Option Addr) (n c : Nat) (hn : n ≤ L.length) (hnm : n ≤ 100000000)
    (hcell : 0 < n → ∃ g o, a = some ⟨g, o, none⟩ ∧ ∀ j, j < n → ∀ i u, (us j)[i]? = some u → w0.cell? ⟨g, o + j * 7 + i, none⟩ = some u)
    (hE : ∀ (j : Nat) x, L[j]? = some x → ValR w0 x (.agg (us j))) (hput : ∀ (j : Nat) x, j < n → L[j]? = some x → PutOK P x) (hF : Fr noF (P.F w) w0 w) (h : P.I w s) (hg : P.goods s (allW L n)) :
    Calls Tryz.prog 71 #[.iface P.T P.recv, .slice a n c] w (WR P w (P.steps s (allW L n))) := by
  have hstep : ∀ (k : Nat) x s' wr, k < n → L[k]? = some x → P.I wr s' → Fr (P.F w) (P.F wr) w wr → P.goods s' x.wops →
      Calls Tryz.prog 49 #[.iface P.T P.recv, .agg (us k)] (wr.alloc (.cells (us k) TVal (0, 0))) (fun e w3 => e = .returned .nilIface ∧ P.I w3 (P.steps s' x.wops) ∧ Fr (P.F w) (P.F w3) w w3) := by
    intro k x s' wr hk hx hI hW hgd
    obtain ⟨q1, q2, q3⟩ := under P hP hI (hF.trans hW) ((Fr.refl noF wr).alloc (.cells (us k) TVal (0, 0)))
    refine (hput k x hk hx w0 _ _ s' (hE k x hx) q3 q1 hgd).mono ?_
    rintro e w3 ⟨rfl, hI3, hF3⟩
    exact ⟨rfl, hI3, hW.trans (q2.trans hF3)⟩
  have hd : ∀ k, k < n → ∃ x, L[k]? = some x := fun k hk => ⟨_, List.getElem?_eq_getElem (by omega)⟩
  have hc2 : ∀ k, k < n → ∃ g o, a = some ⟨g, o, none⟩ ∧ ∀ wr, Fr (P.F w) (P.F wr) w wr → ∀ i u, (us k)[i]? = some u → wr.cell? ⟨g, o + k * 7 + i, none⟩ = some u := fun k hk => by
    obtain ⟨g, o, rfl, hc⟩ := hcell (by omega)
    exact ⟨g, o, rfl, fun wr hW i u hu => (hF.trans hW).cell (hc k hk i u hu) fun x => x⟩
  have hgd0 : P.goods s (allW (L.drop 0) (n - 0)) := by simpa using hg
  have hfin0 : P.steps s (allW (L.drop 0) (n - 0)) = P.steps s (allW L n) := by simp
  have hsl : ∀ (k : Nat) x, L[k]? = some x → ∃ sa sn sc ia il ic la ll lc, us k = valA x.T x.N (.slice sa sn sc) x.K x.E (.slice ia il ic) (.slice la ll lc) := fun k x hx => by
    obtain ⟨sa, sn, sc, ia, il, ic, la, ll, lc, he⟩ := (hE k x hx).sl
    injection he with he
    exact ⟨sa, sn, sc, ia, il, ic, la, ll, lc, he⟩
  have HS := Lib.hid hstep
  have HD := Lib.hid hd
  have HC := Lib.hid hc2
  have H0 := Lib.hid (And.intro h (And.intro hgd0 hfin0))
  have HL := Lib.hid hsl
  have HN := Lib.hid hn
  obtain ⟨PT, hPT⟩ : ∃ f, f = P.T := ⟨_, rfl⟩
  obtain ⟨r, hr⟩ : ∃ f, f = P.recv := ⟨_, rfl⟩
  rw [← hPT, ← hr] at HS
  rw [← hPT, ← hr]
  clear hstep hd hc2 hgd0 hfin0 hsl hPT hr h hg hF hput hE hcell hn hP
  go_enter Tryz.func71, Tryz.ntmps71
  go_wp2_with fail
  go_loopw [10] (fun i wr => ∃ (k : Nat) (s' : S), i = .int .i64 k ∧ k ≤ n ∧ P.I wr s' ∧ Fr (P.F w) (P.F wr) w wr ∧ P.goods s' (allW (L.drop k) (n - k)) ∧ P.steps s' (allW (L.drop k) (n - k)) = P.steps s (allW L n)) (fun i _ => n - (intOf i).toNat)
  case atStart => exact ⟨0, s, rfl, by omega, H0.out.1, Fr.refl _ _, H0.out.2.1, H0.out.2.2⟩
  case round =>
    obtain ⟨k, s', rfl, hk, hI, hW, hgd, hfin⟩ := hrel
    rcases Nat.lt_or_ge k n with hlt | hge
    · obtain ⟨x, hx⟩ := HD.out k hlt
      obtain ⟨g, o, rfl, hc⟩ := HC.out k hlt
      have hcw := hc wr hW
      obtain ⟨sa, sn, sc, ia, il, ic, la, ll, lc, hus⟩ := HL.out k x hx
      rw [hus] at hcw
      have d0 : wr.cell? ⟨g, o + k * 7, none⟩ = some (.int .i64 x.T) := hcw 0 _ rfl
      have d1 : wr.cell? ⟨g, o + k * 7 + 1, none⟩ = some (.int .i64 x.N) := hcw 1 _ rfl
      have d2 : wr.cell? ⟨g, o + k * 7 + 2, none⟩ = some (.slice sa sn sc) := hcw 2 _ rfl
      have d3 : wr.cell? ⟨g, o + k * 7 + 3, none⟩ = some (.int .i64 x.K) := hcw 3 _ rfl
      have d4 : wr.cell? ⟨g, o + k * 7 + 4, none⟩ = some (.int .i64 x.E) := hcw 4 _ rfl
      have d5 : wr.cell? ⟨g, o + k * 7 + 5, none⟩ = some (.slice ia il ic) := hcw 5 _ rfl
      have d6 : wr.cell? ⟨g, o + k * 7 + 6, none⟩ = some (.slice la ll lc) := hcw 6 _ rfl
      have hdrop := allW_drop hx hlt
      rw [hdrop] at hgd hfin
      rw [WProto.goods_append] at hgd
      rw [WProto.steps_append] at hfin
      have hcall := HS.out k x s' wr hlt hx hI hW hgd.1
      rw [hus] at hcall
      have HV := Lib.hid hcall
      have HG := Lib.hid (And.intro hgd.2 hfin)
      have hk0 : (0 : Int) ≤ (k : Int) := by omega
      have hk1 : (k : Int) < (n : Int) := by omega
      clear hcall hcw hc hus hdrop hgd hfin hI hW hx
      go_wp2_with fail
      refine HV.out.mono ?_
      rintro e w3 ⟨rfl, hI, hF⟩
      have HX := Lib.hid (And.intro hI hF)
      clear hI hF d0 d1 d2 d3 d4 d5 d6
      go_wp2_with fail
      go_roundw
      case rel => exact ⟨k + 1, _, by go_num, by omega, HX.out.1, HX.out.2, HG.out.1, HG.out.2⟩
      case measure => simp [intOf]; omega
    · obtain rfl : k = n := by omega
      rw [allW_end] at hfin
      have HX := Lib.hid (show WR P w (P.steps s (allW L k)) (.returned .nilIface) wr from ⟨rfl, by rw [← hfin]; exact hI, hW⟩)
      clear hI hW hgd hfin
      have hkk : ¬ (k : Int) < (k : Int) := by omega
      go_wp2
      go_ret
      exact HX.out
end
end Go.Proofs.YtdifknecndlklaaGreatDoor
