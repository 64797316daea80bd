/- The thin package puts maps, by whatever protocol. -/
import Derived.Deep.DeepCutAuto
import Derived.Deep.CutBlock
import Derived.Test.YtdifknecndlklaaGreatDoorZPutC
set_option linter.all false
namespace Go.Proofs.YtdifknecndlklaaGreatDoor
open Go Go.RowKit
set_option maxHeartbeats 2000000
set_option maxRecDepth 100000

section
variable {S : Type} (P : WProto S) (hP : P.Ok)
include hP
theorem I_put13 (w0 w : World) (s : S) (T N K E : Int) (vS vI : Value) (la : Option Addr) (n lc m : Nat) (us : Nat → Array Value) (L : List VT) (hL : L.length = n) (hm : m = n / 2) (hT : T % 256 = 13) (hnm : n ≤ 1000000) (hlc : n ≤ lc) (hlm : lc ≤ maxLen)
    (hcell : 0 < n → ∃ g o, la = some ⟨g, o, none⟩ ∧ ∀ j, j < n → ∀ i u, (us j)[i]? = some u → w0.cell? ⟨g, o + j * 7 + i, none⟩ = some u)
    (hE : ∀ (j : Nat) x, L[j]? = some x → ValR w0 x (.agg (us j))) (hput : ∀ (j : Nat) x, L[j]? = some x → PutOK P x) (hF : Fr noF (P.F w) w0 w) (h : P.I w s)
    (hg : P.goods s (.mapBegin (K % 256) (E % 256) m :: (allW L (m * 2) ++ [.mapEnd]))) :
    Calls Tryz.prog 49 #[.iface P.T P.recv, .agg (valA T N vS K E vI (.slice la n lc))] w (WR P w (P.steps s (.mapBegin (K % 256) (E % 256) m :: (allW L (m * 2) ++ [.mapEnd])))) := by
  obtain ⟨hg1, hg2⟩ := hg
  rw [WProto.goods_append] at hg2
  obtain ⟨hg2, hg3, -⟩ := hg2
  have hmn : m * 2 ≤ n := by omega
  have hb : ∀ X, At P w (valA T N vS K E vI (.slice la n lc)) s X → Calls Tryz.prog (P.fn "WriteMapBegin") #[P.recv, .iface 221 (.agg #[]), .int .u8 (K % 256), .int .u8 (E % 256), .int .i64 m] X (fun e Y => e = .returned .nilIface ∧ At P w (valA T N vS K E vI (.slice la n lc)) (P.step s (.mapBegin (K % 256) (E % 256) m)) Y) := fun X hX =>
    hX.call P hP (.mapBegin (K % 256) (E % 256) m) hg1 trivial
  have ha : ∀ X, At P w (valA T N vS K E vI (.slice la n lc)) (P.step s (.mapBegin (K % 256) (E % 256) m)) X → Calls Tryz.prog 71 #[.iface P.T P.recv, .slice la (m * 2) lc] X (fun e Y => e = .returned .nilIface ∧ At P w (valA T N vS K E vI (.slice la n lc)) (P.steps (P.step s (.mapBegin (K % 256) (E % 256) m)) (allW L (m * 2))) Y) := fun X hX =>
    (I_putAll P hP w0 X _ L us la (m * 2) lc (by omega) (by omega) (fun h0 => by
      obtain ⟨g, o, h1, h2⟩ := hcell (by omega)
      exact ⟨g, o, h1, fun j hj => h2 j (by omega)⟩) hE (fun j x _ hx => hput j x hx) (hF.trans hX.fr) hX.I hg2).mono fun _ _ hw => ⟨hw.1, hX.next P hw⟩
  have he : ∀ X, At P w (valA T N vS K E vI (.slice la n lc)) (P.steps (P.step s (.mapBegin (K % 256) (E % 256) m)) (allW L (m * 2))) X → Calls Tryz.prog (P.fn "WriteMapEnd") #[P.recv, .iface 221 (.agg #[])] X (fun e Y => e = .returned .nilIface ∧ WR P w (P.steps s (.mapBegin (K % 256) (E % 256) m :: (allW L (m * 2) ++ [.mapEnd]))) e Y) := fun X hX =>
    (hX.call P hP .mapEnd hg3 trivial).mono fun e Y ⟨h1, h2⟩ => by
      subst h1
      refine ⟨rfl, ?_⟩
      have : P.steps s (.mapBegin (K % 256) (E % 256) m :: (allW L (m * 2) ++ [.mapEnd])) = P.step (P.steps (P.step s (.mapBegin (K % 256) (E % 256) m)) (allW L (m * 2))) .mapEnd := by
        show P.steps (P.step s (.mapBegin (K % 256) (E % 256) m)) (allW L (m * 2) ++ [.mapEnd]) = _
        rw [WProto.steps_append]
        rfl
      rw [this]
      exact h2.done P
  have h0 := At.start P hP h (valA T N vS K E vI (.slice la n lc))
  have hq : ∀ (s' : S) (X : World), At P w (valA T N vS K E vI (.slice la n lc)) s' X → X.cell? ⟨w.heap.size, 3, none⟩ = some (.int .i64 K) ∧ X.cell? ⟨w.heap.size, 4, none⟩ = some (.int .i64 E) ∧ X.cell? ⟨w.heap.size, 6, none⟩ = some (.slice la n lc) := fun _ _ hX => ⟨by rw [cell_at hX.box]; rfl, by rw [cell_at hX.box]; rfl, by rw [cell_at hX.box]; rfl⟩
  have hdr : ∀ (s' : S) (X : World), At P w (valA T N vS K E vI (.slice la n lc)) s' X → At P w (valA T N vS K E vI (.slice la n lc)) s' X.drew := fun _ _ hX => hX.quiet P hP ((Fr.refl noF _).drew)
  have hm1 : ∀ w, (method 498 P.T P.recv "WriteMapBegin").run Tryz.prog w = .ok (P.fn "WriteMapBegin", P.recv) w := hP.meth (.mapBegin 0 0 0)
  have ha1 : ∀ w, (nilAhead 498 P.T P.recv "WriteMapBegin").run Tryz.prog w = .ok (some false) w := hP.ahead (.mapBegin 0 0 0)
  have he1 : ∀ xs w, (callFunc (P.fn "WriteMapBegin") xs).run Tryz.prog w = .ok (.enter (P.fn "WriteMapBegin") xs) w := hP.enter (.mapBegin 0 0 0)
  have hm2 : ∀ w, (method 498 P.T P.recv "WriteMapEnd").run Tryz.prog w = .ok (P.fn "WriteMapEnd", P.recv) w := hP.meth .mapEnd
  have ha2 : ∀ w, (nilAhead 498 P.T P.recv "WriteMapEnd").run Tryz.prog w = .ok (some false) w := hP.ahead .mapEnd
  have he2 : ∀ xs w, (callFunc (P.fn "WriteMapEnd") xs).run Tryz.prog w = .ok (.enter (P.fn "WriteMapEnd") xs) w := hP.enter .mapEnd
  obtain ⟨f1, hf1⟩ : ∃ f, f = P.fn "WriteMapBegin" := ⟨_, rfl⟩
  obtain ⟨f2, hf2⟩ : ∃ f, f = P.fn "WriteMapEnd" := ⟨_, rfl⟩
  obtain ⟨PT, hPT⟩ : ∃ f, f = P.T := ⟨_, rfl⟩
  obtain ⟨r, hr⟩ : ∃ f, f = P.recv := ⟨_, rfl⟩
  rw [← hf1, ← hr] at hb
  rw [← hf2, ← hr] at he
  rw [← hf1] at he1
  rw [← hf2] at he2
  rw [← hf1, ← hr, ← hPT] at hm1
  rw [← hf2, ← hr, ← hPT] at hm2
  rw [← hr, ← hPT] at ha1 ha2 ha
  rw [← hPT, ← hr]
  have HQ := Lib.hid hq
  have HD := Lib.hid hdr
  have HC := Lib.hid I_ctx
  have HT := Lib.hid (typ_is hT)
  have HTE := Lib.hid (typ_is (T := E) rfl)
  have HTK := Lib.hid (typ_is (T := K) rfl)
  have q0 := hq _ _ (hdr _ _ h0)
  have e1 : ((n : Nat) : Int) / 2 = (m : Int) := by omega
  have e2 : ((n : Nat) : Int).tdiv 2 = (m : Int) := by rw [Int.tdiv_eq_ediv_of_nonneg (by omega)]; exact e1
  obtain ⟨d, hd⟩ : ∃ d, d = m * 2 := ⟨_, rfl⟩
  rw [← hd] at ha he
  have hpost : P.steps s (.mapBegin (K % 256) (E % 256) m :: (allW L (m * 2) ++ [.mapEnd])) = P.steps s (.mapBegin (K % 256) (E % 256) m :: (allW L d ++ [.mapEnd])) := by rw [hd]
  rw [hpost]
  have e3 : (m : Int) * 2 = (d : Int) := by omega
  have e4 : (d : Int) ≤ 1000000 := by omega
  have e5 : (0 : Int) ≤ (d : Int) := by omega
  have b1 : (m : Int) ≤ 1000000 := by omega
  have b2 : (0 : Int) ≤ (m : Int) := by omega
  have b3 : (d : Int) ≤ (lc : Int) := by omega
  have HB := Lib.hid hb
  have HA := Lib.hid ha
  have HE := Lib.hid he
  have H0 := Lib.hid h0
  have e0 : IntKind.i64.wrap (m : Int) = (m : Int) := by rw [IntKind.wrap_i64]; omega
  have HM := Lib.hid hm
  clear hd hpost hb ha he h0 hdr hf1 hf2 hPT hr hP hg1 hg2 hg3 h hF hput hE hcell hT hL hq hm hlm hmn hnm hlc
  go_enter Tryz.func49, Tryz.ntmps49
  go_upto_region 21 with (first | (go_at_call 57; (with_reducible refine (HT.out _).mono ?_); rintro e w' ⟨rfl, rfl⟩) | fail)
  go_cut [5] (fun s5 wx => s5 = .nilIface ∧ At P w (valA T N vS K E vI (.slice la n lc)) (P.step s (.mapBegin (K % 256) (E % 256) m)) wx)
  case first =>
    go_region_held3 (fun w' => w'.cell? ⟨w.heap.size, 3, none⟩ = some (.int .i64 K) ∧ w'.cell? ⟨w.heap.size, 4, none⟩ = some (.int .i64 E) ∧ w'.cell? ⟨w.heap.size, 6, none⟩ = some (.slice la n lc)) (first | exact q0 | exact q1) (first | (go_at_call 38; (with_reducible refine (HC.out _).mono ?_); rintro e w1 ⟨rfl, rfl⟩) | (go_at_call 57; (with_reducible first | refine (HTE.out _).mono ?_ | refine (HTK.out _).mono ?_); rintro e w1 ⟨rfl, rfl⟩) | ((with_reducible refine (HB.out _ (HD.out _ _ H0.out)).mono ?_); rintro e Y ⟨rfl, hY⟩; have q1 := HQ.out _ _ hY; have HY := Lib.hid hY; clear hY) | fail)
    all_goals (go_wp2_with fail; go_meet; exact ⟨rfl, HY.out⟩)
  case rest =>
    obtain ⟨rfl, hY⟩ := hcut
    have q1 := HQ.out _ _ hY
    have HY := Lib.hid hY
    clear hY q0
    go_wp2_with fail
    (with_reducible refine (HA.out _ HY.out).mono ?_)
    rintro e Z ⟨rfl, hZ⟩
    have HZ := Lib.hid hZ
    clear hZ q1
    go_wp2_with fail
    go_region_held3 (fun _ => True) (exact True.intro) (first | (go_at_call 38; (with_reducible refine (HC.out _).mono ?_); rintro e w1 ⟨rfl, rfl⟩) | ((with_reducible refine (HE.out _ (HD.out _ _ HZ.out)).mono ?_); rintro e V ⟨rfl, hV⟩; have HV := Lib.hid hV; clear hV) | fail)
    all_goals go_wp2
    all_goals go_ret
    all_goals exact HV.out
end
end Go.Proofs.YtdifknecndlklaaGreatDoor
