/- The thin package puts a struct, by whatever protocol. Printed by gen_pt.py. -/
import Derived.Deep.DeepCutAuto
import Derived.Deep.CutBlock
import Derived.Test.YtdifknecndlklaaGreatDoorZPutC
set_option linter.all false
namespace Go.Proofs.YtdifknecndlklaaGreatDoor
open Go Go.RowKit
set_option maxHeartbeats 4000000
set_option maxRecDepth 100000

section
variable {S : Type} (P : WProto S) (hP : P.Ok)

/-- What is left to write of a struct's fields. -/
def restW (L : List VT) (ids : List Int) (k : Nat) : List WOp := fieldsW (L.drop k) (ids.drop k) ++ [.fieldStop, .structEnd]
theorem restW_step {L : List VT} {ids : List Int} {k : Nat} {x : VT} {id : Int} (hx : L[k]? = some x) (hi : ids[k]? = some id) :
    restW L ids k = .fieldBegin (x.T % 256) (IntKind.i16.wrap id) :: (x.wops ++ (.fieldEnd :: restW L ids (k + 1))) := by
  unfold restW
  rw [fieldsW_drop hx hi]
  simp
theorem restW_end {L : List VT} {ids : List Int} {k : Nat} (h : L.length ≤ k ∨ ids.length ≤ k) : restW L ids k = [.fieldStop, .structEnd] := by
  unfold restW
  rw [fieldsW_end h]
  rfl

include hP
theorem I_putStruct (w0 w : World) (s : S) (T N K E : Int) (vS : Value) (ia : Option Addr) (il ic : Nat) (la : Option Addr) (n lc : Nat) (us : Nat → Array Value) (ids : List Int) (L : List VT) (hL : L.length = n) (hnm : n ≤ 1000000) (hil : ids.length = il) (him : il ≤ 1000000)
    (hcell : 0 < n → ∃ g o, la = some ⟨g, o, none⟩ ∧ ∀ j, j < n → ∀ i u, (us j)[i]? = some u → w0.cell? ⟨g, o + j * 7 + i, none⟩ = some u)
    (hids : RdN w0 (.slice ia il ic) ids)
    (hE : ∀ (j : Nat) x, L[j]? = some x → ValR w0 x (.agg (us j))) (hput : ∀ (j : Nat) x, L[j]? = some x → PutOK P x) (hF : Fr noF (P.F w) w0 w) (h : P.I w s)
    (hg : P.goods s (.structBegin :: restW L ids 0)) :
    Calls Tryz.prog 70 #[.iface P.T P.recv, .agg (valA T N vS K E (.slice ia il ic) (.slice la n lc))] w (WR P w (P.steps s (.structBegin :: restW L ids 0))) := by
  obtain ⟨hg1, hg2⟩ := hg
  have hb1 : ∀ s' X, At P w (valA T N vS K E (.slice ia il ic) (.slice la n lc)) s' X → P.good s' .structBegin → Calls Tryz.prog (P.fn "WriteStructBegin") #[P.recv, .iface 221 (.agg #[]), .string ⟨#[]⟩] X (fun e Y => e = .returned .nilIface ∧ At P w (valA T N vS K E (.slice ia il ic) (.slice la n lc)) (P.step s' .structBegin) Y) := fun s' X hX hgd => hX.call P hP .structBegin hgd trivial
  have hb2 : ∀ t i s' X, At P w (valA T N vS K E (.slice ia il ic) (.slice la n lc)) s' X → P.good s' (.fieldBegin t i) → Calls Tryz.prog (P.fn "WriteFieldBegin") #[P.recv, .iface 221 (.agg #[]), .string ⟨#[]⟩, .int .u8 t, .int .i16 i] X (fun e Y => e = .returned .nilIface ∧ At P w (valA T N vS K E (.slice ia il ic) (.slice la n lc)) (P.step s' (.fieldBegin t i)) Y) := fun t i s' X hX hgd => hX.call P hP (.fieldBegin t i) hgd trivial
  have hb3 : ∀ s' X, At P w (valA T N vS K E (.slice ia il ic) (.slice la n lc)) s' X → P.good s' .fieldEnd → Calls Tryz.prog (P.fn "WriteFieldEnd") #[P.recv, .iface 221 (.agg #[])] X (fun e Y => e = .returned .nilIface ∧ At P w (valA T N vS K E (.slice ia il ic) (.slice la n lc)) (P.step s' .fieldEnd) Y) := fun s' X hX hgd => hX.call P hP .fieldEnd hgd trivial
  have hb4 : ∀ s' X, At P w (valA T N vS K E (.slice ia il ic) (.slice la n lc)) s' X → P.good s' .fieldStop → Calls Tryz.prog (P.fn "WriteFieldStop") #[P.recv, .iface 221 (.agg #[])] X (fun e Y => e = .returned .nilIface ∧ At P w (valA T N vS K E (.slice ia il ic) (.slice la n lc)) (P.step s' .fieldStop) Y) := fun s' X hX hgd => hX.call P hP .fieldStop hgd trivial
  have hb5 : ∀ s' X, At P w (valA T N vS K E (.slice ia il ic) (.slice la n lc)) s' X → P.good s' .structEnd → Calls Tryz.prog (P.fn "WriteStructEnd") #[P.recv, .iface 221 (.agg #[])] X (fun e Y => e = .returned .nilIface ∧ At P w (valA T N vS K E (.slice ia il ic) (.slice la n lc)) (P.step s' .structEnd) Y) := fun s' X hX hgd => hX.call P hP .structEnd hgd trivial
  have hp : ∀ (k : Nat) x s' X, L[k]? = some x → At P w (valA T N vS K E (.slice ia il ic) (.slice la n lc)) s' X → P.goods s' x.wops → Calls Tryz.prog 49 #[.iface P.T P.recv, .agg (us k)] X (fun e Y => e = .returned .nilIface ∧ At P w (valA T N vS K E (.slice ia il ic) (.slice la n lc)) (P.steps s' x.wops) Y) := fun k x s' X hx hX hgd =>
    (hput k x hx w0 _ X s' (hE k x hx) (hF.trans hX.fr) hX.I hgd).mono fun _ _ hw => ⟨hw.1, hX.next P hw⟩
  have h0 := At.start P hP h (valA T N vS K E (.slice ia il ic) (.slice la n lc))
  have hq : ∀ (s' : S) (X : World), At P w (valA T N vS K E (.slice ia il ic) (.slice la n lc)) s' X → X.cell? ⟨w.heap.size, 5, none⟩ = some (.slice ia il ic) ∧ X.cell? ⟨w.heap.size, 6, none⟩ = some (.slice la n lc) := fun _ _ hX => ⟨by rw [cell_at hX.box]; rfl, by rw [cell_at hX.box]; rfl⟩
  have hdr : ∀ (s' : S) (X : World), At P w (valA T N vS K E (.slice ia il ic) (.slice la n lc)) s' X → At P w (valA T N vS K E (.slice ia il ic) (.slice la n lc)) s' X.drew := fun _ _ hX => hX.quiet P hP ((Fr.refl noF _).drew)
  have hel : ∀ k, k < n → ∃ g o x sa sn sc ia' il' ic' la' ll' lc', la = some ⟨g, o, none⟩ ∧ L[k]? = some x ∧ us k = valA x.T x.N (.slice sa sn sc) x.K x.E (.slice ia' il' ic') (.slice la' ll' lc') ∧
      ∀ s' X, At P w (valA T N vS K E (.slice ia il ic) (.slice la n lc)) s' X → ∀ i u, (us k)[i]? = some u → X.cell? ⟨g, o + k * 7 + i, none⟩ = some u := fun k hk => by
    obtain ⟨g, o, rfl, hc⟩ := hcell (by omega)
    have hx : L[k]? = some L[k] := List.getElem?_eq_getElem (by omega)
    obtain ⟨sa, sn, sc, ia', il', ic', la', ll', lc', he⟩ := (hE k _ hx).sl
    injection he with he
    exact ⟨g, o, _, sa, sn, sc, ia', il', ic', la', ll', lc', rfl, hx, he, fun s' X hX i u hu => (hF.trans hX.fr).cell (hc k hk i u hu) fun x => x⟩
  have hid : ∀ k, k < il → ∃ a id, ia = some a ∧ ids[k]? = some id ∧ ∀ s' X, At P w (valA T N vS K E (.slice ia il ic) (.slice la n lc)) s' X → X.cell? (a.add k) = some (.int .i64 id) := fun k hk => by
    rcases hids with ⟨e, rfl⟩ | ⟨a, n', c', e, hl, _, _, hc⟩
    · simp at hil; omega
    · injection e with e1 e2 e3
      subst e1
      have hi : ids[k]? = some ids[k] := List.getElem?_eq_getElem (by omega)
      exact ⟨a, _, rfl, hi, fun s' X hX => (hF.trans hX.fr).cell (hc k _ hi) fun x => x⟩
  have hm1 : ∀ w, (method 498 P.T P.recv "WriteStructBegin").run Tryz.prog w = .ok (P.fn "WriteStructBegin", P.recv) w := hP.meth .structBegin
  have ha1 : ∀ w, (nilAhead 498 P.T P.recv "WriteStructBegin").run Tryz.prog w = .ok (some false) w := hP.ahead .structBegin
  have he1 : ∀ xs w, (callFunc (P.fn "WriteStructBegin") xs).run Tryz.prog w = .ok (.enter (P.fn "WriteStructBegin") xs) w := hP.enter .structBegin
  obtain ⟨f1, hf1⟩ : ∃ f, f = P.fn "WriteStructBegin" := ⟨_, rfl⟩
  have hm2 : ∀ w, (method 498 P.T P.recv "WriteFieldBegin").run Tryz.prog w = .ok (P.fn "WriteFieldBegin", P.recv) w := hP.meth (.fieldBegin 0 0)
  have ha2 : ∀ w, (nilAhead 498 P.T P.recv "WriteFieldBegin").run Tryz.prog w = .ok (some false) w := hP.ahead (.fieldBegin 0 0)
  have he2 : ∀ xs w, (callFunc (P.fn "WriteFieldBegin") xs).run Tryz.prog w = .ok (.enter (P.fn "WriteFieldBegin") xs) w := hP.enter (.fieldBegin 0 0)
  obtain ⟨f2, hf2⟩ : ∃ f, f = P.fn "WriteFieldBegin" := ⟨_, rfl⟩
  have hm3 : ∀ w, (method 498 P.T P.recv "WriteFieldEnd").run Tryz.prog w = .ok (P.fn "WriteFieldEnd", P.recv) w := hP.meth .fieldEnd
  have ha3 : ∀ w, (nilAhead 498 P.T P.recv "WriteFieldEnd").run Tryz.prog w = .ok (some false) w := hP.ahead .fieldEnd
  have he3 : ∀ xs w, (callFunc (P.fn "WriteFieldEnd") xs).run Tryz.prog w = .ok (.enter (P.fn "WriteFieldEnd") xs) w := hP.enter .fieldEnd
  obtain ⟨f3, hf3⟩ : ∃ f, f = P.fn "WriteFieldEnd" := ⟨_, rfl⟩
  have hm4 : ∀ w, (method 498 P.T P.recv "WriteFieldStop").run Tryz.prog w = .ok (P.fn "WriteFieldStop", P.recv) w := hP.meth .fieldStop
  have ha4 : ∀ w, (nilAhead 498 P.T P.recv "WriteFieldStop").run Tryz.prog w = .ok (some false) w := hP.ahead .fieldStop
  have he4 : ∀ xs w, (callFunc (P.fn "WriteFieldStop") xs).run Tryz.prog w = .ok (.enter (P.fn "WriteFieldStop") xs) w := hP.enter .fieldStop
  obtain ⟨f4, hf4⟩ : ∃ f, f = P.fn "WriteFieldStop" := ⟨_, rfl⟩
  have hm5 : ∀ w, (method 498 P.T P.recv "WriteStructEnd").run Tryz.prog w = .ok (P.fn "WriteStructEnd", P.recv) w := hP.meth .structEnd
  have ha5 : ∀ w, (nilAhead 498 P.T P.recv "WriteStructEnd").run Tryz.prog w = .ok (some false) w := hP.ahead .structEnd
  have he5 : ∀ xs w, (callFunc (P.fn "WriteStructEnd") xs).run Tryz.prog w = .ok (.enter (P.fn "WriteStructEnd") xs) w := hP.enter .structEnd
  obtain ⟨f5, hf5⟩ : ∃ f, f = P.fn "WriteStructEnd" := ⟨_, rfl⟩
  obtain ⟨PT, hPT⟩ : ∃ f, f = P.T := ⟨_, rfl⟩
  obtain ⟨r, hr⟩ : ∃ f, f = P.recv := ⟨_, rfl⟩
  rw [← hf1, ← hr] at hb1
  rw [← hf1] at he1
  rw [← hf1, ← hr, ← hPT] at hm1
  rw [← hr, ← hPT] at ha1
  rw [← hf2, ← hr] at hb2
  rw [← hf2] at he2
  rw [← hf2, ← hr, ← hPT] at hm2
  rw [← hr, ← hPT] at ha2
  rw [← hf3, ← hr] at hb3
  rw [← hf3] at he3
  rw [← hf3, ← hr, ← hPT] at hm3
  rw [← hr, ← hPT] at ha3
  rw [← hf4, ← hr] at hb4
  rw [← hf4] at he4
  rw [← hf4, ← hr, ← hPT] at hm4
  rw [← hr, ← hPT] at ha4
  rw [← hf5, ← hr] at hb5
  rw [← hf5] at he5
  rw [← hf5, ← hr, ← hPT] at hm5
  rw [← hr, ← hPT] at ha5
  rw [← hPT, ← hr] at hp
  rw [← hPT, ← hr]
  have HB1 := Lib.hid hb1
  have HB2 := Lib.hid hb2
  have HB3 := Lib.hid hb3
  have HB4 := Lib.hid hb4
  have HB5 := Lib.hid hb5
  have HP := Lib.hid hp
  have H0 := Lib.hid h0
  have HQ := Lib.hid hq
  have HD := Lib.hid hdr
  have HEL := Lib.hid hel
  have HID := Lib.hid hid
  have HC := Lib.hid I_ctx
  have HTY := Lib.hid I_typ
  have HG := Lib.hid (And.intro hg1 hg2)
  have HLn := Lib.hid (And.intro hL hil)
  have hnm0 : (n : Int) ≤ 1000000 := by omega
  have him0 : (il : Int) ≤ 1000000 := by omega
  clear hb1 hf1 hb2 hf2 hb3 hf3 hb4 hf4 hb5 hf5 hp h0 hdr hq hel hid hPT hr hP hg1 hg2 h hF hput hE hcell hids hL hil hnm him
  go_enter Tryz.func70, Tryz.ntmps70
  go_upto_region 1 with fail
  go_cut [5] (fun s5 wx => s5 = .nilIface ∧ At P w (valA T N vS K E (.slice ia il ic) (.slice la n lc)) (P.step s .structBegin) wx)
  case first =>
    go_region_held3 (fun _ => True) (exact True.intro) (first | (go_at_call 38; (with_reducible refine (HC.out _).mono ?_); rintro e w1 ⟨rfl, rfl⟩) | ((with_reducible refine (HB1.out s _ (HD.out _ _ H0.out) HG.out.1).mono ?_); rintro e Y ⟨rfl, hY⟩; have HY := Lib.hid hY; clear hY) | fail)
    all_goals (go_wp2_with fail; go_meet; exact ⟨rfl, HY.out⟩)
  case rest =>
    obtain ⟨rfl, hY⟩ := hcut
    have HY := Lib.hid hY
    clear hY
    go_wp2_with fail
    go_loopg [6] n (fun g i wr => ∃ (k : Nat) (s' : S), g = n - k ∧ i = .int .i64 k ∧ k ≤ n ∧ k ≤ il ∧ At P w (valA T N vS K E (.slice ia il ic) (.slice la n lc)) s' wr ∧ P.goods s' (restW L ids k) ∧ P.steps s' (restW L ids k) = P.steps s (.structBegin :: restW L ids 0))
    case atStart => exact ⟨0, _, rfl, rfl, by omega, by omega, HY.out, HG.out.2, rfl⟩
    case round =>
      obtain ⟨k, s', hgk, rfl, hk, hki, hA, hgd, hfin⟩ := hrel
      have HGK := Lib.hid hgk
      clear hgk
      have q1 := HQ.out _ _ hA
      by_cases hlt : k < n ∧ k < il
      · obtain ⟨hlt1, hlt2⟩ := hlt
        obtain ⟨g, o, x, sa, sn, sc, ia', il', ic', la', ll', lc', rfl, hx, hus, hc⟩ := HEL.out k hlt1
        obtain ⟨a, id, rfl, hi, hic⟩ := HID.out k hlt2
        rw [restW_step hx hi] at hgd hfin
        obtain ⟨g1, g2⟩ := hgd
        rw [WProto.goods_append] at g2
        obtain ⟨g2, g3, g4⟩ := g2
        have hfin2 : P.steps (P.step (P.steps (P.step s' (.fieldBegin (x.T % 256) (IntKind.i16.wrap id))) x.wops) .fieldEnd) (restW L ids (k + 1)) = P.steps s (.structBegin :: restW L ids 0) := by
          rw [← hfin]
          show _ = P.steps (P.step s' (.fieldBegin (x.T % 256) (IntKind.i16.wrap id))) (x.wops ++ (.fieldEnd :: restW L ids (k + 1)))
          rw [WProto.steps_append]
          rfl
        have hcall := HP.out k x
        rw [hus] at hc hcall
        have hqk : ∀ (s' : S) (X : World), At P w (valA T N vS K E (.slice (some a) il ic) (.slice (some ⟨g, o, none⟩) n lc)) s' X → X.cell? ⟨w.heap.size, 5, none⟩ = some (.slice (some a) il ic) ∧ X.cell? ⟨w.heap.size, 6, none⟩ = some (.slice (some ⟨g, o, none⟩) n lc) ∧ X.cell? ⟨g, o + k * 7, none⟩ = some (.int .i64 x.T) ∧ X.cell? (a.add k) = some (.int .i64 id) := fun _ _ hX => ⟨(HQ.out _ _ hX).1, (HQ.out _ _ hX).2, hc _ _ hX 0 _ rfl, hic _ _ hX⟩
        have hcells : ∀ (s' : S) (X : World), At P w (valA T N vS K E (.slice (some a) il ic) (.slice (some ⟨g, o, none⟩) n lc)) s' X → X.cell? ⟨w.heap.size, 5, none⟩ = some (.slice (some a) il ic) ∧ X.cell? ⟨w.heap.size, 6, none⟩ = some (.slice (some ⟨g, o, none⟩) n lc) ∧ X.cell? ⟨g, o + k * 7, none⟩ = some (.int .i64 x.T) ∧ X.cell? ⟨g, o + k * 7 + 1, none⟩ = some (.int .i64 x.N) ∧ X.cell? ⟨g, o + k * 7 + 2, none⟩ = some (.slice sa sn sc) ∧ X.cell? ⟨g, o + k * 7 + 3, none⟩ = some (.int .i64 x.K) ∧ X.cell? ⟨g, o + k * 7 + 4, none⟩ = some (.int .i64 x.E) ∧ X.cell? ⟨g, o + k * 7 + 5, none⟩ = some (.slice ia' il' ic') ∧ X.cell? ⟨g, o + k * 7 + 6, none⟩ = some (.slice la' ll' lc') := fun _ _ hX =>
          ⟨(HQ.out _ _ hX).1, (HQ.out _ _ hX).2, hc _ _ hX 0 _ rfl, hc _ _ hX 1 _ rfl, hc _ _ hX 2 _ rfl, hc _ _ hX 3 _ rfl, hc _ _ hX 4 _ rfl, hc _ _ hX 5 _ rfl, hc _ _ hX 6 _ rfl⟩
        have q2 := hqk _ _ (HD.out _ _ hA)
        have HA := Lib.hid hA
        have HQK := Lib.hid hqk
        have HCE := Lib.hid hcells
        have HGD := Lib.hid (And.intro g1 (And.intro g2 (And.intro g3 (And.intro g4 hfin2))))
        have HCA := Lib.hid (fun s' X => hcall s' X hx)
        have hk0 : (0 : Int) ≤ (k : Int) := by omega
        have hk1 : (k : Int) < (n : Int) := by omega
        have hk2 : (k : Int) < (il : Int) := by omega
        have hk3 : (k : Int) ≤ 1000000 := by omega
        clear hA hqk hcells g1 g2 g3 g4 hfin hfin2 hcall hc hic hus hx hi
        go_upto_region 7 with fail
        clear q1
        go_cut [7] (fun s7 wx => s7 = .nilIface ∧ At P w (valA T N vS K E (.slice (some a) il ic) (.slice (some ⟨g, o, none⟩) n lc)) (P.step s' (.fieldBegin (x.T % 256) (IntKind.i16.wrap id))) wx)
        case first =>
          go_region_held3 (fun w' => w'.cell? ⟨w.heap.size, 5, none⟩ = some (.slice (some a) il ic) ∧ w'.cell? ⟨w.heap.size, 6, none⟩ = some (.slice (some ⟨g, o, none⟩) n lc) ∧ w'.cell? ⟨g, o + k * 7, none⟩ = some (.int .i64 x.T) ∧ w'.cell? (a.add k) = some (.int .i64 id)) (first | exact q2 | exact q3) (first | (go_at_call 38; (with_reducible refine (HC.out _).mono ?_); rintro e w1 ⟨rfl, rfl⟩) | (go_at_call 57; (with_reducible refine (HTY.out _ _).mono ?_); rintro e w1 ⟨rfl, rfl⟩) | ((with_reducible refine (HB2.out _ _ s' _ (HD.out _ _ HA.out) HGD.out.1).mono ?_); rintro e Y2 ⟨rfl, hY2⟩; have q3 := HQK.out _ _ hY2; have HY2 := Lib.hid hY2; clear hY2) | fail)
          all_goals (go_wp2_with fail; go_meet; exact ⟨rfl, HY2.out⟩)
        case rest =>
          obtain ⟨rfl, hY2⟩ := hcut
          obtain ⟨e5, e6, d0, d1, d2, d3, d4, d5, d6⟩ := HCE.out _ _ hY2
          have HY2 := Lib.hid hY2
          clear hY2 q2
          go_wp2_with fail
          (with_reducible refine (HCA.out _ _ HY2.out HGD.out.2.1).mono ?_)
          rintro e Y3 ⟨rfl, hY3⟩
          have HY3 := Lib.hid hY3
          clear hY3 d0 d1 d2 d3 d4 d5 d6 e5 e6
          go_upto_region 13 with fail
          go_cut [9] (fun s9 wx => s9 = .nilIface ∧ At P w (valA T N vS K E (.slice (some a) il ic) (.slice (some ⟨g, o, none⟩) n lc)) (P.step (P.steps (P.step s' (.fieldBegin (x.T % 256) (IntKind.i16.wrap id))) x.wops) .fieldEnd) wx)
          case first =>
            go_region_held3 (fun _ => True) (exact True.intro) (first | (go_at_call 38; (with_reducible refine (HC.out _).mono ?_); rintro e w1 ⟨rfl, rfl⟩) | ((with_reducible refine (HB3.out _ _ (HD.out _ _ HY3.out) HGD.out.2.2.1).mono ?_); rintro e Y4 ⟨rfl, hY4⟩; have HY4 := Lib.hid hY4; clear hY4) | fail)
            all_goals (go_wp2_with fail; go_meet; exact ⟨rfl, HY4.out⟩)
          case rest =>
            obtain ⟨rfl, hY4⟩ := hcut
            have HY4 := Lib.hid hY4
            clear hY4
            go_wp2_with fail
            go_roundg (n - (k + 1))
            case measure => have := HGK.out; omega
            case rel => exact ⟨k + 1, _, rfl, by go_num, by omega, by omega, HY4.out, HGD.out.2.2.2.1, HGD.out.2.2.2.2⟩
      · have hend := restW_end (L := L) (ids := ids) (k := k) (by rw [HLn.out.1, HLn.out.2]; omega)
        rw [hend] at hgd hfin
        obtain ⟨gs1, gs2, -⟩ := hgd
        have HA := Lib.hid hA
        have HGD := Lib.hid (And.intro gs1 (And.intro gs2 hfin))
        have hk0 : (0 : Int) ≤ (k : Int) := by omega
        clear hA gs1 gs2 hfin hend
        rcases (show ((k : Int) < (n : Int) ∧ ¬ (k : Int) < (il : Int)) ∨ ¬ (k : Int) < (n : Int) by omega) with ⟨h3, h2⟩ | h3
        all_goals
          clear hlt
          go_upto_region 16 with fail
          go_cut [10] (fun s10 wx => s10 = .nilIface ∧ At P w (valA T N vS K E (.slice ia il ic) (.slice la n lc)) (P.step s' .fieldStop) wx)
          case first =>
            go_region_held3 (fun _ => True) (exact True.intro) (first | (go_at_call 38; (with_reducible refine (HC.out _).mono ?_); rintro e w1 ⟨rfl, rfl⟩) | ((with_reducible refine (HB4.out _ _ (HD.out _ _ HA.out) HGD.out.1).mono ?_); rintro e Y2 ⟨rfl, hY2⟩; have HY2 := Lib.hid hY2; clear hY2) | fail)
            all_goals (go_wp2_with fail; go_meet; exact ⟨rfl, HY2.out⟩)
          case rest =>
            obtain ⟨rfl, hY2⟩ := hcut
            have HY2 := Lib.hid hY2
            clear hY2
            go_wp2_with fail
            go_region_held3 (fun _ => True) (exact True.intro) (first | (go_at_call 38; (with_reducible refine (HC.out _).mono ?_); rintro e w1 ⟨rfl, rfl⟩) | ((with_reducible refine (HB5.out _ _ (HD.out _ _ HY2.out) HGD.out.2.1).mono ?_); rintro e Y3 ⟨rfl, hY3⟩; have HY3 := Lib.hid hY3; clear hY3) | fail)
            all_goals go_wp2
            all_goals go_ret
            all_goals (rw [← HGD.out.2.2]; exact HY3.out.done P)
end
end Go.Proofs.YtdifknecndlklaaGreatDoor
