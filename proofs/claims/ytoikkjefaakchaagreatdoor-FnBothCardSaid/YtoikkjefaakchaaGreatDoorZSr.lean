/- The specification puts structs, and whatever value, by the binary protocol. -/
import Derived.Test.YtoikkjefaakchaaGreatDoorZSq
import Derived.Test.YtoikkjefaakchaaGreatDoorZPutT
set_option linter.all false
namespace Go.Proofs.YtoikkjefaakchaaGreatDoor
open Go Go.RowKit
set_option maxHeartbeats 4000000
set_option maxRecDepth 100000

abbrev TStp : TypeId := 144
abbrev stp2 : Array Value := #[.int .i64 6, .int .i64 0, .int .i64 0, .int .i64 0, .int .i64 0, .int .i64 0, .slice none 0 0, .int .i64 3, .int .i64 0, .int .i64 0, .int .i64 0, .int .i64 0, .int .i64 0, .slice none 0 0]

/-- The two steps at a struct's end. -/
theorem S_all2 (p : Nat) (c : ConfV) (hc : c.proto ≠ 1) (g : Nat) (w X : World) (cs : Array Value) (s : SSt) (h : SAt p c w cs s X) (hg : X.heap[g]? = some (.cells stp2 TStp (0, 0))) (hgF : ¬ SwF p X g) (hout : s.out.length + 1 ≤ 10000000000) :
    Calls Tryz.prog 126 #[.pointer (some ⟨p, 0, none⟩), .slice (some ⟨g, 0, none⟩) 2 2] X (fun e Y => e = .returned (.int .i64 0) ∧ SAt p c w cs (s.add [0]) Y) := by
  have h6 : ∀ Y, SAt p c w cs s Y → Calls Tryz.prog 72 #[.pointer (some ⟨p, 0, none⟩), .agg #[.int .i64 6, .int .i64 0, .int .i64 0, .int .i64 0, .int .i64 0, .int .i64 0, .slice none 0 0]] Y (fun e Z => e = .returned (.int .i64 0) ∧ SAt p c w cs (s.add [0]) Z ∧ ∀ o, Y.heap[g]? = some o → ¬ SwF p Y g → Z.heap[g]? = some o ∧ ¬ SwF p Z g) := fun Y hY =>
    (S_step ⟨6, 0, 0, 0, 0, 0, .slice none 0 0, []⟩ (show (6 : Int) ≠ 0 by decide) p c hc Y s (Or.inl ⟨rfl, rfl⟩) (Nat.zero_le _) hY.I (by omega)).mono fun e Z hw => ⟨hw.1, hY.next hw, fun o ho hn => ⟨hw.2.2.block ho hn, fun hk => hn (hw.2.2.foot _ (lt_heap ho) hk)⟩⟩
  have h3 : ∀ Y, SAt p c w cs (s.add [0]) Y → Calls Tryz.prog 72 #[.pointer (some ⟨p, 0, none⟩), .agg #[.int .i64 3, .int .i64 0, .int .i64 0, .int .i64 0, .int .i64 0, .int .i64 0, .slice none 0 0]] Y (fun e Z => e = .returned (.int .i64 0) ∧ SAt p c w cs (s.add [0]) Z) := fun Y hY =>
    (S_step0 3 0 0 0 0 (by decide) p c hc hY (by show (s.out ++ [0]).length ≤ _; simp; omega) [] rfl).mono fun e Z hw => ⟨hw.1, by rw [SSt.add_nil] at hw; exact hw.2⟩
  have hcell : ∀ Y : World, Y.heap[g]? = some (.cells stp2 TStp (0, 0)) → (∀ i u, stp2[i]? = some u → Y.cell? ⟨g, i, none⟩ = some u) := fun Y hY i u hu => by rw [cell_at hY]; exact hu
  have H6 := Lib.hid (h6 X h)
  have H3 := Lib.hid h3
  have HG := Lib.hid (And.intro hg hgF)
  have hcc := hcell X hg
  have a0 := hcc 0 _ rfl; have a1 := hcc 1 _ rfl; have a2 := hcc 2 _ rfl; have a3 := hcc 3 _ rfl; have a4 := hcc 4 _ rfl; have a5 := hcc 5 _ rfl; have a6 := hcc 6 _ rfl
  have HC := Lib.hid hcell
  clear h6 h3 hcell hcc h hg hgF hout hc
  go_enter Tryz.func126, Tryz.ntmps126
  go_wp2_with fail
  go_loopw [5] (fun i wr => (i = .int .i64 0 ∧ wr = X) ∨ (i = .int .i64 1 ∧ SAt p c w cs (s.add [0]) wr ∧ wr.heap[g]? = some (.cells stp2 TStp (0, 0))) ∨ (i = .int .i64 2 ∧ SAt p c w cs (s.add [0]) wr)) (fun i _ => 2 - (intOf i).toNat)
  case atStart => exact Or.inl ⟨rfl, rfl⟩
  case round =>
    rcases hrel with ⟨rfl, rfl⟩ | ⟨rfl, hA, hb⟩ | ⟨rfl, hA⟩
    · go_wp2_with fail
      (with_reducible refine H6.out.mono ?_)
      rintro e Y ⟨rfl, hY, hk⟩
      have HY := Lib.hid (And.intro hY (hk _ HG.out.1 HG.out.2).1)
      clear hY hk a0 a1 a2 a3 a4 a5 a6
      go_wp2_with fail
      go_roundw
      case rel => exact Or.inr (Or.inl ⟨rfl, HY.out.1, HY.out.2⟩)
      case measure => simp [intOf]
    · clear a0 a1 a2 a3 a4 a5 a6
      have hcc := HC.out _ hb
      have a0 := hcc 7 _ rfl; have a1 := hcc 8 _ rfl; have a2 := hcc 9 _ rfl; have a3 := hcc 10 _ rfl; have a4 := hcc 11 _ rfl; have a5 := hcc 12 _ rfl; have a6 := hcc 13 _ rfl
      have HA := Lib.hid hA
      clear hA hcc hb
      go_wp2_with fail
      (with_reducible refine (H3.out _ HA.out).mono ?_)
      rintro e Y ⟨rfl, hY⟩
      have HY := Lib.hid hY
      clear hY a0 a1 a2 a3 a4 a5 a6
      go_wp2_with fail
      go_roundw
      case rel => exact Or.inr (Or.inr ⟨rfl, HY.out⟩)
      case measure => simp [intOf]
    · have HA := Lib.hid hA
      clear hA a0 a1 a2 a3 a4 a5 a6
      go_wp2
      go_ret
      exact ⟨rfl, HA.out⟩

theorem S_putStruct (p : Nat) (c : ConfV) (hc : c.proto ≠ 1) (w0 w : World) (s : SSt) (T N K E : Int) (vS : Value) (ia : Option Addr) (il ic : Nat) (la : Option Addr) (n lc : Nat) (us : Nat → Array Value) (ids : List Int) (L : List VT) (hL : L.length = n) (hnm : n ≤ 1000000) (hil : ids.length = il) (him : il ≤ 1000000)
    (hcell : 0 < n → ∃ g o, la = some ⟨g, o, none⟩ ∧ ∀ j, j < n → ∀ i u, (us j)[i]? = some u → w0.cell? ⟨g, o + j * 7 + i, none⟩ = some u)
    (hids : RdN w0 (.slice ia il ic) ids)
    (hE : ∀ (j : Nat) x, L[j]? = some x → ValR w0 x (.agg (us j))) (hput : ∀ (j : Nat) x, L[j]? = some x → SPutOK p c x) (hF : Fr noF (SwF p w) w0 w) (h : SwI p c w s)
    (B : List UInt8) (hB : B = bytesAll c.strictW (restW L ids 0)) (hout : s.out.length + B.length ≤ 10000000000) :
    Calls Tryz.prog 107 #[.pointer (some ⟨p, 0, none⟩), .agg (valA T N vS K E (.slice ia il ic) (.slice la n lc))] w (SR p c w 0 (s.add B)) := by
  obtain ⟨cs, hcs⟩ : ∃ cs, cs = valA T N vS K E (.slice ia il ic) (.slice la n lc) := ⟨_, rfl⟩
  have h0 := SAt.start h cs
  have h2 := S_step0 2 0 0 0 0 (by decide) p c hc h0 (by omega) [] rfl
  have h4 := fun (t id : Int) (dn : List UInt8) X (hX : SAt p c w cs (s.add dn) X) (hl : s.out.length + dn.length ≤ 10000000000) => (S_step0 4 t 0 0 id (by decide) p c hc hX (by show (s.out ++ dn).length ≤ _; rw [List.length_append]; exact hl) _ rfl)
  have h5 := fun (dn : List UInt8) X (hX : SAt p c w cs (s.add dn) X) (hl : s.out.length + dn.length ≤ 10000000000) => (S_step0 5 0 0 0 0 (by decide) p c hc hX (by show (s.out ++ dn).length ≤ _; rw [List.length_append]; exact hl) [] rfl)
  have hq : ∀ (s' : SSt) (X : World), SAt p c w cs s' X → X.cell? ⟨w.heap.size, 5, none⟩ = some (.slice ia il ic) ∧ X.cell? ⟨w.heap.size, 6, none⟩ = some (.slice la n lc) := fun s' X hX => by
    have hb := hX.box
    rw [hcs] at hb
    exact ⟨(cell_at hb 5).trans rfl, (cell_at hb 6).trans rfl⟩
  have hel : ∀ k, k < n → ∃ g o x sa sn sc ia' il' ic' la' ll' lc', la = some ⟨g, o, none⟩ ∧ L[k]? = some x ∧ us k = valA x.T x.N (.slice sa sn sc) x.K x.E (.slice ia' il' ic') (.slice la' ll' lc') ∧
      ∀ s' X, SAt p c w cs s' X → ∀ i u, (us k)[i]? = some u → X.cell? ⟨g, o + k * 7 + i, none⟩ = some u := fun k hk => by
    obtain ⟨g, o, rfl, hcc⟩ := hcell (by omega)
    have hx : L[k]? = some L[k] := List.getElem?_eq_getElem (by omega)
    obtain ⟨sa, sn, sc, ia', il', ic', la', ll', lc', he⟩ := (hE k _ hx).sl
    injection he with he
    exact ⟨g, o, _, sa, sn, sc, ia', il', ic', la', ll', lc', rfl, hx, he, fun s' X hX i u hu => (hF.trans hX.fr).cell (hcc k hk i u hu) fun x => x⟩
  have hid : ∀ k, k < il → ∃ a id, ia = some a ∧ ids[k]? = some id ∧ ∀ s' X, SAt p c w cs s' X → X.cell? (a.add k) = some (.int .i64 id) := fun k hk => by
    rcases hids with ⟨e, rfl⟩ | ⟨a, n', c', e, hl, _, _, hcc⟩
    · simp at hil; omega
    · injection e with e1 e2 e3
      subst e1
      have hi : ids[k]? = some ids[k] := List.getElem?_eq_getElem (by omega)
      exact ⟨a, _, rfl, hi, fun s' X hX => (hF.trans hX.fr).cell (hcc k _ hi) fun x => x⟩
  have hstep : ∀ (k : Nat) x id dn, L[k]? = some x → ids[k]? = some id → dn ++ bytesAll c.strictW (restW L ids k) = B →
      (s.out.length + dn.length ≤ 10000000000 ∧ s.out.length + (dn ++ (Stp.binB c.strictW ⟨4, x.T, 0, 0, id, 0, .slice none 0 0, []⟩)).length ≤ 10000000000 ∧ s.out.length + (dn ++ Stp.binB c.strictW ⟨4, x.T, 0, 0, id, 0, .slice none 0 0, []⟩ ++ x.bytesB c.strictW).length ≤ 10000000000) ∧
      (∀ X, SAt p c w cs (s.add (dn ++ Stp.binB c.strictW ⟨4, x.T, 0, 0, id, 0, .slice none 0 0, []⟩)) X → Calls Tryz.prog 73 #[.pointer (some ⟨p, 0, none⟩), .agg (us k)] X (fun e Y => e = .returned (.int .i64 0) ∧ SAt p c w cs (s.add (dn ++ Stp.binB c.strictW ⟨4, x.T, 0, 0, id, 0, .slice none 0 0, []⟩ ++ x.bytesB c.strictW)) Y)) ∧
      (dn ++ Stp.binB c.strictW ⟨4, x.T, 0, 0, id, 0, .slice none 0 0, []⟩ ++ x.bytesB c.strictW) ++ bytesAll c.strictW (restW L ids (k + 1)) = B := by
    intro k x id dn hx hi hdn
    have e : bytesAll c.strictW (restW L ids k) = Stp.binB c.strictW ⟨4, x.T, 0, 0, id, 0, .slice none 0 0, []⟩ ++ (x.bytesB c.strictW ++ bytesAll c.strictW (restW L ids (k + 1))) := by
      rw [restW_step hx hi]
      show bytesAll c.strictW ([_] ++ (x.wops ++ ([WOp.fieldEnd] ++ restW L ids (k + 1)))) = _
      rw [bytesAll_append, bytesAll_append, bytesAll_append, bytesAll_wops]
      simp [bytesAll, Stp.binB, Stp.wop, WOp.binB]
    rw [e] at hdn
    have hlen := congrArg List.length hdn
    simp only [List.length_append] at hlen
    refine ⟨⟨by omega, by rw [List.length_append]; omega, by rw [List.length_append, List.length_append]; omega⟩, fun X hX => ?_, by simpa [List.append_assoc] using hdn⟩
    have := hX.elem hF (hput k x hx) (hE k x hx) (by show (s.out ++ _).length + _ ≤ _; rw [List.length_append, List.length_append]; omega)
    rw [SSt.add_add] at this
    exact this
  have hfin : ∀ (k : Nat) dn, (L.length ≤ k ∨ ids.length ≤ k) → dn ++ bytesAll c.strictW (restW L ids k) = B → dn ++ [0] = B := fun k dn hk h => by
    rw [restW_end hk] at h
    simpa [bytesAll, WOp.binB] using h
  have hall := fun (g : Nat) (dn : List UInt8) X (hX : SAt p c w cs (s.add dn) X) (hg : X.heap[g]? = some (.cells stp2 TStp (0, 0))) (hgF : ¬ SwF p X g) (hl : dn ++ [0] = B) => S_all2 p c hc g w X cs (s.add dn) hX hg hgF (by
    have := congrArg List.length hl
    simp only [List.length_append, List.length_cons, List.length_nil] at this
    show (s.out ++ dn).length + 1 ≤ _
    rw [List.length_append]; omega)
  have hnew : ∀ (dn : List UInt8) X, SAt p c w cs (s.add dn) X → SAt p c w cs (s.add dn) (X.alloc (.cells stp2 TStp (0, 0))) ∧ ¬ SwF p (X.alloc (.cells stp2 TStp (0, 0))) X.heap.size := fun dn X hX => by
    have hf := (Fr.refl noF X).alloc (.cells stp2 TStp (0, 0))
    refine ⟨hX.quiet hf, fun hk => ?_⟩
    have := hX.I.lt ((hX.I.quiet hf).2.1 _ hk)
    omega
  have hdr : ∀ (s' : SSt) (X : World), SAt p c w cs s' X → SAt p c w cs s' X.drew := fun _ X hX => hX.quiet ((Fr.refl noF X).drew)
  have hdn0 : [] ++ bytesAll c.strictW (restW L ids 0) = B := by rw [List.nil_append]; exact hB.symm
  have HS2 := Lib.hid h2
  have HS4 := Lib.hid h4
  have HS5 := Lib.hid h5
  have HQ := Lib.hid hq
  have HEL := Lib.hid hel
  have HID := Lib.hid hid
  have HST := Lib.hid hstep
  have HFI := Lib.hid hfin
  have HAL := Lib.hid hall
  have HNW := Lib.hid hnew
  have HDR := Lib.hid hdr
  have HD0 := Lib.hid hdn0
  have HLn := Lib.hid (And.intro hL hil)
  have hnm0 : (n : Int) ≤ 1000000 := by omega
  have him0 : (il : Int) ≤ 1000000 := by omega
  have HCS := Lib.hid hcs
  clear h2 h4 h5 hq hel hid hstep hfin hall hnew hdr hdn0 h0 hF h hput hE hcell hids hL hil hnm him hB hout hc hcs
  go_enter Tryz.func107, Tryz.ntmps107
  rw [← HCS.out]
  go_wp2_with fail
  (with_reducible refine HS2.out.mono ?_)
  rintro e Y ⟨rfl, hY⟩
  have HY := Lib.hid hY
  clear hY
  go_wp2_with fail
  go_loopw [6] (fun i wr => ∃ (k : Nat) (dn : List UInt8), i = .int .i64 k ∧ k ≤ n ∧ k ≤ il ∧ SAt p c w cs (s.add dn) wr ∧ dn ++ bytesAll c.strictW (restW L ids k) = B) (fun i _ => n - (intOf i).toNat)
  case atStart => exact ⟨0, _, rfl, by omega, by omega, HY.out, HD0.out⟩
  case round =>
    obtain ⟨k, dn, rfl, hk, hki, hA, hdn⟩ := hrel
    have q1 := HQ.out _ _ hA
    by_cases hlt : k < n ∧ k < il
    · obtain ⟨hlt1, hlt2⟩ := hlt
      obtain ⟨g, o, x, sa, sn, sc, ia', il', ic', la', ll', lc', rfl, hx, hus, hcc⟩ := HEL.out k hlt1
      obtain ⟨a, id, rfl, hi, hic⟩ := HID.out k hlt2
      obtain ⟨hlens, hcall, hnext⟩ := HST.out k x id dn hx hi hdn
      rw [hus] at hcc hcall
      have hqk : ∀ (s' : SSt) (X : World), SAt p c w cs s' X → X.cell? ⟨w.heap.size, 5, none⟩ = some (.slice (some a) il ic) ∧ X.cell? ⟨w.heap.size, 6, none⟩ = some (.slice (some ⟨g, o, none⟩) n lc) ∧ X.cell? ⟨g, o + k * 7, none⟩ = some (.int .i64 x.T) ∧ X.cell? (a.add k) = some (.int .i64 id) := fun _ _ hX => ⟨(HQ.out _ _ hX).1, (HQ.out _ _ hX).2, hcc _ _ hX 0 _ rfl, hic _ _ hX⟩
      have hcells : ∀ (s' : SSt) (X : World), SAt p c w cs s' X → X.cell? ⟨w.heap.size, 6, none⟩ = some (.slice (some ⟨g, o, none⟩) n lc) ∧ X.cell? ⟨g, o + k * 7, none⟩ = some (.int .i64 x.T) ∧ X.cell? ⟨g, o + k * 7 + 1, none⟩ = some (.int .i64 x.N) ∧ X.cell? ⟨g, o + k * 7 + 2, none⟩ = some (.slice sa sn sc) ∧ X.cell? ⟨g, o + k * 7 + 3, none⟩ = some (.int .i64 x.K) ∧ X.cell? ⟨g, o + k * 7 + 4, none⟩ = some (.int .i64 x.E) ∧ X.cell? ⟨g, o + k * 7 + 5, none⟩ = some (.slice ia' il' ic') ∧ X.cell? ⟨g, o + k * 7 + 6, none⟩ = some (.slice la' ll' lc') := fun _ _ hX =>
        ⟨(HQ.out _ _ hX).2, hcc _ _ hX 0 _ rfl, hcc _ _ hX 1 _ rfl, hcc _ _ hX 2 _ rfl, hcc _ _ hX 3 _ rfl, hcc _ _ hX 4 _ rfl, hcc _ _ hX 5 _ rfl, hcc _ _ hX 6 _ rfl⟩
      have q2 := hqk _ _ (HDR.out _ _ hA)
      have h4' := HS4.out x.T id dn _ (HDR.out _ _ hA) hlens.1
      rw [SSt.add_add] at h4'
      have H4 := Lib.hid h4'
      have HA := Lib.hid hA
      have HQK := Lib.hid hqk
      have HCE := Lib.hid hcells
      have HGD := Lib.hid (And.intro hlens hnext)
      have HCA := Lib.hid hcall
      have hk0 : (0 : Int) ≤ (k : Int) := by omega
      have hk1 : (k : Int) < (n : Int) := by omega
      have hk2 : (k : Int) < (il : Int) := by omega
      have hk3 : (k : Int) ≤ 1000000 := by omega
      clear hA hqk hcells hlens hnext hcall hcc hic hus hx hi hdn h4'
      go_wp2_with fail
      clear q1
      go_region_held3 (fun w' => w'.cell? ⟨w.heap.size, 5, none⟩ = some (.slice (some a) il ic) ∧ w'.cell? ⟨w.heap.size, 6, none⟩ = some (.slice (some ⟨g, o, none⟩) n lc) ∧ w'.cell? ⟨g, o + k * 7, none⟩ = some (.int .i64 x.T) ∧ w'.cell? (a.add k) = some (.int .i64 id)) (first | exact q2 | exact q3) (first | ((with_reducible refine H4.out.mono ?_); rintro e Y2 ⟨rfl, hY2⟩; have q3 := HQK.out _ _ hY2; have HY2 := Lib.hid hY2; clear hY2) | fail)
      obtain ⟨e6, d0, d1, d2, d3, d4, d5, d6⟩ := HCE.out _ _ HY2.out
      clear q2 q3
      go_wp2_with fail
      (with_reducible refine (HCA.out _ HY2.out).mono ?_)
      rintro e Y3 ⟨rfl, hY3⟩
      have HY3 := Lib.hid hY3
      clear hY3 d0 d1 d2 d3 d4 d5 d6 e6
      go_wp2_with fail
      (with_reducible refine (HS5.out _ _ HY3.out HGD.out.1.2.2).mono ?_)
      rintro e Y4 ⟨rfl, hY4⟩
      rw [SSt.add_nil] at hY4
      have HY4 := Lib.hid hY4
      clear hY4
      go_wp2_with fail
      go_roundw
      case rel => exact ⟨k + 1, _, by go_num, by omega, by omega, HY4.out, HGD.out.2⟩
      case measure => simp [intOf]; omega
    · have hend := HFI.out k dn (by rw [HLn.out.1, HLn.out.2]; omega) hdn
      obtain ⟨hN1, hN2⟩ := HNW.out dn _ hA
      have hcall := HAL.out _ dn _ hN1 (alloc_new _ _) hN2 hend
      rw [SSt.add_add, hend] at hcall
      have HCA := Lib.hid (hcall.mono fun e Y hw => And.intro hw.1 hw.2.done)
      have hk0 : (0 : Int) ≤ (k : Int) := by omega
      clear hA hdn hend hN1 hN2 hcall
      rcases (show ((k : Int) < (n : Int) ∧ ¬ (k : Int) < (il : Int)) ∨ ¬ (k : Int) < (n : Int) by omega) with ⟨h3, h2⟩ | h3
      all_goals
        clear hlt
        go_wp2_with fail
        (with_reducible refine HCA.out.mono ?_)
        rintro e Y2 ⟨rfl, hY2⟩
        have HY2 := Lib.hid hY2
        clear hY2 q1
        go_wp2
        go_ret
        exact HY2.out
end Go.Proofs.YtoikkjefaakchaaGreatDoor
