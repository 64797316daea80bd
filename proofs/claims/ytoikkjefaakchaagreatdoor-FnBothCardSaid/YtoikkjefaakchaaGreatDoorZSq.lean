/- The specification puts maps, sets and lists by the binary protocol. -/
import Derived.Test.YtoikkjefaakchaaGreatDoorZSp
set_option linter.all false
namespace Go.Proofs.YtoikkjefaakchaaGreatDoor
open Go Go.RowKit
set_option maxHeartbeats 4000000
set_option maxRecDepth 100000

theorem bytesAll_append (strict : Bool) (a b : List WOp) : bytesAll strict (a ++ b) = bytesAll strict a ++ bytesAll strict b := List.flatMap_append ..
theorem bytesAll_wops (strict : Bool) (x : VT) : bytesAll strict x.wops = x.bytesB strict := rfl

/-- A step without bytes of its own: what it is given. -/
theorem S_step0 (op t k sz id : Int) (h0 : op ≠ 0) (p : Nat) (c : ConfV) (hc : c.proto ≠ 1) {w X : World} {cs : Array Value} {s : SSt} (h : SAt p c w cs s X) (hout : s.out.length ≤ 10000000000) (B : List UInt8) (hB : B = Stp.binB c.strictW ⟨op, t, k, sz, id, 0, .slice none 0 0, []⟩) :
    Calls Tryz.prog 72 #[.pointer (some ⟨p, 0, none⟩), .agg (stepA op t k sz id 0 (.slice none 0 0))] X (fun e Y => e = .returned (.int .i64 0) ∧ SAt p c w cs (s.add B) Y) :=
  (S_step ⟨op, t, k, sz, id, 0, .slice none 0 0, []⟩ h0 p c hc X s (Or.inl ⟨rfl, rfl⟩) (Nat.zero_le _) h.I hout).mono fun e Y hw => ⟨hw.1, by rw [hB]; exact h.next hw⟩

/-- An element is put. -/
theorem SAt.elem {p : Nat} {c : ConfV} {w0 w X : World} {cs : Array Value} {s : SSt} {x : VT} {u : Value} (h : SAt p c w cs s X) (hF : Fr noF (SwF p w) w0 w) (hx : SPutOK p c x) (hu : ValR w0 x u) (hl : s.out.length + (x.bytesB c.strictW).length ≤ 10000000000) :
    Calls Tryz.prog 73 #[.pointer (some ⟨p, 0, none⟩), u] X (fun e Y => e = .returned (.int .i64 0) ∧ SAt p c w cs (s.add (x.bytesB c.strictW)) Y) :=
  (hx w0 u X s hu (hF.trans h.fr) h.I hl).mono fun e Y hw => ⟨hw.1, h.next hw⟩

theorem S_put14 (p : Nat) (c : ConfV) (hc : c.proto ≠ 1) (w0 w : World) (s : SSt) (T N K E : Int) (vS vI : Value) (la : Option Addr) (n lc d m : Nat) (us : Nat → Array Value) (L : List VT) (hL : L.length = n) (hT : T % 256 = 14) (hnm : n ≤ 1000000) (hm : m = n / 2) (hd : d = n)
    (hcell : 0 < n → ∃ g o, la = some ⟨g, o, none⟩ ∧ ∀ j, j < n → ∀ i u, (us j)[i]? = some u → w0.cell? ⟨g, o + j * 7 + i, none⟩ = some u)
    (hE : ∀ (j : Nat) x, L[j]? = some x → ValR w0 x (.agg (us j))) (hput : ∀ (j : Nat) x, L[j]? = some x → SPutOK p c x) (hF : Fr noF (SwF p w) w0 w) (h : SwI p c w s)
    (B : List UInt8) (hB : B = (WOp.setBegin (E % 256) n).binB c.strictW ++ bytesAll c.strictW (allW L d)) (hout : s.out.length + B.length ≤ 10000000000) :
    Calls Tryz.prog 73 #[.pointer (some ⟨p, 0, none⟩), .agg (valA T N vS K E vI (.slice la n lc))] w (SR p c w 0 (s.add B)) := by
  have h0 := SAt.start h (valA 14 N vS K E vI (.slice la n lc))
  have hst := S_step0 11 E 0 n 0 (by decide) p c hc h0 (by omega) ((WOp.setBegin (E % 256) n).binB c.strictW) rfl
  have hen := fun X (hX : SAt p c w (valA 14 N vS K E vI (.slice la n lc)) (s.add B) X) => S_step0 12 0 0 0 0 (by decide) p c hc hX (by show (s.out ++ B).length ≤ _; rw [List.length_append]; exact hout) [] rfl
  have hq : ∀ (s' : SSt) (X : World), SAt p c w (valA 14 N vS K E vI (.slice la n lc)) s' X → X.cell? ⟨w.heap.size, 4, none⟩ = some (.int .i64 E) ∧ X.cell? ⟨w.heap.size, 6, none⟩ = some (.slice la n lc) := fun s' X hX => ⟨(cell_at hX.box 4).trans rfl, (cell_at hX.box 6).trans rfl⟩
  have hel : ∀ k, k < n → ∃ g o x sa sn sc ia' il' ic' la' ll' lc', la = some ⟨g, o, none⟩ ∧ L[k]? = some x ∧ us k = valA x.T x.N (.slice sa sn sc) x.K x.E (.slice ia' il' ic') (.slice la' ll' lc') ∧
      ∀ s' X, SAt p c w (valA 14 N vS K E vI (.slice la n lc)) s' X → ∀ i u, (us k)[i]? = some u → X.cell? ⟨g, o + k * 7 + i, none⟩ = some u := fun k hk => by
    obtain ⟨g, o, rfl, hcc⟩ := hcell (by omega)
    have hx : L[k]? = some L[k] := List.getElem?_eq_getElem (by omega)
    obtain ⟨sa, sn, sc, ia', il', ic', la', ll', lc', he⟩ := (hE k _ hx).sl
    injection he with he
    exact ⟨g, o, _, sa, sn, sc, ia', il', ic', la', ll', lc', rfl, hx, he, fun s' X hX i u hu => (hF.trans hX.fr).cell (hcc k hk i u hu) fun x => x⟩
  have hstep : ∀ (k : Nat) x dn X, k < d → L[k]? = some x → SAt p c w (valA 14 N vS K E vI (.slice la n lc)) (s.add dn) X → dn ++ bytesAll c.strictW (allW (L.drop k) (d - k)) = B →
      (Calls Tryz.prog 73 #[.pointer (some ⟨p, 0, none⟩), .agg (us k)] X (fun e Y => e = .returned (.int .i64 0) ∧ SAt p c w (valA 14 N vS K E vI (.slice la n lc)) (s.add (dn ++ x.bytesB c.strictW)) Y)) ∧ (dn ++ x.bytesB c.strictW) ++ bytesAll c.strictW (allW (L.drop (k + 1)) (d - (k + 1))) = B := fun k x dn X hk hx hX hdn => by
    rw [allW_drop hx hk, bytesAll_append, bytesAll_wops, ← List.append_assoc] at hdn
    have hlen := congrArg List.length hdn
    simp only [List.length_append] at hlen
    refine ⟨?_, hdn⟩
    rw [← SSt.add_add]
    exact hX.elem hF (hput k x hx) (hE k x hx) (by show (s.out ++ dn).length + _ ≤ _; rw [List.length_append]; omega)
  have hfin : ∀ dn, dn ++ bytesAll c.strictW (allW (L.drop d) (d - d)) = B → dn = B := fun dn h => by
    rw [allW_end] at h
    simpa [bytesAll] using h
  have hdn0 : (WOp.setBegin (E % 256) n).binB c.strictW ++ bytesAll c.strictW (allW (L.drop 0) (d - 0)) = B := by rw [List.drop_zero, Nat.sub_zero]; exact hB.symm
  have q0 := hq _ _ h0
  have c0 : (w.alloc (.cells (valA 14 N vS K E vI (.slice la n lc)) TSVal (0, 0))).cell? ⟨w.heap.size, 0, none⟩ = some (.int .i64 14) := by rw [cell_at h0.box]; rfl
  have d0 : (w.alloc (.cells (valA T N vS K E vI (.slice la n lc)) TSVal (0, 0))).cell? ⟨w.heap.size, 0, none⟩ = some (.int .i64 T) := by rw [cell_at (alloc_new w _)]; rfl
  have ff := free_at (alloc_new w (.cells (valA T N vS K E vI (.slice la n lc)) TSVal (0, 0))) 0
  have HO := Lib.hid (show ∀ X, Calls Tryz.prog 106 #[.int .i64 14] X fun e w' => e = .returned (.int .i64 (-1)) ∧ X = w' from fun X => S_op 14 X)
  have ha : bits .and .i64 T 255 = 14 := (and255 T).trans hT
  have HS := Lib.hid hst
  have HE := Lib.hid hen
  have HQ := Lib.hid hq
  have HEL := Lib.hid hel
  have HST := Lib.hid hstep
  have HFI := Lib.hid hfin
  have HD0 := Lib.hid hdn0
  have HDN := Lib.hid hd
  
  have hnn : (n : Int) ≤ 1000000 := by omega
  have hdd : d ≤ n := by omega
  have hd0 : (0 : Int) ≤ (d : Int) := by omega
  have hd1 : (d : Int) ≤ 1000000 := by omega
  clear hst hen hq hel hstep hfin hdn0 h0 hF h hput hE hcell hL hB hout hc hd hnm hT hm
  go_enter Tryz.func73, Tryz.ntmps73
  go_wp2_with fail
  (with_reducible refine (HO.out _).mono ?_)
  rintro e w' ⟨rfl, rfl⟩
  go_wp2_with fail
  (with_reducible refine HS.out.mono ?_)
  rintro e Y ⟨rfl, hY⟩
  have q1 := HQ.out _ _ hY
  have c1 : Y.cell? ⟨w.heap.size, 0, none⟩ = some (.int .i64 14) := by rw [cell_at hY.box]; rfl
  have HY := Lib.hid hY
  clear hY q0 c0 d0 ff
  go_wp2_with fail
  go_loopw [11] (fun i wr => ∃ (k : Nat) (dn : List UInt8), i = .int .i64 k ∧ k ≤ d ∧ SAt p c w (valA 14 N vS K E vI (.slice la n lc)) (s.add dn) wr ∧ dn ++ bytesAll c.strictW (allW (L.drop k) (d - k)) = B) (fun i _ => d - (intOf i).toNat)
  case atStart => exact ⟨0, _, rfl, by omega, HY.out, HD0.out⟩
  case round =>
    obtain ⟨k, dn, rfl, hk, hA, hdn⟩ := hrel
    have q2 := HQ.out _ _ hA
    rcases Nat.lt_or_ge k d with hlt | hge
    · obtain ⟨g, o, x, sa, sn, sc, ia', il', ic', la', ll', lc', rfl, hx, hus, hcc⟩ := HEL.out k (by omega)
      have hcw := hcc _ _ hA
      obtain ⟨hcall, hnext⟩ := HST.out k x dn _ hlt hx hA hdn
      rw [hus] at hcw hcall
      have e0 : wr.cell? ⟨g, o + k * 7, none⟩ = some (.int .i64 x.T) := hcw 0 _ rfl
      have e1 : wr.cell? ⟨g, o + k * 7 + 1, none⟩ = some (.int .i64 x.N) := hcw 1 _ rfl
      have e2 : wr.cell? ⟨g, o + k * 7 + 2, none⟩ = some (.slice sa sn sc) := hcw 2 _ rfl
      have e3 : wr.cell? ⟨g, o + k * 7 + 3, none⟩ = some (.int .i64 x.K) := hcw 3 _ rfl
      have e4 : wr.cell? ⟨g, o + k * 7 + 4, none⟩ = some (.int .i64 x.E) := hcw 4 _ rfl
      have e5 : wr.cell? ⟨g, o + k * 7 + 5, none⟩ = some (.slice ia' il' ic') := hcw 5 _ rfl
      have e6 : wr.cell? ⟨g, o + k * 7 + 6, none⟩ = some (.slice la' ll' lc') := hcw 6 _ rfl
      have HV := Lib.hid hcall
      have HN := Lib.hid hnext
      have hk0 : (0 : Int) ≤ (k : Int) := by omega
      have hk1 : (k : Int) < (d : Int) := by omega
      have hk2 : (k : Int) < (n : Int) := by omega
      have hk3 : (k : Int) ≤ 1000000 := by omega
      clear hcall hnext hcw hcc hus hx hdn hA q1 c1
      go_wp2_with fail
      (with_reducible refine HV.out.mono ?_)
      rintro e Z ⟨rfl, hZ⟩
      have HZ := Lib.hid hZ
      clear hZ e0 e1 e2 e3 e4 e5 e6 q2
      go_wp2_with fail
      go_roundw
      case rel => exact ⟨k + 1, _, by go_num, by omega, HZ.out, HN.out⟩
      case measure => simp [intOf]; omega
    · obtain rfl : k = d := by omega
      have e := HFI.out dn hdn
      rw [e] at hA
      have HX := Lib.hid hA
      clear hA hdn e q1 c1
      have hkk : ¬ (k : Int) < (k : Int) := by omega
      have hkn : ¬ (k : Int) < (n : Int) := by have := HDN.out; omega
      go_wp2_with fail
      (with_reducible refine (HE.out _ HX.out).mono ?_)
      rintro e Z ⟨rfl, hZ⟩
      rw [SSt.add_nil] at hZ
      have HZ := Lib.hid hZ.done
      clear hZ q2
      go_wp2
      go_ret
      exact HZ.out
theorem S_put15 (p : Nat) (c : ConfV) (hc : c.proto ≠ 1) (w0 w : World) (s : SSt) (T N K E : Int) (vS vI : Value) (la : Option Addr) (n lc d m : Nat) (us : Nat → Array Value) (L : List VT) (hL : L.length = n) (hT : T % 256 = 15) (hnm : n ≤ 1000000) (hm : m = n / 2) (hd : d = n)
    (hcell : 0 < n → ∃ g o, la = some ⟨g, o, none⟩ ∧ ∀ j, j < n → ∀ i u, (us j)[i]? = some u → w0.cell? ⟨g, o + j * 7 + i, none⟩ = some u)
    (hE : ∀ (j : Nat) x, L[j]? = some x → ValR w0 x (.agg (us j))) (hput : ∀ (j : Nat) x, L[j]? = some x → SPutOK p c x) (hF : Fr noF (SwF p w) w0 w) (h : SwI p c w s)
    (B : List UInt8) (hB : B = (WOp.listBegin (E % 256) n).binB c.strictW ++ bytesAll c.strictW (allW L d)) (hout : s.out.length + B.length ≤ 10000000000) :
    Calls Tryz.prog 73 #[.pointer (some ⟨p, 0, none⟩), .agg (valA T N vS K E vI (.slice la n lc))] w (SR p c w 0 (s.add B)) := by
  have h0 := SAt.start h (valA 15 N vS K E vI (.slice la n lc))
  have hst := S_step0 9 E 0 n 0 (by decide) p c hc h0 (by omega) ((WOp.listBegin (E % 256) n).binB c.strictW) rfl
  have hen := fun X (hX : SAt p c w (valA 15 N vS K E vI (.slice la n lc)) (s.add B) X) => S_step0 10 0 0 0 0 (by decide) p c hc hX (by show (s.out ++ B).length ≤ _; rw [List.length_append]; exact hout) [] rfl
  have hq : ∀ (s' : SSt) (X : World), SAt p c w (valA 15 N vS K E vI (.slice la n lc)) s' X → X.cell? ⟨w.heap.size, 4, none⟩ = some (.int .i64 E) ∧ X.cell? ⟨w.heap.size, 6, none⟩ = some (.slice la n lc) := fun s' X hX => ⟨(cell_at hX.box 4).trans rfl, (cell_at hX.box 6).trans rfl⟩
  have hel : ∀ k, k < n → ∃ g o x sa sn sc ia' il' ic' la' ll' lc', la = some ⟨g, o, none⟩ ∧ L[k]? = some x ∧ us k = valA x.T x.N (.slice sa sn sc) x.K x.E (.slice ia' il' ic') (.slice la' ll' lc') ∧
      ∀ s' X, SAt p c w (valA 15 N vS K E vI (.slice la n lc)) s' X → ∀ i u, (us k)[i]? = some u → X.cell? ⟨g, o + k * 7 + i, none⟩ = some u := fun k hk => by
    obtain ⟨g, o, rfl, hcc⟩ := hcell (by omega)
    have hx : L[k]? = some L[k] := List.getElem?_eq_getElem (by omega)
    obtain ⟨sa, sn, sc, ia', il', ic', la', ll', lc', he⟩ := (hE k _ hx).sl
    injection he with he
    exact ⟨g, o, _, sa, sn, sc, ia', il', ic', la', ll', lc', rfl, hx, he, fun s' X hX i u hu => (hF.trans hX.fr).cell (hcc k hk i u hu) fun x => x⟩
  have hstep : ∀ (k : Nat) x dn X, k < d → L[k]? = some x → SAt p c w (valA 15 N vS K E vI (.slice la n lc)) (s.add dn) X → dn ++ bytesAll c.strictW (allW (L.drop k) (d - k)) = B →
      (Calls Tryz.prog 73 #[.pointer (some ⟨p, 0, none⟩), .agg (us k)] X (fun e Y => e = .returned (.int .i64 0) ∧ SAt p c w (valA 15 N vS K E vI (.slice la n lc)) (s.add (dn ++ x.bytesB c.strictW)) Y)) ∧ (dn ++ x.bytesB c.strictW) ++ bytesAll c.strictW (allW (L.drop (k + 1)) (d - (k + 1))) = B := fun k x dn X hk hx hX hdn => by
    rw [allW_drop hx hk, bytesAll_append, bytesAll_wops, ← List.append_assoc] at hdn
    have hlen := congrArg List.length hdn
    simp only [List.length_append] at hlen
    refine ⟨?_, hdn⟩
    rw [← SSt.add_add]
    exact hX.elem hF (hput k x hx) (hE k x hx) (by show (s.out ++ dn).length + _ ≤ _; rw [List.length_append]; omega)
  have hfin : ∀ dn, dn ++ bytesAll c.strictW (allW (L.drop d) (d - d)) = B → dn = B := fun dn h => by
    rw [allW_end] at h
    simpa [bytesAll] using h
  have hdn0 : (WOp.listBegin (E % 256) n).binB c.strictW ++ bytesAll c.strictW (allW (L.drop 0) (d - 0)) = B := by rw [List.drop_zero, Nat.sub_zero]; exact hB.symm
  have q0 := hq _ _ h0
  have c0 : (w.alloc (.cells (valA 15 N vS K E vI (.slice la n lc)) TSVal (0, 0))).cell? ⟨w.heap.size, 0, none⟩ = some (.int .i64 15) := by rw [cell_at h0.box]; rfl
  have d0 : (w.alloc (.cells (valA T N vS K E vI (.slice la n lc)) TSVal (0, 0))).cell? ⟨w.heap.size, 0, none⟩ = some (.int .i64 T) := by rw [cell_at (alloc_new w _)]; rfl
  have ff := free_at (alloc_new w (.cells (valA T N vS K E vI (.slice la n lc)) TSVal (0, 0))) 0
  have HO := Lib.hid (show ∀ X, Calls Tryz.prog 106 #[.int .i64 15] X fun e w' => e = .returned (.int .i64 (-1)) ∧ X = w' from fun X => S_op 15 X)
  have ha : bits .and .i64 T 255 = 15 := (and255 T).trans hT
  have HS := Lib.hid hst
  have HE := Lib.hid hen
  have HQ := Lib.hid hq
  have HEL := Lib.hid hel
  have HST := Lib.hid hstep
  have HFI := Lib.hid hfin
  have HD0 := Lib.hid hdn0
  have HDN := Lib.hid hd
  
  have hnn : (n : Int) ≤ 1000000 := by omega
  have hdd : d ≤ n := by omega
  have hd0 : (0 : Int) ≤ (d : Int) := by omega
  have hd1 : (d : Int) ≤ 1000000 := by omega
  clear hst hen hq hel hstep hfin hdn0 h0 hF h hput hE hcell hL hB hout hc hd hnm hT hm
  go_enter Tryz.func73, Tryz.ntmps73
  go_wp2_with fail
  (with_reducible refine (HO.out _).mono ?_)
  rintro e w' ⟨rfl, rfl⟩
  go_wp2_with fail
  (with_reducible refine HS.out.mono ?_)
  rintro e Y ⟨rfl, hY⟩
  have q1 := HQ.out _ _ hY
  have c1 : Y.cell? ⟨w.heap.size, 0, none⟩ = some (.int .i64 15) := by rw [cell_at hY.box]; rfl
  have HY := Lib.hid hY
  clear hY q0 c0 d0 ff
  go_wp2_with fail
  go_loopw [11] (fun i wr => ∃ (k : Nat) (dn : List UInt8), i = .int .i64 k ∧ k ≤ d ∧ SAt p c w (valA 15 N vS K E vI (.slice la n lc)) (s.add dn) wr ∧ dn ++ bytesAll c.strictW (allW (L.drop k) (d - k)) = B) (fun i _ => d - (intOf i).toNat)
  case atStart => exact ⟨0, _, rfl, by omega, HY.out, HD0.out⟩
  case round =>
    obtain ⟨k, dn, rfl, hk, hA, hdn⟩ := hrel
    have q2 := HQ.out _ _ hA
    rcases Nat.lt_or_ge k d with hlt | hge
    · obtain ⟨g, o, x, sa, sn, sc, ia', il', ic', la', ll', lc', rfl, hx, hus, hcc⟩ := HEL.out k (by omega)
      have hcw := hcc _ _ hA
      obtain ⟨hcall, hnext⟩ := HST.out k x dn _ hlt hx hA hdn
      rw [hus] at hcw hcall
      have e0 : wr.cell? ⟨g, o + k * 7, none⟩ = some (.int .i64 x.T) := hcw 0 _ rfl
      have e1 : wr.cell? ⟨g, o + k * 7 + 1, none⟩ = some (.int .i64 x.N) := hcw 1 _ rfl
      have e2 : wr.cell? ⟨g, o + k * 7 + 2, none⟩ = some (.slice sa sn sc) := hcw 2 _ rfl
      have e3 : wr.cell? ⟨g, o + k * 7 + 3, none⟩ = some (.int .i64 x.K) := hcw 3 _ rfl
      have e4 : wr.cell? ⟨g, o + k * 7 + 4, none⟩ = some (.int .i64 x.E) := hcw 4 _ rfl
      have e5 : wr.cell? ⟨g, o + k * 7 + 5, none⟩ = some (.slice ia' il' ic') := hcw 5 _ rfl
      have e6 : wr.cell? ⟨g, o + k * 7 + 6, none⟩ = some (.slice la' ll' lc') := hcw 6 _ rfl
      have HV := Lib.hid hcall
      have HN := Lib.hid hnext
      have hk0 : (0 : Int) ≤ (k : Int) := by omega
      have hk1 : (k : Int) < (d : Int) := by omega
      have hk2 : (k : Int) < (n : Int) := by omega
      have hk3 : (k : Int) ≤ 1000000 := by omega
      clear hcall hnext hcw hcc hus hx hdn hA q1 c1
      go_wp2_with fail
      (with_reducible refine HV.out.mono ?_)
      rintro e Z ⟨rfl, hZ⟩
      have HZ := Lib.hid hZ
      clear hZ e0 e1 e2 e3 e4 e5 e6 q2
      go_wp2_with fail
      go_roundw
      case rel => exact ⟨k + 1, _, by go_num, by omega, HZ.out, HN.out⟩
      case measure => simp [intOf]; omega
    · obtain rfl : k = d := by omega
      have e := HFI.out dn hdn
      rw [e] at hA
      have HX := Lib.hid hA
      clear hA hdn e q1 c1
      have hkk : ¬ (k : Int) < (k : Int) := by omega
      have hkn : ¬ (k : Int) < (n : Int) := by have := HDN.out; omega
      go_wp2_with fail
      (with_reducible refine (HE.out _ HX.out).mono ?_)
      rintro e Z ⟨rfl, hZ⟩
      rw [SSt.add_nil] at hZ
      have HZ := Lib.hid hZ.done
      clear hZ q2
      go_wp2
      go_ret
      exact HZ.out
theorem S_put13 (p : Nat) (c : ConfV) (hc : c.proto ≠ 1) (w0 w : World) (s : SSt) (T N K E : Int) (vS vI : Value) (la : Option Addr) (n lc d m : Nat) (us : Nat → Array Value) (L : List VT) (hL : L.length = n) (hT : T % 256 = 13) (hnm : n ≤ 1000000) (hm : m = n / 2) (hd : d = m * 2)
    (hcell : 0 < n → ∃ g o, la = some ⟨g, o, none⟩ ∧ ∀ j, j < n → ∀ i u, (us j)[i]? = some u → w0.cell? ⟨g, o + j * 7 + i, none⟩ = some u)
    (hE : ∀ (j : Nat) x, L[j]? = some x → ValR w0 x (.agg (us j))) (hput : ∀ (j : Nat) x, L[j]? = some x → SPutOK p c x) (hF : Fr noF (SwF p w) w0 w) (h : SwI p c w s)
    (B : List UInt8) (hB : B = (WOp.mapBegin (K % 256) (E % 256) m).binB c.strictW ++ bytesAll c.strictW (allW L d)) (hout : s.out.length + B.length ≤ 10000000000) :
    Calls Tryz.prog 73 #[.pointer (some ⟨p, 0, none⟩), .agg (valA T N vS K E vI (.slice la n lc))] w (SR p c w 0 (s.add B)) := by
  have h0 := SAt.start h (valA 13 N vS K E vI (.slice la n lc))
  have hst := S_step0 7 E K m 0 (by decide) p c hc h0 (by omega) ((WOp.mapBegin (K % 256) (E % 256) m).binB c.strictW) rfl
  have hen := fun X (hX : SAt p c w (valA 13 N vS K E vI (.slice la n lc)) (s.add B) X) => S_step0 8 0 0 0 0 (by decide) p c hc hX (by show (s.out ++ B).length ≤ _; rw [List.length_append]; exact hout) [] rfl
  have hq : ∀ (s' : SSt) (X : World), SAt p c w (valA 13 N vS K E vI (.slice la n lc)) s' X → X.cell? ⟨w.heap.size, 3, none⟩ = some (.int .i64 K) ∧ X.cell? ⟨w.heap.size, 4, none⟩ = some (.int .i64 E) ∧ X.cell? ⟨w.heap.size, 6, none⟩ = some (.slice la n lc) := fun s' X hX => ⟨(cell_at hX.box 3).trans rfl, (cell_at hX.box 4).trans rfl, (cell_at hX.box 6).trans rfl⟩
  have hel : ∀ k, k < n → ∃ g o x sa sn sc ia' il' ic' la' ll' lc', la = some ⟨g, o, none⟩ ∧ L[k]? = some x ∧ us k = valA x.T x.N (.slice sa sn sc) x.K x.E (.slice ia' il' ic') (.slice la' ll' lc') ∧
      ∀ s' X, SAt p c w (valA 13 N vS K E vI (.slice la n lc)) s' X → ∀ i u, (us k)[i]? = some u → X.cell? ⟨g, o + k * 7 + i, none⟩ = some u := fun k hk => by
    obtain ⟨g, o, rfl, hcc⟩ := hcell (by omega)
    have hx : L[k]? = some L[k] := List.getElem?_eq_getElem (by omega)
    obtain ⟨sa, sn, sc, ia', il', ic', la', ll', lc', he⟩ := (hE k _ hx).sl
    injection he with he
    exact ⟨g, o, _, sa, sn, sc, ia', il', ic', la', ll', lc', rfl, hx, he, fun s' X hX i u hu => (hF.trans hX.fr).cell (hcc k hk i u hu) fun x => x⟩
  have hstep : ∀ (k : Nat) x dn X, k < d → L[k]? = some x → SAt p c w (valA 13 N vS K E vI (.slice la n lc)) (s.add dn) X → dn ++ bytesAll c.strictW (allW (L.drop k) (d - k)) = B →
      (Calls Tryz.prog 73 #[.pointer (some ⟨p, 0, none⟩), .agg (us k)] X (fun e Y => e = .returned (.int .i64 0) ∧ SAt p c w (valA 13 N vS K E vI (.slice la n lc)) (s.add (dn ++ x.bytesB c.strictW)) Y)) ∧ (dn ++ x.bytesB c.strictW) ++ bytesAll c.strictW (allW (L.drop (k + 1)) (d - (k + 1))) = B := fun k x dn X hk hx hX hdn => by
    rw [allW_drop hx hk, bytesAll_append, bytesAll_wops, ← List.append_assoc] at hdn
    have hlen := congrArg List.length hdn
    simp only [List.length_append] at hlen
    refine ⟨?_, hdn⟩
    rw [← SSt.add_add]
    exact hX.elem hF (hput k x hx) (hE k x hx) (by show (s.out ++ dn).length + _ ≤ _; rw [List.length_append]; omega)
  have hfin : ∀ dn, dn ++ bytesAll c.strictW (allW (L.drop d) (d - d)) = B → dn = B := fun dn h => by
    rw [allW_end] at h
    simpa [bytesAll] using h
  have hdn0 : (WOp.mapBegin (K % 256) (E % 256) m).binB c.strictW ++ bytesAll c.strictW (allW (L.drop 0) (d - 0)) = B := by rw [List.drop_zero, Nat.sub_zero]; exact hB.symm
  have q0 := hq _ _ h0
  have c0 : (w.alloc (.cells (valA 13 N vS K E vI (.slice la n lc)) TSVal (0, 0))).cell? ⟨w.heap.size, 0, none⟩ = some (.int .i64 13) := by rw [cell_at h0.box]; rfl
  have d0 : (w.alloc (.cells (valA T N vS K E vI (.slice la n lc)) TSVal (0, 0))).cell? ⟨w.heap.size, 0, none⟩ = some (.int .i64 T) := by rw [cell_at (alloc_new w _)]; rfl
  have ff := free_at (alloc_new w (.cells (valA T N vS K E vI (.slice la n lc)) TSVal (0, 0))) 0
  have HO := Lib.hid (show ∀ X, Calls Tryz.prog 106 #[.int .i64 13] X fun e w' => e = .returned (.int .i64 (-1)) ∧ X = w' from fun X => S_op 13 X)
  have ha : bits .and .i64 T 255 = 13 := (and255 T).trans hT
  have HS := Lib.hid hst
  have HE := Lib.hid hen
  have HQ := Lib.hid hq
  have HEL := Lib.hid hel
  have HST := Lib.hid hstep
  have HFI := Lib.hid hfin
  have HD0 := Lib.hid hdn0
  have HDN := Lib.hid hd
  have x1 : ((n : Nat) : Int) / 2 = (m : Int) := by omega
  have x2 : ((n : Nat) : Int).tdiv 2 = (m : Int) := by rw [Int.tdiv_eq_ediv_of_nonneg (by omega)]; exact x1
  have x3 : (m : Int) * 2 = (d : Int) := by omega
  have x4 : (m : Int) ≤ 1000000 := by omega
  have x5 : (0 : Int) ≤ (m : Int) := by omega
  have hnn : (n : Int) ≤ 1000000 := by omega
  have hdd : d ≤ n := by omega
  have hd0 : (0 : Int) ≤ (d : Int) := by omega
  have hd1 : (d : Int) ≤ 1000000 := by omega
  clear hst hen hq hel hstep hfin hdn0 h0 hF h hput hE hcell hL hB hout hc hd hnm hT hm
  go_enter Tryz.func73, Tryz.ntmps73
  go_wp2_with fail
  (with_reducible refine (HO.out _).mono ?_)
  rintro e w' ⟨rfl, rfl⟩
  go_wp2_with fail
  (with_reducible refine HS.out.mono ?_)
  rintro e Y ⟨rfl, hY⟩
  have q1 := HQ.out _ _ hY
  have c1 : Y.cell? ⟨w.heap.size, 0, none⟩ = some (.int .i64 13) := by rw [cell_at hY.box]; rfl
  have HY := Lib.hid hY
  clear hY q0 c0 d0 ff
  go_wp2_with fail
  go_loopw [7] (fun i wr => ∃ (k : Nat) (dn : List UInt8), i = .int .i64 k ∧ k ≤ d ∧ SAt p c w (valA 13 N vS K E vI (.slice la n lc)) (s.add dn) wr ∧ dn ++ bytesAll c.strictW (allW (L.drop k) (d - k)) = B) (fun i _ => d - (intOf i).toNat)
  case atStart => exact ⟨0, _, rfl, by omega, HY.out, HD0.out⟩
  case round =>
    obtain ⟨k, dn, rfl, hk, hA, hdn⟩ := hrel
    have q2 := HQ.out _ _ hA
    rcases Nat.lt_or_ge k d with hlt | hge
    · obtain ⟨g, o, x, sa, sn, sc, ia', il', ic', la', ll', lc', rfl, hx, hus, hcc⟩ := HEL.out k (by omega)
      have hcw := hcc _ _ hA
      obtain ⟨hcall, hnext⟩ := HST.out k x dn _ hlt hx hA hdn
      rw [hus] at hcw hcall
      have e0 : wr.cell? ⟨g, o + k * 7, none⟩ = some (.int .i64 x.T) := hcw 0 _ rfl
      have e1 : wr.cell? ⟨g, o + k * 7 + 1, none⟩ = some (.int .i64 x.N) := hcw 1 _ rfl
      have e2 : wr.cell? ⟨g, o + k * 7 + 2, none⟩ = some (.slice sa sn sc) := hcw 2 _ rfl
      have e3 : wr.cell? ⟨g, o + k * 7 + 3, none⟩ = some (.int .i64 x.K) := hcw 3 _ rfl
      have e4 : wr.cell? ⟨g, o + k * 7 + 4, none⟩ = some (.int .i64 x.E) := hcw 4 _ rfl
      have e5 : wr.cell? ⟨g, o + k * 7 + 5, none⟩ = some (.slice ia' il' ic') := hcw 5 _ rfl
      have e6 : wr.cell? ⟨g, o + k * 7 + 6, none⟩ = some (.slice la' ll' lc') := hcw 6 _ rfl
      have HV := Lib.hid hcall
      have HN := Lib.hid hnext
      have hk0 : (0 : Int) ≤ (k : Int) := by omega
      have hk1 : (k : Int) < (d : Int) := by omega
      have hk2 : (k : Int) < (n : Int) := by omega
      have hk3 : (k : Int) ≤ 1000000 := by omega
      clear hcall hnext hcw hcc hus hx hdn hA q1 c1
      go_wp2_with fail
      (with_reducible refine HV.out.mono ?_)
      rintro e Z ⟨rfl, hZ⟩
      have HZ := Lib.hid hZ
      clear hZ e0 e1 e2 e3 e4 e5 e6 q2
      go_wp2_with fail
      go_roundw
      case rel => exact ⟨k + 1, _, by go_num, by omega, HZ.out, HN.out⟩
      case measure => simp [intOf]; omega
    · obtain rfl : k = d := by omega
      have e := HFI.out dn hdn
      rw [e] at hA
      have HX := Lib.hid hA
      clear hA hdn e q1 c1
      have hkk : ¬ (k : Int) < (k : Int) := by omega
      skip
      go_wp2_with fail
      (with_reducible refine (HE.out _ HX.out).mono ?_)
      rintro e Z ⟨rfl, hZ⟩
      rw [SSt.add_nil] at hZ
      have HZ := Lib.hid hZ.done
      clear hZ q2
      go_wp2
      go_ret
      exact HZ.out
end Go.Proofs.YtoikkjefaakchaaGreatDoor
