/- laws.isRight: it answers, and touches nothing. -/
import Derived.Test.YtkfkieebcahiiaaGreatDoorZHvy
import Derived.Test.YtkfkieebcahiiaaGreatDoorZE
import Derived.Test.YtkfkieebcahiiaaGreatDoorZLists
set_option linter.all false
namespace Go.Proofs.YtkfkieebcahiiaaGreatDoor
open Go Go.RowKit
set_option maxHeartbeats 4000000
set_option maxRecDepth 100000
set_option linter.all false

theorem L_isType (t : Int) (w : World) : Calls Tryz.prog 58 #[.int .i64 t] w (fun e w' => ∃ b, e = .returned (.bool b) ∧ w' = w) := by
  by_cases h : isTy t
  · exact (L_isType_yes t h w).mono fun e w' ⟨h1, h2⟩ => ⟨_, h1, h2.symm⟩
  · exact (L_isType_no t h w).mono fun e w' ⟨h1, h2⟩ => ⟨_, h1, h2.symm⟩

/-- What stands at a round of the loop over the elements. -/
structure RtAt (w : World) (W0 : World) (cs : Array Value) (n : Nat) (i : Value) (X : World) : Prop where
  k : ∃ k : Nat, i = .int .i64 k ∧ k ≤ n
  fr : Fr noF noF W0 X

theorem L_isRight (x : VT) : ∀ (w : World) (v : Value), ValR w x v → Calls Tryz.prog 27 #[v] w (BoolR w) := by
  induction x using VT.induct with
  | h T N Sb K E ids L ih =>
    intro w v hV
    obtain ⟨vS, vI, vL, us, rfl, h1, h2, ⟨la, lc, rfl, hlc, hlm, hcell⟩, hE⟩ := hV.inv
    obtain ⟨sa, sn, sc, rfl, hsn⟩ := h1.len
    obtain ⟨ia, il, ic, rfl, hil, hic, him⟩ := h2.len
    have hcall : ∀ (k : Nat) x X, L[k]? = some x → Fr noF noF w X → Calls Tryz.prog 27 #[.agg (us k)] X (BoolR X) := fun k x X hk hf => ih x (List.mem_of_getElem? hk) X _ ((hE k x hk).keep hf)
    have hel : ∀ k, k < L.length → ∃ g o x sa sn sc ia' il' ic' la' ll' lc', la = some ⟨g, o, none⟩ ∧ L[k]? = some x ∧ us k = valA x.T x.N (.slice sa sn sc) x.K x.E (.slice ia' il' ic') (.slice la' ll' lc') ∧
        ∀ X, Fr noF noF w X → ∀ i u, (us k)[i]? = some u → X.cell? ⟨g, o + k * 7 + i, none⟩ = some u := fun k hk => by
      obtain ⟨g, o, rfl, hcc⟩ := hcell (by omega)
      have hx : L[k]? = some L[k] := List.getElem?_eq_getElem (by omega)
      obtain ⟨sa, sn, sc, ia', il', ic', la', ll', lc', he⟩ := (hE k _ hx).sl
      injection he with he
      exact ⟨g, o, _, sa, sn, sc, ia', il', ic', la', ll', lc', rfl, hx, he, fun X hX i u hu => hX.cell (hcc k hk i u hu) fun x => x⟩
    have hb0 := alloc_new w (.cells (valA T N (.slice sa sn sc) K E (.slice ia il ic) (.slice la L.length lc)) 28 (0, 0))
    have c0 := cell_at hb0
    have hlm2 : (L.length : Int) ≤ 9223372036854775807 := by unfold maxLen at hlm; omega
    have hf0 : Fr noF noF w (w.alloc (.cells (valA T N (.slice sa sn sc) K E (.slice ia il ic) (.slice la L.length lc)) 28 (0, 0))) := (Fr.refl noF w).alloc _
    have HT := Lib.hid L_isType
    have HC := Lib.hid hcall
    have HEL := Lib.hid hel
    have H0 := Lib.hid (And.intro hf0 hb0)
    by_cases hT : isTy T
    · have HTT := Lib.hid (fun w => L_isType_yes T hT w)
      clear hcall hel hf0 hb0 hE hcell h1 h2 hsn hil hic him hV ih hlc hlm
      rcases hT with rfl | rfl | rfl | rfl | rfl | rfl | rfl | rfl | rfl | rfl | rfl | rfl
      case inr.inr.inr.inr.inr.inr.inr.inl =>
        by_cases hn : (il : Int) = (L.length : Int)
        · have hn1 : ((il : Int) != (L.length : Int)) = false := by simp [hn]
          clear hn
          go_enter Tryz.func27, Tryz.ntmps27
          go_wp2_with (first | (go_at_call 58; (with_reducible refine (HTT.out _).mono ?_); rintro e w' ⟨rfl, rfl⟩) | fail)
          go_loopw [3] (fun i wr => ∃ k : Nat, i = .int .i64 k ∧ k ≤ L.length ∧ Fr noF noF w wr ∧ wr.heap[w.heap.size]? = some (.cells (valA 12 N (.slice sa sn sc) K E (.slice ia il ic) (.slice la L.length lc)) 28 (0, 0))) (fun i _ => L.length - (intOf i).toNat)
          case atStart => exact ⟨0, rfl, by omega, H0.out.1, H0.out.2⟩
          case round =>
            obtain ⟨k, rfl, hk, hf, hb⟩ := hrel
            clear c0 H0 HTT
            have cc := cell_at hb
            have c0 := cc 0
            have c3 := cc 3
            have c4 := cc 4
            have c6 := cc 6
            simp only [List.getElem?_toArray, List.getElem?_cons_zero, List.getElem?_cons_succ, List.size_toArray] at c0 c3 c4 c6
            clear cc
            have hk0 : (0 : Int) ≤ (k : Int) := by omega
            by_cases hlt : k < L.length
            · obtain ⟨g, o, x, ta, tn, tc, ja, jl, jc, ma, ml, mc, rfl, hx, hus, hcc⟩ := HEL.out k hlt
              have hcall := HC.out k x wr hx hf
              rw [hus] at hcc hcall
              have d0 : wr.cell? ⟨g, o + k * 7, none⟩ = some (.int .i64 x.T) := hcc wr hf 0 _ rfl
              have d1 : wr.cell? ⟨g, o + k * 7 + 1, none⟩ = some (.int .i64 x.N) := hcc wr hf 1 _ rfl
              have d2 : wr.cell? ⟨g, o + k * 7 + 2, none⟩ = some (.slice ta tn tc) := hcc wr hf 2 _ rfl
              have d3 : wr.cell? ⟨g, o + k * 7 + 3, none⟩ = some (.int .i64 x.K) := hcc wr hf 3 _ rfl
              have d4 : wr.cell? ⟨g, o + k * 7 + 4, none⟩ = some (.int .i64 x.E) := hcc wr hf 4 _ rfl
              have d5 : wr.cell? ⟨g, o + k * 7 + 5, none⟩ = some (.slice ja jl jc) := hcc wr hf 5 _ rfl
              have d6 : wr.cell? ⟨g, o + k * 7 + 6, none⟩ = some (.slice ma ml mc) := hcc wr hf 6 _ rfl
              have hk1 : (k : Int) < (L.length : Int) := by omega
              have HCA := Lib.hid hcall
              have HF := Lib.hid (And.intro hk (And.intro hlt (And.intro hf hb)))
              clear hcall hcc hus hx hf hb hk hlt
              go_wp2_with fail
              (with_reducible refine HCA.out.mono ?_)
              rintro e Y ⟨b, rfl, hY⟩
              have HY := Lib.hid (And.intro (HF.out.2.2.1.trans hY) (hY.block HF.out.2.2.2 fun x => x))
              clear hY c0 c3 c4 c6 d0 d1 d2 d3 d4 d5 d6
              cases b
              · go_wp2
                go_ret
                exact ⟨_, rfl, HY.out.1⟩
              · go_wp2_with fail
                go_roundw
                case rel => exact ⟨k + 1, by go_num, by have := HF.out; omega, HY.out⟩
                case measure => have := HF.out; simp [intOf]; omega
            · have hk1 : ¬ (k : Int) < (L.length : Int) := by omega
              have HF := Lib.hid hf
              clear hf hb hk hlt
              go_wp2
              go_ret
              exact ⟨_, rfl, HF.out⟩
        · have hn1 : ((il : Int) != (L.length : Int)) = true := by simp [hn]
          clear hn
          go_enter Tryz.func27, Tryz.ntmps27
          go_wp2_with (first | (go_at_call 58; (with_reducible refine (HTT.out _).mono ?_); rintro e w' ⟨rfl, rfl⟩) | fail)
          go_ret
          exact ⟨_, rfl, H0.out.1⟩
      case inr.inr.inr.inr.inr.inr.inr.inr.inl =>
        by_cases hn : (L.length : Int) % 2 = 0
        rotate_left
        · have hn1 : ((L.length : Int) % 2 != 0) = true := by simp [hn]
          clear hn
          go_enter Tryz.func27, Tryz.ntmps27
          go_wp2_with (first | (go_at_call 58; (with_reducible refine (HTT.out _).mono ?_); rintro e w' ⟨rfl, rfl⟩) | fail)
          go_ret
          exact ⟨_, rfl, H0.out.1⟩
        · have hn1 : ((L.length : Int) % 2 != 0) = false := by simp [hn]
          clear hn
          by_cases he : ((L.length : Int) = 0 ∧ K = 0) ∧ E = 0
          · obtain ⟨⟨he1, rfl⟩, rfl⟩ := he
            have he2 : ((L.length : Int) == 0) = true := by simp [he1]
            clear he1
            go_enter Tryz.func27, Tryz.ntmps27
            go_wp2_with (first | (go_at_call 58; (with_reducible refine (HTT.out _).mono ?_); rintro e w' ⟨rfl, rfl⟩) | fail)
            go_ret
            exact ⟨_, rfl, H0.out.1⟩
          · have hcs : (((L.length : Int) == 0) = false) ∨ (((L.length : Int) == 0) = true ∧ (K == 0) = false) ∨ (((L.length : Int) == 0) = true ∧ (K == 0) = true ∧ (E == 0) = false) := by
              simp only [beq_eq_false_iff_ne, beq_iff_eq]
              omega
            obtain ⟨bE, hbE⟩ : ∃ b, ∀ w, Calls Tryz.prog 58 #[.int .i64 E] w (fun e w' => e = .returned (.bool b) ∧ w' = w) := by
              by_cases h : isTy E
              · exact ⟨true, fun w => (L_isType_yes E h w).mono fun e w' ⟨h1, h2⟩ => ⟨h1, h2.symm⟩⟩
              · exact ⟨false, fun w => (L_isType_no E h w).mono fun e w' ⟨h1, h2⟩ => ⟨h1, h2.symm⟩⟩
            obtain ⟨bK, hbK⟩ : ∃ b, ∀ w, Calls Tryz.prog 58 #[.int .i64 K] w (fun e w' => e = .returned (.bool b) ∧ w' = w) := by
              by_cases h : isTy K
              · exact ⟨true, fun w => (L_isType_yes K h w).mono fun e w' ⟨h1, h2⟩ => ⟨h1, h2.symm⟩⟩
              · exact ⟨false, fun w => (L_isType_no K h w).mono fun e w' ⟨h1, h2⟩ => ⟨h1, h2.symm⟩⟩
            have HBE := Lib.hid hbE
            have HBK := Lib.hid hbK
            clear hbE hbK he
            rcases hcs with q1 | ⟨q1, q2⟩ | ⟨q1, q2, q3⟩
            all_goals
              cases bE
              · go_enter Tryz.func27, Tryz.ntmps27
                go_wp2_with (first | (go_at_call 58; (with_reducible refine (HTT.out _).mono ?_); rintro e w' ⟨rfl, rfl⟩) | (go_at_call 58; (with_reducible refine (HBE.out _).mono ?_); rintro e w' ⟨rfl, rfl⟩) | (go_at_call 58; (with_reducible refine (HBK.out _).mono ?_); rintro e w' ⟨rfl, rfl⟩) | fail)
                go_ret
                exact ⟨_, rfl, H0.out.1⟩
              · cases bK
                · go_enter Tryz.func27, Tryz.ntmps27
                  go_wp2_with (first | (go_at_call 58; (with_reducible refine (HTT.out _).mono ?_); rintro e w' ⟨rfl, rfl⟩) | (go_at_call 58; (with_reducible refine (HBE.out _).mono ?_); rintro e w' ⟨rfl, rfl⟩) | (go_at_call 58; (with_reducible refine (HBK.out _).mono ?_); rintro e w' ⟨rfl, rfl⟩) | fail)
                  go_ret
                  exact ⟨_, rfl, H0.out.1⟩
                · go_enter Tryz.func27, Tryz.ntmps27
                  go_wp2_with (first | (go_at_call 58; (with_reducible refine (HTT.out _).mono ?_); rintro e w' ⟨rfl, rfl⟩) | (go_at_call 58; (with_reducible refine (HBE.out _).mono ?_); rintro e w' ⟨rfl, rfl⟩) | (go_at_call 58; (with_reducible refine (HBK.out _).mono ?_); rintro e w' ⟨rfl, rfl⟩) | fail)
                  go_loopw [3] (fun i wr => ∃ k : Nat, i = .int .i64 k ∧ k ≤ L.length ∧ Fr noF noF w wr ∧ wr.heap[w.heap.size]? = some (.cells (valA 13 N (.slice sa sn sc) K E (.slice ia il ic) (.slice la L.length lc)) 28 (0, 0))) (fun i _ => L.length - (intOf i).toNat)
                  case atStart => exact ⟨0, rfl, by omega, H0.out.1, H0.out.2⟩
                  case round =>
                    obtain ⟨k, rfl, hk, hf, hb⟩ := hrel
                    clear c0 H0 HTT
                    have cc := cell_at hb
                    have c0 := cc 0
                    have c3 := cc 3
                    have c4 := cc 4
                    have c6 := cc 6
                    simp only [List.getElem?_toArray, List.getElem?_cons_zero, List.getElem?_cons_succ, List.size_toArray] at c0 c3 c4 c6
                    clear cc
                    have hk0 : (0 : Int) ≤ (k : Int) := by omega
                    by_cases hlt : k < L.length
                    · obtain ⟨g, o, x, ta, tn, tc, ja, jl, jc, ma, ml, mc, rfl, hx, hus, hcc⟩ := HEL.out k hlt
                      have hcall := HC.out k x wr hx hf
                      rw [hus] at hcc hcall
                      have d0 : wr.cell? ⟨g, o + k * 7, none⟩ = some (.int .i64 x.T) := hcc wr hf 0 _ rfl
                      have d1 : wr.cell? ⟨g, o + k * 7 + 1, none⟩ = some (.int .i64 x.N) := hcc wr hf 1 _ rfl
                      have d2 : wr.cell? ⟨g, o + k * 7 + 2, none⟩ = some (.slice ta tn tc) := hcc wr hf 2 _ rfl
                      have d3 : wr.cell? ⟨g, o + k * 7 + 3, none⟩ = some (.int .i64 x.K) := hcc wr hf 3 _ rfl
                      have d4 : wr.cell? ⟨g, o + k * 7 + 4, none⟩ = some (.int .i64 x.E) := hcc wr hf 4 _ rfl
                      have d5 : wr.cell? ⟨g, o + k * 7 + 5, none⟩ = some (.slice ja jl jc) := hcc wr hf 5 _ rfl
                      have d6 : wr.cell? ⟨g, o + k * 7 + 6, none⟩ = some (.slice ma ml mc) := hcc wr hf 6 _ rfl
                      have hk1 : (k : Int) < (L.length : Int) := by omega
                      have HCA := Lib.hid hcall
                      have HF := Lib.hid (And.intro hk (And.intro hlt (And.intro hf hb)))
                      clear hcall hcc hus hx hf hb hk hlt
                      by_cases hp : (k : Int) % 2 = 0
                      · have hp1 : ((k : Int) % 2 == 0) = true := by simp [hp]
                        by_cases ht : x.T = K
                        · have ht1 : (x.T != K) = false := by simp [ht]
                          clear ht
                          go_wp2_with fail
                          (with_reducible refine HCA.out.mono ?_)
                          rintro e Y ⟨b, rfl, hY⟩
                          have HY := Lib.hid (And.intro (HF.out.2.2.1.trans hY) (hY.block HF.out.2.2.2 fun x => x))
                          clear hY c0 c3 c4 c6 d0 d1 d2 d3 d4 d5 d6
                          cases b
                          · go_wp2
                            go_ret
                            exact ⟨_, rfl, HY.out.1⟩
                          · go_wp2_with fail
                            go_roundw
                            case rel => exact ⟨k + 1, by go_num, by have := HF.out; omega, HY.out⟩
                            case measure => have := HF.out; simp [intOf]; omega
                        · have ht1 : (x.T != K) = true := by simp [ht]
                          clear ht
                          go_wp2
                          go_ret
                          exact ⟨_, rfl, HF.out.2.2.1⟩
                      · have hp1 : ((k : Int) % 2 == 0) = false := by simp [hp]
                        by_cases ht : x.T = E
                        · have ht1 : (x.T != E) = false := by simp [ht]
                          clear ht
                          go_wp2_with fail
                          (with_reducible refine HCA.out.mono ?_)
                          rintro e Y ⟨b, rfl, hY⟩
                          have HY := Lib.hid (And.intro (HF.out.2.2.1.trans hY) (hY.block HF.out.2.2.2 fun x => x))
                          clear hY c0 c3 c4 c6 d0 d1 d2 d3 d4 d5 d6
                          cases b
                          · go_wp2
                            go_ret
                            exact ⟨_, rfl, HY.out.1⟩
                          · go_wp2_with fail
                            go_roundw
                            case rel => exact ⟨k + 1, by go_num, by have := HF.out; omega, HY.out⟩
                            case measure => have := HF.out; simp [intOf]; omega
                        · have ht1 : (x.T != E) = true := by simp [ht]
                          clear ht
                          go_wp2
                          go_ret
                          exact ⟨_, rfl, HF.out.2.2.1⟩
                    · have hk1 : ¬ (k : Int) < (L.length : Int) := by omega
                      have HF := Lib.hid hf
                      clear hf hb hk hlt
                      go_wp2
                      go_ret
                      exact ⟨_, rfl, HF.out⟩
      case inr.inr.inr.inr.inr.inr.inr.inr.inr.inl =>
        obtain ⟨bE, hbE⟩ : ∃ b, ∀ w, Calls Tryz.prog 58 #[.int .i64 E] w (fun e w' => e = .returned (.bool b) ∧ w' = w) := by
          by_cases h : isTy E
          · exact ⟨true, fun w => (L_isType_yes E h w).mono fun e w' ⟨h1, h2⟩ => ⟨h1, h2.symm⟩⟩
          · exact ⟨false, fun w => (L_isType_no E h w).mono fun e w' ⟨h1, h2⟩ => ⟨h1, h2.symm⟩⟩
        have HBE := Lib.hid hbE
        clear hbE
        cases bE
        · go_enter Tryz.func27, Tryz.ntmps27
          go_wp2_with (first | (go_at_call 58; (with_reducible refine (HTT.out _).mono ?_); rintro e w' ⟨rfl, rfl⟩) | (go_at_call 58; (with_reducible refine (HBE.out _).mono ?_); rintro e w' ⟨rfl, rfl⟩) | fail)
          go_ret
          exact ⟨_, rfl, H0.out.1⟩
        · go_enter Tryz.func27, Tryz.ntmps27
          go_wp2_with (first | (go_at_call 58; (with_reducible refine (HTT.out _).mono ?_); rintro e w' ⟨rfl, rfl⟩) | (go_at_call 58; (with_reducible refine (HBE.out _).mono ?_); rintro e w' ⟨rfl, rfl⟩) | fail)
          go_loopw [3] (fun i wr => ∃ k : Nat, i = .int .i64 k ∧ k ≤ L.length ∧ Fr noF noF w wr ∧ wr.heap[w.heap.size]? = some (.cells (valA 14 N (.slice sa sn sc) K E (.slice ia il ic) (.slice la L.length lc)) 28 (0, 0))) (fun i _ => L.length - (intOf i).toNat)
          case atStart => exact ⟨0, rfl, by omega, H0.out.1, H0.out.2⟩
          case round =>
            obtain ⟨k, rfl, hk, hf, hb⟩ := hrel
            clear c0 H0 HTT
            have cc := cell_at hb
            have c0 := cc 0
            have c3 := cc 3
            have c4 := cc 4
            have c6 := cc 6
            simp only [List.getElem?_toArray, List.getElem?_cons_zero, List.getElem?_cons_succ, List.size_toArray] at c0 c3 c4 c6
            clear cc
            have hk0 : (0 : Int) ≤ (k : Int) := by omega
            by_cases hlt : k < L.length
            · obtain ⟨g, o, x, ta, tn, tc, ja, jl, jc, ma, ml, mc, rfl, hx, hus, hcc⟩ := HEL.out k hlt
              have hcall := HC.out k x wr hx hf
              rw [hus] at hcc hcall
              have d0 : wr.cell? ⟨g, o + k * 7, none⟩ = some (.int .i64 x.T) := hcc wr hf 0 _ rfl
              have d1 : wr.cell? ⟨g, o + k * 7 + 1, none⟩ = some (.int .i64 x.N) := hcc wr hf 1 _ rfl
              have d2 : wr.cell? ⟨g, o + k * 7 + 2, none⟩ = some (.slice ta tn tc) := hcc wr hf 2 _ rfl
              have d3 : wr.cell? ⟨g, o + k * 7 + 3, none⟩ = some (.int .i64 x.K) := hcc wr hf 3 _ rfl
              have d4 : wr.cell? ⟨g, o + k * 7 + 4, none⟩ = some (.int .i64 x.E) := hcc wr hf 4 _ rfl
              have d5 : wr.cell? ⟨g, o + k * 7 + 5, none⟩ = some (.slice ja jl jc) := hcc wr hf 5 _ rfl
              have d6 : wr.cell? ⟨g, o + k * 7 + 6, none⟩ = some (.slice ma ml mc) := hcc wr hf 6 _ rfl
              have hk1 : (k : Int) < (L.length : Int) := by omega
              have HCA := Lib.hid hcall
              have HF := Lib.hid (And.intro hk (And.intro hlt (And.intro hf hb)))
              clear hcall hcc hus hx hf hb hk hlt
              by_cases ht : x.T = E
              · have ht1 : (x.T != E) = false := by simp [ht]
                clear ht
                go_wp2_with fail
                (with_reducible refine HCA.out.mono ?_)
                rintro e Y ⟨b, rfl, hY⟩
                have HY := Lib.hid (And.intro (HF.out.2.2.1.trans hY) (hY.block HF.out.2.2.2 fun x => x))
                clear hY c0 c3 c4 c6 d0 d1 d2 d3 d4 d5 d6
                cases b
                · go_wp2
                  go_ret
                  exact ⟨_, rfl, HY.out.1⟩
                · go_wp2_with fail
                  go_roundw
                  case rel => exact ⟨k + 1, by go_num, by have := HF.out; omega, HY.out⟩
                  case measure => have := HF.out; simp [intOf]; omega
              · have ht1 : (x.T != E) = true := by simp [ht]
                clear ht
                go_wp2
                go_ret
                exact ⟨_, rfl, HF.out.2.2.1⟩
            · have hk1 : ¬ (k : Int) < (L.length : Int) := by omega
              have HF := Lib.hid hf
              clear hf hb hk hlt
              go_wp2
              go_ret
              exact ⟨_, rfl, HF.out⟩
      case inr.inr.inr.inr.inr.inr.inr.inr.inr.inr.inl =>
        obtain ⟨bE, hbE⟩ : ∃ b, ∀ w, Calls Tryz.prog 58 #[.int .i64 E] w (fun e w' => e = .returned (.bool b) ∧ w' = w) := by
          by_cases h : isTy E
          · exact ⟨true, fun w => (L_isType_yes E h w).mono fun e w' ⟨h1, h2⟩ => ⟨h1, h2.symm⟩⟩
          · exact ⟨false, fun w => (L_isType_no E h w).mono fun e w' ⟨h1, h2⟩ => ⟨h1, h2.symm⟩⟩
        have HBE := Lib.hid hbE
        clear hbE
        cases bE
        · go_enter Tryz.func27, Tryz.ntmps27
          go_wp2_with (first | (go_at_call 58; (with_reducible refine (HTT.out _).mono ?_); rintro e w' ⟨rfl, rfl⟩) | (go_at_call 58; (with_reducible refine (HBE.out _).mono ?_); rintro e w' ⟨rfl, rfl⟩) | fail)
          go_ret
          exact ⟨_, rfl, H0.out.1⟩
        · go_enter Tryz.func27, Tryz.ntmps27
          go_wp2_with (first | (go_at_call 58; (with_reducible refine (HTT.out _).mono ?_); rintro e w' ⟨rfl, rfl⟩) | (go_at_call 58; (with_reducible refine (HBE.out _).mono ?_); rintro e w' ⟨rfl, rfl⟩) | fail)
          go_loopw [3] (fun i wr => ∃ k : Nat, i = .int .i64 k ∧ k ≤ L.length ∧ Fr noF noF w wr ∧ wr.heap[w.heap.size]? = some (.cells (valA 15 N (.slice sa sn sc) K E (.slice ia il ic) (.slice la L.length lc)) 28 (0, 0))) (fun i _ => L.length - (intOf i).toNat)
          case atStart => exact ⟨0, rfl, by omega, H0.out.1, H0.out.2⟩
          case round =>
            obtain ⟨k, rfl, hk, hf, hb⟩ := hrel
            clear c0 H0 HTT
            have cc := cell_at hb
            have c0 := cc 0
            have c3 := cc 3
            have c4 := cc 4
            have c6 := cc 6
            simp only [List.getElem?_toArray, List.getElem?_cons_zero, List.getElem?_cons_succ, List.size_toArray] at c0 c3 c4 c6
            clear cc
            have hk0 : (0 : Int) ≤ (k : Int) := by omega
            by_cases hlt : k < L.length
            · obtain ⟨g, o, x, ta, tn, tc, ja, jl, jc, ma, ml, mc, rfl, hx, hus, hcc⟩ := HEL.out k hlt
              have hcall := HC.out k x wr hx hf
              rw [hus] at hcc hcall
              have d0 : wr.cell? ⟨g, o + k * 7, none⟩ = some (.int .i64 x.T) := hcc wr hf 0 _ rfl
              have d1 : wr.cell? ⟨g, o + k * 7 + 1, none⟩ = some (.int .i64 x.N) := hcc wr hf 1 _ rfl
              have d2 : wr.cell? ⟨g, o + k * 7 + 2, none⟩ = some (.slice ta tn tc) := hcc wr hf 2 _ rfl
              have d3 : wr.cell? ⟨g, o + k * 7 + 3, none⟩ = some (.int .i64 x.K) := hcc wr hf 3 _ rfl
              have d4 : wr.cell? ⟨g, o + k * 7 + 4, none⟩ = some (.int .i64 x.E) := hcc wr hf 4 _ rfl
              have d5 : wr.cell? ⟨g, o + k * 7 + 5, none⟩ = some (.slice ja jl jc) := hcc wr hf 5 _ rfl
              have d6 : wr.cell? ⟨g, o + k * 7 + 6, none⟩ = some (.slice ma ml mc) := hcc wr hf 6 _ rfl
              have hk1 : (k : Int) < (L.length : Int) := by omega
              have HCA := Lib.hid hcall
              have HF := Lib.hid (And.intro hk (And.intro hlt (And.intro hf hb)))
              clear hcall hcc hus hx hf hb hk hlt
              by_cases ht : x.T = E
              · have ht1 : (x.T != E) = false := by simp [ht]
                clear ht
                go_wp2_with fail
                (with_reducible refine HCA.out.mono ?_)
                rintro e Y ⟨b, rfl, hY⟩
                have HY := Lib.hid (And.intro (HF.out.2.2.1.trans hY) (hY.block HF.out.2.2.2 fun x => x))
                clear hY c0 c3 c4 c6 d0 d1 d2 d3 d4 d5 d6
                cases b
                · go_wp2
                  go_ret
                  exact ⟨_, rfl, HY.out.1⟩
                · go_wp2_with fail
                  go_roundw
                  case rel => exact ⟨k + 1, by go_num, by have := HF.out; omega, HY.out⟩
                  case measure => have := HF.out; simp [intOf]; omega
              · have ht1 : (x.T != E) = true := by simp [ht]
                clear ht
                go_wp2
                go_ret
                exact ⟨_, rfl, HF.out.2.2.1⟩
            · have hk1 : ¬ (k : Int) < (L.length : Int) := by omega
              have HF := Lib.hid hf
              clear hf hb hk hlt
              go_wp2
              go_ret
              exact ⟨_, rfl, HF.out⟩
      all_goals
        go_enter Tryz.func27, Tryz.ntmps27
        go_wp2_with (first | (go_at_call 58; (with_reducible refine (HTT.out _).mono ?_); rintro e w' ⟨rfl, rfl⟩) | fail)
        go_ret
        exact ⟨_, rfl, H0.out.1⟩
    · have HTT := Lib.hid (fun w => L_isType_no T hT w)
      clear hT hcall hel hf0 hb0 hE hcell h1 h2 hsn hil hic him hV ih hlc hlm
      go_enter Tryz.func27, Tryz.ntmps27
      go_wp2_with (first | (go_at_call 58; (with_reducible refine (HTT.out _).mono ?_); rintro e w' ⟨rfl, rfl⟩) | fail)
      go_ret
      exact ⟨_, rfl, H0.out.1⟩

end Go.Proofs.YtkfkieebcahiiaaGreatDoor
