/- FnUuid: both sides read a uuid alike. -/
import Derived.Test.YtdedkoahfailcaaGreatDoorUuidP
import Derived.Test.YtdedkoahfailcaaGreatDoorOwned
import Derived.Test.YtdedkoahfailcaaGreatDoorUuidS
import Derived.Test.YtdedkoahfailcaaGreatDoorKnown
namespace Go.Proofs.YtdedkoahfailcaaGreatDoor
open Go Go.RowKit
set_option maxHeartbeats 2000000
set_option maxRecDepth 100000

/-- What stands when the array has been laid. -/
theorem laid_agg {w w1 : World} {cs : Array Value} (hf : Fr noF noF w w1) (hc : cs.size = 16) :
    let W := w1.alloc (.cells zL.toArray TU (0, 0))
    W.there w1.heap.size 0 cs.size ∧ (W.setCells w1.heap.size 0 cs.toList).rangeAt w1.heap.size 0 cs.toList ∧ Fr noF noF w (W.setCells w1.heap.size 0 cs.toList) := by
  intro W
  have hb : W.heap[w1.heap.size]? = some (.cells zL.toArray TU (0, 0)) := alloc_new w1 _
  have ht : W.there w1.heap.size 0 cs.size := there_of hb (by rw [hc]; exact Nat.le_refl _)
  exact ⟨ht, World.rangeAt_setCells_same W _ 0 cs.toList (by simpa using ht), fr_cells (hf.alloc _) hf.size hb _ _⟩
theorem rd_range {w : World} {b : Nat} {d : List UInt8} (h : w.rangeAt b 0 (Lib.byteCells d)) (hd : d.length = 16) : Rd w (.slice (some ⟨b, 0, none⟩) 16 16) d :=
  Or.inr ⟨_, 16, 16, rfl, hd, Nat.le_refl _, by decide, fun j u hj => by
    rw [Lib.addr_add]
    exact h j _ (by simp [Lib.byteCells, hj])⟩

theorem I_Uuid (v : Value) (l : List UInt8) (w : World) (h : Rd w v l) : Calls Tryz.prog 19 #[v] w (UuidS l w) := by
  have hcv := conv_back h
  have HP := Lib.hid (T_ParseTuuid ⟨l.toArray⟩ w)
  have HO := Lib.hid I_owned
  obtain ⟨a, n, c, rfl, hn⟩ := h.len
  clear h hn
  cases hu : uu l with
  | none =>
    have HU := Lib.hid hu
    clear hu
    go_enter Tryz.func19, Tryz.ntmps19
    go_wp2_with fail
    refine HP.out.mono ?_
    rintro e w1 ⟨hf, hm⟩
    rw [show (⟨l.toArray⟩ : ByteArray).data.toList = l from rfl, HU.out] at hm
    obtain ⟨cs, p, rfl, hcs, ho⟩ := hm
    obtain ⟨ht, hr, hF⟩ := laid_agg hf hcs
    have HT := Lib.hid (And.intro ht (And.intro (show (Tryz.prog.info? TU).map (·.size) = some cs.size by rw [info_TU, hcs]) ho))
    have HF := Lib.hid hF
    clear hf HP hcv ht hr hF hcs ho
    go_wp2_with (refine wpList_store_mid rfl TU _ _ rfl w1.heap.size 0 cs rfl rfl HT.out.1 HT.out.2.1 HT.out.2.2 ?_)
    go_ret2
    exact uuidS_none HU.out HF.out
  | some d =>
    have HU := Lib.hid hu
    have hdl := (uu_len hu).1
    clear hu
    go_enter Tryz.func19, Tryz.ntmps19
    go_wp2_with fail
    refine HP.out.mono ?_
    rintro e w1 ⟨hf, hm⟩
    rw [show (⟨l.toArray⟩ : ByteArray).data.toList = l from rfl, HU.out] at hm
    obtain rfl := hm
    obtain ⟨cs, hcs⟩ : ∃ cs, cs = (Lib.byteCells d).toArray := ⟨_, rfl⟩
    have hsz : cs.size = 16 := by rw [hcs]; simp [bcells_length, hdl]
    have hcl : cs.toList = Lib.byteCells d := by rw [hcs]
    have ho : cs.all (·.oneCell') = true := by rw [hcs]; exact all_oneCell_toArray fun v hv => by simp only [Lib.byteCells, List.mem_map] at hv; obtain ⟨x, _, rfl⟩ := hv; rfl
    rw [← hcs]
    obtain ⟨ht, hr, hF⟩ := laid_agg hf hsz
    rw [hcl] at hr
    have HT := Lib.hid (And.intro ht (And.intro (show (Tryz.prog.info? TU).map (·.size) = some cs.size by rw [info_TU, hsz]) ho))
    have HF := Lib.hid (And.intro hF hr)
    have HC := Lib.hid hcl
    have HL := Lib.hid hdl
    clear hf HP hcv ht hr hF hsz ho hcs hcl hdl
    go_wp2_with (refine wpList_store_mid rfl TU _ _ rfl w1.heap.size 0 cs rfl rfl HT.out.1 HT.out.2.1 HT.out.2.2 ?_)
    refine (HO.out _ d _ (rd_range (by rw [HC.out]; exact HF.out.2) HL.out) (by rw [HL.out]; decide)).mono ?_
    rintro e w2 ⟨v, rfl, ho, hf⟩
    have HR := Lib.hid (And.intro ho hf)
    clear ho hf
    go_wp2
    go_ret2
    exact ⟨HF.out.1.trans HR.out.2, _, by rw [HU.out]; rfl, fun d' hd => by
      rw [HU.out] at hd
      injection hd with hd
      subst hd
      exact ⟨HR.out.1.rd, fun k hk => Nat.le_trans HF.out.1.size (HR.out.1.blk k hk)⟩⟩

theorem L_FnUuid (v : Value) (l : List UInt8) (w : World) (h : Rd w v l) : Calls Tryz.prog 7 #[v] w fun e w' => e = .returned (.bool true) ∧ Fr noF noF w w' := by
  have H1 := Lib.hid (fun w h => I_Uuid v l w h)
  have H2 := Lib.hid (fun w h => S_Uuid v l w h)
  have HE := Lib.hid L_equal
  have HK := Lib.hid L_known
  obtain ⟨a, n, c, rfl, hn⟩ := h.len
  have H := Lib.hid h
  have HN := Lib.hid hn
  clear h hn
  rcases Nat.lt_or_ge 2147483647 n with hb | hb
  · have hb1 : (2147483647 : Int) < (n : Int) := by omega
    go_enter Tryz.func7, Tryz.ntmps7
    go_wp2
    go_ret
    exact ⟨rfl, Fr.refl noF w⟩
  · have hb1 : ¬ (2147483647 : Int) < (n : Int) := by omega
    rcases Nat.lt_or_ge 65536 n with hm | hm
    · have hm1 : (65536 : Int) < (n : Int) := by omega
      go_enter Tryz.func7, Tryz.ntmps7
      go_wp2_with (go_at_call 13; refine (HK.out _).mono ?_; rintro e w1 ⟨rfl, hf⟩; have HX := Lib.hid hf; clear hf)
      go_ret
      exact ⟨rfl, HX.out⟩
    · have hm1 : ¬ (65536 : Int) < (n : Int) := by omega
      go_enter Tryz.func7, Tryz.ntmps7
      go_wp2_with fail
      refine (H1.out _ H.out).mono ?_
      rintro e w1 ⟨hf1, v1, rfl, hr1⟩
      have R1 := Lib.hid (And.intro hf1 hr1)
      clear hf1 hr1
      go_wp2_with fail
      refine (H2.out _ (H.out.keep (F := noF) R1.out.1 fun _ _ x => x) (by have := HN.out; omega)).mono ?_
      rintro e w2 ⟨hf2, v2, rfl, hr2⟩
      have R2 := Lib.hid (And.intro (R1.out.1.trans hf2) (And.intro (fun d hd => ((R1.out.2 d hd).1.keep (F := noF) hf2 fun _ _ x => x)) hr2))
      clear hf2 hr2 R1
      cases hu : uu l with
      | none =>
        simp only [Option.isSome]
        clear hu
        go_wp2_with fail
        refine (HK.out _).mono ?_
        rintro e w4 ⟨rfl, hf⟩
        have HX := Lib.hid (R2.out.1.trans hf)
        clear hf
        go_wp2
        go_ret
        exact ⟨rfl, HX.out⟩
      | some d =>
        simp only [Option.isSome]
        have R3 := Lib.hid (And.intro (R2.out.2.1 d hu) (And.intro (R2.out.2.2 d hu).1 R2.out.1))
        clear hu R2
        go_wp2_with fail
        refine (HE.out v1 v2 d d w2 R3.out.1 R3.out.2.1).mono ?_
        rintro e w3 ⟨rfl, q, rfl⟩
        have HF := Lib.hid (R3.out.2.2.drewN q)
        clear R3
        have hd : decide (d = d) = true := decide_eq_true rfl
        go_wp2_with fail
        refine (HK.out _).mono ?_
        rintro e w4 ⟨rfl, hf⟩
        have HX := Lib.hid (HF.out.trans hf)
        clear hf HF
        go_wp2
        go_ret
        exact ⟨rfl, HX.out⟩
end Go.Proofs.YtdedkoahfailcaaGreatDoor
