/- Arguments opened (a configuration, bytes, numbers), and a law's post where nothing old has turned. -/
import Derived.Test.YtdedkoahfailcaaGreatDoorPost
import Derived.Carry
import Derived.ChangeSlices
import Derived.ChangeArms
namespace Go.Proofs.YtdedkoahfailcaaGreatDoor
set_option maxRecDepth 100000
open Go.ChangeShapes Go.WideShapes Go.ChangeAt Go.RowKit

theorem all_stays {H : Type} {enc : TypeId × Value → H} {P : Program} {W W' : World} {sp : Nat → Bool} (hl : laidOutB P = true) (hb : Below W.heap.size W W') : ∀ {ts : List TypeId} {vs : List Value} {ds : List (DataW H)} {ps : List MemPlace},
    (∀ t ∈ ts, P.readableRec t = true ∧ t < P.types.size) → DataW.TrodAll enc P W 0 (fun _ => true) true ts vs ds ps → (∀ x ∈ ps, x.block < W.heap.size) → (∀ x ∈ ps, sp x.block = true) →
    DataW.TrodAll enc P W' 0 sp true ts vs ds ps
  | [], _, _, _, _, h, _, _ => by
    obtain ⟨rfl, rfl, rfl⟩ := trodAll_nil h
    rfl
  | t :: ts, vs, ds, ps, hr, h, hlt, hsp => by
    obtain ⟨v, vs', d, ds', p, q, rfl, rfl, rfl, h1, h2⟩ := trodAll_cons h
    obtain ⟨r1, r2⟩ := hr t (List.mem_cons_self ..)
    exact ⟨p, q, WideElems.Trod_stays hl r1 r2 h1 (fun x hx => hb.same (hlt x (List.mem_append_left _ hx))) (fun x hx => hsp x (List.mem_append_left _ hx)),
      all_stays hl hb (fun t ht => hr t (List.mem_cons_of_mem _ ht)) h2 (fun x hx => hlt x (List.mem_append_right _ hx)) (fun x hx => hsp x (List.mem_append_right _ hx)), rfl⟩

theorem laidOut : laidOutB Tryz.prog = true := by kernel_rfl

/-- A law that returned true, and turned nothing old. -/
theorem post_true {H : Type} {enc : TypeId × Value → H} {f : Func} {s : ChangeSpec} {apart fresh handsOn again : Bool} {W W' : World} {args : Array Value} {ds gs : List (DataW H)} {before : List MemPlace}
    (hrd : ∀ t ∈ f.params.toList, Tryz.prog.readableRec t = true ∧ t < Tryz.prog.types.size) (hW : DataW.Whole enc Tryz.prog f.params.toList s.vars apart W args.toList ds gs before)
    (hv : s.vars = []) (hR : f.resultTypes = #[4]) (hfn : gs = [] → s.fn H (ds ++ gs) = { results := [.lit (.bool true)], args := ds }) (hb : Fr noF noF W W') :
    s.post enc Tryz.prog f apart fresh handsOn again W args (.bool true) W' := by
  have hW' := hW
  obtain ⟨p, q, hA, hV, rfl, hfz, hnd⟩ := hW
  rw [hv] at hV
  obtain ⟨rfl, rfl⟩ := trodVars_none hV
  have hlt := hW'.lt
  have hF := hfn rfl
  refine post_of_still (pa := p) (pv := []) hW' ?_ ?_ ?_ rfl hb.still ?_
  · intro b sp hd
    rw [hF, hR]
    exact trodAll_cons_mk (shut_bool Tryz.underlying4 _) trodAll_mk0
  · intro sp hsp
    rw [hF]
    exact all_stays laidOut hb.still hrd hA (fun x hx => hlt x (List.mem_append_left _ hx)) (fun x hx => hsp x (List.mem_append_left _ hx))
  · intro sp _
    rw [hF, hv]
    rfl
  · exact ok_one hR rfl (okWide_bool_mk Tryz.underlying4 _)

section
variable {H : Type} {enc : TypeId × Value → H} {W : World} {sp : Nat → Bool} {v : Value} {d : DataW H} {p : List MemPlace} {r : Reach} {b0 : Nat}

/-- Bytes. -/
theorem open_bytes (hv : Value.okWide Tryz.prog W r b0 35 v) (h : DataW.Trod enc Tryz.prog W 0 sp true 35 v d p) : ∃ l, Rd W v l := by
  obtain ⟨a, n, c, rfl⟩ := okWide_slice Tryz.underlying35 hv
  obtain ⟨fuel, hf⟩ := h
  rcases open_ints Tryz.underlying35 Tryz.underlying5 (by kernel_rfl) hf with ⟨hc, _⟩ | ⟨a', len, cap, zs, hc, _, hle, hmax, hlen, _, hcell, hwf⟩
  · simp [Value.cells] at hc
    obtain ⟨rfl, rfl, rfl⟩ := hc
    exact ⟨[], Or.inl ⟨rfl, rfl⟩⟩
  · simp [Value.cells] at hc
    obtain ⟨rfl, rfl, rfl⟩ := hc
    have hll : n ≤ zs.length := by rw [hlen]; split <;> omega
    refine ⟨(zs.take n).map fun z => UInt8.ofNat z.toNat, Or.inr ⟨_, _, _, rfl, ?_, hle, hmax, ?_⟩⟩
    · simp; omega
    · intro j u hj
      simp only [List.getElem?_map, Option.map_eq_some_iff] at hj
      obtain ⟨z, hz, rfl⟩ := hj
      have hzj : zs[j]? = some z := by
        rw [List.getElem?_take] at hz
        split at hz
        · exact hz
        · cases hz
      have hjl : j < zs.length := (List.getElem?_eq_some_iff.1 hzj).1
      have hb := bounds_u8 (hwf z (List.mem_of_getElem? hzj))
      rw [hcell j hjl]
      have e1 : zs.getD j 0 = z := by simp [List.getD, hzj]
      rw [e1, UInt8.toNat_ofNat']
      congr 2
      omega

/-- Numbers. -/
def RdI (w : World) (v : Value) (l : List Int) : Prop :=
  (v = .slice none 0 0 ∧ l = []) ∨ ∃ a n c, v = .slice (some a) n c ∧ l.length = n ∧ n ≤ c ∧ c ≤ maxLen ∧ ∀ j u, l[j]? = some u → w.cell? (a.add j) = some (.int .i64 u)
def I64s (l : List Int) : Prop := ∀ n ∈ l, -9223372036854775808 ≤ n ∧ n ≤ 9223372036854775807

theorem open_nums (hv : Value.okWide Tryz.prog W r b0 30 v) (h : DataW.Trod enc Tryz.prog W 0 sp true 30 v d p) : ∃ l, RdI W v l ∧ I64s l := by
  obtain ⟨a, n, c, rfl⟩ := okWide_slice Tryz.underlying30 hv
  obtain ⟨fuel, hf⟩ := h
  rcases open_ints Tryz.underlying30 Tryz.underlying3 (by kernel_rfl) hf with ⟨hc, _⟩ | ⟨a', len, cap, zs, hc, _, hle, hmax, hlen, _, hcell, hwf⟩
  · simp [Value.cells] at hc
    obtain ⟨rfl, rfl, rfl⟩ := hc
    exact ⟨[], Or.inl ⟨rfl, rfl⟩, fun n hn => by cases hn⟩
  · simp [Value.cells] at hc
    obtain ⟨rfl, rfl, rfl⟩ := hc
    have hll : n ≤ zs.length := by rw [hlen]; split <;> omega
    refine ⟨zs.take n, Or.inr ⟨_, _, _, rfl, ?_, hle, hmax, ?_⟩, fun n hn => bounds_i64 (hwf n (List.mem_of_mem_take hn))⟩
    · simp; omega
    · intro j u hj
      have hzj : zs[j]? = some u := by
        rw [List.getElem?_take] at hj
        split at hj
        · exact hj
        · cases hj
      have hjl : j < zs.length := (List.getElem?_eq_some_iff.1 hzj).1
      rw [hcell j hjl]
      have e1 : zs.getD j 0 = u := by simp [List.getD, hzj]
      rw [e1]

theorem array7 {α : Type} {cs : Array α} (h : cs.size = 7) : ∃ a b c d e f g, cs = #[a, b, c, d, e, f, g] := by
  obtain ⟨l⟩ := cs
  match l, h with
  | [a, b, c, d, e, f, g], _ => exact ⟨a, b, c, d, e, f, g, rfl⟩

/-- A configuration. -/
theorem open_conf (hv : Value.okWide Tryz.prog W r b0 23 v) (h : DataW.Trod enc Tryz.prog W 0 sp true 23 v d p) : ∃ c : ConfV, v = c.val ∧ (-9223372036854775808 ≤ c.proto ∧ c.proto ≤ 9223372036854775807) ∧ (-2147483648 ≤ c.msg ∧ c.msg ≤ 2147483647) ∧ (-2147483648 ≤ c.con ∧ c.con ≤ 2147483647) ∧ (-2147483648 ≤ c.fra ∧ c.fra ≤ 2147483647) := by
  obtain ⟨cs, rfl, hsz⟩ := okWide_struct Tryz.underlying23 hv
  obtain ⟨a, b, c, d', e, f, g, rfl⟩ := array7 (hsz.trans (by kernel_rfl))
  obtain ⟨fuel, hf⟩ := h
  obtain ⟨xs, n, _, _, _, hxl, hx⟩ := DataW.trod_struct Tryz.underlying23 hf
  have k1 : Tryz.prog.cellsOf 3 = 1 := by kernel_rfl
  have k2 : Tryz.prog.cellsOf 4 = 1 := by kernel_rfl
  have k3 : Tryz.prog.cellsOf 21 = 1 := by kernel_rfl
  have hl : xs.length = 7 := hxl
  have g0 := (hx 0 _ rfl).trans (List.getElem?_eq_getElem (by omega))
  have g1 := (hx 1 _ rfl).trans (List.getElem?_eq_getElem (by omega))
  have g2 := (hx 2 _ rfl).trans (List.getElem?_eq_getElem (by omega))
  have g3 := (hx 3 _ rfl).trans (List.getElem?_eq_getElem (by omega))
  have g4 := (hx 4 _ rfl).trans (List.getElem?_eq_getElem (by omega))
  have g5 := (hx 5 _ rfl).trans (List.getElem?_eq_getElem (by omega))
  have g6 := (hx 6 _ rfl).trans (List.getElem?_eq_getElem (by omega))
  simp only [List.getElem_toArray, List.getElem_cons_zero, List.getElem_cons_succ, Value.cells, k1, k2, k3, List.drop_zero, List.drop_succ_cons, List.take_succ_cons, List.take_zero] at g0 g1 g2 g3 g4 g5 g6
  obtain ⟨n0, h0, _, w0⟩ := DataW.trod_int Tryz.underlying3 g0
  obtain ⟨n1, h1, _⟩ := DataW.trod_bool Tryz.underlying4 g1
  obtain ⟨n2, h2, _⟩ := DataW.trod_bool Tryz.underlying4 g2
  obtain ⟨n3, h3, _⟩ := DataW.trod_bool Tryz.underlying4 g3
  obtain ⟨n4, h4, _, w4⟩ := DataW.trod_int Tryz.underlying21 g4
  obtain ⟨n5, h5, _, w5⟩ := DataW.trod_int Tryz.underlying21 g5
  obtain ⟨n6, h6, _, w6⟩ := DataW.trod_int Tryz.underlying21 g6
  simp only [List.cons.injEq, and_true] at h0 h1 h2 h3 h4 h5 h6
  subst h0 h1 h2 h3 h4 h5 h6
  exact ⟨⟨n0, n1, n2, n3, n4, n5, n6⟩, rfl, bounds_i64 w0, bounds_i32 w4, bounds_i32 w5, bounds_i32 w6⟩
end
end Go.Proofs.YtdedkoahfailcaaGreatDoor
