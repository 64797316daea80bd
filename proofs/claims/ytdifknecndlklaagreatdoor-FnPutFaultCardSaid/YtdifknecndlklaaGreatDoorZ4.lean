/- From a contract to a row: what was handed in still reads as it did. Arguments opened (a configuration, bytes, numbers), and a law's post where nothing old has turned. Arrays of sixteen bytes; an error made. Lists of numbers: what is read, what a call owns, what is appended. laws.joined, laws.padded, laws.upper, laws.lower. Numbers and their bytes, the greatest first: plain laws. -/
import Derived.WalkKit
import Derived.ProofKit
import Derived.OpenShut
import Derived.Deep.DeepHandedRow
import Derived.Deep.DeepWitnessRowRef
import Derived.Lib.LaidTab
import Derived.Carry
import Derived.ChangeSlices
import Derived.ChangeArms
import Derived.Lib.Hide
import Derived.Laws.ResultCell
import Derived.Deep.RegionWith
import Derived.Deep.RegionHeld3
import Derived.Deep.QuietTactic
import Derived.BigQuiet
import Derived.Lib.EndianMore
import Derived.Test.YtdifknecndlklaaGreatDoorCards
import Derived.Test.YtdifknecndlklaaGreatDoorTie
import Derived.Test.YtdifknecndlklaaGreatDoorZ3
import Derived.Test.YtdifknecndlklaaGreatDoorZ1
import Derived.Test.YtdifknecndlklaaGreatDoorZ2
set_option linter.all false
namespace Go.Proofs.YtdifknecndlklaaGreatDoor
open Go.ChangeShapes Go.WideShapes Go.ChangeAt Go.RowKit

theorem Fr.still {w w' : World} (h : Fr noF noF w w') : Below w.heap.size w w' := h.below (Nat.le_refl _) fun _ x => x.elim

theorem post_of_still {H : Type} {enc : TypeId × Value → H} {P : Program} {f : Func} {s : ChangeSpec} {apart fresh handsOn again : Bool} {W W' : World} {args : Array Value} {v : Value} {ds gs : List (DataW H)} {before pa pv : List MemPlace}
    (hW : DataW.Whole enc P f.params.toList s.vars apart W args.toList ds gs before)
    (hres : ∀ (b : Nat) (sp : Nat → Bool) (hd : Bool), DataW.TrodAll enc P W' b sp hd f.resultTypes.toList (v.resultList f.resultTypes.size) (s.fn H (ds ++ gs)).results [])
    (hargs : ∀ sp : Nat → Bool, (∀ p ∈ before, sp p.block = true) → DataW.TrodAll enc P W' 0 sp true f.params.toList args.toList (s.fn H (ds ++ gs)).args pa)
    (hvars : ∀ sp : Nat → Bool, (∀ p ∈ before, sp p.block = true) → DataW.TrodVars enc P W' sp s.vars (s.fn H (ds ++ gs)).vars pv)
    (hps : before = pa ++ pv) (hb : Below W.heap.size W W')
    (hok : ∀ (j : Nat) (t : TypeId) (r : Value), f.resultTypes[j]? = some t → (v.resultList f.resultTypes.size)[j]? = some r → Value.okWide P W' .any 0 t r) :
    s.post enc P f apart fresh handsOn again W args v W' := by
  have hold : ∀ p ∈ before, (fun b => decide (b < W.heap.size)) p.block = true := fun p hp => by simpa using hW.lt p hp
  have hlt := hW.lt
  refine ⟨ds, gs, before, [], pa, pv, hW, hres _ _ _, hargs _ hold, hvars _ hold, World.keptBut_mono (fun p hp => ⟨hp, ?_⟩) (hb.frame (· ∈ before)), fun _ => ?_⟩
  · rw [hps, List.mem_append] at hp
    exact Or.inr hp
  · obtain ⟨_, _, _, _, _, hz, hn⟩ := hW
    refine ⟨hok, _, _, ([] ++ pa) ++ pv, ⟨[] ++ pa, pv, trodAll_append (hargs _ (fun _ _ => rfl)) (hres _ _ _), hvars _ (fun _ _ => rfl), rfl, ?_, ?_⟩, ?_⟩
    · intro b off hp
      have hp' : MemPlace.cell b off ∈ before := by rw [hps]; simpa using hp
      rw [hb.frozen (by exact hlt _ hp')]
      exact hz b off hp'
    · intro ha
      have := hn ha
      rw [hps] at this
      simpa using this
    · intro p hp _
      rw [hps]
      simpa using hp

theorem own : ownKnob Tryz.prog.godebug = none := by kernel_rfl

/-- A WORLD FOR THE WITNESS: the errors that are listed lie as their initialisers lay them. -/
abbrev eofS : ByteArray := { data := #[69, 79, 70] }
abbrev uneofS : ByteArray := { data := #[117, 110, 101, 120, 112, 101, 99, 116, 101, 100, 32, 69, 79, 70] }
abbrev largeS : ByteArray := { data := #[98, 121, 116, 101, 115, 46, 66, 117, 102, 102, 101, 114, 58, 32, 116, 111, 111, 32, 108, 97, 114, 103, 101] }
noncomputable def low : Nat := (World.holding Tryz.prog default ⟨#[], #[], []⟩).heap.size
noncomputable def laidWorld (os : Os) : World :=
  let w0 := World.holding Tryz.prog os ⟨#[.cells #[.string eofS] 253, .cells #[.string uneofS] 253, .cells #[.string largeS] 253], #[], []⟩
  let put (h : Array Obj) (g : Nat) (cs : Array Value) : Array Obj := h.modify g fun
    | .cells _ t frozen => .cells cs t frozen
    | o => o
  let h1 := put w0.heap 0 #[.iface 251 (.pointer (some ⟨low, 0, none⟩))]
  let h2 := put h1 1 #[.iface 251 (.pointer (some ⟨low + 1, 0, none⟩))]
  let h3 := put h2 3 #[.iface 251 (.pointer (some ⟨low + 2, 0, none⟩))]
  { w0 with heap := h3 }
end Go.Proofs.YtdifknecndlklaaGreatDoor
namespace Go.Proofs.YtdifknecndlklaaGreatDoor
set_option maxRecDepth 100000
open Go.ChangeShapes Go.WideShapes Go.ChangeAt Go.RowKit

theorem all_stays {H : Type} {enc : TypeId × Value → H} {P : Program} {W W' : World} {sp : Nat → Bool} (hl : laidOutB P = true) (hb : Below W.heap.size W W') : ∀ {ts : List TypeId} {vs : List Value} {ds : List (DataW H)} {ps : List MemPlace},
    (∀ t ∈ ts, P.readableRec t = true ∧ t < P.types.size) → DataW.TrodAll enc P W 0 (fun _ => true) true ts vs ds ps → (∀ x ∈ ps, x.block < W.heap.size) → (∀ x ∈ ps, sp x.block = true) →
    DataW.TrodAll enc P W' 0 sp true ts vs ds ps
  | [], _, _, _, _, h, _, _ => by
    obtain ⟨rfl, rfl, rfl⟩ := trodAll_nil h
    rfl
  | t :: ts, vs, ds, ps, hr, h, hlt, hsp => by
    obtain ⟨v, vs', d, ds', p, q, rfl, rfl, rfl, h1, h2⟩ := trodAll_cons h
    obtain ⟨r1, r2⟩ := hr t (List.mem_cons_self ..)
    exact ⟨p, q, WideElems.Trod_stays hl r1 r2 h1 (fun x hx => hb.same (hlt x (List.mem_append_left _ hx))) (fun x hx => hsp x (List.mem_append_left _ hx)),
      all_stays hl hb (fun t ht => hr t (List.mem_cons_of_mem _ ht)) h2 (fun x hx => hlt x (List.mem_append_right _ hx)) (fun x hx => hsp x (List.mem_append_right _ hx)), rfl⟩

theorem laidOut : laidOutB Tryz.prog = true := by kernel_rfl

/-- A law that returned true, and turned nothing old. -/
theorem post_true {H : Type} {enc : TypeId × Value → H} {f : Func} {s : ChangeSpec} {apart fresh handsOn again : Bool} {W W' : World} {args : Array Value} {ds gs : List (DataW H)} {before : List MemPlace}
    (hrd : ∀ t ∈ f.params.toList, Tryz.prog.readableRec t = true ∧ t < Tryz.prog.types.size) (hW : DataW.Whole enc Tryz.prog f.params.toList s.vars apart W args.toList ds gs before)
    (hv : s.vars = []) (hR : f.resultTypes = #[4]) (hfn : gs = [] → s.fn H (ds ++ gs) = { results := [.lit (.bool true)], args := ds }) (hb : Fr noF noF W W') :
    s.post enc Tryz.prog f apart fresh handsOn again W args (.bool true) W' := by
  have hW' := hW
  obtain ⟨p, q, hA, hV, rfl, hfz, hnd⟩ := hW
  rw [hv] at hV
  obtain ⟨rfl, rfl⟩ := trodVars_none hV
  have hlt := hW'.lt
  have hF := hfn rfl
  refine post_of_still (pa := p) (pv := []) hW' ?_ ?_ ?_ rfl hb.still ?_
  · intro b sp hd
    rw [hF, hR]
    exact trodAll_cons_mk (shut_bool Tryz.underlying4 _) trodAll_mk0
  · intro sp hsp
    rw [hF]
    exact all_stays laidOut hb.still hrd hA (fun x hx => hlt x (List.mem_append_left _ hx)) (fun x hx => hsp x (List.mem_append_left _ hx))
  · intro sp _
    rw [hF, hv]
    rfl
  · exact ok_one hR rfl (okWide_bool_mk Tryz.underlying4 _)

section
variable {H : Type} {enc : TypeId × Value → H} {W : World} {sp : Nat → Bool} {v : Value} {d : DataW H} {p : List MemPlace} {r : Reach} {b0 : Nat}

/-- Bytes. -/
theorem open_bytes (hv : Value.okWide Tryz.prog W r b0 24 v) (h : DataW.Trod enc Tryz.prog W 0 sp true 24 v d p) : ∃ l, Rd W v l := by
  obtain ⟨a, n, c, rfl⟩ := okWide_slice Tryz.underlying24 hv
  obtain ⟨fuel, hf⟩ := h
  rcases open_ints Tryz.underlying24 Tryz.underlying5 (by kernel_rfl) hf with ⟨hc, _⟩ | ⟨a', len, cap, zs, hc, _, hle, hmax, hlen, _, hcell, hwf⟩
  · simp [Value.cells] at hc
    obtain ⟨rfl, rfl, rfl⟩ := hc
    exact ⟨[], Or.inl ⟨rfl, rfl⟩⟩
  · simp [Value.cells] at hc
    obtain ⟨rfl, rfl, rfl⟩ := hc
    have hll : n ≤ zs.length := by rw [hlen]; split <;> omega
    refine ⟨(zs.take n).map fun z => UInt8.ofNat z.toNat, Or.inr ⟨_, _, _, rfl, ?_, hle, hmax, ?_⟩⟩
    · simp; omega
    · intro j u hj
      simp only [List.getElem?_map, Option.map_eq_some_iff] at hj
      obtain ⟨z, hz, rfl⟩ := hj
      have hzj : zs[j]? = some z := by
        rw [List.getElem?_take] at hz
        split at hz
        · exact hz
        · cases hz
      have hjl : j < zs.length := (List.getElem?_eq_some_iff.1 hzj).1
      have hb := bounds_u8 (hwf z (List.mem_of_getElem? hzj))
      rw [hcell j hjl]
      have e1 : zs.getD j 0 = z := by simp [List.getD, hzj]
      rw [e1, UInt8.toNat_ofNat']
      congr 2
      omega

/-- Numbers. -/
def RdI (w : World) (v : Value) (l : List Int) : Prop :=
  (v = .slice none 0 0 ∧ l = []) ∨ ∃ a n c, v = .slice (some a) n c ∧ l.length = n ∧ n ≤ c ∧ c ≤ maxLen ∧ ∀ j u, l[j]? = some u → w.cell? (a.add j) = some (.int .i64 u)
def I64s (l : List Int) : Prop := ∀ n ∈ l, -9223372036854775808 ≤ n ∧ n ≤ 9223372036854775807

theorem open_nums (hv : Value.okWide Tryz.prog W r b0 36 v) (h : DataW.Trod enc Tryz.prog W 0 sp true 36 v d p) : ∃ l, RdI W v l ∧ I64s l := by
  obtain ⟨a, n, c, rfl⟩ := okWide_slice Tryz.underlying36 hv
  obtain ⟨fuel, hf⟩ := h
  rcases open_ints Tryz.underlying36 Tryz.underlying3 (by kernel_rfl) hf with ⟨hc, _⟩ | ⟨a', len, cap, zs, hc, _, hle, hmax, hlen, _, hcell, hwf⟩
  · simp [Value.cells] at hc
    obtain ⟨rfl, rfl, rfl⟩ := hc
    exact ⟨[], Or.inl ⟨rfl, rfl⟩, fun n hn => by cases hn⟩
  · simp [Value.cells] at hc
    obtain ⟨rfl, rfl, rfl⟩ := hc
    have hll : n ≤ zs.length := by rw [hlen]; split <;> omega
    refine ⟨zs.take n, Or.inr ⟨_, _, _, rfl, ?_, hle, hmax, ?_⟩, fun n hn => bounds_i64 (hwf n (List.mem_of_mem_take hn))⟩
    · simp; omega
    · intro j u hj
      have hzj : zs[j]? = some u := by
        rw [List.getElem?_take] at hj
        split at hj
        · exact hj
        · cases hj
      have hjl : j < zs.length := (List.getElem?_eq_some_iff.1 hzj).1
      rw [hcell j hjl]
      have e1 : zs.getD j 0 = u := by simp [List.getD, hzj]
      rw [e1]

theorem array7 {α : Type} {cs : Array α} (h : cs.size = 7) : ∃ a b c d e f g, cs = #[a, b, c, d, e, f, g] := by
  obtain ⟨l⟩ := cs
  match l, h with
  | [a, b, c, d, e, f, g], _ => exact ⟨a, b, c, d, e, f, g, rfl⟩

/-- A configuration. -/
theorem open_conf (hv : Value.okWide Tryz.prog W r b0 23 v) (h : DataW.Trod enc Tryz.prog W 0 sp true 23 v d p) : ∃ c : ConfV, v = c.val ∧ (-9223372036854775808 ≤ c.proto ∧ c.proto ≤ 9223372036854775807) ∧ (-2147483648 ≤ c.msg ∧ c.msg ≤ 2147483647) ∧ (-2147483648 ≤ c.con ∧ c.con ≤ 2147483647) ∧ (-2147483648 ≤ c.fra ∧ c.fra ≤ 2147483647) := by
  obtain ⟨cs, rfl, hsz⟩ := okWide_struct Tryz.underlying23 hv
  obtain ⟨a, b, c, d', e, f, g, rfl⟩ := array7 (hsz.trans (by kernel_rfl))
  obtain ⟨fuel, hf⟩ := h
  obtain ⟨xs, n, _, _, _, hxl, hx⟩ := DataW.trod_struct Tryz.underlying23 hf
  have k1 : Tryz.prog.cellsOf 3 = 1 := by kernel_rfl
  have k2 : Tryz.prog.cellsOf 4 = 1 := by kernel_rfl
  have k3 : Tryz.prog.cellsOf 21 = 1 := by kernel_rfl
  have hl : xs.length = 7 := hxl
  have g0 := (hx 0 _ rfl).trans (List.getElem?_eq_getElem (by omega))
  have g1 := (hx 1 _ rfl).trans (List.getElem?_eq_getElem (by omega))
  have g2 := (hx 2 _ rfl).trans (List.getElem?_eq_getElem (by omega))
  have g3 := (hx 3 _ rfl).trans (List.getElem?_eq_getElem (by omega))
  have g4 := (hx 4 _ rfl).trans (List.getElem?_eq_getElem (by omega))
  have g5 := (hx 5 _ rfl).trans (List.getElem?_eq_getElem (by omega))
  have g6 := (hx 6 _ rfl).trans (List.getElem?_eq_getElem (by omega))
  simp only [List.getElem_toArray, List.getElem_cons_zero, List.getElem_cons_succ, Value.cells, k1, k2, k3, List.drop_zero, List.drop_succ_cons, List.take_succ_cons, List.take_zero] at g0 g1 g2 g3 g4 g5 g6
  obtain ⟨n0, h0, _, w0⟩ := DataW.trod_int Tryz.underlying3 g0
  obtain ⟨n1, h1, _⟩ := DataW.trod_bool Tryz.underlying4 g1
  obtain ⟨n2, h2, _⟩ := DataW.trod_bool Tryz.underlying4 g2
  obtain ⟨n3, h3, _⟩ := DataW.trod_bool Tryz.underlying4 g3
  obtain ⟨n4, h4, _, w4⟩ := DataW.trod_int Tryz.underlying21 g4
  obtain ⟨n5, h5, _, w5⟩ := DataW.trod_int Tryz.underlying21 g5
  obtain ⟨n6, h6, _, w6⟩ := DataW.trod_int Tryz.underlying21 g6
  simp only [List.cons.injEq, and_true] at h0 h1 h2 h3 h4 h5 h6
  subst h0 h1 h2 h3 h4 h5 h6
  exact ⟨⟨n0, n1, n2, n3, n4, n5, n6⟩, rfl, bounds_i64 w0, bounds_i32 w4, bounds_i32 w5, bounds_i32 w6⟩
end
end Go.Proofs.YtdifknecndlklaaGreatDoor
namespace Go.Proofs.YtdifknecndlklaaGreatDoor
open Go Go.RowKit
set_option maxHeartbeats 2000000
set_option maxRecDepth 100000

/-- An error made. -/
theorem E_New (s : ByteArray) (w : World) : Calls Tryz.prog 79 #[.string s] w fun e w' => e = .returned (.iface 251 (.pointer (some ⟨w.heap.size, 0, none⟩))) ∧ w.alloc (.cells #[.string s] 253 (0, 0)) = w' := by
  go_enter Tryz.func79, Tryz.ntmps79
  go_wp2
  go_ret
  exact ⟨rfl, rfl⟩

abbrev TU : TypeId := 182
/-- The sixteen bytes while they are read. -/
def uL (U : List UInt8) : List Value := Lib.byteCells U ++ List.replicate (16 - U.length) (Value.int .u8 0)
theorem res_cell_tmp {fn : Func} {p u : Tmp} {ty : TypeId} (h : fn.results = #[.cell p ty, .tmp u]) (tmps : Array Value) (w : World) (b : Nat) (cs : Array Value) (x : Value) (hp : tmps.getD p undef = .pointer (some ⟨b, 0, none⟩)) (hu : tmps.getD u undef = x)
    (hv : (loadVar ty ⟨b, 0, none⟩).run Tryz.prog w = .ok (.agg cs) w) : (results fn tmps).run Tryz.prog w = .ok (.tuple #[.agg cs, x]) w := by
  rw [results_cell_tmp h, hp, hu]
  simp [asAddr, Result.andThen, hv]
theorem info_TU : (Tryz.prog.info? TU).map (·.size) = some 16 := by kernel_rfl
theorem uL_len (U : List UInt8) (h : U.length ≤ 16) : (uL U).length = 16 := by simp [uL, bcells_length]; omega
theorem uL_one (U : List UInt8) : ∀ v ∈ uL U, v.oneCell' = true := by
  intro v hv
  simp only [uL, List.mem_append, Lib.byteCells, List.mem_map, List.mem_replicate] at hv
  rcases hv with ⟨x, _, rfl⟩ | ⟨_, rfl⟩ <;> rfl
theorem uL_at (U : List UInt8) (k : Nat) (h : U.length = k) (hk : k < 16) : (uL U)[k]? = some (.int .u8 0) := by
  unfold uL
  rw [List.getElem?_append_right (by rw [bcells_length]; omega), bcells_length, List.getElem?_replicate]
  simp; omega
theorem one_set {L : List Value} (h : ∀ v ∈ L, v.oneCell' = true) (k : Nat) (n : Int) : ∀ v ∈ L.set k (.int .u8 n), v.oneCell' = true := by
  intro v hv
  rcases List.mem_or_eq_of_mem_set hv with hv | rfl
  · exact h v hv
  · rfl
theorem range_of {w : World} {b : Nat} {L : List Value} {t : TypeId} {f : Nat × Nat} (h : w.heap[b]? = some (.cells L.toArray t f)) : w.rangeAt b 0 L := fun j v hv => by
  rw [Nat.zero_add, cell_at h]
  simpa using hv
theorem there_of {w : World} {b n : Nat} {cs : Array Value} {t : TypeId} (h : w.heap[b]? = some (.cells cs t (0, 0))) (hn : n ≤ cs.size) : w.there b 0 n := fun j hj => by
  rw [Nat.zero_add, cell_at h, free_at h, Array.getElem?_eq_getElem (by omega)]
  exact ⟨rfl, rfl⟩
theorem setCells_at (b : Nat) : ∀ (vs : List Value) (o : Nat) (w : World) (cs : Array Value) (t : TypeId), w.heap[b]? = some (.cells cs t (0, 0)) → ∃ ds, (w.setCells b o vs).heap[b]? = some (.cells ds t (0, 0)) ∧ ds.size = cs.size ∧ Fr (fun k => k = b) (fun k => k = b) w (w.setCells b o vs)
  | [], o, w, cs, t, h => ⟨cs, h, rfl, Fr.refl _ _⟩
  | v :: vs, o, w, cs, t, h => by
    obtain ⟨ds, h1, h2, h3⟩ := setCells_at b vs (o + 1) (w.setCell ⟨b, o, none⟩ v) _ t (setCell_at h v)
    exact ⟨ds, h1, by rw [h2]; simp, (Fr.setCell (F := fun k => k = b) (F' := fun k => k = b) (Fr.refl _ w) (Or.inl rfl) v).trans h3⟩
theorem fr_cells {w W : World} {b : Nat} {cs : Array Value} {t : TypeId} (h : Fr noF noF w W) (hb : w.heap.size ≤ b) (hg : W.heap[b]? = some (.cells cs t (0, 0))) (vs : List Value) (o : Nat) : Fr noF noF w (W.setCells b o vs) := by
  obtain ⟨_, _, _, h3⟩ := setCells_at b vs o W cs t hg
  exact ((h.conv (F'' := fun k => k = b) fun k hk e => by omega).trans h3).conv fun k hk e => e.elim
theorem load_cells {W : World} {b : Nat} {ds : Array Value} {L : List Value} {t : TypeId} (hg : W.heap[b]? = some (.cells ds t (0, 0))) (hd : ds.size = 16) (hc : L.length = 16) :
    (loadVar TU ⟨b, 0, none⟩).run Tryz.prog (W.setCells b 0 L) = .ok (.agg L.toArray) (W.setCells b 0 L) :=
  run_loadVar_mid (P := Tryz.prog) (W.setCells b 0 L) b 0 TU L _ (World.rangeAt_setCells_same W b 0 L (there_of hg (by omega))) Tryz.underlying182 rfl (by rw [info_TU, hc])

/-- The array stands: what is loaded and stored back. -/
structure UA (w W : World) (L : List Value) : Prop where
  blk : W.heap[w.heap.size]? = some (.cells L.toArray TU (0, 0))
  len : L.length = 16
  one : ∀ v ∈ L, v.oneCell' = true
  fr : Fr noF noF w W
theorem UA.range {w W : World} {L : List Value} (h : UA w W L) : W.rangeAt w.heap.size 0 L := range_of h.blk
theorem UA.there {w W : World} {L : List Value} (h : UA w W L) : W.there w.heap.size 0 16 := there_of h.blk (by simp [h.len])
theorem UA.thereL {w W : World} {L : List Value} (h : UA w W L) : W.there w.heap.size 0 L.toArray.size := there_of h.blk (Nat.le_refl _)
theorem UA.info {w W : World} {L : List Value} (h : UA w W L) : (Tryz.prog.info? TU).map (·.size) = some L.length := by rw [info_TU, h.len]
theorem UA.infoA {w W : World} {L : List Value} (h : UA w W L) : (Tryz.prog.info? TU).map (·.size) = some L.toArray.size := by rw [info_TU]; simp [h.len]
theorem UA.all {w W : World} {L : List Value} (h : UA w W L) : L.toArray.all (·.oneCell') = true := all_oneCell_toArray h.one
theorem UA.alloc {w W : World} {L : List Value} (h : UA w W L) (o : Obj) : UA w (W.alloc o) L := ⟨alloc_at h.blk, h.len, h.one, h.fr.alloc o⟩
theorem UA.drewN {w W : World} {L : List Value} (h : UA w W L) (q : Nat) : UA w (W.drewN q) L := ⟨h.blk, h.len, h.one, h.fr.drewN q⟩
theorem UA.drew {w W : World} {L : List Value} (h : UA w W L) : UA w W.drew L := ⟨h.blk, h.len, h.one, h.fr.drew⟩
theorem UA.set {w W : World} {L : List Value} (h : UA w W L) (k : Nat) (n : Int) : UA w (W.setCell ⟨w.heap.size, k, none⟩ (.int .u8 n)) (L.set k (.int .u8 n)) :=
  ⟨by rw [setCell_at h.blk]; simp, by rw [List.length_set]; exact h.len, one_set h.one k n, h.fr.setCell (Or.inr (Nat.le_refl _)) _⟩
theorem UA.load {w W : World} {L : List Value} (h : UA w W L) : (loadVar TU ⟨w.heap.size, 0, none⟩).run Tryz.prog (W.setCells w.heap.size 0 L) = .ok (.agg L.toArray) (W.setCells w.heap.size 0 L) := load_cells h.blk (by simp [h.len]) h.len
theorem UA.done {w W : World} {L : List Value} (h : UA w W L) : Fr noF noF w (W.setCells w.heap.size 0 L) := fr_cells h.fr (Nat.le_refl _) h.blk _ _
theorem UA.range3 {w W : World} {L : List Value} (h : UA w W L) : (W.setCells w.heap.size 0 L).rangeAt w.heap.size 0 L := World.rangeAt_setCells_same W _ 0 L (there_of h.blk (by simp))
theorem UA.there3 {w W : World} {L : List Value} (h : UA w W L) : (W.setCells w.heap.size 0 L).there w.heap.size 0 16 := by
  obtain ⟨ds, h1, h2, _⟩ := setCells_at w.heap.size L 0 W _ _ h.blk
  exact there_of h1 (by rw [h2]; simp [h.len])
theorem UA.zero (w : World) : UA w (w.alloc (.cells (uL []).toArray TU (0, 0))) (uL []) := ⟨alloc_new w _, rfl, uL_one [], (Fr.refl noF w).alloc _⟩
abbrev zL : List Value := [Value.int .u8 0, Value.int .u8 0, Value.int .u8 0, Value.int .u8 0, Value.int .u8 0, Value.int .u8 0, Value.int .u8 0, Value.int .u8 0, Value.int .u8 0, Value.int .u8 0, Value.int .u8 0, Value.int .u8 0, Value.int .u8 0, Value.int .u8 0, Value.int .u8 0, Value.int .u8 0]
theorem UA.zero' (w : World) : UA w (w.alloc (.cells zL.toArray TU (0, 0))) zL := UA.zero w
/-- An error made beside it. -/
theorem New_beside (w W : World) (L : List Value) (h : UA w W L) (s : ByteArray) : Calls Tryz.prog 79 #[.string s] W fun e w' => ∃ p, e = .returned (.iface 251 p) ∧ UA w w' L :=
  (E_New s W).mono fun e w' ⟨he, hw⟩ => ⟨_, he, by rw [← hw]; exact h.alloc _⟩

end Go.Proofs.YtdifknecndlklaaGreatDoor
namespace Go.Proofs.YtdifknecndlklaaGreatDoor
open Go Go.RowKit
set_option maxHeartbeats 1000000
set_option maxRecDepth 100000

theorem RdI.keep {w w' : World} {v : Value} {l : List Int} (h : RdI w v l) (hf : Fr noF noF w w') : RdI w' v l := by
  rcases h with h | ⟨a, n, c, h1, h2, h3, h4, h5⟩
  · exact Or.inl h
  · exact Or.inr ⟨a, n, c, h1, h2, h3, h4, fun j u hj => hf.cell (h5 j u hj) fun x => x⟩
theorem RdI.len {w : World} {v : Value} {l : List Int} (h : RdI w v l) : ∃ a n c, v = .slice a n c ∧ l.length = n := by
  rcases h with ⟨rfl, rfl⟩ | ⟨a, n, c, rfl, hl, _⟩
  · exact ⟨none, 0, 0, rfl, rfl⟩
  · exact ⟨_, _, _, rfl, hl⟩
/-- A list with something in it lies at a plain address. -/
theorem RdI.plain {w : World} {v : Value} {l : List Int} (h : RdI w v l) (hl : 0 < l.length) : ∃ b o c, v = .slice (some ⟨b, o, none⟩) l.length c ∧ l.length ≤ c ∧ ∀ (j : Nat) u, l[j]? = some u → w.cell? ⟨b, o + j, none⟩ = some (.int .i64 u) := by
  rcases h with ⟨rfl, rfl⟩ | ⟨a, n, c, rfl, hn, hc, _, hs⟩
  · simp at hl
  · obtain ⟨b, o, spot⟩ := a
    have h0 := hs 0 _ (List.getElem?_eq_getElem hl)
    have hspot : spot = none := by simpa [Addr.add] using World.cell?_spot h0
    subst hspot
    refine ⟨b, o, c, by rw [hn], by omega, fun j u hj => ?_⟩
    have := hs j u hj
    rwa [Go.WideShapes.add_plain] at this

abbrev TInt : TypeId := 3
theorem info_int : (Tryz.prog.info? 3).map (fun i => (i.zero, i.size, i.bytes)) = some (some (.int .i64 0), 1, 8) := by kernel_rfl
abbrev icells (l : List Int) : List Value := l.map (Value.int .i64)
/-- The value v holds the numbers l, in a block from base on. -/
def OwnI (w : World) (base : Nat) (v : Value) (l : List Int) : Prop := w.ownsRow base TInt 1 v l.length (icells l)
theorem OwnI.nil (w : World) (base : Nat) : OwnI w base (.slice none 0 0) [] := ⟨rfl, Or.inl ⟨rfl, rfl⟩⟩
theorem icell_at {l : List Int} {j : Nat} {u : Int} (h : l[j]? = some u) : (icells l)[j]? = some (.int .i64 u) := by simp [icells, h]
theorem OwnI.rd {w : World} {base : Nat} {v : Value} {l : List Int} (h : OwnI w base v l) : RdI w v l := by
  rcases h.2 with ⟨rfl, h0⟩ | ⟨g, cap, cur, rfl, hb, hg, hn, hm, hs, ht⟩
  · exact Or.inl ⟨rfl, List.length_eq_zero_iff.1 h0⟩
  · refine Or.inr ⟨_, _, _, rfl, rfl, hn, hm, fun j u hj => ?_⟩
    rw [Lib.addr_add, cell_at hg]
    have hjl : j < l.length := (List.getElem?_eq_some_iff.1 hj).1
    have h1 : (cur.toList.take (l.length * 1))[j]? = (icells l)[j]? := by rw [ht]
    rw [List.getElem?_take_of_lt (by omega)] at h1
    simp only [Array.getElem?_toList] at h1
    rw [Nat.zero_add, h1, icell_at hj]
theorem OwnI.own {w : World} {base : Nat} {v : Value} {l : List Int} (h : OwnI w base v l) : ∀ k, v.ownBlock = some k → base ≤ k := by
  intro k hk
  rcases h.2 with ⟨rfl, _⟩ | ⟨g, cap, cur, rfl, hb, _⟩
  · cases hk
  · injection hk with hk; subst hk; exact hb
theorem OwnI.drewN {w : World} {base : Nat} {v : Value} {l : List Int} (h : OwnI w base v l) (q : Nat) : OwnI (w.drewN q) base v l := h
/-- Where it lies. -/
theorem OwnI.at {w : World} {base n c : Nat} {a : Option Addr} {l : List Int} (h : OwnI w base (.slice a n c) l) (hl : 0 < n) : ∃ g, a = some ⟨g, 0, none⟩ ∧ base ≤ g ∧ l.length = n ∧ ∀ (j : Nat) u, l[j]? = some u → w.cell? ⟨g, j, none⟩ = some (.int .i64 u) ∧ w.frozen? ⟨g, j, none⟩ = false := by
  have hr := h.rd
  obtain ⟨h0, ⟨h, _⟩ | ⟨g', cap, cur, hv, hb, hg, h1, h2, h3, h4⟩⟩ := h
  · injection h with _ h _; omega
  · injection hv with hv hn hc
    subst hv
    refine ⟨g', rfl, hb, hn.symm, fun j u hj => ⟨?_, free_at hg j⟩⟩
    rcases hr with ⟨h, _⟩ | ⟨a', n', c', h, _, _, _, hs⟩
    · cases h
    · injection h with h _ _
      injection h with h
      subst h
      have := hs j u hj
      rwa [Lib.addr_add, Nat.zero_add] at this
theorem OwnI.set {w : World} {base g c n : Nat} {l : List Int} (h : OwnI w base (.slice (some ⟨g, 0, none⟩) n c) l) (k : Nat) (u : Int) : OwnI (w.setCell ⟨g, k, none⟩ (.int .i64 u)) base (.slice (some ⟨g, 0, none⟩) n c) (l.set k u) := by
  obtain ⟨h0, ⟨h, _⟩ | ⟨g', cap, cur, hv, hb, hg, h1, h2, h3, h4⟩⟩ := h
  · cases h
  · injection hv with hv hn hc
    injection hv with hv
    injection hv with hv
    subst hv hc hn
    refine ⟨by simp [icells], Or.inr ⟨g, c, _, by rw [List.length_set], hb, setCell_at hg _, by rw [List.length_set]; exact h1, h2, by simpa using h3, ?_⟩⟩
    rw [Array.toList_setIfInBounds, List.length_set, List.take_set, h4]
    simp only [icells, List.map_set]

/-- Numbers appended, whatever they are held by. -/
theorem append_ints {w : World} {ops : Array Oper} {rest : List Oper} {o : Oper} {a : Act} {Q : Exit → Act → World → Prop} (hgd : o.guard = none) (s x : Operand)
    (ho : o.op = .call { callee := .builtin .append, args := #[s, x], argTypes := #[36, 36] })
    (base : Nat) (v vx : Value) (L l : List Int) (hs : a.eval s = v) (hown : OwnI w base v L) (hx : a.eval x = vx) (hr : RdI w vx l) (hb : L.length + l.length ≤ 1000000) (hbase : base ≤ w.heap.size)
    (h : ∀ v' w', OwnI w' base v' (L ++ l) → w.grownBy w' v.ownBlock → wpList Tryz.prog ops Q rest (a.put o.dst v') w') : wpList Tryz.prog ops Q (o :: rest) a w := by
  obtain ⟨i0, hi, hz0, hz1, hz2⟩ := info_parts info_int
  rcases hr with ⟨rfl, rfl⟩ | ⟨ad, n, c, rfl, hn, hc, hm, hc2⟩
  · refine wpList_append_own_none hgd s x 36 ho base TInt i0 1 Tryz.underlying36 hi v L.length (icells L) hs hown hx (h v w (by rw [List.append_nil]; exact hown) ⟨rfl, rfl, rfl, Nat.le_refl _, fun _ _ _ => rfl⟩)
  · refine wpList_append_own w hgd s x 36 ho base TInt i0 (.int .i64 0) 1 8 Tryz.underlying36 hi hz0 hz1 hz2 rfl (by decide) v L.length (icells L) hs hown ad n c (icells l) hx (by simp [icells]; omega) (fun j u hj => ?_) (fun u hu => ?_) (by unfold maxLen; omega) (by omega) hbase ?_
    · simp only [icells, List.getElem?_map, Option.map_eq_some_iff] at hj
      obtain ⟨y, h1, rfl⟩ := hj
      exact hc2 j y h1
    · simp only [icells, List.mem_map] at hu
      obtain ⟨y, _, rfl⟩ := hu
      rfl
    · intro v' w' h1 h2 _
      refine h v' w' ?_ h2
      unfold OwnI icells
      rw [List.length_append, List.map_append, hn]
      exact h1

/-- .. where it is guarded, and wanted. -/
theorem append_ints_g {w : World} {ops : Array Oper} {rest : List Oper} {o : Oper} {a : Act} {Q : Exit → Act → World → Prop} (hw : Region.wanted o (yielded ops a.tmps) = true) (s x : Operand)
    (ho : o.op = .call { callee := .builtin .append, args := #[s, x], argTypes := #[36, 36] })
    (base : Nat) (v vx : Value) (L l : List Int) (hs : a.eval s = v) (hown : OwnI w base v L) (hx : a.eval x = vx) (hr : RdI w vx l) (hb : L.length + l.length ≤ 1000000) (hbase : base ≤ w.heap.size)
    (h : ∀ v' w', OwnI w' base v' (L ++ l) → w.grownBy w' v.ownBlock → wpList Tryz.prog ops Q rest (a.put o.dst v') w') : wpList Tryz.prog ops Q (o :: rest) a w := by
  obtain ⟨i0, hi, hz0, hz1, hz2⟩ := info_parts info_int
  refine BigFrame.wpList_want hw fun K hK => ?_
  rcases hr with ⟨rfl, rfl⟩ | ⟨ad, n, c, rfl, hn, hc, hm, hc2⟩
  · have hrun := run_append_owned_none (P := Tryz.prog) (w := w) base 36 o.type TInt i0 1 Tryz.underlying36 hi v L.length (icells L) hown
    unfold Oper.wp
    simp [execOp, ho, resolve, invoke, builtin, hs, hx, hrun, Result.andThen]
    exact hK _ _ (h v w (by rw [List.append_nil]; exact hown) ⟨rfl, rfl, rfl, Nat.le_refl _, fun _ _ _ => rfl⟩)
  · refine wp_append_own w s x 36 ho base TInt i0 (.int .i64 0) 1 8 Tryz.underlying36 hi hz0 hz1 hz2 rfl (by decide) v L.length (icells L) hs hown ad n c (icells l) hx (by simp [icells]; omega) (fun j u hj => ?_) (fun u hu => ?_) (by unfold maxLen; omega) (by omega) hbase ?_
    · simp only [icells, List.getElem?_map, Option.map_eq_some_iff] at hj
      obtain ⟨y, h1, rfl⟩ := hj
      exact hc2 j y h1
    · simp only [icells, List.mem_map] at hu
      obtain ⟨y, _, rfl⟩ := hu
      rfl
    · intro v' w' h1 h2 _
      refine hK _ _ (h v' w' ?_ h2)
      unfold OwnI icells
      rw [List.length_append, List.map_append, hn]
      exact h1
theorem own_alloc {w : World} {base : Nat} {v : Value} {l : List Int} (h : OwnI w base v l) (o : Obj) : OwnI (w.alloc o) base v l := by
  obtain ⟨h0, h | ⟨g', cap, cur, hv, hb, hg, h1, h2, h3, h4⟩⟩ := h
  · exact ⟨h0, Or.inl h⟩
  · exact ⟨h0, Or.inr ⟨g', cap, cur, hv, hb, alloc_at hg, h1, h2, h3, h4⟩⟩
theorem one_int (w : World) (n : Int) : RdI (w.alloc (.cells #[.int .i64 n] TInt (0, 0))) (.slice (some ⟨w.heap.size, 0, none⟩) 1 1) [n] :=
  Or.inr ⟨_, 1, 1, rfl, rfl, Nat.le_refl _, by decide, fun j u hj => by
    match j, hj with
    | 0, hj =>
      simp at hj
      subst hj
      rw [Lib.addr_add, cell_at (alloc_new w _)]
      rfl⟩

end Go.Proofs.YtdifknecndlklaaGreatDoor
namespace Go.Proofs.YtdifknecndlklaaGreatDoor
open Go Go.RowKit
set_option maxHeartbeats 2000000
set_option maxRecDepth 100000

theorem L_joined (g n : Nat) (vs : List Value) (ls : List (List UInt8)) (w : World) (hg : ∀ (i : Nat) v, vs[i]? = some v → w.cell? ⟨g, i, none⟩ = some v)
    (hv : ∀ (i : Nat) v l, vs[i]? = some v → ls[i]? = some l → Rd w v l) (h1 : vs.length = n) (h2 : ls.length = n) (hn : n ≤ 100) (hb : ∀ l ∈ ls, l.length ≤ 1000000000) (hB : ∀ k, ((ls.take k).flatten).length ≤ 1000000000) :
    Calls Tryz.prog 27 #[.slice (some ⟨g, 0, none⟩) n n] w (NewR ls.flatten w) := by
  obtain ⟨i0, hi, hz0, hz1, hz2⟩ := info_parts info_u8
  have HG := Lib.hid hg
  have HV := Lib.hid hv
  have HB := Lib.hid (And.intro hb hB)
  have HN := Lib.hid (OwnB.nil w w.heap.size)
  clear hg hv hb hB
  go_enter Tryz.func27, Tryz.ntmps27
  go_wp2_with fail
  go_loopw [3, 4] (fun o i wr => ∃ k : Nat, i = .int .i64 k ∧ k ≤ n ∧ OwnB wr w.heap.size o (ls.take k).flatten ∧ Fr noF noF w wr) (fun _ i _ => n - (intOf i).toNat)
  case atStart => exact ⟨0, rfl, by omega, HN.out, Fr.refl noF w⟩
  case round =>
    obtain ⟨k, rfl, hk, hown, hfr⟩ := hrel
    rcases Nat.lt_or_ge k n with hlt | hge
    · obtain ⟨v, hvk⟩ : ∃ v, vs[k]? = some v := ⟨_, List.getElem?_eq_getElem (by omega)⟩
      obtain ⟨l, hlk⟩ : ∃ l, ls[k]? = some l := ⟨_, List.getElem?_eq_getElem (by omega)⟩
      have d1 := hfr.cell (HG.out k v hvk) fun x => x
      have hrd := (HV.out k v l hvk hlk).keep (F := noF) hfr fun _ _ x => x
      have hsz := hfr.size
      have hk0 : (0 : Int) ≤ (k : Int) := by omega
      have hk1 : (k : Int) < (n : Int) := by omega
      have hll : l.length ≤ 1000000000 := HB.out.1 l (List.mem_of_getElem? hlk)
      have hol := HB.out.2 k
      have hst : (ls.take (k + 1)).flatten = (ls.take k).flatten ++ l := by rw [List.take_add_one, hlk]; simp
      have HS := Lib.hid (And.intro hst hfr)
      have HL := Lib.hid hol
      have HSM := Lib.hid (show ((ls.take k).flatten).length = (List.take k (List.map List.length ls)).sum by rw [List.length_flatten, List.map_take])
      clear hst hfr hvk hlk
      rcases hrd with ⟨rfl, rfl⟩ | ⟨a, m, c, rfl, hm, hc, hmx, hs⟩
      · go_wp2_with (at_builtin; refine wpList_append_own_none rfl _ _ 24 rfl w.heap.size U8 i0 1 Tryz.underlying24 hi _ _ _ rfl hown rfl ?_)
        refine ⟨⟨k + 1, rfl, by omega, by rw [HS.out.1, List.append_nil]; exact hown, HS.out.2⟩, ?_⟩
        have e1 : intOf (Value.int IntKind.i64 (↑k + 1)) = k + 1 := rfl
        have e2 : intOf (Value.int IntKind.i64 (k : Int)) = k := rfl
        rw [e1, e2]; omega
      · have HC := Lib.hid hs
        clear hs
        go_wp2_with (at_builtin; refine wpList_append_own _ rfl _ _ 24 rfl w.heap.size U8 i0 (.int .u8 0) 1 1 Tryz.underlying24 hi hz0 hz1 hz2 rfl (by decide) _ _ _ rfl hown a m c (Lib.byteCells l) rfl (by rw [bcells_length]; omega) (fun j u hj => by obtain ⟨x, h1, rfl⟩ := bcells_get hj; exact HC.out j x h1) (fun u hu => by simp only [Lib.byteCells, List.mem_map] at hu; obtain ⟨x, _, rfl⟩ := hu; rfl) (by have := HL.out; unfold maxLen; omega) (by have := HL.out; omega) hsz ?_)
        intro v' w1 hown' hg' _
        have HG1 := Lib.hid (And.intro (OwnB.more (l := (ls.take k).flatten) (m := l) hown' (by have := HSM.out; omega)) (HS.out.2.grown hg' fun k hk => hown.own k hk))
        clear hown' hg' hown
        go_wp2
        refine ⟨⟨k + 1, rfl, by omega, by rw [HS.out.1]; exact HG1.out.1, HG1.out.2⟩, ?_⟩
        have e1 : intOf (Value.int IntKind.i64 (↑k + 1)) = k + 1 := rfl
        have e2 : intOf (Value.int IntKind.i64 (k : Int)) = k := rfl
        rw [e1, e2]; omega
    · obtain rfl : k = n := by omega
      rw [List.take_of_length_le (by omega)] at hown
      have HX := Lib.hid (And.intro hown hfr)
      clear hown hfr
      go_wp2
      go_ret
      exact ⟨_, rfl, HX.out.1, HX.out.2⟩

/-- Sixteen bytes of some. -/
def pad16 (l : List UInt8) : List UInt8 := l.take 16 ++ List.replicate (16 - l.length) 0
theorem pad16_len (l : List UInt8) : (pad16 l).length = 16 := by simp [pad16]; omega
theorem pad16_same {l : List UInt8} (h : l.length = 16) : pad16 l = l := by
  unfold pad16
  rw [List.take_of_length_le (by omega), h]
  simp
theorem uL_set {U : List UInt8} {k : Nat} (h : U.length = k) (hk : k < 16) (u : UInt8) : (uL U).set k (.int .u8 u.toNat) = uL (U ++ [u]) := by
  unfold uL
  rw [List.length_append, bcells_append, show 16 - U.length = (16 - (U.length + 1)) + 1 by omega, List.replicate_succ, List.set_append, if_neg (by rw [bcells_length]; omega), bcells_length, show k - U.length = 0 by omega, List.set_cons_zero, List.append_assoc]
  rfl
theorem uL_pad (l : List UInt8) (k : Nat) (hk : k ≤ 16) (h : k = 16 ∨ l.length ≤ k) : uL (l.take k) = Lib.byteCells (pad16 l) := by
  have e : l.take k = l.take 16 := by
    rcases h with rfl | h
    · rfl
    · rw [List.take_of_length_le h, List.take_of_length_le (by omega)]
  unfold uL pad16
  rw [e, bcells_append]
  congr 1
  rw [List.length_take, show 16 - min 16 l.length = 16 - l.length by omega]
  simp [Lib.byteCells]

theorem rd_at {w : World} {b : Nat} {d : List UInt8} {t : TypeId} {f : Nat × Nat} (h : w.heap[b]? = some (.cells (Lib.byteCells d).toArray t f)) (hd : d.length = 16) : Rd w (.slice (some ⟨b, 0, none⟩) 16 16) d :=
  Or.inr ⟨_, 16, 16, rfl, hd, Nat.le_refl _, by decide, fun j u hj => by
    rw [Lib.addr_add, cell_at h]
    simp [Lib.byteCells, hj]⟩

theorem hid2 {p : Prop} (h : p) : Hid p := Lib.hid h
theorem made16 : (madeCells #[Value.int .u8 0] 16).toList = uL [] := by
  apply List.ext_getElem
  · simp [madeCells, uL, Lib.byteCells]
  · intro i h1 h2
    have hi : i < 16 := by simpa [madeCells] using h1
    have hw : i = 0 ∨ i = 1 ∨ i = 2 ∨ i = 3 ∨ i = 4 ∨ i = 5 ∨ i = 6 ∨ i = 7 ∨ i = 8 ∨ i = 9 ∨ i = 10 ∨ i = 11 ∨ i = 12 ∨ i = 13 ∨ i = 14 ∨ i = 15 := by omega
    rcases hw with rfl | rfl | rfl | rfl | rfl | rfl | rfl | rfl | rfl | rfl | rfl | rfl | rfl | rfl | rfl | rfl <;> simp [madeCells, uL, Lib.byteCells]
theorem own_row {w : World} {base g m : Nat} {e : TypeId} {L : List Value} (h : w.ownsRow base e 1 (.slice (some ⟨g, 0, none⟩) m m) m L) : w.heap[g]? = some (.cells L.toArray e (0, 0)) := by
  obtain ⟨h0, h | ⟨g', cap, cur, hv, hb, hg, h1, h2, h3, h4⟩⟩ := h
  · cases h.1
  · injection hv with hv _ hc
    injection hv with hv
    injection hv with hv
    subst hv hc
    rw [hg]
    congr 2
    apply Array.ext'
    rw [← h4, List.take_of_length_le (by rw [Array.length_toList]; omega)]

theorem L_padded (v : Value) (l : List UInt8) (w : World) (h : Rd w v l) : Calls Tryz.prog 51 #[v] w fun e w' => ∃ r, e = .returned r ∧ Rd w' r (pad16 l) ∧ (∀ k, vblk r k → w.heap.size ≤ k) ∧ Fr noF noF w w' := by
  obtain ⟨a, n, c, rfl, hn⟩ := h.len
  have H := Lib.hid h
  have hmx : (n : Int) ≤ 9223372036854775807 := by
    rcases h with ⟨h, _⟩ | ⟨_, _, _, h, _, hc, hm, _⟩
    · injection h with _ h _; omega
    · injection h with _ h _; unfold maxLen at hm; omega
  clear h
  obtain ⟨i0, hi, hz0, hz1, hz2⟩ := info_parts info_u8
  go_enter Tryz.func51, Tryz.ntmps51
  go_wp2_with (refine wpList_make_full _ rfl _ _ 24 rfl w.heap.size U8 i0 (.int .u8 0) 1 Tryz.underlying24 hi hz0 hz1 .i64 .i64 16 16 16 rfl rfl rfl rfl (by rw [hz2]; decide) (by decide) (Nat.le_refl _) ?_)
  intro w1 hown hg
  have hrow := own_row hown
  rw [made16] at hrow
  have H1 := Lib.hid (And.intro hrow ((Fr.refl noF w).grown hg fun k hk => by cases hk))
  clear hown hg hrow
  go_wp2_with fail
  go_loopw [4] (fun i wr => ∃ k : Nat, i = .int .i64 k ∧ k ≤ 16 ∧ k ≤ n ∧ wr.heap[w.heap.size]? = some (.cells (uL (l.take k)).toArray U8 (0, 0)) ∧ Fr noF noF w wr) (fun i _ => 16 - (intOf i).toNat)
  case atStart =>
    refine ⟨0, rfl, by omega, by omega, ?_, ?_⟩
    · exact H1.out.1
    · exact H1.out.2
  case round =>
    obtain ⟨k, rfl, hk, hkn, hb, hfr⟩ := hrel
    rcases (show (k < 16 ∧ k < n) ∨ (k = 16 ∨ n ≤ k) by omega) with ⟨h16, hlt⟩ | hend
    · obtain ⟨u, hu⟩ : ∃ u, l[k]? = some u := ⟨_, List.getElem?_eq_getElem (by omega)⟩
      have hcell : ∃ b1, a = some b1 ∧ wr.cell? (b1.add k) = some (.int .u8 u.toNat) := by
        rcases H.out with ⟨h, rfl⟩ | ⟨a', n', c', h, _, _, _, hs⟩
        · simp at hu
        · injection h with h _ _; exact ⟨a', h, hfr.cell (hs k u hu) fun x => x⟩
      obtain ⟨b1, rfl, d1⟩ := hcell
      have hk0 : (0 : Int) ≤ (k : Int) := by omega
      have hk1 : (k : Int) < 16 := by omega
      have hk2 : (k : Int) < (n : Int) := by omega
      have hkl : (l.take k).length = k := by rw [List.length_take]; omega
      have c0 : wr.cell? ⟨w.heap.size, k, none⟩ = some (.int .u8 0) := by rw [cell_at hb]; simpa using uL_at (l.take k) k hkl h16
      have f0 := free_at hb k
      have hnx : (wr.setCell ⟨w.heap.size, k, none⟩ (.int .u8 u.toNat)).heap[w.heap.size]? = some (.cells (uL (l.take (k + 1))).toArray U8 (0, 0)) := by
        rw [setCell_at hb]
        simp only [List.setIfInBounds_toArray]
        rw [uL_set hkl h16 u, List.take_add_one, hu]
        rfl
      have HX := hid2 (And.intro hnx (hfr.setCell (p := ⟨w.heap.size, k, none⟩) (Or.inr (Nat.le_refl _)) (.int .u8 u.toNat)))
      clear hnx hfr hb hu hkl
      obtain ⟨x, hx⟩ : ∃ x : Int, x = (u.toNat : Int) := ⟨_, rfl⟩
      rw [← hx] at HX d1
      clear hx
      go_wp2
      refine ⟨⟨k + 1, rfl, by omega, by omega, HX.out.1, HX.out.2⟩, ?_⟩
      have e1 : intOf (Value.int IntKind.i64 (↑k + 1)) = k + 1 := rfl
      have e2 : intOf (Value.int IntKind.i64 (k : Int)) = k := rfl
      rw [e1, e2]; omega
    · have hpad := uL_pad l k hk (by omega)
      rw [hpad] at hb
      have HX := Lib.hid (And.intro hb hfr)
      have hR : Rd wr (.slice (some ⟨w.heap.size, 0, none⟩) 16 16) (pad16 l) := rd_at hb (pad16_len l)
      have HR := Lib.hid hR
      clear hR hb hfr hpad
      rcases hend with rfl | hend
      · go_wp2
        go_ret
        exact ⟨_, rfl, HR.out, fun k hk => by rw [← (show w.heap.size = k from hk)]; exact Nat.le_refl _, HX.out.2⟩
      · rcases Nat.lt_or_ge k 16 with h16 | h16
        · have hk1 : (k : Int) < 16 := by omega
          have hk2 : ¬ (k : Int) < (n : Int) := by omega
          go_wp2
          go_ret
          exact ⟨_, rfl, HR.out, fun k hk => by rw [← (show w.heap.size = k from hk)]; exact Nat.le_refl _, HX.out.2⟩
        · have hk1 : ¬ (k : Int) < 16 := by omega
          go_wp2
          go_ret
          exact ⟨_, rfl, HR.out, fun k hk => by rw [← (show w.heap.size = k from hk)]; exact Nat.le_refl _, HX.out.2⟩

end Go.Proofs.YtdifknecndlklaaGreatDoor
namespace Go.Proofs.YtdifknecndlklaaGreatDoor
open Go Go.RowKit

theorem leBytes_mod : ∀ (k v : Nat), Lib.leBytes k (v % 256 ^ k) = Lib.leBytes k v
  | 0, v => rfl
  | k + 1, v => by
    simp only [Lib.leBytes]
    rw [Nat.pow_succ, Nat.mul_comm (256 ^ k) 256, Nat.mod_mul_right_div_self, leBytes_mod k, Nat.mod_mul_right_mod]
theorem beBytes_mod (k v : Nat) : Lib.beBytes k (v % 256 ^ k) = Lib.beBytes k v := by unfold Lib.beBytes; rw [leBytes_mod]
theorem beBytes_succ (k v : Nat) : Lib.beBytes (k + 1) v = Lib.beBytes k (v / 256) ++ [(v % 256).toUInt8] := by simp [Lib.beBytes, Lib.leBytes]

/-- The k lowest bytes of a number, the highest first. -/
def bigB (n : Int) (k : Nat) : List UInt8 := Lib.beBytes k (n % 18446744073709551616).toNat
theorem bigB_length (n : Int) (k : Nat) : (bigB n k).length = k := Lib.beBytes_length _ _
theorem bigB_1 (n : Int) : bigB n 1 = [b8 n] := by
  unfold bigB b8
  rw [beBytes_succ]
  simp only [Lib.beBytes, Lib.leBytes, List.reverse_nil, List.nil_append]
  congr 2
  omega
theorem bigB_2 (n : Int) : bigB n 2 = be2 n := by
  unfold bigB be2
  rw [← beBytes_mod 2]
  congr 1
  omega
theorem bigB_4 (n : Int) : bigB n 4 = be4 n := by
  unfold bigB be4
  rw [← beBytes_mod 4]
  congr 1
  omega
theorem bigB_8 (n : Int) : bigB n 8 = be8 n := rfl

theorem wrap_i8 (n : Int) : IntKind.i8.wrap n = (n + 128) % 256 - 128 := by simp [IntKind.wrap, IntKind.bits, IntKind.signed]; omega
theorem wrap_i16 (n : Int) : IntKind.i16.wrap n = (n + 32768) % 65536 - 32768 := by simp [IntKind.wrap, IntKind.bits, IntKind.signed]; omega
theorem b8_toNat (n : Int) : ((b8 n).toNat : Int) = n % 256 := by
  unfold b8
  have h : ((n % 256).toNat).toUInt8.toNat = (n % 256).toNat % 256 := by simp [Nat.toUInt8, UInt8.toNat_ofNat']
  rw [h]
  omega
theorem u8_wrap_b8 (t : Int) : IntKind.u8.wrap t = ((b8 t).toNat : Int) := by
  rw [b8_toNat]
  simp [IntKind.wrap, IntKind.bits, IntKind.signed]
theorem rd1 (n : Int) : IntKind.i8.wrap (b8 n).toNat = IntKind.i8.wrap n := by
  rw [b8_toNat, wrap_i8, wrap_i8]
  omega
theorem beNat_be2 (n : Int) : ((Lib.beNat (be2 n) : Nat) : Int) = n % 65536 := by
  unfold be2
  rw [Lib.beNat_beBytes 2 _ (by omega)]
  omega
theorem beNat_be4 (n : Int) : ((Lib.beNat (be4 n) : Nat) : Int) = n % 4294967296 := by
  unfold be4
  rw [Lib.beNat_beBytes 4 _ (by omega)]
  omega
theorem beNat_be8 (n : Int) : ((Lib.beNat (be8 n) : Nat) : Int) = n % 18446744073709551616 := by
  unfold be8
  rw [Lib.beNat_beBytes 8 _ (by omega)]
  omega
theorem rd2 (n : Int) : IntKind.i16.wrap (Lib.beNat (be2 n)) = IntKind.i16.wrap n := by
  rw [beNat_be2, wrap_i16, wrap_i16]
  omega
theorem rd4 (n : Int) : wrap32 (Lib.beNat (be4 n)) = wrap32 n := by
  rw [beNat_be4]
  unfold wrap32
  omega
theorem rd8 (n : Int) : wrap64 (Lib.beNat (be8 n)) = wrap64 n := by
  rw [beNat_be8]
  unfold wrap64
  omega
end Go.Proofs.YtdifknecndlklaaGreatDoor
