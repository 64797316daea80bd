/- Numbers read of an array's head. -/
import Derived.Test.YtdedkoahfailcaaGreatDoorFull
import Derived.Lib.Endian
import Derived.Lib.EndianBits
namespace Go.Proofs.YtdedkoahfailcaaGreatDoor
open Go Go.RowKit
set_option maxHeartbeats 2000000
set_option maxRecDepth 100000

theorem GetBE4 (g o : Nat) (b0 b1 b2 b3 : UInt8) (rest : List UInt8) (hd : List Value) (T : TypeId) (w : World) (h : Arr w g T hd (b0 :: b1 :: b2 :: b3 :: rest)) (ho : hd.length = o) :
    Calls Tryz.prog 252 #[.agg #[], .slice (some ⟨g, o, none⟩) 4 64] w fun e w' => e = .returned (.int .u32 (Lib.beNat [b0, b1, b2, b3])) ∧ ∃ q, (w.alloc (.cells #[] 317)).drewN q = w' := by
  subst ho
  have h' : Arr (w.alloc (.cells #[] 317)) g T hd (b0 :: b1 :: b2 :: b3 :: rest) := alloc_at h
  have d0 : (w.alloc (.cells #[] 317)).cell? ⟨g, hd.length, none⟩ = some (.int .u8 b0.toNat) := h'.cell 0 (by simp)
  have d1 : (w.alloc (.cells #[] 317)).cell? ⟨g, hd.length + 1, none⟩ = some (.int .u8 b1.toNat) := h'.cell 1 (by simp)
  have d2 : (w.alloc (.cells #[] 317)).cell? ⟨g, hd.length + 2, none⟩ = some (.int .u8 b2.toNat) := h'.cell 2 (by simp)
  have d3 : (w.alloc (.cells #[] 317)).cell? ⟨g, hd.length + 3, none⟩ = some (.int .u8 b3.toNat) := h'.cell 3 (by simp)
  have h0 : b0.toNat < 256 := b0.toNat_lt
  have h1 : b1.toNat < 256 := b1.toNat_lt
  have h2 : b2.toNat < 256 := b2.toNat_lt
  have h3 : b3.toNat < 256 := b3.toNat_lt
  have hv : ((Lib.beNat [b0, b1, b2, b3] : Nat) : Int) = (b3.toNat : Int) + (b2.toNat : Int) * 256 + (b1.toNat : Int) * 65536 + (b0.toNat : Int) * 16777216 := by
    simp only [Lib.beNat, Lib.beFrom]
    push_cast
    omega
  have HV := Lib.hid hv
  clear hv h h'
  go_enter Tryz.func252, Tryz.ntmps252
  go_wp2
  go_quiet (fail)
  go_wp2
  go_ret
  refine ⟨?_, _, rfl⟩
  simp (disch := omega) only [u32_or8, u32_or16, u32_or24]
  rw [HV.out]
  rfl

theorem laid_arr (hd : List Value) (buf x : List UInt8) (o : Nat) (ho : hd.length = o) : laid (hd ++ Lib.byteCells buf).toArray o x = (hd ++ Lib.byteCells (x ++ buf.drop x.length)).toArray := by
  subst ho
  unfold laid
  congr 1
  simp [Lib.byteCells, List.drop_append, List.append_assoc]

/-- What a reading of a whole piece leaves, whatever it tells. -/
def ReadQ (w : World) (b T : Nat) (l : List UInt8) (g : Nat) (Tg : TypeId) (cs : Array Value) (o n : Nat) (w' : World) : Prop :=
  Buf w' b T false (l.drop n) ∧ w'.heap[g]? = some (.cells (laid cs o (l.take n)) Tg (0, 0)) ∧ Fr (fun k => BF w b k ∨ k = g) (fun k => BF w' b k ∨ k = g) w w'

theorem ReadFull_full (m b T : Nat) (z : Bool) (l : List UInt8) (g : Nat) (Tg : TypeId) (cs : Array Value) (o k cap : Nat) (w : World) (hm : w.cell? ⟨m, 0, none⟩ = some (.pointer (some ⟨b, 0, none⟩))) (hmb : ¬ BF w b m) (hmg : m ≠ g) (h : Buf w b T z l) (hkl : k ≤ l.length) (hg : w.heap[g]? = some (.cells cs Tg (0, 0))) (hfit : o + k ≤ cs.size) (hk : 0 < k) (hcap : k ≤ cap) (hcap2 : cap ≤ maxLen) (hfar : ¬ BF w b g) :
    Calls Tryz.prog 84 #[memI m, .slice (some ⟨g, o, none⟩) k cap] w (ReadP w b T l g Tg cs o k) := by
  have H := Lib.hid (RAL_full m b T z l g Tg cs o k cap w hm hmb hmg h hkl hg hfit hk hcap hcap2 hfar)
  clear h hg hfit hfar hmb hmg hm hkl
  go_enter Tryz.func84, Tryz.ntmps84
  go_wp2_with fail
  refine H.out.mono ?_
  rintro e w2 ⟨rfl, hx⟩
  have HX := Lib.hid hx
  clear hx
  go_wp2
  go_ret2
  exact ⟨rfl, HX.out⟩

theorem meth_Deadline (w : World) : (method 446 220 (.agg #[]) "Deadline").run Tryz.prog w = .ok (259, .agg #[]) w := by kernel_rfl
theorem X_Deadline (w : World) : Calls Tryz.prog 259 #[.agg #[]] w fun e w' => e = .returned (.tuple #[.agg #[], .bool false]) ∧ Fr noF noF w w' := by
  go_enter Tryz.func259, Tryz.ntmps259
  go_wp2
  refine bodyPost_ret (v := .tuple #[.agg #[], .bool false]) ?_ rfl ⟨rfl, ((Fr.refl _ w).alloc _).alloc _⟩
  simp [results, Tryz.results259, go_sem]

abbrev ctxV : Value := .iface 220 (.agg #[])
theorem B_readAll_full (p m b T : Nat) (z : Bool) (l : List UInt8) (g : Nat) (Tg : TypeId) (cs : Array Value) (o k cap : Nat) (w : World) (hp : w.cell? ⟨p, 0, none⟩ = some (memI m)) (hm : w.cell? ⟨m, 0, none⟩ = some (.pointer (some ⟨b, 0, none⟩))) (hmb : ¬ BF w b m) (hmg : m ≠ g) (h : Buf w b T z l) (hkl : k ≤ l.length) (hg : w.heap[g]? = some (.cells cs Tg (0, 0))) (hfit : o + k ≤ cs.size) (hk : 0 < k) (hcap : k ≤ cap) (hcap2 : cap ≤ maxLen) (hfar : ¬ BF w b g) :
    Calls Tryz.prog 249 #[.pointer (some ⟨p, 0, none⟩), ctxV, .slice (some ⟨g, o, none⟩) k cap] w (fun e w' => e = .returned .nilIface ∧ ReadQ w b T l g Tg cs o k w') := by
  have hF : ∀ w1, Fr noF noF w w1 → Calls Tryz.prog 84 #[memI m, .slice (some ⟨g, o, none⟩) k cap] w1 (fun e w' => e = .returned (.tuple #[.int .i64 k, .nilIface]) ∧ ReadQ w b T l g Tg cs o k w') ∧ w1.cell? ⟨p, 0, none⟩ = some (memI m) := fun w1 hf => by
    have hbb : w1.heap[b]? = w.heap[b]? := hf.keep b h.lt (fun x => x)
    refine ⟨(ReadFull_full m b T z l g Tg cs o k cap w1 (hf.cell hm (fun x => x)) (fun hx => hmb ((BF.of_same hbb).1 hx)) hmg (h.keep hf fun _ _ x => x) hkl (hf.block hg fun x => x) hfit hk hcap hcap2 (fun hx => hfar ((BF.of_same hbb).1 hx))).mono ?_, hf.cell hp fun x => x⟩
    rintro e w2 ⟨rfl, h1, h2, h3⟩
    refine ⟨rfl, h1, h2, ?_⟩
    have hf2 : Fr (fun k => BF w b k ∨ k = g) (fun k => BF w1 b k ∨ k = g) w w1 := ⟨hf.os, hf.tape, hf.output, hf.size, fun k hk _ => hf.keep k hk (fun x => x), fun k _ hx => hx.imp (BF.of_same hbb).1 id⟩
    exact hf2.trans h3
  have HF := Lib.hid hF
  have hme := meth_Deadline
  clear hF hp hm hmb hmg h hkl hg hfit hfar
  go_enter Tryz.func249, Tryz.ntmps249
  go_wp2_with (go_at_call 259; refine (X_Deadline _).mono ?_; rintro e w1 ⟨rfl, hf⟩; have HD := Lib.hid hf; clear hf)
  have hW : Fr noF noF w (w1.alloc (.cells #[] 264)) := HD.out.alloc _
  generalize (w1.alloc (.cells #[] 264)) = W at hW ⊢
  obtain ⟨hcall, c0⟩ := HF.out W hW
  have HC := Lib.hid hcall
  clear hcall hW
  go_loopw [6, 7] (fun a x wr => wr = W) (fun _ _ _ => 0)
  case atStart => rfl
  case round =>
    subst hrel
    go_wp2_with (go_at_call 84; refine HC.out.mono ?_; rintro e w2 ⟨rfl, hx⟩; have HX := Lib.hid hx; clear hx)
    go_wp2_with (go_at_call 163; refine (exc_nil _).mono ?_; rintro e w' ⟨rfl, rfl⟩)
    go_ret
    exact ⟨rfl, HX.out⟩

/-- What a method that reads leaves: n bytes less, and what it tells. -/
def BR (w : World) (p m b : Nat) (cf : Value) (T : Nat) (l : List UInt8) (n : Nat) (v : Value) (e : Ending) (w' : World) : Prop :=
  e = .returned (.tuple #[v, .nilIface]) ∧ BP w' p m b cf T false (l.drop n) ∧ Fr (BPF w p b) (BPF w' p b) w w'

/-- A piece is read into the scratch array. -/
theorem B_read (p m b T k : Nat) (cf : Value) (z : Bool) (l : List UInt8) (w : World) (h : BP w p m b cf T z l) (hk : 0 < k) (hk2 : k ≤ 64) (hkl : k ≤ l.length) :
    Calls Tryz.prog 249 #[.pointer (some ⟨p, 0, none⟩), ctxV, .slice (some ⟨p, 3, none⟩) k 64] w (fun e w' => e = .returned .nilIface ∧ BP w' p m b cf T false (l.drop k) ∧ (∃ rest, Arr w' p TBP [memI m, memI m, cf] (l.take k ++ rest)) ∧ Fr (BPF w p b) (BPF w' p b) w w') := by
  obtain ⟨bf, hbf, ha⟩ := h.arr
  obtain ⟨sz, hm⟩ := h.mem
  have hmp : m ≠ p := tag_ne hm ha (by decide)
  refine (B_readAll_full p m b T z l p TBP _ 3 k 64 w h.trans h.mem.cell (h.buf.other hm (by decide) (by decide)) hmp h.buf hkl ha ?_ hk hk2 (by unfold maxLen; omega) (h.buf.other ha (by decide) (by decide))).mono ?_
  · simp [Lib.byteCells, hbf]; omega
  rintro e w' ⟨rfl, h1, h2, h3⟩
  rw [laid_arr _ _ _ 3 rfl] at h2
  have hlen : (l.take k).length = k := by rw [List.length_take]; omega
  have hF : Fr (BPF w p b) (BPF w' p b) w w' := ⟨h3.os, h3.tape, h3.output, h3.size, fun k hk hn => h3.keep k hk (fun x => hn (x.elim Or.inr Or.inl)), fun k hk hx => (h3.foot k hk (hx.elim Or.inr Or.inl)).elim Or.inr Or.inl⟩
  have hmn : ¬ (BF w b m ∨ m = p) := fun x => x.elim (h.buf.other hm (by decide) (by decide)) hmp
  exact ⟨rfl, ⟨⟨_, by rw [List.length_append, List.length_drop, hlen, hbf]; omega, h2⟩, ⟨sz, h3.block hm hmn⟩, h1⟩, ⟨_, h2⟩, hF⟩

theorem four (l : List UInt8) (h : 4 ≤ l.length) : ∃ a b c d rest, l = a :: b :: c :: d :: rest := by
  match l, h with
  | a :: b :: c :: d :: rest, _ => exact ⟨a, b, c, d, rest, rfl⟩

theorem B_ReadI32 (p m b T : Nat) (cf : Value) (z : Bool) (l : List UInt8) (w : World) (h : BP w p m b cf T z l) (hl : 4 ≤ l.length) :
    Calls Tryz.prog 210 #[.pointer (some ⟨p, 0, none⟩), ctxV] w (BR w p m b cf T l 4 (.int .i32 (wrap32 (Lib.beNat (l.take 4))))) := by
  have hr := B_read p m b T 4 cf z l w h (by omega) (by omega) hl
  obtain ⟨b0, b1, b2, b3, rest, rfl⟩ := four l hl
  have H := Lib.hid hr
  clear hr h hl
  go_enter Tryz.func210, Tryz.ntmps210
  go_wp2_with fail
  refine H.out.mono ?_
  rintro e w1 ⟨rfl, hP, ⟨rs, hA⟩, hF⟩
  have hG := GetBE4 p 3 b0 b1 b2 b3 rs [memI m, memI m, cf] TBP w1 hA rfl
  have hfin : ∀ q, BR w p m b cf T (b0 :: b1 :: b2 :: b3 :: rest) 4 (.int .i32 (wrap32 (Lib.beNat [b0, b1, b2, b3]))) (.returned (.tuple #[.int .i32 (wrap32 (Lib.beNat [b0, b1, b2, b3])), .nilIface])) ((w1.alloc (.cells #[] 317)).drewN q) := fun q =>
    ⟨rfl, (hP.alloc _).1.drewN q, hF.trans ((hP.alloc _).2.drewN q)⟩
  have HG := Lib.hid hG
  have HF := Lib.hid hfin
  clear hP hA hF hG hfin
  go_wp2_with (go_at_call 252; refine HG.out.mono ?_; rintro e w2 ⟨rfl, q, rfl⟩)
  go_ret2
  exact HF.out q
end Go.Proofs.YtdedkoahfailcaaGreatDoor
