import JvmDerived
import JvmDerived.Pilot.@@N@@Statement
import JvmDerived.Pilot.@@N@@Code
set_option linter.unusedVariables false
set_option linter.unusedSimpArgs false
@@BLOCK:NumsL.lean.txt@@
namespace Jvm.RoadKit
open Sem ClassFile Op Lib Jvm.Stand Jvm.Free Jvm.LawKit
section New
variable {p : Program} {l : Launch} {e : Env} {R : Room} {s : State} {m : MethodId} {args : Array Value} {below : List Frame} {meth : Method} {c : Code} {T : State} {locs : List Loc} {cells slots : Nat}
theorem retI (X : Stand p l e R s m args below meth c T locs cells slots) (hx : p.tables.exec = Jvm.exec) {pc : Nat} {Ls : Array Slot} {z : Int32} {rest : List Value} (hret : meth.sig.returnType = some .int) (hd : decode c.code pc = .ok (.ireturn, 1)) {fs : List Frame}
    (hl : ∀ (f : JFrame) (acts : List Action), f.method = m → f.locked = none → f.entered = [] → (doReturn e (T.setTop f) acts (some (.int z))).1 = T.setFrames fs) : Steps p.tables e below (T.setTop (mkF m pc Ls (.int z :: rest))) (T.setFrames fs) := by
  have hm' : T.vm.method? m = some meth := X.method'
  have hn : narrow .int (.int z) = .int z := rfl
  show Steps p.tables e below (T.setTop { method := m, pc := pc, locals := Ls, stack := _ :: rest, locked := none }) _
  jvm_step X.here [X.here.top, hx, hd, hm', hret, hn]
  first | (intro acts; rw [hl _ acts rfl rfl rfl]) | rw [hl _ _ rfl rfl rfl]
  exact Steps.refl _
end New
end Jvm.RoadKit
namespace Jvm.Pilot.@@N@@
open Jvm Jvm.ClassFile Sem Op Lib Jvm.Free Jvm.Stand Jvm.LawKit Jvm.RoadKit Bundle Jvm.Pilot.@@N@@.Jvm.D
section Own
variable {p : Program} {l : Launch} {e : Env} {R : Room} {s : State} {m : MethodId} {args : Array Value} {below : List Frame} {meth : Method} {c : Code} {T : State} {locs : List Loc} {cells slots : Nat} {Z : State} {h : Heap} {a : Addr} {k : ClassId} {n : Int32} {vs : List Value} {dv : Value} {ty : FieldType}
theorem own_caload (X : Stand p l e R s m args below meth c T locs cells slots) (hx : p.tables.exec = Jvm.exec) (hZ : Z.Warmed39 s.vm) (eT : T.heap = h) (V : Arv Z h a k .char n vs dv) {j : Int32} {v : Value} (hj : ¬ j < 0 ∧ j < n) (hv : vs.getD j.toNatClampNeg dv = v) {g : JFrame} (hg : g.method = m) {rest : List Value} (hs : g.stack = .int j :: .ref a :: rest) (hd : decode c.code g.pc = .ok (.caload, 1)) :
    ∀ target, Steps p.tables e below (T.setTop { g with pc := g.pc + 1, stack := v :: rest }) target → Steps p.tables e below (T.setTop g) target := by
  obtain ⟨cl, Ar, -, S, -, H, -⟩ := V
  exact X.caload hx (j := j) (v := v) (by rw [eT]; exact Ar.1) (State.isArrayOf_alike hZ.alike Ar.2.1) Ar.2.2 (inb_of S hj) (H.at (inb_of S hj) hv) hg hs hd
theorem own_iaload (X : Stand p l e R s m args below meth c T locs cells slots) (hx : p.tables.exec = Jvm.exec) (hZ : Z.Warmed39 s.vm) (eT : T.heap = h) (V : Arv Z h a k .int n vs dv) {j : Int32} {v : Value} (hj : ¬ j < 0 ∧ j < n) (hv : vs.getD j.toNatClampNeg dv = v) {g : JFrame} (hg : g.method = m) {rest : List Value} (hs : g.stack = .int j :: .ref a :: rest) (hd : decode c.code g.pc = .ok (.iaload, 1)) :
    ∀ target, Steps p.tables e below (T.setTop { g with pc := g.pc + 1, stack := v :: rest }) target → Steps p.tables e below (T.setTop g) target := by
  obtain ⟨cl, Ar, -, S, -, H, -⟩ := V
  exact X.iaload hx (j := j) (v := v) (by rw [eT]; exact Ar.1) (State.isArrayOf_alike hZ.alike Ar.2.1) Ar.2.2 (inb_of S hj) (H.at (inb_of S hj) hv) hg hs hd
theorem own_baload (X : Stand p l e R s m args below meth c T locs cells slots) (hx : p.tables.exec = Jvm.exec) (hZ : Z.Warmed39 s.vm) (eT : T.heap = h) (V : Arv Z h a k .byte n vs dv) {j : Int32} {v : Value} (hj : ¬ j < 0 ∧ j < n) (hv : vs.getD j.toNatClampNeg dv = v) {g : JFrame} (hg : g.method = m) {rest : List Value} (hs : g.stack = .int j :: .ref a :: rest) (hd : decode c.code g.pc = .ok (.baload, 1)) :
    ∀ target, Steps p.tables e below (T.setTop { g with pc := g.pc + 1, stack := v :: rest }) target → Steps p.tables e below (T.setTop g) target := by
  obtain ⟨cl, Ar, -, S, -, H, -⟩ := V
  exact X.baloadBytes hx (j := j) (v := v) (by rw [eT]; exact Ar.1) (State.isArrayOf_alike hZ.alike Ar.2.1) Ar.2.2 (inb_of S hj) (H.at (inb_of S hj) hv) hg hs hd
theorem own_alen (X : Stand p l e R s m args below meth c T locs cells slots) (hx : p.tables.exec = Jvm.exec) (hZ : Z.Warmed39 s.vm) (eT : T.heap = h) (V : Arv Z h a k ty n vs dv) {g : JFrame} (hg : g.method = m) {rest : List Value} (hs : g.stack = .ref a :: rest) (hd : decode c.code g.pc = .ok (.arraylength, 1)) :
    ∀ target, Steps p.tables e below (T.setTop { g with pc := g.pc + 1, stack := .int n :: rest }) target → Steps p.tables e below (T.setTop g) target := by
  obtain ⟨cl, Ar, -, S, N, -, -⟩ := V
  intro target q
  refine X.arraylength hx (by rw [eT]; exact Ar.1) (State.isArrayOf_alike hZ.alike Ar.2.1) hg hs hd target ?_
  rw [len_of S N]; exact q
end Own

theorem own_since (s : State) (n : Nat) : s.Since s.vm n := ⟨State.Warmed39.refl s, fun j p hj hp => absurd (Array.getElem?_eq_some_iff.mp hp).1 (Nat.not_lt.mpr hj)⟩
theorem own_str {Z : State} {a0 : Array Value} (hw : ∀ d ∈ tables_1, d.before a0 Z = true) : ∀ a ∈ Bundle.stringAtoms, a.before a0 Z = true := fun d hd => by
  simp only [Bundle.stringAtoms, List.mem_cons, List.not_mem_nil, or_false] at hd
  rcases hd with rfl | rfl | rfl | rfl | rfl | rfl | rfl
  · exact (hw _ (List.mem_of_getElem? (i := 6) rfl))
  · exact (hw _ (List.mem_of_getElem? (i := 7) rfl))
  · exact (hw _ (List.mem_of_getElem? (i := 0) rfl))
  · exact (hw _ (List.mem_of_getElem? (i := 8) rfl))
  · exact (hw _ (List.mem_of_getElem? (i := 9) rfl))
  · exact (hw _ (List.mem_of_getElem? (i := 10) rfl))
  · exact (hw _ (List.mem_of_getElem? (i := 11) rfl))

def own_at (d k : Int64) : Int64 := if k < (5 : Int64) then ((XT.ushrL d ((8 : Int32) * k.toInt32)) &&& (255 : Int64)) else (0 : Int64)
def own_term (d o : Int64) (i b : Int32) : Int64 := if i < b then ((own_at d (o + i.toInt64)) <<< (((8 : Int32) * i).toInt64 &&& 63)) else (0 : Int64)
def own_pick (e0 e1 e2 e3 e4 j : Int32) : Int32 := if j = (0 : Int32) then e0 else if j = (1 : Int32) then e1 else if j = (2 : Int32) then e2 else if j = (3 : Int32) then e3 else e4
def own_byte (e0 e1 e2 e3 e4 : Int32) (k : Int64) : Int32 := if k < (5 : Int32).toInt64 then ((own_pick e0 e1 e2 e3 e4 k.toInt32) &&& (255 : Int32)) else (0 : Int32)
def own_iv (e0 e1 e2 e3 e4 : Int32) (o : Int64) : Nat → Int64 → Int64
  | 0, v => v
  | n + 1, v => own_iv e0 e1 e2 e3 e4 o n ((v <<< ((8 : Int32).toInt64 &&& 63)) ||| (own_byte e0 e1 e2 e3 e4 (o + (Int32.ofNat n).toInt64)).toInt64)
theorem own_iv_s (e0 e1 e2 e3 e4 : Int32) (o : Int64) (n : Nat) (v : Int64) : own_iv e0 e1 e2 e3 e4 o (n + 1) v = own_iv e0 e1 e2 e3 e4 o n ((v <<< ((8 : Int32).toInt64 &&& 63)) ||| (own_byte e0 e1 e2 e3 e4 (o + (Int32.ofNat n).toInt64)).toInt64) := rfl
def own_S (A B : Slot) : Prop := (A = .unset ∧ B = .unset) ∨ ∃ x : Int64, A = .val (.long x) ∧ B = .second
theorem own_neg {i : Int32} (h : i.toInt = ((0 : Nat) : Int) - 1) : i < (0 : Int32) := by
  have z : (0 : Int32).toInt = 0 := by decide
  rw [Int32.lt_iff_toInt_lt]; omega
theorem own_pos {i : Int32} {n : Nat} (h : i.toInt = ((n + 1 : Nat) : Int) - 1) : ¬ i < (0 : Int32) := by
  have z : (0 : Int32).toInt = 0 := by decide
  rw [Int32.lt_iff_toInt_lt]; omega
theorem own_is {i : Int32} {n : Nat} (h : i.toInt = ((n + 1 : Nat) : Int) - 1) (hn : n + 1 ≤ 8) : i = Int32.ofNat n := by
  apply Int32.toInt_inj.mp; rw [Int32.toInt_ofNat_of_lt (by omega)]; omega
theorem own_dec {i : Int32} {n : Nat} (h : i.toInt = ((n + 1 : Nat) : Int) - 1) (hn : n + 1 ≤ 8) : (i + (-1 : Int32)).toInt = (n : Int) - 1 := by
  have z : (-1 : Int32).toInt = -1 := by decide
  rw [Jvm.Kit.i32_add (by omega) (by omega), z]; omega
theorem own_5 : ((5 : Int32).toInt64).toInt = 5 := by decide
theorem own_add {o : Int64} {i : Int32} (ho : 0 ≤ o.toInt ∧ o.toInt < 2 ^ 62) (hi : 0 ≤ i.toInt ∧ i.toInt ≤ 7) : (o + i.toInt64).toInt = o.toInt + i.toInt := by
  rw [Jvm.Kit.i64_add (by rw [Jvm.Kit.i64_of_i32]; omega) (by rw [Jvm.Kit.i64_of_i32]; omega), Jvm.Kit.i64_of_i32]
theorem own_l2i {k : Int64} (h0 : 0 ≤ k.toInt) (h : k < (5 : Int32).toInt64) : k.toInt32.toInt = k.toInt := by
  rw [Int64.lt_iff_toInt_lt, own_5] at h
  exact Jvm.Kit.i32_of_i64 (by omega) (by omega)
theorem own_inb {k : Int64} (h0 : 0 ≤ k.toInt) (h : k < (5 : Int32).toInt64) : ¬ k.toInt32 < (0 : Int32) ∧ k.toInt32 < (5 : Int32) := by
  have e := own_l2i h0 h
  rw [Int64.lt_iff_toInt_lt, own_5] at h
  have z0 : (0 : Int32).toInt = 0 := by decide
  have z5 : (5 : Int32).toInt = 5 := by decide
  rw [Int32.lt_iff_toInt_lt, Int32.lt_iff_toInt_lt]; omega
theorem own_inb' {o : Int64} {i : Int32} {n : Nat} (ho : 0 ≤ o.toInt ∧ o.toInt < 2 ^ 62) (h : i.toInt = ((n + 1 : Nat) : Int) - 1) (hn : n + 1 ≤ 8) (hk : (o + i.toInt64) < (5 : Int32).toInt64) : ¬ (o + i.toInt64).toInt32 < (0 : Int32) ∧ (o + i.toInt64).toInt32 < (5 : Int32) := own_inb (by rw [own_add ho (by omega)]; omega) hk
theorem own_five {j : Int32} (h : ¬ j < (0 : Int32) ∧ j < (5 : Int32)) : j = 0 ∨ j = 1 ∨ j = 2 ∨ j = 3 ∨ j = 4 := by
  obtain ⟨h1, h2⟩ := h
  rw [Int32.lt_iff_toInt_lt] at h1 h2
  have z0 : (0 : Int32).toInt = 0 := by decide
  have z1 : (1 : Int32).toInt = 1 := by decide
  have z2 : (2 : Int32).toInt = 2 := by decide
  have z3 : (3 : Int32).toInt = 3 := by decide
  have z4 : (4 : Int32).toInt = 4 := by decide
  have z5 : (5 : Int32).toInt = 5 := by decide
  simp only [← Int32.toInt_inj, z0, z1, z2, z3, z4]
  omega
theorem own_get (e0 e1 e2 e3 e4 : Int32) {j : Int32} (h : ¬ j < (0 : Int32) ∧ j < (5 : Int32)) : ([(.int e0), (.int e1), (.int e2), (.int e3), (.int e4)] : List Value).getD j.toNatClampNeg (.int (0 : Int32)) = .int (own_pick e0 e1 e2 e3 e4 j) := by
  rcases own_five h with rfl | rfl | rfl | rfl | rfl <;> rfl
/-! the plain law -/
theorem own_narb (x : Int32) : nar .byte x.toInt8.toInt32 = x.toInt8.toInt32 := Value.int.inj (XT.narrow_b x)
theorem own_b255 (y : Int64) : ((nar .byte y.toInt32.toInt8.toInt32) &&& (255 : Int32)).toInt64 = y &&& (255 : Int64) := by
  rw [own_narb]
  apply Int64.toInt_inj.mp
  rw [Int32.toInt_toInt64, Jvm.Kit.i32_mask _ (255 : Int32) (k := 8) (by decide) (by decide), Jvm.Kit.i64_mask _ (255 : Int64) (k := 8) (by decide) (by decide), Int8.toInt_toInt32, Int32.toInt_toInt8, Int64.toInt_toInt32]
  rw [Int.bmod_def, Int.bmod_def]
  omega
theorem own_sh (d : Int64) : XT.ushrL d (0 : Int32) = d := by
  apply Int64.toBitVec_inj.mp
  show (d.toUInt64 >>> (0 : UInt64)).toBitVec = d.toBitVec
  simp
def own_B (d : Int64) (k : Int32) : Int32 := nar .byte (XT.ushrL d k).toInt32.toInt8.toInt32
theorem own_same {d k : Int64} (h0 : 0 ≤ k.toInt) : (own_byte (nar .byte d.toInt32.toInt8.toInt32) (nar .byte (XT.ushrL d (8 : Int32)).toInt32.toInt8.toInt32) (nar .byte (XT.ushrL d (16 : Int32)).toInt32.toInt8.toInt32) (nar .byte (XT.ushrL d (24 : Int32)).toInt32.toInt8.toInt32) (nar .byte (XT.ushrL d (32 : Int32)).toInt32.toInt8.toInt32) k).toInt64 = own_at d k := by
  unfold own_byte own_at
  by_cases h : k < (5 : Int32).toInt64
  · have h' : k < (5 : Int64) := h
    rw [if_pos h, if_pos h']
    rcases own_five (own_inb h0 h) with q | q | q | q | q <;> rw [q]
    · show ((nar .byte d.toInt32.toInt8.toInt32) &&& (255 : Int32)).toInt64 = (XT.ushrL d (0 : Int32)) &&& (255 : Int64)
      rw [own_sh]; exact own_b255 d
    · exact own_b255 (XT.ushrL d (8 : Int32))
    · exact own_b255 (XT.ushrL d (16 : Int32))
    · exact own_b255 (XT.ushrL d (24 : Int32))
    · exact own_b255 (XT.ushrL d (32 : Int32))
  · have h' : ¬ k < (5 : Int64) := h
    rw [if_neg h, if_neg h']; rfl
def own_or (f : Nat → Int64) : Nat → BitVec 64
  | 0 => 0#64
  | n + 1 => own_or f n ||| ((f n).toBitVec <<< (8 * n))
theorem own_shl8 (v : Int64) : (v <<< ((8 : Int32).toInt64 &&& 63)).toBitVec = v.toBitVec <<< 8 := by
  rw [Int64.toBitVec_shiftLeft, BitVec.shiftLeft_eq']
  rfl
theorem own_ivf (e0 e1 e2 e3 e4 : Int32) (o : Int64) (f : Nat → Int64) (hf : ∀ n, n < 8 → (own_byte e0 e1 e2 e3 e4 (o + (Int32.ofNat n).toInt64)).toInt64 = f n) : ∀ (n : Nat) (v : Int64), n ≤ 8 → (own_iv e0 e1 e2 e3 e4 o n v).toBitVec = (v.toBitVec <<< (8 * n)) ||| own_or f n
  | 0, v, _ => by simp [own_iv, own_or]
  | n + 1, v, hn => by
    rw [own_iv_s, own_ivf e0 e1 e2 e3 e4 o f hf n _ (by omega), hf n (by omega), Int64.toBitVec_or, own_shl8, BitVec.shiftLeft_or_distrib, ← BitVec.shiftLeft_add, BitVec.or_assoc]
    show _ = _ ||| (own_or f n ||| ((f n).toBitVec <<< (8 * n)))
    rw [BitVec.or_comm (own_or f n), show 8 + 8 * n = 8 * (n + 1) from by omega]
theorem own_shn (x : Int64) : ∀ n : Nat, n < 8 → (x <<< (((8 : Int32) * Int32.ofNat n).toInt64 &&& 63)).toBitVec = x.toBitVec <<< (8 * n)
  | 0, _ => by rw [Int64.toBitVec_shiftLeft, BitVec.shiftLeft_eq']; rfl
  | 1, _ => by rw [Int64.toBitVec_shiftLeft, BitVec.shiftLeft_eq']; rfl
  | 2, _ => by rw [Int64.toBitVec_shiftLeft, BitVec.shiftLeft_eq']; rfl
  | 3, _ => by rw [Int64.toBitVec_shiftLeft, BitVec.shiftLeft_eq']; rfl
  | 4, _ => by rw [Int64.toBitVec_shiftLeft, BitVec.shiftLeft_eq']; rfl
  | 5, _ => by rw [Int64.toBitVec_shiftLeft, BitVec.shiftLeft_eq']; rfl
  | 6, _ => by rw [Int64.toBitVec_shiftLeft, BitVec.shiftLeft_eq']; rfl
  | 7, _ => by rw [Int64.toBitVec_shiftLeft, BitVec.shiftLeft_eq']; rfl
  | n + 8, h => absurd h (by omega)
theorem own_termB (d o : Int64) (b : Int32) (n : Nat) (hn : n < 8) : (own_term d o (Int32.ofNat n) b).toBitVec = if n < b.toInt.toNat then ((own_at d (o + (Int32.ofNat n).toInt64)).toBitVec <<< (8 * n)) else 0#64 := by
  have z : (Int32.ofNat n).toInt = n := Int32.toInt_ofNat_of_lt (by omega)
  unfold own_term
  by_cases h : Int32.ofNat n < b
  · have h' : n < b.toInt.toNat := by rw [Int32.lt_iff_toInt_lt] at h; omega
    rw [if_pos h, if_pos h', own_shn _ n hn]
  · have h' : ¬ n < b.toInt.toNat := by rw [Int32.lt_iff_toInt_lt] at h; omega
    rw [if_neg h, if_neg h']; rfl
theorem own_plain (d o : Int64) (b : Int32) (ho : 0 ≤ o.toInt ∧ o.toInt < 2 ^ 62) (hb : 0 ≤ b.toInt ∧ b.toInt ≤ 8) : own_iv (nar .byte d.toInt32.toInt8.toInt32) (nar .byte (XT.ushrL d (8 : Int32)).toInt32.toInt8.toInt32) (nar .byte (XT.ushrL d (16 : Int32)).toInt32.toInt8.toInt32) (nar .byte (XT.ushrL d (24 : Int32)).toInt32.toInt8.toInt32) (nar .byte (XT.ushrL d (32 : Int32)).toInt32.toInt8.toInt32) o b.toInt.toNat (0 : Int64) = ((((((((own_term d o (0 : Int32) b) ||| (own_term d o (1 : Int32) b)) ||| (own_term d o (2 : Int32) b)) ||| (own_term d o (3 : Int32) b)) ||| (own_term d o (4 : Int32) b)) ||| (own_term d o (5 : Int32) b)) ||| (own_term d o (6 : Int32) b)) ||| (own_term d o (7 : Int32) b)) := by
  apply Int64.toBitVec_inj.mp
  have hf : ∀ n, n < 8 → (own_byte (nar .byte d.toInt32.toInt8.toInt32) (nar .byte (XT.ushrL d (8 : Int32)).toInt32.toInt8.toInt32) (nar .byte (XT.ushrL d (16 : Int32)).toInt32.toInt8.toInt32) (nar .byte (XT.ushrL d (24 : Int32)).toInt32.toInt8.toInt32) (nar .byte (XT.ushrL d (32 : Int32)).toInt32.toInt8.toInt32) (o + (Int32.ofNat n).toInt64)).toInt64 = (fun n => own_at d (o + (Int32.ofNat n).toInt64)) n := fun n hn => by
    have z : (Int32.ofNat n).toInt = n := Int32.toInt_ofNat_of_lt (by omega)
    exact own_same (by rw [own_add ho (by omega)]; omega)
  rw [own_ivf _ _ _ _ _ o _ hf b.toInt.toNat 0 (by omega)]
  simp only [Int64.toBitVec_or]
  rw [show own_term d o (0 : Int32) b = own_term d o (Int32.ofNat 0) b from rfl, show own_term d o (1 : Int32) b = own_term d o (Int32.ofNat 1) b from rfl, show own_term d o (2 : Int32) b = own_term d o (Int32.ofNat 2) b from rfl, show own_term d o (3 : Int32) b = own_term d o (Int32.ofNat 3) b from rfl, show own_term d o (4 : Int32) b = own_term d o (Int32.ofNat 4) b from rfl, show own_term d o (5 : Int32) b = own_term d o (Int32.ofNat 5) b from rfl, show own_term d o (6 : Int32) b = own_term d o (Int32.ofNat 6) b from rfl, show own_term d o (7 : Int32) b = own_term d o (Int32.ofNat 7) b from rfl]
  rw [own_termB d o b 0 (by omega), own_termB d o b 1 (by omega), own_termB d o b 2 (by omega), own_termB d o b 3 (by omega), own_termB d o b 4 (by omega), own_termB d o b 5 (by omega), own_termB d o b 6 (by omega), own_termB d o b 7 (by omega)]
  have hn : b.toInt.toNat ≤ 8 := by omega
  generalize b.toInt.toNat = n at *
  rw [show (0 : Int64).toBitVec <<< (8 * n) = 0#64 from BitVec.zero_shiftLeft _, BitVec.zero_or]
  match n, hn with
  | 0, _ => simp [own_or]
  | 1, _ => simp [own_or]
  | 2, _ => simp [own_or]
  | 3, _ => simp [own_or]
  | 4, _ => simp [own_or]
  | 5, _ => simp [own_or]
  | 6, _ => simp [own_or]
  | 7, _ => simp [own_or]
  | 8, _ => simp [own_or]
theorem own_bytes (b : Int32) : 0 ≤ ((b &&& (2147483647 : Int32)) % (9 : Int32)).toInt ∧ ((b &&& (2147483647 : Int32)) % (9 : Int32)).toInt ≤ 8 := by
  have e : (b &&& (2147483647 : Int32)).toInt = b.toInt % 2 ^ 31 := Jvm.Kit.i32_mask b _ (k := 31) (by decide) (by decide)
  have e2 : ((b &&& (2147483647 : Int32)) % (9 : Int32)).toInt = (b &&& (2147483647 : Int32)).toInt % 9 := Jvm.Kit.i32_rem_nonneg (by omega)
  omega
theorem own_off15 (o : Int64) : 0 ≤ ((XT.ushrL o (1 : Int32)) &&& (15 : Int64)).toInt ∧ ((XT.ushrL o (1 : Int32)) &&& (15 : Int64)).toInt < 2 ^ 62 := by
  have e : ((XT.ushrL o (1 : Int32)) &&& (15 : Int64)).toInt = (XT.ushrL o (1 : Int32)).toInt % 2 ^ 4 := Jvm.Kit.i64_mask _ _ (k := 4) (by decide) (by decide)
  omega
theorem own_off2 (o : Int64) : 0 ≤ (XT.ushrL o (2 : Int32)).toInt ∧ (XT.ushrL o (2 : Int32)).toInt < 2 ^ 62 := by
  have e : (XT.ushrL o (2 : Int32)).toBitVec = o.toBitVec >>> 2 := by
    show (o.toUInt64 >>> ((2 : Int32).toInt64.toUInt64 &&& Int64.toUInt64 63)).toBitVec = _
    rw [UInt64.toBitVec_shiftRight, BitVec.ushiftRight_eq']
    rfl
  have hb := o.toBitVec.isLt
  have e2 : (XT.ushrL o (2 : Int32)).toBitVec.toNat = o.toBitVec.toNat / 4 := by rw [e, BitVec.toNat_ushiftRight, Nat.shiftRight_eq_div_pow]
  have e3 : (XT.ushrL o (2 : Int32)).toInt = ((o.toBitVec.toNat / 4 : Nat) : Int) := by
    show (XT.ushrL o (2 : Int32)).toBitVec.toInt = _
    rw [BitVec.toInt_eq_toNat_cond, e2, if_pos (by omega)]
  omega
theorem own_off (c : Prop) [Decidable c] (o : Int64) : 0 ≤ (if c then ((XT.ushrL o (1 : Int32)) &&& (15 : Int64)) else (XT.ushrL o (2 : Int32))).toInt ∧ (if c then ((XT.ushrL o (1 : Int32)) &&& (15 : Int64)) else (XT.ushrL o (2 : Int32))).toInt < 2 ^ 62 := by
  by_cases h : c
  · rw [if_pos h]; exact own_off15 o
  · rw [if_neg h]; exact own_off2 o

theorem own_first {b : Int32} (hb : 0 ≤ b.toInt ∧ b.toInt ≤ 8) : (b - (1 : Int32)).toInt = ((b.toInt.toNat : Nat) : Int) - 1 := by
  have z : (1 : Int32).toInt = 1 := by decide
  rw [Jvm.Kit.i32_sub (by omega) (by omega), z]; omega
theorem ef_5 (m : MethodId) (q1 : Int64) (q2 : Int64) : entryFrame m #[(.long q1), (.long q2)] 4 = mkF m 0 #[.val (.long q1), .second, .val (.long q2), .second] [] := by first | (simp [entryFrame, mkF, argsToLocals, Value.category]; done) | rfl
theorem pn_com_example_decant_decant_decompiler_ir_GlobalInitialValuePinLaw : plainName "com/example/decant/decant/decompiler/ir/GlobalInitialValuePinLaw" = true := by first | (simp [plainName, overriddenIn]; done) | decide +kernel
theorem d5_0 : decode method_2_code 0 = .ok (.lload_n 2, 1) := by decide +kernel
theorem d5_1 : decode method_2_code 1 = .ok (.ldc2_w 7, 3) := by decide +kernel
theorem d5_4 : decode method_2_code 4 = .ok (.lcmp, 1) := by decide +kernel
theorem d5_5 : decode method_2_code 5 = .ok (.ifCond .ge 15, 3) := by decide +kernel
theorem d5_8 : decode method_2_code 8 = .ok (.lload_n 0, 1) := by decide +kernel
theorem d5_9 : decode method_2_code 9 = .ok (.bipush 8, 2) := by decide +kernel
theorem d5_11 : decode method_2_code 11 = .ok (.lload_n 2, 1) := by decide +kernel
theorem d5_12 : decode method_2_code 12 = .ok (.l2i, 1) := by decide +kernel
theorem d5_13 : decode method_2_code 13 = .ok (.imul, 1) := by decide +kernel
theorem d5_14 : decode method_2_code 14 = .ok (.lushr, 1) := by decide +kernel
theorem d5_15 : decode method_2_code 15 = .ok (.ldc2_w 9, 3) := by decide +kernel
theorem d5_18 : decode method_2_code 18 = .ok (.land, 1) := by decide +kernel
theorem d5_19 : decode method_2_code 19 = .ok (.lreturn, 1) := by decide +kernel
theorem d5_20 : decode method_2_code 20 = .ok (.lconst 0, 1) := by decide +kernel
theorem d5_21 : decode method_2_code 21 = .ok (.lreturn, 1) := by decide +kernel
def Q5 (Z : State) (q1 : Int64) (q2 : Int64) (h0 : Heap) (n0 : Nat) (v : Option Value) (h : Heap) (L : List Loc) : Prop := v = some (.long (own_at q1 q2)) ∧ Fr n0 L ∧ h = h0
set_option maxRecDepth 65536 in
set_option maxHeartbeats 40000000 in
theorem rm5 (l : Launch) (Z : State) (a0 : Array Value) (hw : ∀ d ∈ tables_1, d.before a0 Z = true) (ws : List Jvm.Cond) (q1 : Int64) (q2 : Int64) (h0 : Heap) (n0 : Nat) (Z0 : n0 ≤ h0.size) :
    MetFree l (⟨"com/example/decant/decant/decompiler/ir/GlobalInitialValuePinLaw", "at", "(JJ)J"⟩ : MethodName) (head1 (Jvm.Cond.code (⟨"com/example/decant/decant/decompiler/ir/GlobalInitialValuePinLaw", "at", "(JJ)J"⟩ : MethodName) method_2_code 4 (some .long) :: ws) ({ frames := 0, cells := 0, slots := 0, locals := 0 } : Room)) (fun a U => a = #[(.long q1), (.long q2)] ∧ Z.Warmed39 U.vm ∧ U.heap = h0) (fun _ _ _ _ _ => True) (fun _ U o U' => ∃ v L, o = .returned v ∧ Q5 Z q1 q2 h0 n0 v U'.heap L ∧ FrameEnd U o U' L ({ frames := 0, cells := 0, slots := 0, locals := 0 } : Room).cells ({ frames := 0, cells := 0, slots := 0, locals := 0 } : Room).slots) := by
  refine MetFree.of_bodySF (plainFor_of_name pn_com_example_decant_decant_decompiler_ir_GlobalInitialValuePinLaw) hisR ?_
  intro p e s m args below meth c s₁ Bd hml0 hP hK
  obtain ⟨rfl, hZ, hh⟩ := hP
  have hx := Bd.exec
  have hby := Bd.bytes
  have hml : c.maxLocals = 4 := hml0
  have hown : s.vm.findClass "com/example/decant/decant/decompiler/ir/GlobalInitialValuePinLaw" = some m.cls := findClass_of_methodNamed Bd.named
  have hnm := (name_of_methodNamed Bd.named Bd.method).1
  have X0 : Stand p l e ({ frames := 0, cells := 0, slots := 0, locals := 0 } : Room) s m #[(.long q1), (.long q2)] below meth c s₁ [] 0 0 := Stand.of_body Bd
  have eh0 : s₁.heap = h0 := by rw [← hh, Bd.state]; rfl
  have N0 := Fr.nil n0
  have pre0 : ∀ t, Steps p.tables e below (s₁.setTop (mkF m 0 #[.val (.long q1), .second, .val (.long q2), .second] [])) t → Steps p.tables e below (s₁.setTop (entryFrame m #[(.long q1), (.long q2)] 4)) t := fun t k => castTop (ef_5 m q1 q2) k
  have pre2 : ∀ t, Steps p.tables e below (s₁.setTop (mkF m 5 #[.val (.long q1), .second, .val (.long q2), .second] [(.int (XT.cmpL q2 (5 : Int64)))])) t → Steps p.tables e below (s₁.setTop (entryFrame m #[(.long q1), (.long q2)] 4)) t := fun t k => pre0 t (by
    show Steps p.tables e below (s₁.setTop (mkF m 0 #[.val (.long q1), .second, .val (.long q2), .second] [])) t
    refine XT.lloadN X0.here hx rfl (hb hby d5_0) rfl ?_
    show Steps p.tables e below (s₁.setTop (mkF m 1 #[.val (.long q1), .second, .val (.long q2), .second] [(.long q2)])) t
    refine X0.ldc2Long hx hown (mvT hZ (hw _ (List.mem_of_getElem? (i := 52) rfl))) (g := (mkF m 1 #[.val (.long q1), .second, .val (.long q2), .second] [(.long q2)])) rfl (hb hby d5_1) _ ?_
    show Steps p.tables e below (s₁.setTop (mkF m 4 #[.val (.long q1), .second, .val (.long q2), .second] [(.long (5 : Int64)), (.long q2)])) t
    refine XT.lcmp X0.here hx rfl (hb hby d5_4) rfl ?_
    show Steps p.tables e below (s₁.setTop (mkF m 5 #[.val (.long q1), .second, .val (.long q2), .second] [(.int (XT.cmpL q2 (5 : Int64)))])) t
    exact k)
  by_cases hc5_1 : q2 < (5 : Int64)
  · skip
    have pre3 : ∀ t, Steps p.tables e below (s₁.setTop (mkF m 19 #[.val (.long q1), .second, .val (.long q2), .second] [(.long ((XT.ushrL q1 ((8 : Int32) * q2.toInt32)) &&& (255 : Int64)))])) t → Steps p.tables e below (s₁.setTop (entryFrame m #[(.long q1), (.long q2)] 4)) t := fun t k => pre2 t (by
      show Steps p.tables e below (s₁.setTop (mkF m 5 #[.val (.long q1), .second, .val (.long q2), .second] [(.int (XT.cmpL q2 (5 : Int64)))])) t
      refine XS.ifNo X0.here hx rfl (hb hby d5_5) rfl (XT.ll_ge_f hc5_1) ?_
      show Steps p.tables e below (s₁.setTop (mkF m 8 #[.val (.long q1), .second, .val (.long q2), .second] [])) t
      refine XT.lloadN X0.here hx rfl (hb hby d5_8) rfl ?_
      show Steps p.tables e below (s₁.setTop (mkF m 9 #[.val (.long q1), .second, .val (.long q2), .second] [(.long q1)])) t
      refine XS.bipush X0.here hx rfl (hb hby d5_9) ?_
      show Steps p.tables e below (s₁.setTop (mkF m 11 #[.val (.long q1), .second, .val (.long q2), .second] [(.int (8 : Int32)), (.long q1)])) t
      refine XT.lloadN X0.here hx rfl (hb hby d5_11) rfl ?_
      show Steps p.tables e below (s₁.setTop (mkF m 12 #[.val (.long q1), .second, .val (.long q2), .second] [(.long q2), (.int (8 : Int32)), (.long q1)])) t
      refine XT.l2i X0.here hx rfl (hb hby d5_12) rfl ?_
      show Steps p.tables e below (s₁.setTop (mkF m 13 #[.val (.long q1), .second, .val (.long q2), .second] [(.int q2.toInt32), (.int (8 : Int32)), (.long q1)])) t
      refine XS.imul X0.here hx rfl (hb hby d5_13) rfl ?_
      show Steps p.tables e below (s₁.setTop (mkF m 14 #[.val (.long q1), .second, .val (.long q2), .second] [(.int ((8 : Int32) * q2.toInt32)), (.long q1)])) t
      refine XT.lushr X0.here hx rfl (hb hby d5_14) rfl ?_
      show Steps p.tables e below (s₁.setTop (mkF m 15 #[.val (.long q1), .second, .val (.long q2), .second] [(.long (XT.ushrL q1 ((8 : Int32) * q2.toInt32)))])) t
      refine X0.ldc2Long hx hown (mvT hZ (hw _ (List.mem_of_getElem? (i := 53) rfl))) (g := (mkF m 15 #[.val (.long q1), .second, .val (.long q2), .second] [(.long (XT.ushrL q1 ((8 : Int32) * q2.toInt32)))])) rfl (hb hby d5_15) _ ?_
      show Steps p.tables e below (s₁.setTop (mkF m 18 #[.val (.long q1), .second, .val (.long q2), .second] [(.long (255 : Int64)), (.long (XT.ushrL q1 ((8 : Int32) * q2.toInt32)))])) t
      refine XT.land X0.here hx rfl (hb hby d5_18) rfl ?_
      show Steps p.tables e below (s₁.setTop (mkF m 19 #[.val (.long q1), .second, .val (.long q2), .second] [(.long ((XT.ushrL q1 ((8 : Int32) * q2.toInt32)) &&& (255 : Int64)))])) t
      exact k)
    obtain ⟨fs, hr, hrun, hended, hW, hsame⟩ := X0.leave (v := some (.long ((XT.ushrL q1 ((8 : Int32) * q2.toInt32)) &&& (255 : Int64)))) (fun h => by rw [Bd.returns] at h; cases h)
    refine ⟨_, _, pre3 _ ?_, hrun, hended, _, _, rfl, ?_, ⟨_, rfl⟩, hW, hsame.mono (by decide) (by decide)⟩
    · show Steps p.tables e below (s₁.setTop (mkF m 19 #[.val (.long q1), .second, .val (.long q2), .second] [(.long ((XT.ushrL q1 ((8 : Int32) * q2.toInt32)) &&& (255 : Int64)))])) _
      exact X0.lreturnOut hx Bd.returns (hb hby d5_19) hr
    · show Q5 Z q1 q2 h0 n0 _ s₁.heap _
      rw [eh0]
      exact ⟨(congrArg (fun z => some (Value.long z)) (show ((XT.ushrL q1 ((8 : Int32) * q2.toInt32)) &&& (255 : Int64)) = (own_at q1 q2) from (by simp only [own_at, if_pos hc5_1]))), N0, rfl⟩
  · skip
    have pre4 : ∀ t, Steps p.tables e below (s₁.setTop (mkF m 21 #[.val (.long q1), .second, .val (.long q2), .second] [(.long (0 : Int64))])) t → Steps p.tables e below (s₁.setTop (entryFrame m #[(.long q1), (.long q2)] 4)) t := fun t k => pre2 t (by
      show Steps p.tables e below (s₁.setTop (mkF m 5 #[.val (.long q1), .second, .val (.long q2), .second] [(.int (XT.cmpL q2 (5 : Int64)))])) t
      refine XS.ifYes X0.here hx rfl (pc0 := 5) (pc' := 20) rfl (hb hby d5_5) rfl (XT.ll_ge_t hc5_1) (by decide) (by decide) ?_
      show Steps p.tables e below (s₁.setTop (mkF m 20 #[.val (.long q1), .second, .val (.long q2), .second] [])) t
      refine XT.lconstV X0.here hx rfl (0 : Int64) (hb hby d5_20) (by decide) ?_
      show Steps p.tables e below (s₁.setTop (mkF m 21 #[.val (.long q1), .second, .val (.long q2), .second] [(.long (0 : Int64))])) t
      exact k)
    obtain ⟨fs, hr, hrun, hended, hW, hsame⟩ := X0.leave (v := some (.long (0 : Int64))) (fun h => by rw [Bd.returns] at h; cases h)
    refine ⟨_, _, pre4 _ ?_, hrun, hended, _, _, rfl, ?_, ⟨_, rfl⟩, hW, hsame.mono (by decide) (by decide)⟩
    · show Steps p.tables e below (s₁.setTop (mkF m 21 #[.val (.long q1), .second, .val (.long q2), .second] [(.long (0 : Int64))])) _
      exact X0.lreturnOut hx Bd.returns (hb hby d5_21) hr
    · show Q5 Z q1 q2 h0 n0 _ s₁.heap _
      rw [eh0]
      exact ⟨(congrArg (fun z => some (Value.long z)) (show (0 : Int64) = (own_at q1 q2) from (by simp only [own_at, if_neg hc5_1]))), N0, rfl⟩
theorem ef_4 (m : MethodId) (q1 : Int64) (q2 : Int64) (p3 : Int32) (p4 : Int32) : entryFrame m #[(.long q1), (.long q2), (.int p3), (.int p4)] 6 = mkF m 0 #[.val (.long q1), .second, .val (.long q2), .second, .val (.int p3), .val (.int p4)] [] := by first | (simp [entryFrame, mkF, argsToLocals, Value.category]; done) | rfl
theorem d4_0 : decode method_3_code 0 = .ok (.iload 4, 2) := by decide +kernel
theorem d4_2 : decode method_3_code 2 = .ok (.iload 5, 2) := by decide +kernel
theorem d4_4 : decode method_3_code 4 = .ok (.if_icmp .lt 5, 3) := by decide +kernel
theorem d4_9 : decode method_3_code 9 = .ok (.lload_n 0, 1) := by decide +kernel
theorem d4_10 : decode method_3_code 10 = .ok (.lload_n 2, 1) := by decide +kernel
theorem d4_11 : decode method_3_code 11 = .ok (.iload 4, 2) := by decide +kernel
theorem d4_13 : decode method_3_code 13 = .ok (.i2l, 1) := by decide +kernel
theorem d4_14 : decode method_3_code 14 = .ok (.ladd, 1) := by decide +kernel
theorem d4_15 : decode method_3_code 15 = .ok (.invokestatic 11, 3) := by decide +kernel
theorem pd_oJJcJ : parseMethodDescriptor "(JJ)J" = some ⟨[.long, .long], some .long⟩ := by decide +kernel
theorem d4_18 : decode method_3_code 18 = .ok (.bipush 8, 2) := by decide +kernel
theorem d4_20 : decode method_3_code 20 = .ok (.iload 4, 2) := by decide +kernel
theorem d4_22 : decode method_3_code 22 = .ok (.imul, 1) := by decide +kernel
theorem d4_23 : decode method_3_code 23 = .ok (.lshl, 1) := by decide +kernel
theorem d4_24 : decode method_3_code 24 = .ok (.lreturn, 1) := by decide +kernel
theorem d4_7 : decode method_3_code 7 = .ok (.lconst 0, 1) := by decide +kernel
theorem d4_8 : decode method_3_code 8 = .ok (.lreturn, 1) := by decide +kernel
def Q4 (Z : State) (q1 : Int64) (q2 : Int64) (p3 : Int32) (p4 : Int32) (h0 : Heap) (n0 : Nat) (v : Option Value) (h : Heap) (L : List Loc) : Prop := v = some (.long (own_term q1 q2 p3 p4)) ∧ Fr n0 L ∧ h = h0
set_option maxRecDepth 65536 in
set_option maxHeartbeats 40000000 in
theorem rm4 (l : Launch) (Z : State) (a0 : Array Value) (hw : ∀ d ∈ tables_1, d.before a0 Z = true) (ws : List Jvm.Cond) (q1 : Int64) (q2 : Int64) (p3 : Int32) (p4 : Int32) (h0 : Heap) (n0 : Nat) (Z0 : n0 ≤ h0.size) :
    MetFree l (⟨"com/example/decant/decant/decompiler/ir/GlobalInitialValuePinLaw", "term", "(JJII)J"⟩ : MethodName) (head1 (Jvm.Cond.code (⟨"com/example/decant/decant/decompiler/ir/GlobalInitialValuePinLaw", "term", "(JJII)J"⟩ : MethodName) method_3_code 6 (some .long) :: ws) ({ frames := 1, cells := 0, slots := 0, locals := 15 } : Room)) (fun a U => a = #[(.long q1), (.long q2), (.int p3), (.int p4)] ∧ Z.Warmed39 U.vm ∧ U.heap = h0) (fun _ _ _ _ _ => True) (fun _ U o U' => ∃ v L, o = .returned v ∧ Q4 Z q1 q2 p3 p4 h0 n0 v U'.heap L ∧ FrameEnd U o U' L ({ frames := 1, cells := 0, slots := 0, locals := 15 } : Room).cells ({ frames := 1, cells := 0, slots := 0, locals := 15 } : Room).slots) := by
  refine MetFree.of_bodySF (plainFor_of_name pn_com_example_decant_decant_decompiler_ir_GlobalInitialValuePinLaw) hisR ?_
  intro p e s m args below meth c s₁ Bd hml0 hP hK
  obtain ⟨rfl, hZ, hh⟩ := hP
  have hx := Bd.exec
  have hby := Bd.bytes
  have hml : c.maxLocals = 6 := hml0
  have hown : s.vm.findClass "com/example/decant/decant/decompiler/ir/GlobalInitialValuePinLaw" = some m.cls := findClass_of_methodNamed Bd.named
  have hnm := (name_of_methodNamed Bd.named Bd.method).1
  have X0 : Stand p l e ({ frames := 1, cells := 0, slots := 0, locals := 15 } : Room) s m #[(.long q1), (.long q2), (.int p3), (.int p4)] below meth c s₁ [] 0 0 := Stand.of_body Bd
  have eh0 : s₁.heap = h0 := by rw [← hh, Bd.state]; rfl
  have N0 := Fr.nil n0
  have pre0 : ∀ t, Steps p.tables e below (s₁.setTop (mkF m 0 #[.val (.long q1), .second, .val (.long q2), .second, .val (.int p3), .val (.int p4)] [])) t → Steps p.tables e below (s₁.setTop (entryFrame m #[(.long q1), (.long q2), (.int p3), (.int p4)] 6)) t := fun t k => castTop (ef_4 m q1 q2 p3 p4) k
  have pre2 : ∀ t, Steps p.tables e below (s₁.setTop (mkF m 4 #[.val (.long q1), .second, .val (.long q2), .second, .val (.int p3), .val (.int p4)] [(.int p4), (.int p3)])) t → Steps p.tables e below (s₁.setTop (entryFrame m #[(.long q1), (.long q2), (.int p3), (.int p4)] 6)) t := fun t k => pre0 t (by
    show Steps p.tables e below (s₁.setTop (mkF m 0 #[.val (.long q1), .second, .val (.long q2), .second, .val (.int p3), .val (.int p4)] [])) t
    refine XS.iload X0.here hx rfl (hb hby d4_0) rfl ?_
    show Steps p.tables e below (s₁.setTop (mkF m 2 #[.val (.long q1), .second, .val (.long q2), .second, .val (.int p3), .val (.int p4)] [(.int p3)])) t
    refine XS.iload X0.here hx rfl (hb hby d4_2) rfl ?_
    show Steps p.tables e below (s₁.setTop (mkF m 4 #[.val (.long q1), .second, .val (.long q2), .second, .val (.int p3), .val (.int p4)] [(.int p4), (.int p3)])) t
    exact k)
  by_cases hc4_1 : p3 < p4
  · skip
    have pre3 : ∀ t, Steps p.tables e below (s₁.setTop (mkF m 15 #[.val (.long q1), .second, .val (.long q2), .second, .val (.int p3), .val (.int p4)] [(.long (q2 + p3.toInt64)), (.long q1)])) t → Steps p.tables e below (s₁.setTop (entryFrame m #[(.long q1), (.long q2), (.int p3), (.int p4)] 6)) t := fun t k => pre2 t (by
      show Steps p.tables e below (s₁.setTop (mkF m 4 #[.val (.long q1), .second, .val (.long q2), .second, .val (.int p3), .val (.int p4)] [(.int p4), (.int p3)])) t
      refine XS.icmpYes X0.here hx rfl (pc0 := 4) (pc' := 9) rfl (hb hby d4_4) rfl (XT.ii_lt_t hc4_1) (by decide) (by decide) ?_
      show Steps p.tables e below (s₁.setTop (mkF m 9 #[.val (.long q1), .second, .val (.long q2), .second, .val (.int p3), .val (.int p4)] [])) t
      refine XT.lloadN X0.here hx rfl (hb hby d4_9) rfl ?_
      show Steps p.tables e below (s₁.setTop (mkF m 10 #[.val (.long q1), .second, .val (.long q2), .second, .val (.int p3), .val (.int p4)] [(.long q1)])) t
      refine XT.lloadN X0.here hx rfl (hb hby d4_10) rfl ?_
      show Steps p.tables e below (s₁.setTop (mkF m 11 #[.val (.long q1), .second, .val (.long q2), .second, .val (.int p3), .val (.int p4)] [(.long q2), (.long q1)])) t
      refine XS.iload X0.here hx rfl (hb hby d4_11) rfl ?_
      show Steps p.tables e below (s₁.setTop (mkF m 13 #[.val (.long q1), .second, .val (.long q2), .second, .val (.int p3), .val (.int p4)] [(.int p3), (.long q2), (.long q1)])) t
      refine XT.i2l X0.here hx rfl (hb hby d4_13) rfl ?_
      show Steps p.tables e below (s₁.setTop (mkF m 14 #[.val (.long q1), .second, .val (.long q2), .second, .val (.int p3), .val (.int p4)] [(.long p3.toInt64), (.long q2), (.long q1)])) t
      refine XT.ladd X0.here hx rfl (hb hby d4_14) rfl ?_
      show Steps p.tables e below (s₁.setTop (mkF m 15 #[.val (.long q1), .second, .val (.long q2), .second, .val (.int p3), .val (.int p4)] [(.long (q2 + p3.toInt64)), (.long q1)])) t
      exact k)
    obtain ⟨_, _, ⟨T4, L4, k4, n4⟩, -, X4, ⟨Lc4, hQ4, l4, y4, z4⟩, st4⟩ := Jvm.LawKit.callS X0 hx (y := (⟨"com/example/decant/decant/decompiler/ir/GlobalInitialValuePinLaw", "at", "(JJ)J"⟩ : MethodName)) hown (mvT hZ (hw _ (List.mem_of_getElem? (i := 49) rfl))) (mvT hZ (hw _ (List.mem_of_getElem? (i := 50) rfl))) (mvT hZ (hw _ (List.mem_of_getElem? (i := 47) rfl))) (mvT hZ (hw _ (List.mem_of_getElem? (i := 51) rfl))) (by decide) (backOf (W := 0) (rm5 l Z a0 hw [] q1 (q2 + p3.toInt64) h0 n0 Z0 ) hZ (hw _ (List.mem_of_getElem? (i := 51) rfl)) (hw _ (List.mem_of_getElem? (i := 47) rfl)) (by decide) (by decide)) (g := (mkF m 15 #[.val (.long q1), .second, .val (.long q2), .second, .val (.int p3), .val (.int p4)] [(.long (q2 + p3.toInt64)), (.long q1)])) rfl (by rw [hml]; rfl) (argsL := [(.long q1), (.long (q2 + p3.toInt64))]) (rest := []) (lenOf pd_oJJcJ rfl) rfl (by show 2 * 0 + _ ≤ _; exact Nat.le_of_eq rfl) (hb hby d4_15) (fun _ _ => ⟨rfl, eh0, (by decide : 0 + 0 ≤ _), (by decide : 0 + 0 ≤ _)⟩)
    dsimp only [Pt.U, Pt.locs, Pt.cells, Pt.slots] at X4 l4 y4 z4 st4 hQ4
    subst l4 y4 z4
    obtain ⟨rfl, N4q, eh4⟩ := hQ4
    have N4 := Fr.app N0 N4q
    have pre5 : ∀ t, Steps p.tables e below (T4.setTop (mkF m 18 #[.val (.long q1), .second, .val (.long q2), .second, .val (.int p3), .val (.int p4)] [(.long (own_at q1 (q2 + p3.toInt64)))])) t → Steps p.tables e below (s₁.setTop (entryFrame m #[(.long q1), (.long q2), (.int p3), (.int p4)] 6)) t := fun t k => pre3 t (st4 _ k)
    have pre6 : ∀ t, Steps p.tables e below (T4.setTop (mkF m 24 #[.val (.long q1), .second, .val (.long q2), .second, .val (.int p3), .val (.int p4)] [(.long ((own_at q1 (q2 + p3.toInt64)) <<< (((8 : Int32) * p3).toInt64 &&& 63)))])) t → Steps p.tables e below (s₁.setTop (entryFrame m #[(.long q1), (.long q2), (.int p3), (.int p4)] 6)) t := fun t k => pre5 t (by
      show Steps p.tables e below (T4.setTop (mkF m 18 #[.val (.long q1), .second, .val (.long q2), .second, .val (.int p3), .val (.int p4)] [(.long (own_at q1 (q2 + p3.toInt64)))])) t
      refine XS.bipush X4.here hx rfl (hb hby d4_18) ?_
      show Steps p.tables e below (T4.setTop (mkF m 20 #[.val (.long q1), .second, .val (.long q2), .second, .val (.int p3), .val (.int p4)] [(.int (8 : Int32)), (.long (own_at q1 (q2 + p3.toInt64)))])) t
      refine XS.iload X4.here hx rfl (hb hby d4_20) rfl ?_
      show Steps p.tables e below (T4.setTop (mkF m 22 #[.val (.long q1), .second, .val (.long q2), .second, .val (.int p3), .val (.int p4)] [(.int p3), (.int (8 : Int32)), (.long (own_at q1 (q2 + p3.toInt64)))])) t
      refine XS.imul X4.here hx rfl (hb hby d4_22) rfl ?_
      show Steps p.tables e below (T4.setTop (mkF m 23 #[.val (.long q1), .second, .val (.long q2), .second, .val (.int p3), .val (.int p4)] [(.int ((8 : Int32) * p3)), (.long (own_at q1 (q2 + p3.toInt64)))])) t
      refine XT.lshl X4.here hx rfl (hb hby d4_23) rfl ?_
      show Steps p.tables e below (T4.setTop (mkF m 24 #[.val (.long q1), .second, .val (.long q2), .second, .val (.int p3), .val (.int p4)] [(.long ((own_at q1 (q2 + p3.toInt64)) <<< (((8 : Int32) * p3).toInt64 &&& 63)))])) t
      exact k)
    obtain ⟨fs, hr, hrun, hended, hW, hsame⟩ := X4.leave (v := some (.long ((own_at q1 (q2 + p3.toInt64)) <<< (((8 : Int32) * p3).toInt64 &&& 63)))) (fun h => by rw [Bd.returns] at h; cases h)
    refine ⟨_, _, pre6 _ ?_, hrun, hended, _, _, rfl, ?_, ⟨_, rfl⟩, hW, hsame.mono (by decide) (by decide)⟩
    · show Steps p.tables e below (T4.setTop (mkF m 24 #[.val (.long q1), .second, .val (.long q2), .second, .val (.int p3), .val (.int p4)] [(.long ((own_at q1 (q2 + p3.toInt64)) <<< (((8 : Int32) * p3).toInt64 &&& 63)))])) _
      exact X4.lreturnOut hx Bd.returns (hb hby d4_24) hr
    · show Q4 Z q1 q2 p3 p4 h0 n0 _ T4.heap _
      rw [eh4]
      exact ⟨(congrArg (fun z => some (Value.long z)) (show ((own_at q1 (q2 + p3.toInt64)) <<< (((8 : Int32) * p3).toInt64 &&& 63)) = (own_term q1 q2 p3 p4) from (by simp only [own_term, if_pos hc4_1]))), N4, rfl⟩
  · skip
    have pre7 : ∀ t, Steps p.tables e below (s₁.setTop (mkF m 8 #[.val (.long q1), .second, .val (.long q2), .second, .val (.int p3), .val (.int p4)] [(.long (0 : Int64))])) t → Steps p.tables e below (s₁.setTop (entryFrame m #[(.long q1), (.long q2), (.int p3), (.int p4)] 6)) t := fun t k => pre2 t (by
      show Steps p.tables e below (s₁.setTop (mkF m 4 #[.val (.long q1), .second, .val (.long q2), .second, .val (.int p3), .val (.int p4)] [(.int p4), (.int p3)])) t
      refine XS.icmpNo X0.here hx rfl (hb hby d4_4) rfl (XT.ii_lt_f hc4_1) ?_
      show Steps p.tables e below (s₁.setTop (mkF m 7 #[.val (.long q1), .second, .val (.long q2), .second, .val (.int p3), .val (.int p4)] [])) t
      refine XT.lconstV X0.here hx rfl (0 : Int64) (hb hby d4_7) (by decide) ?_
      show Steps p.tables e below (s₁.setTop (mkF m 8 #[.val (.long q1), .second, .val (.long q2), .second, .val (.int p3), .val (.int p4)] [(.long (0 : Int64))])) t
      exact k)
    obtain ⟨fs, hr, hrun, hended, hW, hsame⟩ := X0.leave (v := some (.long (0 : Int64))) (fun h => by rw [Bd.returns] at h; cases h)
    refine ⟨_, _, pre7 _ ?_, hrun, hended, _, _, rfl, ?_, ⟨_, rfl⟩, hW, hsame.mono (by decide) (by decide)⟩
    · show Steps p.tables e below (s₁.setTop (mkF m 8 #[.val (.long q1), .second, .val (.long q2), .second, .val (.int p3), .val (.int p4)] [(.long (0 : Int64))])) _
      exact X0.lreturnOut hx Bd.returns (hb hby d4_8) hr
    · show Q4 Z q1 q2 p3 p4 h0 n0 _ s₁.heap _
      rw [eh0]
      exact ⟨(congrArg (fun z => some (Value.long z)) (show (0 : Int64) = (own_term q1 q2 p3 p4) from (by simp only [own_term, if_neg hc4_1]))), N0, rfl⟩
theorem ef_1 (m : MethodId) (a1 : Addr) (a2 : Addr) (a5 : Addr) : entryFrame m #[(.ref a1), (.ref a2), (.long (0 : Int64)), (.long (16 : Int64)), (.ref a5), (.int (0 : Int32)), (.int (0 : Int32))] 9 = mkF m 0 #[.val (.ref a1), .val (.ref a2), .val (.long (0 : Int64)), .second, .val (.long (16 : Int64)), .second, .val (.ref a5), .val (.int (0 : Int32)), .val (.int (0 : Int32))] [] := by first | (simp [entryFrame, mkF, argsToLocals, Value.category]; done) | rfl
theorem pn_com_example_decant_decant_decompiler_ir_Global : plainName "com/example/decant/decant/decompiler/ir/Global" = true := by first | (simp [plainName, overriddenIn]; done) | decide +kernel
theorem d1_0 : decode prog_93_method_1_code 0 = .ok (.aload_n 0, 1) := by decide +kernel
theorem d1_1 : decode prog_93_method_1_code 1 = .ok (.invokespecial 1, 3) := by decide +kernel
theorem d1_4 : decode prog_93_method_1_code 4 = .ok (.lload 4, 2) := by decide +kernel
theorem d1_6 : decode prog_93_method_1_code 6 = .ok (.iload 8, 2) := by decide +kernel
theorem d1_8 : decode prog_93_method_1_code 8 = .ok (.ifCond .eq 7, 3) := by decide +kernel
theorem d1_15 : decode prog_93_method_1_code 15 = .ok (.iconst 1, 1) := by decide +kernel
theorem d1_16 : decode prog_93_method_1_code 16 = .ok (.i2l, 1) := by decide +kernel
theorem d1_17 : decode prog_93_method_1_code 17 = .ok (.lcmp, 1) := by decide +kernel
theorem d1_18 : decode prog_93_method_1_code 18 = .ok (.ifCond .lt 13, 3) := by decide +kernel
theorem d1_21 : decode prog_93_method_1_code 21 = .ok (.aload 6, 2) := by decide +kernel
theorem d1_23 : decode prog_93_method_1_code 23 = .ok (.arraylength, 1) := by decide +kernel
theorem d1_24 : decode prog_93_method_1_code 24 = .ok (.i2l, 1) := by decide +kernel
theorem d1_25 : decode prog_93_method_1_code 25 = .ok (.lload 4, 2) := by decide +kernel
theorem d1_27 : decode prog_93_method_1_code 27 = .ok (.lcmp, 1) := by decide +kernel
theorem d1_28 : decode prog_93_method_1_code 28 = .ok (.ifCond .le 22, 3) := by decide +kernel
theorem d1_50 : decode prog_93_method_1_code 50 = .ok (.aload_n 0, 1) := by decide +kernel
theorem d1_51 : decode prog_93_method_1_code 51 = .ok (.aload_n 1, 1) := by decide +kernel
theorem d1_52 : decode prog_93_method_1_code 52 = .ok (.putfield 16, 3) := by decide +kernel
theorem d1_55 : decode prog_93_method_1_code 55 = .ok (.aload_n 0, 1) := by decide +kernel
theorem d1_56 : decode prog_93_method_1_code 56 = .ok (.lload_n 2, 1) := by decide +kernel
theorem d1_57 : decode prog_93_method_1_code 57 = .ok (.putfield 22, 3) := by decide +kernel
theorem d1_60 : decode prog_93_method_1_code 60 = .ok (.aload_n 0, 1) := by decide +kernel
theorem d1_61 : decode prog_93_method_1_code 61 = .ok (.lload 4, 2) := by decide +kernel
theorem d1_63 : decode prog_93_method_1_code 63 = .ok (.putfield 26, 3) := by decide +kernel
theorem d1_66 : decode prog_93_method_1_code 66 = .ok (.aload_n 0, 1) := by decide +kernel
theorem d1_67 : decode prog_93_method_1_code 67 = .ok (.aload 6, 2) := by decide +kernel
theorem d1_69 : decode prog_93_method_1_code 69 = .ok (.invokevirtual 29, 3) := by decide +kernel
theorem d1_72 : decode prog_93_method_1_code 72 = .ok (.checkcast 30, 3) := by decide +kernel
theorem d1_75 : decode prog_93_method_1_code 75 = .ok (.putfield 35, 3) := by decide +kernel
theorem d1_78 : decode prog_93_method_1_code 78 = .ok (.aload_n 0, 1) := by decide +kernel
theorem d1_79 : decode prog_93_method_1_code 79 = .ok (.iload 7, 2) := by decide +kernel
theorem d1_81 : decode prog_93_method_1_code 81 = .ok (.putfield 38, 3) := by decide +kernel
theorem d1_84 : decode prog_93_method_1_code 84 = .ok (.aload_n 0, 1) := by decide +kernel
theorem d1_85 : decode prog_93_method_1_code 85 = .ok (.iload 8, 2) := by decide +kernel
theorem d1_87 : decode prog_93_method_1_code 87 = .ok (.putfield 42, 3) := by decide +kernel
theorem d1_90 : decode prog_93_method_1_code 90 = .ok (.return_, 1) := by decide +kernel
def Q1 (Z : State) (a1 : Addr) (a2 : Addr) (a5 : Addr) (u0 : Value) (u1 : Value) (u2 : Value) (u3 : Value) (u4 : Value) (u5 : Value) (kk : ClassId) (e0 : Int32) (e1 : Int32) (e2 : Int32) (e3 : Int32) (e4 : Int32) (h0 : Heap) (n0 : Nat) (v : Option Value) (h : Heap) (L : List Loc) : Prop := ∃ ar : Addr, ∃ kn : ClassId, v = none ∧ Fr n0 L ∧ Keep h0 h [a1] ∧ h0.size ≤ ar ∧ Exa Z h a1 "com/example/decant/decant/decompiler/ir/Global" ∧ Fld Z h a1 "com/example/decant/decant/decompiler/ir/Global" "initial" "[B" (.ref ar) ∧ Arv Z h ar kn .byte (5 : Int32) [(.int e0), (.int e1), (.int e2), (.int e3), (.int e4)] (.int (0 : Int32))
set_option maxRecDepth 65536 in
set_option maxHeartbeats 40000000 in
theorem rm1 (l : Launch) (Z : State) (a0 : Array Value) (hw : ∀ d ∈ tables_1, d.before a0 Z = true) (ws : List Jvm.Cond) (a1 : Addr) (a2 : Addr) (a5 : Addr) (u0 : Value) (u1 : Value) (u2 : Value) (u3 : Value) (u4 : Value) (u5 : Value) (kk : ClassId) (e0 : Int32) (e1 : Int32) (e2 : Int32) (e3 : Int32) (e4 : Int32) (h0 : Heap) (n0 : Nat) (Z0 : n0 ≤ h0.size) (E_a1 : Exa Z h0 a1 "com/example/decant/decant/decompiler/ir/Global") (F_name_a1 : Fld Z h0 a1 "com/example/decant/decant/decompiler/ir/Global" "name" "Ljava/lang/String;" u0) (F_address_a1 : Fld Z h0 a1 "com/example/decant/decant/decompiler/ir/Global" "address" "J" u1) (F_size_a1 : Fld Z h0 a1 "com/example/decant/decant/decompiler/ir/Global" "size" "J" u2) (F_initial_a1 : Fld Z h0 a1 "com/example/decant/decant/decompiler/ir/Global" "initial" "[B" u3) (F_readOnly_a1 : Fld Z h0 a1 "com/example/decant/decant/decompiler/ir/Global" "readOnly" "Z" u4) (F_shared_a1 : Fld Z h0 a1 "com/example/decant/decant/decompiler/ir/Global" "shared" "Z" u5) (g_a1 : n0 ≤ a1) (V_a5 : Arv Z h0 a5 kk .byte (5 : Int32) [(.int e0), (.int e1), (.int e2), (.int e3), (.int e4)] (.int (0 : Int32))) (E_a5 : Exa Z h0 a5 "[B") (ne_a1_a5 : a1 ≠ a5) :
    MetFree l (⟨"com/example/decant/decant/decompiler/ir/Global", "<init>", "(Ljava/lang/String;JJ[BZZ)V"⟩ : MethodName) (head1 (Jvm.Cond.code (⟨"com/example/decant/decant/decompiler/ir/Global", "<init>", "(Ljava/lang/String;JJ[BZZ)V"⟩ : MethodName) prog_93_method_1_code 9 none :: ws) ({ frames := 1, cells := 1, slots := 5, locals := 15 } : Room)) (fun a U => a = #[(.ref a1), (.ref a2), (.long (0 : Int64)), (.long (16 : Int64)), (.ref a5), (.int (0 : Int32)), (.int (0 : Int32))] ∧ Z.Warmed39 U.vm ∧ U.heap = h0) (fun _ _ _ _ _ => True) (fun _ U o U' => ∃ v L, o = .returned v ∧ Q1 Z a1 a2 a5 u0 u1 u2 u3 u4 u5 kk e0 e1 e2 e3 e4 h0 n0 v U'.heap L ∧ FrameEnd U o U' L ({ frames := 1, cells := 1, slots := 5, locals := 15 } : Room).cells ({ frames := 1, cells := 1, slots := 5, locals := 15 } : Room).slots) := by
  refine MetFree.of_bodySF (plainFor_of_name pn_com_example_decant_decant_decompiler_ir_Global) hisR ?_
  intro p e s m args below meth c s₁ Bd hml0 hP hK
  obtain ⟨rfl, hZ, hh⟩ := hP
  have hx := Bd.exec
  have hby := Bd.bytes
  have hml : c.maxLocals = 9 := hml0
  have hown : s.vm.findClass "com/example/decant/decant/decompiler/ir/Global" = some m.cls := findClass_of_methodNamed Bd.named
  have hnm := (name_of_methodNamed Bd.named Bd.method).1
  have X0 : Stand p l e ({ frames := 1, cells := 1, slots := 5, locals := 15 } : Room) s m #[(.ref a1), (.ref a2), (.long (0 : Int64)), (.long (16 : Int64)), (.ref a5), (.int (0 : Int32)), (.int (0 : Int32))] below meth c s₁ [] 0 0 := Stand.of_body Bd
  have eh0 : s₁.heap = h0 := by rw [← hh, Bd.state]; rfl
  have N0 := Fr.nil n0
  have pre0 : ∀ t, Steps p.tables e below (s₁.setTop (mkF m 0 #[.val (.ref a1), .val (.ref a2), .val (.long (0 : Int64)), .second, .val (.long (16 : Int64)), .second, .val (.ref a5), .val (.int (0 : Int32)), .val (.int (0 : Int32))] [])) t → Steps p.tables e below (s₁.setTop (entryFrame m #[(.ref a1), (.ref a2), (.long (0 : Int64)), (.long (16 : Int64)), (.ref a5), (.int (0 : Int32)), (.int (0 : Int32))] 9)) t := fun t k => castTop (ef_1 m a1 a2 a5) k
  have K0 : Keep h0 h0 [a1] := Keep.refl _ _
  have pre1 : ∀ t, Steps p.tables e below (s₁.setTop (mkF m 1 #[.val (.ref a1), .val (.ref a2), .val (.long (0 : Int64)), .second, .val (.long (16 : Int64)), .second, .val (.ref a5), .val (.int (0 : Int32)), .val (.int (0 : Int32))] [(.ref a1)])) t → Steps p.tables e below (s₁.setTop (entryFrame m #[(.ref a1), (.ref a2), (.long (0 : Int64)), (.long (16 : Int64)), (.ref a5), (.int (0 : Int32)), (.int (0 : Int32))] 9)) t := fun t k => pre0 t (by
    show Steps p.tables e below (s₁.setTop (mkF m 0 #[.val (.ref a1), .val (.ref a2), .val (.long (0 : Int64)), .second, .val (.long (16 : Int64)), .second, .val (.ref a5), .val (.int (0 : Int32)), .val (.int (0 : Int32))] [])) t
    refine XS.aloadN X0.here hx rfl (hb hby d1_0) rfl rfl ?_
    show Steps p.tables e below (s₁.setTop (mkF m 1 #[.val (.ref a1), .val (.ref a2), .val (.long (0 : Int64)), .second, .val (.long (16 : Int64)), .second, .val (.ref a5), .val (.int (0 : Int32)), .val (.int (0 : Int32))] [(.ref a1)])) t
    exact k)
  obtain ⟨T2, X2, eh2, st2⟩ := initO X0 hx hZ hown (hw _ (List.mem_of_getElem? (i := 16) rfl)) (hw _ (List.mem_of_getElem? (i := 17) rfl)) (hw _ (List.mem_of_getElem? (i := 18) rfl)) eh0 (g := (mkF m 1 #[.val (.ref a1), .val (.ref a2), .val (.long (0 : Int64)), .second, .val (.long (16 : Int64)), .second, .val (.ref a5), .val (.int (0 : Int32)), .val (.int (0 : Int32))] [(.ref a1)])) rfl (by rw [hml]; rfl) rfl (hb hby d1_1) (by decide) (W := 0) (by show 2 * 0 + _ ≤ _; exact Nat.le_of_eq rfl) (by decide)
  have pre3 : ∀ t, Steps p.tables e below (T2.setTop (mkF m 4 #[.val (.ref a1), .val (.ref a2), .val (.long (0 : Int64)), .second, .val (.long (16 : Int64)), .second, .val (.ref a5), .val (.int (0 : Int32)), .val (.int (0 : Int32))] [])) t → Steps p.tables e below (s₁.setTop (entryFrame m #[(.ref a1), (.ref a2), (.long (0 : Int64)), (.long (16 : Int64)), (.ref a5), (.int (0 : Int32)), (.int (0 : Int32))] 9)) t := fun t k => pre1 t (st2 _ k)
  have pre7 : ∀ t, Steps p.tables e below (T2.setTop (mkF m 52 #[.val (.ref a1), .val (.ref a2), .val (.long (0 : Int64)), .second, .val (.long (16 : Int64)), .second, .val (.ref a5), .val (.int (0 : Int32)), .val (.int (0 : Int32))] [(.ref a2), (.ref a1)])) t → Steps p.tables e below (s₁.setTop (entryFrame m #[(.ref a1), (.ref a2), (.long (0 : Int64)), (.long (16 : Int64)), (.ref a5), (.int (0 : Int32)), (.int (0 : Int32))] 9)) t := fun t k => pre3 t (by
    show Steps p.tables e below (T2.setTop (mkF m 4 #[.val (.ref a1), .val (.ref a2), .val (.long (0 : Int64)), .second, .val (.long (16 : Int64)), .second, .val (.ref a5), .val (.int (0 : Int32)), .val (.int (0 : Int32))] [])) t
    refine XT.lload X2.here hx rfl (hb hby d1_4) rfl ?_
    show Steps p.tables e below (T2.setTop (mkF m 6 #[.val (.ref a1), .val (.ref a2), .val (.long (0 : Int64)), .second, .val (.long (16 : Int64)), .second, .val (.ref a5), .val (.int (0 : Int32)), .val (.int (0 : Int32))] [(.long (16 : Int64))])) t
    refine XS.iload X2.here hx rfl (hb hby d1_6) rfl ?_
    show Steps p.tables e below (T2.setTop (mkF m 8 #[.val (.ref a1), .val (.ref a2), .val (.long (0 : Int64)), .second, .val (.long (16 : Int64)), .second, .val (.ref a5), .val (.int (0 : Int32)), .val (.int (0 : Int32))] [(.int (0 : Int32)), (.long (16 : Int64))])) t
    refine XS.ifYes X2.here hx rfl (pc0 := 8) (pc' := 15) rfl (hb hby d1_8) rfl (XT.i0_eq_t (show (0 : Int32) = (0 : Int32) from by decide)) (by decide) (by decide) ?_
    show Steps p.tables e below (T2.setTop (mkF m 15 #[.val (.ref a1), .val (.ref a2), .val (.long (0 : Int64)), .second, .val (.long (16 : Int64)), .second, .val (.ref a5), .val (.int (0 : Int32)), .val (.int (0 : Int32))] [(.long (16 : Int64))])) t
    refine XS.iconst X2.here hx rfl (hb hby d1_15) ?_
    show Steps p.tables e below (T2.setTop (mkF m 16 #[.val (.ref a1), .val (.ref a2), .val (.long (0 : Int64)), .second, .val (.long (16 : Int64)), .second, .val (.ref a5), .val (.int (0 : Int32)), .val (.int (0 : Int32))] [(.int (1 : Int32)), (.long (16 : Int64))])) t
    refine XT.i2l X2.here hx rfl (hb hby d1_16) rfl ?_
    show Steps p.tables e below (T2.setTop (mkF m 17 #[.val (.ref a1), .val (.ref a2), .val (.long (0 : Int64)), .second, .val (.long (16 : Int64)), .second, .val (.ref a5), .val (.int (0 : Int32)), .val (.int (0 : Int32))] [(.long (1 : Int32).toInt64), (.long (16 : Int64))])) t
    refine XT.lcmp X2.here hx rfl (hb hby d1_17) rfl ?_
    show Steps p.tables e below (T2.setTop (mkF m 18 #[.val (.ref a1), .val (.ref a2), .val (.long (0 : Int64)), .second, .val (.long (16 : Int64)), .second, .val (.ref a5), .val (.int (0 : Int32)), .val (.int (0 : Int32))] [(.int (XT.cmpL (16 : Int64) (1 : Int32).toInt64))])) t
    refine XS.ifNo X2.here hx rfl (hb hby d1_18) rfl (XT.ll_lt_f (show ¬ ((16 : Int64) < (1 : Int32).toInt64) from by decide)) ?_
    show Steps p.tables e below (T2.setTop (mkF m 21 #[.val (.ref a1), .val (.ref a2), .val (.long (0 : Int64)), .second, .val (.long (16 : Int64)), .second, .val (.ref a5), .val (.int (0 : Int32)), .val (.int (0 : Int32))] [])) t
    refine XS.aload X2.here hx rfl (hb hby d1_21) rfl rfl ?_
    show Steps p.tables e below (T2.setTop (mkF m 23 #[.val (.ref a1), .val (.ref a2), .val (.long (0 : Int64)), .second, .val (.long (16 : Int64)), .second, .val (.ref a5), .val (.int (0 : Int32)), .val (.int (0 : Int32))] [(.ref a5)])) t
    refine own_alen X2 hx hZ eh2 V_a5 (g := (mkF m 23 #[.val (.ref a1), .val (.ref a2), .val (.long (0 : Int64)), .second, .val (.long (16 : Int64)), .second, .val (.ref a5), .val (.int (0 : Int32)), .val (.int (0 : Int32))] [(.ref a5)])) rfl rfl (hb hby d1_23) _ ?_
    show Steps p.tables e below (T2.setTop (mkF m 24 #[.val (.ref a1), .val (.ref a2), .val (.long (0 : Int64)), .second, .val (.long (16 : Int64)), .second, .val (.ref a5), .val (.int (0 : Int32)), .val (.int (0 : Int32))] [(.int (5 : Int32))])) t
    refine XT.i2l X2.here hx rfl (hb hby d1_24) rfl ?_
    show Steps p.tables e below (T2.setTop (mkF m 25 #[.val (.ref a1), .val (.ref a2), .val (.long (0 : Int64)), .second, .val (.long (16 : Int64)), .second, .val (.ref a5), .val (.int (0 : Int32)), .val (.int (0 : Int32))] [(.long (5 : Int32).toInt64)])) t
    refine XT.lload X2.here hx rfl (hb hby d1_25) rfl ?_
    show Steps p.tables e below (T2.setTop (mkF m 27 #[.val (.ref a1), .val (.ref a2), .val (.long (0 : Int64)), .second, .val (.long (16 : Int64)), .second, .val (.ref a5), .val (.int (0 : Int32)), .val (.int (0 : Int32))] [(.long (16 : Int64)), (.long (5 : Int32).toInt64)])) t
    refine XT.lcmp X2.here hx rfl (hb hby d1_27) rfl ?_
    show Steps p.tables e below (T2.setTop (mkF m 28 #[.val (.ref a1), .val (.ref a2), .val (.long (0 : Int64)), .second, .val (.long (16 : Int64)), .second, .val (.ref a5), .val (.int (0 : Int32)), .val (.int (0 : Int32))] [(.int (XT.cmpL (5 : Int32).toInt64 (16 : Int64)))])) t
    refine XS.ifYes X2.here hx rfl (pc0 := 28) (pc' := 50) rfl (hb hby d1_28) rfl (XT.ll_le_t (show ¬ ((16 : Int64) < (5 : Int32).toInt64) from by decide)) (by decide) (by decide) ?_
    show Steps p.tables e below (T2.setTop (mkF m 50 #[.val (.ref a1), .val (.ref a2), .val (.long (0 : Int64)), .second, .val (.long (16 : Int64)), .second, .val (.ref a5), .val (.int (0 : Int32)), .val (.int (0 : Int32))] [])) t
    refine XS.aloadN X2.here hx rfl (hb hby d1_50) rfl rfl ?_
    show Steps p.tables e below (T2.setTop (mkF m 51 #[.val (.ref a1), .val (.ref a2), .val (.long (0 : Int64)), .second, .val (.long (16 : Int64)), .second, .val (.ref a5), .val (.int (0 : Int32)), .val (.int (0 : Int32))] [(.ref a1)])) t
    refine XS.aloadN X2.here hx rfl (hb hby d1_51) rfl rfl ?_
    show Steps p.tables e below (T2.setTop (mkF m 52 #[.val (.ref a1), .val (.ref a2), .val (.long (0 : Int64)), .second, .val (.long (16 : Int64)), .second, .val (.ref a5), .val (.int (0 : Int32)), .val (.int (0 : Int32))] [(.ref a2), (.ref a1)])) t
    exact k)
  obtain ⟨T8, h8, X8, eh8, W8, st8⟩ := putF X2 hx hZ hown (host := "") (Or.inl (hw _ (List.mem_of_getElem? (i := 19) rfl))) Via.refl eh2 F_name_a1 E_a1 (Or.inr ⟨(hw _ (List.mem_of_getElem? (i := 20) rfl)), rfl, hnm⟩) (hw _ (List.mem_of_getElem? (i := 3) rfl)) (ty := (.object "java/lang/String")) (by decide) rfl rfl (g := (mkF m 52 #[.val (.ref a1), .val (.ref a2), .val (.long (0 : Int64)), .second, .val (.long (16 : Int64)), .second, .val (.ref a5), .val (.int (0 : Int32)), .val (.int (0 : Int32))] [(.ref a2), (.ref a1)])) rfl rfl (hb hby d1_52)
  have E_a1__8 : Exa Z h8 a1 "com/example/decant/decant/decompiler/ir/Global" := E_a1.wr W8
  have F_address_a1__8 : Fld Z h8 a1 "com/example/decant/decant/decompiler/ir/Global" "address" "J" u1 := F_address_a1.other W8 (Or.inr (slot_ne (Or.inr (hw _ (List.mem_of_getElem? (i := 22) rfl))) (Or.inr (hw _ (List.mem_of_getElem? (i := 20) rfl))) (by decide) (t := .long) (t' := (.object "java/lang/String")) (by decide) (by decide)))
  have F_size_a1__8 : Fld Z h8 a1 "com/example/decant/decant/decompiler/ir/Global" "size" "J" u2 := F_size_a1.other W8 (Or.inr (slot_ne (Or.inr (hw _ (List.mem_of_getElem? (i := 24) rfl))) (Or.inr (hw _ (List.mem_of_getElem? (i := 20) rfl))) (by decide) (t := .long) (t' := (.object "java/lang/String")) (by decide) (by decide)))
  have F_initial_a1__8 : Fld Z h8 a1 "com/example/decant/decant/decompiler/ir/Global" "initial" "[B" u3 := F_initial_a1.other W8 (Or.inr (slot_ne (Or.inr (hw _ (List.mem_of_getElem? (i := 35) rfl))) (Or.inr (hw _ (List.mem_of_getElem? (i := 20) rfl))) (by decide) (t := (.array .byte)) (t' := (.object "java/lang/String")) (by decide) (by decide)))
  have F_readOnly_a1__8 : Fld Z h8 a1 "com/example/decant/decant/decompiler/ir/Global" "readOnly" "Z" u4 := F_readOnly_a1.other W8 (Or.inr (slot_ne (Or.inr (hw _ (List.mem_of_getElem? (i := 37) rfl))) (Or.inr (hw _ (List.mem_of_getElem? (i := 20) rfl))) (by decide) (t := .boolean) (t' := (.object "java/lang/String")) (by decide) (by decide)))
  have F_shared_a1__8 : Fld Z h8 a1 "com/example/decant/decant/decompiler/ir/Global" "shared" "Z" u5 := F_shared_a1.other W8 (Or.inr (slot_ne (Or.inr (hw _ (List.mem_of_getElem? (i := 39) rfl))) (Or.inr (hw _ (List.mem_of_getElem? (i := 20) rfl))) (by decide) (t := .boolean) (t' := (.object "java/lang/String")) (by decide) (by decide)))
  have V_a5__8 : Arv Z h8 a5 kk .byte (5 : Int32) [(.int e0), (.int e1), (.int e2), (.int e3), (.int e4)] (.int (0 : Int32)) := V_a5.other W8 (Ne.symm ne_a1_a5)
  have E_a5__8 : Exa Z h8 a5 "[B" := E_a5.wr W8
  have sz8 : n0 ≤ h8.size := Nat.le_trans Z0 (Keep.of_wr W8).1
  have K8 : Keep h0 h8 [a1] := K0.wr W8 (Or.inl (List.mem_of_getElem? (i := 0) rfl))
  have N8 := Fr.snoc X8 N0 g_a1
  have F_name_a1__8 : Fld Z h8 a1 "com/example/decant/decant/decompiler/ir/Global" "name" "Ljava/lang/String;" (.ref a2) := F_name_a1.same W8
  have pre9 : ∀ t, Steps p.tables e below (T8.setTop (mkF m 55 #[.val (.ref a1), .val (.ref a2), .val (.long (0 : Int64)), .second, .val (.long (16 : Int64)), .second, .val (.ref a5), .val (.int (0 : Int32)), .val (.int (0 : Int32))] [])) t → Steps p.tables e below (s₁.setTop (entryFrame m #[(.ref a1), (.ref a2), (.long (0 : Int64)), (.long (16 : Int64)), (.ref a5), (.int (0 : Int32)), (.int (0 : Int32))] 9)) t := fun t k => pre7 t (st8 _ k)
  have pre10 : ∀ t, Steps p.tables e below (T8.setTop (mkF m 57 #[.val (.ref a1), .val (.ref a2), .val (.long (0 : Int64)), .second, .val (.long (16 : Int64)), .second, .val (.ref a5), .val (.int (0 : Int32)), .val (.int (0 : Int32))] [(.long (0 : Int64)), (.ref a1)])) t → Steps p.tables e below (s₁.setTop (entryFrame m #[(.ref a1), (.ref a2), (.long (0 : Int64)), (.long (16 : Int64)), (.ref a5), (.int (0 : Int32)), (.int (0 : Int32))] 9)) t := fun t k => pre9 t (by
    show Steps p.tables e below (T8.setTop (mkF m 55 #[.val (.ref a1), .val (.ref a2), .val (.long (0 : Int64)), .second, .val (.long (16 : Int64)), .second, .val (.ref a5), .val (.int (0 : Int32)), .val (.int (0 : Int32))] [])) t
    refine XS.aloadN X8.here hx rfl (hb hby d1_55) rfl rfl ?_
    show Steps p.tables e below (T8.setTop (mkF m 56 #[.val (.ref a1), .val (.ref a2), .val (.long (0 : Int64)), .second, .val (.long (16 : Int64)), .second, .val (.ref a5), .val (.int (0 : Int32)), .val (.int (0 : Int32))] [(.ref a1)])) t
    refine XT.lloadN X8.here hx rfl (hb hby d1_56) rfl ?_
    show Steps p.tables e below (T8.setTop (mkF m 57 #[.val (.ref a1), .val (.ref a2), .val (.long (0 : Int64)), .second, .val (.long (16 : Int64)), .second, .val (.ref a5), .val (.int (0 : Int32)), .val (.int (0 : Int32))] [(.long (0 : Int64)), (.ref a1)])) t
    exact k)
  obtain ⟨T11, h11, X11, eh11, W11, st11⟩ := putF X8 hx hZ hown (host := "") (Or.inl (hw _ (List.mem_of_getElem? (i := 21) rfl))) Via.refl eh8 F_address_a1__8 E_a1__8 (Or.inr ⟨(hw _ (List.mem_of_getElem? (i := 22) rfl)), rfl, hnm⟩) (hw _ (List.mem_of_getElem? (i := 3) rfl)) (ty := .long) (by decide) rfl rfl (g := (mkF m 57 #[.val (.ref a1), .val (.ref a2), .val (.long (0 : Int64)), .second, .val (.long (16 : Int64)), .second, .val (.ref a5), .val (.int (0 : Int32)), .val (.int (0 : Int32))] [(.long (0 : Int64)), (.ref a1)])) rfl rfl (hb hby d1_57)
  have E_a1__11 : Exa Z h11 a1 "com/example/decant/decant/decompiler/ir/Global" := E_a1__8.wr W11
  have F_name_a1__11 : Fld Z h11 a1 "com/example/decant/decant/decompiler/ir/Global" "name" "Ljava/lang/String;" (.ref a2) := F_name_a1__8.other W11 (Or.inr (slot_ne (Or.inr (hw _ (List.mem_of_getElem? (i := 20) rfl))) (Or.inr (hw _ (List.mem_of_getElem? (i := 22) rfl))) (by decide) (t := (.object "java/lang/String")) (t' := .long) (by decide) (by decide)))
  have F_size_a1__11 : Fld Z h11 a1 "com/example/decant/decant/decompiler/ir/Global" "size" "J" u2 := F_size_a1__8.other W11 (Or.inr (slot_ne (Or.inr (hw _ (List.mem_of_getElem? (i := 24) rfl))) (Or.inr (hw _ (List.mem_of_getElem? (i := 22) rfl))) (by decide) (t := .long) (t' := .long) (by decide) (by decide)))
  have F_initial_a1__11 : Fld Z h11 a1 "com/example/decant/decant/decompiler/ir/Global" "initial" "[B" u3 := F_initial_a1__8.other W11 (Or.inr (slot_ne (Or.inr (hw _ (List.mem_of_getElem? (i := 35) rfl))) (Or.inr (hw _ (List.mem_of_getElem? (i := 22) rfl))) (by decide) (t := (.array .byte)) (t' := .long) (by decide) (by decide)))
  have F_readOnly_a1__11 : Fld Z h11 a1 "com/example/decant/decant/decompiler/ir/Global" "readOnly" "Z" u4 := F_readOnly_a1__8.other W11 (Or.inr (slot_ne (Or.inr (hw _ (List.mem_of_getElem? (i := 37) rfl))) (Or.inr (hw _ (List.mem_of_getElem? (i := 22) rfl))) (by decide) (t := .boolean) (t' := .long) (by decide) (by decide)))
  have F_shared_a1__11 : Fld Z h11 a1 "com/example/decant/decant/decompiler/ir/Global" "shared" "Z" u5 := F_shared_a1__8.other W11 (Or.inr (slot_ne (Or.inr (hw _ (List.mem_of_getElem? (i := 39) rfl))) (Or.inr (hw _ (List.mem_of_getElem? (i := 22) rfl))) (by decide) (t := .boolean) (t' := .long) (by decide) (by decide)))
  have V_a5__11 : Arv Z h11 a5 kk .byte (5 : Int32) [(.int e0), (.int e1), (.int e2), (.int e3), (.int e4)] (.int (0 : Int32)) := V_a5__8.other W11 (Ne.symm ne_a1_a5)
  have E_a5__11 : Exa Z h11 a5 "[B" := E_a5__8.wr W11
  have sz11 : n0 ≤ h11.size := Nat.le_trans sz8 (Keep.of_wr W11).1
  have K11 : Keep h0 h11 [a1] := K8.wr W11 (Or.inl (List.mem_of_getElem? (i := 0) rfl))
  have N11 := Fr.snoc X11 N8 g_a1
  have F_address_a1__11 : Fld Z h11 a1 "com/example/decant/decant/decompiler/ir/Global" "address" "J" (.long (0 : Int64)) := F_address_a1__8.same W11
  have pre12 : ∀ t, Steps p.tables e below (T11.setTop (mkF m 60 #[.val (.ref a1), .val (.ref a2), .val (.long (0 : Int64)), .second, .val (.long (16 : Int64)), .second, .val (.ref a5), .val (.int (0 : Int32)), .val (.int (0 : Int32))] [])) t → Steps p.tables e below (s₁.setTop (entryFrame m #[(.ref a1), (.ref a2), (.long (0 : Int64)), (.long (16 : Int64)), (.ref a5), (.int (0 : Int32)), (.int (0 : Int32))] 9)) t := fun t k => pre10 t (st11 _ k)
  have pre13 : ∀ t, Steps p.tables e below (T11.setTop (mkF m 63 #[.val (.ref a1), .val (.ref a2), .val (.long (0 : Int64)), .second, .val (.long (16 : Int64)), .second, .val (.ref a5), .val (.int (0 : Int32)), .val (.int (0 : Int32))] [(.long (16 : Int64)), (.ref a1)])) t → Steps p.tables e below (s₁.setTop (entryFrame m #[(.ref a1), (.ref a2), (.long (0 : Int64)), (.long (16 : Int64)), (.ref a5), (.int (0 : Int32)), (.int (0 : Int32))] 9)) t := fun t k => pre12 t (by
    show Steps p.tables e below (T11.setTop (mkF m 60 #[.val (.ref a1), .val (.ref a2), .val (.long (0 : Int64)), .second, .val (.long (16 : Int64)), .second, .val (.ref a5), .val (.int (0 : Int32)), .val (.int (0 : Int32))] [])) t
    refine XS.aloadN X11.here hx rfl (hb hby d1_60) rfl rfl ?_
    show Steps p.tables e below (T11.setTop (mkF m 61 #[.val (.ref a1), .val (.ref a2), .val (.long (0 : Int64)), .second, .val (.long (16 : Int64)), .second, .val (.ref a5), .val (.int (0 : Int32)), .val (.int (0 : Int32))] [(.ref a1)])) t
    refine XT.lload X11.here hx rfl (hb hby d1_61) rfl ?_
    show Steps p.tables e below (T11.setTop (mkF m 63 #[.val (.ref a1), .val (.ref a2), .val (.long (0 : Int64)), .second, .val (.long (16 : Int64)), .second, .val (.ref a5), .val (.int (0 : Int32)), .val (.int (0 : Int32))] [(.long (16 : Int64)), (.ref a1)])) t
    exact k)
  obtain ⟨T14, h14, X14, eh14, W14, st14⟩ := putF X11 hx hZ hown (host := "") (Or.inl (hw _ (List.mem_of_getElem? (i := 23) rfl))) Via.refl eh11 F_size_a1__11 E_a1__11 (Or.inr ⟨(hw _ (List.mem_of_getElem? (i := 24) rfl)), rfl, hnm⟩) (hw _ (List.mem_of_getElem? (i := 3) rfl)) (ty := .long) (by decide) rfl rfl (g := (mkF m 63 #[.val (.ref a1), .val (.ref a2), .val (.long (0 : Int64)), .second, .val (.long (16 : Int64)), .second, .val (.ref a5), .val (.int (0 : Int32)), .val (.int (0 : Int32))] [(.long (16 : Int64)), (.ref a1)])) rfl rfl (hb hby d1_63)
  have E_a1__14 : Exa Z h14 a1 "com/example/decant/decant/decompiler/ir/Global" := E_a1__11.wr W14
  have F_name_a1__14 : Fld Z h14 a1 "com/example/decant/decant/decompiler/ir/Global" "name" "Ljava/lang/String;" (.ref a2) := F_name_a1__11.other W14 (Or.inr (slot_ne (Or.inr (hw _ (List.mem_of_getElem? (i := 20) rfl))) (Or.inr (hw _ (List.mem_of_getElem? (i := 24) rfl))) (by decide) (t := (.object "java/lang/String")) (t' := .long) (by decide) (by decide)))
  have F_address_a1__14 : Fld Z h14 a1 "com/example/decant/decant/decompiler/ir/Global" "address" "J" (.long (0 : Int64)) := F_address_a1__11.other W14 (Or.inr (slot_ne (Or.inr (hw _ (List.mem_of_getElem? (i := 22) rfl))) (Or.inr (hw _ (List.mem_of_getElem? (i := 24) rfl))) (by decide) (t := .long) (t' := .long) (by decide) (by decide)))
  have F_initial_a1__14 : Fld Z h14 a1 "com/example/decant/decant/decompiler/ir/Global" "initial" "[B" u3 := F_initial_a1__11.other W14 (Or.inr (slot_ne (Or.inr (hw _ (List.mem_of_getElem? (i := 35) rfl))) (Or.inr (hw _ (List.mem_of_getElem? (i := 24) rfl))) (by decide) (t := (.array .byte)) (t' := .long) (by decide) (by decide)))
  have F_readOnly_a1__14 : Fld Z h14 a1 "com/example/decant/decant/decompiler/ir/Global" "readOnly" "Z" u4 := F_readOnly_a1__11.other W14 (Or.inr (slot_ne (Or.inr (hw _ (List.mem_of_getElem? (i := 37) rfl))) (Or.inr (hw _ (List.mem_of_getElem? (i := 24) rfl))) (by decide) (t := .boolean) (t' := .long) (by decide) (by decide)))
  have F_shared_a1__14 : Fld Z h14 a1 "com/example/decant/decant/decompiler/ir/Global" "shared" "Z" u5 := F_shared_a1__11.other W14 (Or.inr (slot_ne (Or.inr (hw _ (List.mem_of_getElem? (i := 39) rfl))) (Or.inr (hw _ (List.mem_of_getElem? (i := 24) rfl))) (by decide) (t := .boolean) (t' := .long) (by decide) (by decide)))
  have V_a5__14 : Arv Z h14 a5 kk .byte (5 : Int32) [(.int e0), (.int e1), (.int e2), (.int e3), (.int e4)] (.int (0 : Int32)) := V_a5__11.other W14 (Ne.symm ne_a1_a5)
  have E_a5__14 : Exa Z h14 a5 "[B" := E_a5__11.wr W14
  have sz14 : n0 ≤ h14.size := Nat.le_trans sz11 (Keep.of_wr W14).1
  have K14 : Keep h0 h14 [a1] := K11.wr W14 (Or.inl (List.mem_of_getElem? (i := 0) rfl))
  have N14 := Fr.snoc X14 N11 g_a1
  have F_size_a1__14 : Fld Z h14 a1 "com/example/decant/decant/decompiler/ir/Global" "size" "J" (.long (16 : Int64)) := F_size_a1__11.same W14
  have pre15 : ∀ t, Steps p.tables e below (T14.setTop (mkF m 66 #[.val (.ref a1), .val (.ref a2), .val (.long (0 : Int64)), .second, .val (.long (16 : Int64)), .second, .val (.ref a5), .val (.int (0 : Int32)), .val (.int (0 : Int32))] [])) t → Steps p.tables e below (s₁.setTop (entryFrame m #[(.ref a1), (.ref a2), (.long (0 : Int64)), (.long (16 : Int64)), (.ref a5), (.int (0 : Int32)), (.int (0 : Int32))] 9)) t := fun t k => pre13 t (st14 _ k)
  have pre16 : ∀ t, Steps p.tables e below (T14.setTop (mkF m 69 #[.val (.ref a1), .val (.ref a2), .val (.long (0 : Int64)), .second, .val (.long (16 : Int64)), .second, .val (.ref a5), .val (.int (0 : Int32)), .val (.int (0 : Int32))] [(.ref a5), (.ref a1)])) t → Steps p.tables e below (s₁.setTop (entryFrame m #[(.ref a1), (.ref a2), (.long (0 : Int64)), (.long (16 : Int64)), (.ref a5), (.int (0 : Int32)), (.int (0 : Int32))] 9)) t := fun t k => pre15 t (by
    show Steps p.tables e below (T14.setTop (mkF m 66 #[.val (.ref a1), .val (.ref a2), .val (.long (0 : Int64)), .second, .val (.long (16 : Int64)), .second, .val (.ref a5), .val (.int (0 : Int32)), .val (.int (0 : Int32))] [])) t
    refine XS.aloadN X14.here hx rfl (hb hby d1_66) rfl rfl ?_
    show Steps p.tables e below (T14.setTop (mkF m 67 #[.val (.ref a1), .val (.ref a2), .val (.long (0 : Int64)), .second, .val (.long (16 : Int64)), .second, .val (.ref a5), .val (.int (0 : Int32)), .val (.int (0 : Int32))] [(.ref a1)])) t
    refine XS.aload X14.here hx rfl (hb hby d1_67) rfl rfl ?_
    show Steps p.tables e below (T14.setTop (mkF m 69 #[.val (.ref a1), .val (.ref a2), .val (.long (0 : Int64)), .second, .val (.long (16 : Int64)), .second, .val (.ref a5), .val (.int (0 : Int32)), .val (.int (0 : Int32))] [(.ref a5), (.ref a1)])) t
    exact k)
  obtain ⟨T17, h17, X17, eh17, E17, Vq17, Ex17, st17⟩ := cloneH X14 hx hZ hown (hw _ (List.mem_of_getElem? (i := 25) rfl)) (hw _ (List.mem_of_getElem? (i := 26) rfl)) (hw _ (List.mem_of_getElem? (i := 30) rfl)) (hw _ (List.mem_of_getElem? (i := 28) rfl)) (hw _ (List.mem_of_getElem? (i := 29) rfl)) (hw _ (List.mem_of_getElem? (i := 31) rfl)) eh14 V_a5__14.arh E_a5__14 (g := (mkF m 69 #[.val (.ref a1), .val (.ref a2), .val (.long (0 : Int64)), .second, .val (.long (16 : Int64)), .second, .val (.ref a5), .val (.int (0 : Int32)), .val (.int (0 : Int32))] [(.ref a5), (.ref a1)])) rfl (by rw [hml]; rfl) rfl (hb hby d1_69) (by decide) (W := 1) (cap := 5) (by show 2 * 0 + _ ≤ _; exact Nat.le_of_eq rfl) (by decide) (by decide) (by decide) (by decide)
  obtain ⟨b17, gg17⟩ : ∃ z, z = h14.size := ⟨_, rfl⟩
  rw [← gg17] at Vq17 Ex17 st17
  have E_a1__17 : Exa Z h17 a1 "com/example/decant/decant/decompiler/ir/Global" := E_a1__14.ext E17
  have F_name_a1__17 : Fld Z h17 a1 "com/example/decant/decant/decompiler/ir/Global" "name" "Ljava/lang/String;" (.ref a2) := F_name_a1__14.ext E17
  have F_address_a1__17 : Fld Z h17 a1 "com/example/decant/decant/decompiler/ir/Global" "address" "J" (.long (0 : Int64)) := F_address_a1__14.ext E17
  have F_size_a1__17 : Fld Z h17 a1 "com/example/decant/decant/decompiler/ir/Global" "size" "J" (.long (16 : Int64)) := F_size_a1__14.ext E17
  have F_initial_a1__17 : Fld Z h17 a1 "com/example/decant/decant/decompiler/ir/Global" "initial" "[B" u3 := F_initial_a1__14.ext E17
  have F_readOnly_a1__17 : Fld Z h17 a1 "com/example/decant/decant/decompiler/ir/Global" "readOnly" "Z" u4 := F_readOnly_a1__14.ext E17
  have F_shared_a1__17 : Fld Z h17 a1 "com/example/decant/decant/decompiler/ir/Global" "shared" "Z" u5 := F_shared_a1__14.ext E17
  have V_a5__17 : Arv Z h17 a5 kk .byte (5 : Int32) [(.int e0), (.int e1), (.int e2), (.int e3), (.int e4)] (.int (0 : Int32)) := V_a5__14.ext E17
  have E_a5__17 : Exa Z h17 a5 "[B" := E_a5__14.ext E17
  have sz17 : n0 ≤ h17.size := Nat.le_trans sz14 E17.1
  have K17 : Keep h0 h17 [a1] := K14.ext E17
  have g_b17 : n0 ≤ b17 := Nat.le_trans sz14 (Nat.le_of_eq gg17.symm)
  have bo_b17 : h0.size ≤ b17 := Nat.le_trans K14.1 (Nat.le_of_eq gg17.symm)
  have ne_a1_b17 : a1 ≠ b17 := Nat.ne_of_lt (Nat.lt_of_lt_of_le E_a1__14.lt (Nat.le_of_eq gg17.symm))
  have ne_a5_b17 : a5 ≠ b17 := Nat.ne_of_lt (Nat.lt_of_lt_of_le V_a5__14.lt (Nat.le_of_eq gg17.symm))
  have V_b17 : Arv Z h17 b17 kk .byte (5 : Int32) [(.int e0), (.int e1), (.int e2), (.int e3), (.int e4)] (.int (0 : Int32)) := Vq17
  have pre18 : ∀ t, Steps p.tables e below (T17.setTop (mkF m 72 #[.val (.ref a1), .val (.ref a2), .val (.long (0 : Int64)), .second, .val (.long (16 : Int64)), .second, .val (.ref a5), .val (.int (0 : Int32)), .val (.int (0 : Int32))] [(.ref b17), (.ref a1)])) t → Steps p.tables e below (s₁.setTop (entryFrame m #[(.ref a1), (.ref a2), (.long (0 : Int64)), (.long (16 : Int64)), (.ref a5), (.int (0 : Int32)), (.int (0 : Int32))] 9)) t := fun t k => pre16 t (st17 _ k)
  obtain ⟨T19, X19, eh19, st19⟩ := castY X17 hx hZ hown (hw _ (List.mem_of_getElem? (i := 32) rfl)) eh17 (Ins.self Ex17) (g := (mkF m 72 #[.val (.ref a1), .val (.ref a2), .val (.long (0 : Int64)), .second, .val (.long (16 : Int64)), .second, .val (.ref a5), .val (.int (0 : Int32)), .val (.int (0 : Int32))] [(.ref b17), (.ref a1)])) rfl rfl (hb hby d1_72)
  have pre20 : ∀ t, Steps p.tables e below (T19.setTop (mkF m 75 #[.val (.ref a1), .val (.ref a2), .val (.long (0 : Int64)), .second, .val (.long (16 : Int64)), .second, .val (.ref a5), .val (.int (0 : Int32)), .val (.int (0 : Int32))] [(.ref b17), (.ref a1)])) t → Steps p.tables e below (s₁.setTop (entryFrame m #[(.ref a1), (.ref a2), (.long (0 : Int64)), (.long (16 : Int64)), (.ref a5), (.int (0 : Int32)), (.int (0 : Int32))] 9)) t := fun t k => pre18 t (st19 _ k)
  obtain ⟨T21, h21, X21, eh21, W21, st21⟩ := putF X19 hx hZ hown (host := "") (Or.inl (hw _ (List.mem_of_getElem? (i := 34) rfl))) Via.refl eh19 F_initial_a1__17 E_a1__17 (Or.inr ⟨(hw _ (List.mem_of_getElem? (i := 35) rfl)), rfl, hnm⟩) (hw _ (List.mem_of_getElem? (i := 3) rfl)) (ty := (.array .byte)) (by decide) rfl rfl (g := (mkF m 75 #[.val (.ref a1), .val (.ref a2), .val (.long (0 : Int64)), .second, .val (.long (16 : Int64)), .second, .val (.ref a5), .val (.int (0 : Int32)), .val (.int (0 : Int32))] [(.ref b17), (.ref a1)])) rfl rfl (hb hby d1_75)
  have E_a1__21 : Exa Z h21 a1 "com/example/decant/decant/decompiler/ir/Global" := E_a1__17.wr W21
  have F_name_a1__21 : Fld Z h21 a1 "com/example/decant/decant/decompiler/ir/Global" "name" "Ljava/lang/String;" (.ref a2) := F_name_a1__17.other W21 (Or.inr (slot_ne (Or.inr (hw _ (List.mem_of_getElem? (i := 20) rfl))) (Or.inr (hw _ (List.mem_of_getElem? (i := 35) rfl))) (by decide) (t := (.object "java/lang/String")) (t' := (.array .byte)) (by decide) (by decide)))
  have F_address_a1__21 : Fld Z h21 a1 "com/example/decant/decant/decompiler/ir/Global" "address" "J" (.long (0 : Int64)) := F_address_a1__17.other W21 (Or.inr (slot_ne (Or.inr (hw _ (List.mem_of_getElem? (i := 22) rfl))) (Or.inr (hw _ (List.mem_of_getElem? (i := 35) rfl))) (by decide) (t := .long) (t' := (.array .byte)) (by decide) (by decide)))
  have F_size_a1__21 : Fld Z h21 a1 "com/example/decant/decant/decompiler/ir/Global" "size" "J" (.long (16 : Int64)) := F_size_a1__17.other W21 (Or.inr (slot_ne (Or.inr (hw _ (List.mem_of_getElem? (i := 24) rfl))) (Or.inr (hw _ (List.mem_of_getElem? (i := 35) rfl))) (by decide) (t := .long) (t' := (.array .byte)) (by decide) (by decide)))
  have F_readOnly_a1__21 : Fld Z h21 a1 "com/example/decant/decant/decompiler/ir/Global" "readOnly" "Z" u4 := F_readOnly_a1__17.other W21 (Or.inr (slot_ne (Or.inr (hw _ (List.mem_of_getElem? (i := 37) rfl))) (Or.inr (hw _ (List.mem_of_getElem? (i := 35) rfl))) (by decide) (t := .boolean) (t' := (.array .byte)) (by decide) (by decide)))
  have F_shared_a1__21 : Fld Z h21 a1 "com/example/decant/decant/decompiler/ir/Global" "shared" "Z" u5 := F_shared_a1__17.other W21 (Or.inr (slot_ne (Or.inr (hw _ (List.mem_of_getElem? (i := 39) rfl))) (Or.inr (hw _ (List.mem_of_getElem? (i := 35) rfl))) (by decide) (t := .boolean) (t' := (.array .byte)) (by decide) (by decide)))
  have V_a5__21 : Arv Z h21 a5 kk .byte (5 : Int32) [(.int e0), (.int e1), (.int e2), (.int e3), (.int e4)] (.int (0 : Int32)) := V_a5__17.other W21 (Ne.symm ne_a1_a5)
  have E_a5__21 : Exa Z h21 a5 "[B" := E_a5__17.wr W21
  have V_b17__21 : Arv Z h21 b17 kk .byte (5 : Int32) [(.int e0), (.int e1), (.int e2), (.int e3), (.int e4)] (.int (0 : Int32)) := V_b17.other W21 (Ne.symm ne_a1_b17)
  have Ex17__21 : Exa Z h21 b17 "[B" := Ex17.wr W21
  have sz21 : n0 ≤ h21.size := Nat.le_trans sz17 (Keep.of_wr W21).1
  have K21 : Keep h0 h21 [a1] := K17.wr W21 (Or.inl (List.mem_of_getElem? (i := 0) rfl))
  have N21 := Fr.snoc X21 N14 g_a1
  have F_initial_a1__21 : Fld Z h21 a1 "com/example/decant/decant/decompiler/ir/Global" "initial" "[B" (.ref b17) := F_initial_a1__17.same W21
  have pre22 : ∀ t, Steps p.tables e below (T21.setTop (mkF m 78 #[.val (.ref a1), .val (.ref a2), .val (.long (0 : Int64)), .second, .val (.long (16 : Int64)), .second, .val (.ref a5), .val (.int (0 : Int32)), .val (.int (0 : Int32))] [])) t → Steps p.tables e below (s₁.setTop (entryFrame m #[(.ref a1), (.ref a2), (.long (0 : Int64)), (.long (16 : Int64)), (.ref a5), (.int (0 : Int32)), (.int (0 : Int32))] 9)) t := fun t k => pre20 t (st21 _ k)
  have pre23 : ∀ t, Steps p.tables e below (T21.setTop (mkF m 81 #[.val (.ref a1), .val (.ref a2), .val (.long (0 : Int64)), .second, .val (.long (16 : Int64)), .second, .val (.ref a5), .val (.int (0 : Int32)), .val (.int (0 : Int32))] [(.int (0 : Int32)), (.ref a1)])) t → Steps p.tables e below (s₁.setTop (entryFrame m #[(.ref a1), (.ref a2), (.long (0 : Int64)), (.long (16 : Int64)), (.ref a5), (.int (0 : Int32)), (.int (0 : Int32))] 9)) t := fun t k => pre22 t (by
    show Steps p.tables e below (T21.setTop (mkF m 78 #[.val (.ref a1), .val (.ref a2), .val (.long (0 : Int64)), .second, .val (.long (16 : Int64)), .second, .val (.ref a5), .val (.int (0 : Int32)), .val (.int (0 : Int32))] [])) t
    refine XS.aloadN X21.here hx rfl (hb hby d1_78) rfl rfl ?_
    show Steps p.tables e below (T21.setTop (mkF m 79 #[.val (.ref a1), .val (.ref a2), .val (.long (0 : Int64)), .second, .val (.long (16 : Int64)), .second, .val (.ref a5), .val (.int (0 : Int32)), .val (.int (0 : Int32))] [(.ref a1)])) t
    refine XS.iload X21.here hx rfl (hb hby d1_79) rfl ?_
    show Steps p.tables e below (T21.setTop (mkF m 81 #[.val (.ref a1), .val (.ref a2), .val (.long (0 : Int64)), .second, .val (.long (16 : Int64)), .second, .val (.ref a5), .val (.int (0 : Int32)), .val (.int (0 : Int32))] [(.int (0 : Int32)), (.ref a1)])) t
    exact k)
  obtain ⟨T24, h24, X24, eh24, W24, st24⟩ := putFN X21 hx hZ hown (hw _ (List.mem_of_getElem? (i := 36) rfl)) Via.refl eh21 F_readOnly_a1__21 E_a1__21 (Or.inr ⟨(hw _ (List.mem_of_getElem? (i := 37) rfl)), rfl, hnm⟩) (hw _ (List.mem_of_getElem? (i := 3) rfl)) (ty := .boolean) (v' := (.int (nar .boolean (0 : Int32)))) (by decide) rfl (fits_nar_bool _) (g := (mkF m 81 #[.val (.ref a1), .val (.ref a2), .val (.long (0 : Int64)), .second, .val (.long (16 : Int64)), .second, .val (.ref a5), .val (.int (0 : Int32)), .val (.int (0 : Int32))] [(.int (0 : Int32)), (.ref a1)])) rfl rfl (hb hby d1_81)
  have E_a1__24 : Exa Z h24 a1 "com/example/decant/decant/decompiler/ir/Global" := E_a1__21.wr W24
  have F_name_a1__24 : Fld Z h24 a1 "com/example/decant/decant/decompiler/ir/Global" "name" "Ljava/lang/String;" (.ref a2) := F_name_a1__21.other W24 (Or.inr (slot_ne (Or.inr (hw _ (List.mem_of_getElem? (i := 20) rfl))) (Or.inr (hw _ (List.mem_of_getElem? (i := 37) rfl))) (by decide) (t := (.object "java/lang/String")) (t' := .boolean) (by decide) (by decide)))
  have F_address_a1__24 : Fld Z h24 a1 "com/example/decant/decant/decompiler/ir/Global" "address" "J" (.long (0 : Int64)) := F_address_a1__21.other W24 (Or.inr (slot_ne (Or.inr (hw _ (List.mem_of_getElem? (i := 22) rfl))) (Or.inr (hw _ (List.mem_of_getElem? (i := 37) rfl))) (by decide) (t := .long) (t' := .boolean) (by decide) (by decide)))
  have F_size_a1__24 : Fld Z h24 a1 "com/example/decant/decant/decompiler/ir/Global" "size" "J" (.long (16 : Int64)) := F_size_a1__21.other W24 (Or.inr (slot_ne (Or.inr (hw _ (List.mem_of_getElem? (i := 24) rfl))) (Or.inr (hw _ (List.mem_of_getElem? (i := 37) rfl))) (by decide) (t := .long) (t' := .boolean) (by decide) (by decide)))
  have F_initial_a1__24 : Fld Z h24 a1 "com/example/decant/decant/decompiler/ir/Global" "initial" "[B" (.ref b17) := F_initial_a1__21.other W24 (Or.inr (slot_ne (Or.inr (hw _ (List.mem_of_getElem? (i := 35) rfl))) (Or.inr (hw _ (List.mem_of_getElem? (i := 37) rfl))) (by decide) (t := (.array .byte)) (t' := .boolean) (by decide) (by decide)))
  have F_shared_a1__24 : Fld Z h24 a1 "com/example/decant/decant/decompiler/ir/Global" "shared" "Z" u5 := F_shared_a1__21.other W24 (Or.inr (slot_ne (Or.inr (hw _ (List.mem_of_getElem? (i := 39) rfl))) (Or.inr (hw _ (List.mem_of_getElem? (i := 37) rfl))) (by decide) (t := .boolean) (t' := .boolean) (by decide) (by decide)))
  have V_a5__24 : Arv Z h24 a5 kk .byte (5 : Int32) [(.int e0), (.int e1), (.int e2), (.int e3), (.int e4)] (.int (0 : Int32)) := V_a5__21.other W24 (Ne.symm ne_a1_a5)
  have E_a5__24 : Exa Z h24 a5 "[B" := E_a5__21.wr W24
  have V_b17__24 : Arv Z h24 b17 kk .byte (5 : Int32) [(.int e0), (.int e1), (.int e2), (.int e3), (.int e4)] (.int (0 : Int32)) := V_b17__21.other W24 (Ne.symm ne_a1_b17)
  have Ex17__24 : Exa Z h24 b17 "[B" := Ex17__21.wr W24
  have sz24 : n0 ≤ h24.size := Nat.le_trans sz21 (Keep.of_wr W24).1
  have K24 : Keep h0 h24 [a1] := K21.wr W24 (Or.inl (List.mem_of_getElem? (i := 0) rfl))
  have N24 := Fr.snoc X24 N21 g_a1
  have F_readOnly_a1__24 : Fld Z h24 a1 "com/example/decant/decant/decompiler/ir/Global" "readOnly" "Z" (.int (nar .boolean (0 : Int32))) := F_readOnly_a1__21.same W24
  have pre25 : ∀ t, Steps p.tables e below (T24.setTop (mkF m 84 #[.val (.ref a1), .val (.ref a2), .val (.long (0 : Int64)), .second, .val (.long (16 : Int64)), .second, .val (.ref a5), .val (.int (0 : Int32)), .val (.int (0 : Int32))] [])) t → Steps p.tables e below (s₁.setTop (entryFrame m #[(.ref a1), (.ref a2), (.long (0 : Int64)), (.long (16 : Int64)), (.ref a5), (.int (0 : Int32)), (.int (0 : Int32))] 9)) t := fun t k => pre23 t (st24 _ k)
  have pre26 : ∀ t, Steps p.tables e below (T24.setTop (mkF m 87 #[.val (.ref a1), .val (.ref a2), .val (.long (0 : Int64)), .second, .val (.long (16 : Int64)), .second, .val (.ref a5), .val (.int (0 : Int32)), .val (.int (0 : Int32))] [(.int (0 : Int32)), (.ref a1)])) t → Steps p.tables e below (s₁.setTop (entryFrame m #[(.ref a1), (.ref a2), (.long (0 : Int64)), (.long (16 : Int64)), (.ref a5), (.int (0 : Int32)), (.int (0 : Int32))] 9)) t := fun t k => pre25 t (by
    show Steps p.tables e below (T24.setTop (mkF m 84 #[.val (.ref a1), .val (.ref a2), .val (.long (0 : Int64)), .second, .val (.long (16 : Int64)), .second, .val (.ref a5), .val (.int (0 : Int32)), .val (.int (0 : Int32))] [])) t
    refine XS.aloadN X24.here hx rfl (hb hby d1_84) rfl rfl ?_
    show Steps p.tables e below (T24.setTop (mkF m 85 #[.val (.ref a1), .val (.ref a2), .val (.long (0 : Int64)), .second, .val (.long (16 : Int64)), .second, .val (.ref a5), .val (.int (0 : Int32)), .val (.int (0 : Int32))] [(.ref a1)])) t
    refine XS.iload X24.here hx rfl (hb hby d1_85) rfl ?_
    show Steps p.tables e below (T24.setTop (mkF m 87 #[.val (.ref a1), .val (.ref a2), .val (.long (0 : Int64)), .second, .val (.long (16 : Int64)), .second, .val (.ref a5), .val (.int (0 : Int32)), .val (.int (0 : Int32))] [(.int (0 : Int32)), (.ref a1)])) t
    exact k)
  obtain ⟨T27, h27, X27, eh27, W27, st27⟩ := putFN X24 hx hZ hown (hw _ (List.mem_of_getElem? (i := 38) rfl)) Via.refl eh24 F_shared_a1__24 E_a1__24 (Or.inr ⟨(hw _ (List.mem_of_getElem? (i := 39) rfl)), rfl, hnm⟩) (hw _ (List.mem_of_getElem? (i := 3) rfl)) (ty := .boolean) (v' := (.int (nar .boolean (0 : Int32)))) (by decide) rfl (fits_nar_bool _) (g := (mkF m 87 #[.val (.ref a1), .val (.ref a2), .val (.long (0 : Int64)), .second, .val (.long (16 : Int64)), .second, .val (.ref a5), .val (.int (0 : Int32)), .val (.int (0 : Int32))] [(.int (0 : Int32)), (.ref a1)])) rfl rfl (hb hby d1_87)
  have E_a1__27 : Exa Z h27 a1 "com/example/decant/decant/decompiler/ir/Global" := E_a1__24.wr W27
  have F_name_a1__27 : Fld Z h27 a1 "com/example/decant/decant/decompiler/ir/Global" "name" "Ljava/lang/String;" (.ref a2) := F_name_a1__24.other W27 (Or.inr (slot_ne (Or.inr (hw _ (List.mem_of_getElem? (i := 20) rfl))) (Or.inr (hw _ (List.mem_of_getElem? (i := 39) rfl))) (by decide) (t := (.object "java/lang/String")) (t' := .boolean) (by decide) (by decide)))
  have F_address_a1__27 : Fld Z h27 a1 "com/example/decant/decant/decompiler/ir/Global" "address" "J" (.long (0 : Int64)) := F_address_a1__24.other W27 (Or.inr (slot_ne (Or.inr (hw _ (List.mem_of_getElem? (i := 22) rfl))) (Or.inr (hw _ (List.mem_of_getElem? (i := 39) rfl))) (by decide) (t := .long) (t' := .boolean) (by decide) (by decide)))
  have F_size_a1__27 : Fld Z h27 a1 "com/example/decant/decant/decompiler/ir/Global" "size" "J" (.long (16 : Int64)) := F_size_a1__24.other W27 (Or.inr (slot_ne (Or.inr (hw _ (List.mem_of_getElem? (i := 24) rfl))) (Or.inr (hw _ (List.mem_of_getElem? (i := 39) rfl))) (by decide) (t := .long) (t' := .boolean) (by decide) (by decide)))
  have F_initial_a1__27 : Fld Z h27 a1 "com/example/decant/decant/decompiler/ir/Global" "initial" "[B" (.ref b17) := F_initial_a1__24.other W27 (Or.inr (slot_ne (Or.inr (hw _ (List.mem_of_getElem? (i := 35) rfl))) (Or.inr (hw _ (List.mem_of_getElem? (i := 39) rfl))) (by decide) (t := (.array .byte)) (t' := .boolean) (by decide) (by decide)))
  have F_readOnly_a1__27 : Fld Z h27 a1 "com/example/decant/decant/decompiler/ir/Global" "readOnly" "Z" (.int (nar .boolean (0 : Int32))) := F_readOnly_a1__24.other W27 (Or.inr (slot_ne (Or.inr (hw _ (List.mem_of_getElem? (i := 37) rfl))) (Or.inr (hw _ (List.mem_of_getElem? (i := 39) rfl))) (by decide) (t := .boolean) (t' := .boolean) (by decide) (by decide)))
  have V_a5__27 : Arv Z h27 a5 kk .byte (5 : Int32) [(.int e0), (.int e1), (.int e2), (.int e3), (.int e4)] (.int (0 : Int32)) := V_a5__24.other W27 (Ne.symm ne_a1_a5)
  have E_a5__27 : Exa Z h27 a5 "[B" := E_a5__24.wr W27
  have V_b17__27 : Arv Z h27 b17 kk .byte (5 : Int32) [(.int e0), (.int e1), (.int e2), (.int e3), (.int e4)] (.int (0 : Int32)) := V_b17__24.other W27 (Ne.symm ne_a1_b17)
  have Ex17__27 : Exa Z h27 b17 "[B" := Ex17__24.wr W27
  have sz27 : n0 ≤ h27.size := Nat.le_trans sz24 (Keep.of_wr W27).1
  have K27 : Keep h0 h27 [a1] := K24.wr W27 (Or.inl (List.mem_of_getElem? (i := 0) rfl))
  have N27 := Fr.snoc X27 N24 g_a1
  have F_shared_a1__27 : Fld Z h27 a1 "com/example/decant/decant/decompiler/ir/Global" "shared" "Z" (.int (nar .boolean (0 : Int32))) := F_shared_a1__24.same W27
  have pre28 : ∀ t, Steps p.tables e below (T27.setTop (mkF m 90 #[.val (.ref a1), .val (.ref a2), .val (.long (0 : Int64)), .second, .val (.long (16 : Int64)), .second, .val (.ref a5), .val (.int (0 : Int32)), .val (.int (0 : Int32))] [])) t → Steps p.tables e below (s₁.setTop (entryFrame m #[(.ref a1), (.ref a2), (.long (0 : Int64)), (.long (16 : Int64)), (.ref a5), (.int (0 : Int32)), (.int (0 : Int32))] 9)) t := fun t k => pre26 t (st27 _ k)
  obtain ⟨fs, hr, hrun, hended, hW, hsame⟩ := X27.leave (v := none) (fun _ => rfl)
  refine ⟨_, _, pre28 _ ?_, hrun, hended, _, _, rfl, ?_, ⟨_, rfl⟩, hW, hsame.mono (by decide) (by decide)⟩
  · show Steps p.tables e below (T27.setTop (mkF m 90 #[.val (.ref a1), .val (.ref a2), .val (.long (0 : Int64)), .second, .val (.long (16 : Int64)), .second, .val (.ref a5), .val (.int (0 : Int32)), .val (.int (0 : Int32))] [])) _
    exact X27.returnOut hx Bd.returns (hb hby d1_90) hr
  · show Q1 Z a1 a2 a5 u0 u1 u2 u3 u4 u5 kk e0 e1 e2 e3 e4 h0 n0 _ T27.heap _
    rw [eh27]
    exact ⟨b17, kk, rfl, N27, K27, bo_b17, E_a1__27, F_initial_a1__27, V_b17__27⟩
theorem ef_3 (m : MethodId) (a1 : Addr) (q2 : Int64) (p3 : Int32) : entryFrame m #[(.ref a1), (.long q2), (.int p3)] 9 = mkF m 0 #[.val (.ref a1), .val (.long q2), .second, .val (.int p3), .unset, .unset, .unset, .unset, .unset] [] := by first | (simp [entryFrame, mkF, argsToLocals, Value.category]; done) | rfl
theorem d3_0 : decode prog_93_method_5_code 0 = .ok (.lconst 0, 1) := by decide +kernel
theorem d3_1 : decode prog_93_method_5_code 1 = .ok (.lstore 4, 2) := by decide +kernel
theorem d3_3 : decode prog_93_method_5_code 3 = .ok (.iload_n 3, 1) := by decide +kernel
theorem d3_4 : decode prog_93_method_5_code 4 = .ok (.iconst 1, 1) := by decide +kernel
theorem d3_5 : decode prog_93_method_5_code 5 = .ok (.isub, 1) := by decide +kernel
theorem d3_6 : decode prog_93_method_5_code 6 = .ok (.istore 6, 2) := by decide +kernel
theorem d3_8 : decode prog_93_method_5_code 8 = .ok (.iload 6, 2) := by decide +kernel
theorem d3_10 : decode prog_93_method_5_code 10 = .ok (.ifCond .lt 53, 3) := by decide +kernel
theorem d3_13 : decode prog_93_method_5_code 13 = .ok (.lload_n 1, 1) := by decide +kernel
theorem d3_14 : decode prog_93_method_5_code 14 = .ok (.iload 6, 2) := by decide +kernel
theorem d3_16 : decode prog_93_method_5_code 16 = .ok (.i2l, 1) := by decide +kernel
theorem d3_17 : decode prog_93_method_5_code 17 = .ok (.ladd, 1) := by decide +kernel
theorem d3_18 : decode prog_93_method_5_code 18 = .ok (.lstore 7, 2) := by decide +kernel
theorem d3_20 : decode prog_93_method_5_code 20 = .ok (.lload 4, 2) := by decide +kernel
theorem d3_22 : decode prog_93_method_5_code 22 = .ok (.bipush 8, 2) := by decide +kernel
theorem d3_24 : decode prog_93_method_5_code 24 = .ok (.lshl, 1) := by decide +kernel
theorem d3_25 : decode prog_93_method_5_code 25 = .ok (.lload 7, 2) := by decide +kernel
theorem d3_27 : decode prog_93_method_5_code 27 = .ok (.aload_n 0, 1) := by decide +kernel
theorem d3_28 : decode prog_93_method_5_code 28 = .ok (.getfield 35, 3) := by decide +kernel
theorem d3_31 : decode prog_93_method_5_code 31 = .ok (.arraylength, 1) := by decide +kernel
theorem d3_32 : decode prog_93_method_5_code 32 = .ok (.i2l, 1) := by decide +kernel
theorem d3_33 : decode prog_93_method_5_code 33 = .ok (.lcmp, 1) := by decide +kernel
theorem d3_34 : decode prog_93_method_5_code 34 = .ok (.ifCond .ge 18, 3) := by decide +kernel
theorem d3_37 : decode prog_93_method_5_code 37 = .ok (.aload_n 0, 1) := by decide +kernel
theorem d3_38 : decode prog_93_method_5_code 38 = .ok (.getfield 35, 3) := by decide +kernel
theorem d3_41 : decode prog_93_method_5_code 41 = .ok (.lload 7, 2) := by decide +kernel
theorem d3_43 : decode prog_93_method_5_code 43 = .ok (.l2i, 1) := by decide +kernel
theorem d3_44 : decode prog_93_method_5_code 44 = .ok (.baload, 1) := by decide +kernel
theorem d3_45 : decode prog_93_method_5_code 45 = .ok (.sipush 255, 3) := by decide +kernel
theorem d3_48 : decode prog_93_method_5_code 48 = .ok (.iand, 1) := by decide +kernel
theorem d3_49 : decode prog_93_method_5_code 49 = .ok (.goto 4, 3) := by decide +kernel
theorem d3_53 : decode prog_93_method_5_code 53 = .ok (.i2l, 1) := by decide +kernel
theorem d3_54 : decode prog_93_method_5_code 54 = .ok (.lor, 1) := by decide +kernel
theorem d3_55 : decode prog_93_method_5_code 55 = .ok (.lstore 4, 2) := by decide +kernel
theorem d3_57 : decode prog_93_method_5_code 57 = .ok (.iinc 6 (-1), 3) := by decide +kernel
theorem d3_60 : decode prog_93_method_5_code 60 = .ok (.goto (-52), 3) := by decide +kernel
theorem d3_52 : decode prog_93_method_5_code 52 = .ok (.iconst 0, 1) := by decide +kernel
theorem d3_63 : decode prog_93_method_5_code 63 = .ok (.lload 4, 2) := by decide +kernel
theorem d3_65 : decode prog_93_method_5_code 65 = .ok (.lreturn, 1) := by decide +kernel
def Q3 (Z : State) (a1 : Addr) (q2 : Int64) (p3 : Int32) (ar : Addr) (kk : ClassId) (e0 : Int32) (e1 : Int32) (e2 : Int32) (e3 : Int32) (e4 : Int32) (h0 : Heap) (n0 : Nat) (v : Option Value) (h : Heap) (L : List Loc) : Prop := v = some (.long (own_iv e0 e1 e2 e3 e4 q2 p3.toInt.toNat (0 : Int64))) ∧ Fr n0 L ∧ h = h0
set_option maxRecDepth 65536 in
set_option maxHeartbeats 40000000 in
theorem rm3 (l : Launch) (Z : State) (a0 : Array Value) (hw : ∀ d ∈ tables_1, d.before a0 Z = true) (ws : List Jvm.Cond) (a1 : Addr) (q2 : Int64) (p3 : Int32) (ar : Addr) (kk : ClassId) (e0 : Int32) (e1 : Int32) (e2 : Int32) (e3 : Int32) (e4 : Int32) (h0 : Heap) (n0 : Nat) (Z0 : n0 ≤ h0.size) (F_initial_a1 : Fld Z h0 a1 "com/example/decant/decant/decompiler/ir/Global" "initial" "[B" (.ref ar)) (V_ar : Arv Z h0 ar kk .byte (5 : Int32) [(.int e0), (.int e1), (.int e2), (.int e3), (.int e4)] (.int (0 : Int32))) (hbt : 0 ≤ p3.toInt ∧ p3.toInt ≤ 8) (ho : 0 ≤ q2.toInt ∧ q2.toInt < 2 ^ 62) :
    MetFree l (⟨"com/example/decant/decant/decompiler/ir/Global", "initialValue", "(JI)J"⟩ : MethodName) (head1 (Jvm.Cond.code (⟨"com/example/decant/decant/decompiler/ir/Global", "initialValue", "(JI)J"⟩ : MethodName) prog_93_method_5_code 9 (some .long) :: ws) ({ frames := 0, cells := 0, slots := 0, locals := 0 } : Room)) (fun a U => a = #[(.ref a1), (.long q2), (.int p3)] ∧ Z.Warmed39 U.vm ∧ U.heap = h0) (fun _ _ _ _ _ => True) (fun _ U o U' => ∃ v L, o = .returned v ∧ Q3 Z a1 q2 p3 ar kk e0 e1 e2 e3 e4 h0 n0 v U'.heap L ∧ FrameEnd U o U' L ({ frames := 0, cells := 0, slots := 0, locals := 0 } : Room).cells ({ frames := 0, cells := 0, slots := 0, locals := 0 } : Room).slots) := by
  refine MetFree.of_bodySF (plainFor_of_name pn_com_example_decant_decant_decompiler_ir_Global) hisR ?_
  intro p e s m args below meth c s₁ Bd hml0 hP hK
  obtain ⟨rfl, hZ, hh⟩ := hP
  have hx := Bd.exec
  have hby := Bd.bytes
  have hml : c.maxLocals = 9 := hml0
  have hown : s.vm.findClass "com/example/decant/decant/decompiler/ir/Global" = some m.cls := findClass_of_methodNamed Bd.named
  have hnm := (name_of_methodNamed Bd.named Bd.method).1
  have X0 : Stand p l e ({ frames := 0, cells := 0, slots := 0, locals := 0 } : Room) s m #[(.ref a1), (.long q2), (.int p3)] below meth c s₁ [] 0 0 := Stand.of_body Bd
  have eh0 : s₁.heap = h0 := by rw [← hh, Bd.state]; rfl
  have N0 := Fr.nil n0
  have pre0 : ∀ t, Steps p.tables e below (s₁.setTop (mkF m 0 #[.val (.ref a1), .val (.long q2), .second, .val (.int p3), .unset, .unset, .unset, .unset, .unset] [])) t → Steps p.tables e below (s₁.setTop (entryFrame m #[(.ref a1), (.long q2), (.int p3)] 9)) t := fun t k => castTop (ef_3 m a1 q2 p3) k
  have pre1 : ∀ t, Steps p.tables e below (s₁.setTop (mkF m 8 #[.val (.ref a1), .val (.long q2), .second, .val (.int p3), .val (.long (0 : Int64)), .second, .val (.int (p3 - (1 : Int32))), .unset, .unset] [])) t → Steps p.tables e below (s₁.setTop (entryFrame m #[(.ref a1), (.long q2), (.int p3)] 9)) t := fun t k => pre0 t (by
    show Steps p.tables e below (s₁.setTop (mkF m 0 #[.val (.ref a1), .val (.long q2), .second, .val (.int p3), .unset, .unset, .unset, .unset, .unset] [])) t
    refine XT.lconstV X0.here hx rfl (0 : Int64) (hb hby d3_0) (by decide) ?_
    show Steps p.tables e below (s₁.setTop (mkF m 1 #[.val (.ref a1), .val (.long q2), .second, .val (.int p3), .unset, .unset, .unset, .unset, .unset] [(.long (0 : Int64))])) t
    refine XT.lstore X0.here hx rfl (hb hby d3_1) rfl (l' := #[.val (.ref a1), .val (.long q2), .second, .val (.int p3), .val (.long (0 : Int64)), .second, .unset, .unset, .unset]) rfl ?_
    show Steps p.tables e below (s₁.setTop (mkF m 3 #[.val (.ref a1), .val (.long q2), .second, .val (.int p3), .val (.long (0 : Int64)), .second, .unset, .unset, .unset] [])) t
    refine XS.iloadN X0.here hx rfl (hb hby d3_3) rfl ?_
    show Steps p.tables e below (s₁.setTop (mkF m 4 #[.val (.ref a1), .val (.long q2), .second, .val (.int p3), .val (.long (0 : Int64)), .second, .unset, .unset, .unset] [(.int p3)])) t
    refine XS.iconst X0.here hx rfl (hb hby d3_4) ?_
    show Steps p.tables e below (s₁.setTop (mkF m 5 #[.val (.ref a1), .val (.long q2), .second, .val (.int p3), .val (.long (0 : Int64)), .second, .unset, .unset, .unset] [(.int (1 : Int32)), (.int p3)])) t
    refine XS.isub X0.here hx rfl (hb hby d3_5) rfl ?_
    show Steps p.tables e below (s₁.setTop (mkF m 6 #[.val (.ref a1), .val (.long q2), .second, .val (.int p3), .val (.long (0 : Int64)), .second, .unset, .unset, .unset] [(.int (p3 - (1 : Int32)))])) t
    refine XS.istore X0.here hx rfl (hb hby d3_6) rfl (l' := #[.val (.ref a1), .val (.long q2), .second, .val (.int p3), .val (.long (0 : Int64)), .second, .val (.int (p3 - (1 : Int32))), .unset, .unset]) rfl ?_
    show Steps p.tables e below (s₁.setTop (mkF m 8 #[.val (.ref a1), .val (.long q2), .second, .val (.int p3), .val (.long (0 : Int64)), .second, .val (.int (p3 - (1 : Int32))), .unset, .unset] [])) t
    exact k)
  have loop : ∀ (n : Nat) (TL : State) (v : Int64) (i : Int32) (A B : Slot), own_S A B → Stand p l e ({ frames := 0, cells := 0, slots := 0, locals := 0 } : Room) s m #[(.ref a1), (.long q2), (.int p3)] below meth c TL [] 0 0 → TL.heap = h0 → i.toInt = (n : Int) - 1 → n ≤ 8 → ∃ (T' : State) (i' : Int32) (A' B' : Slot), Stand p l e ({ frames := 0, cells := 0, slots := 0, locals := 0 } : Room) s m #[(.ref a1), (.long q2), (.int p3)] below meth c T' [] 0 0 ∧ T'.heap = h0 ∧ ∀ t, Steps p.tables e below (T'.setTop (mkF m 63 #[.val (.ref a1), .val (.long q2), .second, .val (.int p3), .val (.long (own_iv e0 e1 e2 e3 e4 q2 n v)), .second, .val (.int i'), A', B'] [])) t → Steps p.tables e below (TL.setTop (mkF m 8 #[.val (.ref a1), .val (.long q2), .second, .val (.int p3), .val (.long v), .second, .val (.int i), A, B] [])) t := by
    intro n
    induction n with
    | zero =>
      intro TL v i A B hS XL eL hi hn
      have preL : ∀ t, Steps p.tables e below (TL.setTop (mkF m 8 #[.val (.ref a1), .val (.long q2), .second, .val (.int p3), .val (.long v), .second, .val (.int i), A, B] [])) t → Steps p.tables e below (TL.setTop (mkF m 8 #[.val (.ref a1), .val (.long q2), .second, .val (.int p3), .val (.long v), .second, .val (.int i), A, B] [])) t := fun t k => k
      have pre3 : ∀ t, Steps p.tables e below (TL.setTop (mkF m 63 #[.val (.ref a1), .val (.long q2), .second, .val (.int p3), .val (.long v), .second, .val (.int i), A, B] [])) t → Steps p.tables e below (TL.setTop (mkF m 8 #[.val (.ref a1), .val (.long q2), .second, .val (.int p3), .val (.long v), .second, .val (.int i), A, B] [])) t := fun t k => preL t (by
        show Steps p.tables e below (TL.setTop (mkF m 8 #[.val (.ref a1), .val (.long q2), .second, .val (.int p3), .val (.long v), .second, .val (.int i), A, B] [])) t
        refine XS.iload XL.here hx rfl (hb hby d3_8) rfl ?_
        show Steps p.tables e below (TL.setTop (mkF m 10 #[.val (.ref a1), .val (.long q2), .second, .val (.int p3), .val (.long v), .second, .val (.int i), A, B] [(.int i)])) t
        refine XS.ifYes XL.here hx rfl (pc0 := 10) (pc' := 63) rfl (hb hby d3_10) rfl (XT.i0_lt_t (show i < (0 : Int32) from own_neg hi)) (by decide) (by decide) ?_
        show Steps p.tables e below (TL.setTop (mkF m 63 #[.val (.ref a1), .val (.long q2), .second, .val (.int p3), .val (.long v), .second, .val (.int i), A, B] [])) t
        exact k)
      exact ⟨TL, i, A, B, XL, eL, fun t q => pre3 t q⟩
    | succ n ih =>
      intro TL v i A B hS XL eL hi hn
      rcases hS with ⟨rfl, rfl⟩ | ⟨x, rfl, rfl⟩
      · skip
        have preL : ∀ t, Steps p.tables e below (TL.setTop (mkF m 8 #[.val (.ref a1), .val (.long q2), .second, .val (.int p3), .val (.long v), .second, .val (.int i), .unset, .unset] [])) t → Steps p.tables e below (TL.setTop (mkF m 8 #[.val (.ref a1), .val (.long q2), .second, .val (.int p3), .val (.long v), .second, .val (.int i), .unset, .unset] [])) t := fun t k => k
        have pre5 : ∀ t, Steps p.tables e below (TL.setTop (mkF m 28 #[.val (.ref a1), .val (.long q2), .second, .val (.int p3), .val (.long v), .second, .val (.int i), .val (.long (q2 + i.toInt64)), .second] [(.ref a1), (.long (q2 + i.toInt64)), (.long (v <<< ((8 : Int32).toInt64 &&& 63)))])) t → Steps p.tables e below (TL.setTop (mkF m 8 #[.val (.ref a1), .val (.long q2), .second, .val (.int p3), .val (.long v), .second, .val (.int i), .unset, .unset] [])) t := fun t k => preL t (by
          show Steps p.tables e below (TL.setTop (mkF m 8 #[.val (.ref a1), .val (.long q2), .second, .val (.int p3), .val (.long v), .second, .val (.int i), .unset, .unset] [])) t
          refine XS.iload XL.here hx rfl (hb hby d3_8) rfl ?_
          show Steps p.tables e below (TL.setTop (mkF m 10 #[.val (.ref a1), .val (.long q2), .second, .val (.int p3), .val (.long v), .second, .val (.int i), .unset, .unset] [(.int i)])) t
          refine XS.ifNo XL.here hx rfl (hb hby d3_10) rfl (XT.i0_lt_f (show ¬ (i < (0 : Int32)) from own_pos hi)) ?_
          show Steps p.tables e below (TL.setTop (mkF m 13 #[.val (.ref a1), .val (.long q2), .second, .val (.int p3), .val (.long v), .second, .val (.int i), .unset, .unset] [])) t
          refine XT.lloadN XL.here hx rfl (hb hby d3_13) rfl ?_
          show Steps p.tables e below (TL.setTop (mkF m 14 #[.val (.ref a1), .val (.long q2), .second, .val (.int p3), .val (.long v), .second, .val (.int i), .unset, .unset] [(.long q2)])) t
          refine XS.iload XL.here hx rfl (hb hby d3_14) rfl ?_
          show Steps p.tables e below (TL.setTop (mkF m 16 #[.val (.ref a1), .val (.long q2), .second, .val (.int p3), .val (.long v), .second, .val (.int i), .unset, .unset] [(.int i), (.long q2)])) t
          refine XT.i2l XL.here hx rfl (hb hby d3_16) rfl ?_
          show Steps p.tables e below (TL.setTop (mkF m 17 #[.val (.ref a1), .val (.long q2), .second, .val (.int p3), .val (.long v), .second, .val (.int i), .unset, .unset] [(.long i.toInt64), (.long q2)])) t
          refine XT.ladd XL.here hx rfl (hb hby d3_17) rfl ?_
          show Steps p.tables e below (TL.setTop (mkF m 18 #[.val (.ref a1), .val (.long q2), .second, .val (.int p3), .val (.long v), .second, .val (.int i), .unset, .unset] [(.long (q2 + i.toInt64))])) t
          refine XT.lstore XL.here hx rfl (hb hby d3_18) rfl (l' := #[.val (.ref a1), .val (.long q2), .second, .val (.int p3), .val (.long v), .second, .val (.int i), .val (.long (q2 + i.toInt64)), .second]) rfl ?_
          show Steps p.tables e below (TL.setTop (mkF m 20 #[.val (.ref a1), .val (.long q2), .second, .val (.int p3), .val (.long v), .second, .val (.int i), .val (.long (q2 + i.toInt64)), .second] [])) t
          refine XT.lload XL.here hx rfl (hb hby d3_20) rfl ?_
          show Steps p.tables e below (TL.setTop (mkF m 22 #[.val (.ref a1), .val (.long q2), .second, .val (.int p3), .val (.long v), .second, .val (.int i), .val (.long (q2 + i.toInt64)), .second] [(.long v)])) t
          refine XS.bipush XL.here hx rfl (hb hby d3_22) ?_
          show Steps p.tables e below (TL.setTop (mkF m 24 #[.val (.ref a1), .val (.long q2), .second, .val (.int p3), .val (.long v), .second, .val (.int i), .val (.long (q2 + i.toInt64)), .second] [(.int (8 : Int32)), (.long v)])) t
          refine XT.lshl XL.here hx rfl (hb hby d3_24) rfl ?_
          show Steps p.tables e below (TL.setTop (mkF m 25 #[.val (.ref a1), .val (.long q2), .second, .val (.int p3), .val (.long v), .second, .val (.int i), .val (.long (q2 + i.toInt64)), .second] [(.long (v <<< ((8 : Int32).toInt64 &&& 63)))])) t
          refine XT.lload XL.here hx rfl (hb hby d3_25) rfl ?_
          show Steps p.tables e below (TL.setTop (mkF m 27 #[.val (.ref a1), .val (.long q2), .second, .val (.int p3), .val (.long v), .second, .val (.int i), .val (.long (q2 + i.toInt64)), .second] [(.long (q2 + i.toInt64)), (.long (v <<< ((8 : Int32).toInt64 &&& 63)))])) t
          refine XS.aloadN XL.here hx rfl (hb hby d3_27) rfl rfl ?_
          show Steps p.tables e below (TL.setTop (mkF m 28 #[.val (.ref a1), .val (.long q2), .second, .val (.int p3), .val (.long v), .second, .val (.int i), .val (.long (q2 + i.toInt64)), .second] [(.ref a1), (.long (q2 + i.toInt64)), (.long (v <<< ((8 : Int32).toInt64 &&& 63)))])) t
          exact k)
        obtain ⟨T6, X6, eh6, st6⟩ := getF XL hx hZ hown (host := "") (Or.inl (hw _ (List.mem_of_getElem? (i := 34) rfl))) Via.refl eL F_initial_a1 (g := (mkF m 28 #[.val (.ref a1), .val (.long q2), .second, .val (.int p3), .val (.long v), .second, .val (.int i), .val (.long (q2 + i.toInt64)), .second] [(.ref a1), (.long (q2 + i.toInt64)), (.long (v <<< ((8 : Int32).toInt64 &&& 63)))])) rfl rfl (hb hby d3_28)
        have pre7 : ∀ t, Steps p.tables e below (T6.setTop (mkF m 31 #[.val (.ref a1), .val (.long q2), .second, .val (.int p3), .val (.long v), .second, .val (.int i), .val (.long (q2 + i.toInt64)), .second] [(.ref ar), (.long (q2 + i.toInt64)), (.long (v <<< ((8 : Int32).toInt64 &&& 63)))])) t → Steps p.tables e below (TL.setTop (mkF m 8 #[.val (.ref a1), .val (.long q2), .second, .val (.int p3), .val (.long v), .second, .val (.int i), .unset, .unset] [])) t := fun t k => pre5 t (st6 _ k)
        have pre9 : ∀ t, Steps p.tables e below (T6.setTop (mkF m 34 #[.val (.ref a1), .val (.long q2), .second, .val (.int p3), .val (.long v), .second, .val (.int i), .val (.long (q2 + i.toInt64)), .second] [(.int (XT.cmpL (q2 + i.toInt64) (5 : Int32).toInt64)), (.long (v <<< ((8 : Int32).toInt64 &&& 63)))])) t → Steps p.tables e below (TL.setTop (mkF m 8 #[.val (.ref a1), .val (.long q2), .second, .val (.int p3), .val (.long v), .second, .val (.int i), .unset, .unset] [])) t := fun t k => pre7 t (by
          show Steps p.tables e below (T6.setTop (mkF m 31 #[.val (.ref a1), .val (.long q2), .second, .val (.int p3), .val (.long v), .second, .val (.int i), .val (.long (q2 + i.toInt64)), .second] [(.ref ar), (.long (q2 + i.toInt64)), (.long (v <<< ((8 : Int32).toInt64 &&& 63)))])) t
          refine own_alen X6 hx hZ eh6 V_ar (g := (mkF m 31 #[.val (.ref a1), .val (.long q2), .second, .val (.int p3), .val (.long v), .second, .val (.int i), .val (.long (q2 + i.toInt64)), .second] [(.ref ar), (.long (q2 + i.toInt64)), (.long (v <<< ((8 : Int32).toInt64 &&& 63)))])) rfl rfl (hb hby d3_31) _ ?_
          show Steps p.tables e below (T6.setTop (mkF m 32 #[.val (.ref a1), .val (.long q2), .second, .val (.int p3), .val (.long v), .second, .val (.int i), .val (.long (q2 + i.toInt64)), .second] [(.int (5 : Int32)), (.long (q2 + i.toInt64)), (.long (v <<< ((8 : Int32).toInt64 &&& 63)))])) t
          refine XT.i2l X6.here hx rfl (hb hby d3_32) rfl ?_
          show Steps p.tables e below (T6.setTop (mkF m 33 #[.val (.ref a1), .val (.long q2), .second, .val (.int p3), .val (.long v), .second, .val (.int i), .val (.long (q2 + i.toInt64)), .second] [(.long (5 : Int32).toInt64), (.long (q2 + i.toInt64)), (.long (v <<< ((8 : Int32).toInt64 &&& 63)))])) t
          refine XT.lcmp X6.here hx rfl (hb hby d3_33) rfl ?_
          show Steps p.tables e below (T6.setTop (mkF m 34 #[.val (.ref a1), .val (.long q2), .second, .val (.int p3), .val (.long v), .second, .val (.int i), .val (.long (q2 + i.toInt64)), .second] [(.int (XT.cmpL (q2 + i.toInt64) (5 : Int32).toInt64)), (.long (v <<< ((8 : Int32).toInt64 &&& 63)))])) t
          exact k)
        by_cases hc34_8 : (q2 + i.toInt64) < (5 : Int32).toInt64
        · skip
          have pre10 : ∀ t, Steps p.tables e below (T6.setTop (mkF m 38 #[.val (.ref a1), .val (.long q2), .second, .val (.int p3), .val (.long v), .second, .val (.int i), .val (.long (q2 + i.toInt64)), .second] [(.ref a1), (.long (v <<< ((8 : Int32).toInt64 &&& 63)))])) t → Steps p.tables e below (TL.setTop (mkF m 8 #[.val (.ref a1), .val (.long q2), .second, .val (.int p3), .val (.long v), .second, .val (.int i), .unset, .unset] [])) t := fun t k => pre9 t (by
            show Steps p.tables e below (T6.setTop (mkF m 34 #[.val (.ref a1), .val (.long q2), .second, .val (.int p3), .val (.long v), .second, .val (.int i), .val (.long (q2 + i.toInt64)), .second] [(.int (XT.cmpL (q2 + i.toInt64) (5 : Int32).toInt64)), (.long (v <<< ((8 : Int32).toInt64 &&& 63)))])) t
            refine XS.ifNo X6.here hx rfl (hb hby d3_34) rfl (XT.ll_ge_f hc34_8) ?_
            show Steps p.tables e below (T6.setTop (mkF m 37 #[.val (.ref a1), .val (.long q2), .second, .val (.int p3), .val (.long v), .second, .val (.int i), .val (.long (q2 + i.toInt64)), .second] [(.long (v <<< ((8 : Int32).toInt64 &&& 63)))])) t
            refine XS.aloadN X6.here hx rfl (hb hby d3_37) rfl rfl ?_
            show Steps p.tables e below (T6.setTop (mkF m 38 #[.val (.ref a1), .val (.long q2), .second, .val (.int p3), .val (.long v), .second, .val (.int i), .val (.long (q2 + i.toInt64)), .second] [(.ref a1), (.long (v <<< ((8 : Int32).toInt64 &&& 63)))])) t
            exact k)
          obtain ⟨T11, X11, eh11, st11⟩ := getF X6 hx hZ hown (host := "") (Or.inl (hw _ (List.mem_of_getElem? (i := 34) rfl))) Via.refl eh6 F_initial_a1 (g := (mkF m 38 #[.val (.ref a1), .val (.long q2), .second, .val (.int p3), .val (.long v), .second, .val (.int i), .val (.long (q2 + i.toInt64)), .second] [(.ref a1), (.long (v <<< ((8 : Int32).toInt64 &&& 63)))])) rfl rfl (hb hby d3_38)
          have pre12 : ∀ t, Steps p.tables e below (T11.setTop (mkF m 41 #[.val (.ref a1), .val (.long q2), .second, .val (.int p3), .val (.long v), .second, .val (.int i), .val (.long (q2 + i.toInt64)), .second] [(.ref ar), (.long (v <<< ((8 : Int32).toInt64 &&& 63)))])) t → Steps p.tables e below (TL.setTop (mkF m 8 #[.val (.ref a1), .val (.long q2), .second, .val (.int p3), .val (.long v), .second, .val (.int i), .unset, .unset] [])) t := fun t k => pre10 t (st11 _ k)
          have pre13 : ∀ t, Steps p.tables e below (T11.setTop (mkF m 8 #[.val (.ref a1), .val (.long q2), .second, .val (.int p3), .val (.long ((v <<< ((8 : Int32).toInt64 &&& 63)) ||| ((own_pick e0 e1 e2 e3 e4 (q2 + i.toInt64).toInt32) &&& (255 : Int32)).toInt64)), .second, .val (.int (i + (-1 : Int32))), .val (.long (q2 + i.toInt64)), .second] [])) t → Steps p.tables e below (TL.setTop (mkF m 8 #[.val (.ref a1), .val (.long q2), .second, .val (.int p3), .val (.long v), .second, .val (.int i), .unset, .unset] [])) t := fun t k => pre12 t (by
            show Steps p.tables e below (T11.setTop (mkF m 41 #[.val (.ref a1), .val (.long q2), .second, .val (.int p3), .val (.long v), .second, .val (.int i), .val (.long (q2 + i.toInt64)), .second] [(.ref ar), (.long (v <<< ((8 : Int32).toInt64 &&& 63)))])) t
            refine XT.lload X11.here hx rfl (hb hby d3_41) rfl ?_
            show Steps p.tables e below (T11.setTop (mkF m 43 #[.val (.ref a1), .val (.long q2), .second, .val (.int p3), .val (.long v), .second, .val (.int i), .val (.long (q2 + i.toInt64)), .second] [(.long (q2 + i.toInt64)), (.ref ar), (.long (v <<< ((8 : Int32).toInt64 &&& 63)))])) t
            refine XT.l2i X11.here hx rfl (hb hby d3_43) rfl ?_
            show Steps p.tables e below (T11.setTop (mkF m 44 #[.val (.ref a1), .val (.long q2), .second, .val (.int p3), .val (.long v), .second, .val (.int i), .val (.long (q2 + i.toInt64)), .second] [(.int (q2 + i.toInt64).toInt32), (.ref ar), (.long (v <<< ((8 : Int32).toInt64 &&& 63)))])) t
            refine own_baload X11 hx hZ eh11 V_ar (j := (q2 + i.toInt64).toInt32) (v := (.int (own_pick e0 e1 e2 e3 e4 (q2 + i.toInt64).toInt32))) (own_inb' ho hi hn (by assumption)) (own_get e0 e1 e2 e3 e4 (own_inb' ho hi hn (by assumption))) (g := (mkF m 44 #[.val (.ref a1), .val (.long q2), .second, .val (.int p3), .val (.long v), .second, .val (.int i), .val (.long (q2 + i.toInt64)), .second] [(.int (q2 + i.toInt64).toInt32), (.ref ar), (.long (v <<< ((8 : Int32).toInt64 &&& 63)))])) rfl rfl (hb hby d3_44) _ ?_
            show Steps p.tables e below (T11.setTop (mkF m 45 #[.val (.ref a1), .val (.long q2), .second, .val (.int p3), .val (.long v), .second, .val (.int i), .val (.long (q2 + i.toInt64)), .second] [(.int (own_pick e0 e1 e2 e3 e4 (q2 + i.toInt64).toInt32)), (.long (v <<< ((8 : Int32).toInt64 &&& 63)))])) t
            refine XS.sipush X11.here hx rfl (hb hby d3_45) ?_
            show Steps p.tables e below (T11.setTop (mkF m 48 #[.val (.ref a1), .val (.long q2), .second, .val (.int p3), .val (.long v), .second, .val (.int i), .val (.long (q2 + i.toInt64)), .second] [(.int (255 : Int32)), (.int (own_pick e0 e1 e2 e3 e4 (q2 + i.toInt64).toInt32)), (.long (v <<< ((8 : Int32).toInt64 &&& 63)))])) t
            refine XS.iand X11.here hx rfl (hb hby d3_48) rfl ?_
            show Steps p.tables e below (T11.setTop (mkF m 49 #[.val (.ref a1), .val (.long q2), .second, .val (.int p3), .val (.long v), .second, .val (.int i), .val (.long (q2 + i.toInt64)), .second] [(.int ((own_pick e0 e1 e2 e3 e4 (q2 + i.toInt64).toInt32) &&& (255 : Int32))), (.long (v <<< ((8 : Int32).toInt64 &&& 63)))])) t
            refine XS.goto X11.here hx rfl (pc0 := 49) (pc' := 53) rfl (hb hby d3_49) (by decide) (by decide) ?_
            show Steps p.tables e below (T11.setTop (mkF m 53 #[.val (.ref a1), .val (.long q2), .second, .val (.int p3), .val (.long v), .second, .val (.int i), .val (.long (q2 + i.toInt64)), .second] [(.int ((own_pick e0 e1 e2 e3 e4 (q2 + i.toInt64).toInt32) &&& (255 : Int32))), (.long (v <<< ((8 : Int32).toInt64 &&& 63)))])) t
            refine XT.i2l X11.here hx rfl (hb hby d3_53) rfl ?_
            show Steps p.tables e below (T11.setTop (mkF m 54 #[.val (.ref a1), .val (.long q2), .second, .val (.int p3), .val (.long v), .second, .val (.int i), .val (.long (q2 + i.toInt64)), .second] [(.long ((own_pick e0 e1 e2 e3 e4 (q2 + i.toInt64).toInt32) &&& (255 : Int32)).toInt64), (.long (v <<< ((8 : Int32).toInt64 &&& 63)))])) t
            refine XT.lor X11.here hx rfl (hb hby d3_54) rfl ?_
            show Steps p.tables e below (T11.setTop (mkF m 55 #[.val (.ref a1), .val (.long q2), .second, .val (.int p3), .val (.long v), .second, .val (.int i), .val (.long (q2 + i.toInt64)), .second] [(.long ((v <<< ((8 : Int32).toInt64 &&& 63)) ||| ((own_pick e0 e1 e2 e3 e4 (q2 + i.toInt64).toInt32) &&& (255 : Int32)).toInt64))])) t
            refine XT.lstore X11.here hx rfl (hb hby d3_55) rfl (l' := #[.val (.ref a1), .val (.long q2), .second, .val (.int p3), .val (.long ((v <<< ((8 : Int32).toInt64 &&& 63)) ||| ((own_pick e0 e1 e2 e3 e4 (q2 + i.toInt64).toInt32) &&& (255 : Int32)).toInt64)), .second, .val (.int i), .val (.long (q2 + i.toInt64)), .second]) rfl ?_
            show Steps p.tables e below (T11.setTop (mkF m 57 #[.val (.ref a1), .val (.long q2), .second, .val (.int p3), .val (.long ((v <<< ((8 : Int32).toInt64 &&& 63)) ||| ((own_pick e0 e1 e2 e3 e4 (q2 + i.toInt64).toInt32) &&& (255 : Int32)).toInt64)), .second, .val (.int i), .val (.long (q2 + i.toInt64)), .second] [])) t
            refine XS.iinc X11.here hx rfl (hb hby d3_57) rfl (l' := #[.val (.ref a1), .val (.long q2), .second, .val (.int p3), .val (.long ((v <<< ((8 : Int32).toInt64 &&& 63)) ||| ((own_pick e0 e1 e2 e3 e4 (q2 + i.toInt64).toInt32) &&& (255 : Int32)).toInt64)), .second, .val (.int (i + (-1 : Int32))), .val (.long (q2 + i.toInt64)), .second]) rfl ?_
            show Steps p.tables e below (T11.setTop (mkF m 60 #[.val (.ref a1), .val (.long q2), .second, .val (.int p3), .val (.long ((v <<< ((8 : Int32).toInt64 &&& 63)) ||| ((own_pick e0 e1 e2 e3 e4 (q2 + i.toInt64).toInt32) &&& (255 : Int32)).toInt64)), .second, .val (.int (i + (-1 : Int32))), .val (.long (q2 + i.toInt64)), .second] [])) t
            refine XS.goto X11.here hx rfl (pc0 := 60) (pc' := 8) rfl (hb hby d3_60) (by decide) (by decide) ?_
            show Steps p.tables e below (T11.setTop (mkF m 8 #[.val (.ref a1), .val (.long q2), .second, .val (.int p3), .val (.long ((v <<< ((8 : Int32).toInt64 &&& 63)) ||| ((own_pick e0 e1 e2 e3 e4 (q2 + i.toInt64).toInt32) &&& (255 : Int32)).toInt64)), .second, .val (.int (i + (-1 : Int32))), .val (.long (q2 + i.toInt64)), .second] [])) t
            exact k)
          have eq14 : (own_iv e0 e1 e2 e3 e4 q2 (n + 1) v) = (own_iv e0 e1 e2 e3 e4 q2 n ((v <<< ((8 : Int32).toInt64 &&& 63)) ||| ((own_pick e0 e1 e2 e3 e4 (q2 + i.toInt64).toInt32) &&& (255 : Int32)).toInt64)) := by rw [own_iv_s, ← own_is hi hn]; simp only [own_byte, if_pos hc34_8]
          obtain ⟨T', i', A', B', X', e', st14⟩ := ih T11 _ _ _ _ (Or.inr ⟨_, rfl, rfl⟩) X11 eh11 (own_dec hi hn) (by omega)
          exact ⟨T', i', A', B', X', e', fun t q => pre13 t (st14 t (by rw [eq14] at q; exact q))⟩
        · skip
          have pre15 : ∀ t, Steps p.tables e below (T6.setTop (mkF m 8 #[.val (.ref a1), .val (.long q2), .second, .val (.int p3), .val (.long ((v <<< ((8 : Int32).toInt64 &&& 63)) ||| (0 : Int32).toInt64)), .second, .val (.int (i + (-1 : Int32))), .val (.long (q2 + i.toInt64)), .second] [])) t → Steps p.tables e below (TL.setTop (mkF m 8 #[.val (.ref a1), .val (.long q2), .second, .val (.int p3), .val (.long v), .second, .val (.int i), .unset, .unset] [])) t := fun t k => pre9 t (by
            show Steps p.tables e below (T6.setTop (mkF m 34 #[.val (.ref a1), .val (.long q2), .second, .val (.int p3), .val (.long v), .second, .val (.int i), .val (.long (q2 + i.toInt64)), .second] [(.int (XT.cmpL (q2 + i.toInt64) (5 : Int32).toInt64)), (.long (v <<< ((8 : Int32).toInt64 &&& 63)))])) t
            refine XS.ifYes X6.here hx rfl (pc0 := 34) (pc' := 52) rfl (hb hby d3_34) rfl (XT.ll_ge_t hc34_8) (by decide) (by decide) ?_
            show Steps p.tables e below (T6.setTop (mkF m 52 #[.val (.ref a1), .val (.long q2), .second, .val (.int p3), .val (.long v), .second, .val (.int i), .val (.long (q2 + i.toInt64)), .second] [(.long (v <<< ((8 : Int32).toInt64 &&& 63)))])) t
            refine XS.iconst X6.here hx rfl (hb hby d3_52) ?_
            show Steps p.tables e below (T6.setTop (mkF m 53 #[.val (.ref a1), .val (.long q2), .second, .val (.int p3), .val (.long v), .second, .val (.int i), .val (.long (q2 + i.toInt64)), .second] [(.int (0 : Int32)), (.long (v <<< ((8 : Int32).toInt64 &&& 63)))])) t
            refine XT.i2l X6.here hx rfl (hb hby d3_53) rfl ?_
            show Steps p.tables e below (T6.setTop (mkF m 54 #[.val (.ref a1), .val (.long q2), .second, .val (.int p3), .val (.long v), .second, .val (.int i), .val (.long (q2 + i.toInt64)), .second] [(.long (0 : Int32).toInt64), (.long (v <<< ((8 : Int32).toInt64 &&& 63)))])) t
            refine XT.lor X6.here hx rfl (hb hby d3_54) rfl ?_
            show Steps p.tables e below (T6.setTop (mkF m 55 #[.val (.ref a1), .val (.long q2), .second, .val (.int p3), .val (.long v), .second, .val (.int i), .val (.long (q2 + i.toInt64)), .second] [(.long ((v <<< ((8 : Int32).toInt64 &&& 63)) ||| (0 : Int32).toInt64))])) t
            refine XT.lstore X6.here hx rfl (hb hby d3_55) rfl (l' := #[.val (.ref a1), .val (.long q2), .second, .val (.int p3), .val (.long ((v <<< ((8 : Int32).toInt64 &&& 63)) ||| (0 : Int32).toInt64)), .second, .val (.int i), .val (.long (q2 + i.toInt64)), .second]) rfl ?_
            show Steps p.tables e below (T6.setTop (mkF m 57 #[.val (.ref a1), .val (.long q2), .second, .val (.int p3), .val (.long ((v <<< ((8 : Int32).toInt64 &&& 63)) ||| (0 : Int32).toInt64)), .second, .val (.int i), .val (.long (q2 + i.toInt64)), .second] [])) t
            refine XS.iinc X6.here hx rfl (hb hby d3_57) rfl (l' := #[.val (.ref a1), .val (.long q2), .second, .val (.int p3), .val (.long ((v <<< ((8 : Int32).toInt64 &&& 63)) ||| (0 : Int32).toInt64)), .second, .val (.int (i + (-1 : Int32))), .val (.long (q2 + i.toInt64)), .second]) rfl ?_
            show Steps p.tables e below (T6.setTop (mkF m 60 #[.val (.ref a1), .val (.long q2), .second, .val (.int p3), .val (.long ((v <<< ((8 : Int32).toInt64 &&& 63)) ||| (0 : Int32).toInt64)), .second, .val (.int (i + (-1 : Int32))), .val (.long (q2 + i.toInt64)), .second] [])) t
            refine XS.goto X6.here hx rfl (pc0 := 60) (pc' := 8) rfl (hb hby d3_60) (by decide) (by decide) ?_
            show Steps p.tables e below (T6.setTop (mkF m 8 #[.val (.ref a1), .val (.long q2), .second, .val (.int p3), .val (.long ((v <<< ((8 : Int32).toInt64 &&& 63)) ||| (0 : Int32).toInt64)), .second, .val (.int (i + (-1 : Int32))), .val (.long (q2 + i.toInt64)), .second] [])) t
            exact k)
          have eq16 : (own_iv e0 e1 e2 e3 e4 q2 (n + 1) v) = (own_iv e0 e1 e2 e3 e4 q2 n ((v <<< ((8 : Int32).toInt64 &&& 63)) ||| (0 : Int32).toInt64)) := by rw [own_iv_s, ← own_is hi hn]; simp only [own_byte, if_neg hc34_8]
          obtain ⟨T', i', A', B', X', e', st16⟩ := ih T6 _ _ _ _ (Or.inr ⟨_, rfl, rfl⟩) X6 eh6 (own_dec hi hn) (by omega)
          exact ⟨T', i', A', B', X', e', fun t q => pre15 t (st16 t (by rw [eq16] at q; exact q))⟩
      · skip
        have preL : ∀ t, Steps p.tables e below (TL.setTop (mkF m 8 #[.val (.ref a1), .val (.long q2), .second, .val (.int p3), .val (.long v), .second, .val (.int i), .val (.long x), .second] [])) t → Steps p.tables e below (TL.setTop (mkF m 8 #[.val (.ref a1), .val (.long q2), .second, .val (.int p3), .val (.long v), .second, .val (.int i), .val (.long x), .second] [])) t := fun t k => k
        have pre18 : ∀ t, Steps p.tables e below (TL.setTop (mkF m 28 #[.val (.ref a1), .val (.long q2), .second, .val (.int p3), .val (.long v), .second, .val (.int i), .val (.long (q2 + i.toInt64)), .second] [(.ref a1), (.long (q2 + i.toInt64)), (.long (v <<< ((8 : Int32).toInt64 &&& 63)))])) t → Steps p.tables e below (TL.setTop (mkF m 8 #[.val (.ref a1), .val (.long q2), .second, .val (.int p3), .val (.long v), .second, .val (.int i), .val (.long x), .second] [])) t := fun t k => preL t (by
          show Steps p.tables e below (TL.setTop (mkF m 8 #[.val (.ref a1), .val (.long q2), .second, .val (.int p3), .val (.long v), .second, .val (.int i), .val (.long x), .second] [])) t
          refine XS.iload XL.here hx rfl (hb hby d3_8) rfl ?_
          show Steps p.tables e below (TL.setTop (mkF m 10 #[.val (.ref a1), .val (.long q2), .second, .val (.int p3), .val (.long v), .second, .val (.int i), .val (.long x), .second] [(.int i)])) t
          refine XS.ifNo XL.here hx rfl (hb hby d3_10) rfl (XT.i0_lt_f (show ¬ (i < (0 : Int32)) from own_pos hi)) ?_
          show Steps p.tables e below (TL.setTop (mkF m 13 #[.val (.ref a1), .val (.long q2), .second, .val (.int p3), .val (.long v), .second, .val (.int i), .val (.long x), .second] [])) t
          refine XT.lloadN XL.here hx rfl (hb hby d3_13) rfl ?_
          show Steps p.tables e below (TL.setTop (mkF m 14 #[.val (.ref a1), .val (.long q2), .second, .val (.int p3), .val (.long v), .second, .val (.int i), .val (.long x), .second] [(.long q2)])) t
          refine XS.iload XL.here hx rfl (hb hby d3_14) rfl ?_
          show Steps p.tables e below (TL.setTop (mkF m 16 #[.val (.ref a1), .val (.long q2), .second, .val (.int p3), .val (.long v), .second, .val (.int i), .val (.long x), .second] [(.int i), (.long q2)])) t
          refine XT.i2l XL.here hx rfl (hb hby d3_16) rfl ?_
          show Steps p.tables e below (TL.setTop (mkF m 17 #[.val (.ref a1), .val (.long q2), .second, .val (.int p3), .val (.long v), .second, .val (.int i), .val (.long x), .second] [(.long i.toInt64), (.long q2)])) t
          refine XT.ladd XL.here hx rfl (hb hby d3_17) rfl ?_
          show Steps p.tables e below (TL.setTop (mkF m 18 #[.val (.ref a1), .val (.long q2), .second, .val (.int p3), .val (.long v), .second, .val (.int i), .val (.long x), .second] [(.long (q2 + i.toInt64))])) t
          refine XT.lstore XL.here hx rfl (hb hby d3_18) rfl (l' := #[.val (.ref a1), .val (.long q2), .second, .val (.int p3), .val (.long v), .second, .val (.int i), .val (.long (q2 + i.toInt64)), .second]) rfl ?_
          show Steps p.tables e below (TL.setTop (mkF m 20 #[.val (.ref a1), .val (.long q2), .second, .val (.int p3), .val (.long v), .second, .val (.int i), .val (.long (q2 + i.toInt64)), .second] [])) t
          refine XT.lload XL.here hx rfl (hb hby d3_20) rfl ?_
          show Steps p.tables e below (TL.setTop (mkF m 22 #[.val (.ref a1), .val (.long q2), .second, .val (.int p3), .val (.long v), .second, .val (.int i), .val (.long (q2 + i.toInt64)), .second] [(.long v)])) t
          refine XS.bipush XL.here hx rfl (hb hby d3_22) ?_
          show Steps p.tables e below (TL.setTop (mkF m 24 #[.val (.ref a1), .val (.long q2), .second, .val (.int p3), .val (.long v), .second, .val (.int i), .val (.long (q2 + i.toInt64)), .second] [(.int (8 : Int32)), (.long v)])) t
          refine XT.lshl XL.here hx rfl (hb hby d3_24) rfl ?_
          show Steps p.tables e below (TL.setTop (mkF m 25 #[.val (.ref a1), .val (.long q2), .second, .val (.int p3), .val (.long v), .second, .val (.int i), .val (.long (q2 + i.toInt64)), .second] [(.long (v <<< ((8 : Int32).toInt64 &&& 63)))])) t
          refine XT.lload XL.here hx rfl (hb hby d3_25) rfl ?_
          show Steps p.tables e below (TL.setTop (mkF m 27 #[.val (.ref a1), .val (.long q2), .second, .val (.int p3), .val (.long v), .second, .val (.int i), .val (.long (q2 + i.toInt64)), .second] [(.long (q2 + i.toInt64)), (.long (v <<< ((8 : Int32).toInt64 &&& 63)))])) t
          refine XS.aloadN XL.here hx rfl (hb hby d3_27) rfl rfl ?_
          show Steps p.tables e below (TL.setTop (mkF m 28 #[.val (.ref a1), .val (.long q2), .second, .val (.int p3), .val (.long v), .second, .val (.int i), .val (.long (q2 + i.toInt64)), .second] [(.ref a1), (.long (q2 + i.toInt64)), (.long (v <<< ((8 : Int32).toInt64 &&& 63)))])) t
          exact k)
        obtain ⟨T19, X19, eh19, st19⟩ := getF XL hx hZ hown (host := "") (Or.inl (hw _ (List.mem_of_getElem? (i := 34) rfl))) Via.refl eL F_initial_a1 (g := (mkF m 28 #[.val (.ref a1), .val (.long q2), .second, .val (.int p3), .val (.long v), .second, .val (.int i), .val (.long (q2 + i.toInt64)), .second] [(.ref a1), (.long (q2 + i.toInt64)), (.long (v <<< ((8 : Int32).toInt64 &&& 63)))])) rfl rfl (hb hby d3_28)
        have pre20 : ∀ t, Steps p.tables e below (T19.setTop (mkF m 31 #[.val (.ref a1), .val (.long q2), .second, .val (.int p3), .val (.long v), .second, .val (.int i), .val (.long (q2 + i.toInt64)), .second] [(.ref ar), (.long (q2 + i.toInt64)), (.long (v <<< ((8 : Int32).toInt64 &&& 63)))])) t → Steps p.tables e below (TL.setTop (mkF m 8 #[.val (.ref a1), .val (.long q2), .second, .val (.int p3), .val (.long v), .second, .val (.int i), .val (.long x), .second] [])) t := fun t k => pre18 t (st19 _ k)
        have pre22 : ∀ t, Steps p.tables e below (T19.setTop (mkF m 34 #[.val (.ref a1), .val (.long q2), .second, .val (.int p3), .val (.long v), .second, .val (.int i), .val (.long (q2 + i.toInt64)), .second] [(.int (XT.cmpL (q2 + i.toInt64) (5 : Int32).toInt64)), (.long (v <<< ((8 : Int32).toInt64 &&& 63)))])) t → Steps p.tables e below (TL.setTop (mkF m 8 #[.val (.ref a1), .val (.long q2), .second, .val (.int p3), .val (.long v), .second, .val (.int i), .val (.long x), .second] [])) t := fun t k => pre20 t (by
          show Steps p.tables e below (T19.setTop (mkF m 31 #[.val (.ref a1), .val (.long q2), .second, .val (.int p3), .val (.long v), .second, .val (.int i), .val (.long (q2 + i.toInt64)), .second] [(.ref ar), (.long (q2 + i.toInt64)), (.long (v <<< ((8 : Int32).toInt64 &&& 63)))])) t
          refine own_alen X19 hx hZ eh19 V_ar (g := (mkF m 31 #[.val (.ref a1), .val (.long q2), .second, .val (.int p3), .val (.long v), .second, .val (.int i), .val (.long (q2 + i.toInt64)), .second] [(.ref ar), (.long (q2 + i.toInt64)), (.long (v <<< ((8 : Int32).toInt64 &&& 63)))])) rfl rfl (hb hby d3_31) _ ?_
          show Steps p.tables e below (T19.setTop (mkF m 32 #[.val (.ref a1), .val (.long q2), .second, .val (.int p3), .val (.long v), .second, .val (.int i), .val (.long (q2 + i.toInt64)), .second] [(.int (5 : Int32)), (.long (q2 + i.toInt64)), (.long (v <<< ((8 : Int32).toInt64 &&& 63)))])) t
          refine XT.i2l X19.here hx rfl (hb hby d3_32) rfl ?_
          show Steps p.tables e below (T19.setTop (mkF m 33 #[.val (.ref a1), .val (.long q2), .second, .val (.int p3), .val (.long v), .second, .val (.int i), .val (.long (q2 + i.toInt64)), .second] [(.long (5 : Int32).toInt64), (.long (q2 + i.toInt64)), (.long (v <<< ((8 : Int32).toInt64 &&& 63)))])) t
          refine XT.lcmp X19.here hx rfl (hb hby d3_33) rfl ?_
          show Steps p.tables e below (T19.setTop (mkF m 34 #[.val (.ref a1), .val (.long q2), .second, .val (.int p3), .val (.long v), .second, .val (.int i), .val (.long (q2 + i.toInt64)), .second] [(.int (XT.cmpL (q2 + i.toInt64) (5 : Int32).toInt64)), (.long (v <<< ((8 : Int32).toInt64 &&& 63)))])) t
          exact k)
        by_cases hc34_21 : (q2 + i.toInt64) < (5 : Int32).toInt64
        · skip
          have pre23 : ∀ t, Steps p.tables e below (T19.setTop (mkF m 38 #[.val (.ref a1), .val (.long q2), .second, .val (.int p3), .val (.long v), .second, .val (.int i), .val (.long (q2 + i.toInt64)), .second] [(.ref a1), (.long (v <<< ((8 : Int32).toInt64 &&& 63)))])) t → Steps p.tables e below (TL.setTop (mkF m 8 #[.val (.ref a1), .val (.long q2), .second, .val (.int p3), .val (.long v), .second, .val (.int i), .val (.long x), .second] [])) t := fun t k => pre22 t (by
            show Steps p.tables e below (T19.setTop (mkF m 34 #[.val (.ref a1), .val (.long q2), .second, .val (.int p3), .val (.long v), .second, .val (.int i), .val (.long (q2 + i.toInt64)), .second] [(.int (XT.cmpL (q2 + i.toInt64) (5 : Int32).toInt64)), (.long (v <<< ((8 : Int32).toInt64 &&& 63)))])) t
            refine XS.ifNo X19.here hx rfl (hb hby d3_34) rfl (XT.ll_ge_f hc34_21) ?_
            show Steps p.tables e below (T19.setTop (mkF m 37 #[.val (.ref a1), .val (.long q2), .second, .val (.int p3), .val (.long v), .second, .val (.int i), .val (.long (q2 + i.toInt64)), .second] [(.long (v <<< ((8 : Int32).toInt64 &&& 63)))])) t
            refine XS.aloadN X19.here hx rfl (hb hby d3_37) rfl rfl ?_
            show Steps p.tables e below (T19.setTop (mkF m 38 #[.val (.ref a1), .val (.long q2), .second, .val (.int p3), .val (.long v), .second, .val (.int i), .val (.long (q2 + i.toInt64)), .second] [(.ref a1), (.long (v <<< ((8 : Int32).toInt64 &&& 63)))])) t
            exact k)
          obtain ⟨T24, X24, eh24, st24⟩ := getF X19 hx hZ hown (host := "") (Or.inl (hw _ (List.mem_of_getElem? (i := 34) rfl))) Via.refl eh19 F_initial_a1 (g := (mkF m 38 #[.val (.ref a1), .val (.long q2), .second, .val (.int p3), .val (.long v), .second, .val (.int i), .val (.long (q2 + i.toInt64)), .second] [(.ref a1), (.long (v <<< ((8 : Int32).toInt64 &&& 63)))])) rfl rfl (hb hby d3_38)
          have pre25 : ∀ t, Steps p.tables e below (T24.setTop (mkF m 41 #[.val (.ref a1), .val (.long q2), .second, .val (.int p3), .val (.long v), .second, .val (.int i), .val (.long (q2 + i.toInt64)), .second] [(.ref ar), (.long (v <<< ((8 : Int32).toInt64 &&& 63)))])) t → Steps p.tables e below (TL.setTop (mkF m 8 #[.val (.ref a1), .val (.long q2), .second, .val (.int p3), .val (.long v), .second, .val (.int i), .val (.long x), .second] [])) t := fun t k => pre23 t (st24 _ k)
          have pre26 : ∀ t, Steps p.tables e below (T24.setTop (mkF m 8 #[.val (.ref a1), .val (.long q2), .second, .val (.int p3), .val (.long ((v <<< ((8 : Int32).toInt64 &&& 63)) ||| ((own_pick e0 e1 e2 e3 e4 (q2 + i.toInt64).toInt32) &&& (255 : Int32)).toInt64)), .second, .val (.int (i + (-1 : Int32))), .val (.long (q2 + i.toInt64)), .second] [])) t → Steps p.tables e below (TL.setTop (mkF m 8 #[.val (.ref a1), .val (.long q2), .second, .val (.int p3), .val (.long v), .second, .val (.int i), .val (.long x), .second] [])) t := fun t k => pre25 t (by
            show Steps p.tables e below (T24.setTop (mkF m 41 #[.val (.ref a1), .val (.long q2), .second, .val (.int p3), .val (.long v), .second, .val (.int i), .val (.long (q2 + i.toInt64)), .second] [(.ref ar), (.long (v <<< ((8 : Int32).toInt64 &&& 63)))])) t
            refine XT.lload X24.here hx rfl (hb hby d3_41) rfl ?_
            show Steps p.tables e below (T24.setTop (mkF m 43 #[.val (.ref a1), .val (.long q2), .second, .val (.int p3), .val (.long v), .second, .val (.int i), .val (.long (q2 + i.toInt64)), .second] [(.long (q2 + i.toInt64)), (.ref ar), (.long (v <<< ((8 : Int32).toInt64 &&& 63)))])) t
            refine XT.l2i X24.here hx rfl (hb hby d3_43) rfl ?_
            show Steps p.tables e below (T24.setTop (mkF m 44 #[.val (.ref a1), .val (.long q2), .second, .val (.int p3), .val (.long v), .second, .val (.int i), .val (.long (q2 + i.toInt64)), .second] [(.int (q2 + i.toInt64).toInt32), (.ref ar), (.long (v <<< ((8 : Int32).toInt64 &&& 63)))])) t
            refine own_baload X24 hx hZ eh24 V_ar (j := (q2 + i.toInt64).toInt32) (v := (.int (own_pick e0 e1 e2 e3 e4 (q2 + i.toInt64).toInt32))) (own_inb' ho hi hn (by assumption)) (own_get e0 e1 e2 e3 e4 (own_inb' ho hi hn (by assumption))) (g := (mkF m 44 #[.val (.ref a1), .val (.long q2), .second, .val (.int p3), .val (.long v), .second, .val (.int i), .val (.long (q2 + i.toInt64)), .second] [(.int (q2 + i.toInt64).toInt32), (.ref ar), (.long (v <<< ((8 : Int32).toInt64 &&& 63)))])) rfl rfl (hb hby d3_44) _ ?_
            show Steps p.tables e below (T24.setTop (mkF m 45 #[.val (.ref a1), .val (.long q2), .second, .val (.int p3), .val (.long v), .second, .val (.int i), .val (.long (q2 + i.toInt64)), .second] [(.int (own_pick e0 e1 e2 e3 e4 (q2 + i.toInt64).toInt32)), (.long (v <<< ((8 : Int32).toInt64 &&& 63)))])) t
            refine XS.sipush X24.here hx rfl (hb hby d3_45) ?_
            show Steps p.tables e below (T24.setTop (mkF m 48 #[.val (.ref a1), .val (.long q2), .second, .val (.int p3), .val (.long v), .second, .val (.int i), .val (.long (q2 + i.toInt64)), .second] [(.int (255 : Int32)), (.int (own_pick e0 e1 e2 e3 e4 (q2 + i.toInt64).toInt32)), (.long (v <<< ((8 : Int32).toInt64 &&& 63)))])) t
            refine XS.iand X24.here hx rfl (hb hby d3_48) rfl ?_
            show Steps p.tables e below (T24.setTop (mkF m 49 #[.val (.ref a1), .val (.long q2), .second, .val (.int p3), .val (.long v), .second, .val (.int i), .val (.long (q2 + i.toInt64)), .second] [(.int ((own_pick e0 e1 e2 e3 e4 (q2 + i.toInt64).toInt32) &&& (255 : Int32))), (.long (v <<< ((8 : Int32).toInt64 &&& 63)))])) t
            refine XS.goto X24.here hx rfl (pc0 := 49) (pc' := 53) rfl (hb hby d3_49) (by decide) (by decide) ?_
            show Steps p.tables e below (T24.setTop (mkF m 53 #[.val (.ref a1), .val (.long q2), .second, .val (.int p3), .val (.long v), .second, .val (.int i), .val (.long (q2 + i.toInt64)), .second] [(.int ((own_pick e0 e1 e2 e3 e4 (q2 + i.toInt64).toInt32) &&& (255 : Int32))), (.long (v <<< ((8 : Int32).toInt64 &&& 63)))])) t
            refine XT.i2l X24.here hx rfl (hb hby d3_53) rfl ?_
            show Steps p.tables e below (T24.setTop (mkF m 54 #[.val (.ref a1), .val (.long q2), .second, .val (.int p3), .val (.long v), .second, .val (.int i), .val (.long (q2 + i.toInt64)), .second] [(.long ((own_pick e0 e1 e2 e3 e4 (q2 + i.toInt64).toInt32) &&& (255 : Int32)).toInt64), (.long (v <<< ((8 : Int32).toInt64 &&& 63)))])) t
            refine XT.lor X24.here hx rfl (hb hby d3_54) rfl ?_
            show Steps p.tables e below (T24.setTop (mkF m 55 #[.val (.ref a1), .val (.long q2), .second, .val (.int p3), .val (.long v), .second, .val (.int i), .val (.long (q2 + i.toInt64)), .second] [(.long ((v <<< ((8 : Int32).toInt64 &&& 63)) ||| ((own_pick e0 e1 e2 e3 e4 (q2 + i.toInt64).toInt32) &&& (255 : Int32)).toInt64))])) t
            refine XT.lstore X24.here hx rfl (hb hby d3_55) rfl (l' := #[.val (.ref a1), .val (.long q2), .second, .val (.int p3), .val (.long ((v <<< ((8 : Int32).toInt64 &&& 63)) ||| ((own_pick e0 e1 e2 e3 e4 (q2 + i.toInt64).toInt32) &&& (255 : Int32)).toInt64)), .second, .val (.int i), .val (.long (q2 + i.toInt64)), .second]) rfl ?_
            show Steps p.tables e below (T24.setTop (mkF m 57 #[.val (.ref a1), .val (.long q2), .second, .val (.int p3), .val (.long ((v <<< ((8 : Int32).toInt64 &&& 63)) ||| ((own_pick e0 e1 e2 e3 e4 (q2 + i.toInt64).toInt32) &&& (255 : Int32)).toInt64)), .second, .val (.int i), .val (.long (q2 + i.toInt64)), .second] [])) t
            refine XS.iinc X24.here hx rfl (hb hby d3_57) rfl (l' := #[.val (.ref a1), .val (.long q2), .second, .val (.int p3), .val (.long ((v <<< ((8 : Int32).toInt64 &&& 63)) ||| ((own_pick e0 e1 e2 e3 e4 (q2 + i.toInt64).toInt32) &&& (255 : Int32)).toInt64)), .second, .val (.int (i + (-1 : Int32))), .val (.long (q2 + i.toInt64)), .second]) rfl ?_
            show Steps p.tables e below (T24.setTop (mkF m 60 #[.val (.ref a1), .val (.long q2), .second, .val (.int p3), .val (.long ((v <<< ((8 : Int32).toInt64 &&& 63)) ||| ((own_pick e0 e1 e2 e3 e4 (q2 + i.toInt64).toInt32) &&& (255 : Int32)).toInt64)), .second, .val (.int (i + (-1 : Int32))), .val (.long (q2 + i.toInt64)), .second] [])) t
            refine XS.goto X24.here hx rfl (pc0 := 60) (pc' := 8) rfl (hb hby d3_60) (by decide) (by decide) ?_
            show Steps p.tables e below (T24.setTop (mkF m 8 #[.val (.ref a1), .val (.long q2), .second, .val (.int p3), .val (.long ((v <<< ((8 : Int32).toInt64 &&& 63)) ||| ((own_pick e0 e1 e2 e3 e4 (q2 + i.toInt64).toInt32) &&& (255 : Int32)).toInt64)), .second, .val (.int (i + (-1 : Int32))), .val (.long (q2 + i.toInt64)), .second] [])) t
            exact k)
          have eq27 : (own_iv e0 e1 e2 e3 e4 q2 (n + 1) v) = (own_iv e0 e1 e2 e3 e4 q2 n ((v <<< ((8 : Int32).toInt64 &&& 63)) ||| ((own_pick e0 e1 e2 e3 e4 (q2 + i.toInt64).toInt32) &&& (255 : Int32)).toInt64)) := by rw [own_iv_s, ← own_is hi hn]; simp only [own_byte, if_pos hc34_21]
          obtain ⟨T', i', A', B', X', e', st27⟩ := ih T24 _ _ _ _ (Or.inr ⟨_, rfl, rfl⟩) X24 eh24 (own_dec hi hn) (by omega)
          exact ⟨T', i', A', B', X', e', fun t q => pre26 t (st27 t (by rw [eq27] at q; exact q))⟩
        · skip
          have pre28 : ∀ t, Steps p.tables e below (T19.setTop (mkF m 8 #[.val (.ref a1), .val (.long q2), .second, .val (.int p3), .val (.long ((v <<< ((8 : Int32).toInt64 &&& 63)) ||| (0 : Int32).toInt64)), .second, .val (.int (i + (-1 : Int32))), .val (.long (q2 + i.toInt64)), .second] [])) t → Steps p.tables e below (TL.setTop (mkF m 8 #[.val (.ref a1), .val (.long q2), .second, .val (.int p3), .val (.long v), .second, .val (.int i), .val (.long x), .second] [])) t := fun t k => pre22 t (by
            show Steps p.tables e below (T19.setTop (mkF m 34 #[.val (.ref a1), .val (.long q2), .second, .val (.int p3), .val (.long v), .second, .val (.int i), .val (.long (q2 + i.toInt64)), .second] [(.int (XT.cmpL (q2 + i.toInt64) (5 : Int32).toInt64)), (.long (v <<< ((8 : Int32).toInt64 &&& 63)))])) t
            refine XS.ifYes X19.here hx rfl (pc0 := 34) (pc' := 52) rfl (hb hby d3_34) rfl (XT.ll_ge_t hc34_21) (by decide) (by decide) ?_
            show Steps p.tables e below (T19.setTop (mkF m 52 #[.val (.ref a1), .val (.long q2), .second, .val (.int p3), .val (.long v), .second, .val (.int i), .val (.long (q2 + i.toInt64)), .second] [(.long (v <<< ((8 : Int32).toInt64 &&& 63)))])) t
            refine XS.iconst X19.here hx rfl (hb hby d3_52) ?_
            show Steps p.tables e below (T19.setTop (mkF m 53 #[.val (.ref a1), .val (.long q2), .second, .val (.int p3), .val (.long v), .second, .val (.int i), .val (.long (q2 + i.toInt64)), .second] [(.int (0 : Int32)), (.long (v <<< ((8 : Int32).toInt64 &&& 63)))])) t
            refine XT.i2l X19.here hx rfl (hb hby d3_53) rfl ?_
            show Steps p.tables e below (T19.setTop (mkF m 54 #[.val (.ref a1), .val (.long q2), .second, .val (.int p3), .val (.long v), .second, .val (.int i), .val (.long (q2 + i.toInt64)), .second] [(.long (0 : Int32).toInt64), (.long (v <<< ((8 : Int32).toInt64 &&& 63)))])) t
            refine XT.lor X19.here hx rfl (hb hby d3_54) rfl ?_
            show Steps p.tables e below (T19.setTop (mkF m 55 #[.val (.ref a1), .val (.long q2), .second, .val (.int p3), .val (.long v), .second, .val (.int i), .val (.long (q2 + i.toInt64)), .second] [(.long ((v <<< ((8 : Int32).toInt64 &&& 63)) ||| (0 : Int32).toInt64))])) t
            refine XT.lstore X19.here hx rfl (hb hby d3_55) rfl (l' := #[.val (.ref a1), .val (.long q2), .second, .val (.int p3), .val (.long ((v <<< ((8 : Int32).toInt64 &&& 63)) ||| (0 : Int32).toInt64)), .second, .val (.int i), .val (.long (q2 + i.toInt64)), .second]) rfl ?_
            show Steps p.tables e below (T19.setTop (mkF m 57 #[.val (.ref a1), .val (.long q2), .second, .val (.int p3), .val (.long ((v <<< ((8 : Int32).toInt64 &&& 63)) ||| (0 : Int32).toInt64)), .second, .val (.int i), .val (.long (q2 + i.toInt64)), .second] [])) t
            refine XS.iinc X19.here hx rfl (hb hby d3_57) rfl (l' := #[.val (.ref a1), .val (.long q2), .second, .val (.int p3), .val (.long ((v <<< ((8 : Int32).toInt64 &&& 63)) ||| (0 : Int32).toInt64)), .second, .val (.int (i + (-1 : Int32))), .val (.long (q2 + i.toInt64)), .second]) rfl ?_
            show Steps p.tables e below (T19.setTop (mkF m 60 #[.val (.ref a1), .val (.long q2), .second, .val (.int p3), .val (.long ((v <<< ((8 : Int32).toInt64 &&& 63)) ||| (0 : Int32).toInt64)), .second, .val (.int (i + (-1 : Int32))), .val (.long (q2 + i.toInt64)), .second] [])) t
            refine XS.goto X19.here hx rfl (pc0 := 60) (pc' := 8) rfl (hb hby d3_60) (by decide) (by decide) ?_
            show Steps p.tables e below (T19.setTop (mkF m 8 #[.val (.ref a1), .val (.long q2), .second, .val (.int p3), .val (.long ((v <<< ((8 : Int32).toInt64 &&& 63)) ||| (0 : Int32).toInt64)), .second, .val (.int (i + (-1 : Int32))), .val (.long (q2 + i.toInt64)), .second] [])) t
            exact k)
          have eq29 : (own_iv e0 e1 e2 e3 e4 q2 (n + 1) v) = (own_iv e0 e1 e2 e3 e4 q2 n ((v <<< ((8 : Int32).toInt64 &&& 63)) ||| (0 : Int32).toInt64)) := by rw [own_iv_s, ← own_is hi hn]; simp only [own_byte, if_neg hc34_21]
          obtain ⟨T', i', A', B', X', e', st29⟩ := ih T19 _ _ _ _ (Or.inr ⟨_, rfl, rfl⟩) X19 eh19 (own_dec hi hn) (by omega)
          exact ⟨T', i', A', B', X', e', fun t q => pre28 t (st29 t (by rw [eq29] at q; exact q))⟩
  obtain ⟨TE, i', A', B', XE, eE, stL⟩ := loop p3.toInt.toNat s₁ (0 : Int64) (p3 - (1 : Int32)) .unset .unset (Or.inl ⟨rfl, rfl⟩) X0 eh0 (own_first hbt) (by omega)
  have preE : ∀ t, Steps p.tables e below (TE.setTop (mkF m 63 #[.val (.ref a1), .val (.long q2), .second, .val (.int p3), .val (.long (own_iv e0 e1 e2 e3 e4 q2 p3.toInt.toNat (0 : Int64))), .second, .val (.int i'), A', B'] [])) t → Steps p.tables e below (s₁.setTop (entryFrame m #[(.ref a1), (.long q2), (.int p3)] 9)) t := fun t k => pre1 t (stL t k)
  have pre30 : ∀ t, Steps p.tables e below (TE.setTop (mkF m 65 #[.val (.ref a1), .val (.long q2), .second, .val (.int p3), .val (.long (own_iv e0 e1 e2 e3 e4 q2 p3.toInt.toNat (0 : Int64))), .second, .val (.int i'), A', B'] [(.long (own_iv e0 e1 e2 e3 e4 q2 p3.toInt.toNat (0 : Int64)))])) t → Steps p.tables e below (s₁.setTop (entryFrame m #[(.ref a1), (.long q2), (.int p3)] 9)) t := fun t k => preE t (by
    show Steps p.tables e below (TE.setTop (mkF m 63 #[.val (.ref a1), .val (.long q2), .second, .val (.int p3), .val (.long (own_iv e0 e1 e2 e3 e4 q2 p3.toInt.toNat (0 : Int64))), .second, .val (.int i'), A', B'] [])) t
    refine XT.lload XE.here hx rfl (hb hby d3_63) rfl ?_
    show Steps p.tables e below (TE.setTop (mkF m 65 #[.val (.ref a1), .val (.long q2), .second, .val (.int p3), .val (.long (own_iv e0 e1 e2 e3 e4 q2 p3.toInt.toNat (0 : Int64))), .second, .val (.int i'), A', B'] [(.long (own_iv e0 e1 e2 e3 e4 q2 p3.toInt.toNat (0 : Int64)))])) t
    exact k)
  obtain ⟨fs, hr, hrun, hended, hW, hsame⟩ := XE.leave (v := some (.long (own_iv e0 e1 e2 e3 e4 q2 p3.toInt.toNat (0 : Int64)))) (fun h => by rw [Bd.returns] at h; cases h)
  refine ⟨_, _, pre30 _ ?_, hrun, hended, _, _, rfl, ?_, ⟨_, rfl⟩, hW, hsame.mono (by decide) (by decide)⟩
  · show Steps p.tables e below (TE.setTop (mkF m 65 #[.val (.ref a1), .val (.long q2), .second, .val (.int p3), .val (.long (own_iv e0 e1 e2 e3 e4 q2 p3.toInt.toNat (0 : Int64))), .second, .val (.int i'), A', B'] [(.long (own_iv e0 e1 e2 e3 e4 q2 p3.toInt.toNat (0 : Int64)))])) _
    exact XE.lreturnOut hx Bd.returns (hb hby d3_65) hr
  · show Q3 Z a1 q2 p3 ar kk e0 e1 e2 e3 e4 h0 n0 _ TE.heap _
    rw [eE]
    exact ⟨rfl, N0, rfl⟩
theorem ef_0 (m : MethodId) (q1 : Int64) (q2 : Int64) (p3 : Int32) : entryFrame m #[(.long q1), (.long q2), (.int p3)] maxLocals = mkF m 0 #[.val (.long q1), .second, .val (.long q2), .second, .val (.int p3), .unset, .unset, .unset, .unset, .unset, .unset, .unset, .unset, .unset] [] := by first | (simp [entryFrame, mkF, argsToLocals, Value.category, maxLocals]; done) | rfl
theorem pd_oLjava_lang_String_JJaBZZcV : parseMethodDescriptor "(Ljava/lang/String;JJ[BZZ)V" = some ⟨[(.object "java/lang/String"), .long, .long, (.array .byte), .boolean, .boolean], none⟩ := by decide +kernel
theorem pd_oJIcJ : parseMethodDescriptor "(JI)J" = some ⟨[.long, .int], some .long⟩ := by decide +kernel
theorem pd_oJJIIcJ : parseMethodDescriptor "(JJII)J" = some ⟨[.long, .long, .int, .int], some .long⟩ := by decide +kernel
def Q0 (Z : State) (q1 : Int64) (q2 : Int64) (p3 : Int32) (h0 : Heap) (n0 : Nat) (v : Option Value) (h : Heap) (L : List Loc) : Prop := v = some (.int (1 : Int32)) ∧ Fr n0 L
set_option maxRecDepth 65536 in
set_option maxHeartbeats 40000000 in
theorem rm0 (l : Launch) (Z : State) (a0 : Array Value) (hw : ∀ d ∈ tables_1, d.before a0 Z = true) (ws : List Jvm.Cond) (q1 : Int64) (q2 : Int64) (p3 : Int32) (h0 : Heap) (n0 : Nat) (Z0 : n0 ≤ h0.size) :
    MetFree l x (head1 (Jvm.Cond.code x code maxLocals ret :: ws) room_1) (fun a U => a = #[(.long q1), (.long q2), (.int p3)] ∧ Z.Warmed39 U.vm ∧ U.heap = h0) (fun _ _ _ _ _ => True) (fun _ U o U' => ∃ v L, o = .returned v ∧ Q0 Z q1 q2 p3 h0 n0 v U'.heap L ∧ ReturnedEndW U o U' L room_1.cells room_1.slots) := by
  refine MetFree.of_bodySF (plainFor_of_name pn_com_example_decant_decant_decompiler_ir_GlobalInitialValuePinLaw) hisR ?_
  intro p e s m args below meth c s₁ Bd hml0 hP hK
  obtain ⟨rfl, hZ, hh⟩ := hP
  have hx := Bd.exec
  have hby := Bd.bytes
  have hml : c.maxLocals = 14 := hml0
  have hown : s.vm.findClass "com/example/decant/decant/decompiler/ir/GlobalInitialValuePinLaw" = some m.cls := findClass_of_methodNamed Bd.named
  have hnm := (name_of_methodNamed Bd.named Bd.method).1
  have X0 : Stand p l e room_1 s m #[(.long q1), (.long q2), (.int p3)] below meth c s₁ [] 0 0 := Stand.of_body Bd
  have eh0 : s₁.heap = h0 := by rw [← hh, Bd.state]; rfl
  have N0 := Fr.nil n0
  have pre0 : ∀ t, Steps p.tables e below (s₁.setTop (mkF m 0 #[.val (.long q1), .second, .val (.long q2), .second, .val (.int p3), .unset, .unset, .unset, .unset, .unset, .unset, .unset, .unset, .unset] [])) t → Steps p.tables e below (s₁.setTop (entryFrame m #[(.long q1), (.long q2), (.int p3)] maxLocals)) t := fun t k => castTop (ef_0 m q1 q2 p3) k
  have pre1 : ∀ t, Steps p.tables e below (s₁.setTop (mkF m 1 #[.val (.long q1), .second, .val (.long q2), .second, .val (.int p3), .unset, .unset, .unset, .unset, .unset, .unset, .unset, .unset, .unset] [(.int (5 : Int32))])) t → Steps p.tables e below (s₁.setTop (entryFrame m #[(.long q1), (.long q2), (.int p3)] maxLocals)) t := fun t k => pre0 t (by
    show Steps p.tables e below (s₁.setTop (mkF m 0 #[.val (.long q1), .second, .val (.long q2), .second, .val (.int p3), .unset, .unset, .unset, .unset, .unset, .unset, .unset, .unset, .unset] [])) t
    refine XS.iconst X0.here hx rfl (hb hby at_0) ?_
    show Steps p.tables e below (s₁.setTop (mkF m 1 #[.val (.long q1), .second, .val (.long q2), .second, .val (.int p3), .unset, .unset, .unset, .unset, .unset, .unset, .unset, .unset, .unset] [(.int (5 : Int32))])) t
    exact k)
  obtain ⟨T2, h2, k2, X2, eh2, E2, A2, Ex2, st2⟩ := newPE X0 hx hZ (hw _ (List.mem_of_getElem? (i := 0) rfl)) eh0 (g := (mkF m 1 #[.val (.long q1), .second, .val (.long q2), .second, .val (.int p3), .unset, .unset, .unset, .unset, .unset, .unset, .unset, .unset, .unset] [(.int (5 : Int32))])) rfl (hb hby at_1) rfl (by decide) (cap := 5) (by decide) (by decide) (by decide) (by decide) (ad := "[B") rfl
  obtain ⟨b2, gg2⟩ : ∃ z, z = h0.size := ⟨_, rfl⟩
  rw [← gg2] at A2 st2 Ex2
  have sz2 : n0 ≤ h2.size := Nat.le_trans Z0 E2.1
  have g_b2 : n0 ≤ b2 := Nat.le_trans Z0 (Nat.le_of_eq gg2.symm)
  have V_b2 : Arv Z h2 b2 k2 .byte (5 : Int32) [(.int (0 : Int32)), (.int (0 : Int32)), (.int (0 : Int32)), (.int (0 : Int32)), (.int (0 : Int32))] (.int (0 : Int32)) := (Arv.new A2 (by decide)).pad (pad_rep [] (.int (0 : Int32)) 5)
  have pre3 : ∀ t, Steps p.tables e below (T2.setTop (mkF m 3 #[.val (.long q1), .second, .val (.long q2), .second, .val (.int p3), .unset, .unset, .unset, .unset, .unset, .unset, .unset, .unset, .unset] [(.ref b2)])) t → Steps p.tables e below (s₁.setTop (entryFrame m #[(.long q1), (.long q2), (.int p3)] maxLocals)) t := fun t k => pre1 t (st2 _ k)
  have pre4 : ∀ t, Steps p.tables e below (T2.setTop (mkF m 11 #[.val (.long q1), .second, .val (.long q2), .second, .val (.int p3), .val (.ref b2), .unset, .unset, .unset, .unset, .unset, .unset, .unset, .unset] [(.int q1.toInt32.toInt8.toInt32), (.int (0 : Int32)), (.ref b2)])) t → Steps p.tables e below (s₁.setTop (entryFrame m #[(.long q1), (.long q2), (.int p3)] maxLocals)) t := fun t k => pre3 t (by
    show Steps p.tables e below (T2.setTop (mkF m 3 #[.val (.long q1), .second, .val (.long q2), .second, .val (.int p3), .unset, .unset, .unset, .unset, .unset, .unset, .unset, .unset, .unset] [(.ref b2)])) t
    refine XS.astore X2.here hx rfl (hb hby at_3) rfl rfl (l' := #[.val (.long q1), .second, .val (.long q2), .second, .val (.int p3), .val (.ref b2), .unset, .unset, .unset, .unset, .unset, .unset, .unset, .unset]) rfl ?_
    show Steps p.tables e below (T2.setTop (mkF m 5 #[.val (.long q1), .second, .val (.long q2), .second, .val (.int p3), .val (.ref b2), .unset, .unset, .unset, .unset, .unset, .unset, .unset, .unset] [])) t
    refine XS.aload X2.here hx rfl (hb hby at_5) rfl rfl ?_
    show Steps p.tables e below (T2.setTop (mkF m 7 #[.val (.long q1), .second, .val (.long q2), .second, .val (.int p3), .val (.ref b2), .unset, .unset, .unset, .unset, .unset, .unset, .unset, .unset] [(.ref b2)])) t
    refine XS.iconst X2.here hx rfl (hb hby at_7) ?_
    show Steps p.tables e below (T2.setTop (mkF m 8 #[.val (.long q1), .second, .val (.long q2), .second, .val (.int p3), .val (.ref b2), .unset, .unset, .unset, .unset, .unset, .unset, .unset, .unset] [(.int (0 : Int32)), (.ref b2)])) t
    refine XT.lloadN X2.here hx rfl (hb hby at_8) rfl ?_
    show Steps p.tables e below (T2.setTop (mkF m 9 #[.val (.long q1), .second, .val (.long q2), .second, .val (.int p3), .val (.ref b2), .unset, .unset, .unset, .unset, .unset, .unset, .unset, .unset] [(.long q1), (.int (0 : Int32)), (.ref b2)])) t
    refine XT.l2i X2.here hx rfl (hb hby at_9) rfl ?_
    show Steps p.tables e below (T2.setTop (mkF m 10 #[.val (.long q1), .second, .val (.long q2), .second, .val (.int p3), .val (.ref b2), .unset, .unset, .unset, .unset, .unset, .unset, .unset, .unset] [(.int q1.toInt32), (.int (0 : Int32)), (.ref b2)])) t
    refine XT.i2b X2.here hx rfl (hb hby at_10) rfl ?_
    show Steps p.tables e below (T2.setTop (mkF m 11 #[.val (.long q1), .second, .val (.long q2), .second, .val (.int p3), .val (.ref b2), .unset, .unset, .unset, .unset, .unset, .unset, .unset, .unset] [(.int q1.toInt32.toInt8.toInt32), (.int (0 : Int32)), (.ref b2)])) t
    exact k)
  obtain ⟨cl5, Ar5, q5, S5, N5q, H5, G5⟩ := V_b2
  have hin5 : ¬ ((0 : Int32) < 0 ∨ cl5.slots.size ≤ ((0 : Int32)).toNatClampNeg) := inb_of S5 ⟨by decide, by decide⟩
  obtain ⟨T5, h5, X5, eh5, W5, st5⟩ := stB X2 hx hZ eh2 Ar5 (j := (0 : Int32)) hin5 (g := (mkF m 11 #[.val (.long q1), .second, .val (.long q2), .second, .val (.int p3), .val (.ref b2), .unset, .unset, .unset, .unset, .unset, .unset, .unset, .unset] [(.int q1.toInt32.toInt8.toInt32), (.int (0 : Int32)), (.ref b2)])) rfl rfl (hb hby at_11)
  have Ex2__5 : Exa Z h5 b2 "[B" := Ex2.wr W5
  have sz5 : n0 ≤ h5.size := Nat.le_trans sz2 (Keep.of_wr W5).1
  have N5 := Fr.snoc X5 N0 g_b2
  have V_b2__5 : Arv Z h5 b2 k2 .byte (5 : Int32) [(.int (nar .byte q1.toInt32.toInt8.toInt32)), (.int (0 : Int32)), (.int (0 : Int32)), (.int (0 : Int32)), (.int (0 : Int32))] (.int (0 : Int32)) := Arv.set Ar5 q5 S5 N5q H5 G5 (fits_nar_byte _) W5 0 rfl (Nat.le_of_ble_eq_true rfl)
  have pre6 : ∀ t, Steps p.tables e below (T5.setTop (mkF m 12 #[.val (.long q1), .second, .val (.long q2), .second, .val (.int p3), .val (.ref b2), .unset, .unset, .unset, .unset, .unset, .unset, .unset, .unset] [])) t → Steps p.tables e below (s₁.setTop (entryFrame m #[(.long q1), (.long q2), (.int p3)] maxLocals)) t := fun t k => pre4 t (st5 _ k)
  have pre7 : ∀ t, Steps p.tables e below (T5.setTop (mkF m 21 #[.val (.long q1), .second, .val (.long q2), .second, .val (.int p3), .val (.ref b2), .unset, .unset, .unset, .unset, .unset, .unset, .unset, .unset] [(.int (XT.ushrL q1 (8 : Int32)).toInt32.toInt8.toInt32), (.int (1 : Int32)), (.ref b2)])) t → Steps p.tables e below (s₁.setTop (entryFrame m #[(.long q1), (.long q2), (.int p3)] maxLocals)) t := fun t k => pre6 t (by
    show Steps p.tables e below (T5.setTop (mkF m 12 #[.val (.long q1), .second, .val (.long q2), .second, .val (.int p3), .val (.ref b2), .unset, .unset, .unset, .unset, .unset, .unset, .unset, .unset] [])) t
    refine XS.aload X5.here hx rfl (hb hby at_12) rfl rfl ?_
    show Steps p.tables e below (T5.setTop (mkF m 14 #[.val (.long q1), .second, .val (.long q2), .second, .val (.int p3), .val (.ref b2), .unset, .unset, .unset, .unset, .unset, .unset, .unset, .unset] [(.ref b2)])) t
    refine XS.iconst X5.here hx rfl (hb hby at_14) ?_
    show Steps p.tables e below (T5.setTop (mkF m 15 #[.val (.long q1), .second, .val (.long q2), .second, .val (.int p3), .val (.ref b2), .unset, .unset, .unset, .unset, .unset, .unset, .unset, .unset] [(.int (1 : Int32)), (.ref b2)])) t
    refine XT.lloadN X5.here hx rfl (hb hby at_15) rfl ?_
    show Steps p.tables e below (T5.setTop (mkF m 16 #[.val (.long q1), .second, .val (.long q2), .second, .val (.int p3), .val (.ref b2), .unset, .unset, .unset, .unset, .unset, .unset, .unset, .unset] [(.long q1), (.int (1 : Int32)), (.ref b2)])) t
    refine XS.bipush X5.here hx rfl (hb hby at_16) ?_
    show Steps p.tables e below (T5.setTop (mkF m 18 #[.val (.long q1), .second, .val (.long q2), .second, .val (.int p3), .val (.ref b2), .unset, .unset, .unset, .unset, .unset, .unset, .unset, .unset] [(.int (8 : Int32)), (.long q1), (.int (1 : Int32)), (.ref b2)])) t
    refine XT.lushr X5.here hx rfl (hb hby at_18) rfl ?_
    show Steps p.tables e below (T5.setTop (mkF m 19 #[.val (.long q1), .second, .val (.long q2), .second, .val (.int p3), .val (.ref b2), .unset, .unset, .unset, .unset, .unset, .unset, .unset, .unset] [(.long (XT.ushrL q1 (8 : Int32))), (.int (1 : Int32)), (.ref b2)])) t
    refine XT.l2i X5.here hx rfl (hb hby at_19) rfl ?_
    show Steps p.tables e below (T5.setTop (mkF m 20 #[.val (.long q1), .second, .val (.long q2), .second, .val (.int p3), .val (.ref b2), .unset, .unset, .unset, .unset, .unset, .unset, .unset, .unset] [(.int (XT.ushrL q1 (8 : Int32)).toInt32), (.int (1 : Int32)), (.ref b2)])) t
    refine XT.i2b X5.here hx rfl (hb hby at_20) rfl ?_
    show Steps p.tables e below (T5.setTop (mkF m 21 #[.val (.long q1), .second, .val (.long q2), .second, .val (.int p3), .val (.ref b2), .unset, .unset, .unset, .unset, .unset, .unset, .unset, .unset] [(.int (XT.ushrL q1 (8 : Int32)).toInt32.toInt8.toInt32), (.int (1 : Int32)), (.ref b2)])) t
    exact k)
  obtain ⟨cl8, Ar8, q8, S8, N8q, H8, G8⟩ := V_b2__5
  have hin8 : ¬ ((1 : Int32) < 0 ∨ cl8.slots.size ≤ ((1 : Int32)).toNatClampNeg) := inb_of S8 ⟨by decide, by decide⟩
  obtain ⟨T8, h8, X8, eh8, W8, st8⟩ := stB X5 hx hZ eh5 Ar8 (j := (1 : Int32)) hin8 (g := (mkF m 21 #[.val (.long q1), .second, .val (.long q2), .second, .val (.int p3), .val (.ref b2), .unset, .unset, .unset, .unset, .unset, .unset, .unset, .unset] [(.int (XT.ushrL q1 (8 : Int32)).toInt32.toInt8.toInt32), (.int (1 : Int32)), (.ref b2)])) rfl rfl (hb hby at_21)
  have Ex2__8 : Exa Z h8 b2 "[B" := Ex2__5.wr W8
  have sz8 : n0 ≤ h8.size := Nat.le_trans sz5 (Keep.of_wr W8).1
  have N8 := Fr.snoc X8 N5 g_b2
  have V_b2__8 : Arv Z h8 b2 k2 .byte (5 : Int32) [(.int (nar .byte q1.toInt32.toInt8.toInt32)), (.int (nar .byte (XT.ushrL q1 (8 : Int32)).toInt32.toInt8.toInt32)), (.int (0 : Int32)), (.int (0 : Int32)), (.int (0 : Int32))] (.int (0 : Int32)) := Arv.set Ar8 q8 S8 N8q H8 G8 (fits_nar_byte _) W8 1 rfl (Nat.le_of_ble_eq_true rfl)
  have pre9 : ∀ t, Steps p.tables e below (T8.setTop (mkF m 22 #[.val (.long q1), .second, .val (.long q2), .second, .val (.int p3), .val (.ref b2), .unset, .unset, .unset, .unset, .unset, .unset, .unset, .unset] [])) t → Steps p.tables e below (s₁.setTop (entryFrame m #[(.long q1), (.long q2), (.int p3)] maxLocals)) t := fun t k => pre7 t (st8 _ k)
  have pre10 : ∀ t, Steps p.tables e below (T8.setTop (mkF m 31 #[.val (.long q1), .second, .val (.long q2), .second, .val (.int p3), .val (.ref b2), .unset, .unset, .unset, .unset, .unset, .unset, .unset, .unset] [(.int (XT.ushrL q1 (16 : Int32)).toInt32.toInt8.toInt32), (.int (2 : Int32)), (.ref b2)])) t → Steps p.tables e below (s₁.setTop (entryFrame m #[(.long q1), (.long q2), (.int p3)] maxLocals)) t := fun t k => pre9 t (by
    show Steps p.tables e below (T8.setTop (mkF m 22 #[.val (.long q1), .second, .val (.long q2), .second, .val (.int p3), .val (.ref b2), .unset, .unset, .unset, .unset, .unset, .unset, .unset, .unset] [])) t
    refine XS.aload X8.here hx rfl (hb hby at_22) rfl rfl ?_
    show Steps p.tables e below (T8.setTop (mkF m 24 #[.val (.long q1), .second, .val (.long q2), .second, .val (.int p3), .val (.ref b2), .unset, .unset, .unset, .unset, .unset, .unset, .unset, .unset] [(.ref b2)])) t
    refine XS.iconst X8.here hx rfl (hb hby at_24) ?_
    show Steps p.tables e below (T8.setTop (mkF m 25 #[.val (.long q1), .second, .val (.long q2), .second, .val (.int p3), .val (.ref b2), .unset, .unset, .unset, .unset, .unset, .unset, .unset, .unset] [(.int (2 : Int32)), (.ref b2)])) t
    refine XT.lloadN X8.here hx rfl (hb hby at_25) rfl ?_
    show Steps p.tables e below (T8.setTop (mkF m 26 #[.val (.long q1), .second, .val (.long q2), .second, .val (.int p3), .val (.ref b2), .unset, .unset, .unset, .unset, .unset, .unset, .unset, .unset] [(.long q1), (.int (2 : Int32)), (.ref b2)])) t
    refine XS.bipush X8.here hx rfl (hb hby at_26) ?_
    show Steps p.tables e below (T8.setTop (mkF m 28 #[.val (.long q1), .second, .val (.long q2), .second, .val (.int p3), .val (.ref b2), .unset, .unset, .unset, .unset, .unset, .unset, .unset, .unset] [(.int (16 : Int32)), (.long q1), (.int (2 : Int32)), (.ref b2)])) t
    refine XT.lushr X8.here hx rfl (hb hby at_28) rfl ?_
    show Steps p.tables e below (T8.setTop (mkF m 29 #[.val (.long q1), .second, .val (.long q2), .second, .val (.int p3), .val (.ref b2), .unset, .unset, .unset, .unset, .unset, .unset, .unset, .unset] [(.long (XT.ushrL q1 (16 : Int32))), (.int (2 : Int32)), (.ref b2)])) t
    refine XT.l2i X8.here hx rfl (hb hby at_29) rfl ?_
    show Steps p.tables e below (T8.setTop (mkF m 30 #[.val (.long q1), .second, .val (.long q2), .second, .val (.int p3), .val (.ref b2), .unset, .unset, .unset, .unset, .unset, .unset, .unset, .unset] [(.int (XT.ushrL q1 (16 : Int32)).toInt32), (.int (2 : Int32)), (.ref b2)])) t
    refine XT.i2b X8.here hx rfl (hb hby at_30) rfl ?_
    show Steps p.tables e below (T8.setTop (mkF m 31 #[.val (.long q1), .second, .val (.long q2), .second, .val (.int p3), .val (.ref b2), .unset, .unset, .unset, .unset, .unset, .unset, .unset, .unset] [(.int (XT.ushrL q1 (16 : Int32)).toInt32.toInt8.toInt32), (.int (2 : Int32)), (.ref b2)])) t
    exact k)
  obtain ⟨cl11, Ar11, q11, S11, N11q, H11, G11⟩ := V_b2__8
  have hin11 : ¬ ((2 : Int32) < 0 ∨ cl11.slots.size ≤ ((2 : Int32)).toNatClampNeg) := inb_of S11 ⟨by decide, by decide⟩
  obtain ⟨T11, h11, X11, eh11, W11, st11⟩ := stB X8 hx hZ eh8 Ar11 (j := (2 : Int32)) hin11 (g := (mkF m 31 #[.val (.long q1), .second, .val (.long q2), .second, .val (.int p3), .val (.ref b2), .unset, .unset, .unset, .unset, .unset, .unset, .unset, .unset] [(.int (XT.ushrL q1 (16 : Int32)).toInt32.toInt8.toInt32), (.int (2 : Int32)), (.ref b2)])) rfl rfl (hb hby at_31)
  have Ex2__11 : Exa Z h11 b2 "[B" := Ex2__8.wr W11
  have sz11 : n0 ≤ h11.size := Nat.le_trans sz8 (Keep.of_wr W11).1
  have N11 := Fr.snoc X11 N8 g_b2
  have V_b2__11 : Arv Z h11 b2 k2 .byte (5 : Int32) [(.int (nar .byte q1.toInt32.toInt8.toInt32)), (.int (nar .byte (XT.ushrL q1 (8 : Int32)).toInt32.toInt8.toInt32)), (.int (nar .byte (XT.ushrL q1 (16 : Int32)).toInt32.toInt8.toInt32)), (.int (0 : Int32)), (.int (0 : Int32))] (.int (0 : Int32)) := Arv.set Ar11 q11 S11 N11q H11 G11 (fits_nar_byte _) W11 2 rfl (Nat.le_of_ble_eq_true rfl)
  have pre12 : ∀ t, Steps p.tables e below (T11.setTop (mkF m 32 #[.val (.long q1), .second, .val (.long q2), .second, .val (.int p3), .val (.ref b2), .unset, .unset, .unset, .unset, .unset, .unset, .unset, .unset] [])) t → Steps p.tables e below (s₁.setTop (entryFrame m #[(.long q1), (.long q2), (.int p3)] maxLocals)) t := fun t k => pre10 t (st11 _ k)
  have pre13 : ∀ t, Steps p.tables e below (T11.setTop (mkF m 41 #[.val (.long q1), .second, .val (.long q2), .second, .val (.int p3), .val (.ref b2), .unset, .unset, .unset, .unset, .unset, .unset, .unset, .unset] [(.int (XT.ushrL q1 (24 : Int32)).toInt32.toInt8.toInt32), (.int (3 : Int32)), (.ref b2)])) t → Steps p.tables e below (s₁.setTop (entryFrame m #[(.long q1), (.long q2), (.int p3)] maxLocals)) t := fun t k => pre12 t (by
    show Steps p.tables e below (T11.setTop (mkF m 32 #[.val (.long q1), .second, .val (.long q2), .second, .val (.int p3), .val (.ref b2), .unset, .unset, .unset, .unset, .unset, .unset, .unset, .unset] [])) t
    refine XS.aload X11.here hx rfl (hb hby at_32) rfl rfl ?_
    show Steps p.tables e below (T11.setTop (mkF m 34 #[.val (.long q1), .second, .val (.long q2), .second, .val (.int p3), .val (.ref b2), .unset, .unset, .unset, .unset, .unset, .unset, .unset, .unset] [(.ref b2)])) t
    refine XS.iconst X11.here hx rfl (hb hby at_34) ?_
    show Steps p.tables e below (T11.setTop (mkF m 35 #[.val (.long q1), .second, .val (.long q2), .second, .val (.int p3), .val (.ref b2), .unset, .unset, .unset, .unset, .unset, .unset, .unset, .unset] [(.int (3 : Int32)), (.ref b2)])) t
    refine XT.lloadN X11.here hx rfl (hb hby at_35) rfl ?_
    show Steps p.tables e below (T11.setTop (mkF m 36 #[.val (.long q1), .second, .val (.long q2), .second, .val (.int p3), .val (.ref b2), .unset, .unset, .unset, .unset, .unset, .unset, .unset, .unset] [(.long q1), (.int (3 : Int32)), (.ref b2)])) t
    refine XS.bipush X11.here hx rfl (hb hby at_36) ?_
    show Steps p.tables e below (T11.setTop (mkF m 38 #[.val (.long q1), .second, .val (.long q2), .second, .val (.int p3), .val (.ref b2), .unset, .unset, .unset, .unset, .unset, .unset, .unset, .unset] [(.int (24 : Int32)), (.long q1), (.int (3 : Int32)), (.ref b2)])) t
    refine XT.lushr X11.here hx rfl (hb hby at_38) rfl ?_
    show Steps p.tables e below (T11.setTop (mkF m 39 #[.val (.long q1), .second, .val (.long q2), .second, .val (.int p3), .val (.ref b2), .unset, .unset, .unset, .unset, .unset, .unset, .unset, .unset] [(.long (XT.ushrL q1 (24 : Int32))), (.int (3 : Int32)), (.ref b2)])) t
    refine XT.l2i X11.here hx rfl (hb hby at_39) rfl ?_
    show Steps p.tables e below (T11.setTop (mkF m 40 #[.val (.long q1), .second, .val (.long q2), .second, .val (.int p3), .val (.ref b2), .unset, .unset, .unset, .unset, .unset, .unset, .unset, .unset] [(.int (XT.ushrL q1 (24 : Int32)).toInt32), (.int (3 : Int32)), (.ref b2)])) t
    refine XT.i2b X11.here hx rfl (hb hby at_40) rfl ?_
    show Steps p.tables e below (T11.setTop (mkF m 41 #[.val (.long q1), .second, .val (.long q2), .second, .val (.int p3), .val (.ref b2), .unset, .unset, .unset, .unset, .unset, .unset, .unset, .unset] [(.int (XT.ushrL q1 (24 : Int32)).toInt32.toInt8.toInt32), (.int (3 : Int32)), (.ref b2)])) t
    exact k)
  obtain ⟨cl14, Ar14, q14, S14, N14q, H14, G14⟩ := V_b2__11
  have hin14 : ¬ ((3 : Int32) < 0 ∨ cl14.slots.size ≤ ((3 : Int32)).toNatClampNeg) := inb_of S14 ⟨by decide, by decide⟩
  obtain ⟨T14, h14, X14, eh14, W14, st14⟩ := stB X11 hx hZ eh11 Ar14 (j := (3 : Int32)) hin14 (g := (mkF m 41 #[.val (.long q1), .second, .val (.long q2), .second, .val (.int p3), .val (.ref b2), .unset, .unset, .unset, .unset, .unset, .unset, .unset, .unset] [(.int (XT.ushrL q1 (24 : Int32)).toInt32.toInt8.toInt32), (.int (3 : Int32)), (.ref b2)])) rfl rfl (hb hby at_41)
  have Ex2__14 : Exa Z h14 b2 "[B" := Ex2__11.wr W14
  have sz14 : n0 ≤ h14.size := Nat.le_trans sz11 (Keep.of_wr W14).1
  have N14 := Fr.snoc X14 N11 g_b2
  have V_b2__14 : Arv Z h14 b2 k2 .byte (5 : Int32) [(.int (nar .byte q1.toInt32.toInt8.toInt32)), (.int (nar .byte (XT.ushrL q1 (8 : Int32)).toInt32.toInt8.toInt32)), (.int (nar .byte (XT.ushrL q1 (16 : Int32)).toInt32.toInt8.toInt32)), (.int (nar .byte (XT.ushrL q1 (24 : Int32)).toInt32.toInt8.toInt32)), (.int (0 : Int32))] (.int (0 : Int32)) := Arv.set Ar14 q14 S14 N14q H14 G14 (fits_nar_byte _) W14 3 rfl (Nat.le_of_ble_eq_true rfl)
  have pre15 : ∀ t, Steps p.tables e below (T14.setTop (mkF m 42 #[.val (.long q1), .second, .val (.long q2), .second, .val (.int p3), .val (.ref b2), .unset, .unset, .unset, .unset, .unset, .unset, .unset, .unset] [])) t → Steps p.tables e below (s₁.setTop (entryFrame m #[(.long q1), (.long q2), (.int p3)] maxLocals)) t := fun t k => pre13 t (st14 _ k)
  have pre16 : ∀ t, Steps p.tables e below (T14.setTop (mkF m 51 #[.val (.long q1), .second, .val (.long q2), .second, .val (.int p3), .val (.ref b2), .unset, .unset, .unset, .unset, .unset, .unset, .unset, .unset] [(.int (XT.ushrL q1 (32 : Int32)).toInt32.toInt8.toInt32), (.int (4 : Int32)), (.ref b2)])) t → Steps p.tables e below (s₁.setTop (entryFrame m #[(.long q1), (.long q2), (.int p3)] maxLocals)) t := fun t k => pre15 t (by
    show Steps p.tables e below (T14.setTop (mkF m 42 #[.val (.long q1), .second, .val (.long q2), .second, .val (.int p3), .val (.ref b2), .unset, .unset, .unset, .unset, .unset, .unset, .unset, .unset] [])) t
    refine XS.aload X14.here hx rfl (hb hby at_42) rfl rfl ?_
    show Steps p.tables e below (T14.setTop (mkF m 44 #[.val (.long q1), .second, .val (.long q2), .second, .val (.int p3), .val (.ref b2), .unset, .unset, .unset, .unset, .unset, .unset, .unset, .unset] [(.ref b2)])) t
    refine XS.iconst X14.here hx rfl (hb hby at_44) ?_
    show Steps p.tables e below (T14.setTop (mkF m 45 #[.val (.long q1), .second, .val (.long q2), .second, .val (.int p3), .val (.ref b2), .unset, .unset, .unset, .unset, .unset, .unset, .unset, .unset] [(.int (4 : Int32)), (.ref b2)])) t
    refine XT.lloadN X14.here hx rfl (hb hby at_45) rfl ?_
    show Steps p.tables e below (T14.setTop (mkF m 46 #[.val (.long q1), .second, .val (.long q2), .second, .val (.int p3), .val (.ref b2), .unset, .unset, .unset, .unset, .unset, .unset, .unset, .unset] [(.long q1), (.int (4 : Int32)), (.ref b2)])) t
    refine XS.bipush X14.here hx rfl (hb hby at_46) ?_
    show Steps p.tables e below (T14.setTop (mkF m 48 #[.val (.long q1), .second, .val (.long q2), .second, .val (.int p3), .val (.ref b2), .unset, .unset, .unset, .unset, .unset, .unset, .unset, .unset] [(.int (32 : Int32)), (.long q1), (.int (4 : Int32)), (.ref b2)])) t
    refine XT.lushr X14.here hx rfl (hb hby at_48) rfl ?_
    show Steps p.tables e below (T14.setTop (mkF m 49 #[.val (.long q1), .second, .val (.long q2), .second, .val (.int p3), .val (.ref b2), .unset, .unset, .unset, .unset, .unset, .unset, .unset, .unset] [(.long (XT.ushrL q1 (32 : Int32))), (.int (4 : Int32)), (.ref b2)])) t
    refine XT.l2i X14.here hx rfl (hb hby at_49) rfl ?_
    show Steps p.tables e below (T14.setTop (mkF m 50 #[.val (.long q1), .second, .val (.long q2), .second, .val (.int p3), .val (.ref b2), .unset, .unset, .unset, .unset, .unset, .unset, .unset, .unset] [(.int (XT.ushrL q1 (32 : Int32)).toInt32), (.int (4 : Int32)), (.ref b2)])) t
    refine XT.i2b X14.here hx rfl (hb hby at_50) rfl ?_
    show Steps p.tables e below (T14.setTop (mkF m 51 #[.val (.long q1), .second, .val (.long q2), .second, .val (.int p3), .val (.ref b2), .unset, .unset, .unset, .unset, .unset, .unset, .unset, .unset] [(.int (XT.ushrL q1 (32 : Int32)).toInt32.toInt8.toInt32), (.int (4 : Int32)), (.ref b2)])) t
    exact k)
  obtain ⟨cl17, Ar17, q17, S17, N17q, H17, G17⟩ := V_b2__14
  have hin17 : ¬ ((4 : Int32) < 0 ∨ cl17.slots.size ≤ ((4 : Int32)).toNatClampNeg) := inb_of S17 ⟨by decide, by decide⟩
  obtain ⟨T17, h17, X17, eh17, W17, st17⟩ := stB X14 hx hZ eh14 Ar17 (j := (4 : Int32)) hin17 (g := (mkF m 51 #[.val (.long q1), .second, .val (.long q2), .second, .val (.int p3), .val (.ref b2), .unset, .unset, .unset, .unset, .unset, .unset, .unset, .unset] [(.int (XT.ushrL q1 (32 : Int32)).toInt32.toInt8.toInt32), (.int (4 : Int32)), (.ref b2)])) rfl rfl (hb hby at_51)
  have Ex2__17 : Exa Z h17 b2 "[B" := Ex2__14.wr W17
  have sz17 : n0 ≤ h17.size := Nat.le_trans sz14 (Keep.of_wr W17).1
  have N17 := Fr.snoc X17 N14 g_b2
  have V_b2__17 : Arv Z h17 b2 k2 .byte (5 : Int32) [(.int (nar .byte q1.toInt32.toInt8.toInt32)), (.int (nar .byte (XT.ushrL q1 (8 : Int32)).toInt32.toInt8.toInt32)), (.int (nar .byte (XT.ushrL q1 (16 : Int32)).toInt32.toInt8.toInt32)), (.int (nar .byte (XT.ushrL q1 (24 : Int32)).toInt32.toInt8.toInt32)), (.int (nar .byte (XT.ushrL q1 (32 : Int32)).toInt32.toInt8.toInt32))] (.int (0 : Int32)) := Arv.set Ar17 q17 S17 N17q H17 G17 (fits_nar_byte _) W17 4 rfl (Nat.le_of_ble_eq_true rfl)
  have pre18 : ∀ t, Steps p.tables e below (T17.setTop (mkF m 52 #[.val (.long q1), .second, .val (.long q2), .second, .val (.int p3), .val (.ref b2), .unset, .unset, .unset, .unset, .unset, .unset, .unset, .unset] [])) t → Steps p.tables e below (s₁.setTop (entryFrame m #[(.long q1), (.long q2), (.int p3)] maxLocals)) t := fun t k => pre16 t (st17 _ k)
  have pre19 : ∀ t, Steps p.tables e below (T17.setTop (mkF m 62 #[.val (.long q1), .second, .val (.long q2), .second, .val (.int p3), .val (.ref b2), .val (.int ((p3 &&& (2147483647 : Int32)) % (9 : Int32))), .unset, .unset, .unset, .unset, .unset, .unset, .unset] [])) t → Steps p.tables e below (s₁.setTop (entryFrame m #[(.long q1), (.long q2), (.int p3)] maxLocals)) t := fun t k => pre18 t (by
    show Steps p.tables e below (T17.setTop (mkF m 52 #[.val (.long q1), .second, .val (.long q2), .second, .val (.int p3), .val (.ref b2), .unset, .unset, .unset, .unset, .unset, .unset, .unset, .unset] [])) t
    refine XS.iload X17.here hx rfl (hb hby at_52) rfl ?_
    show Steps p.tables e below (T17.setTop (mkF m 54 #[.val (.long q1), .second, .val (.long q2), .second, .val (.int p3), .val (.ref b2), .unset, .unset, .unset, .unset, .unset, .unset, .unset, .unset] [(.int p3)])) t
    refine X17.ldcInt hx hown (mvT hZ (hw _ (List.mem_of_getElem? (i := 1) rfl))) (g := (mkF m 54 #[.val (.long q1), .second, .val (.long q2), .second, .val (.int p3), .val (.ref b2), .unset, .unset, .unset, .unset, .unset, .unset, .unset, .unset] [(.int p3)])) rfl (hb hby at_54) _ ?_
    show Steps p.tables e below (T17.setTop (mkF m 56 #[.val (.long q1), .second, .val (.long q2), .second, .val (.int p3), .val (.ref b2), .unset, .unset, .unset, .unset, .unset, .unset, .unset, .unset] [(.int (2147483647 : Int32)), (.int p3)])) t
    refine XS.iand X17.here hx rfl (hb hby at_56) rfl ?_
    show Steps p.tables e below (T17.setTop (mkF m 57 #[.val (.long q1), .second, .val (.long q2), .second, .val (.int p3), .val (.ref b2), .unset, .unset, .unset, .unset, .unset, .unset, .unset, .unset] [(.int (p3 &&& (2147483647 : Int32)))])) t
    refine XS.bipush X17.here hx rfl (hb hby at_57) ?_
    show Steps p.tables e below (T17.setTop (mkF m 59 #[.val (.long q1), .second, .val (.long q2), .second, .val (.int p3), .val (.ref b2), .unset, .unset, .unset, .unset, .unset, .unset, .unset, .unset] [(.int (9 : Int32)), (.int (p3 &&& (2147483647 : Int32)))])) t
    refine iremM X17 hx rfl (hb hby at_59) rfl (by decide) ?_
    show Steps p.tables e below (T17.setTop (mkF m 60 #[.val (.long q1), .second, .val (.long q2), .second, .val (.int p3), .val (.ref b2), .unset, .unset, .unset, .unset, .unset, .unset, .unset, .unset] [(.int ((p3 &&& (2147483647 : Int32)) % (9 : Int32)))])) t
    refine XS.istore X17.here hx rfl (hb hby at_60) rfl (l' := #[.val (.long q1), .second, .val (.long q2), .second, .val (.int p3), .val (.ref b2), .val (.int ((p3 &&& (2147483647 : Int32)) % (9 : Int32))), .unset, .unset, .unset, .unset, .unset, .unset, .unset]) rfl ?_
    show Steps p.tables e below (T17.setTop (mkF m 62 #[.val (.long q1), .second, .val (.long q2), .second, .val (.int p3), .val (.ref b2), .val (.int ((p3 &&& (2147483647 : Int32)) % (9 : Int32))), .unset, .unset, .unset, .unset, .unset, .unset, .unset] [])) t
    exact k)
  obtain ⟨byt, h_byt⟩ : ∃ z : Int32, z = ((p3 &&& (2147483647 : Int32)) % (9 : Int32)) := ⟨_, rfl⟩
  rw [← h_byt] at pre19
  have hbyt : 0 ≤ byt.toInt ∧ byt.toInt ≤ 8 := by rw [h_byt]; exact own_bytes _
  have pre21 : ∀ t, Steps p.tables e below (T17.setTop (mkF m 67 #[.val (.long q1), .second, .val (.long q2), .second, .val (.int p3), .val (.ref b2), .val (.int byt), .unset, .unset, .unset, .unset, .unset, .unset, .unset] [(.int (XT.cmpL (q2 &&& (1 : Int64)) (0 : Int64)))])) t → Steps p.tables e below (s₁.setTop (entryFrame m #[(.long q1), (.long q2), (.int p3)] maxLocals)) t := fun t k => pre19 t (by
    show Steps p.tables e below (T17.setTop (mkF m 62 #[.val (.long q1), .second, .val (.long q2), .second, .val (.int p3), .val (.ref b2), .val (.int byt), .unset, .unset, .unset, .unset, .unset, .unset, .unset] [])) t
    refine XT.lloadN X17.here hx rfl (hb hby at_62) rfl ?_
    show Steps p.tables e below (T17.setTop (mkF m 63 #[.val (.long q1), .second, .val (.long q2), .second, .val (.int p3), .val (.ref b2), .val (.int byt), .unset, .unset, .unset, .unset, .unset, .unset, .unset] [(.long q2)])) t
    refine XT.lconstV X17.here hx rfl (1 : Int64) (hb hby at_63) (by decide) ?_
    show Steps p.tables e below (T17.setTop (mkF m 64 #[.val (.long q1), .second, .val (.long q2), .second, .val (.int p3), .val (.ref b2), .val (.int byt), .unset, .unset, .unset, .unset, .unset, .unset, .unset] [(.long (1 : Int64)), (.long q2)])) t
    refine XT.land X17.here hx rfl (hb hby at_64) rfl ?_
    show Steps p.tables e below (T17.setTop (mkF m 65 #[.val (.long q1), .second, .val (.long q2), .second, .val (.int p3), .val (.ref b2), .val (.int byt), .unset, .unset, .unset, .unset, .unset, .unset, .unset] [(.long (q2 &&& (1 : Int64)))])) t
    refine XT.lconstV X17.here hx rfl (0 : Int64) (hb hby at_65) (by decide) ?_
    show Steps p.tables e below (T17.setTop (mkF m 66 #[.val (.long q1), .second, .val (.long q2), .second, .val (.int p3), .val (.ref b2), .val (.int byt), .unset, .unset, .unset, .unset, .unset, .unset, .unset] [(.long (0 : Int64)), (.long (q2 &&& (1 : Int64)))])) t
    refine XT.lcmp X17.here hx rfl (hb hby at_66) rfl ?_
    show Steps p.tables e below (T17.setTop (mkF m 67 #[.val (.long q1), .second, .val (.long q2), .second, .val (.int p3), .val (.ref b2), .val (.int byt), .unset, .unset, .unset, .unset, .unset, .unset, .unset] [(.int (XT.cmpL (q2 &&& (1 : Int64)) (0 : Int64)))])) t
    exact k)
  have pre22 : ∀ t, Steps p.tables e below (T17.setTop (mkF m 87 #[.val (.long q1), .second, .val (.long q2), .second, .val (.int p3), .val (.ref b2), .val (.int byt), .val (.long (if (q2 &&& (1 : Int64)) = (0 : Int64) then ((XT.ushrL q2 (1 : Int32)) &&& (15 : Int64)) else (XT.ushrL q2 (2 : Int32)))), .second, .unset, .unset, .unset, .unset, .unset] [])) t → Steps p.tables e below (s₁.setTop (entryFrame m #[(.long q1), (.long q2), (.int p3)] maxLocals)) t := fun t k => pre21 t (by
    show Steps p.tables e below (T17.setTop (mkF m 67 #[.val (.long q1), .second, .val (.long q2), .second, .val (.int p3), .val (.ref b2), .val (.int byt), .unset, .unset, .unset, .unset, .unset, .unset, .unset] [(.int (XT.cmpL (q2 &&& (1 : Int64)) (0 : Int64)))])) t
    by_cases hc67_20 : (q2 &&& (1 : Int64)) = (0 : Int64)
    · simp only [if_pos hc67_20] at k
      refine XS.ifNo X17.here hx rfl (hb hby at_67) rfl (XT.ll_ne_f hc67_20) ?_
      show Steps p.tables e below (T17.setTop (mkF m 70 #[.val (.long q1), .second, .val (.long q2), .second, .val (.int p3), .val (.ref b2), .val (.int byt), .unset, .unset, .unset, .unset, .unset, .unset, .unset] [])) t
      refine XT.lloadN X17.here hx rfl (hb hby at_70) rfl ?_
      show Steps p.tables e below (T17.setTop (mkF m 71 #[.val (.long q1), .second, .val (.long q2), .second, .val (.int p3), .val (.ref b2), .val (.int byt), .unset, .unset, .unset, .unset, .unset, .unset, .unset] [(.long q2)])) t
      refine XS.iconst X17.here hx rfl (hb hby at_71) ?_
      show Steps p.tables e below (T17.setTop (mkF m 72 #[.val (.long q1), .second, .val (.long q2), .second, .val (.int p3), .val (.ref b2), .val (.int byt), .unset, .unset, .unset, .unset, .unset, .unset, .unset] [(.int (1 : Int32)), (.long q2)])) t
      refine XT.lushr X17.here hx rfl (hb hby at_72) rfl ?_
      show Steps p.tables e below (T17.setTop (mkF m 73 #[.val (.long q1), .second, .val (.long q2), .second, .val (.int p3), .val (.ref b2), .val (.int byt), .unset, .unset, .unset, .unset, .unset, .unset, .unset] [(.long (XT.ushrL q2 (1 : Int32)))])) t
      refine X17.ldc2Long hx hown (mvT hZ (hw _ (List.mem_of_getElem? (i := 54) rfl))) (g := (mkF m 73 #[.val (.long q1), .second, .val (.long q2), .second, .val (.int p3), .val (.ref b2), .val (.int byt), .unset, .unset, .unset, .unset, .unset, .unset, .unset] [(.long (XT.ushrL q2 (1 : Int32)))])) rfl (hb hby at_73) _ ?_
      show Steps p.tables e below (T17.setTop (mkF m 76 #[.val (.long q1), .second, .val (.long q2), .second, .val (.int p3), .val (.ref b2), .val (.int byt), .unset, .unset, .unset, .unset, .unset, .unset, .unset] [(.long (15 : Int64)), (.long (XT.ushrL q2 (1 : Int32)))])) t
      refine XT.land X17.here hx rfl (hb hby at_76) rfl ?_
      show Steps p.tables e below (T17.setTop (mkF m 77 #[.val (.long q1), .second, .val (.long q2), .second, .val (.int p3), .val (.ref b2), .val (.int byt), .unset, .unset, .unset, .unset, .unset, .unset, .unset] [(.long ((XT.ushrL q2 (1 : Int32)) &&& (15 : Int64)))])) t
      refine XT.lstore X17.here hx rfl (hb hby at_77) rfl (l' := #[.val (.long q1), .second, .val (.long q2), .second, .val (.int p3), .val (.ref b2), .val (.int byt), .val (.long ((XT.ushrL q2 (1 : Int32)) &&& (15 : Int64))), .second, .unset, .unset, .unset, .unset, .unset]) rfl ?_
      show Steps p.tables e below (T17.setTop (mkF m 79 #[.val (.long q1), .second, .val (.long q2), .second, .val (.int p3), .val (.ref b2), .val (.int byt), .val (.long ((XT.ushrL q2 (1 : Int32)) &&& (15 : Int64))), .second, .unset, .unset, .unset, .unset, .unset] [])) t
      refine XS.goto X17.here hx rfl (pc0 := 79) (pc' := 87) rfl (hb hby at_79) (by decide) (by decide) ?_
      show Steps p.tables e below (T17.setTop (mkF m 87 #[.val (.long q1), .second, .val (.long q2), .second, .val (.int p3), .val (.ref b2), .val (.int byt), .val (.long ((XT.ushrL q2 (1 : Int32)) &&& (15 : Int64))), .second, .unset, .unset, .unset, .unset, .unset] [])) t
      exact k
    · simp only [if_neg hc67_20] at k
      refine XS.ifYes X17.here hx rfl (pc0 := 67) (pc' := 82) rfl (hb hby at_67) rfl (XT.ll_ne_t hc67_20) (by decide) (by decide) ?_
      show Steps p.tables e below (T17.setTop (mkF m 82 #[.val (.long q1), .second, .val (.long q2), .second, .val (.int p3), .val (.ref b2), .val (.int byt), .unset, .unset, .unset, .unset, .unset, .unset, .unset] [])) t
      refine XT.lloadN X17.here hx rfl (hb hby at_82) rfl ?_
      show Steps p.tables e below (T17.setTop (mkF m 83 #[.val (.long q1), .second, .val (.long q2), .second, .val (.int p3), .val (.ref b2), .val (.int byt), .unset, .unset, .unset, .unset, .unset, .unset, .unset] [(.long q2)])) t
      refine XS.iconst X17.here hx rfl (hb hby at_83) ?_
      show Steps p.tables e below (T17.setTop (mkF m 84 #[.val (.long q1), .second, .val (.long q2), .second, .val (.int p3), .val (.ref b2), .val (.int byt), .unset, .unset, .unset, .unset, .unset, .unset, .unset] [(.int (2 : Int32)), (.long q2)])) t
      refine XT.lushr X17.here hx rfl (hb hby at_84) rfl ?_
      show Steps p.tables e below (T17.setTop (mkF m 85 #[.val (.long q1), .second, .val (.long q2), .second, .val (.int p3), .val (.ref b2), .val (.int byt), .unset, .unset, .unset, .unset, .unset, .unset, .unset] [(.long (XT.ushrL q2 (2 : Int32)))])) t
      refine XT.lstore X17.here hx rfl (hb hby at_85) rfl (l' := #[.val (.long q1), .second, .val (.long q2), .second, .val (.int p3), .val (.ref b2), .val (.int byt), .val (.long (XT.ushrL q2 (2 : Int32))), .second, .unset, .unset, .unset, .unset, .unset]) rfl ?_
      show Steps p.tables e below (T17.setTop (mkF m 87 #[.val (.long q1), .second, .val (.long q2), .second, .val (.int p3), .val (.ref b2), .val (.int byt), .val (.long (XT.ushrL q2 (2 : Int32))), .second, .unset, .unset, .unset, .unset, .unset] [])) t
      exact k)
  obtain ⟨off, h_off⟩ : ∃ z : Int64, z = (if (q2 &&& (1 : Int64)) = (0 : Int64) then ((XT.ushrL q2 (1 : Int32)) &&& (15 : Int64)) else (XT.ushrL q2 (2 : Int32))) := ⟨_, rfl⟩
  rw [← h_off] at pre22
  have hoff : 0 ≤ off.toInt ∧ off.toInt < 2 ^ 62 := by rw [h_off]; exact own_off _ _
  obtain ⟨T23, h23, X23, eh23, E23, A23, D23, -, st23⟩ := newO X17 hx hZ hown (hw _ (List.mem_of_getElem? (i := 2) rfl)) (hw _ (List.mem_of_getElem? (i := 3) rfl)) (hw _ (List.mem_of_getElem? (i := 4) rfl)) eh17 (g := (mkF m 87 #[.val (.long q1), .second, .val (.long q2), .second, .val (.int p3), .val (.ref b2), .val (.int byt), .val (.long off), .second, .unset, .unset, .unset, .unset, .unset] [])) rfl (hb hby at_87) (by decide) (by decide)
  obtain ⟨b23, gg23⟩ : ∃ z, z = h17.size := ⟨_, rfl⟩
  rw [← gg23] at A23 D23 st23
  have V_b2__23 : Arv Z h23 b2 k2 .byte (5 : Int32) [(.int (nar .byte q1.toInt32.toInt8.toInt32)), (.int (nar .byte (XT.ushrL q1 (8 : Int32)).toInt32.toInt8.toInt32)), (.int (nar .byte (XT.ushrL q1 (16 : Int32)).toInt32.toInt8.toInt32)), (.int (nar .byte (XT.ushrL q1 (24 : Int32)).toInt32.toInt8.toInt32)), (.int (nar .byte (XT.ushrL q1 (32 : Int32)).toInt32.toInt8.toInt32))] (.int (0 : Int32)) := V_b2__17.ext E23
  have Ex2__23 : Exa Z h23 b2 "[B" := Ex2__17.ext E23
  have sz23 : n0 ≤ h23.size := Nat.le_trans sz17 E23.1
  have g_b23 : n0 ≤ b23 := Nat.le_trans sz17 (Nat.le_of_eq gg23.symm)
  have ne_b2_b23 : b2 ≠ b23 := Nat.ne_of_lt (Nat.lt_of_lt_of_le V_b2__17.lt (Nat.le_of_eq gg23.symm))
  have F_name_b23 : Fld Z h23 b23 "com/example/decant/decant/decompiler/ir/Global" "name" "Ljava/lang/String;" .null := D23 (Or.inr (hw _ (List.mem_of_getElem? (i := 20) rfl))) (ty := (.object "java/lang/String")) (by decide)
  have F_address_b23 : Fld Z h23 b23 "com/example/decant/decant/decompiler/ir/Global" "address" "J" (.long (0 : Int64)) := D23 (Or.inr (hw _ (List.mem_of_getElem? (i := 22) rfl))) (ty := .long) (by decide)
  have F_size_b23 : Fld Z h23 b23 "com/example/decant/decant/decompiler/ir/Global" "size" "J" (.long (0 : Int64)) := D23 (Or.inr (hw _ (List.mem_of_getElem? (i := 24) rfl))) (ty := .long) (by decide)
  have F_initial_b23 : Fld Z h23 b23 "com/example/decant/decant/decompiler/ir/Global" "initial" "[B" .null := D23 (Or.inr (hw _ (List.mem_of_getElem? (i := 35) rfl))) (ty := (.array .byte)) (by decide)
  have F_readOnly_b23 : Fld Z h23 b23 "com/example/decant/decant/decompiler/ir/Global" "readOnly" "Z" (.int (0 : Int32)) := D23 (Or.inr (hw _ (List.mem_of_getElem? (i := 37) rfl))) (ty := .boolean) (by decide)
  have F_shared_b23 : Fld Z h23 b23 "com/example/decant/decant/decompiler/ir/Global" "shared" "Z" (.int (0 : Int32)) := D23 (Or.inr (hw _ (List.mem_of_getElem? (i := 39) rfl))) (ty := .boolean) (by decide)
  have pre24 : ∀ t, Steps p.tables e below (T23.setTop (mkF m 90 #[.val (.long q1), .second, .val (.long q2), .second, .val (.int p3), .val (.ref b2), .val (.int byt), .val (.long off), .second, .unset, .unset, .unset, .unset, .unset] [(.ref b23)])) t → Steps p.tables e below (s₁.setTop (entryFrame m #[(.long q1), (.long q2), (.int p3)] maxLocals)) t := fun t k => pre22 t (st23 _ k)
  have pre25 : ∀ t, Steps p.tables e below (T23.setTop (mkF m 91 #[.val (.long q1), .second, .val (.long q2), .second, .val (.int p3), .val (.ref b2), .val (.int byt), .val (.long off), .second, .unset, .unset, .unset, .unset, .unset] [(.ref b23), (.ref b23)])) t → Steps p.tables e below (s₁.setTop (entryFrame m #[(.long q1), (.long q2), (.int p3)] maxLocals)) t := fun t k => pre24 t (by
    show Steps p.tables e below (T23.setTop (mkF m 90 #[.val (.long q1), .second, .val (.long q2), .second, .val (.int p3), .val (.ref b2), .val (.int byt), .val (.long off), .second, .unset, .unset, .unset, .unset, .unset] [(.ref b23)])) t
    refine XS.dup X23.here hx rfl (hb hby at_90) rfl rfl ?_
    show Steps p.tables e below (T23.setTop (mkF m 91 #[.val (.long q1), .second, .val (.long q2), .second, .val (.int p3), .val (.ref b2), .val (.int byt), .val (.long off), .second, .unset, .unset, .unset, .unset, .unset] [(.ref b23), (.ref b23)])) t
    exact k)
  obtain ⟨sa26, T26, h26, kk26, X26, eh26, E26, hS26, hk26, hZ26, ho26, st26⟩ := ldcS (s := s) (vm0 := s.vm) X23 hx hZ hown (hw _ (List.mem_of_getElem? (i := 5) rfl)) (own_str hw) eh23 (own_since s 0) (Nat.zero_le _) (g := (mkF m 91 #[.val (.long q1), .second, .val (.long q2), .second, .val (.int p3), .val (.ref b2), .val (.int byt), .val (.long off), .second, .unset, .unset, .unset, .unset, .unset] [(.ref b23), (.ref b23)])) rfl (hb hby at_91) (n := 4) (by decide) (by decide) (by decide) (by decide)
  have V_b2__26 : Arv Z h26 b2 k2 .byte (5 : Int32) [(.int (nar .byte q1.toInt32.toInt8.toInt32)), (.int (nar .byte (XT.ushrL q1 (8 : Int32)).toInt32.toInt8.toInt32)), (.int (nar .byte (XT.ushrL q1 (16 : Int32)).toInt32.toInt8.toInt32)), (.int (nar .byte (XT.ushrL q1 (24 : Int32)).toInt32.toInt8.toInt32)), (.int (nar .byte (XT.ushrL q1 (32 : Int32)).toInt32.toInt8.toInt32))] (.int (0 : Int32)) := V_b2__23.ext E26
  have Ex2__26 : Exa Z h26 b2 "[B" := Ex2__23.ext E26
  have A23__26 : Exa Z h26 b23 "com/example/decant/decant/decompiler/ir/Global" := A23.ext E26
  have F_name_b23__26 : Fld Z h26 b23 "com/example/decant/decant/decompiler/ir/Global" "name" "Ljava/lang/String;" .null := F_name_b23.ext E26
  have F_address_b23__26 : Fld Z h26 b23 "com/example/decant/decant/decompiler/ir/Global" "address" "J" (.long (0 : Int64)) := F_address_b23.ext E26
  have F_size_b23__26 : Fld Z h26 b23 "com/example/decant/decant/decompiler/ir/Global" "size" "J" (.long (0 : Int64)) := F_size_b23.ext E26
  have F_initial_b23__26 : Fld Z h26 b23 "com/example/decant/decant/decompiler/ir/Global" "initial" "[B" .null := F_initial_b23.ext E26
  have F_readOnly_b23__26 : Fld Z h26 b23 "com/example/decant/decant/decompiler/ir/Global" "readOnly" "Z" (.int (0 : Int32)) := F_readOnly_b23.ext E26
  have F_shared_b23__26 : Fld Z h26 b23 "com/example/decant/decant/decompiler/ir/Global" "shared" "Z" (.int (0 : Int32)) := F_shared_b23.ext E26
  have sz26 : n0 ≤ h26.size := Nat.le_trans sz23 E26.1
  have pre27 : ∀ t, Steps p.tables e below (T26.setTop (mkF m 93 #[.val (.long q1), .second, .val (.long q2), .second, .val (.int p3), .val (.ref b2), .val (.int byt), .val (.long off), .second, .unset, .unset, .unset, .unset, .unset] [(.ref sa26), (.ref b23), (.ref b23)])) t → Steps p.tables e below (s₁.setTop (entryFrame m #[(.long q1), (.long q2), (.int p3)] maxLocals)) t := fun t k => pre25 t (st26 _ k)
  have pre28 : ∀ t, Steps p.tables e below (T26.setTop (mkF m 101 #[.val (.long q1), .second, .val (.long q2), .second, .val (.int p3), .val (.ref b2), .val (.int byt), .val (.long off), .second, .unset, .unset, .unset, .unset, .unset] [(.int (0 : Int32)), (.int (0 : Int32)), (.ref b2), (.long (16 : Int64)), (.long (0 : Int64)), (.ref sa26), (.ref b23), (.ref b23)])) t → Steps p.tables e below (s₁.setTop (entryFrame m #[(.long q1), (.long q2), (.int p3)] maxLocals)) t := fun t k => pre27 t (by
    show Steps p.tables e below (T26.setTop (mkF m 93 #[.val (.long q1), .second, .val (.long q2), .second, .val (.int p3), .val (.ref b2), .val (.int byt), .val (.long off), .second, .unset, .unset, .unset, .unset, .unset] [(.ref sa26), (.ref b23), (.ref b23)])) t
    refine XT.lconstV X26.here hx rfl (0 : Int64) (hb hby at_93) (by decide) ?_
    show Steps p.tables e below (T26.setTop (mkF m 94 #[.val (.long q1), .second, .val (.long q2), .second, .val (.int p3), .val (.ref b2), .val (.int byt), .val (.long off), .second, .unset, .unset, .unset, .unset, .unset] [(.long (0 : Int64)), (.ref sa26), (.ref b23), (.ref b23)])) t
    refine X26.ldc2Long hx ho26 (mvT hZ26 (hw _ (List.mem_of_getElem? (i := 12) rfl))) (g := (mkF m 94 #[.val (.long q1), .second, .val (.long q2), .second, .val (.int p3), .val (.ref b2), .val (.int byt), .val (.long off), .second, .unset, .unset, .unset, .unset, .unset] [(.long (0 : Int64)), (.ref sa26), (.ref b23), (.ref b23)])) rfl (hb hby at_94) _ ?_
    show Steps p.tables e below (T26.setTop (mkF m 97 #[.val (.long q1), .second, .val (.long q2), .second, .val (.int p3), .val (.ref b2), .val (.int byt), .val (.long off), .second, .unset, .unset, .unset, .unset, .unset] [(.long (16 : Int64)), (.long (0 : Int64)), (.ref sa26), (.ref b23), (.ref b23)])) t
    refine XS.aload X26.here hx rfl (hb hby at_97) rfl rfl ?_
    show Steps p.tables e below (T26.setTop (mkF m 99 #[.val (.long q1), .second, .val (.long q2), .second, .val (.int p3), .val (.ref b2), .val (.int byt), .val (.long off), .second, .unset, .unset, .unset, .unset, .unset] [(.ref b2), (.long (16 : Int64)), (.long (0 : Int64)), (.ref sa26), (.ref b23), (.ref b23)])) t
    refine XS.iconst X26.here hx rfl (hb hby at_99) ?_
    show Steps p.tables e below (T26.setTop (mkF m 100 #[.val (.long q1), .second, .val (.long q2), .second, .val (.int p3), .val (.ref b2), .val (.int byt), .val (.long off), .second, .unset, .unset, .unset, .unset, .unset] [(.int (0 : Int32)), (.ref b2), (.long (16 : Int64)), (.long (0 : Int64)), (.ref sa26), (.ref b23), (.ref b23)])) t
    refine XS.iconst X26.here hx rfl (hb hby at_100) ?_
    show Steps p.tables e below (T26.setTop (mkF m 101 #[.val (.long q1), .second, .val (.long q2), .second, .val (.int p3), .val (.ref b2), .val (.int byt), .val (.long off), .second, .unset, .unset, .unset, .unset, .unset] [(.int (0 : Int32)), (.int (0 : Int32)), (.ref b2), (.long (16 : Int64)), (.long (0 : Int64)), (.ref sa26), (.ref b23), (.ref b23)])) t
    exact k)
  obtain ⟨_, _, ⟨T29, L29, k29, n29⟩, -, X29, ⟨Lc29, hQ29, l29, y29, z29⟩, st29⟩ := X26.specialBack hx (y := (⟨"com/example/decant/decant/decompiler/ir/Global", "<init>", "(Ljava/lang/String;JJ[BZZ)V"⟩ : MethodName)) rfl ho26 (mvT hZ26 (hw _ (List.mem_of_getElem? (i := 13) rfl))) (mvT hZ26 (hw _ (List.mem_of_getElem? (i := 14) rfl))) (mvT hZ26 (hw _ (List.mem_of_getElem? (i := 15) rfl))) (by decide) (backOf (W := 1) (rm1 l Z a0 hw [] b23 sa26 b2 .null (.long (0 : Int64)) (.long (0 : Int64)) .null (.int (0 : Int32)) (.int (0 : Int32)) k2 (nar .byte q1.toInt32.toInt8.toInt32) (nar .byte (XT.ushrL q1 (8 : Int32)).toInt32.toInt8.toInt32) (nar .byte (XT.ushrL q1 (16 : Int32)).toInt32.toInt8.toInt32) (nar .byte (XT.ushrL q1 (24 : Int32)).toInt32.toInt8.toInt32) (nar .byte (XT.ushrL q1 (32 : Int32)).toInt32.toInt8.toInt32) h26 n0 sz26 A23__26 F_name_b23__26 F_address_b23__26 F_size_b23__26 F_initial_b23__26 F_readOnly_b23__26 F_shared_b23__26 g_b23 V_b2__26 Ex2__26 (Ne.symm ne_b2_b23)) hZ26 (hw _ (List.mem_of_getElem? (i := 15) rfl)) (hw _ (List.mem_of_getElem? (i := 4) rfl)) (by decide) (by decide)) (g := (mkF m 101 #[.val (.long q1), .second, .val (.long q2), .second, .val (.int p3), .val (.ref b2), .val (.int byt), .val (.long off), .second, .unset, .unset, .unset, .unset, .unset] [(.int (0 : Int32)), (.int (0 : Int32)), (.ref b2), (.long (16 : Int64)), (.long (0 : Int64)), (.ref sa26), (.ref b23), (.ref b23)])) rfl (by rw [hml]; rfl) (Steps.refl _) (a := b23) (argsL := [(.ref sa26), (.long (0 : Int64)), (.long (16 : Int64)), (.ref b2), (.int (0 : Int32)), (.int (0 : Int32))]) (rest := [(.ref b23)]) (lenOf pd_oLjava_lang_String_JJaBZZcV rfl) rfl (by show 2 * 0 + _ ≤ _; exact Nat.le_of_eq rfl) (hb hby at_101) (fun _ _ => ⟨rfl, eh26, (by decide : 4 + 1 ≤ _), (by decide : 19 + 5 ≤ _)⟩)
  dsimp only [Pt.U, Pt.locs, Pt.cells, Pt.slots] at X29 l29 y29 z29 st29 hQ29
  subst l29 y29 z29
  obtain ⟨ar_29, kn_29, rfl, N29q, Kq29, P29_1, P29_2, P29_3, P29_4⟩ := hQ29
  have V_b2__29 : Arv Z T29.heap b2 k2 .byte (5 : Int32) [(.int (nar .byte q1.toInt32.toInt8.toInt32)), (.int (nar .byte (XT.ushrL q1 (8 : Int32)).toInt32.toInt8.toInt32)), (.int (nar .byte (XT.ushrL q1 (16 : Int32)).toInt32.toInt8.toInt32)), (.int (nar .byte (XT.ushrL q1 (24 : Int32)).toInt32.toInt8.toInt32)), (.int (nar .byte (XT.ushrL q1 (32 : Int32)).toInt32.toInt8.toInt32))] (.int (0 : Int32)) := V_b2__26.keep Kq29 (ninS ne_b2_b23 nin0)
  have Ex2__29 : Exa Z T29.heap b2 "[B" := Ex2__26.keep Kq29
  have ne_b2_ar_29 : b2 ≠ ar_29 := Nat.ne_of_lt (Nat.lt_of_lt_of_le V_b2__26.lt P29_1)
  have ne_b23_ar_29 : b23 ≠ ar_29 := Nat.ne_of_lt (Nat.lt_of_lt_of_le A23__26.lt P29_1)
  have g_ar_29 : n0 ≤ ar_29 := Nat.le_trans sz26 P29_1
  have sz29 : n0 ≤ T29.heap.size := Nat.le_trans sz26 Kq29.1
  have hk29' := Nat.le_trans hk26 Kq29.1
  have N29 := Fr.app N17 N29q
  have pre30 : ∀ t, Steps p.tables e below (T29.setTop (mkF m 104 #[.val (.long q1), .second, .val (.long q2), .second, .val (.int p3), .val (.ref b2), .val (.int byt), .val (.long off), .second, .unset, .unset, .unset, .unset, .unset] [(.ref b23)])) t → Steps p.tables e below (s₁.setTop (entryFrame m #[(.long q1), (.long q2), (.int p3)] maxLocals)) t := fun t k => pre28 t (st29.trans k)
  have pre31 : ∀ t, Steps p.tables e below (T29.setTop (mkF m 112 #[.val (.long q1), .second, .val (.long q2), .second, .val (.int p3), .val (.ref b2), .val (.int byt), .val (.long off), .second, .val (.ref b23), .unset, .unset, .unset, .unset] [(.int byt), (.long off), (.ref b23)])) t → Steps p.tables e below (s₁.setTop (entryFrame m #[(.long q1), (.long q2), (.int p3)] maxLocals)) t := fun t k => pre30 t (by
    show Steps p.tables e below (T29.setTop (mkF m 104 #[.val (.long q1), .second, .val (.long q2), .second, .val (.int p3), .val (.ref b2), .val (.int byt), .val (.long off), .second, .unset, .unset, .unset, .unset, .unset] [(.ref b23)])) t
    refine XS.astore X29.here hx rfl (hb hby at_104) rfl rfl (l' := #[.val (.long q1), .second, .val (.long q2), .second, .val (.int p3), .val (.ref b2), .val (.int byt), .val (.long off), .second, .val (.ref b23), .unset, .unset, .unset, .unset]) rfl ?_
    show Steps p.tables e below (T29.setTop (mkF m 106 #[.val (.long q1), .second, .val (.long q2), .second, .val (.int p3), .val (.ref b2), .val (.int byt), .val (.long off), .second, .val (.ref b23), .unset, .unset, .unset, .unset] [])) t
    refine XS.aload X29.here hx rfl (hb hby at_106) rfl rfl ?_
    show Steps p.tables e below (T29.setTop (mkF m 108 #[.val (.long q1), .second, .val (.long q2), .second, .val (.int p3), .val (.ref b2), .val (.int byt), .val (.long off), .second, .val (.ref b23), .unset, .unset, .unset, .unset] [(.ref b23)])) t
    refine XT.lload X29.here hx rfl (hb hby at_108) rfl ?_
    show Steps p.tables e below (T29.setTop (mkF m 110 #[.val (.long q1), .second, .val (.long q2), .second, .val (.int p3), .val (.ref b2), .val (.int byt), .val (.long off), .second, .val (.ref b23), .unset, .unset, .unset, .unset] [(.long off), (.ref b23)])) t
    refine XS.iload X29.here hx rfl (hb hby at_110) rfl ?_
    show Steps p.tables e below (T29.setTop (mkF m 112 #[.val (.long q1), .second, .val (.long q2), .second, .val (.int p3), .val (.ref b2), .val (.int byt), .val (.long off), .second, .val (.ref b23), .unset, .unset, .unset, .unset] [(.int byt), (.long off), (.ref b23)])) t
    exact k)
  obtain ⟨cq32, kq32, q32a, q32b, q32c⟩ := isOf hZ26 rfl P29_2
  obtain ⟨_, _, ⟨T32, L32, k32, n32⟩, -, X32, ⟨Lc32, hQ32, l32, y32, z32⟩, st32⟩ := X29.virtualBack hx (y := (⟨"com/example/decant/decant/decompiler/ir/Global", "initialValue", "(JI)J"⟩ : MethodName)) (z := (⟨"com/example/decant/decant/decompiler/ir/Global", "initialValue", "(JI)J"⟩ : MethodName)) ho26 (mvT hZ26 (hw _ (List.mem_of_getElem? (i := 40) rfl))) (mvT hZ26 (hw _ (List.mem_of_getElem? (i := 41) rfl))) (notFace_of_selects (args := #[]) (mvT hZ26 (hw _ (List.mem_of_getElem? (i := 43) rfl)))) (mvT hZ26 (hw _ (List.mem_of_getElem? (i := 43) rfl))) (mvT hZ26 (hw _ (List.mem_of_getElem? (i := 42) rfl))) (by decide) (backOf (W := 0) (rm3 l Z a0 hw [] b23 off byt ar_29 kn_29 (nar .byte q1.toInt32.toInt8.toInt32) (nar .byte (XT.ushrL q1 (8 : Int32)).toInt32.toInt8.toInt32) (nar .byte (XT.ushrL q1 (16 : Int32)).toInt32.toInt8.toInt32) (nar .byte (XT.ushrL q1 (24 : Int32)).toInt32.toInt8.toInt32) (nar .byte (XT.ushrL q1 (32 : Int32)).toInt32.toInt8.toInt32) T29.heap n0 sz29 P29_3 P29_4 (show 0 ≤ byt.toInt ∧ byt.toInt ≤ 8 from hbyt) (show 0 ≤ off.toInt ∧ off.toInt < 2 ^ 62 from hoff)) hZ26 (hw _ (List.mem_of_getElem? (i := 44) rfl)) (hw _ (List.mem_of_getElem? (i := 4) rfl)) (by decide) (by decide)) q32a q32c (g := (mkF m 112 #[.val (.long q1), .second, .val (.long q2), .second, .val (.int p3), .val (.ref b2), .val (.int byt), .val (.long off), .second, .val (.ref b23), .unset, .unset, .unset, .unset] [(.int byt), (.long off), (.ref b23)])) rfl (by rw [hml]; rfl) (Steps.refl _) (argsL := [(.long off), (.int byt)]) (rest := []) (lenOf pd_oJIcJ rfl) rfl (by show 2 * 0 + _ ≤ _; exact Nat.le_of_eq rfl) (hb hby at_112) (fun _ _ => ⟨rfl, rfl, (by decide : 5 + 0 ≤ _), (by decide : 24 + 0 ≤ _)⟩)
  dsimp only [Pt.U, Pt.locs, Pt.cells, Pt.slots] at X32 l32 y32 z32 st32 hQ32
  subst l32 y32 z32
  obtain ⟨rfl, N32q, eh32⟩ := hQ32
  have N32 := Fr.app N29 N32q
  have pre33 : ∀ t, Steps p.tables e below (T32.setTop (mkF m 115 #[.val (.long q1), .second, .val (.long q2), .second, .val (.int p3), .val (.ref b2), .val (.int byt), .val (.long off), .second, .val (.ref b23), .unset, .unset, .unset, .unset] [(.long (own_iv (nar .byte q1.toInt32.toInt8.toInt32) (nar .byte (XT.ushrL q1 (8 : Int32)).toInt32.toInt8.toInt32) (nar .byte (XT.ushrL q1 (16 : Int32)).toInt32.toInt8.toInt32) (nar .byte (XT.ushrL q1 (24 : Int32)).toInt32.toInt8.toInt32) (nar .byte (XT.ushrL q1 (32 : Int32)).toInt32.toInt8.toInt32) off byt.toInt.toNat (0 : Int64)))])) t → Steps p.tables e below (s₁.setTop (entryFrame m #[(.long q1), (.long q2), (.int p3)] maxLocals)) t := fun t k => pre31 t (st32.trans k)
  have pre34 : ∀ t, Steps p.tables e below (T32.setTop (mkF m 123 #[.val (.long q1), .second, .val (.long q2), .second, .val (.int p3), .val (.ref b2), .val (.int byt), .val (.long off), .second, .val (.ref b23), .val (.long (own_iv (nar .byte q1.toInt32.toInt8.toInt32) (nar .byte (XT.ushrL q1 (8 : Int32)).toInt32.toInt8.toInt32) (nar .byte (XT.ushrL q1 (16 : Int32)).toInt32.toInt8.toInt32) (nar .byte (XT.ushrL q1 (24 : Int32)).toInt32.toInt8.toInt32) (nar .byte (XT.ushrL q1 (32 : Int32)).toInt32.toInt8.toInt32) off byt.toInt.toNat (0 : Int64))), .second, .unset, .unset] [(.int byt), (.int (0 : Int32)), (.long off), (.long q1)])) t → Steps p.tables e below (s₁.setTop (entryFrame m #[(.long q1), (.long q2), (.int p3)] maxLocals)) t := fun t k => pre33 t (by
    show Steps p.tables e below (T32.setTop (mkF m 115 #[.val (.long q1), .second, .val (.long q2), .second, .val (.int p3), .val (.ref b2), .val (.int byt), .val (.long off), .second, .val (.ref b23), .unset, .unset, .unset, .unset] [(.long (own_iv (nar .byte q1.toInt32.toInt8.toInt32) (nar .byte (XT.ushrL q1 (8 : Int32)).toInt32.toInt8.toInt32) (nar .byte (XT.ushrL q1 (16 : Int32)).toInt32.toInt8.toInt32) (nar .byte (XT.ushrL q1 (24 : Int32)).toInt32.toInt8.toInt32) (nar .byte (XT.ushrL q1 (32 : Int32)).toInt32.toInt8.toInt32) off byt.toInt.toNat (0 : Int64)))])) t
    refine XT.lstore X32.here hx rfl (hb hby at_115) rfl (l' := #[.val (.long q1), .second, .val (.long q2), .second, .val (.int p3), .val (.ref b2), .val (.int byt), .val (.long off), .second, .val (.ref b23), .val (.long (own_iv (nar .byte q1.toInt32.toInt8.toInt32) (nar .byte (XT.ushrL q1 (8 : Int32)).toInt32.toInt8.toInt32) (nar .byte (XT.ushrL q1 (16 : Int32)).toInt32.toInt8.toInt32) (nar .byte (XT.ushrL q1 (24 : Int32)).toInt32.toInt8.toInt32) (nar .byte (XT.ushrL q1 (32 : Int32)).toInt32.toInt8.toInt32) off byt.toInt.toNat (0 : Int64))), .second, .unset, .unset]) rfl ?_
    show Steps p.tables e below (T32.setTop (mkF m 117 #[.val (.long q1), .second, .val (.long q2), .second, .val (.int p3), .val (.ref b2), .val (.int byt), .val (.long off), .second, .val (.ref b23), .val (.long (own_iv (nar .byte q1.toInt32.toInt8.toInt32) (nar .byte (XT.ushrL q1 (8 : Int32)).toInt32.toInt8.toInt32) (nar .byte (XT.ushrL q1 (16 : Int32)).toInt32.toInt8.toInt32) (nar .byte (XT.ushrL q1 (24 : Int32)).toInt32.toInt8.toInt32) (nar .byte (XT.ushrL q1 (32 : Int32)).toInt32.toInt8.toInt32) off byt.toInt.toNat (0 : Int64))), .second, .unset, .unset] [])) t
    refine XT.lloadN X32.here hx rfl (hb hby at_117) rfl ?_
    show Steps p.tables e below (T32.setTop (mkF m 118 #[.val (.long q1), .second, .val (.long q2), .second, .val (.int p3), .val (.ref b2), .val (.int byt), .val (.long off), .second, .val (.ref b23), .val (.long (own_iv (nar .byte q1.toInt32.toInt8.toInt32) (nar .byte (XT.ushrL q1 (8 : Int32)).toInt32.toInt8.toInt32) (nar .byte (XT.ushrL q1 (16 : Int32)).toInt32.toInt8.toInt32) (nar .byte (XT.ushrL q1 (24 : Int32)).toInt32.toInt8.toInt32) (nar .byte (XT.ushrL q1 (32 : Int32)).toInt32.toInt8.toInt32) off byt.toInt.toNat (0 : Int64))), .second, .unset, .unset] [(.long q1)])) t
    refine XT.lload X32.here hx rfl (hb hby at_118) rfl ?_
    show Steps p.tables e below (T32.setTop (mkF m 120 #[.val (.long q1), .second, .val (.long q2), .second, .val (.int p3), .val (.ref b2), .val (.int byt), .val (.long off), .second, .val (.ref b23), .val (.long (own_iv (nar .byte q1.toInt32.toInt8.toInt32) (nar .byte (XT.ushrL q1 (8 : Int32)).toInt32.toInt8.toInt32) (nar .byte (XT.ushrL q1 (16 : Int32)).toInt32.toInt8.toInt32) (nar .byte (XT.ushrL q1 (24 : Int32)).toInt32.toInt8.toInt32) (nar .byte (XT.ushrL q1 (32 : Int32)).toInt32.toInt8.toInt32) off byt.toInt.toNat (0 : Int64))), .second, .unset, .unset] [(.long off), (.long q1)])) t
    refine XS.iconst X32.here hx rfl (hb hby at_120) ?_
    show Steps p.tables e below (T32.setTop (mkF m 121 #[.val (.long q1), .second, .val (.long q2), .second, .val (.int p3), .val (.ref b2), .val (.int byt), .val (.long off), .second, .val (.ref b23), .val (.long (own_iv (nar .byte q1.toInt32.toInt8.toInt32) (nar .byte (XT.ushrL q1 (8 : Int32)).toInt32.toInt8.toInt32) (nar .byte (XT.ushrL q1 (16 : Int32)).toInt32.toInt8.toInt32) (nar .byte (XT.ushrL q1 (24 : Int32)).toInt32.toInt8.toInt32) (nar .byte (XT.ushrL q1 (32 : Int32)).toInt32.toInt8.toInt32) off byt.toInt.toNat (0 : Int64))), .second, .unset, .unset] [(.int (0 : Int32)), (.long off), (.long q1)])) t
    refine XS.iload X32.here hx rfl (hb hby at_121) rfl ?_
    show Steps p.tables e below (T32.setTop (mkF m 123 #[.val (.long q1), .second, .val (.long q2), .second, .val (.int p3), .val (.ref b2), .val (.int byt), .val (.long off), .second, .val (.ref b23), .val (.long (own_iv (nar .byte q1.toInt32.toInt8.toInt32) (nar .byte (XT.ushrL q1 (8 : Int32)).toInt32.toInt8.toInt32) (nar .byte (XT.ushrL q1 (16 : Int32)).toInt32.toInt8.toInt32) (nar .byte (XT.ushrL q1 (24 : Int32)).toInt32.toInt8.toInt32) (nar .byte (XT.ushrL q1 (32 : Int32)).toInt32.toInt8.toInt32) off byt.toInt.toNat (0 : Int64))), .second, .unset, .unset] [(.int byt), (.int (0 : Int32)), (.long off), (.long q1)])) t
    exact k)
  obtain ⟨_, _, ⟨T35, L35, k35, n35⟩, -, X35, ⟨Lc35, hQ35, l35, y35, z35⟩, st35⟩ := Jvm.LawKit.callS X32 hx (y := (⟨"com/example/decant/decant/decompiler/ir/GlobalInitialValuePinLaw", "term", "(JJII)J"⟩ : MethodName)) ho26 (mvT hZ26 (hw _ (List.mem_of_getElem? (i := 45) rfl))) (mvT hZ26 (hw _ (List.mem_of_getElem? (i := 46) rfl))) (mvT hZ26 (hw _ (List.mem_of_getElem? (i := 47) rfl))) (mvT hZ26 (hw _ (List.mem_of_getElem? (i := 48) rfl))) (by decide) (backOf (W := 0) (rm4 l Z a0 hw [] q1 off (0 : Int32) byt T29.heap n0 sz29 ) hZ26 (hw _ (List.mem_of_getElem? (i := 48) rfl)) (hw _ (List.mem_of_getElem? (i := 47) rfl)) (by decide) (by decide)) (g := (mkF m 123 #[.val (.long q1), .second, .val (.long q2), .second, .val (.int p3), .val (.ref b2), .val (.int byt), .val (.long off), .second, .val (.ref b23), .val (.long (own_iv (nar .byte q1.toInt32.toInt8.toInt32) (nar .byte (XT.ushrL q1 (8 : Int32)).toInt32.toInt8.toInt32) (nar .byte (XT.ushrL q1 (16 : Int32)).toInt32.toInt8.toInt32) (nar .byte (XT.ushrL q1 (24 : Int32)).toInt32.toInt8.toInt32) (nar .byte (XT.ushrL q1 (32 : Int32)).toInt32.toInt8.toInt32) off byt.toInt.toNat (0 : Int64))), .second, .unset, .unset] [(.int byt), (.int (0 : Int32)), (.long off), (.long q1)])) rfl (by rw [hml]; rfl) (argsL := [(.long q1), (.long off), (.int (0 : Int32)), (.int byt)]) (rest := []) (lenOf pd_oJJIIcJ rfl) rfl (by show 2 * 0 + _ ≤ _; exact Nat.le_of_eq rfl) (hb hby at_123) (fun _ _ => ⟨rfl, eh32, (by decide : 5 + 0 ≤ _), (by decide : 24 + 0 ≤ _)⟩)
  dsimp only [Pt.U, Pt.locs, Pt.cells, Pt.slots] at X35 l35 y35 z35 st35 hQ35
  subst l35 y35 z35
  obtain ⟨rfl, N35q, eh35⟩ := hQ35
  have N35 := Fr.app N32 N35q
  have pre36 : ∀ t, Steps p.tables e below (T35.setTop (mkF m 126 #[.val (.long q1), .second, .val (.long q2), .second, .val (.int p3), .val (.ref b2), .val (.int byt), .val (.long off), .second, .val (.ref b23), .val (.long (own_iv (nar .byte q1.toInt32.toInt8.toInt32) (nar .byte (XT.ushrL q1 (8 : Int32)).toInt32.toInt8.toInt32) (nar .byte (XT.ushrL q1 (16 : Int32)).toInt32.toInt8.toInt32) (nar .byte (XT.ushrL q1 (24 : Int32)).toInt32.toInt8.toInt32) (nar .byte (XT.ushrL q1 (32 : Int32)).toInt32.toInt8.toInt32) off byt.toInt.toNat (0 : Int64))), .second, .unset, .unset] [(.long (own_term q1 off (0 : Int32) byt))])) t → Steps p.tables e below (s₁.setTop (entryFrame m #[(.long q1), (.long q2), (.int p3)] maxLocals)) t := fun t k => pre34 t (st35 _ k)
  have pre37 : ∀ t, Steps p.tables e below (T35.setTop (mkF m 132 #[.val (.long q1), .second, .val (.long q2), .second, .val (.int p3), .val (.ref b2), .val (.int byt), .val (.long off), .second, .val (.ref b23), .val (.long (own_iv (nar .byte q1.toInt32.toInt8.toInt32) (nar .byte (XT.ushrL q1 (8 : Int32)).toInt32.toInt8.toInt32) (nar .byte (XT.ushrL q1 (16 : Int32)).toInt32.toInt8.toInt32) (nar .byte (XT.ushrL q1 (24 : Int32)).toInt32.toInt8.toInt32) (nar .byte (XT.ushrL q1 (32 : Int32)).toInt32.toInt8.toInt32) off byt.toInt.toNat (0 : Int64))), .second, .unset, .unset] [(.int byt), (.int (1 : Int32)), (.long off), (.long q1), (.long (own_term q1 off (0 : Int32) byt))])) t → Steps p.tables e below (s₁.setTop (entryFrame m #[(.long q1), (.long q2), (.int p3)] maxLocals)) t := fun t k => pre36 t (by
    show Steps p.tables e below (T35.setTop (mkF m 126 #[.val (.long q1), .second, .val (.long q2), .second, .val (.int p3), .val (.ref b2), .val (.int byt), .val (.long off), .second, .val (.ref b23), .val (.long (own_iv (nar .byte q1.toInt32.toInt8.toInt32) (nar .byte (XT.ushrL q1 (8 : Int32)).toInt32.toInt8.toInt32) (nar .byte (XT.ushrL q1 (16 : Int32)).toInt32.toInt8.toInt32) (nar .byte (XT.ushrL q1 (24 : Int32)).toInt32.toInt8.toInt32) (nar .byte (XT.ushrL q1 (32 : Int32)).toInt32.toInt8.toInt32) off byt.toInt.toNat (0 : Int64))), .second, .unset, .unset] [(.long (own_term q1 off (0 : Int32) byt))])) t
    refine XT.lloadN X35.here hx rfl (hb hby at_126) rfl ?_
    show Steps p.tables e below (T35.setTop (mkF m 127 #[.val (.long q1), .second, .val (.long q2), .second, .val (.int p3), .val (.ref b2), .val (.int byt), .val (.long off), .second, .val (.ref b23), .val (.long (own_iv (nar .byte q1.toInt32.toInt8.toInt32) (nar .byte (XT.ushrL q1 (8 : Int32)).toInt32.toInt8.toInt32) (nar .byte (XT.ushrL q1 (16 : Int32)).toInt32.toInt8.toInt32) (nar .byte (XT.ushrL q1 (24 : Int32)).toInt32.toInt8.toInt32) (nar .byte (XT.ushrL q1 (32 : Int32)).toInt32.toInt8.toInt32) off byt.toInt.toNat (0 : Int64))), .second, .unset, .unset] [(.long q1), (.long (own_term q1 off (0 : Int32) byt))])) t
    refine XT.lload X35.here hx rfl (hb hby at_127) rfl ?_
    show Steps p.tables e below (T35.setTop (mkF m 129 #[.val (.long q1), .second, .val (.long q2), .second, .val (.int p3), .val (.ref b2), .val (.int byt), .val (.long off), .second, .val (.ref b23), .val (.long (own_iv (nar .byte q1.toInt32.toInt8.toInt32) (nar .byte (XT.ushrL q1 (8 : Int32)).toInt32.toInt8.toInt32) (nar .byte (XT.ushrL q1 (16 : Int32)).toInt32.toInt8.toInt32) (nar .byte (XT.ushrL q1 (24 : Int32)).toInt32.toInt8.toInt32) (nar .byte (XT.ushrL q1 (32 : Int32)).toInt32.toInt8.toInt32) off byt.toInt.toNat (0 : Int64))), .second, .unset, .unset] [(.long off), (.long q1), (.long (own_term q1 off (0 : Int32) byt))])) t
    refine XS.iconst X35.here hx rfl (hb hby at_129) ?_
    show Steps p.tables e below (T35.setTop (mkF m 130 #[.val (.long q1), .second, .val (.long q2), .second, .val (.int p3), .val (.ref b2), .val (.int byt), .val (.long off), .second, .val (.ref b23), .val (.long (own_iv (nar .byte q1.toInt32.toInt8.toInt32) (nar .byte (XT.ushrL q1 (8 : Int32)).toInt32.toInt8.toInt32) (nar .byte (XT.ushrL q1 (16 : Int32)).toInt32.toInt8.toInt32) (nar .byte (XT.ushrL q1 (24 : Int32)).toInt32.toInt8.toInt32) (nar .byte (XT.ushrL q1 (32 : Int32)).toInt32.toInt8.toInt32) off byt.toInt.toNat (0 : Int64))), .second, .unset, .unset] [(.int (1 : Int32)), (.long off), (.long q1), (.long (own_term q1 off (0 : Int32) byt))])) t
    refine XS.iload X35.here hx rfl (hb hby at_130) rfl ?_
    show Steps p.tables e below (T35.setTop (mkF m 132 #[.val (.long q1), .second, .val (.long q2), .second, .val (.int p3), .val (.ref b2), .val (.int byt), .val (.long off), .second, .val (.ref b23), .val (.long (own_iv (nar .byte q1.toInt32.toInt8.toInt32) (nar .byte (XT.ushrL q1 (8 : Int32)).toInt32.toInt8.toInt32) (nar .byte (XT.ushrL q1 (16 : Int32)).toInt32.toInt8.toInt32) (nar .byte (XT.ushrL q1 (24 : Int32)).toInt32.toInt8.toInt32) (nar .byte (XT.ushrL q1 (32 : Int32)).toInt32.toInt8.toInt32) off byt.toInt.toNat (0 : Int64))), .second, .unset, .unset] [(.int byt), (.int (1 : Int32)), (.long off), (.long q1), (.long (own_term q1 off (0 : Int32) byt))])) t
    exact k)
  obtain ⟨_, _, ⟨T38, L38, k38, n38⟩, -, X38, ⟨Lc38, hQ38, l38, y38, z38⟩, st38⟩ := Jvm.LawKit.callS X35 hx (y := (⟨"com/example/decant/decant/decompiler/ir/GlobalInitialValuePinLaw", "term", "(JJII)J"⟩ : MethodName)) ho26 (mvT hZ26 (hw _ (List.mem_of_getElem? (i := 45) rfl))) (mvT hZ26 (hw _ (List.mem_of_getElem? (i := 46) rfl))) (mvT hZ26 (hw _ (List.mem_of_getElem? (i := 47) rfl))) (mvT hZ26 (hw _ (List.mem_of_getElem? (i := 48) rfl))) (by decide) (backOf (W := 2) (rm4 l Z a0 hw [] q1 off (1 : Int32) byt T29.heap n0 sz29 ) hZ26 (hw _ (List.mem_of_getElem? (i := 48) rfl)) (hw _ (List.mem_of_getElem? (i := 47) rfl)) (by decide) (by decide)) (g := (mkF m 132 #[.val (.long q1), .second, .val (.long q2), .second, .val (.int p3), .val (.ref b2), .val (.int byt), .val (.long off), .second, .val (.ref b23), .val (.long (own_iv (nar .byte q1.toInt32.toInt8.toInt32) (nar .byte (XT.ushrL q1 (8 : Int32)).toInt32.toInt8.toInt32) (nar .byte (XT.ushrL q1 (16 : Int32)).toInt32.toInt8.toInt32) (nar .byte (XT.ushrL q1 (24 : Int32)).toInt32.toInt8.toInt32) (nar .byte (XT.ushrL q1 (32 : Int32)).toInt32.toInt8.toInt32) off byt.toInt.toNat (0 : Int64))), .second, .unset, .unset] [(.int byt), (.int (1 : Int32)), (.long off), (.long q1), (.long (own_term q1 off (0 : Int32) byt))])) rfl (by rw [hml]; rfl) (argsL := [(.long q1), (.long off), (.int (1 : Int32)), (.int byt)]) (rest := [(.long (own_term q1 off (0 : Int32) byt))]) (lenOf pd_oJJIIcJ rfl) rfl (by show 2 * 0 + _ ≤ _; exact Nat.le_of_eq rfl) (hb hby at_132) (fun _ _ => ⟨rfl, eh35, (by decide : 5 + 0 ≤ _), (by decide : 24 + 0 ≤ _)⟩)
  dsimp only [Pt.U, Pt.locs, Pt.cells, Pt.slots] at X38 l38 y38 z38 st38 hQ38
  subst l38 y38 z38
  obtain ⟨rfl, N38q, eh38⟩ := hQ38
  have N38 := Fr.app N35 N38q
  have pre39 : ∀ t, Steps p.tables e below (T38.setTop (mkF m 135 #[.val (.long q1), .second, .val (.long q2), .second, .val (.int p3), .val (.ref b2), .val (.int byt), .val (.long off), .second, .val (.ref b23), .val (.long (own_iv (nar .byte q1.toInt32.toInt8.toInt32) (nar .byte (XT.ushrL q1 (8 : Int32)).toInt32.toInt8.toInt32) (nar .byte (XT.ushrL q1 (16 : Int32)).toInt32.toInt8.toInt32) (nar .byte (XT.ushrL q1 (24 : Int32)).toInt32.toInt8.toInt32) (nar .byte (XT.ushrL q1 (32 : Int32)).toInt32.toInt8.toInt32) off byt.toInt.toNat (0 : Int64))), .second, .unset, .unset] [(.long (own_term q1 off (1 : Int32) byt)), (.long (own_term q1 off (0 : Int32) byt))])) t → Steps p.tables e below (s₁.setTop (entryFrame m #[(.long q1), (.long q2), (.int p3)] maxLocals)) t := fun t k => pre37 t (st38 _ k)
  have pre40 : ∀ t, Steps p.tables e below (T38.setTop (mkF m 142 #[.val (.long q1), .second, .val (.long q2), .second, .val (.int p3), .val (.ref b2), .val (.int byt), .val (.long off), .second, .val (.ref b23), .val (.long (own_iv (nar .byte q1.toInt32.toInt8.toInt32) (nar .byte (XT.ushrL q1 (8 : Int32)).toInt32.toInt8.toInt32) (nar .byte (XT.ushrL q1 (16 : Int32)).toInt32.toInt8.toInt32) (nar .byte (XT.ushrL q1 (24 : Int32)).toInt32.toInt8.toInt32) (nar .byte (XT.ushrL q1 (32 : Int32)).toInt32.toInt8.toInt32) off byt.toInt.toNat (0 : Int64))), .second, .unset, .unset] [(.int byt), (.int (2 : Int32)), (.long off), (.long q1), (.long ((own_term q1 off (0 : Int32) byt) ||| (own_term q1 off (1 : Int32) byt)))])) t → Steps p.tables e below (s₁.setTop (entryFrame m #[(.long q1), (.long q2), (.int p3)] maxLocals)) t := fun t k => pre39 t (by
    show Steps p.tables e below (T38.setTop (mkF m 135 #[.val (.long q1), .second, .val (.long q2), .second, .val (.int p3), .val (.ref b2), .val (.int byt), .val (.long off), .second, .val (.ref b23), .val (.long (own_iv (nar .byte q1.toInt32.toInt8.toInt32) (nar .byte (XT.ushrL q1 (8 : Int32)).toInt32.toInt8.toInt32) (nar .byte (XT.ushrL q1 (16 : Int32)).toInt32.toInt8.toInt32) (nar .byte (XT.ushrL q1 (24 : Int32)).toInt32.toInt8.toInt32) (nar .byte (XT.ushrL q1 (32 : Int32)).toInt32.toInt8.toInt32) off byt.toInt.toNat (0 : Int64))), .second, .unset, .unset] [(.long (own_term q1 off (1 : Int32) byt)), (.long (own_term q1 off (0 : Int32) byt))])) t
    refine XT.lor X38.here hx rfl (hb hby at_135) rfl ?_
    show Steps p.tables e below (T38.setTop (mkF m 136 #[.val (.long q1), .second, .val (.long q2), .second, .val (.int p3), .val (.ref b2), .val (.int byt), .val (.long off), .second, .val (.ref b23), .val (.long (own_iv (nar .byte q1.toInt32.toInt8.toInt32) (nar .byte (XT.ushrL q1 (8 : Int32)).toInt32.toInt8.toInt32) (nar .byte (XT.ushrL q1 (16 : Int32)).toInt32.toInt8.toInt32) (nar .byte (XT.ushrL q1 (24 : Int32)).toInt32.toInt8.toInt32) (nar .byte (XT.ushrL q1 (32 : Int32)).toInt32.toInt8.toInt32) off byt.toInt.toNat (0 : Int64))), .second, .unset, .unset] [(.long ((own_term q1 off (0 : Int32) byt) ||| (own_term q1 off (1 : Int32) byt)))])) t
    refine XT.lloadN X38.here hx rfl (hb hby at_136) rfl ?_
    show Steps p.tables e below (T38.setTop (mkF m 137 #[.val (.long q1), .second, .val (.long q2), .second, .val (.int p3), .val (.ref b2), .val (.int byt), .val (.long off), .second, .val (.ref b23), .val (.long (own_iv (nar .byte q1.toInt32.toInt8.toInt32) (nar .byte (XT.ushrL q1 (8 : Int32)).toInt32.toInt8.toInt32) (nar .byte (XT.ushrL q1 (16 : Int32)).toInt32.toInt8.toInt32) (nar .byte (XT.ushrL q1 (24 : Int32)).toInt32.toInt8.toInt32) (nar .byte (XT.ushrL q1 (32 : Int32)).toInt32.toInt8.toInt32) off byt.toInt.toNat (0 : Int64))), .second, .unset, .unset] [(.long q1), (.long ((own_term q1 off (0 : Int32) byt) ||| (own_term q1 off (1 : Int32) byt)))])) t
    refine XT.lload X38.here hx rfl (hb hby at_137) rfl ?_
    show Steps p.tables e below (T38.setTop (mkF m 139 #[.val (.long q1), .second, .val (.long q2), .second, .val (.int p3), .val (.ref b2), .val (.int byt), .val (.long off), .second, .val (.ref b23), .val (.long (own_iv (nar .byte q1.toInt32.toInt8.toInt32) (nar .byte (XT.ushrL q1 (8 : Int32)).toInt32.toInt8.toInt32) (nar .byte (XT.ushrL q1 (16 : Int32)).toInt32.toInt8.toInt32) (nar .byte (XT.ushrL q1 (24 : Int32)).toInt32.toInt8.toInt32) (nar .byte (XT.ushrL q1 (32 : Int32)).toInt32.toInt8.toInt32) off byt.toInt.toNat (0 : Int64))), .second, .unset, .unset] [(.long off), (.long q1), (.long ((own_term q1 off (0 : Int32) byt) ||| (own_term q1 off (1 : Int32) byt)))])) t
    refine XS.iconst X38.here hx rfl (hb hby at_139) ?_
    show Steps p.tables e below (T38.setTop (mkF m 140 #[.val (.long q1), .second, .val (.long q2), .second, .val (.int p3), .val (.ref b2), .val (.int byt), .val (.long off), .second, .val (.ref b23), .val (.long (own_iv (nar .byte q1.toInt32.toInt8.toInt32) (nar .byte (XT.ushrL q1 (8 : Int32)).toInt32.toInt8.toInt32) (nar .byte (XT.ushrL q1 (16 : Int32)).toInt32.toInt8.toInt32) (nar .byte (XT.ushrL q1 (24 : Int32)).toInt32.toInt8.toInt32) (nar .byte (XT.ushrL q1 (32 : Int32)).toInt32.toInt8.toInt32) off byt.toInt.toNat (0 : Int64))), .second, .unset, .unset] [(.int (2 : Int32)), (.long off), (.long q1), (.long ((own_term q1 off (0 : Int32) byt) ||| (own_term q1 off (1 : Int32) byt)))])) t
    refine XS.iload X38.here hx rfl (hb hby at_140) rfl ?_
    show Steps p.tables e below (T38.setTop (mkF m 142 #[.val (.long q1), .second, .val (.long q2), .second, .val (.int p3), .val (.ref b2), .val (.int byt), .val (.long off), .second, .val (.ref b23), .val (.long (own_iv (nar .byte q1.toInt32.toInt8.toInt32) (nar .byte (XT.ushrL q1 (8 : Int32)).toInt32.toInt8.toInt32) (nar .byte (XT.ushrL q1 (16 : Int32)).toInt32.toInt8.toInt32) (nar .byte (XT.ushrL q1 (24 : Int32)).toInt32.toInt8.toInt32) (nar .byte (XT.ushrL q1 (32 : Int32)).toInt32.toInt8.toInt32) off byt.toInt.toNat (0 : Int64))), .second, .unset, .unset] [(.int byt), (.int (2 : Int32)), (.long off), (.long q1), (.long ((own_term q1 off (0 : Int32) byt) ||| (own_term q1 off (1 : Int32) byt)))])) t
    exact k)
  obtain ⟨_, _, ⟨T41, L41, k41, n41⟩, -, X41, ⟨Lc41, hQ41, l41, y41, z41⟩, st41⟩ := Jvm.LawKit.callS X38 hx (y := (⟨"com/example/decant/decant/decompiler/ir/GlobalInitialValuePinLaw", "term", "(JJII)J"⟩ : MethodName)) ho26 (mvT hZ26 (hw _ (List.mem_of_getElem? (i := 45) rfl))) (mvT hZ26 (hw _ (List.mem_of_getElem? (i := 46) rfl))) (mvT hZ26 (hw _ (List.mem_of_getElem? (i := 47) rfl))) (mvT hZ26 (hw _ (List.mem_of_getElem? (i := 48) rfl))) (by decide) (backOf (W := 2) (rm4 l Z a0 hw [] q1 off (2 : Int32) byt T29.heap n0 sz29 ) hZ26 (hw _ (List.mem_of_getElem? (i := 48) rfl)) (hw _ (List.mem_of_getElem? (i := 47) rfl)) (by decide) (by decide)) (g := (mkF m 142 #[.val (.long q1), .second, .val (.long q2), .second, .val (.int p3), .val (.ref b2), .val (.int byt), .val (.long off), .second, .val (.ref b23), .val (.long (own_iv (nar .byte q1.toInt32.toInt8.toInt32) (nar .byte (XT.ushrL q1 (8 : Int32)).toInt32.toInt8.toInt32) (nar .byte (XT.ushrL q1 (16 : Int32)).toInt32.toInt8.toInt32) (nar .byte (XT.ushrL q1 (24 : Int32)).toInt32.toInt8.toInt32) (nar .byte (XT.ushrL q1 (32 : Int32)).toInt32.toInt8.toInt32) off byt.toInt.toNat (0 : Int64))), .second, .unset, .unset] [(.int byt), (.int (2 : Int32)), (.long off), (.long q1), (.long ((own_term q1 off (0 : Int32) byt) ||| (own_term q1 off (1 : Int32) byt)))])) rfl (by rw [hml]; rfl) (argsL := [(.long q1), (.long off), (.int (2 : Int32)), (.int byt)]) (rest := [(.long ((own_term q1 off (0 : Int32) byt) ||| (own_term q1 off (1 : Int32) byt)))]) (lenOf pd_oJJIIcJ rfl) rfl (by show 2 * 0 + _ ≤ _; exact Nat.le_of_eq rfl) (hb hby at_142) (fun _ _ => ⟨rfl, eh38, (by decide : 5 + 0 ≤ _), (by decide : 24 + 0 ≤ _)⟩)
  dsimp only [Pt.U, Pt.locs, Pt.cells, Pt.slots] at X41 l41 y41 z41 st41 hQ41
  subst l41 y41 z41
  obtain ⟨rfl, N41q, eh41⟩ := hQ41
  have N41 := Fr.app N38 N41q
  have pre42 : ∀ t, Steps p.tables e below (T41.setTop (mkF m 145 #[.val (.long q1), .second, .val (.long q2), .second, .val (.int p3), .val (.ref b2), .val (.int byt), .val (.long off), .second, .val (.ref b23), .val (.long (own_iv (nar .byte q1.toInt32.toInt8.toInt32) (nar .byte (XT.ushrL q1 (8 : Int32)).toInt32.toInt8.toInt32) (nar .byte (XT.ushrL q1 (16 : Int32)).toInt32.toInt8.toInt32) (nar .byte (XT.ushrL q1 (24 : Int32)).toInt32.toInt8.toInt32) (nar .byte (XT.ushrL q1 (32 : Int32)).toInt32.toInt8.toInt32) off byt.toInt.toNat (0 : Int64))), .second, .unset, .unset] [(.long (own_term q1 off (2 : Int32) byt)), (.long ((own_term q1 off (0 : Int32) byt) ||| (own_term q1 off (1 : Int32) byt)))])) t → Steps p.tables e below (s₁.setTop (entryFrame m #[(.long q1), (.long q2), (.int p3)] maxLocals)) t := fun t k => pre40 t (st41 _ k)
  have pre43 : ∀ t, Steps p.tables e below (T41.setTop (mkF m 152 #[.val (.long q1), .second, .val (.long q2), .second, .val (.int p3), .val (.ref b2), .val (.int byt), .val (.long off), .second, .val (.ref b23), .val (.long (own_iv (nar .byte q1.toInt32.toInt8.toInt32) (nar .byte (XT.ushrL q1 (8 : Int32)).toInt32.toInt8.toInt32) (nar .byte (XT.ushrL q1 (16 : Int32)).toInt32.toInt8.toInt32) (nar .byte (XT.ushrL q1 (24 : Int32)).toInt32.toInt8.toInt32) (nar .byte (XT.ushrL q1 (32 : Int32)).toInt32.toInt8.toInt32) off byt.toInt.toNat (0 : Int64))), .second, .unset, .unset] [(.int byt), (.int (3 : Int32)), (.long off), (.long q1), (.long (((own_term q1 off (0 : Int32) byt) ||| (own_term q1 off (1 : Int32) byt)) ||| (own_term q1 off (2 : Int32) byt)))])) t → Steps p.tables e below (s₁.setTop (entryFrame m #[(.long q1), (.long q2), (.int p3)] maxLocals)) t := fun t k => pre42 t (by
    show Steps p.tables e below (T41.setTop (mkF m 145 #[.val (.long q1), .second, .val (.long q2), .second, .val (.int p3), .val (.ref b2), .val (.int byt), .val (.long off), .second, .val (.ref b23), .val (.long (own_iv (nar .byte q1.toInt32.toInt8.toInt32) (nar .byte (XT.ushrL q1 (8 : Int32)).toInt32.toInt8.toInt32) (nar .byte (XT.ushrL q1 (16 : Int32)).toInt32.toInt8.toInt32) (nar .byte (XT.ushrL q1 (24 : Int32)).toInt32.toInt8.toInt32) (nar .byte (XT.ushrL q1 (32 : Int32)).toInt32.toInt8.toInt32) off byt.toInt.toNat (0 : Int64))), .second, .unset, .unset] [(.long (own_term q1 off (2 : Int32) byt)), (.long ((own_term q1 off (0 : Int32) byt) ||| (own_term q1 off (1 : Int32) byt)))])) t
    refine XT.lor X41.here hx rfl (hb hby at_145) rfl ?_
    show Steps p.tables e below (T41.setTop (mkF m 146 #[.val (.long q1), .second, .val (.long q2), .second, .val (.int p3), .val (.ref b2), .val (.int byt), .val (.long off), .second, .val (.ref b23), .val (.long (own_iv (nar .byte q1.toInt32.toInt8.toInt32) (nar .byte (XT.ushrL q1 (8 : Int32)).toInt32.toInt8.toInt32) (nar .byte (XT.ushrL q1 (16 : Int32)).toInt32.toInt8.toInt32) (nar .byte (XT.ushrL q1 (24 : Int32)).toInt32.toInt8.toInt32) (nar .byte (XT.ushrL q1 (32 : Int32)).toInt32.toInt8.toInt32) off byt.toInt.toNat (0 : Int64))), .second, .unset, .unset] [(.long (((own_term q1 off (0 : Int32) byt) ||| (own_term q1 off (1 : Int32) byt)) ||| (own_term q1 off (2 : Int32) byt)))])) t
    refine XT.lloadN X41.here hx rfl (hb hby at_146) rfl ?_
    show Steps p.tables e below (T41.setTop (mkF m 147 #[.val (.long q1), .second, .val (.long q2), .second, .val (.int p3), .val (.ref b2), .val (.int byt), .val (.long off), .second, .val (.ref b23), .val (.long (own_iv (nar .byte q1.toInt32.toInt8.toInt32) (nar .byte (XT.ushrL q1 (8 : Int32)).toInt32.toInt8.toInt32) (nar .byte (XT.ushrL q1 (16 : Int32)).toInt32.toInt8.toInt32) (nar .byte (XT.ushrL q1 (24 : Int32)).toInt32.toInt8.toInt32) (nar .byte (XT.ushrL q1 (32 : Int32)).toInt32.toInt8.toInt32) off byt.toInt.toNat (0 : Int64))), .second, .unset, .unset] [(.long q1), (.long (((own_term q1 off (0 : Int32) byt) ||| (own_term q1 off (1 : Int32) byt)) ||| (own_term q1 off (2 : Int32) byt)))])) t
    refine XT.lload X41.here hx rfl (hb hby at_147) rfl ?_
    show Steps p.tables e below (T41.setTop (mkF m 149 #[.val (.long q1), .second, .val (.long q2), .second, .val (.int p3), .val (.ref b2), .val (.int byt), .val (.long off), .second, .val (.ref b23), .val (.long (own_iv (nar .byte q1.toInt32.toInt8.toInt32) (nar .byte (XT.ushrL q1 (8 : Int32)).toInt32.toInt8.toInt32) (nar .byte (XT.ushrL q1 (16 : Int32)).toInt32.toInt8.toInt32) (nar .byte (XT.ushrL q1 (24 : Int32)).toInt32.toInt8.toInt32) (nar .byte (XT.ushrL q1 (32 : Int32)).toInt32.toInt8.toInt32) off byt.toInt.toNat (0 : Int64))), .second, .unset, .unset] [(.long off), (.long q1), (.long (((own_term q1 off (0 : Int32) byt) ||| (own_term q1 off (1 : Int32) byt)) ||| (own_term q1 off (2 : Int32) byt)))])) t
    refine XS.iconst X41.here hx rfl (hb hby at_149) ?_
    show Steps p.tables e below (T41.setTop (mkF m 150 #[.val (.long q1), .second, .val (.long q2), .second, .val (.int p3), .val (.ref b2), .val (.int byt), .val (.long off), .second, .val (.ref b23), .val (.long (own_iv (nar .byte q1.toInt32.toInt8.toInt32) (nar .byte (XT.ushrL q1 (8 : Int32)).toInt32.toInt8.toInt32) (nar .byte (XT.ushrL q1 (16 : Int32)).toInt32.toInt8.toInt32) (nar .byte (XT.ushrL q1 (24 : Int32)).toInt32.toInt8.toInt32) (nar .byte (XT.ushrL q1 (32 : Int32)).toInt32.toInt8.toInt32) off byt.toInt.toNat (0 : Int64))), .second, .unset, .unset] [(.int (3 : Int32)), (.long off), (.long q1), (.long (((own_term q1 off (0 : Int32) byt) ||| (own_term q1 off (1 : Int32) byt)) ||| (own_term q1 off (2 : Int32) byt)))])) t
    refine XS.iload X41.here hx rfl (hb hby at_150) rfl ?_
    show Steps p.tables e below (T41.setTop (mkF m 152 #[.val (.long q1), .second, .val (.long q2), .second, .val (.int p3), .val (.ref b2), .val (.int byt), .val (.long off), .second, .val (.ref b23), .val (.long (own_iv (nar .byte q1.toInt32.toInt8.toInt32) (nar .byte (XT.ushrL q1 (8 : Int32)).toInt32.toInt8.toInt32) (nar .byte (XT.ushrL q1 (16 : Int32)).toInt32.toInt8.toInt32) (nar .byte (XT.ushrL q1 (24 : Int32)).toInt32.toInt8.toInt32) (nar .byte (XT.ushrL q1 (32 : Int32)).toInt32.toInt8.toInt32) off byt.toInt.toNat (0 : Int64))), .second, .unset, .unset] [(.int byt), (.int (3 : Int32)), (.long off), (.long q1), (.long (((own_term q1 off (0 : Int32) byt) ||| (own_term q1 off (1 : Int32) byt)) ||| (own_term q1 off (2 : Int32) byt)))])) t
    exact k)
  obtain ⟨_, _, ⟨T44, L44, k44, n44⟩, -, X44, ⟨Lc44, hQ44, l44, y44, z44⟩, st44⟩ := Jvm.LawKit.callS X41 hx (y := (⟨"com/example/decant/decant/decompiler/ir/GlobalInitialValuePinLaw", "term", "(JJII)J"⟩ : MethodName)) ho26 (mvT hZ26 (hw _ (List.mem_of_getElem? (i := 45) rfl))) (mvT hZ26 (hw _ (List.mem_of_getElem? (i := 46) rfl))) (mvT hZ26 (hw _ (List.mem_of_getElem? (i := 47) rfl))) (mvT hZ26 (hw _ (List.mem_of_getElem? (i := 48) rfl))) (by decide) (backOf (W := 2) (rm4 l Z a0 hw [] q1 off (3 : Int32) byt T29.heap n0 sz29 ) hZ26 (hw _ (List.mem_of_getElem? (i := 48) rfl)) (hw _ (List.mem_of_getElem? (i := 47) rfl)) (by decide) (by decide)) (g := (mkF m 152 #[.val (.long q1), .second, .val (.long q2), .second, .val (.int p3), .val (.ref b2), .val (.int byt), .val (.long off), .second, .val (.ref b23), .val (.long (own_iv (nar .byte q1.toInt32.toInt8.toInt32) (nar .byte (XT.ushrL q1 (8 : Int32)).toInt32.toInt8.toInt32) (nar .byte (XT.ushrL q1 (16 : Int32)).toInt32.toInt8.toInt32) (nar .byte (XT.ushrL q1 (24 : Int32)).toInt32.toInt8.toInt32) (nar .byte (XT.ushrL q1 (32 : Int32)).toInt32.toInt8.toInt32) off byt.toInt.toNat (0 : Int64))), .second, .unset, .unset] [(.int byt), (.int (3 : Int32)), (.long off), (.long q1), (.long (((own_term q1 off (0 : Int32) byt) ||| (own_term q1 off (1 : Int32) byt)) ||| (own_term q1 off (2 : Int32) byt)))])) rfl (by rw [hml]; rfl) (argsL := [(.long q1), (.long off), (.int (3 : Int32)), (.int byt)]) (rest := [(.long (((own_term q1 off (0 : Int32) byt) ||| (own_term q1 off (1 : Int32) byt)) ||| (own_term q1 off (2 : Int32) byt)))]) (lenOf pd_oJJIIcJ rfl) rfl (by show 2 * 0 + _ ≤ _; exact Nat.le_of_eq rfl) (hb hby at_152) (fun _ _ => ⟨rfl, eh41, (by decide : 5 + 0 ≤ _), (by decide : 24 + 0 ≤ _)⟩)
  dsimp only [Pt.U, Pt.locs, Pt.cells, Pt.slots] at X44 l44 y44 z44 st44 hQ44
  subst l44 y44 z44
  obtain ⟨rfl, N44q, eh44⟩ := hQ44
  have N44 := Fr.app N41 N44q
  have pre45 : ∀ t, Steps p.tables e below (T44.setTop (mkF m 155 #[.val (.long q1), .second, .val (.long q2), .second, .val (.int p3), .val (.ref b2), .val (.int byt), .val (.long off), .second, .val (.ref b23), .val (.long (own_iv (nar .byte q1.toInt32.toInt8.toInt32) (nar .byte (XT.ushrL q1 (8 : Int32)).toInt32.toInt8.toInt32) (nar .byte (XT.ushrL q1 (16 : Int32)).toInt32.toInt8.toInt32) (nar .byte (XT.ushrL q1 (24 : Int32)).toInt32.toInt8.toInt32) (nar .byte (XT.ushrL q1 (32 : Int32)).toInt32.toInt8.toInt32) off byt.toInt.toNat (0 : Int64))), .second, .unset, .unset] [(.long (own_term q1 off (3 : Int32) byt)), (.long (((own_term q1 off (0 : Int32) byt) ||| (own_term q1 off (1 : Int32) byt)) ||| (own_term q1 off (2 : Int32) byt)))])) t → Steps p.tables e below (s₁.setTop (entryFrame m #[(.long q1), (.long q2), (.int p3)] maxLocals)) t := fun t k => pre43 t (st44 _ k)
  have pre46 : ∀ t, Steps p.tables e below (T44.setTop (mkF m 162 #[.val (.long q1), .second, .val (.long q2), .second, .val (.int p3), .val (.ref b2), .val (.int byt), .val (.long off), .second, .val (.ref b23), .val (.long (own_iv (nar .byte q1.toInt32.toInt8.toInt32) (nar .byte (XT.ushrL q1 (8 : Int32)).toInt32.toInt8.toInt32) (nar .byte (XT.ushrL q1 (16 : Int32)).toInt32.toInt8.toInt32) (nar .byte (XT.ushrL q1 (24 : Int32)).toInt32.toInt8.toInt32) (nar .byte (XT.ushrL q1 (32 : Int32)).toInt32.toInt8.toInt32) off byt.toInt.toNat (0 : Int64))), .second, .unset, .unset] [(.int byt), (.int (4 : Int32)), (.long off), (.long q1), (.long ((((own_term q1 off (0 : Int32) byt) ||| (own_term q1 off (1 : Int32) byt)) ||| (own_term q1 off (2 : Int32) byt)) ||| (own_term q1 off (3 : Int32) byt)))])) t → Steps p.tables e below (s₁.setTop (entryFrame m #[(.long q1), (.long q2), (.int p3)] maxLocals)) t := fun t k => pre45 t (by
    show Steps p.tables e below (T44.setTop (mkF m 155 #[.val (.long q1), .second, .val (.long q2), .second, .val (.int p3), .val (.ref b2), .val (.int byt), .val (.long off), .second, .val (.ref b23), .val (.long (own_iv (nar .byte q1.toInt32.toInt8.toInt32) (nar .byte (XT.ushrL q1 (8 : Int32)).toInt32.toInt8.toInt32) (nar .byte (XT.ushrL q1 (16 : Int32)).toInt32.toInt8.toInt32) (nar .byte (XT.ushrL q1 (24 : Int32)).toInt32.toInt8.toInt32) (nar .byte (XT.ushrL q1 (32 : Int32)).toInt32.toInt8.toInt32) off byt.toInt.toNat (0 : Int64))), .second, .unset, .unset] [(.long (own_term q1 off (3 : Int32) byt)), (.long (((own_term q1 off (0 : Int32) byt) ||| (own_term q1 off (1 : Int32) byt)) ||| (own_term q1 off (2 : Int32) byt)))])) t
    refine XT.lor X44.here hx rfl (hb hby at_155) rfl ?_
    show Steps p.tables e below (T44.setTop (mkF m 156 #[.val (.long q1), .second, .val (.long q2), .second, .val (.int p3), .val (.ref b2), .val (.int byt), .val (.long off), .second, .val (.ref b23), .val (.long (own_iv (nar .byte q1.toInt32.toInt8.toInt32) (nar .byte (XT.ushrL q1 (8 : Int32)).toInt32.toInt8.toInt32) (nar .byte (XT.ushrL q1 (16 : Int32)).toInt32.toInt8.toInt32) (nar .byte (XT.ushrL q1 (24 : Int32)).toInt32.toInt8.toInt32) (nar .byte (XT.ushrL q1 (32 : Int32)).toInt32.toInt8.toInt32) off byt.toInt.toNat (0 : Int64))), .second, .unset, .unset] [(.long ((((own_term q1 off (0 : Int32) byt) ||| (own_term q1 off (1 : Int32) byt)) ||| (own_term q1 off (2 : Int32) byt)) ||| (own_term q1 off (3 : Int32) byt)))])) t
    refine XT.lloadN X44.here hx rfl (hb hby at_156) rfl ?_
    show Steps p.tables e below (T44.setTop (mkF m 157 #[.val (.long q1), .second, .val (.long q2), .second, .val (.int p3), .val (.ref b2), .val (.int byt), .val (.long off), .second, .val (.ref b23), .val (.long (own_iv (nar .byte q1.toInt32.toInt8.toInt32) (nar .byte (XT.ushrL q1 (8 : Int32)).toInt32.toInt8.toInt32) (nar .byte (XT.ushrL q1 (16 : Int32)).toInt32.toInt8.toInt32) (nar .byte (XT.ushrL q1 (24 : Int32)).toInt32.toInt8.toInt32) (nar .byte (XT.ushrL q1 (32 : Int32)).toInt32.toInt8.toInt32) off byt.toInt.toNat (0 : Int64))), .second, .unset, .unset] [(.long q1), (.long ((((own_term q1 off (0 : Int32) byt) ||| (own_term q1 off (1 : Int32) byt)) ||| (own_term q1 off (2 : Int32) byt)) ||| (own_term q1 off (3 : Int32) byt)))])) t
    refine XT.lload X44.here hx rfl (hb hby at_157) rfl ?_
    show Steps p.tables e below (T44.setTop (mkF m 159 #[.val (.long q1), .second, .val (.long q2), .second, .val (.int p3), .val (.ref b2), .val (.int byt), .val (.long off), .second, .val (.ref b23), .val (.long (own_iv (nar .byte q1.toInt32.toInt8.toInt32) (nar .byte (XT.ushrL q1 (8 : Int32)).toInt32.toInt8.toInt32) (nar .byte (XT.ushrL q1 (16 : Int32)).toInt32.toInt8.toInt32) (nar .byte (XT.ushrL q1 (24 : Int32)).toInt32.toInt8.toInt32) (nar .byte (XT.ushrL q1 (32 : Int32)).toInt32.toInt8.toInt32) off byt.toInt.toNat (0 : Int64))), .second, .unset, .unset] [(.long off), (.long q1), (.long ((((own_term q1 off (0 : Int32) byt) ||| (own_term q1 off (1 : Int32) byt)) ||| (own_term q1 off (2 : Int32) byt)) ||| (own_term q1 off (3 : Int32) byt)))])) t
    refine XS.iconst X44.here hx rfl (hb hby at_159) ?_
    show Steps p.tables e below (T44.setTop (mkF m 160 #[.val (.long q1), .second, .val (.long q2), .second, .val (.int p3), .val (.ref b2), .val (.int byt), .val (.long off), .second, .val (.ref b23), .val (.long (own_iv (nar .byte q1.toInt32.toInt8.toInt32) (nar .byte (XT.ushrL q1 (8 : Int32)).toInt32.toInt8.toInt32) (nar .byte (XT.ushrL q1 (16 : Int32)).toInt32.toInt8.toInt32) (nar .byte (XT.ushrL q1 (24 : Int32)).toInt32.toInt8.toInt32) (nar .byte (XT.ushrL q1 (32 : Int32)).toInt32.toInt8.toInt32) off byt.toInt.toNat (0 : Int64))), .second, .unset, .unset] [(.int (4 : Int32)), (.long off), (.long q1), (.long ((((own_term q1 off (0 : Int32) byt) ||| (own_term q1 off (1 : Int32) byt)) ||| (own_term q1 off (2 : Int32) byt)) ||| (own_term q1 off (3 : Int32) byt)))])) t
    refine XS.iload X44.here hx rfl (hb hby at_160) rfl ?_
    show Steps p.tables e below (T44.setTop (mkF m 162 #[.val (.long q1), .second, .val (.long q2), .second, .val (.int p3), .val (.ref b2), .val (.int byt), .val (.long off), .second, .val (.ref b23), .val (.long (own_iv (nar .byte q1.toInt32.toInt8.toInt32) (nar .byte (XT.ushrL q1 (8 : Int32)).toInt32.toInt8.toInt32) (nar .byte (XT.ushrL q1 (16 : Int32)).toInt32.toInt8.toInt32) (nar .byte (XT.ushrL q1 (24 : Int32)).toInt32.toInt8.toInt32) (nar .byte (XT.ushrL q1 (32 : Int32)).toInt32.toInt8.toInt32) off byt.toInt.toNat (0 : Int64))), .second, .unset, .unset] [(.int byt), (.int (4 : Int32)), (.long off), (.long q1), (.long ((((own_term q1 off (0 : Int32) byt) ||| (own_term q1 off (1 : Int32) byt)) ||| (own_term q1 off (2 : Int32) byt)) ||| (own_term q1 off (3 : Int32) byt)))])) t
    exact k)
  obtain ⟨_, _, ⟨T47, L47, k47, n47⟩, -, X47, ⟨Lc47, hQ47, l47, y47, z47⟩, st47⟩ := Jvm.LawKit.callS X44 hx (y := (⟨"com/example/decant/decant/decompiler/ir/GlobalInitialValuePinLaw", "term", "(JJII)J"⟩ : MethodName)) ho26 (mvT hZ26 (hw _ (List.mem_of_getElem? (i := 45) rfl))) (mvT hZ26 (hw _ (List.mem_of_getElem? (i := 46) rfl))) (mvT hZ26 (hw _ (List.mem_of_getElem? (i := 47) rfl))) (mvT hZ26 (hw _ (List.mem_of_getElem? (i := 48) rfl))) (by decide) (backOf (W := 2) (rm4 l Z a0 hw [] q1 off (4 : Int32) byt T29.heap n0 sz29 ) hZ26 (hw _ (List.mem_of_getElem? (i := 48) rfl)) (hw _ (List.mem_of_getElem? (i := 47) rfl)) (by decide) (by decide)) (g := (mkF m 162 #[.val (.long q1), .second, .val (.long q2), .second, .val (.int p3), .val (.ref b2), .val (.int byt), .val (.long off), .second, .val (.ref b23), .val (.long (own_iv (nar .byte q1.toInt32.toInt8.toInt32) (nar .byte (XT.ushrL q1 (8 : Int32)).toInt32.toInt8.toInt32) (nar .byte (XT.ushrL q1 (16 : Int32)).toInt32.toInt8.toInt32) (nar .byte (XT.ushrL q1 (24 : Int32)).toInt32.toInt8.toInt32) (nar .byte (XT.ushrL q1 (32 : Int32)).toInt32.toInt8.toInt32) off byt.toInt.toNat (0 : Int64))), .second, .unset, .unset] [(.int byt), (.int (4 : Int32)), (.long off), (.long q1), (.long ((((own_term q1 off (0 : Int32) byt) ||| (own_term q1 off (1 : Int32) byt)) ||| (own_term q1 off (2 : Int32) byt)) ||| (own_term q1 off (3 : Int32) byt)))])) rfl (by rw [hml]; rfl) (argsL := [(.long q1), (.long off), (.int (4 : Int32)), (.int byt)]) (rest := [(.long ((((own_term q1 off (0 : Int32) byt) ||| (own_term q1 off (1 : Int32) byt)) ||| (own_term q1 off (2 : Int32) byt)) ||| (own_term q1 off (3 : Int32) byt)))]) (lenOf pd_oJJIIcJ rfl) rfl (by show 2 * 0 + _ ≤ _; exact Nat.le_of_eq rfl) (hb hby at_162) (fun _ _ => ⟨rfl, eh44, (by decide : 5 + 0 ≤ _), (by decide : 24 + 0 ≤ _)⟩)
  dsimp only [Pt.U, Pt.locs, Pt.cells, Pt.slots] at X47 l47 y47 z47 st47 hQ47
  subst l47 y47 z47
  obtain ⟨rfl, N47q, eh47⟩ := hQ47
  have N47 := Fr.app N44 N47q
  have pre48 : ∀ t, Steps p.tables e below (T47.setTop (mkF m 165 #[.val (.long q1), .second, .val (.long q2), .second, .val (.int p3), .val (.ref b2), .val (.int byt), .val (.long off), .second, .val (.ref b23), .val (.long (own_iv (nar .byte q1.toInt32.toInt8.toInt32) (nar .byte (XT.ushrL q1 (8 : Int32)).toInt32.toInt8.toInt32) (nar .byte (XT.ushrL q1 (16 : Int32)).toInt32.toInt8.toInt32) (nar .byte (XT.ushrL q1 (24 : Int32)).toInt32.toInt8.toInt32) (nar .byte (XT.ushrL q1 (32 : Int32)).toInt32.toInt8.toInt32) off byt.toInt.toNat (0 : Int64))), .second, .unset, .unset] [(.long (own_term q1 off (4 : Int32) byt)), (.long ((((own_term q1 off (0 : Int32) byt) ||| (own_term q1 off (1 : Int32) byt)) ||| (own_term q1 off (2 : Int32) byt)) ||| (own_term q1 off (3 : Int32) byt)))])) t → Steps p.tables e below (s₁.setTop (entryFrame m #[(.long q1), (.long q2), (.int p3)] maxLocals)) t := fun t k => pre46 t (st47 _ k)
  have pre49 : ∀ t, Steps p.tables e below (T47.setTop (mkF m 172 #[.val (.long q1), .second, .val (.long q2), .second, .val (.int p3), .val (.ref b2), .val (.int byt), .val (.long off), .second, .val (.ref b23), .val (.long (own_iv (nar .byte q1.toInt32.toInt8.toInt32) (nar .byte (XT.ushrL q1 (8 : Int32)).toInt32.toInt8.toInt32) (nar .byte (XT.ushrL q1 (16 : Int32)).toInt32.toInt8.toInt32) (nar .byte (XT.ushrL q1 (24 : Int32)).toInt32.toInt8.toInt32) (nar .byte (XT.ushrL q1 (32 : Int32)).toInt32.toInt8.toInt32) off byt.toInt.toNat (0 : Int64))), .second, .unset, .unset] [(.int byt), (.int (5 : Int32)), (.long off), (.long q1), (.long (((((own_term q1 off (0 : Int32) byt) ||| (own_term q1 off (1 : Int32) byt)) ||| (own_term q1 off (2 : Int32) byt)) ||| (own_term q1 off (3 : Int32) byt)) ||| (own_term q1 off (4 : Int32) byt)))])) t → Steps p.tables e below (s₁.setTop (entryFrame m #[(.long q1), (.long q2), (.int p3)] maxLocals)) t := fun t k => pre48 t (by
    show Steps p.tables e below (T47.setTop (mkF m 165 #[.val (.long q1), .second, .val (.long q2), .second, .val (.int p3), .val (.ref b2), .val (.int byt), .val (.long off), .second, .val (.ref b23), .val (.long (own_iv (nar .byte q1.toInt32.toInt8.toInt32) (nar .byte (XT.ushrL q1 (8 : Int32)).toInt32.toInt8.toInt32) (nar .byte (XT.ushrL q1 (16 : Int32)).toInt32.toInt8.toInt32) (nar .byte (XT.ushrL q1 (24 : Int32)).toInt32.toInt8.toInt32) (nar .byte (XT.ushrL q1 (32 : Int32)).toInt32.toInt8.toInt32) off byt.toInt.toNat (0 : Int64))), .second, .unset, .unset] [(.long (own_term q1 off (4 : Int32) byt)), (.long ((((own_term q1 off (0 : Int32) byt) ||| (own_term q1 off (1 : Int32) byt)) ||| (own_term q1 off (2 : Int32) byt)) ||| (own_term q1 off (3 : Int32) byt)))])) t
    refine XT.lor X47.here hx rfl (hb hby at_165) rfl ?_
    show Steps p.tables e below (T47.setTop (mkF m 166 #[.val (.long q1), .second, .val (.long q2), .second, .val (.int p3), .val (.ref b2), .val (.int byt), .val (.long off), .second, .val (.ref b23), .val (.long (own_iv (nar .byte q1.toInt32.toInt8.toInt32) (nar .byte (XT.ushrL q1 (8 : Int32)).toInt32.toInt8.toInt32) (nar .byte (XT.ushrL q1 (16 : Int32)).toInt32.toInt8.toInt32) (nar .byte (XT.ushrL q1 (24 : Int32)).toInt32.toInt8.toInt32) (nar .byte (XT.ushrL q1 (32 : Int32)).toInt32.toInt8.toInt32) off byt.toInt.toNat (0 : Int64))), .second, .unset, .unset] [(.long (((((own_term q1 off (0 : Int32) byt) ||| (own_term q1 off (1 : Int32) byt)) ||| (own_term q1 off (2 : Int32) byt)) ||| (own_term q1 off (3 : Int32) byt)) ||| (own_term q1 off (4 : Int32) byt)))])) t
    refine XT.lloadN X47.here hx rfl (hb hby at_166) rfl ?_
    show Steps p.tables e below (T47.setTop (mkF m 167 #[.val (.long q1), .second, .val (.long q2), .second, .val (.int p3), .val (.ref b2), .val (.int byt), .val (.long off), .second, .val (.ref b23), .val (.long (own_iv (nar .byte q1.toInt32.toInt8.toInt32) (nar .byte (XT.ushrL q1 (8 : Int32)).toInt32.toInt8.toInt32) (nar .byte (XT.ushrL q1 (16 : Int32)).toInt32.toInt8.toInt32) (nar .byte (XT.ushrL q1 (24 : Int32)).toInt32.toInt8.toInt32) (nar .byte (XT.ushrL q1 (32 : Int32)).toInt32.toInt8.toInt32) off byt.toInt.toNat (0 : Int64))), .second, .unset, .unset] [(.long q1), (.long (((((own_term q1 off (0 : Int32) byt) ||| (own_term q1 off (1 : Int32) byt)) ||| (own_term q1 off (2 : Int32) byt)) ||| (own_term q1 off (3 : Int32) byt)) ||| (own_term q1 off (4 : Int32) byt)))])) t
    refine XT.lload X47.here hx rfl (hb hby at_167) rfl ?_
    show Steps p.tables e below (T47.setTop (mkF m 169 #[.val (.long q1), .second, .val (.long q2), .second, .val (.int p3), .val (.ref b2), .val (.int byt), .val (.long off), .second, .val (.ref b23), .val (.long (own_iv (nar .byte q1.toInt32.toInt8.toInt32) (nar .byte (XT.ushrL q1 (8 : Int32)).toInt32.toInt8.toInt32) (nar .byte (XT.ushrL q1 (16 : Int32)).toInt32.toInt8.toInt32) (nar .byte (XT.ushrL q1 (24 : Int32)).toInt32.toInt8.toInt32) (nar .byte (XT.ushrL q1 (32 : Int32)).toInt32.toInt8.toInt32) off byt.toInt.toNat (0 : Int64))), .second, .unset, .unset] [(.long off), (.long q1), (.long (((((own_term q1 off (0 : Int32) byt) ||| (own_term q1 off (1 : Int32) byt)) ||| (own_term q1 off (2 : Int32) byt)) ||| (own_term q1 off (3 : Int32) byt)) ||| (own_term q1 off (4 : Int32) byt)))])) t
    refine XS.iconst X47.here hx rfl (hb hby at_169) ?_
    show Steps p.tables e below (T47.setTop (mkF m 170 #[.val (.long q1), .second, .val (.long q2), .second, .val (.int p3), .val (.ref b2), .val (.int byt), .val (.long off), .second, .val (.ref b23), .val (.long (own_iv (nar .byte q1.toInt32.toInt8.toInt32) (nar .byte (XT.ushrL q1 (8 : Int32)).toInt32.toInt8.toInt32) (nar .byte (XT.ushrL q1 (16 : Int32)).toInt32.toInt8.toInt32) (nar .byte (XT.ushrL q1 (24 : Int32)).toInt32.toInt8.toInt32) (nar .byte (XT.ushrL q1 (32 : Int32)).toInt32.toInt8.toInt32) off byt.toInt.toNat (0 : Int64))), .second, .unset, .unset] [(.int (5 : Int32)), (.long off), (.long q1), (.long (((((own_term q1 off (0 : Int32) byt) ||| (own_term q1 off (1 : Int32) byt)) ||| (own_term q1 off (2 : Int32) byt)) ||| (own_term q1 off (3 : Int32) byt)) ||| (own_term q1 off (4 : Int32) byt)))])) t
    refine XS.iload X47.here hx rfl (hb hby at_170) rfl ?_
    show Steps p.tables e below (T47.setTop (mkF m 172 #[.val (.long q1), .second, .val (.long q2), .second, .val (.int p3), .val (.ref b2), .val (.int byt), .val (.long off), .second, .val (.ref b23), .val (.long (own_iv (nar .byte q1.toInt32.toInt8.toInt32) (nar .byte (XT.ushrL q1 (8 : Int32)).toInt32.toInt8.toInt32) (nar .byte (XT.ushrL q1 (16 : Int32)).toInt32.toInt8.toInt32) (nar .byte (XT.ushrL q1 (24 : Int32)).toInt32.toInt8.toInt32) (nar .byte (XT.ushrL q1 (32 : Int32)).toInt32.toInt8.toInt32) off byt.toInt.toNat (0 : Int64))), .second, .unset, .unset] [(.int byt), (.int (5 : Int32)), (.long off), (.long q1), (.long (((((own_term q1 off (0 : Int32) byt) ||| (own_term q1 off (1 : Int32) byt)) ||| (own_term q1 off (2 : Int32) byt)) ||| (own_term q1 off (3 : Int32) byt)) ||| (own_term q1 off (4 : Int32) byt)))])) t
    exact k)
  obtain ⟨_, _, ⟨T50, L50, k50, n50⟩, -, X50, ⟨Lc50, hQ50, l50, y50, z50⟩, st50⟩ := Jvm.LawKit.callS X47 hx (y := (⟨"com/example/decant/decant/decompiler/ir/GlobalInitialValuePinLaw", "term", "(JJII)J"⟩ : MethodName)) ho26 (mvT hZ26 (hw _ (List.mem_of_getElem? (i := 45) rfl))) (mvT hZ26 (hw _ (List.mem_of_getElem? (i := 46) rfl))) (mvT hZ26 (hw _ (List.mem_of_getElem? (i := 47) rfl))) (mvT hZ26 (hw _ (List.mem_of_getElem? (i := 48) rfl))) (by decide) (backOf (W := 2) (rm4 l Z a0 hw [] q1 off (5 : Int32) byt T29.heap n0 sz29 ) hZ26 (hw _ (List.mem_of_getElem? (i := 48) rfl)) (hw _ (List.mem_of_getElem? (i := 47) rfl)) (by decide) (by decide)) (g := (mkF m 172 #[.val (.long q1), .second, .val (.long q2), .second, .val (.int p3), .val (.ref b2), .val (.int byt), .val (.long off), .second, .val (.ref b23), .val (.long (own_iv (nar .byte q1.toInt32.toInt8.toInt32) (nar .byte (XT.ushrL q1 (8 : Int32)).toInt32.toInt8.toInt32) (nar .byte (XT.ushrL q1 (16 : Int32)).toInt32.toInt8.toInt32) (nar .byte (XT.ushrL q1 (24 : Int32)).toInt32.toInt8.toInt32) (nar .byte (XT.ushrL q1 (32 : Int32)).toInt32.toInt8.toInt32) off byt.toInt.toNat (0 : Int64))), .second, .unset, .unset] [(.int byt), (.int (5 : Int32)), (.long off), (.long q1), (.long (((((own_term q1 off (0 : Int32) byt) ||| (own_term q1 off (1 : Int32) byt)) ||| (own_term q1 off (2 : Int32) byt)) ||| (own_term q1 off (3 : Int32) byt)) ||| (own_term q1 off (4 : Int32) byt)))])) rfl (by rw [hml]; rfl) (argsL := [(.long q1), (.long off), (.int (5 : Int32)), (.int byt)]) (rest := [(.long (((((own_term q1 off (0 : Int32) byt) ||| (own_term q1 off (1 : Int32) byt)) ||| (own_term q1 off (2 : Int32) byt)) ||| (own_term q1 off (3 : Int32) byt)) ||| (own_term q1 off (4 : Int32) byt)))]) (lenOf pd_oJJIIcJ rfl) rfl (by show 2 * 0 + _ ≤ _; exact Nat.le_of_eq rfl) (hb hby at_172) (fun _ _ => ⟨rfl, eh47, (by decide : 5 + 0 ≤ _), (by decide : 24 + 0 ≤ _)⟩)
  dsimp only [Pt.U, Pt.locs, Pt.cells, Pt.slots] at X50 l50 y50 z50 st50 hQ50
  subst l50 y50 z50
  obtain ⟨rfl, N50q, eh50⟩ := hQ50
  have N50 := Fr.app N47 N50q
  have pre51 : ∀ t, Steps p.tables e below (T50.setTop (mkF m 175 #[.val (.long q1), .second, .val (.long q2), .second, .val (.int p3), .val (.ref b2), .val (.int byt), .val (.long off), .second, .val (.ref b23), .val (.long (own_iv (nar .byte q1.toInt32.toInt8.toInt32) (nar .byte (XT.ushrL q1 (8 : Int32)).toInt32.toInt8.toInt32) (nar .byte (XT.ushrL q1 (16 : Int32)).toInt32.toInt8.toInt32) (nar .byte (XT.ushrL q1 (24 : Int32)).toInt32.toInt8.toInt32) (nar .byte (XT.ushrL q1 (32 : Int32)).toInt32.toInt8.toInt32) off byt.toInt.toNat (0 : Int64))), .second, .unset, .unset] [(.long (own_term q1 off (5 : Int32) byt)), (.long (((((own_term q1 off (0 : Int32) byt) ||| (own_term q1 off (1 : Int32) byt)) ||| (own_term q1 off (2 : Int32) byt)) ||| (own_term q1 off (3 : Int32) byt)) ||| (own_term q1 off (4 : Int32) byt)))])) t → Steps p.tables e below (s₁.setTop (entryFrame m #[(.long q1), (.long q2), (.int p3)] maxLocals)) t := fun t k => pre49 t (st50 _ k)
  have pre52 : ∀ t, Steps p.tables e below (T50.setTop (mkF m 183 #[.val (.long q1), .second, .val (.long q2), .second, .val (.int p3), .val (.ref b2), .val (.int byt), .val (.long off), .second, .val (.ref b23), .val (.long (own_iv (nar .byte q1.toInt32.toInt8.toInt32) (nar .byte (XT.ushrL q1 (8 : Int32)).toInt32.toInt8.toInt32) (nar .byte (XT.ushrL q1 (16 : Int32)).toInt32.toInt8.toInt32) (nar .byte (XT.ushrL q1 (24 : Int32)).toInt32.toInt8.toInt32) (nar .byte (XT.ushrL q1 (32 : Int32)).toInt32.toInt8.toInt32) off byt.toInt.toNat (0 : Int64))), .second, .unset, .unset] [(.int byt), (.int (6 : Int32)), (.long off), (.long q1), (.long ((((((own_term q1 off (0 : Int32) byt) ||| (own_term q1 off (1 : Int32) byt)) ||| (own_term q1 off (2 : Int32) byt)) ||| (own_term q1 off (3 : Int32) byt)) ||| (own_term q1 off (4 : Int32) byt)) ||| (own_term q1 off (5 : Int32) byt)))])) t → Steps p.tables e below (s₁.setTop (entryFrame m #[(.long q1), (.long q2), (.int p3)] maxLocals)) t := fun t k => pre51 t (by
    show Steps p.tables e below (T50.setTop (mkF m 175 #[.val (.long q1), .second, .val (.long q2), .second, .val (.int p3), .val (.ref b2), .val (.int byt), .val (.long off), .second, .val (.ref b23), .val (.long (own_iv (nar .byte q1.toInt32.toInt8.toInt32) (nar .byte (XT.ushrL q1 (8 : Int32)).toInt32.toInt8.toInt32) (nar .byte (XT.ushrL q1 (16 : Int32)).toInt32.toInt8.toInt32) (nar .byte (XT.ushrL q1 (24 : Int32)).toInt32.toInt8.toInt32) (nar .byte (XT.ushrL q1 (32 : Int32)).toInt32.toInt8.toInt32) off byt.toInt.toNat (0 : Int64))), .second, .unset, .unset] [(.long (own_term q1 off (5 : Int32) byt)), (.long (((((own_term q1 off (0 : Int32) byt) ||| (own_term q1 off (1 : Int32) byt)) ||| (own_term q1 off (2 : Int32) byt)) ||| (own_term q1 off (3 : Int32) byt)) ||| (own_term q1 off (4 : Int32) byt)))])) t
    refine XT.lor X50.here hx rfl (hb hby at_175) rfl ?_
    show Steps p.tables e below (T50.setTop (mkF m 176 #[.val (.long q1), .second, .val (.long q2), .second, .val (.int p3), .val (.ref b2), .val (.int byt), .val (.long off), .second, .val (.ref b23), .val (.long (own_iv (nar .byte q1.toInt32.toInt8.toInt32) (nar .byte (XT.ushrL q1 (8 : Int32)).toInt32.toInt8.toInt32) (nar .byte (XT.ushrL q1 (16 : Int32)).toInt32.toInt8.toInt32) (nar .byte (XT.ushrL q1 (24 : Int32)).toInt32.toInt8.toInt32) (nar .byte (XT.ushrL q1 (32 : Int32)).toInt32.toInt8.toInt32) off byt.toInt.toNat (0 : Int64))), .second, .unset, .unset] [(.long ((((((own_term q1 off (0 : Int32) byt) ||| (own_term q1 off (1 : Int32) byt)) ||| (own_term q1 off (2 : Int32) byt)) ||| (own_term q1 off (3 : Int32) byt)) ||| (own_term q1 off (4 : Int32) byt)) ||| (own_term q1 off (5 : Int32) byt)))])) t
    refine XT.lloadN X50.here hx rfl (hb hby at_176) rfl ?_
    show Steps p.tables e below (T50.setTop (mkF m 177 #[.val (.long q1), .second, .val (.long q2), .second, .val (.int p3), .val (.ref b2), .val (.int byt), .val (.long off), .second, .val (.ref b23), .val (.long (own_iv (nar .byte q1.toInt32.toInt8.toInt32) (nar .byte (XT.ushrL q1 (8 : Int32)).toInt32.toInt8.toInt32) (nar .byte (XT.ushrL q1 (16 : Int32)).toInt32.toInt8.toInt32) (nar .byte (XT.ushrL q1 (24 : Int32)).toInt32.toInt8.toInt32) (nar .byte (XT.ushrL q1 (32 : Int32)).toInt32.toInt8.toInt32) off byt.toInt.toNat (0 : Int64))), .second, .unset, .unset] [(.long q1), (.long ((((((own_term q1 off (0 : Int32) byt) ||| (own_term q1 off (1 : Int32) byt)) ||| (own_term q1 off (2 : Int32) byt)) ||| (own_term q1 off (3 : Int32) byt)) ||| (own_term q1 off (4 : Int32) byt)) ||| (own_term q1 off (5 : Int32) byt)))])) t
    refine XT.lload X50.here hx rfl (hb hby at_177) rfl ?_
    show Steps p.tables e below (T50.setTop (mkF m 179 #[.val (.long q1), .second, .val (.long q2), .second, .val (.int p3), .val (.ref b2), .val (.int byt), .val (.long off), .second, .val (.ref b23), .val (.long (own_iv (nar .byte q1.toInt32.toInt8.toInt32) (nar .byte (XT.ushrL q1 (8 : Int32)).toInt32.toInt8.toInt32) (nar .byte (XT.ushrL q1 (16 : Int32)).toInt32.toInt8.toInt32) (nar .byte (XT.ushrL q1 (24 : Int32)).toInt32.toInt8.toInt32) (nar .byte (XT.ushrL q1 (32 : Int32)).toInt32.toInt8.toInt32) off byt.toInt.toNat (0 : Int64))), .second, .unset, .unset] [(.long off), (.long q1), (.long ((((((own_term q1 off (0 : Int32) byt) ||| (own_term q1 off (1 : Int32) byt)) ||| (own_term q1 off (2 : Int32) byt)) ||| (own_term q1 off (3 : Int32) byt)) ||| (own_term q1 off (4 : Int32) byt)) ||| (own_term q1 off (5 : Int32) byt)))])) t
    refine XS.bipush X50.here hx rfl (hb hby at_179) ?_
    show Steps p.tables e below (T50.setTop (mkF m 181 #[.val (.long q1), .second, .val (.long q2), .second, .val (.int p3), .val (.ref b2), .val (.int byt), .val (.long off), .second, .val (.ref b23), .val (.long (own_iv (nar .byte q1.toInt32.toInt8.toInt32) (nar .byte (XT.ushrL q1 (8 : Int32)).toInt32.toInt8.toInt32) (nar .byte (XT.ushrL q1 (16 : Int32)).toInt32.toInt8.toInt32) (nar .byte (XT.ushrL q1 (24 : Int32)).toInt32.toInt8.toInt32) (nar .byte (XT.ushrL q1 (32 : Int32)).toInt32.toInt8.toInt32) off byt.toInt.toNat (0 : Int64))), .second, .unset, .unset] [(.int (6 : Int32)), (.long off), (.long q1), (.long ((((((own_term q1 off (0 : Int32) byt) ||| (own_term q1 off (1 : Int32) byt)) ||| (own_term q1 off (2 : Int32) byt)) ||| (own_term q1 off (3 : Int32) byt)) ||| (own_term q1 off (4 : Int32) byt)) ||| (own_term q1 off (5 : Int32) byt)))])) t
    refine XS.iload X50.here hx rfl (hb hby at_181) rfl ?_
    show Steps p.tables e below (T50.setTop (mkF m 183 #[.val (.long q1), .second, .val (.long q2), .second, .val (.int p3), .val (.ref b2), .val (.int byt), .val (.long off), .second, .val (.ref b23), .val (.long (own_iv (nar .byte q1.toInt32.toInt8.toInt32) (nar .byte (XT.ushrL q1 (8 : Int32)).toInt32.toInt8.toInt32) (nar .byte (XT.ushrL q1 (16 : Int32)).toInt32.toInt8.toInt32) (nar .byte (XT.ushrL q1 (24 : Int32)).toInt32.toInt8.toInt32) (nar .byte (XT.ushrL q1 (32 : Int32)).toInt32.toInt8.toInt32) off byt.toInt.toNat (0 : Int64))), .second, .unset, .unset] [(.int byt), (.int (6 : Int32)), (.long off), (.long q1), (.long ((((((own_term q1 off (0 : Int32) byt) ||| (own_term q1 off (1 : Int32) byt)) ||| (own_term q1 off (2 : Int32) byt)) ||| (own_term q1 off (3 : Int32) byt)) ||| (own_term q1 off (4 : Int32) byt)) ||| (own_term q1 off (5 : Int32) byt)))])) t
    exact k)
  obtain ⟨_, _, ⟨T53, L53, k53, n53⟩, -, X53, ⟨Lc53, hQ53, l53, y53, z53⟩, st53⟩ := Jvm.LawKit.callS X50 hx (y := (⟨"com/example/decant/decant/decompiler/ir/GlobalInitialValuePinLaw", "term", "(JJII)J"⟩ : MethodName)) ho26 (mvT hZ26 (hw _ (List.mem_of_getElem? (i := 45) rfl))) (mvT hZ26 (hw _ (List.mem_of_getElem? (i := 46) rfl))) (mvT hZ26 (hw _ (List.mem_of_getElem? (i := 47) rfl))) (mvT hZ26 (hw _ (List.mem_of_getElem? (i := 48) rfl))) (by decide) (backOf (W := 2) (rm4 l Z a0 hw [] q1 off (6 : Int32) byt T29.heap n0 sz29 ) hZ26 (hw _ (List.mem_of_getElem? (i := 48) rfl)) (hw _ (List.mem_of_getElem? (i := 47) rfl)) (by decide) (by decide)) (g := (mkF m 183 #[.val (.long q1), .second, .val (.long q2), .second, .val (.int p3), .val (.ref b2), .val (.int byt), .val (.long off), .second, .val (.ref b23), .val (.long (own_iv (nar .byte q1.toInt32.toInt8.toInt32) (nar .byte (XT.ushrL q1 (8 : Int32)).toInt32.toInt8.toInt32) (nar .byte (XT.ushrL q1 (16 : Int32)).toInt32.toInt8.toInt32) (nar .byte (XT.ushrL q1 (24 : Int32)).toInt32.toInt8.toInt32) (nar .byte (XT.ushrL q1 (32 : Int32)).toInt32.toInt8.toInt32) off byt.toInt.toNat (0 : Int64))), .second, .unset, .unset] [(.int byt), (.int (6 : Int32)), (.long off), (.long q1), (.long ((((((own_term q1 off (0 : Int32) byt) ||| (own_term q1 off (1 : Int32) byt)) ||| (own_term q1 off (2 : Int32) byt)) ||| (own_term q1 off (3 : Int32) byt)) ||| (own_term q1 off (4 : Int32) byt)) ||| (own_term q1 off (5 : Int32) byt)))])) rfl (by rw [hml]; rfl) (argsL := [(.long q1), (.long off), (.int (6 : Int32)), (.int byt)]) (rest := [(.long ((((((own_term q1 off (0 : Int32) byt) ||| (own_term q1 off (1 : Int32) byt)) ||| (own_term q1 off (2 : Int32) byt)) ||| (own_term q1 off (3 : Int32) byt)) ||| (own_term q1 off (4 : Int32) byt)) ||| (own_term q1 off (5 : Int32) byt)))]) (lenOf pd_oJJIIcJ rfl) rfl (by show 2 * 0 + _ ≤ _; exact Nat.le_of_eq rfl) (hb hby at_183) (fun _ _ => ⟨rfl, eh50, (by decide : 5 + 0 ≤ _), (by decide : 24 + 0 ≤ _)⟩)
  dsimp only [Pt.U, Pt.locs, Pt.cells, Pt.slots] at X53 l53 y53 z53 st53 hQ53
  subst l53 y53 z53
  obtain ⟨rfl, N53q, eh53⟩ := hQ53
  have N53 := Fr.app N50 N53q
  have pre54 : ∀ t, Steps p.tables e below (T53.setTop (mkF m 186 #[.val (.long q1), .second, .val (.long q2), .second, .val (.int p3), .val (.ref b2), .val (.int byt), .val (.long off), .second, .val (.ref b23), .val (.long (own_iv (nar .byte q1.toInt32.toInt8.toInt32) (nar .byte (XT.ushrL q1 (8 : Int32)).toInt32.toInt8.toInt32) (nar .byte (XT.ushrL q1 (16 : Int32)).toInt32.toInt8.toInt32) (nar .byte (XT.ushrL q1 (24 : Int32)).toInt32.toInt8.toInt32) (nar .byte (XT.ushrL q1 (32 : Int32)).toInt32.toInt8.toInt32) off byt.toInt.toNat (0 : Int64))), .second, .unset, .unset] [(.long (own_term q1 off (6 : Int32) byt)), (.long ((((((own_term q1 off (0 : Int32) byt) ||| (own_term q1 off (1 : Int32) byt)) ||| (own_term q1 off (2 : Int32) byt)) ||| (own_term q1 off (3 : Int32) byt)) ||| (own_term q1 off (4 : Int32) byt)) ||| (own_term q1 off (5 : Int32) byt)))])) t → Steps p.tables e below (s₁.setTop (entryFrame m #[(.long q1), (.long q2), (.int p3)] maxLocals)) t := fun t k => pre52 t (st53 _ k)
  have pre55 : ∀ t, Steps p.tables e below (T53.setTop (mkF m 194 #[.val (.long q1), .second, .val (.long q2), .second, .val (.int p3), .val (.ref b2), .val (.int byt), .val (.long off), .second, .val (.ref b23), .val (.long (own_iv (nar .byte q1.toInt32.toInt8.toInt32) (nar .byte (XT.ushrL q1 (8 : Int32)).toInt32.toInt8.toInt32) (nar .byte (XT.ushrL q1 (16 : Int32)).toInt32.toInt8.toInt32) (nar .byte (XT.ushrL q1 (24 : Int32)).toInt32.toInt8.toInt32) (nar .byte (XT.ushrL q1 (32 : Int32)).toInt32.toInt8.toInt32) off byt.toInt.toNat (0 : Int64))), .second, .unset, .unset] [(.int byt), (.int (7 : Int32)), (.long off), (.long q1), (.long (((((((own_term q1 off (0 : Int32) byt) ||| (own_term q1 off (1 : Int32) byt)) ||| (own_term q1 off (2 : Int32) byt)) ||| (own_term q1 off (3 : Int32) byt)) ||| (own_term q1 off (4 : Int32) byt)) ||| (own_term q1 off (5 : Int32) byt)) ||| (own_term q1 off (6 : Int32) byt)))])) t → Steps p.tables e below (s₁.setTop (entryFrame m #[(.long q1), (.long q2), (.int p3)] maxLocals)) t := fun t k => pre54 t (by
    show Steps p.tables e below (T53.setTop (mkF m 186 #[.val (.long q1), .second, .val (.long q2), .second, .val (.int p3), .val (.ref b2), .val (.int byt), .val (.long off), .second, .val (.ref b23), .val (.long (own_iv (nar .byte q1.toInt32.toInt8.toInt32) (nar .byte (XT.ushrL q1 (8 : Int32)).toInt32.toInt8.toInt32) (nar .byte (XT.ushrL q1 (16 : Int32)).toInt32.toInt8.toInt32) (nar .byte (XT.ushrL q1 (24 : Int32)).toInt32.toInt8.toInt32) (nar .byte (XT.ushrL q1 (32 : Int32)).toInt32.toInt8.toInt32) off byt.toInt.toNat (0 : Int64))), .second, .unset, .unset] [(.long (own_term q1 off (6 : Int32) byt)), (.long ((((((own_term q1 off (0 : Int32) byt) ||| (own_term q1 off (1 : Int32) byt)) ||| (own_term q1 off (2 : Int32) byt)) ||| (own_term q1 off (3 : Int32) byt)) ||| (own_term q1 off (4 : Int32) byt)) ||| (own_term q1 off (5 : Int32) byt)))])) t
    refine XT.lor X53.here hx rfl (hb hby at_186) rfl ?_
    show Steps p.tables e below (T53.setTop (mkF m 187 #[.val (.long q1), .second, .val (.long q2), .second, .val (.int p3), .val (.ref b2), .val (.int byt), .val (.long off), .second, .val (.ref b23), .val (.long (own_iv (nar .byte q1.toInt32.toInt8.toInt32) (nar .byte (XT.ushrL q1 (8 : Int32)).toInt32.toInt8.toInt32) (nar .byte (XT.ushrL q1 (16 : Int32)).toInt32.toInt8.toInt32) (nar .byte (XT.ushrL q1 (24 : Int32)).toInt32.toInt8.toInt32) (nar .byte (XT.ushrL q1 (32 : Int32)).toInt32.toInt8.toInt32) off byt.toInt.toNat (0 : Int64))), .second, .unset, .unset] [(.long (((((((own_term q1 off (0 : Int32) byt) ||| (own_term q1 off (1 : Int32) byt)) ||| (own_term q1 off (2 : Int32) byt)) ||| (own_term q1 off (3 : Int32) byt)) ||| (own_term q1 off (4 : Int32) byt)) ||| (own_term q1 off (5 : Int32) byt)) ||| (own_term q1 off (6 : Int32) byt)))])) t
    refine XT.lloadN X53.here hx rfl (hb hby at_187) rfl ?_
    show Steps p.tables e below (T53.setTop (mkF m 188 #[.val (.long q1), .second, .val (.long q2), .second, .val (.int p3), .val (.ref b2), .val (.int byt), .val (.long off), .second, .val (.ref b23), .val (.long (own_iv (nar .byte q1.toInt32.toInt8.toInt32) (nar .byte (XT.ushrL q1 (8 : Int32)).toInt32.toInt8.toInt32) (nar .byte (XT.ushrL q1 (16 : Int32)).toInt32.toInt8.toInt32) (nar .byte (XT.ushrL q1 (24 : Int32)).toInt32.toInt8.toInt32) (nar .byte (XT.ushrL q1 (32 : Int32)).toInt32.toInt8.toInt32) off byt.toInt.toNat (0 : Int64))), .second, .unset, .unset] [(.long q1), (.long (((((((own_term q1 off (0 : Int32) byt) ||| (own_term q1 off (1 : Int32) byt)) ||| (own_term q1 off (2 : Int32) byt)) ||| (own_term q1 off (3 : Int32) byt)) ||| (own_term q1 off (4 : Int32) byt)) ||| (own_term q1 off (5 : Int32) byt)) ||| (own_term q1 off (6 : Int32) byt)))])) t
    refine XT.lload X53.here hx rfl (hb hby at_188) rfl ?_
    show Steps p.tables e below (T53.setTop (mkF m 190 #[.val (.long q1), .second, .val (.long q2), .second, .val (.int p3), .val (.ref b2), .val (.int byt), .val (.long off), .second, .val (.ref b23), .val (.long (own_iv (nar .byte q1.toInt32.toInt8.toInt32) (nar .byte (XT.ushrL q1 (8 : Int32)).toInt32.toInt8.toInt32) (nar .byte (XT.ushrL q1 (16 : Int32)).toInt32.toInt8.toInt32) (nar .byte (XT.ushrL q1 (24 : Int32)).toInt32.toInt8.toInt32) (nar .byte (XT.ushrL q1 (32 : Int32)).toInt32.toInt8.toInt32) off byt.toInt.toNat (0 : Int64))), .second, .unset, .unset] [(.long off), (.long q1), (.long (((((((own_term q1 off (0 : Int32) byt) ||| (own_term q1 off (1 : Int32) byt)) ||| (own_term q1 off (2 : Int32) byt)) ||| (own_term q1 off (3 : Int32) byt)) ||| (own_term q1 off (4 : Int32) byt)) ||| (own_term q1 off (5 : Int32) byt)) ||| (own_term q1 off (6 : Int32) byt)))])) t
    refine XS.bipush X53.here hx rfl (hb hby at_190) ?_
    show Steps p.tables e below (T53.setTop (mkF m 192 #[.val (.long q1), .second, .val (.long q2), .second, .val (.int p3), .val (.ref b2), .val (.int byt), .val (.long off), .second, .val (.ref b23), .val (.long (own_iv (nar .byte q1.toInt32.toInt8.toInt32) (nar .byte (XT.ushrL q1 (8 : Int32)).toInt32.toInt8.toInt32) (nar .byte (XT.ushrL q1 (16 : Int32)).toInt32.toInt8.toInt32) (nar .byte (XT.ushrL q1 (24 : Int32)).toInt32.toInt8.toInt32) (nar .byte (XT.ushrL q1 (32 : Int32)).toInt32.toInt8.toInt32) off byt.toInt.toNat (0 : Int64))), .second, .unset, .unset] [(.int (7 : Int32)), (.long off), (.long q1), (.long (((((((own_term q1 off (0 : Int32) byt) ||| (own_term q1 off (1 : Int32) byt)) ||| (own_term q1 off (2 : Int32) byt)) ||| (own_term q1 off (3 : Int32) byt)) ||| (own_term q1 off (4 : Int32) byt)) ||| (own_term q1 off (5 : Int32) byt)) ||| (own_term q1 off (6 : Int32) byt)))])) t
    refine XS.iload X53.here hx rfl (hb hby at_192) rfl ?_
    show Steps p.tables e below (T53.setTop (mkF m 194 #[.val (.long q1), .second, .val (.long q2), .second, .val (.int p3), .val (.ref b2), .val (.int byt), .val (.long off), .second, .val (.ref b23), .val (.long (own_iv (nar .byte q1.toInt32.toInt8.toInt32) (nar .byte (XT.ushrL q1 (8 : Int32)).toInt32.toInt8.toInt32) (nar .byte (XT.ushrL q1 (16 : Int32)).toInt32.toInt8.toInt32) (nar .byte (XT.ushrL q1 (24 : Int32)).toInt32.toInt8.toInt32) (nar .byte (XT.ushrL q1 (32 : Int32)).toInt32.toInt8.toInt32) off byt.toInt.toNat (0 : Int64))), .second, .unset, .unset] [(.int byt), (.int (7 : Int32)), (.long off), (.long q1), (.long (((((((own_term q1 off (0 : Int32) byt) ||| (own_term q1 off (1 : Int32) byt)) ||| (own_term q1 off (2 : Int32) byt)) ||| (own_term q1 off (3 : Int32) byt)) ||| (own_term q1 off (4 : Int32) byt)) ||| (own_term q1 off (5 : Int32) byt)) ||| (own_term q1 off (6 : Int32) byt)))])) t
    exact k)
  obtain ⟨_, _, ⟨T56, L56, k56, n56⟩, -, X56, ⟨Lc56, hQ56, l56, y56, z56⟩, st56⟩ := Jvm.LawKit.callS X53 hx (y := (⟨"com/example/decant/decant/decompiler/ir/GlobalInitialValuePinLaw", "term", "(JJII)J"⟩ : MethodName)) ho26 (mvT hZ26 (hw _ (List.mem_of_getElem? (i := 45) rfl))) (mvT hZ26 (hw _ (List.mem_of_getElem? (i := 46) rfl))) (mvT hZ26 (hw _ (List.mem_of_getElem? (i := 47) rfl))) (mvT hZ26 (hw _ (List.mem_of_getElem? (i := 48) rfl))) (by decide) (backOf (W := 2) (rm4 l Z a0 hw [] q1 off (7 : Int32) byt T29.heap n0 sz29 ) hZ26 (hw _ (List.mem_of_getElem? (i := 48) rfl)) (hw _ (List.mem_of_getElem? (i := 47) rfl)) (by decide) (by decide)) (g := (mkF m 194 #[.val (.long q1), .second, .val (.long q2), .second, .val (.int p3), .val (.ref b2), .val (.int byt), .val (.long off), .second, .val (.ref b23), .val (.long (own_iv (nar .byte q1.toInt32.toInt8.toInt32) (nar .byte (XT.ushrL q1 (8 : Int32)).toInt32.toInt8.toInt32) (nar .byte (XT.ushrL q1 (16 : Int32)).toInt32.toInt8.toInt32) (nar .byte (XT.ushrL q1 (24 : Int32)).toInt32.toInt8.toInt32) (nar .byte (XT.ushrL q1 (32 : Int32)).toInt32.toInt8.toInt32) off byt.toInt.toNat (0 : Int64))), .second, .unset, .unset] [(.int byt), (.int (7 : Int32)), (.long off), (.long q1), (.long (((((((own_term q1 off (0 : Int32) byt) ||| (own_term q1 off (1 : Int32) byt)) ||| (own_term q1 off (2 : Int32) byt)) ||| (own_term q1 off (3 : Int32) byt)) ||| (own_term q1 off (4 : Int32) byt)) ||| (own_term q1 off (5 : Int32) byt)) ||| (own_term q1 off (6 : Int32) byt)))])) rfl (by rw [hml]; rfl) (argsL := [(.long q1), (.long off), (.int (7 : Int32)), (.int byt)]) (rest := [(.long (((((((own_term q1 off (0 : Int32) byt) ||| (own_term q1 off (1 : Int32) byt)) ||| (own_term q1 off (2 : Int32) byt)) ||| (own_term q1 off (3 : Int32) byt)) ||| (own_term q1 off (4 : Int32) byt)) ||| (own_term q1 off (5 : Int32) byt)) ||| (own_term q1 off (6 : Int32) byt)))]) (lenOf pd_oJJIIcJ rfl) rfl (by show 2 * 0 + _ ≤ _; exact Nat.le_of_eq rfl) (hb hby at_194) (fun _ _ => ⟨rfl, eh53, (by decide : 5 + 0 ≤ _), (by decide : 24 + 0 ≤ _)⟩)
  dsimp only [Pt.U, Pt.locs, Pt.cells, Pt.slots] at X56 l56 y56 z56 st56 hQ56
  subst l56 y56 z56
  obtain ⟨rfl, N56q, eh56⟩ := hQ56
  have N56 := Fr.app N53 N56q
  have pre57 : ∀ t, Steps p.tables e below (T56.setTop (mkF m 197 #[.val (.long q1), .second, .val (.long q2), .second, .val (.int p3), .val (.ref b2), .val (.int byt), .val (.long off), .second, .val (.ref b23), .val (.long (own_iv (nar .byte q1.toInt32.toInt8.toInt32) (nar .byte (XT.ushrL q1 (8 : Int32)).toInt32.toInt8.toInt32) (nar .byte (XT.ushrL q1 (16 : Int32)).toInt32.toInt8.toInt32) (nar .byte (XT.ushrL q1 (24 : Int32)).toInt32.toInt8.toInt32) (nar .byte (XT.ushrL q1 (32 : Int32)).toInt32.toInt8.toInt32) off byt.toInt.toNat (0 : Int64))), .second, .unset, .unset] [(.long (own_term q1 off (7 : Int32) byt)), (.long (((((((own_term q1 off (0 : Int32) byt) ||| (own_term q1 off (1 : Int32) byt)) ||| (own_term q1 off (2 : Int32) byt)) ||| (own_term q1 off (3 : Int32) byt)) ||| (own_term q1 off (4 : Int32) byt)) ||| (own_term q1 off (5 : Int32) byt)) ||| (own_term q1 off (6 : Int32) byt)))])) t → Steps p.tables e below (s₁.setTop (entryFrame m #[(.long q1), (.long q2), (.int p3)] maxLocals)) t := fun t k => pre55 t (st56 _ k)
  have pre59 : ∀ t, Steps p.tables e below (T56.setTop (mkF m 213 #[.val (.long q1), .second, .val (.long q2), .second, .val (.int p3), .val (.ref b2), .val (.int byt), .val (.long off), .second, .val (.ref b23), .val (.long (own_iv (nar .byte q1.toInt32.toInt8.toInt32) (nar .byte (XT.ushrL q1 (8 : Int32)).toInt32.toInt8.toInt32) (nar .byte (XT.ushrL q1 (16 : Int32)).toInt32.toInt8.toInt32) (nar .byte (XT.ushrL q1 (24 : Int32)).toInt32.toInt8.toInt32) (nar .byte (XT.ushrL q1 (32 : Int32)).toInt32.toInt8.toInt32) off byt.toInt.toNat (0 : Int64))), .second, .val (.long ((((((((own_term q1 off (0 : Int32) byt) ||| (own_term q1 off (1 : Int32) byt)) ||| (own_term q1 off (2 : Int32) byt)) ||| (own_term q1 off (3 : Int32) byt)) ||| (own_term q1 off (4 : Int32) byt)) ||| (own_term q1 off (5 : Int32) byt)) ||| (own_term q1 off (6 : Int32) byt)) ||| (own_term q1 off (7 : Int32) byt))), .second] [(.int (1 : Int32))])) t → Steps p.tables e below (s₁.setTop (entryFrame m #[(.long q1), (.long q2), (.int p3)] maxLocals)) t := fun t k => pre57 t (by
    show Steps p.tables e below (T56.setTop (mkF m 197 #[.val (.long q1), .second, .val (.long q2), .second, .val (.int p3), .val (.ref b2), .val (.int byt), .val (.long off), .second, .val (.ref b23), .val (.long (own_iv (nar .byte q1.toInt32.toInt8.toInt32) (nar .byte (XT.ushrL q1 (8 : Int32)).toInt32.toInt8.toInt32) (nar .byte (XT.ushrL q1 (16 : Int32)).toInt32.toInt8.toInt32) (nar .byte (XT.ushrL q1 (24 : Int32)).toInt32.toInt8.toInt32) (nar .byte (XT.ushrL q1 (32 : Int32)).toInt32.toInt8.toInt32) off byt.toInt.toNat (0 : Int64))), .second, .unset, .unset] [(.long (own_term q1 off (7 : Int32) byt)), (.long (((((((own_term q1 off (0 : Int32) byt) ||| (own_term q1 off (1 : Int32) byt)) ||| (own_term q1 off (2 : Int32) byt)) ||| (own_term q1 off (3 : Int32) byt)) ||| (own_term q1 off (4 : Int32) byt)) ||| (own_term q1 off (5 : Int32) byt)) ||| (own_term q1 off (6 : Int32) byt)))])) t
    refine XT.lor X56.here hx rfl (hb hby at_197) rfl ?_
    show Steps p.tables e below (T56.setTop (mkF m 198 #[.val (.long q1), .second, .val (.long q2), .second, .val (.int p3), .val (.ref b2), .val (.int byt), .val (.long off), .second, .val (.ref b23), .val (.long (own_iv (nar .byte q1.toInt32.toInt8.toInt32) (nar .byte (XT.ushrL q1 (8 : Int32)).toInt32.toInt8.toInt32) (nar .byte (XT.ushrL q1 (16 : Int32)).toInt32.toInt8.toInt32) (nar .byte (XT.ushrL q1 (24 : Int32)).toInt32.toInt8.toInt32) (nar .byte (XT.ushrL q1 (32 : Int32)).toInt32.toInt8.toInt32) off byt.toInt.toNat (0 : Int64))), .second, .unset, .unset] [(.long ((((((((own_term q1 off (0 : Int32) byt) ||| (own_term q1 off (1 : Int32) byt)) ||| (own_term q1 off (2 : Int32) byt)) ||| (own_term q1 off (3 : Int32) byt)) ||| (own_term q1 off (4 : Int32) byt)) ||| (own_term q1 off (5 : Int32) byt)) ||| (own_term q1 off (6 : Int32) byt)) ||| (own_term q1 off (7 : Int32) byt)))])) t
    refine XT.lstore X56.here hx rfl (hb hby at_198) rfl (l' := #[.val (.long q1), .second, .val (.long q2), .second, .val (.int p3), .val (.ref b2), .val (.int byt), .val (.long off), .second, .val (.ref b23), .val (.long (own_iv (nar .byte q1.toInt32.toInt8.toInt32) (nar .byte (XT.ushrL q1 (8 : Int32)).toInt32.toInt8.toInt32) (nar .byte (XT.ushrL q1 (16 : Int32)).toInt32.toInt8.toInt32) (nar .byte (XT.ushrL q1 (24 : Int32)).toInt32.toInt8.toInt32) (nar .byte (XT.ushrL q1 (32 : Int32)).toInt32.toInt8.toInt32) off byt.toInt.toNat (0 : Int64))), .second, .val (.long ((((((((own_term q1 off (0 : Int32) byt) ||| (own_term q1 off (1 : Int32) byt)) ||| (own_term q1 off (2 : Int32) byt)) ||| (own_term q1 off (3 : Int32) byt)) ||| (own_term q1 off (4 : Int32) byt)) ||| (own_term q1 off (5 : Int32) byt)) ||| (own_term q1 off (6 : Int32) byt)) ||| (own_term q1 off (7 : Int32) byt))), .second]) rfl ?_
    show Steps p.tables e below (T56.setTop (mkF m 200 #[.val (.long q1), .second, .val (.long q2), .second, .val (.int p3), .val (.ref b2), .val (.int byt), .val (.long off), .second, .val (.ref b23), .val (.long (own_iv (nar .byte q1.toInt32.toInt8.toInt32) (nar .byte (XT.ushrL q1 (8 : Int32)).toInt32.toInt8.toInt32) (nar .byte (XT.ushrL q1 (16 : Int32)).toInt32.toInt8.toInt32) (nar .byte (XT.ushrL q1 (24 : Int32)).toInt32.toInt8.toInt32) (nar .byte (XT.ushrL q1 (32 : Int32)).toInt32.toInt8.toInt32) off byt.toInt.toNat (0 : Int64))), .second, .val (.long ((((((((own_term q1 off (0 : Int32) byt) ||| (own_term q1 off (1 : Int32) byt)) ||| (own_term q1 off (2 : Int32) byt)) ||| (own_term q1 off (3 : Int32) byt)) ||| (own_term q1 off (4 : Int32) byt)) ||| (own_term q1 off (5 : Int32) byt)) ||| (own_term q1 off (6 : Int32) byt)) ||| (own_term q1 off (7 : Int32) byt))), .second] [])) t
    refine XT.lload X56.here hx rfl (hb hby at_200) rfl ?_
    show Steps p.tables e below (T56.setTop (mkF m 202 #[.val (.long q1), .second, .val (.long q2), .second, .val (.int p3), .val (.ref b2), .val (.int byt), .val (.long off), .second, .val (.ref b23), .val (.long (own_iv (nar .byte q1.toInt32.toInt8.toInt32) (nar .byte (XT.ushrL q1 (8 : Int32)).toInt32.toInt8.toInt32) (nar .byte (XT.ushrL q1 (16 : Int32)).toInt32.toInt8.toInt32) (nar .byte (XT.ushrL q1 (24 : Int32)).toInt32.toInt8.toInt32) (nar .byte (XT.ushrL q1 (32 : Int32)).toInt32.toInt8.toInt32) off byt.toInt.toNat (0 : Int64))), .second, .val (.long ((((((((own_term q1 off (0 : Int32) byt) ||| (own_term q1 off (1 : Int32) byt)) ||| (own_term q1 off (2 : Int32) byt)) ||| (own_term q1 off (3 : Int32) byt)) ||| (own_term q1 off (4 : Int32) byt)) ||| (own_term q1 off (5 : Int32) byt)) ||| (own_term q1 off (6 : Int32) byt)) ||| (own_term q1 off (7 : Int32) byt))), .second] [(.long (own_iv (nar .byte q1.toInt32.toInt8.toInt32) (nar .byte (XT.ushrL q1 (8 : Int32)).toInt32.toInt8.toInt32) (nar .byte (XT.ushrL q1 (16 : Int32)).toInt32.toInt8.toInt32) (nar .byte (XT.ushrL q1 (24 : Int32)).toInt32.toInt8.toInt32) (nar .byte (XT.ushrL q1 (32 : Int32)).toInt32.toInt8.toInt32) off byt.toInt.toNat (0 : Int64)))])) t
    refine XT.lload X56.here hx rfl (hb hby at_202) rfl ?_
    show Steps p.tables e below (T56.setTop (mkF m 204 #[.val (.long q1), .second, .val (.long q2), .second, .val (.int p3), .val (.ref b2), .val (.int byt), .val (.long off), .second, .val (.ref b23), .val (.long (own_iv (nar .byte q1.toInt32.toInt8.toInt32) (nar .byte (XT.ushrL q1 (8 : Int32)).toInt32.toInt8.toInt32) (nar .byte (XT.ushrL q1 (16 : Int32)).toInt32.toInt8.toInt32) (nar .byte (XT.ushrL q1 (24 : Int32)).toInt32.toInt8.toInt32) (nar .byte (XT.ushrL q1 (32 : Int32)).toInt32.toInt8.toInt32) off byt.toInt.toNat (0 : Int64))), .second, .val (.long ((((((((own_term q1 off (0 : Int32) byt) ||| (own_term q1 off (1 : Int32) byt)) ||| (own_term q1 off (2 : Int32) byt)) ||| (own_term q1 off (3 : Int32) byt)) ||| (own_term q1 off (4 : Int32) byt)) ||| (own_term q1 off (5 : Int32) byt)) ||| (own_term q1 off (6 : Int32) byt)) ||| (own_term q1 off (7 : Int32) byt))), .second] [(.long ((((((((own_term q1 off (0 : Int32) byt) ||| (own_term q1 off (1 : Int32) byt)) ||| (own_term q1 off (2 : Int32) byt)) ||| (own_term q1 off (3 : Int32) byt)) ||| (own_term q1 off (4 : Int32) byt)) ||| (own_term q1 off (5 : Int32) byt)) ||| (own_term q1 off (6 : Int32) byt)) ||| (own_term q1 off (7 : Int32) byt))), (.long (own_iv (nar .byte q1.toInt32.toInt8.toInt32) (nar .byte (XT.ushrL q1 (8 : Int32)).toInt32.toInt8.toInt32) (nar .byte (XT.ushrL q1 (16 : Int32)).toInt32.toInt8.toInt32) (nar .byte (XT.ushrL q1 (24 : Int32)).toInt32.toInt8.toInt32) (nar .byte (XT.ushrL q1 (32 : Int32)).toInt32.toInt8.toInt32) off byt.toInt.toNat (0 : Int64)))])) t
    refine XT.lcmp X56.here hx rfl (hb hby at_204) rfl ?_
    show Steps p.tables e below (T56.setTop (mkF m 205 #[.val (.long q1), .second, .val (.long q2), .second, .val (.int p3), .val (.ref b2), .val (.int byt), .val (.long off), .second, .val (.ref b23), .val (.long (own_iv (nar .byte q1.toInt32.toInt8.toInt32) (nar .byte (XT.ushrL q1 (8 : Int32)).toInt32.toInt8.toInt32) (nar .byte (XT.ushrL q1 (16 : Int32)).toInt32.toInt8.toInt32) (nar .byte (XT.ushrL q1 (24 : Int32)).toInt32.toInt8.toInt32) (nar .byte (XT.ushrL q1 (32 : Int32)).toInt32.toInt8.toInt32) off byt.toInt.toNat (0 : Int64))), .second, .val (.long ((((((((own_term q1 off (0 : Int32) byt) ||| (own_term q1 off (1 : Int32) byt)) ||| (own_term q1 off (2 : Int32) byt)) ||| (own_term q1 off (3 : Int32) byt)) ||| (own_term q1 off (4 : Int32) byt)) ||| (own_term q1 off (5 : Int32) byt)) ||| (own_term q1 off (6 : Int32) byt)) ||| (own_term q1 off (7 : Int32) byt))), .second] [(.int (XT.cmpL (own_iv (nar .byte q1.toInt32.toInt8.toInt32) (nar .byte (XT.ushrL q1 (8 : Int32)).toInt32.toInt8.toInt32) (nar .byte (XT.ushrL q1 (16 : Int32)).toInt32.toInt8.toInt32) (nar .byte (XT.ushrL q1 (24 : Int32)).toInt32.toInt8.toInt32) (nar .byte (XT.ushrL q1 (32 : Int32)).toInt32.toInt8.toInt32) off byt.toInt.toNat (0 : Int64)) ((((((((own_term q1 off (0 : Int32) byt) ||| (own_term q1 off (1 : Int32) byt)) ||| (own_term q1 off (2 : Int32) byt)) ||| (own_term q1 off (3 : Int32) byt)) ||| (own_term q1 off (4 : Int32) byt)) ||| (own_term q1 off (5 : Int32) byt)) ||| (own_term q1 off (6 : Int32) byt)) ||| (own_term q1 off (7 : Int32) byt))))])) t
    refine XS.ifNo X56.here hx rfl (hb hby at_205) rfl (XT.ll_ne_f (show (own_iv (nar .byte q1.toInt32.toInt8.toInt32) (nar .byte (XT.ushrL q1 (8 : Int32)).toInt32.toInt8.toInt32) (nar .byte (XT.ushrL q1 (16 : Int32)).toInt32.toInt8.toInt32) (nar .byte (XT.ushrL q1 (24 : Int32)).toInt32.toInt8.toInt32) (nar .byte (XT.ushrL q1 (32 : Int32)).toInt32.toInt8.toInt32) off byt.toInt.toNat (0 : Int64)) = ((((((((own_term q1 off (0 : Int32) byt) ||| (own_term q1 off (1 : Int32) byt)) ||| (own_term q1 off (2 : Int32) byt)) ||| (own_term q1 off (3 : Int32) byt)) ||| (own_term q1 off (4 : Int32) byt)) ||| (own_term q1 off (5 : Int32) byt)) ||| (own_term q1 off (6 : Int32) byt)) ||| (own_term q1 off (7 : Int32) byt)) from own_plain _ _ _ hoff hbyt)) ?_
    show Steps p.tables e below (T56.setTop (mkF m 208 #[.val (.long q1), .second, .val (.long q2), .second, .val (.int p3), .val (.ref b2), .val (.int byt), .val (.long off), .second, .val (.ref b23), .val (.long (own_iv (nar .byte q1.toInt32.toInt8.toInt32) (nar .byte (XT.ushrL q1 (8 : Int32)).toInt32.toInt8.toInt32) (nar .byte (XT.ushrL q1 (16 : Int32)).toInt32.toInt8.toInt32) (nar .byte (XT.ushrL q1 (24 : Int32)).toInt32.toInt8.toInt32) (nar .byte (XT.ushrL q1 (32 : Int32)).toInt32.toInt8.toInt32) off byt.toInt.toNat (0 : Int64))), .second, .val (.long ((((((((own_term q1 off (0 : Int32) byt) ||| (own_term q1 off (1 : Int32) byt)) ||| (own_term q1 off (2 : Int32) byt)) ||| (own_term q1 off (3 : Int32) byt)) ||| (own_term q1 off (4 : Int32) byt)) ||| (own_term q1 off (5 : Int32) byt)) ||| (own_term q1 off (6 : Int32) byt)) ||| (own_term q1 off (7 : Int32) byt))), .second] [])) t
    refine XS.iconst X56.here hx rfl (hb hby at_208) ?_
    show Steps p.tables e below (T56.setTop (mkF m 209 #[.val (.long q1), .second, .val (.long q2), .second, .val (.int p3), .val (.ref b2), .val (.int byt), .val (.long off), .second, .val (.ref b23), .val (.long (own_iv (nar .byte q1.toInt32.toInt8.toInt32) (nar .byte (XT.ushrL q1 (8 : Int32)).toInt32.toInt8.toInt32) (nar .byte (XT.ushrL q1 (16 : Int32)).toInt32.toInt8.toInt32) (nar .byte (XT.ushrL q1 (24 : Int32)).toInt32.toInt8.toInt32) (nar .byte (XT.ushrL q1 (32 : Int32)).toInt32.toInt8.toInt32) off byt.toInt.toNat (0 : Int64))), .second, .val (.long ((((((((own_term q1 off (0 : Int32) byt) ||| (own_term q1 off (1 : Int32) byt)) ||| (own_term q1 off (2 : Int32) byt)) ||| (own_term q1 off (3 : Int32) byt)) ||| (own_term q1 off (4 : Int32) byt)) ||| (own_term q1 off (5 : Int32) byt)) ||| (own_term q1 off (6 : Int32) byt)) ||| (own_term q1 off (7 : Int32) byt))), .second] [(.int (1 : Int32))])) t
    refine XS.goto X56.here hx rfl (pc0 := 209) (pc' := 213) rfl (hb hby at_209) (by decide) (by decide) ?_
    show Steps p.tables e below (T56.setTop (mkF m 213 #[.val (.long q1), .second, .val (.long q2), .second, .val (.int p3), .val (.ref b2), .val (.int byt), .val (.long off), .second, .val (.ref b23), .val (.long (own_iv (nar .byte q1.toInt32.toInt8.toInt32) (nar .byte (XT.ushrL q1 (8 : Int32)).toInt32.toInt8.toInt32) (nar .byte (XT.ushrL q1 (16 : Int32)).toInt32.toInt8.toInt32) (nar .byte (XT.ushrL q1 (24 : Int32)).toInt32.toInt8.toInt32) (nar .byte (XT.ushrL q1 (32 : Int32)).toInt32.toInt8.toInt32) off byt.toInt.toNat (0 : Int64))), .second, .val (.long ((((((((own_term q1 off (0 : Int32) byt) ||| (own_term q1 off (1 : Int32) byt)) ||| (own_term q1 off (2 : Int32) byt)) ||| (own_term q1 off (3 : Int32) byt)) ||| (own_term q1 off (4 : Int32) byt)) ||| (own_term q1 off (5 : Int32) byt)) ||| (own_term q1 off (6 : Int32) byt)) ||| (own_term q1 off (7 : Int32) byt))), .second] [(.int (1 : Int32))])) t
    exact k)
  obtain ⟨fs, hr, hrun, hended, hend⟩ := Jvm.Stand.leaveW (s := s) (vm₁ := T26.vm) X56 hS26 (by rw [eh56]; exact hk29') (v := some (.int (1 : Int32))) (fun h => by rw [Bd.returns] at h; cases h)
  refine ⟨_, _, pre59 _ ?_, hrun, hended, _, _, rfl, ?_, ⟨_, rfl⟩, hend.2.1, hend.2.2.1, hend.2.2.2.mono (by decide) (by decide)⟩
  · show Steps p.tables e below (T56.setTop (mkF m 213 #[.val (.long q1), .second, .val (.long q2), .second, .val (.int p3), .val (.ref b2), .val (.int byt), .val (.long off), .second, .val (.ref b23), .val (.long (own_iv (nar .byte q1.toInt32.toInt8.toInt32) (nar .byte (XT.ushrL q1 (8 : Int32)).toInt32.toInt8.toInt32) (nar .byte (XT.ushrL q1 (16 : Int32)).toInt32.toInt8.toInt32) (nar .byte (XT.ushrL q1 (24 : Int32)).toInt32.toInt8.toInt32) (nar .byte (XT.ushrL q1 (32 : Int32)).toInt32.toInt8.toInt32) off byt.toInt.toNat (0 : Int64))), .second, .val (.long ((((((((own_term q1 off (0 : Int32) byt) ||| (own_term q1 off (1 : Int32) byt)) ||| (own_term q1 off (2 : Int32) byt)) ||| (own_term q1 off (3 : Int32) byt)) ||| (own_term q1 off (4 : Int32) byt)) ||| (own_term q1 off (5 : Int32) byt)) ||| (own_term q1 off (6 : Int32) byt)) ||| (own_term q1 off (7 : Int32) byt))), .second] [(.int (1 : Int32))])) _
    exact retN X56 hx (t := .boolean) Bd.returns (by simp) (hb hby at_213) hr
  · show Q0 Z q1 q2 p3 h0 n0 _ T56.heap _
    rw [eh56]
    exact ⟨rfl, N56⟩
set_option maxRecDepth 65536 in
set_option maxHeartbeats 40000000 in
theorem comes_1 {Post : Tables → Env → Array Value → State → Outcome → State → Prop} (hpost : ∀ tb e args s v u, (limb_1_1.after args s (.returned v) u = true ∧ limb_1_2.after args s (.returned v) u = true ∧ True) → ReturnedEndW s (.returned v) u (Jvm.fieldLocs frame_1_writes args s ++ Jvm.arrayLocs frame_1_arrays args s ++ Jvm.staticLocs frame_1_statics s) 16 1152 → Post tb e args s (.returned v) u) :
    ArmFor flags0 classFile x code maxLocals ret World_1 tables_1 room_1 Calls_1 rest_1 Pre_1 Post := by
  intro l hfl _ _ p e ha hc hk s m args below hf hA hF happ hP
  obtain ⟨hcalls, hrest, hpre⟩ := hP
  obtain ⟨-, -, -, hnamed, -, -, -, hat⟩ := (Spec.applies_iff hf).mp happ
  obtain ⟨hg, hn⟩ := and_e (Cond.before_iff.mp (show (Jvm.Cond.and given_1 narrow_1).before args s = true from hpre))
  obtain ⟨ga0, gb0⟩ := and_e hg
  obtain ⟨ga1, gb1⟩ := and_e gb0
  obtain ⟨ga2, gb2⟩ := and_e gb1
  obtain ⟨w0, w1, w2, rfl⟩ : ∃ w0 w1 w2 : Value, args = #[w0, w1, w2] := by
    have hs : args.size = 3 := by simpa [Cond.value, given_1] using ga0
    obtain ⟨L⟩ := args
    match L, hs with
    | [w0, w1, w2], _ => exact ⟨w0, w1, w2, rfl⟩
  have hw := fun d (hd : d ∈ tables_1) => atoms_spec (ws := Jvm.Cond.code x code maxLocals ret :: tables_1) hat d (List.mem_cons_of_mem _ hd)
  obtain ⟨i0, ei0⟩ := isL_v ga1
  obtain rfl : w0 = (.long i0) := Option.some.inj ei0
  obtain ⟨i1, ei1⟩ := isL_v ga2
  obtain rfl : w1 = (.long i1) := Option.some.inj ei1
  obtain ⟨i2, ei2⟩ := is_v gb2
  obtain rfl : w2 = (.int i2) := Option.some.inj ei2
  obtain ⟨n, o, h1, h2, h3, _, L, rfl, ⟨rfl, N⟩, hq⟩ := rm0 l s _ hw tables_1 i0 i1 i2 s.heap s.heap.size (Nat.le_refl _) p e ha hc hk s m _ below hf ((Spec.applies_iff_loose hf).mp happ).1 ⟨rfl, State.Warmed39.refl s, rfl⟩ trivial
  refine ⟨n, _, h1, h2, h3, hpost _ _ _ _ _ _ ⟨Cond.after_iff.mpr rfl, Cond.after_iff.mpr (eq_i res_at (Term.int_eval (1)) rfl), trivial⟩ ⟨hq.1, hq.2.1, hq.2.2.1, (hq.2.2.2.sift fun y hy => Or.inr (N y hy)).mono (by decide) (by decide)⟩⟩
theorem main_1_1 : Claimed_1_1 := comes_1 fun _ _ _ _ _ _ h hF => ⟨h.1, hF⟩
theorem main_1_2 : Claimed_1_2 := comes_1 fun _ _ _ _ _ _ h hF => ⟨h.2.1, hF⟩
end Jvm.Pilot.@@N@@
namespace Jvm.Pilot.@@N@@
open Jvm Jvm.ClassFile Sem Op Lib Jvm.Free Jvm.Stand Jvm.Pilot.@@N@@.Jvm.D
/-! MADE BY PROGRAM (witnessworld.py) out of the Statement's table words and the real class files: 14 classes; the members and pool entries that the words name. The judged class is class 1, her method 3. -/
namespace start1
open Jvm.ClassFile
def u (s : String) : CpInfo := .utf8 (stringToUtf16 s)
/-- a pool by its gaps: so many unusable entries, then the entry; so many at the end -/
def gap : Nat → List CpInfo → List CpInfo
  | 0, r => r
  | n + 1, r => .unusable :: gap n r
def poolList (es : List (Nat × CpInfo)) (last : Nat) : List CpInfo := es.foldr (fun e r => gap e.1 (e.2 :: r)) (gap last [])
def pool (es : List (Nat × CpInfo)) (last : Nat) : Array CpInfo := ⟨poolList es last⟩
def fileOf (pool : Array CpInfo) (this : Nat) (attrs : Array Attribute := #[]) (ms : Array MethodInfo := #[]) (fl : Nat := 33) (sup : Nat := 0) (ifs : Array Nat := #[]) (fds : Array FieldInfo := #[]) : ClassFile where
  minorVersion := 0
  majorVersion := 65
  constantPool := pool
  accessFlags := fl
  thisClass := this
  superClass := sup
  interfaces := ifs
  fields := fds
  methods := ms
  attributes := attrs
def plain (name : String) (sup : Option ClassId) : Class where
  name := name
  kind := .ordinary
  loader := none
  accessFlags := 33
  super := sup
  interfaces := #[]
  cf := none
  fields := #[]
  methods := #[]
  instanceTypes := #[]
  staticTypes := #[]
  resolved := #[]
  callSites := []
  init := .initialized
  statics := none
  mirror := none

def pool0 : Array CpInfo := pool [(5, u "<init>"), (0, u "()V"), (1, .class_ 10), (1, u "java/lang/Object"), (85, u "clone"), (0, u "()Ljava/lang/Object;")] 26

def k0c0 : Code := { maxStack := 0, maxLocals := 1, code := object_method_1_code, exceptionTable := #[], attributes := #[] }
def k0m0 : Method := { name := "<init>", desc := "()V", sig := { parameters := [], returnType := none }, accessFlags := 1, code := some k0c0 }
def k0m1 : Method := { name := "clone", desc := "()Ljava/lang/Object;", sig := { parameters := [], returnType := some (.object "java/lang/Object") }, accessFlags := 260, code := none }
/-- java/lang/Object -/
def k0 : Class := { plain "java/lang/Object" none with
  accessFlags := 33
  interfaces := #[]
  cf := some (fileOf pool0 8 #[] #[{ accessFlags := 1, nameIndex := 5, descriptorIndex := 6, attributes := #[] }, { accessFlags := 260, nameIndex := 96, descriptorIndex := 97, attributes := #[] }] 33 0 #[] #[])
  fields := #[]
  methods := #[k0m0, k0m1]
  instanceTypes := #[]
  staticTypes := #[]
  resolved := Array.replicate 124 none
  statics := none }

def pool1 : Array CpInfo := pool [(2, .class_ 4), (1, u "java/lang/Object"), (0, u "<init>"), (0, u "()V"), (0, .long 5), (1, .long 255), (1, .methodref 12 13), (0, .class_ 14), (0, .nameAndType 15 16), (0, u "com/example/decant/decant/decompiler/ir/GlobalInitialValuePinLaw"), (0, u "at"), (0, u "(JJ)J"), (0, .integer 2147483647), (0, .long 15), (1, .class_ 21), (0, u "com/example/decant/decant/decompiler/ir/Global"), (0, .string 23), (0, u "g"), (0, .long 16), (1, .methodref 20 27), (0, .nameAndType 5 28), (0, u "(Ljava/lang/String;JJ[BZZ)V"), (0, .methodref 20 30), (0, .nameAndType 31 32), (0, u "initialValue"), (0, u "(JI)J"), (0, .methodref 12 34), (0, .nameAndType 35 36), (0, u "term"), (0, u "(JJII)J"), (3, u "law"), (0, u "(JJI)Z")] 4

def k1m0 : Method := { name := "<init>", desc := "()V", sig := { parameters := [], returnType := none }, accessFlags := 1, code := none }
def k1c1 : Code := { maxStack := 5, maxLocals := 4, code := method_2_code, exceptionTable := #[], attributes := #[] }
def k1m1 : Method := { name := "at", desc := "(JJ)J", sig := { parameters := [.long, .long], returnType := some .long }, accessFlags := 10, code := some k1c1 }
def k1c2 : Code := { maxStack := 6, maxLocals := 6, code := method_3_code, exceptionTable := #[], attributes := #[] }
def k1m2 : Method := { name := "term", desc := "(JJII)J", sig := { parameters := [.long, .long, .int, .int], returnType := some .long }, accessFlags := 10, code := some k1c2 }
def k1c3 : Code := { maxStack := 10, maxLocals := 14, code := code, exceptionTable := #[], attributes := #[] }
def k1m3 : Method := { name := "law", desc := "(JJI)Z", sig := { parameters := [.long, .long, .int], returnType := some .boolean }, accessFlags := 9, code := some k1c3 }
/-- com/example/decant/decant/decompiler/ir/GlobalInitialValuePinLaw -/
def k1 : Class := { plain "com/example/decant/decant/decompiler/ir/GlobalInitialValuePinLaw" (some 0) with
  accessFlags := 49
  interfaces := #[]
  cf := some (fileOf pool1 12 #[] #[{ accessFlags := 1, nameIndex := 5, descriptorIndex := 6, attributes := #[] }, { accessFlags := 10, nameIndex := 15, descriptorIndex := 16, attributes := #[] }, { accessFlags := 10, nameIndex := 35, descriptorIndex := 36, attributes := #[] }, { accessFlags := 9, nameIndex := 40, descriptorIndex := 41, attributes := #[] }] 49 2 #[] #[])
  fields := #[]
  methods := #[k1m0, k1m1, k1m2, k1m3]
  instanceTypes := #[]
  staticTypes := #[]
  resolved := Array.replicate 46 none
  statics := none }

def pool2 : Array CpInfo := pool [(1, .methodref 2 3), (0, .class_ 4), (0, .nameAndType 5 6), (0, u "java/lang/Object"), (0, u "<init>"), (0, u "()V"), (9, .fieldref 17 18), (0, .class_ 19), (0, .nameAndType 20 21), (0, u "com/example/decant/decant/decompiler/ir/Global"), (0, u "name"), (0, u "Ljava/lang/String;"), (0, .fieldref 17 23), (0, .nameAndType 24 25), (0, u "address"), (0, u "J"), (0, .fieldref 17 27), (0, .nameAndType 28 25), (0, u "size"), (0, .methodref 30 31), (0, .class_ 32), (0, .nameAndType 33 34), (0, u "[B"), (0, u "clone"), (0, u "()Ljava/lang/Object;"), (0, .fieldref 17 36), (0, .nameAndType 37 32), (0, u "initial"), (0, .fieldref 17 39), (0, .nameAndType 40 41), (0, u "readOnly"), (0, u "Z"), (0, .fieldref 17 43), (0, .nameAndType 44 41), (0, u "shared"), (0, u "(Ljava/lang/String;JJ[BZZ)V"), (7, u "initialValue"), (0, u "(JI)J")] 21

def k2c0 : Code := { maxStack := 6, maxLocals := 9, code := prog_93_method_1_code, exceptionTable := #[], attributes := #[] }
def k2m0 : Method := { name := "<init>", desc := "(Ljava/lang/String;JJ[BZZ)V", sig := { parameters := [(.object "java/lang/String"), .long, .long, (.array .byte), .boolean, .boolean], returnType := none }, accessFlags := 1, code := some k2c0 }
def k2c1 : Code := { maxStack := 6, maxLocals := 9, code := prog_93_method_5_code, exceptionTable := #[], attributes := #[] }
def k2m1 : Method := { name := "initialValue", desc := "(JI)J", sig := { parameters := [.long, .int], returnType := some .long }, accessFlags := 1, code := some k2c1 }
/-- com/example/decant/decant/decompiler/ir/Global -/
def k2 : Class := { plain "com/example/decant/decant/decompiler/ir/Global" (some 0) with
  accessFlags := 49
  interfaces := #[]
  cf := some (fileOf pool2 17 #[] #[{ accessFlags := 1, nameIndex := 5, descriptorIndex := 45, attributes := #[] }, { accessFlags := 1, nameIndex := 53, descriptorIndex := 54, attributes := #[] }] 49 2 #[] #[{ accessFlags := 18, nameIndex := 20, descriptorIndex := 21, attributes := #[] }, { accessFlags := 18, nameIndex := 24, descriptorIndex := 25, attributes := #[] }, { accessFlags := 18, nameIndex := 28, descriptorIndex := 25, attributes := #[] }, { accessFlags := 18, nameIndex := 37, descriptorIndex := 32, attributes := #[] }, { accessFlags := 18, nameIndex := 40, descriptorIndex := 41, attributes := #[] }, { accessFlags := 18, nameIndex := 44, descriptorIndex := 41, attributes := #[] }])
  fields := #[{ name := "name", type := (.object "java/lang/String"), accessFlags := 18, slot := 0, constantValue := 0 }, { name := "address", type := .long, accessFlags := 18, slot := 1, constantValue := 0 }, { name := "size", type := .long, accessFlags := 18, slot := 2, constantValue := 0 }, { name := "initial", type := (.array .byte), accessFlags := 18, slot := 3, constantValue := 0 }, { name := "readOnly", type := .boolean, accessFlags := 18, slot := 4, constantValue := 0 }, { name := "shared", type := .boolean, accessFlags := 18, slot := 5, constantValue := 0 }]
  methods := #[k2m0, k2m1]
  instanceTypes := #[(.object "java/lang/String"), .long, .long, (.array .byte), .boolean, .boolean]
  staticTypes := #[]
  resolved := Array.replicate 76 none
  statics := none }

def pool3 : Array CpInfo := pool [(1, .class_ 2), (0, u "java/io/Serializable"), (0, .class_ 4), (0, u "java/lang/Object")] 2

/-- java/io/Serializable -/
def k3 : Class := { plain "java/io/Serializable" (some 0) with
  accessFlags := 1537
  interfaces := #[]
  cf := some (fileOf pool3 1 #[] #[] 1537 3 #[] #[])
  fields := #[]
  methods := #[]
  instanceTypes := #[]
  staticTypes := #[]
  resolved := Array.replicate 7 none
  statics := none }

def pool4 : Array CpInfo := pool [(1, .class_ 2), (0, u "java/lang/Comparable"), (0, .class_ 4), (0, u "java/lang/Object")] 7

/-- java/lang/Comparable -/
def k4 : Class := { plain "java/lang/Comparable" (some 0) with
  accessFlags := 1537
  interfaces := #[]
  cf := some (fileOf pool4 1 #[] #[] 1537 3 #[] #[])
  fields := #[]
  methods := #[]
  instanceTypes := #[]
  staticTypes := #[]
  resolved := Array.replicate 12 none
  statics := none }

def pool5 : Array CpInfo := pool [(2, .class_ 4), (1, u "java/lang/CharSequence"), (42, .class_ 48), (0, u "java/lang/CharSequence$1CodePointIterator"), (10, .class_ 60), (0, u "java/lang/CharSequence$1CharIterator"), (5, .class_ 67), (0, u "java/lang/Object")] 63

/-- java/lang/CharSequence -/
def k5 : Class := { plain "java/lang/CharSequence" (some 0) with
  accessFlags := 1537
  interfaces := #[]
  cf := some (fileOf pool5 2 #[.nestMembers #[47, 59]] #[] 1537 66 #[] #[])
  fields := #[]
  methods := #[]
  instanceTypes := #[]
  staticTypes := #[]
  resolved := Array.replicate 131 none
  statics := none }

def pool6 : Array CpInfo := pool [(1, .class_ 2), (0, u "java/lang/constant/Constable"), (0, .class_ 4), (0, u "java/lang/Object")] 6

/-- java/lang/constant/Constable -/
def k6 : Class := { plain "java/lang/constant/Constable" (some 0) with
  accessFlags := 1537
  interfaces := #[]
  cf := some (fileOf pool6 1 #[] #[] 1537 3 #[] #[])
  fields := #[]
  methods := #[]
  instanceTypes := #[]
  staticTypes := #[]
  resolved := Array.replicate 11 none
  statics := none }

def pool7 : Array CpInfo := pool [(1, .class_ 2), (0, u "java/lang/constant/ConstantDesc"), (0, .class_ 4), (0, u "java/lang/Object")] 32

/-- java/lang/constant/ConstantDesc -/
def k7 : Class := { plain "java/lang/constant/ConstantDesc" (some 0) with
  accessFlags := 1537
  interfaces := #[]
  cf := some (fileOf pool7 1 #[] #[] 1537 3 #[] #[])
  fields := #[]
  methods := #[]
  instanceTypes := #[]
  staticTypes := #[]
  resolved := Array.replicate 37 none
  statics := none }

def pool8 : Array CpInfo := pool [(2, .class_ 4), (1, u "java/lang/Object"), (0, u "<init>"), (0, u "()V"), (3, .class_ 12), (1, u "java/lang/String"), (0, u "value"), (0, u "[B"), (2, u "coder"), (0, u "B"), (2, u "hash"), (0, u "I"), (2, u "hashIsZero"), (0, u "Z"), (13, u "COMPACT_STRINGS"), (534, .class_ 576), (0, u "java/lang/CharSequence"), (22, u "CASE_INSENSITIVE_ORDER"), (0, u "Ljava/util/Comparator;"), (500, u "serialPersistentFields"), (0, u "[Ljava/io/ObjectStreamField;"), (0, .class_ 1104), (0, u "java/lang/String$CaseInsensitiveComparator"), (1, .class_ 1107), (0, u "java/io/Serializable"), (0, .class_ 1109), (0, u "java/lang/Comparable"), (0, .class_ 1111), (0, u "java/lang/constant/Constable"), (0, .class_ 1113), (0, u "java/lang/constant/ConstantDesc"), (2, u "serialVersionUID"), (0, u "J"), (3, u "REPL"), (0, u "C"), (2, u "LATIN1"), (1, u "UTF16")] 323

def k8m0 : Method := { name := "<init>", desc := "()V", sig := { parameters := [], returnType := none }, accessFlags := 1, code := none }
/-- java/lang/String -/
def k8 : Class := { plain "java/lang/String" (some 0) with
  accessFlags := 49
  interfaces := #[3, 4, 5, 6, 7]
  cf := some (fileOf pool8 10 #[.nestMembers #[1103]] #[{ accessFlags := 1, nameIndex := 5, descriptorIndex := 6, attributes := #[] }] 49 2 #[1106, 1108, 575, 1110, 1112] #[{ accessFlags := 18, nameIndex := 13, descriptorIndex := 14, attributes := #[] }, { accessFlags := 18, nameIndex := 17, descriptorIndex := 18, attributes := #[] }, { accessFlags := 2, nameIndex := 21, descriptorIndex := 22, attributes := #[] }, { accessFlags := 2, nameIndex := 25, descriptorIndex := 26, attributes := #[] }, { accessFlags := 26, nameIndex := 1116, descriptorIndex := 1117, attributes := #[] }, { accessFlags := 24, nameIndex := 40, descriptorIndex := 26, attributes := #[] }, { accessFlags := 26, nameIndex := 1101, descriptorIndex := 1102, attributes := #[] }, { accessFlags := 26, nameIndex := 1121, descriptorIndex := 1122, attributes := #[] }, { accessFlags := 25, nameIndex := 599, descriptorIndex := 600, attributes := #[] }, { accessFlags := 24, nameIndex := 1125, descriptorIndex := 18, attributes := #[] }, { accessFlags := 24, nameIndex := 1127, descriptorIndex := 18, attributes := #[] }])
  fields := #[{ name := "value", type := (.array .byte), accessFlags := 18, slot := 0, constantValue := 0 }, { name := "coder", type := .byte, accessFlags := 18, slot := 1, constantValue := 0 }, { name := "hash", type := .int, accessFlags := 2, slot := 2, constantValue := 0 }, { name := "hashIsZero", type := .boolean, accessFlags := 2, slot := 3, constantValue := 0 }, { name := "serialVersionUID", type := .long, accessFlags := 26, slot := 0, constantValue := 0 }, { name := "COMPACT_STRINGS", type := .boolean, accessFlags := 24, slot := 1, constantValue := 0 }, { name := "serialPersistentFields", type := (.array (.object "java/io/ObjectStreamField")), accessFlags := 26, slot := 2, constantValue := 0 }, { name := "REPL", type := .char, accessFlags := 26, slot := 3, constantValue := 0 }, { name := "CASE_INSENSITIVE_ORDER", type := (.object "java/util/Comparator"), accessFlags := 25, slot := 4, constantValue := 0 }, { name := "LATIN1", type := .byte, accessFlags := 24, slot := 5, constantValue := 0 }, { name := "UTF16", type := .byte, accessFlags := 24, slot := 6, constantValue := 0 }]
  methods := #[k8m0]
  instanceTypes := #[(.array .byte), .byte, .int, .boolean]
  staticTypes := #[.long, .boolean, (.array (.object "java/io/ObjectStreamField")), .char, (.object "java/util/Comparator"), .byte, .byte]
  resolved := Array.replicate 1451 none
  statics := none }

def pool9 : Array CpInfo := pool [(1, .class_ 2), (0, u "java/lang/Cloneable"), (0, .class_ 4), (0, u "java/lang/Object")] 2

/-- java/lang/Cloneable -/
def k9 : Class := { plain "java/lang/Cloneable" (some 0) with
  accessFlags := 1537
  interfaces := #[]
  cf := some (fileOf pool9 1 #[] #[] 1537 3 #[] #[])
  fields := #[]
  methods := #[]
  instanceTypes := #[]
  staticTypes := #[]
  resolved := Array.replicate 7 none
  statics := none }

/-- the primitive byte -/
def k10 : Class := { plain "byte" none with kind := .primitive 'B', accessFlags := 0x411 }
/-- [B -/
def k11 : Class := { plain "[B" (some 0) with kind := .array 10 .byte, interfaces := #[9, 3], accessFlags := 1041 }

/-- the primitive int -/
def k12 : Class := { plain "int" none with kind := .primitive 'I', accessFlags := 0x411 }
/-- [I -/
def k13 : Class := { plain "[I" (some 0) with kind := .array 12 .int, interfaces := #[9, 3], accessFlags := 1041 }

def heap : Heap := #[]
def classes : Array Class := #[k0, k1, k2, k3, k4, k5, k6, k7, k8, k9, k10, k11, k12, k13]
def interned : List (Array UInt16 × Addr) := []
def slotsUsed : Nat := 0
def theMethod : MethodId := ⟨1, 3⟩
def args0 : Array Value := #[.long 1, .long 2, .int 3]
def aboutOver (below : List Frame) : State where
  vm := { classes := classes, interned := interned.toArray }
  heap := heap
  slotsUsed := slotsUsed
  threads := #[{ frames := .invoking theMethod args0 :: below }]
def below0 : List Frame := [.native { method := ⟨0, 0⟩, args := #[] }]
def about1 : State := aboutOver below0
def p0 : Program := .bare "" "" ""
def e0 : Env := launch0.env 0 0 0
theorem w_frames : about1.frames = Frame.invoking theMethod args0 :: below0 := rfl
set_option maxRecDepth 65536 in
theorem w_args : argsFit about1.vm theMethod args0 = true := by decide +kernel
set_option maxRecDepth 65536 in
theorem w_heap : heapFits about1 = true := by decide +kernel
set_option maxRecDepth 65536 in
theorem w_runnable : about1.curStatus? = some .runnable := by decide +kernel
set_option maxRecDepth 65536 in
theorem w_alone : about1.alone = true := by decide +kernel
set_option maxRecDepth 65536 in
theorem w_named : about1.methodNamed? x = some theMethod := by decide +kernel
set_option maxRecDepth 65536 in
theorem w_hears : about1.hears theMethod below0 = true := by decide +kernel
set_option maxRecDepth 65536 in
theorem w_ripe : about1.ripe theMethod args0 below0 = true := by decide +kernel
theorem w_running : about1.status = .running := rfl
set_option maxRecDepth 65536 in
theorem w_room : about1.hasRoom e0.platform room_1 = true :=
  launch0.hasRoom_least _ room_1 (by decide +kernel) (by decide +kernel) (by decide +kernel) (by decide +kernel) (by decide +kernel) (by decide +kernel)
theorem allAtoms_all (ts : List Jvm.Cond) (a : Array Jvm.Value) (st : Jvm.State) : (allAtoms ts).before a st = ts.all (fun c => c.before a st) := by
  induction ts with
  | nil => rfl
  | cons c t ih =>
    show (Jvm.Cond.and c (allAtoms t)).before a st = _
    rw [Jvm.Cond.before_and, ih, List.all_cons]
def words1 : List Jvm.Cond := Jvm.Cond.code x code maxLocals ret :: tables_1
/-- a 'code' word, met by the world's own term for the bytes: nothing is compared byte by byte -/
theorem code_word {y : MethodName} {bytes : ByteArray} {mx : Nat} {rt : Option FieldType} {a : Array Value} {s : State} {m : MethodId} {meth : Method} {c : Code} (h1 : s.methodNamed? y = some m) (h2 : s.vm.method? m = some meth) (h3 : meth.code = some c) (h4 : c.code = bytes)
    (h5 : (c.maxLocals == mx && c.exceptionTable.isEmpty && decide (c.maxStack ≤ mostOperands) && decide (meth.sig.returnType = rt) && !meth.locks && decide (parseMethodDescriptor y.desc = some meth.sig)) = true) : (Jvm.Cond.code y bytes mx rt).before a s = true := by
  simp only [Bool.and_eq_true, beq_iff_eq, Bool.not_eq_true', decide_eq_true_eq] at h5
  obtain ⟨⟨⟨⟨⟨g1, g2⟩, g3⟩, g4⟩, g5⟩, g6⟩ := h5
  simp [Cond.before, Cond.holds, Cond.value, h1, h2, h3, h4, g1, g2, g3, g4, g5, g6]
def isCode : Jvm.Cond → Bool
  | .code _ _ _ _ => true
  | _ => false
theorem all_split {L : List Jvm.Cond} {P : Jvm.Cond → Bool} (h1 : L.all (fun c => isCode c || P c) = true) (h2 : ∀ c ∈ L.filter isCode, P c = true) : L.all P = true := by
  refine List.all_eq_true.mpr fun c hc => ?_
  have h := List.all_eq_true.mp h1 c hc
  rcases Bool.eq_false_or_eq_true (isCode c) with hi | hi
  · exact h2 c (List.mem_filter.mpr ⟨hc, hi⟩)
  · simpa [hi] using h
set_option maxRecDepth 65536 in
theorem w_c0 : (Jvm.Cond.code x code maxLocals ret).before args0 about1 = true := code_word (m := ⟨1, 3⟩) (meth := k1m3) (c := k1c3) (by decide +kernel) rfl rfl rfl (by decide +kernel)
set_option maxRecDepth 65536 in
theorem w_c1 : (Jvm.Cond.code ({ cls := "com/example/decant/decant/decompiler/ir/Global", name := "<init>", desc := "(Ljava/lang/String;JJ[BZZ)V" } : Jvm.MethodName) prog_93_method_1_code (9 : Nat) (Option.none : Option Jvm.ClassFile.FieldType)).before args0 about1 = true := code_word (m := ⟨2, 0⟩) (meth := k2m0) (c := k2c0) (by decide +kernel) rfl rfl rfl (by decide +kernel)
set_option maxRecDepth 65536 in
theorem w_c2 : (Jvm.Cond.code ({ cls := "java/lang/Object", name := "<init>", desc := "()V" } : Jvm.MethodName) object_method_1_code (1 : Nat) (Option.none : Option Jvm.ClassFile.FieldType)).before args0 about1 = true := code_word (m := ⟨0, 0⟩) (meth := k0m0) (c := k0c0) (by decide +kernel) rfl rfl rfl (by decide +kernel)
set_option maxRecDepth 65536 in
theorem w_c3 : (Jvm.Cond.code ({ cls := "com/example/decant/decant/decompiler/ir/Global", name := "initialValue", desc := "(JI)J" } : Jvm.MethodName) prog_93_method_5_code (9 : Nat) (Option.some Jvm.ClassFile.FieldType.long)).before args0 about1 = true := code_word (m := ⟨2, 1⟩) (meth := k2m1) (c := k2c1) (by decide +kernel) rfl rfl rfl (by decide +kernel)
set_option maxRecDepth 65536 in
theorem w_c4 : (Jvm.Cond.code ({ cls := "com/example/decant/decant/decompiler/ir/GlobalInitialValuePinLaw", name := "term", desc := "(JJII)J" } : Jvm.MethodName) method_3_code (6 : Nat) (Option.some Jvm.ClassFile.FieldType.long)).before args0 about1 = true := code_word (m := ⟨1, 2⟩) (meth := k1m2) (c := k1c2) (by decide +kernel) rfl rfl rfl (by decide +kernel)
set_option maxRecDepth 65536 in
theorem w_c5 : (Jvm.Cond.code ({ cls := "com/example/decant/decant/decompiler/ir/GlobalInitialValuePinLaw", name := "at", desc := "(JJ)J" } : Jvm.MethodName) method_2_code (4 : Nat) (Option.some Jvm.ClassFile.FieldType.long)).before args0 about1 = true := code_word (m := ⟨1, 1⟩) (meth := k1m1) (c := k1c1) (by decide +kernel) rfl rfl rfl (by decide +kernel)
def codes1 : List Jvm.Cond := [Jvm.Cond.code x code maxLocals ret, Jvm.Cond.code ({ cls := "com/example/decant/decant/decompiler/ir/Global", name := "<init>", desc := "(Ljava/lang/String;JJ[BZZ)V" } : Jvm.MethodName) prog_93_method_1_code (9 : Nat) (Option.none : Option Jvm.ClassFile.FieldType), Jvm.Cond.code ({ cls := "java/lang/Object", name := "<init>", desc := "()V" } : Jvm.MethodName) object_method_1_code (1 : Nat) (Option.none : Option Jvm.ClassFile.FieldType), Jvm.Cond.code ({ cls := "com/example/decant/decant/decompiler/ir/Global", name := "initialValue", desc := "(JI)J" } : Jvm.MethodName) prog_93_method_5_code (9 : Nat) (Option.some Jvm.ClassFile.FieldType.long), Jvm.Cond.code ({ cls := "com/example/decant/decant/decompiler/ir/GlobalInitialValuePinLaw", name := "term", desc := "(JJII)J" } : Jvm.MethodName) method_3_code (6 : Nat) (Option.some Jvm.ClassFile.FieldType.long), Jvm.Cond.code ({ cls := "com/example/decant/decant/decompiler/ir/GlobalInitialValuePinLaw", name := "at", desc := "(JJ)J" } : Jvm.MethodName) method_2_code (4 : Nat) (Option.some Jvm.ClassFile.FieldType.long)]
set_option maxRecDepth 65536 in
theorem codes_eq : words1.filter isCode = codes1 := rfl
theorem w_codes : ∀ c ∈ words1.filter isCode, c.before args0 about1 = true := by
  rw [codes_eq]
  intro c hc
  simp only [codes1, List.mem_cons, List.not_mem_nil, or_false] at hc
  rcases hc with rfl | rfl | rfl | rfl | rfl | rfl
  · exact w_c0
  · exact w_c1
  · exact w_c2
  · exact w_c3
  · exact w_c4
  · exact w_c5
set_option maxRecDepth 65536 in
theorem w_t1 : (words1.take 24).all (fun c => isCode c || c.before args0 about1) = true := by decide +kernel
set_option maxRecDepth 65536 in
theorem w_t2 : ((words1.drop 24).take 24).all (fun c => isCode c || c.before args0 about1) = true := by decide +kernel
set_option maxRecDepth 65536 in
theorem w_t3 : ((words1.drop 24).drop 24).all (fun c => isCode c || c.before args0 about1) = true := by decide +kernel
theorem w_tables : (allAtoms (Jvm.Cond.code x code maxLocals ret :: tables_1)).before args0 about1 = true := by
  rw [allAtoms_all]
  show words1.all (fun c => c.before args0 about1) = true
  refine all_split ?_ w_codes
  rw [← List.take_append_drop 24 words1, List.all_append, w_t1, ← List.take_append_drop 24 (words1.drop 24), List.all_append, w_t2, w_t3]
  rfl
set_option maxRecDepth 65536 in
theorem w_case : (Jvm.Cond.and given_1 narrow_1).before args0 about1 = true := by decide +kernel
theorem w_applies : (headSpec (Jvm.Cond.code x code maxLocals ret :: tables_1) room_1).applies x e0.platform about1 = true :=
  (Spec.applies_iff w_frames).mpr ⟨w_running, w_runnable, w_alone, w_named, w_hears, w_ripe, w_room, w_tables⟩
theorem atStart : AtStart classFile x code maxLocals ret World_1 tables_1 room_1 Calls_1 rest_1 Pre_1 launch0 p0 e0 about1 theMethod args0 below0 :=
  ⟨lists_1, trivial, launch0.admits_env _ _ _, launch0.least_env, fairChoices_fair.cas, fairChoices_fair.clock, w_frames, w_args, w_heap, w_applies, trivial, trivial, w_case⟩
end start1
theorem witness_1 : WitnessClaimed_1 := ⟨start1.p0, start1.e0, start1.about1, start1.theMethod, start1.args0, start1.below0, start1.atStart⟩
end Jvm.Pilot.@@N@@
