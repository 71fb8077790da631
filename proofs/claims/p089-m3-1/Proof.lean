import JvmDerived
import JvmDerived.Pilot.@@N@@Statement
import JvmDerived.Pilot.@@N@@Code
set_option linter.unusedVariables false
set_option linter.unusedSimpArgs false
@@BLOCK:NumsL.lean.txt@@
@@BLOCK:Masks.lean.txt@@
namespace Jvm.RoadKit
open Sem ClassFile Op Lib Jvm.Stand Jvm.Free Jvm.LawKit
section New
variable {p : Program} {l : Launch} {e : Env} {R : Room} {s : State} {m : MethodId} {args : Array Value} {below : List Frame} {meth : Method} {c : Code} {T : State} {locs : List Loc} {cells slots : Nat}
theorem retI (X : Stand p l e R s m args below meth c T locs cells slots) (hx : p.tables.exec = Jvm.exec) {pc : Nat} {Ls : Array Slot} {z : Int32} {rest : List Value} (hret : meth.sig.returnType = some .int) (hd : decode c.code pc = .ok (.ireturn, 1)) {fs : List Frame}
    (hl : ∀ (f : JFrame) (acts : List Action), f.method = m → f.locked = none → f.entered = [] → (doReturn e (T.setTop f) acts (some (.int z))).1 = T.setFrames fs) : Steps p.tables e below (T.setTop (mkF m pc Ls (.int z :: rest))) (T.setFrames fs) := by
  have hm' : T.vm.method? m = some meth := X.method'
  have hn : narrow .int (.int z) = .int z := rfl
  show Steps p.tables e below (T.setTop { method := m, pc := pc, locals := Ls, stack := _ :: rest, locked := none }) _
  jvm_step X.here [X.here.top, hx, hd, hm', hret, hn]
  first | (intro acts; rw [hl _ acts rfl rfl rfl]) | rw [hl _ _ rfl rfl rfl]
  exact Steps.refl _
end New
end Jvm.RoadKit
namespace Jvm.Pilot.@@N@@
open Jvm Jvm.ClassFile Sem Op Lib Jvm.Free Jvm.Stand Jvm.LawKit Jvm.RoadKit Bundle Jvm.Pilot.@@N@@.Jvm.D
section Own
variable {p : Program} {l : Launch} {e : Env} {R : Room} {s : State} {m : MethodId} {args : Array Value} {below : List Frame} {meth : Method} {c : Code} {T : State} {locs : List Loc} {cells slots : Nat} {Z : State} {h : Heap} {a : Addr} {k : ClassId} {n : Int32} {vs : List Value} {dv : Value} {ty : FieldType}
theorem own_caload (X : Stand p l e R s m args below meth c T locs cells slots) (hx : p.tables.exec = Jvm.exec) (hZ : Z.Warmed39 s.vm) (eT : T.heap = h) (V : Arv Z h a k .char n vs dv) {j : Int32} {v : Value} (hj : ¬ j < 0 ∧ j < n) (hv : vs.getD j.toNatClampNeg dv = v) {g : JFrame} (hg : g.method = m) {rest : List Value} (hs : g.stack = .int j :: .ref a :: rest) (hd : decode c.code g.pc = .ok (.caload, 1)) :
    ∀ target, Steps p.tables e below (T.setTop { g with pc := g.pc + 1, stack := v :: rest }) target → Steps p.tables e below (T.setTop g) target := by
  obtain ⟨cl, Ar, -, S, -, H, -⟩ := V
  exact X.caload hx (j := j) (v := v) (by rw [eT]; exact Ar.1) (State.isArrayOf_alike hZ.alike Ar.2.1) Ar.2.2 (inb_of S hj) (H.at (inb_of S hj) hv) hg hs hd
theorem own_iaload (X : Stand p l e R s m args below meth c T locs cells slots) (hx : p.tables.exec = Jvm.exec) (hZ : Z.Warmed39 s.vm) (eT : T.heap = h) (V : Arv Z h a k .int n vs dv) {j : Int32} {v : Value} (hj : ¬ j < 0 ∧ j < n) (hv : vs.getD j.toNatClampNeg dv = v) {g : JFrame} (hg : g.method = m) {rest : List Value} (hs : g.stack = .int j :: .ref a :: rest) (hd : decode c.code g.pc = .ok (.iaload, 1)) :
    ∀ target, Steps p.tables e below (T.setTop { g with pc := g.pc + 1, stack := v :: rest }) target → Steps p.tables e below (T.setTop g) target := by
  obtain ⟨cl, Ar, -, S, -, H, -⟩ := V
  exact X.iaload hx (j := j) (v := v) (by rw [eT]; exact Ar.1) (State.isArrayOf_alike hZ.alike Ar.2.1) Ar.2.2 (inb_of S hj) (H.at (inb_of S hj) hv) hg hs hd
theorem own_baload (X : Stand p l e R s m args below meth c T locs cells slots) (hx : p.tables.exec = Jvm.exec) (hZ : Z.Warmed39 s.vm) (eT : T.heap = h) (V : Arv Z h a k .byte n vs dv) {j : Int32} {v : Value} (hj : ¬ j < 0 ∧ j < n) (hv : vs.getD j.toNatClampNeg dv = v) {g : JFrame} (hg : g.method = m) {rest : List Value} (hs : g.stack = .int j :: .ref a :: rest) (hd : decode c.code g.pc = .ok (.baload, 1)) :
    ∀ target, Steps p.tables e below (T.setTop { g with pc := g.pc + 1, stack := v :: rest }) target → Steps p.tables e below (T.setTop g) target := by
  obtain ⟨cl, Ar, -, S, -, H, -⟩ := V
  exact X.baloadBytes hx (j := j) (v := v) (by rw [eT]; exact Ar.1) (State.isArrayOf_alike hZ.alike Ar.2.1) Ar.2.2 (inb_of S hj) (H.at (inb_of S hj) hv) hg hs hd
theorem own_alen (X : Stand p l e R s m args below meth c T locs cells slots) (hx : p.tables.exec = Jvm.exec) (hZ : Z.Warmed39 s.vm) (eT : T.heap = h) (V : Arv Z h a k ty n vs dv) {g : JFrame} (hg : g.method = m) {rest : List Value} (hs : g.stack = .ref a :: rest) (hd : decode c.code g.pc = .ok (.arraylength, 1)) :
    ∀ target, Steps p.tables e below (T.setTop { g with pc := g.pc + 1, stack := .int n :: rest }) target → Steps p.tables e below (T.setTop g) target := by
  obtain ⟨cl, Ar, -, S, N, -, -⟩ := V
  intro target q
  refine X.arraylength hx (by rw [eT]; exact Ar.1) (State.isArrayOf_alike hZ.alike Ar.2.1) hg hs hd target ?_
  rw [len_of S N]; exact q
end Own

def own_at (e0 e1 e2 e3 j : Int32) : Int32 := if j = (0 : Int32) then e0 else if j = (1 : Int32) then e1 else if j = (2 : Int32) then e2 else e3
def own_pick (e0 e1 e2 e3 j : Int32) : Int32 := if j = (0 : Int32) then (nar .char e0.toUInt32.toUInt16.toUInt32.toInt32) else if j = (1 : Int32) then (nar .char e1.toUInt32.toUInt16.toUInt32.toInt32) else if j = (2 : Int32) then (nar .char e2.toUInt32.toUInt16.toUInt32.toInt32) else (nar .char e3.toUInt32.toUInt16.toUInt32.toInt32)
theorem own_nar (x : Int32) : nar .char (x.toUInt32.toUInt16.toUInt32.toInt32) = x.toUInt32.toUInt16.toUInt32.toInt32 := Value.int.inj (XT.narrow_c x)
theorem own_eq (a b c d j : Int32) : nar .char (own_at (nar .char a.toUInt32.toUInt16.toUInt32.toInt32) (nar .char b.toUInt32.toUInt16.toUInt32.toInt32) (nar .char c.toUInt32.toUInt16.toUInt32.toInt32) (nar .char d.toUInt32.toUInt16.toUInt32.toInt32) j) = own_pick a b c d j := by
  unfold own_at own_pick
  simp only [own_nar]
  by_cases h0 : j = (0 : Int32)
  · simp only [if_pos h0, own_nar]
  · by_cases h1 : j = (1 : Int32)
    · simp only [if_neg h0, if_pos h1, own_nar]
    · by_cases h2 : j = (2 : Int32)
      · simp only [if_neg h0, if_neg h1, if_pos h2, own_nar]
      · simp only [if_neg h0, if_neg h1, if_neg h2, own_nar]
theorem own_four {j : Int32} (h : ¬ j < (0 : Int32) ∧ j < (4 : Int32)) : j = 0 ∨ j = 1 ∨ j = 2 ∨ j = 3 := by
  obtain ⟨h1, h2⟩ := h
  rw [Int32.lt_iff_toInt_lt] at h1 h2
  have z0 : (0 : Int32).toInt = 0 := by decide
  have z1 : (1 : Int32).toInt = 1 := by decide
  have z2 : (2 : Int32).toInt = 2 := by decide
  have z3 : (3 : Int32).toInt = 3 := by decide
  have z4 : (4 : Int32).toInt = 4 := by decide
  simp only [← Int32.toInt_inj, z0, z1, z2, z3]
  omega
theorem own_get (e0 e1 e2 e3 : Int32) {j : Int32} (h : ¬ j < (0 : Int32) ∧ j < (4 : Int32)) : ([(.int e0), (.int e1), (.int e2), (.int e3)] : List Value).getD j.toNatClampNeg (.int (0 : Int32)) = .int (own_at e0 e1 e2 e3 j) := by
  rcases own_four h with rfl | rfl | rfl | rfl <;> rfl
theorem own_setl (e0 e1 e2 e3 v : Int32) {j : Int32} (h : ¬ j < (0 : Int32) ∧ j < (4 : Int32)) : ([(.int e0), (.int e1), (.int e2), (.int e3)] : List Value).set j.toNatClampNeg (.int v) = [(.int (if j = (0 : Int32) then v else e0)), (.int (if j = (1 : Int32) then v else e1)), (.int (if j = (2 : Int32) then v else e2)), (.int (if j = (3 : Int32) then v else e3))] := by
  rcases own_four h with rfl | rfl | rfl | rfl <;> rfl
theorem own_lt4 {j : Int32} (h : ¬ j < (0 : Int32) ∧ j < (4 : Int32)) : j.toNatClampNeg < 4 := by
  rcases own_four h with rfl | rfl | rfl | rfl <;> decide
theorem own_after (e0 e1 e2 e3 x : Int32) {j : Int32} (h : ¬ j < (0 : Int32) ∧ j < (4 : Int32)) : nar .char (own_at (if j = (0 : Int32) then (nar .char x.toUInt32.toUInt16.toUInt32.toInt32) else e0) (if j = (1 : Int32) then (nar .char x.toUInt32.toUInt16.toUInt32.toInt32) else e1) (if j = (2 : Int32) then (nar .char x.toUInt32.toUInt16.toUInt32.toInt32) else e2) (if j = (3 : Int32) then (nar .char x.toUInt32.toUInt16.toUInt32.toInt32) else e3) j) = x.toUInt32.toUInt16.toUInt32.toInt32 := by
  have e : own_at (if j = (0 : Int32) then (nar .char x.toUInt32.toUInt16.toUInt32.toInt32) else e0) (if j = (1 : Int32) then (nar .char x.toUInt32.toUInt16.toUInt32.toInt32) else e1) (if j = (2 : Int32) then (nar .char x.toUInt32.toUInt16.toUInt32.toInt32) else e2) (if j = (3 : Int32) then (nar .char x.toUInt32.toUInt16.toUInt32.toInt32) else e3) j = nar .char x.toUInt32.toUInt16.toUInt32.toInt32 := by
    rcases own_four h with rfl | rfl | rfl | rfl <;> rfl
  rw [e, own_nar, own_nar]
def own_O (off : Int32) : Prop := 0 ≤ off.toInt ∧ off.toInt ≤ 3
def own_L (off len : Int32) : Prop := 1 ≤ len.toInt ∧ len.toInt ≤ 4 - off.toInt
def own_X (len idx : Int32) : Prop := 0 ≤ idx.toInt ∧ idx.toInt < len.toInt
theorem own_off (s : Int32) : own_O (s &&& (3 : Int32)) := by
  have e : (s &&& (3 : Int32)).toInt = s.toInt % 2 ^ 2 := Jvm.Kit.i32_mask s _ (k := 2) (by decide) (by decide)
  unfold own_O; omega
theorem own_sub4 {off : Int32} (h : own_O off) : ((4 : Int32) - off).toInt = 4 - off.toInt := by
  have h4 : (4 : Int32).toInt = 4 := by decide
  unfold own_O at h
  rw [Jvm.Kit.i32_sub (by omega) (by omega), h4]
theorem own_n4 {off : Int32} (h : own_O off) : ((4 : Int32) - off) ≠ 0 := by
  have e := own_sub4 h
  unfold own_O at h
  intro q; rw [q] at e
  have z : (0 : Int32).toInt = 0 := by decide
  omega
theorem own_len {off : Int32} (s : Int32) (h : own_O off) : own_L off ((1 : Int32) + ((XT.ushr s (2 : Int32)) % ((4 : Int32) - off))) := by
  have e := own_sub4 h
  have h1 : (1 : Int32).toInt = 1 := by decide
  have hn : 0 ≤ (XT.ushr s (2 : Int32)).toInt := by
    have q := Jvm.Kit.i32_iushr_nonneg s (n := ((2 : Int32) &&& 31).toUInt32) (k := 2) (by decide) (by decide) (by decide)
    rw [Int32.le_iff_toInt_le, Int32.toInt_zero] at q; exact q
  have e2 : ((XT.ushr s (2 : Int32)) % ((4 : Int32) - off)).toInt = (XT.ushr s (2 : Int32)).toInt % (4 - off.toInt) := by rw [Jvm.Kit.i32_rem_nonneg hn, e]
  unfold own_O at h
  have q1 := Int.emod_nonneg (XT.ushr s (2 : Int32)).toInt (b := 4 - off.toInt) (by omega)
  have q2 := Int.emod_lt_of_pos (XT.ushr s (2 : Int32)).toInt (b := 4 - off.toInt) (by omega)
  unfold own_L
  rw [Jvm.Kit.i32_add (by omega) (by omega), h1, e2]; omega
theorem own_nz2 {off len : Int32} (h : own_L off len) : len ≠ 0 := by
  intro q; rw [q] at h
  have z : (0 : Int32).toInt = 0 := by decide
  unfold own_L at h; omega
theorem own_idx {off len : Int32} (t : Int32) (h : own_L off len) : own_X len ((t &&& (2147483647 : Int32)) % len) := by
  have e : (t &&& (2147483647 : Int32)).toInt = t.toInt % 2 ^ 31 := Jvm.Kit.i32_mask t _ (k := 31) (by decide) (by decide)
  have e2 : ((t &&& (2147483647 : Int32)) % len).toInt = (t &&& (2147483647 : Int32)).toInt % len.toInt := Jvm.Kit.i32_rem_nonneg (by omega)
  unfold own_L at h
  have q1 := Int.emod_nonneg (t &&& (2147483647 : Int32)).toInt (b := len.toInt) (by omega)
  have q2 := Int.emod_lt_of_pos (t &&& (2147483647 : Int32)).toInt (b := len.toInt) (by omega)
  unfold own_X; rw [e2]; omega
theorem own_x0 {off len : Int32} (h : own_L off len) : own_X len (0 : Int32) := by
  have z : (0 : Int32).toInt = 0 := by decide
  unfold own_L at h; unfold own_X; omega
theorem own_x1 {off len : Int32} (ho : own_O off) (h : own_L off len) : own_X len (len - (1 : Int32)) := by
  have z : (1 : Int32).toInt = 1 := by decide
  unfold own_L at h; unfold own_O at ho; unfold own_X
  rw [Jvm.Kit.i32_sub (by omega) (by omega), z]; omega
theorem own_c1 {len idx : Int32} (h : own_X len idx) : ¬ idx < (0 : Int32) := by
  have z : (0 : Int32).toInt = 0 := by decide
  unfold own_X at h; rw [Int32.lt_iff_toInt_lt]; omega
theorem own_c2 {len idx : Int32} (h : own_X len idx) : idx < len := by
  unfold own_X at h; rw [Int32.lt_iff_toInt_lt]; omega
theorem own_c3 {off len idx : Int32} (ho : own_O off) (hl : own_L off len) (h : own_X len idx) : ¬ (off + idx) < (0 : Int32) ∧ (off + idx) < (4 : Int32) := by
  have z : (0 : Int32).toInt = 0 := by decide
  have z4 : (4 : Int32).toInt = 4 := by decide
  unfold own_O at ho; unfold own_L at hl; unfold own_X at h
  have e : (off + idx).toInt = off.toInt + idx.toInt := Jvm.Kit.i32_add (by omega) (by omega)
  rw [Int32.lt_iff_toInt_lt, Int32.lt_iff_toInt_lt]; omega
theorem own_neg (x : Int32) : x < (0 : Int32) ↔ x.toBitVec.msb = true := by
  rw [Int32.lt_iff_toInt_lt, show (0 : Int32).toInt = 0 from by decide]
  show x.toBitVec.toInt < 0 ↔ _
  rw [BitVec.msb_eq_toInt]; simp
theorem own_or (a b c : Int32) (ha : ¬ a < (0 : Int32)) (hb : ¬ b < (0 : Int32)) (hc : ¬ c < (0 : Int32)) : ¬ ((a ||| b) ||| c) < (0 : Int32) := by
  rw [own_neg] at *
  simp only [Int32.toBitVec_or, BitVec.msb_or]
  simp_all
theorem own_h1 {off len : Int32} (ho : own_O off) (hl : own_L off len) : ¬ (((4 : Int32) ||| off) ||| len) < (0 : Int32) := by
  have z : (0 : Int32).toInt = 0 := by decide
  unfold own_O at ho; unfold own_L at hl
  exact own_or _ _ _ (by decide) (by rw [Int32.lt_iff_toInt_lt]; omega) (by rw [Int32.lt_iff_toInt_lt]; omega)
theorem own_h2 {off len : Int32} (ho : own_O off) (hl : own_L off len) : ¬ ((4 : Int32) - off) < len := by
  have e := own_sub4 ho
  unfold own_L at hl
  rw [Int32.lt_iff_toInt_lt]; omega
theorem own_eq0 (a b c d j : Int32) : nar .char (own_at (nar .char a.toUInt32.toUInt16.toUInt32.toInt32) (nar .char b.toUInt32.toUInt16.toUInt32.toInt32) (nar .char c.toUInt32.toUInt16.toUInt32.toInt32) (nar .char d.toUInt32.toUInt16.toUInt32.toInt32) (j + (0 : Int32))) = own_pick a b c d j := by
  rw [Int32.add_zero]; exact own_eq a b c d j
theorem own_eq1 (a b c d j k : Int32) : nar .char (own_at (nar .char a.toUInt32.toUInt16.toUInt32.toInt32) (nar .char b.toUInt32.toUInt16.toUInt32.toInt32) (nar .char c.toUInt32.toUInt16.toUInt32.toInt32) (nar .char d.toUInt32.toUInt16.toUInt32.toInt32) (j + (k - (1 : Int32)))) = own_pick a b c d ((j + k) - (1 : Int32)) := by
  rw [Int32.sub_eq_add_neg, Int32.sub_eq_add_neg, ← Int32.add_assoc]; exact own_eq a b c d _
theorem ef_5 (m : MethodId) (p1 : Int32) (p2 : Int32) (p3 : Int32) : entryFrame m #[(.int p1), (.int p2), (.int p3), .null] 4 = mkF m 0 #[.val (.int p1), .val (.int p2), .val (.int p3), .val .null] [] := by first | (simp [entryFrame, mkF, argsToLocals, Value.category]; done) | rfl
theorem pn_jdk_internal_util_Preconditions : plainName "jdk/internal/util/Preconditions" = true := by first | (simp [plainName, overriddenIn]; done) | decide +kernel
theorem d5_0 : decode jdk_41_method_13_code 0 = .ok (.iload_n 2, 1) := by decide +kernel
theorem d5_1 : decode jdk_41_method_13_code 1 = .ok (.iload_n 0, 1) := by decide +kernel
theorem d5_2 : decode jdk_41_method_13_code 2 = .ok (.ior, 1) := by decide +kernel
theorem d5_3 : decode jdk_41_method_13_code 3 = .ok (.iload_n 1, 1) := by decide +kernel
theorem d5_4 : decode jdk_41_method_13_code 4 = .ok (.ior, 1) := by decide +kernel
theorem d5_5 : decode jdk_41_method_13_code 5 = .ok (.ifCond .lt 10, 3) := by decide +kernel
theorem d5_8 : decode jdk_41_method_13_code 8 = .ok (.iload_n 1, 1) := by decide +kernel
theorem d5_9 : decode jdk_41_method_13_code 9 = .ok (.iload_n 2, 1) := by decide +kernel
theorem d5_10 : decode jdk_41_method_13_code 10 = .ok (.iload_n 0, 1) := by decide +kernel
theorem d5_11 : decode jdk_41_method_13_code 11 = .ok (.isub, 1) := by decide +kernel
theorem d5_12 : decode jdk_41_method_13_code 12 = .ok (.if_icmp .le 11, 3) := by decide +kernel
theorem d5_23 : decode jdk_41_method_13_code 23 = .ok (.iload_n 0, 1) := by decide +kernel
theorem d5_24 : decode jdk_41_method_13_code 24 = .ok (.ireturn, 1) := by decide +kernel
def Q5 (Z : State) (p1 : Int32) (p2 : Int32) (p3 : Int32) (h0 : Heap) (n0 : Nat) (v : Option Value) (h : Heap) (L : List Loc) : Prop := v = some (.int p1) ∧ Fr n0 L ∧ h = h0
set_option maxRecDepth 65536 in
set_option maxHeartbeats 40000000 in
theorem rm5 (l : Launch) (Z : State) (a0 : Array Value) (hw : ∀ d ∈ tables_1, d.before a0 Z = true) (ws : List Jvm.Cond) (p1 : Int32) (p2 : Int32) (p3 : Int32) (h0 : Heap) (n0 : Nat) (Z0 : n0 ≤ h0.size) (k1 : ¬ ((p3 ||| p1) ||| p2) < (0 : Int32)) (k2 : ¬ (p3 - p1) < p2) :
    MetFree l (⟨"jdk/internal/util/Preconditions", "checkFromIndexSize", "(IIILjava/util/function/BiFunction;)I"⟩ : MethodName) (head1 (Jvm.Cond.code (⟨"jdk/internal/util/Preconditions", "checkFromIndexSize", "(IIILjava/util/function/BiFunction;)I"⟩ : MethodName) jdk_41_method_13_code 4 (some .int) :: ws) ({ frames := 0, cells := 0, slots := 0, locals := 0 } : Room)) (fun a U => a = #[(.int p1), (.int p2), (.int p3), .null] ∧ Z.Warmed39 U.vm ∧ U.heap = h0) (fun _ _ _ _ _ => True) (fun _ U o U' => ∃ v L, o = .returned v ∧ Q5 Z p1 p2 p3 h0 n0 v U'.heap L ∧ FrameEnd U o U' L ({ frames := 0, cells := 0, slots := 0, locals := 0 } : Room).cells ({ frames := 0, cells := 0, slots := 0, locals := 0 } : Room).slots) := by
  refine MetFree.of_bodySF (plainFor_of_name pn_jdk_internal_util_Preconditions) hisR ?_
  intro p e s m args below meth c s₁ Bd hml0 hP hK
  obtain ⟨rfl, hZ, hh⟩ := hP
  have hx := Bd.exec
  have hby := Bd.bytes
  have hml : c.maxLocals = 4 := hml0
  have hown : s.vm.findClass "jdk/internal/util/Preconditions" = some m.cls := findClass_of_methodNamed Bd.named
  have hnm := (name_of_methodNamed Bd.named Bd.method).1
  have X0 : Stand p l e ({ frames := 0, cells := 0, slots := 0, locals := 0 } : Room) s m #[(.int p1), (.int p2), (.int p3), .null] below meth c s₁ [] 0 0 := Stand.of_body Bd
  have eh0 : s₁.heap = h0 := by rw [← hh, Bd.state]; rfl
  have N0 := Fr.nil n0
  have pre0 : ∀ t, Steps p.tables e below (s₁.setTop (mkF m 0 #[.val (.int p1), .val (.int p2), .val (.int p3), .val .null] [])) t → Steps p.tables e below (s₁.setTop (entryFrame m #[(.int p1), (.int p2), (.int p3), .null] 4)) t := fun t k => castTop (ef_5 m p1 p2 p3) k
  have pre3 : ∀ t, Steps p.tables e below (s₁.setTop (mkF m 24 #[.val (.int p1), .val (.int p2), .val (.int p3), .val .null] [(.int p1)])) t → Steps p.tables e below (s₁.setTop (entryFrame m #[(.int p1), (.int p2), (.int p3), .null] 4)) t := fun t k => pre0 t (by
    show Steps p.tables e below (s₁.setTop (mkF m 0 #[.val (.int p1), .val (.int p2), .val (.int p3), .val .null] [])) t
    refine XS.iloadN X0.here hx rfl (hb hby d5_0) rfl ?_
    show Steps p.tables e below (s₁.setTop (mkF m 1 #[.val (.int p1), .val (.int p2), .val (.int p3), .val .null] [(.int p3)])) t
    refine XS.iloadN X0.here hx rfl (hb hby d5_1) rfl ?_
    show Steps p.tables e below (s₁.setTop (mkF m 2 #[.val (.int p1), .val (.int p2), .val (.int p3), .val .null] [(.int p1), (.int p3)])) t
    refine XT.ior X0.here hx rfl (hb hby d5_2) rfl ?_
    show Steps p.tables e below (s₁.setTop (mkF m 3 #[.val (.int p1), .val (.int p2), .val (.int p3), .val .null] [(.int (p3 ||| p1))])) t
    refine XS.iloadN X0.here hx rfl (hb hby d5_3) rfl ?_
    show Steps p.tables e below (s₁.setTop (mkF m 4 #[.val (.int p1), .val (.int p2), .val (.int p3), .val .null] [(.int p2), (.int (p3 ||| p1))])) t
    refine XT.ior X0.here hx rfl (hb hby d5_4) rfl ?_
    show Steps p.tables e below (s₁.setTop (mkF m 5 #[.val (.int p1), .val (.int p2), .val (.int p3), .val .null] [(.int ((p3 ||| p1) ||| p2))])) t
    refine XS.ifNo X0.here hx rfl (hb hby d5_5) rfl (XT.i0_lt_f (show ¬ (((p3 ||| p1) ||| p2) < (0 : Int32)) from k1)) ?_
    show Steps p.tables e below (s₁.setTop (mkF m 8 #[.val (.int p1), .val (.int p2), .val (.int p3), .val .null] [])) t
    refine XS.iloadN X0.here hx rfl (hb hby d5_8) rfl ?_
    show Steps p.tables e below (s₁.setTop (mkF m 9 #[.val (.int p1), .val (.int p2), .val (.int p3), .val .null] [(.int p2)])) t
    refine XS.iloadN X0.here hx rfl (hb hby d5_9) rfl ?_
    show Steps p.tables e below (s₁.setTop (mkF m 10 #[.val (.int p1), .val (.int p2), .val (.int p3), .val .null] [(.int p3), (.int p2)])) t
    refine XS.iloadN X0.here hx rfl (hb hby d5_10) rfl ?_
    show Steps p.tables e below (s₁.setTop (mkF m 11 #[.val (.int p1), .val (.int p2), .val (.int p3), .val .null] [(.int p1), (.int p3), (.int p2)])) t
    refine XS.isub X0.here hx rfl (hb hby d5_11) rfl ?_
    show Steps p.tables e below (s₁.setTop (mkF m 12 #[.val (.int p1), .val (.int p2), .val (.int p3), .val .null] [(.int (p3 - p1)), (.int p2)])) t
    refine XS.icmpYes X0.here hx rfl (pc0 := 12) (pc' := 23) rfl (hb hby d5_12) rfl (XT.ii_le_t (show ¬ ((p3 - p1) < p2) from k2)) (by decide) (by decide) ?_
    show Steps p.tables e below (s₁.setTop (mkF m 23 #[.val (.int p1), .val (.int p2), .val (.int p3), .val .null] [])) t
    refine XS.iloadN X0.here hx rfl (hb hby d5_23) rfl ?_
    show Steps p.tables e below (s₁.setTop (mkF m 24 #[.val (.int p1), .val (.int p2), .val (.int p3), .val .null] [(.int p1)])) t
    exact k)
  obtain ⟨fs, hr, hrun, hended, hW, hsame⟩ := X0.leave (v := some (.int p1)) (fun h => by rw [Bd.returns] at h; cases h)
  refine ⟨_, _, pre3 _ ?_, hrun, hended, _, _, rfl, ?_, ⟨_, rfl⟩, hW, hsame.mono (by decide) (by decide)⟩
  · show Steps p.tables e below (s₁.setTop (mkF m 24 #[.val (.int p1), .val (.int p2), .val (.int p3), .val .null] [(.int p1)])) _
    exact retI X0 hx Bd.returns (hb hby d5_24) hr
  · show Q5 Z p1 p2 p3 h0 n0 _ s₁.heap _
    rw [eh0]
    exact ⟨rfl, N0, rfl⟩
theorem ef_4 (m : MethodId) (p1 : Int32) (p2 : Int32) (p3 : Int32) : entryFrame m #[(.int p1), (.int p2), (.int p3)] 3 = mkF m 0 #[.val (.int p1), .val (.int p2), .val (.int p3)] [] := by first | (simp [entryFrame, mkF, argsToLocals, Value.category]; done) | rfl
theorem pn_java_util_Objects : plainName "java/util/Objects" = true := by first | (simp [plainName, overriddenIn]; done) | decide +kernel
theorem d4_0 : decode jdk_31_method_19_code 0 = .ok (.iload_n 0, 1) := by decide +kernel
theorem d4_1 : decode jdk_31_method_19_code 1 = .ok (.iload_n 1, 1) := by decide +kernel
theorem d4_2 : decode jdk_31_method_19_code 2 = .ok (.iload_n 2, 1) := by decide +kernel
theorem d4_3 : decode jdk_31_method_19_code 3 = .ok (.aconst_null, 1) := by decide +kernel
theorem d4_4 : decode jdk_31_method_19_code 4 = .ok (.invokestatic 115, 3) := by decide +kernel
theorem pd_oIIILjava_util_function_BiFunction_cI : parseMethodDescriptor "(IIILjava/util/function/BiFunction;)I" = some ⟨[.int, .int, .int, (.object "java/util/function/BiFunction")], some .int⟩ := by decide +kernel
theorem d4_7 : decode jdk_31_method_19_code 7 = .ok (.ireturn, 1) := by decide +kernel
def Q4 (Z : State) (p1 : Int32) (p2 : Int32) (p3 : Int32) (h0 : Heap) (n0 : Nat) (v : Option Value) (h : Heap) (L : List Loc) : Prop := v = some (.int p1) ∧ Fr n0 L ∧ h = h0
set_option maxRecDepth 65536 in
set_option maxHeartbeats 40000000 in
theorem rm4 (l : Launch) (Z : State) (a0 : Array Value) (hw : ∀ d ∈ tables_1, d.before a0 Z = true) (ws : List Jvm.Cond) (p1 : Int32) (p2 : Int32) (p3 : Int32) (h0 : Heap) (n0 : Nat) (Z0 : n0 ≤ h0.size) (k1 : ¬ ((p3 ||| p1) ||| p2) < (0 : Int32)) (k2 : ¬ (p3 - p1) < p2) :
    MetFree l (⟨"java/util/Objects", "checkFromIndexSize", "(III)I"⟩ : MethodName) (head1 (Jvm.Cond.code (⟨"java/util/Objects", "checkFromIndexSize", "(III)I"⟩ : MethodName) jdk_31_method_19_code 3 (some .int) :: ws) ({ frames := 1, cells := 0, slots := 0, locals := 15 } : Room)) (fun a U => a = #[(.int p1), (.int p2), (.int p3)] ∧ Z.Warmed39 U.vm ∧ U.heap = h0) (fun _ _ _ _ _ => True) (fun _ U o U' => ∃ v L, o = .returned v ∧ Q4 Z p1 p2 p3 h0 n0 v U'.heap L ∧ FrameEnd U o U' L ({ frames := 1, cells := 0, slots := 0, locals := 15 } : Room).cells ({ frames := 1, cells := 0, slots := 0, locals := 15 } : Room).slots) := by
  refine MetFree.of_bodySF (plainFor_of_name pn_java_util_Objects) hisR ?_
  intro p e s m args below meth c s₁ Bd hml0 hP hK
  obtain ⟨rfl, hZ, hh⟩ := hP
  have hx := Bd.exec
  have hby := Bd.bytes
  have hml : c.maxLocals = 3 := hml0
  have hown : s.vm.findClass "java/util/Objects" = some m.cls := findClass_of_methodNamed Bd.named
  have hnm := (name_of_methodNamed Bd.named Bd.method).1
  have X0 : Stand p l e ({ frames := 1, cells := 0, slots := 0, locals := 15 } : Room) s m #[(.int p1), (.int p2), (.int p3)] below meth c s₁ [] 0 0 := Stand.of_body Bd
  have eh0 : s₁.heap = h0 := by rw [← hh, Bd.state]; rfl
  have N0 := Fr.nil n0
  have pre0 : ∀ t, Steps p.tables e below (s₁.setTop (mkF m 0 #[.val (.int p1), .val (.int p2), .val (.int p3)] [])) t → Steps p.tables e below (s₁.setTop (entryFrame m #[(.int p1), (.int p2), (.int p3)] 3)) t := fun t k => castTop (ef_4 m p1 p2 p3) k
  have pre1 : ∀ t, Steps p.tables e below (s₁.setTop (mkF m 4 #[.val (.int p1), .val (.int p2), .val (.int p3)] [.null, (.int p3), (.int p2), (.int p1)])) t → Steps p.tables e below (s₁.setTop (entryFrame m #[(.int p1), (.int p2), (.int p3)] 3)) t := fun t k => pre0 t (by
    show Steps p.tables e below (s₁.setTop (mkF m 0 #[.val (.int p1), .val (.int p2), .val (.int p3)] [])) t
    refine XS.iloadN X0.here hx rfl (hb hby d4_0) rfl ?_
    show Steps p.tables e below (s₁.setTop (mkF m 1 #[.val (.int p1), .val (.int p2), .val (.int p3)] [(.int p1)])) t
    refine XS.iloadN X0.here hx rfl (hb hby d4_1) rfl ?_
    show Steps p.tables e below (s₁.setTop (mkF m 2 #[.val (.int p1), .val (.int p2), .val (.int p3)] [(.int p2), (.int p1)])) t
    refine XS.iloadN X0.here hx rfl (hb hby d4_2) rfl ?_
    show Steps p.tables e below (s₁.setTop (mkF m 3 #[.val (.int p1), .val (.int p2), .val (.int p3)] [(.int p3), (.int p2), (.int p1)])) t
    refine XS.aconstNull X0.here hx rfl (hb hby d4_3) ?_
    show Steps p.tables e below (s₁.setTop (mkF m 4 #[.val (.int p1), .val (.int p2), .val (.int p3)] [.null, (.int p3), (.int p2), (.int p1)])) t
    exact k)
  obtain ⟨_, _, ⟨T2, L2, k2, n2⟩, -, X2, ⟨Lc2, hQ2, l2, y2, z2⟩, st2⟩ := Jvm.LawKit.callS X0 hx (y := (⟨"jdk/internal/util/Preconditions", "checkFromIndexSize", "(IIILjava/util/function/BiFunction;)I"⟩ : MethodName)) hown (mvT hZ (hw _ (List.mem_of_getElem? (i := 20) rfl))) (mvT hZ (hw _ (List.mem_of_getElem? (i := 21) rfl))) (mvT hZ (hw _ (List.mem_of_getElem? (i := 22) rfl))) (mvT hZ (hw _ (List.mem_of_getElem? (i := 23) rfl))) (by decide) (backOf (W := 0) (rm5 l Z a0 hw [] p1 p2 p3 h0 n0 Z0 (show ¬ ((p3 ||| p1) ||| p2) < (0 : Int32) from k1) (show ¬ (p3 - p1) < p2 from k2)) hZ (hw _ (List.mem_of_getElem? (i := 23) rfl)) (hw _ (List.mem_of_getElem? (i := 22) rfl)) (by decide) (by decide)) (g := (mkF m 4 #[.val (.int p1), .val (.int p2), .val (.int p3)] [.null, (.int p3), (.int p2), (.int p1)])) rfl (by rw [hml]; rfl) (argsL := [(.int p1), (.int p2), (.int p3), .null]) (rest := []) (lenOf pd_oIIILjava_util_function_BiFunction_cI rfl) rfl (by show 2 * 0 + _ ≤ _; exact Nat.le_of_eq rfl) (hb hby d4_4) (fun _ _ => ⟨rfl, eh0, (by decide : 0 + 0 ≤ _), (by decide : 0 + 0 ≤ _)⟩)
  dsimp only [Pt.U, Pt.locs, Pt.cells, Pt.slots] at X2 l2 y2 z2 st2 hQ2
  subst l2 y2 z2
  obtain ⟨rfl, N2q, eh2⟩ := hQ2
  have N2 := Fr.app N0 N2q
  have pre3 : ∀ t, Steps p.tables e below (T2.setTop (mkF m 7 #[.val (.int p1), .val (.int p2), .val (.int p3)] [(.int p1)])) t → Steps p.tables e below (s₁.setTop (entryFrame m #[(.int p1), (.int p2), (.int p3)] 3)) t := fun t k => pre1 t (st2 _ k)
  obtain ⟨fs, hr, hrun, hended, hW, hsame⟩ := X2.leave (v := some (.int p1)) (fun h => by rw [Bd.returns] at h; cases h)
  refine ⟨_, _, pre3 _ ?_, hrun, hended, _, _, rfl, ?_, ⟨_, rfl⟩, hW, hsame.mono (by decide) (by decide)⟩
  · show Steps p.tables e below (T2.setTop (mkF m 7 #[.val (.int p1), .val (.int p2), .val (.int p3)] [(.int p1)])) _
    exact retI X2 hx Bd.returns (hb hby d4_7) hr
  · show Q4 Z p1 p2 p3 h0 n0 _ T2.heap _
    rw [eh2]
    exact ⟨rfl, N2, rfl⟩
theorem ef_3 (m : MethodId) (a1 : Addr) (a2 : Addr) (p3 : Int32) (p4 : Int32) : entryFrame m #[(.ref a1), (.ref a2), (.int p3), (.int p4)] 4 = mkF m 0 #[.val (.ref a1), .val (.ref a2), .val (.int p3), .val (.int p4)] [] := by first | (simp [entryFrame, mkF, argsToLocals, Value.category]; done) | rfl
theorem pn_com_example_precis_precis_iso2709_Chars : plainName "com/example/precis/precis/iso2709/Chars" = true := by first | (simp [plainName, overriddenIn]; done) | decide +kernel
theorem d3_0 : decode prog_37_method_2_code 0 = .ok (.iload_n 2, 1) := by decide +kernel
theorem d3_1 : decode prog_37_method_2_code 1 = .ok (.iload_n 3, 1) := by decide +kernel
theorem d3_2 : decode prog_37_method_2_code 2 = .ok (.aload_n 1, 1) := by decide +kernel
theorem d3_3 : decode prog_37_method_2_code 3 = .ok (.arraylength, 1) := by decide +kernel
theorem d3_4 : decode prog_37_method_2_code 4 = .ok (.invokestatic 13, 3) := by decide +kernel
theorem pd_oIIIcI : parseMethodDescriptor "(III)I" = some ⟨[.int, .int, .int], some .int⟩ := by decide +kernel
theorem d3_7 : decode prog_37_method_2_code 7 = .ok (.pop, 1) := by decide +kernel
theorem d3_8 : decode prog_37_method_2_code 8 = .ok (.aload_n 0, 1) := by decide +kernel
theorem d3_9 : decode prog_37_method_2_code 9 = .ok (.aload_n 1, 1) := by decide +kernel
theorem d3_10 : decode prog_37_method_2_code 10 = .ok (.putfield 19, 3) := by decide +kernel
theorem d3_13 : decode prog_37_method_2_code 13 = .ok (.aload_n 0, 1) := by decide +kernel
theorem d3_14 : decode prog_37_method_2_code 14 = .ok (.iload_n 2, 1) := by decide +kernel
theorem d3_15 : decode prog_37_method_2_code 15 = .ok (.putfield 23, 3) := by decide +kernel
theorem d3_18 : decode prog_37_method_2_code 18 = .ok (.aload_n 0, 1) := by decide +kernel
theorem d3_19 : decode prog_37_method_2_code 19 = .ok (.iload_n 3, 1) := by decide +kernel
theorem d3_20 : decode prog_37_method_2_code 20 = .ok (.putfield 27, 3) := by decide +kernel
theorem d3_23 : decode prog_37_method_2_code 23 = .ok (.aload_n 0, 1) := by decide +kernel
theorem d3_24 : decode prog_37_method_2_code 24 = .ok (.areturn, 1) := by decide +kernel
def Q3 (Z : State) (a1 : Addr) (a2 : Addr) (p3 : Int32) (p4 : Int32) (u1 : Value) (u2 : Value) (u3 : Value) (kk : ClassId) (e0 : Int32) (e1 : Int32) (e2 : Int32) (e3 : Int32) (h0 : Heap) (n0 : Nat) (v : Option Value) (h : Heap) (L : List Loc) : Prop := v = some (.ref a1) ∧ Fr n0 L ∧ Keep h0 h [a1] ∧ Exa Z h a1 "com/example/precis/precis/iso2709/Chars" ∧ Fld Z h a1 "com/example/precis/precis/iso2709/Chars" "array" "[C" (.ref a2) ∧ Fld Z h a1 "com/example/precis/precis/iso2709/Chars" "offset" "I" (.int p3) ∧ Fld Z h a1 "com/example/precis/precis/iso2709/Chars" "length" "I" (.int p4)
set_option maxRecDepth 65536 in
set_option maxHeartbeats 40000000 in
theorem rm3 (l : Launch) (Z : State) (a0 : Array Value) (hw : ∀ d ∈ tables_1, d.before a0 Z = true) (ws : List Jvm.Cond) (a1 : Addr) (a2 : Addr) (p3 : Int32) (p4 : Int32) (u1 : Value) (u2 : Value) (u3 : Value) (kk : ClassId) (e0 : Int32) (e1 : Int32) (e2 : Int32) (e3 : Int32) (h0 : Heap) (n0 : Nat) (Z0 : n0 ≤ h0.size) (E_a1 : Exa Z h0 a1 "com/example/precis/precis/iso2709/Chars") (F_array_a1 : Fld Z h0 a1 "com/example/precis/precis/iso2709/Chars" "array" "[C" u1) (F_offset_a1 : Fld Z h0 a1 "com/example/precis/precis/iso2709/Chars" "offset" "I" u2) (F_length_a1 : Fld Z h0 a1 "com/example/precis/precis/iso2709/Chars" "length" "I" u3) (g_a1 : n0 ≤ a1) (V_a2 : Arv Z h0 a2 kk .char (4 : Int32) [(.int e0), (.int e1), (.int e2), (.int e3)] (.int (0 : Int32))) (ne_a1_a2 : a1 ≠ a2) (s1 : ¬ (((4 : Int32) ||| p3) ||| p4) < (0 : Int32)) (s2 : ¬ ((4 : Int32) - p3) < p4) :
    MetFree l (⟨"com/example/precis/precis/iso2709/Chars", "set", "([CII)Lcom/example/precis/precis/iso2709/Chars;"⟩ : MethodName) (head1 (Jvm.Cond.code (⟨"com/example/precis/precis/iso2709/Chars", "set", "([CII)Lcom/example/precis/precis/iso2709/Chars;"⟩ : MethodName) prog_37_method_2_code 4 (some (.object "com/example/precis/precis/iso2709/Chars")) :: ws) ({ frames := 2, cells := 0, slots := 0, locals := 29 } : Room)) (fun a U => a = #[(.ref a1), (.ref a2), (.int p3), (.int p4)] ∧ Z.Warmed39 U.vm ∧ U.heap = h0) (fun _ _ _ _ _ => True) (fun _ U o U' => ∃ v L, o = .returned v ∧ Q3 Z a1 a2 p3 p4 u1 u2 u3 kk e0 e1 e2 e3 h0 n0 v U'.heap L ∧ FrameEnd U o U' L ({ frames := 2, cells := 0, slots := 0, locals := 29 } : Room).cells ({ frames := 2, cells := 0, slots := 0, locals := 29 } : Room).slots) := by
  refine MetFree.of_bodySF (plainFor_of_name pn_com_example_precis_precis_iso2709_Chars) hisR ?_
  intro p e s m args below meth c s₁ Bd hml0 hP hK
  obtain ⟨rfl, hZ, hh⟩ := hP
  have hx := Bd.exec
  have hby := Bd.bytes
  have hml : c.maxLocals = 4 := hml0
  have hown : s.vm.findClass "com/example/precis/precis/iso2709/Chars" = some m.cls := findClass_of_methodNamed Bd.named
  have hnm := (name_of_methodNamed Bd.named Bd.method).1
  have X0 : Stand p l e ({ frames := 2, cells := 0, slots := 0, locals := 29 } : Room) s m #[(.ref a1), (.ref a2), (.int p3), (.int p4)] below meth c s₁ [] 0 0 := Stand.of_body Bd
  have eh0 : s₁.heap = h0 := by rw [← hh, Bd.state]; rfl
  have N0 := Fr.nil n0
  have pre0 : ∀ t, Steps p.tables e below (s₁.setTop (mkF m 0 #[.val (.ref a1), .val (.ref a2), .val (.int p3), .val (.int p4)] [])) t → Steps p.tables e below (s₁.setTop (entryFrame m #[(.ref a1), (.ref a2), (.int p3), (.int p4)] 4)) t := fun t k => castTop (ef_3 m a1 a2 p3 p4) k
  have K0 : Keep h0 h0 [a1] := Keep.refl _ _
  have pre1 : ∀ t, Steps p.tables e below (s₁.setTop (mkF m 4 #[.val (.ref a1), .val (.ref a2), .val (.int p3), .val (.int p4)] [(.int (4 : Int32)), (.int p4), (.int p3)])) t → Steps p.tables e below (s₁.setTop (entryFrame m #[(.ref a1), (.ref a2), (.int p3), (.int p4)] 4)) t := fun t k => pre0 t (by
    show Steps p.tables e below (s₁.setTop (mkF m 0 #[.val (.ref a1), .val (.ref a2), .val (.int p3), .val (.int p4)] [])) t
    refine XS.iloadN X0.here hx rfl (hb hby d3_0) rfl ?_
    show Steps p.tables e below (s₁.setTop (mkF m 1 #[.val (.ref a1), .val (.ref a2), .val (.int p3), .val (.int p4)] [(.int p3)])) t
    refine XS.iloadN X0.here hx rfl (hb hby d3_1) rfl ?_
    show Steps p.tables e below (s₁.setTop (mkF m 2 #[.val (.ref a1), .val (.ref a2), .val (.int p3), .val (.int p4)] [(.int p4), (.int p3)])) t
    refine XS.aloadN X0.here hx rfl (hb hby d3_2) rfl rfl ?_
    show Steps p.tables e below (s₁.setTop (mkF m 3 #[.val (.ref a1), .val (.ref a2), .val (.int p3), .val (.int p4)] [(.ref a2), (.int p4), (.int p3)])) t
    refine own_alen X0 hx hZ eh0 V_a2 (g := (mkF m 3 #[.val (.ref a1), .val (.ref a2), .val (.int p3), .val (.int p4)] [(.ref a2), (.int p4), (.int p3)])) rfl rfl (hb hby d3_3) _ ?_
    show Steps p.tables e below (s₁.setTop (mkF m 4 #[.val (.ref a1), .val (.ref a2), .val (.int p3), .val (.int p4)] [(.int (4 : Int32)), (.int p4), (.int p3)])) t
    exact k)
  obtain ⟨_, _, ⟨T2, L2, k2, n2⟩, -, X2, ⟨Lc2, hQ2, l2, y2, z2⟩, st2⟩ := Jvm.LawKit.callS X0 hx (y := (⟨"java/util/Objects", "checkFromIndexSize", "(III)I"⟩ : MethodName)) hown (mvT hZ (hw _ (List.mem_of_getElem? (i := 16) rfl))) (mvT hZ (hw _ (List.mem_of_getElem? (i := 17) rfl))) (mvT hZ (hw _ (List.mem_of_getElem? (i := 18) rfl))) (mvT hZ (hw _ (List.mem_of_getElem? (i := 19) rfl))) (by decide) (backOf (W := 0) (rm4 l Z a0 hw [] p3 p4 (4 : Int32) h0 n0 Z0 (show ¬ (((4 : Int32) ||| p3) ||| p4) < (0 : Int32) from s1) (show ¬ ((4 : Int32) - p3) < p4 from s2)) hZ (hw _ (List.mem_of_getElem? (i := 19) rfl)) (hw _ (List.mem_of_getElem? (i := 18) rfl)) (by decide) (by decide)) (g := (mkF m 4 #[.val (.ref a1), .val (.ref a2), .val (.int p3), .val (.int p4)] [(.int (4 : Int32)), (.int p4), (.int p3)])) rfl (by rw [hml]; rfl) (argsL := [(.int p3), (.int p4), (.int (4 : Int32))]) (rest := []) (lenOf pd_oIIIcI rfl) rfl (by show 2 * 0 + _ ≤ _; exact Nat.le_of_eq rfl) (hb hby d3_4) (fun _ _ => ⟨rfl, eh0, (by decide : 0 + 0 ≤ _), (by decide : 0 + 0 ≤ _)⟩)
  dsimp only [Pt.U, Pt.locs, Pt.cells, Pt.slots] at X2 l2 y2 z2 st2 hQ2
  subst l2 y2 z2
  obtain ⟨rfl, N2q, eh2⟩ := hQ2
  have N2 := Fr.app N0 N2q
  have pre3 : ∀ t, Steps p.tables e below (T2.setTop (mkF m 7 #[.val (.ref a1), .val (.ref a2), .val (.int p3), .val (.int p4)] [(.int p3)])) t → Steps p.tables e below (s₁.setTop (entryFrame m #[(.ref a1), (.ref a2), (.int p3), (.int p4)] 4)) t := fun t k => pre1 t (st2 _ k)
  have pre4 : ∀ t, Steps p.tables e below (T2.setTop (mkF m 10 #[.val (.ref a1), .val (.ref a2), .val (.int p3), .val (.int p4)] [(.ref a2), (.ref a1)])) t → Steps p.tables e below (s₁.setTop (entryFrame m #[(.ref a1), (.ref a2), (.int p3), (.int p4)] 4)) t := fun t k => pre3 t (by
    show Steps p.tables e below (T2.setTop (mkF m 7 #[.val (.ref a1), .val (.ref a2), .val (.int p3), .val (.int p4)] [(.int p3)])) t
    refine XT.pop X2.here hx rfl (hb hby d3_7) rfl rfl ?_
    show Steps p.tables e below (T2.setTop (mkF m 8 #[.val (.ref a1), .val (.ref a2), .val (.int p3), .val (.int p4)] [])) t
    refine XS.aloadN X2.here hx rfl (hb hby d3_8) rfl rfl ?_
    show Steps p.tables e below (T2.setTop (mkF m 9 #[.val (.ref a1), .val (.ref a2), .val (.int p3), .val (.int p4)] [(.ref a1)])) t
    refine XS.aloadN X2.here hx rfl (hb hby d3_9) rfl rfl ?_
    show Steps p.tables e below (T2.setTop (mkF m 10 #[.val (.ref a1), .val (.ref a2), .val (.int p3), .val (.int p4)] [(.ref a2), (.ref a1)])) t
    exact k)
  obtain ⟨T5, h5, X5, eh5, W5, st5⟩ := putF X2 hx hZ hown (host := "") (Or.inl (hw _ (List.mem_of_getElem? (i := 24) rfl))) Via.refl eh2 F_array_a1 E_a1 (Or.inl (hw _ (List.mem_of_getElem? (i := 25) rfl))) (hw _ (List.mem_of_getElem? (i := 3) rfl)) (ty := (.array .char)) (by decide) rfl rfl (g := (mkF m 10 #[.val (.ref a1), .val (.ref a2), .val (.int p3), .val (.int p4)] [(.ref a2), (.ref a1)])) rfl rfl (hb hby d3_10)
  have E_a1__5 : Exa Z h5 a1 "com/example/precis/precis/iso2709/Chars" := E_a1.wr W5
  have F_offset_a1__5 : Fld Z h5 a1 "com/example/precis/precis/iso2709/Chars" "offset" "I" u2 := F_offset_a1.other W5 (Or.inr (slot_ne (Or.inl (hw _ (List.mem_of_getElem? (i := 27) rfl))) (Or.inl (hw _ (List.mem_of_getElem? (i := 25) rfl))) (by decide) (t := .int) (t' := (.array .char)) (by decide) (by decide)))
  have F_length_a1__5 : Fld Z h5 a1 "com/example/precis/precis/iso2709/Chars" "length" "I" u3 := F_length_a1.other W5 (Or.inr (slot_ne (Or.inl (hw _ (List.mem_of_getElem? (i := 29) rfl))) (Or.inl (hw _ (List.mem_of_getElem? (i := 25) rfl))) (by decide) (t := .int) (t' := (.array .char)) (by decide) (by decide)))
  have V_a2__5 : Arv Z h5 a2 kk .char (4 : Int32) [(.int e0), (.int e1), (.int e2), (.int e3)] (.int (0 : Int32)) := V_a2.other W5 (Ne.symm ne_a1_a2)
  have sz5 : n0 ≤ h5.size := Nat.le_trans Z0 (Keep.of_wr W5).1
  have K5 : Keep h0 h5 [a1] := K0.wr W5 (Or.inl (List.mem_of_getElem? (i := 0) rfl))
  have N5 := Fr.snoc X5 N2 g_a1
  have F_array_a1__5 : Fld Z h5 a1 "com/example/precis/precis/iso2709/Chars" "array" "[C" (.ref a2) := F_array_a1.same W5
  have pre6 : ∀ t, Steps p.tables e below (T5.setTop (mkF m 13 #[.val (.ref a1), .val (.ref a2), .val (.int p3), .val (.int p4)] [])) t → Steps p.tables e below (s₁.setTop (entryFrame m #[(.ref a1), (.ref a2), (.int p3), (.int p4)] 4)) t := fun t k => pre4 t (st5 _ k)
  have pre7 : ∀ t, Steps p.tables e below (T5.setTop (mkF m 15 #[.val (.ref a1), .val (.ref a2), .val (.int p3), .val (.int p4)] [(.int p3), (.ref a1)])) t → Steps p.tables e below (s₁.setTop (entryFrame m #[(.ref a1), (.ref a2), (.int p3), (.int p4)] 4)) t := fun t k => pre6 t (by
    show Steps p.tables e below (T5.setTop (mkF m 13 #[.val (.ref a1), .val (.ref a2), .val (.int p3), .val (.int p4)] [])) t
    refine XS.aloadN X5.here hx rfl (hb hby d3_13) rfl rfl ?_
    show Steps p.tables e below (T5.setTop (mkF m 14 #[.val (.ref a1), .val (.ref a2), .val (.int p3), .val (.int p4)] [(.ref a1)])) t
    refine XS.iloadN X5.here hx rfl (hb hby d3_14) rfl ?_
    show Steps p.tables e below (T5.setTop (mkF m 15 #[.val (.ref a1), .val (.ref a2), .val (.int p3), .val (.int p4)] [(.int p3), (.ref a1)])) t
    exact k)
  obtain ⟨T8, h8, X8, eh8, W8, st8⟩ := putF X5 hx hZ hown (host := "") (Or.inl (hw _ (List.mem_of_getElem? (i := 26) rfl))) Via.refl eh5 F_offset_a1__5 E_a1__5 (Or.inl (hw _ (List.mem_of_getElem? (i := 27) rfl))) (hw _ (List.mem_of_getElem? (i := 3) rfl)) (ty := .int) (by decide) rfl rfl (g := (mkF m 15 #[.val (.ref a1), .val (.ref a2), .val (.int p3), .val (.int p4)] [(.int p3), (.ref a1)])) rfl rfl (hb hby d3_15)
  have E_a1__8 : Exa Z h8 a1 "com/example/precis/precis/iso2709/Chars" := E_a1__5.wr W8
  have F_array_a1__8 : Fld Z h8 a1 "com/example/precis/precis/iso2709/Chars" "array" "[C" (.ref a2) := F_array_a1__5.other W8 (Or.inr (slot_ne (Or.inl (hw _ (List.mem_of_getElem? (i := 25) rfl))) (Or.inl (hw _ (List.mem_of_getElem? (i := 27) rfl))) (by decide) (t := (.array .char)) (t' := .int) (by decide) (by decide)))
  have F_length_a1__8 : Fld Z h8 a1 "com/example/precis/precis/iso2709/Chars" "length" "I" u3 := F_length_a1__5.other W8 (Or.inr (slot_ne (Or.inl (hw _ (List.mem_of_getElem? (i := 29) rfl))) (Or.inl (hw _ (List.mem_of_getElem? (i := 27) rfl))) (by decide) (t := .int) (t' := .int) (by decide) (by decide)))
  have V_a2__8 : Arv Z h8 a2 kk .char (4 : Int32) [(.int e0), (.int e1), (.int e2), (.int e3)] (.int (0 : Int32)) := V_a2__5.other W8 (Ne.symm ne_a1_a2)
  have sz8 : n0 ≤ h8.size := Nat.le_trans sz5 (Keep.of_wr W8).1
  have K8 : Keep h0 h8 [a1] := K5.wr W8 (Or.inl (List.mem_of_getElem? (i := 0) rfl))
  have N8 := Fr.snoc X8 N5 g_a1
  have F_offset_a1__8 : Fld Z h8 a1 "com/example/precis/precis/iso2709/Chars" "offset" "I" (.int p3) := F_offset_a1__5.same W8
  have pre9 : ∀ t, Steps p.tables e below (T8.setTop (mkF m 18 #[.val (.ref a1), .val (.ref a2), .val (.int p3), .val (.int p4)] [])) t → Steps p.tables e below (s₁.setTop (entryFrame m #[(.ref a1), (.ref a2), (.int p3), (.int p4)] 4)) t := fun t k => pre7 t (st8 _ k)
  have pre10 : ∀ t, Steps p.tables e below (T8.setTop (mkF m 20 #[.val (.ref a1), .val (.ref a2), .val (.int p3), .val (.int p4)] [(.int p4), (.ref a1)])) t → Steps p.tables e below (s₁.setTop (entryFrame m #[(.ref a1), (.ref a2), (.int p3), (.int p4)] 4)) t := fun t k => pre9 t (by
    show Steps p.tables e below (T8.setTop (mkF m 18 #[.val (.ref a1), .val (.ref a2), .val (.int p3), .val (.int p4)] [])) t
    refine XS.aloadN X8.here hx rfl (hb hby d3_18) rfl rfl ?_
    show Steps p.tables e below (T8.setTop (mkF m 19 #[.val (.ref a1), .val (.ref a2), .val (.int p3), .val (.int p4)] [(.ref a1)])) t
    refine XS.iloadN X8.here hx rfl (hb hby d3_19) rfl ?_
    show Steps p.tables e below (T8.setTop (mkF m 20 #[.val (.ref a1), .val (.ref a2), .val (.int p3), .val (.int p4)] [(.int p4), (.ref a1)])) t
    exact k)
  obtain ⟨T11, h11, X11, eh11, W11, st11⟩ := putF X8 hx hZ hown (host := "") (Or.inl (hw _ (List.mem_of_getElem? (i := 28) rfl))) Via.refl eh8 F_length_a1__8 E_a1__8 (Or.inl (hw _ (List.mem_of_getElem? (i := 29) rfl))) (hw _ (List.mem_of_getElem? (i := 3) rfl)) (ty := .int) (by decide) rfl rfl (g := (mkF m 20 #[.val (.ref a1), .val (.ref a2), .val (.int p3), .val (.int p4)] [(.int p4), (.ref a1)])) rfl rfl (hb hby d3_20)
  have E_a1__11 : Exa Z h11 a1 "com/example/precis/precis/iso2709/Chars" := E_a1__8.wr W11
  have F_array_a1__11 : Fld Z h11 a1 "com/example/precis/precis/iso2709/Chars" "array" "[C" (.ref a2) := F_array_a1__8.other W11 (Or.inr (slot_ne (Or.inl (hw _ (List.mem_of_getElem? (i := 25) rfl))) (Or.inl (hw _ (List.mem_of_getElem? (i := 29) rfl))) (by decide) (t := (.array .char)) (t' := .int) (by decide) (by decide)))
  have F_offset_a1__11 : Fld Z h11 a1 "com/example/precis/precis/iso2709/Chars" "offset" "I" (.int p3) := F_offset_a1__8.other W11 (Or.inr (slot_ne (Or.inl (hw _ (List.mem_of_getElem? (i := 27) rfl))) (Or.inl (hw _ (List.mem_of_getElem? (i := 29) rfl))) (by decide) (t := .int) (t' := .int) (by decide) (by decide)))
  have V_a2__11 : Arv Z h11 a2 kk .char (4 : Int32) [(.int e0), (.int e1), (.int e2), (.int e3)] (.int (0 : Int32)) := V_a2__8.other W11 (Ne.symm ne_a1_a2)
  have sz11 : n0 ≤ h11.size := Nat.le_trans sz8 (Keep.of_wr W11).1
  have K11 : Keep h0 h11 [a1] := K8.wr W11 (Or.inl (List.mem_of_getElem? (i := 0) rfl))
  have N11 := Fr.snoc X11 N8 g_a1
  have F_length_a1__11 : Fld Z h11 a1 "com/example/precis/precis/iso2709/Chars" "length" "I" (.int p4) := F_length_a1__8.same W11
  have pre12 : ∀ t, Steps p.tables e below (T11.setTop (mkF m 23 #[.val (.ref a1), .val (.ref a2), .val (.int p3), .val (.int p4)] [])) t → Steps p.tables e below (s₁.setTop (entryFrame m #[(.ref a1), (.ref a2), (.int p3), (.int p4)] 4)) t := fun t k => pre10 t (st11 _ k)
  have pre13 : ∀ t, Steps p.tables e below (T11.setTop (mkF m 24 #[.val (.ref a1), .val (.ref a2), .val (.int p3), .val (.int p4)] [(.ref a1)])) t → Steps p.tables e below (s₁.setTop (entryFrame m #[(.ref a1), (.ref a2), (.int p3), (.int p4)] 4)) t := fun t k => pre12 t (by
    show Steps p.tables e below (T11.setTop (mkF m 23 #[.val (.ref a1), .val (.ref a2), .val (.int p3), .val (.int p4)] [])) t
    refine XS.aloadN X11.here hx rfl (hb hby d3_23) rfl rfl ?_
    show Steps p.tables e below (T11.setTop (mkF m 24 #[.val (.ref a1), .val (.ref a2), .val (.int p3), .val (.int p4)] [(.ref a1)])) t
    exact k)
  obtain ⟨fs, hr, hrun, hended, hW, hsame⟩ := X11.leave (v := some (.ref a1)) (fun h => by rw [Bd.returns] at h; cases h)
  refine ⟨_, _, pre13 _ ?_, hrun, hended, _, _, rfl, ?_, ⟨_, rfl⟩, hW, hsame.mono (by decide) (by decide)⟩
  · show Steps p.tables e below (T11.setTop (mkF m 24 #[.val (.ref a1), .val (.ref a2), .val (.int p3), .val (.int p4)] [(.ref a1)])) _
    jvm_step X11.here [X11.here.top, hx, (hb hby d3_24), X11.method', Bd.returns, Value.isRef, FieldType.isReference]
    first | (intro acts; rw [hr _ acts rfl rfl rfl]) | rw [hr _ _ rfl rfl rfl]
    exact Steps.refl _
  · show Q3 Z a1 a2 p3 p4 u1 u2 u3 kk e0 e1 e2 e3 h0 n0 _ T11.heap _
    rw [eh11]
    exact ⟨rfl, N11, K11, E_a1__11, F_array_a1__11, F_offset_a1__11, F_length_a1__11⟩
theorem ef_1 (m : MethodId) (a1 : Addr) (a2 : Addr) (p3 : Int32) (p4 : Int32) : entryFrame m #[(.ref a1), (.ref a2), (.int p3), (.int p4)] 4 = mkF m 0 #[.val (.ref a1), .val (.ref a2), .val (.int p3), .val (.int p4)] [] := by first | (simp [entryFrame, mkF, argsToLocals, Value.category]; done) | rfl
theorem d1_0 : decode prog_37_method_1_code 0 = .ok (.aload_n 0, 1) := by decide +kernel
theorem d1_1 : decode prog_37_method_1_code 1 = .ok (.invokespecial 1, 3) := by decide +kernel
theorem d1_4 : decode prog_37_method_1_code 4 = .ok (.aload_n 0, 1) := by decide +kernel
theorem d1_5 : decode prog_37_method_1_code 5 = .ok (.aload_n 1, 1) := by decide +kernel
theorem d1_6 : decode prog_37_method_1_code 6 = .ok (.iload_n 2, 1) := by decide +kernel
theorem d1_7 : decode prog_37_method_1_code 7 = .ok (.iload_n 3, 1) := by decide +kernel
theorem d1_8 : decode prog_37_method_1_code 8 = .ok (.invokevirtual 7, 3) := by decide +kernel
theorem pd_oaCIIcLcom_example_precis_precis_iso2709_Chars_ : parseMethodDescriptor "([CII)Lcom/example/precis/precis/iso2709/Chars;" = some ⟨[(.array .char), .int, .int], some (.object "com/example/precis/precis/iso2709/Chars")⟩ := by decide +kernel
theorem d1_11 : decode prog_37_method_1_code 11 = .ok (.pop, 1) := by decide +kernel
theorem d1_12 : decode prog_37_method_1_code 12 = .ok (.return_, 1) := by decide +kernel
def Q1 (Z : State) (a1 : Addr) (a2 : Addr) (p3 : Int32) (p4 : Int32) (u1 : Value) (u2 : Value) (u3 : Value) (kk : ClassId) (e0 : Int32) (e1 : Int32) (e2 : Int32) (e3 : Int32) (h0 : Heap) (n0 : Nat) (v : Option Value) (h : Heap) (L : List Loc) : Prop := v = none ∧ Fr n0 L ∧ Keep h0 h [a1] ∧ Exa Z h a1 "com/example/precis/precis/iso2709/Chars" ∧ Fld Z h a1 "com/example/precis/precis/iso2709/Chars" "array" "[C" (.ref a2) ∧ Fld Z h a1 "com/example/precis/precis/iso2709/Chars" "offset" "I" (.int p3) ∧ Fld Z h a1 "com/example/precis/precis/iso2709/Chars" "length" "I" (.int p4)
set_option maxRecDepth 65536 in
set_option maxHeartbeats 40000000 in
theorem rm1 (l : Launch) (Z : State) (a0 : Array Value) (hw : ∀ d ∈ tables_1, d.before a0 Z = true) (ws : List Jvm.Cond) (a1 : Addr) (a2 : Addr) (p3 : Int32) (p4 : Int32) (u1 : Value) (u2 : Value) (u3 : Value) (kk : ClassId) (e0 : Int32) (e1 : Int32) (e2 : Int32) (e3 : Int32) (h0 : Heap) (n0 : Nat) (Z0 : n0 ≤ h0.size) (E_a1 : Exa Z h0 a1 "com/example/precis/precis/iso2709/Chars") (F_array_a1 : Fld Z h0 a1 "com/example/precis/precis/iso2709/Chars" "array" "[C" u1) (F_offset_a1 : Fld Z h0 a1 "com/example/precis/precis/iso2709/Chars" "offset" "I" u2) (F_length_a1 : Fld Z h0 a1 "com/example/precis/precis/iso2709/Chars" "length" "I" u3) (g_a1 : n0 ≤ a1) (V_a2 : Arv Z h0 a2 kk .char (4 : Int32) [(.int e0), (.int e1), (.int e2), (.int e3)] (.int (0 : Int32))) (ne_a1_a2 : a1 ≠ a2) (s1 : ¬ (((4 : Int32) ||| p3) ||| p4) < (0 : Int32)) (s2 : ¬ ((4 : Int32) - p3) < p4) :
    MetFree l (⟨"com/example/precis/precis/iso2709/Chars", "<init>", "([CII)V"⟩ : MethodName) (head1 (Jvm.Cond.code (⟨"com/example/precis/precis/iso2709/Chars", "<init>", "([CII)V"⟩ : MethodName) prog_37_method_1_code 4 none :: ws) ({ frames := 3, cells := 0, slots := 0, locals := 44 } : Room)) (fun a U => a = #[(.ref a1), (.ref a2), (.int p3), (.int p4)] ∧ Z.Warmed39 U.vm ∧ U.heap = h0) (fun _ _ _ _ _ => True) (fun _ U o U' => ∃ v L, o = .returned v ∧ Q1 Z a1 a2 p3 p4 u1 u2 u3 kk e0 e1 e2 e3 h0 n0 v U'.heap L ∧ FrameEnd U o U' L ({ frames := 3, cells := 0, slots := 0, locals := 44 } : Room).cells ({ frames := 3, cells := 0, slots := 0, locals := 44 } : Room).slots) := by
  refine MetFree.of_bodySF (plainFor_of_name pn_com_example_precis_precis_iso2709_Chars) hisR ?_
  intro p e s m args below meth c s₁ Bd hml0 hP hK
  obtain ⟨rfl, hZ, hh⟩ := hP
  have hx := Bd.exec
  have hby := Bd.bytes
  have hml : c.maxLocals = 4 := hml0
  have hown : s.vm.findClass "com/example/precis/precis/iso2709/Chars" = some m.cls := findClass_of_methodNamed Bd.named
  have hnm := (name_of_methodNamed Bd.named Bd.method).1
  have X0 : Stand p l e ({ frames := 3, cells := 0, slots := 0, locals := 44 } : Room) s m #[(.ref a1), (.ref a2), (.int p3), (.int p4)] below meth c s₁ [] 0 0 := Stand.of_body Bd
  have eh0 : s₁.heap = h0 := by rw [← hh, Bd.state]; rfl
  have N0 := Fr.nil n0
  have pre0 : ∀ t, Steps p.tables e below (s₁.setTop (mkF m 0 #[.val (.ref a1), .val (.ref a2), .val (.int p3), .val (.int p4)] [])) t → Steps p.tables e below (s₁.setTop (entryFrame m #[(.ref a1), (.ref a2), (.int p3), (.int p4)] 4)) t := fun t k => castTop (ef_1 m a1 a2 p3 p4) k
  have K0 : Keep h0 h0 [a1] := Keep.refl _ _
  have pre1 : ∀ t, Steps p.tables e below (s₁.setTop (mkF m 1 #[.val (.ref a1), .val (.ref a2), .val (.int p3), .val (.int p4)] [(.ref a1)])) t → Steps p.tables e below (s₁.setTop (entryFrame m #[(.ref a1), (.ref a2), (.int p3), (.int p4)] 4)) t := fun t k => pre0 t (by
    show Steps p.tables e below (s₁.setTop (mkF m 0 #[.val (.ref a1), .val (.ref a2), .val (.int p3), .val (.int p4)] [])) t
    refine XS.aloadN X0.here hx rfl (hb hby d1_0) rfl rfl ?_
    show Steps p.tables e below (s₁.setTop (mkF m 1 #[.val (.ref a1), .val (.ref a2), .val (.int p3), .val (.int p4)] [(.ref a1)])) t
    exact k)
  obtain ⟨T2, X2, eh2, st2⟩ := initO X0 hx hZ hown (hw _ (List.mem_of_getElem? (i := 8) rfl)) (hw _ (List.mem_of_getElem? (i := 9) rfl)) (hw _ (List.mem_of_getElem? (i := 10) rfl)) eh0 (g := (mkF m 1 #[.val (.ref a1), .val (.ref a2), .val (.int p3), .val (.int p4)] [(.ref a1)])) rfl (by rw [hml]; rfl) rfl (hb hby d1_1) (by decide) (W := 0) (by show 2 * 0 + _ ≤ _; exact Nat.le_of_eq rfl) (by decide)
  have pre3 : ∀ t, Steps p.tables e below (T2.setTop (mkF m 4 #[.val (.ref a1), .val (.ref a2), .val (.int p3), .val (.int p4)] [])) t → Steps p.tables e below (s₁.setTop (entryFrame m #[(.ref a1), (.ref a2), (.int p3), (.int p4)] 4)) t := fun t k => pre1 t (st2 _ k)
  have pre4 : ∀ t, Steps p.tables e below (T2.setTop (mkF m 8 #[.val (.ref a1), .val (.ref a2), .val (.int p3), .val (.int p4)] [(.int p4), (.int p3), (.ref a2), (.ref a1)])) t → Steps p.tables e below (s₁.setTop (entryFrame m #[(.ref a1), (.ref a2), (.int p3), (.int p4)] 4)) t := fun t k => pre3 t (by
    show Steps p.tables e below (T2.setTop (mkF m 4 #[.val (.ref a1), .val (.ref a2), .val (.int p3), .val (.int p4)] [])) t
    refine XS.aloadN X2.here hx rfl (hb hby d1_4) rfl rfl ?_
    show Steps p.tables e below (T2.setTop (mkF m 5 #[.val (.ref a1), .val (.ref a2), .val (.int p3), .val (.int p4)] [(.ref a1)])) t
    refine XS.aloadN X2.here hx rfl (hb hby d1_5) rfl rfl ?_
    show Steps p.tables e below (T2.setTop (mkF m 6 #[.val (.ref a1), .val (.ref a2), .val (.int p3), .val (.int p4)] [(.ref a2), (.ref a1)])) t
    refine XS.iloadN X2.here hx rfl (hb hby d1_6) rfl ?_
    show Steps p.tables e below (T2.setTop (mkF m 7 #[.val (.ref a1), .val (.ref a2), .val (.int p3), .val (.int p4)] [(.int p3), (.ref a2), (.ref a1)])) t
    refine XS.iloadN X2.here hx rfl (hb hby d1_7) rfl ?_
    show Steps p.tables e below (T2.setTop (mkF m 8 #[.val (.ref a1), .val (.ref a2), .val (.int p3), .val (.int p4)] [(.int p4), (.int p3), (.ref a2), (.ref a1)])) t
    exact k)
  obtain ⟨cq5, kq5, q5a, q5b, q5c⟩ := isOf hZ eh2 E_a1
  obtain ⟨_, _, ⟨T5, L5, k5, n5⟩, -, X5, ⟨Lc5, hQ5, l5, y5, z5⟩, st5⟩ := X2.virtualBack hx (y := (⟨"com/example/precis/precis/iso2709/Chars", "set", "([CII)Lcom/example/precis/precis/iso2709/Chars;"⟩ : MethodName)) (z := (⟨"com/example/precis/precis/iso2709/Chars", "set", "([CII)Lcom/example/precis/precis/iso2709/Chars;"⟩ : MethodName)) hown (mvT hZ (hw _ (List.mem_of_getElem? (i := 11) rfl))) (mvT hZ (hw _ (List.mem_of_getElem? (i := 12) rfl))) (notFace_of_selects (args := #[]) (mvT hZ (hw _ (List.mem_of_getElem? (i := 14) rfl)))) (mvT hZ (hw _ (List.mem_of_getElem? (i := 14) rfl))) (mvT hZ (hw _ (List.mem_of_getElem? (i := 13) rfl))) (by decide) (backOf (W := 0) (rm3 l Z a0 hw [] a1 a2 p3 p4 u1 u2 u3 kk e0 e1 e2 e3 h0 n0 Z0 E_a1 F_array_a1 F_offset_a1 F_length_a1 g_a1 V_a2 ne_a1_a2 (show ¬ (((4 : Int32) ||| p3) ||| p4) < (0 : Int32) from s1) (show ¬ ((4 : Int32) - p3) < p4 from s2)) hZ (hw _ (List.mem_of_getElem? (i := 15) rfl)) (hw _ (List.mem_of_getElem? (i := 4) rfl)) (by decide) (by decide)) q5a q5c (g := (mkF m 8 #[.val (.ref a1), .val (.ref a2), .val (.int p3), .val (.int p4)] [(.int p4), (.int p3), (.ref a2), (.ref a1)])) rfl (by rw [hml]; rfl) (Steps.refl _) (argsL := [(.ref a2), (.int p3), (.int p4)]) (rest := []) (lenOf pd_oaCIIcLcom_example_precis_precis_iso2709_Chars_ rfl) rfl (by show 2 * 0 + _ ≤ _; exact Nat.le_of_eq rfl) (hb hby d1_8) (fun _ _ => ⟨rfl, eh2, (by decide : 0 + 0 ≤ _), (by decide : 0 + 0 ≤ _)⟩)
  dsimp only [Pt.U, Pt.locs, Pt.cells, Pt.slots] at X5 l5 y5 z5 st5 hQ5
  subst l5 y5 z5
  obtain ⟨rfl, N5q, Kq5, P5_1, P5_2, P5_3, P5_4⟩ := hQ5
  have V_a2__5 : Arv Z T5.heap a2 kk .char (4 : Int32) [(.int e0), (.int e1), (.int e2), (.int e3)] (.int (0 : Int32)) := V_a2.keep Kq5 (ninS (Ne.symm ne_a1_a2) nin0)
  have sz5 : n0 ≤ T5.heap.size := Nat.le_trans Z0 Kq5.1
  have K5 : Keep h0 T5.heap [a1] := K0.trans Kq5 (allS (Or.inl (List.mem_of_getElem? (i := 0) rfl)) all0)
  have N5 := Fr.app N0 N5q
  have pre6 : ∀ t, Steps p.tables e below (T5.setTop (mkF m 11 #[.val (.ref a1), .val (.ref a2), .val (.int p3), .val (.int p4)] [(.ref a1)])) t → Steps p.tables e below (s₁.setTop (entryFrame m #[(.ref a1), (.ref a2), (.int p3), (.int p4)] 4)) t := fun t k => pre4 t (st5.trans k)
  have pre7 : ∀ t, Steps p.tables e below (T5.setTop (mkF m 12 #[.val (.ref a1), .val (.ref a2), .val (.int p3), .val (.int p4)] [])) t → Steps p.tables e below (s₁.setTop (entryFrame m #[(.ref a1), (.ref a2), (.int p3), (.int p4)] 4)) t := fun t k => pre6 t (by
    show Steps p.tables e below (T5.setTop (mkF m 11 #[.val (.ref a1), .val (.ref a2), .val (.int p3), .val (.int p4)] [(.ref a1)])) t
    refine XT.pop X5.here hx rfl (hb hby d1_11) rfl rfl ?_
    show Steps p.tables e below (T5.setTop (mkF m 12 #[.val (.ref a1), .val (.ref a2), .val (.int p3), .val (.int p4)] [])) t
    exact k)
  obtain ⟨fs, hr, hrun, hended, hW, hsame⟩ := X5.leave (v := none) (fun _ => rfl)
  refine ⟨_, _, pre7 _ ?_, hrun, hended, _, _, rfl, ?_, ⟨_, rfl⟩, hW, hsame.mono (by decide) (by decide)⟩
  · show Steps p.tables e below (T5.setTop (mkF m 12 #[.val (.ref a1), .val (.ref a2), .val (.int p3), .val (.int p4)] [])) _
    exact X5.returnOut hx Bd.returns (hb hby d1_12) hr
  · show Q1 Z a1 a2 p3 p4 u1 u2 u3 kk e0 e1 e2 e3 h0 n0 _ T5.heap _
    exact ⟨rfl, N5, K5, P5_1, P5_2, P5_3, P5_4⟩
theorem ef_8 (m : MethodId) (p1 : Int32) (p2 : Int32) : entryFrame m #[(.int p1), (.int p2), .null] 3 = mkF m 0 #[.val (.int p1), .val (.int p2), .val .null] [] := by first | (simp [entryFrame, mkF, argsToLocals, Value.category]; done) | rfl
theorem d8_0 : decode jdk_41_method_11_code 0 = .ok (.iload_n 0, 1) := by decide +kernel
theorem d8_1 : decode jdk_41_method_11_code 1 = .ok (.ifCond .lt 8, 3) := by decide +kernel
theorem d8_4 : decode jdk_41_method_11_code 4 = .ok (.iload_n 0, 1) := by decide +kernel
theorem d8_5 : decode jdk_41_method_11_code 5 = .ok (.iload_n 1, 1) := by decide +kernel
theorem d8_6 : decode jdk_41_method_11_code 6 = .ok (.if_icmp .lt 10, 3) := by decide +kernel
theorem d8_16 : decode jdk_41_method_11_code 16 = .ok (.iload_n 0, 1) := by decide +kernel
theorem d8_17 : decode jdk_41_method_11_code 17 = .ok (.ireturn, 1) := by decide +kernel
def Q8 (Z : State) (p1 : Int32) (p2 : Int32) (h0 : Heap) (n0 : Nat) (v : Option Value) (h : Heap) (L : List Loc) : Prop := v = some (.int p1) ∧ Fr n0 L ∧ h = h0
set_option maxRecDepth 65536 in
set_option maxHeartbeats 40000000 in
theorem rm8 (l : Launch) (Z : State) (a0 : Array Value) (hw : ∀ d ∈ tables_1, d.before a0 Z = true) (ws : List Jvm.Cond) (p1 : Int32) (p2 : Int32) (h0 : Heap) (n0 : Nat) (Z0 : n0 ≤ h0.size) (c1 : ¬ p1 < (0 : Int32)) (c2 : p1 < p2) :
    MetFree l (⟨"jdk/internal/util/Preconditions", "checkIndex", "(IILjava/util/function/BiFunction;)I"⟩ : MethodName) (head1 (Jvm.Cond.code (⟨"jdk/internal/util/Preconditions", "checkIndex", "(IILjava/util/function/BiFunction;)I"⟩ : MethodName) jdk_41_method_11_code 3 (some .int) :: ws) ({ frames := 0, cells := 0, slots := 0, locals := 0 } : Room)) (fun a U => a = #[(.int p1), (.int p2), .null] ∧ Z.Warmed39 U.vm ∧ U.heap = h0) (fun _ _ _ _ _ => True) (fun _ U o U' => ∃ v L, o = .returned v ∧ Q8 Z p1 p2 h0 n0 v U'.heap L ∧ FrameEnd U o U' L ({ frames := 0, cells := 0, slots := 0, locals := 0 } : Room).cells ({ frames := 0, cells := 0, slots := 0, locals := 0 } : Room).slots) := by
  refine MetFree.of_bodySF (plainFor_of_name pn_jdk_internal_util_Preconditions) hisR ?_
  intro p e s m args below meth c s₁ Bd hml0 hP hK
  obtain ⟨rfl, hZ, hh⟩ := hP
  have hx := Bd.exec
  have hby := Bd.bytes
  have hml : c.maxLocals = 3 := hml0
  have hown : s.vm.findClass "jdk/internal/util/Preconditions" = some m.cls := findClass_of_methodNamed Bd.named
  have hnm := (name_of_methodNamed Bd.named Bd.method).1
  have X0 : Stand p l e ({ frames := 0, cells := 0, slots := 0, locals := 0 } : Room) s m #[(.int p1), (.int p2), .null] below meth c s₁ [] 0 0 := Stand.of_body Bd
  have eh0 : s₁.heap = h0 := by rw [← hh, Bd.state]; rfl
  have N0 := Fr.nil n0
  have pre0 : ∀ t, Steps p.tables e below (s₁.setTop (mkF m 0 #[.val (.int p1), .val (.int p2), .val .null] [])) t → Steps p.tables e below (s₁.setTop (entryFrame m #[(.int p1), (.int p2), .null] 3)) t := fun t k => castTop (ef_8 m p1 p2) k
  have pre3 : ∀ t, Steps p.tables e below (s₁.setTop (mkF m 17 #[.val (.int p1), .val (.int p2), .val .null] [(.int p1)])) t → Steps p.tables e below (s₁.setTop (entryFrame m #[(.int p1), (.int p2), .null] 3)) t := fun t k => pre0 t (by
    show Steps p.tables e below (s₁.setTop (mkF m 0 #[.val (.int p1), .val (.int p2), .val .null] [])) t
    refine XS.iloadN X0.here hx rfl (hb hby d8_0) rfl ?_
    show Steps p.tables e below (s₁.setTop (mkF m 1 #[.val (.int p1), .val (.int p2), .val .null] [(.int p1)])) t
    refine XS.ifNo X0.here hx rfl (hb hby d8_1) rfl (XT.i0_lt_f (show ¬ (p1 < (0 : Int32)) from c1)) ?_
    show Steps p.tables e below (s₁.setTop (mkF m 4 #[.val (.int p1), .val (.int p2), .val .null] [])) t
    refine XS.iloadN X0.here hx rfl (hb hby d8_4) rfl ?_
    show Steps p.tables e below (s₁.setTop (mkF m 5 #[.val (.int p1), .val (.int p2), .val .null] [(.int p1)])) t
    refine XS.iloadN X0.here hx rfl (hb hby d8_5) rfl ?_
    show Steps p.tables e below (s₁.setTop (mkF m 6 #[.val (.int p1), .val (.int p2), .val .null] [(.int p2), (.int p1)])) t
    refine XS.icmpYes X0.here hx rfl (pc0 := 6) (pc' := 16) rfl (hb hby d8_6) rfl (XT.ii_lt_t (show p1 < p2 from c2)) (by decide) (by decide) ?_
    show Steps p.tables e below (s₁.setTop (mkF m 16 #[.val (.int p1), .val (.int p2), .val .null] [])) t
    refine XS.iloadN X0.here hx rfl (hb hby d8_16) rfl ?_
    show Steps p.tables e below (s₁.setTop (mkF m 17 #[.val (.int p1), .val (.int p2), .val .null] [(.int p1)])) t
    exact k)
  obtain ⟨fs, hr, hrun, hended, hW, hsame⟩ := X0.leave (v := some (.int p1)) (fun h => by rw [Bd.returns] at h; cases h)
  refine ⟨_, _, pre3 _ ?_, hrun, hended, _, _, rfl, ?_, ⟨_, rfl⟩, hW, hsame.mono (by decide) (by decide)⟩
  · show Steps p.tables e below (s₁.setTop (mkF m 17 #[.val (.int p1), .val (.int p2), .val .null] [(.int p1)])) _
    exact retI X0 hx Bd.returns (hb hby d8_17) hr
  · show Q8 Z p1 p2 h0 n0 _ s₁.heap _
    rw [eh0]
    exact ⟨rfl, N0, rfl⟩
theorem ef_7 (m : MethodId) (p1 : Int32) (p2 : Int32) : entryFrame m #[(.int p1), (.int p2)] 2 = mkF m 0 #[.val (.int p1), .val (.int p2)] [] := by first | (simp [entryFrame, mkF, argsToLocals, Value.category]; done) | rfl
theorem d7_0 : decode jdk_31_method_17_code 0 = .ok (.iload_n 0, 1) := by decide +kernel
theorem d7_1 : decode jdk_31_method_17_code 1 = .ok (.iload_n 1, 1) := by decide +kernel
theorem d7_2 : decode jdk_31_method_17_code 2 = .ok (.aconst_null, 1) := by decide +kernel
theorem d7_3 : decode jdk_31_method_17_code 3 = .ok (.invokestatic 105, 3) := by decide +kernel
theorem pd_oIILjava_util_function_BiFunction_cI : parseMethodDescriptor "(IILjava/util/function/BiFunction;)I" = some ⟨[.int, .int, (.object "java/util/function/BiFunction")], some .int⟩ := by decide +kernel
theorem d7_6 : decode jdk_31_method_17_code 6 = .ok (.ireturn, 1) := by decide +kernel
def Q7 (Z : State) (p1 : Int32) (p2 : Int32) (h0 : Heap) (n0 : Nat) (v : Option Value) (h : Heap) (L : List Loc) : Prop := v = some (.int p1) ∧ Fr n0 L ∧ h = h0
set_option maxRecDepth 65536 in
set_option maxHeartbeats 40000000 in
theorem rm7 (l : Launch) (Z : State) (a0 : Array Value) (hw : ∀ d ∈ tables_1, d.before a0 Z = true) (ws : List Jvm.Cond) (p1 : Int32) (p2 : Int32) (h0 : Heap) (n0 : Nat) (Z0 : n0 ≤ h0.size) (c1 : ¬ p1 < (0 : Int32)) (c2 : p1 < p2) :
    MetFree l (⟨"java/util/Objects", "checkIndex", "(II)I"⟩ : MethodName) (head1 (Jvm.Cond.code (⟨"java/util/Objects", "checkIndex", "(II)I"⟩ : MethodName) jdk_31_method_17_code 2 (some .int) :: ws) ({ frames := 1, cells := 0, slots := 0, locals := 14 } : Room)) (fun a U => a = #[(.int p1), (.int p2)] ∧ Z.Warmed39 U.vm ∧ U.heap = h0) (fun _ _ _ _ _ => True) (fun _ U o U' => ∃ v L, o = .returned v ∧ Q7 Z p1 p2 h0 n0 v U'.heap L ∧ FrameEnd U o U' L ({ frames := 1, cells := 0, slots := 0, locals := 14 } : Room).cells ({ frames := 1, cells := 0, slots := 0, locals := 14 } : Room).slots) := by
  refine MetFree.of_bodySF (plainFor_of_name pn_java_util_Objects) hisR ?_
  intro p e s m args below meth c s₁ Bd hml0 hP hK
  obtain ⟨rfl, hZ, hh⟩ := hP
  have hx := Bd.exec
  have hby := Bd.bytes
  have hml : c.maxLocals = 2 := hml0
  have hown : s.vm.findClass "java/util/Objects" = some m.cls := findClass_of_methodNamed Bd.named
  have hnm := (name_of_methodNamed Bd.named Bd.method).1
  have X0 : Stand p l e ({ frames := 1, cells := 0, slots := 0, locals := 14 } : Room) s m #[(.int p1), (.int p2)] below meth c s₁ [] 0 0 := Stand.of_body Bd
  have eh0 : s₁.heap = h0 := by rw [← hh, Bd.state]; rfl
  have N0 := Fr.nil n0
  have pre0 : ∀ t, Steps p.tables e below (s₁.setTop (mkF m 0 #[.val (.int p1), .val (.int p2)] [])) t → Steps p.tables e below (s₁.setTop (entryFrame m #[(.int p1), (.int p2)] 2)) t := fun t k => castTop (ef_7 m p1 p2) k
  have pre1 : ∀ t, Steps p.tables e below (s₁.setTop (mkF m 3 #[.val (.int p1), .val (.int p2)] [.null, (.int p2), (.int p1)])) t → Steps p.tables e below (s₁.setTop (entryFrame m #[(.int p1), (.int p2)] 2)) t := fun t k => pre0 t (by
    show Steps p.tables e below (s₁.setTop (mkF m 0 #[.val (.int p1), .val (.int p2)] [])) t
    refine XS.iloadN X0.here hx rfl (hb hby d7_0) rfl ?_
    show Steps p.tables e below (s₁.setTop (mkF m 1 #[.val (.int p1), .val (.int p2)] [(.int p1)])) t
    refine XS.iloadN X0.here hx rfl (hb hby d7_1) rfl ?_
    show Steps p.tables e below (s₁.setTop (mkF m 2 #[.val (.int p1), .val (.int p2)] [(.int p2), (.int p1)])) t
    refine XS.aconstNull X0.here hx rfl (hb hby d7_2) ?_
    show Steps p.tables e below (s₁.setTop (mkF m 3 #[.val (.int p1), .val (.int p2)] [.null, (.int p2), (.int p1)])) t
    exact k)
  obtain ⟨_, _, ⟨T2, L2, k2, n2⟩, -, X2, ⟨Lc2, hQ2, l2, y2, z2⟩, st2⟩ := Jvm.LawKit.callS X0 hx (y := (⟨"jdk/internal/util/Preconditions", "checkIndex", "(IILjava/util/function/BiFunction;)I"⟩ : MethodName)) hown (mvT hZ (hw _ (List.mem_of_getElem? (i := 38) rfl))) (mvT hZ (hw _ (List.mem_of_getElem? (i := 39) rfl))) (mvT hZ (hw _ (List.mem_of_getElem? (i := 22) rfl))) (mvT hZ (hw _ (List.mem_of_getElem? (i := 40) rfl))) (by decide) (backOf (W := 0) (rm8 l Z a0 hw [] p1 p2 h0 n0 Z0 (show ¬ p1 < (0 : Int32) from c1) (show p1 < p2 from c2)) hZ (hw _ (List.mem_of_getElem? (i := 40) rfl)) (hw _ (List.mem_of_getElem? (i := 22) rfl)) (by decide) (by decide)) (g := (mkF m 3 #[.val (.int p1), .val (.int p2)] [.null, (.int p2), (.int p1)])) rfl (by rw [hml]; rfl) (argsL := [(.int p1), (.int p2), .null]) (rest := []) (lenOf pd_oIILjava_util_function_BiFunction_cI rfl) rfl (by show 2 * 0 + _ ≤ _; exact Nat.le_of_eq rfl) (hb hby d7_3) (fun _ _ => ⟨rfl, eh0, (by decide : 0 + 0 ≤ _), (by decide : 0 + 0 ≤ _)⟩)
  dsimp only [Pt.U, Pt.locs, Pt.cells, Pt.slots] at X2 l2 y2 z2 st2 hQ2
  subst l2 y2 z2
  obtain ⟨rfl, N2q, eh2⟩ := hQ2
  have N2 := Fr.app N0 N2q
  have pre3 : ∀ t, Steps p.tables e below (T2.setTop (mkF m 6 #[.val (.int p1), .val (.int p2)] [(.int p1)])) t → Steps p.tables e below (s₁.setTop (entryFrame m #[(.int p1), (.int p2)] 2)) t := fun t k => pre1 t (st2 _ k)
  obtain ⟨fs, hr, hrun, hended, hW, hsame⟩ := X2.leave (v := some (.int p1)) (fun h => by rw [Bd.returns] at h; cases h)
  refine ⟨_, _, pre3 _ ?_, hrun, hended, _, _, rfl, ?_, ⟨_, rfl⟩, hW, hsame.mono (by decide) (by decide)⟩
  · show Steps p.tables e below (T2.setTop (mkF m 6 #[.val (.int p1), .val (.int p2)] [(.int p1)])) _
    exact retI X2 hx Bd.returns (hb hby d7_6) hr
  · show Q7 Z p1 p2 h0 n0 _ T2.heap _
    rw [eh2]
    exact ⟨rfl, N2, rfl⟩
theorem ef_6 (m : MethodId) (a1 : Addr) (p2 : Int32) : entryFrame m #[(.ref a1), (.int p2)] 2 = mkF m 0 #[.val (.ref a1), .val (.int p2)] [] := by first | (simp [entryFrame, mkF, argsToLocals, Value.category]; done) | rfl
theorem d6_0 : decode prog_37_method_4_code 0 = .ok (.aload_n 0, 1) := by decide +kernel
theorem d6_1 : decode prog_37_method_4_code 1 = .ok (.getfield 19, 3) := by decide +kernel
theorem d6_4 : decode prog_37_method_4_code 4 = .ok (.aload_n 0, 1) := by decide +kernel
theorem d6_5 : decode prog_37_method_4_code 5 = .ok (.getfield 23, 3) := by decide +kernel
theorem d6_8 : decode prog_37_method_4_code 8 = .ok (.iload_n 1, 1) := by decide +kernel
theorem d6_9 : decode prog_37_method_4_code 9 = .ok (.aload_n 0, 1) := by decide +kernel
theorem d6_10 : decode prog_37_method_4_code 10 = .ok (.getfield 27, 3) := by decide +kernel
theorem d6_13 : decode prog_37_method_4_code 13 = .ok (.invokestatic 30, 3) := by decide +kernel
theorem pd_oIIcI : parseMethodDescriptor "(II)I" = some ⟨[.int, .int], some .int⟩ := by decide +kernel
theorem d6_16 : decode prog_37_method_4_code 16 = .ok (.iadd, 1) := by decide +kernel
theorem d6_17 : decode prog_37_method_4_code 17 = .ok (.caload, 1) := by decide +kernel
theorem d6_18 : decode prog_37_method_4_code 18 = .ok (.ireturn, 1) := by decide +kernel
def Q6 (Z : State) (a1 : Addr) (p2 : Int32) (ar : Addr) (w2 : Int32) (w3 : Int32) (kk : ClassId) (e0 : Int32) (e1 : Int32) (e2 : Int32) (e3 : Int32) (h0 : Heap) (n0 : Nat) (v : Option Value) (h : Heap) (L : List Loc) : Prop := v = some (.int (nar .char (own_at e0 e1 e2 e3 (w2 + p2)))) ∧ Fr n0 L ∧ h = h0
set_option maxRecDepth 65536 in
set_option maxHeartbeats 40000000 in
theorem rm6 (l : Launch) (Z : State) (a0 : Array Value) (hw : ∀ d ∈ tables_1, d.before a0 Z = true) (ws : List Jvm.Cond) (a1 : Addr) (p2 : Int32) (ar : Addr) (w2 : Int32) (w3 : Int32) (kk : ClassId) (e0 : Int32) (e1 : Int32) (e2 : Int32) (e3 : Int32) (h0 : Heap) (n0 : Nat) (Z0 : n0 ≤ h0.size) (F_array_a1 : Fld Z h0 a1 "com/example/precis/precis/iso2709/Chars" "array" "[C" (.ref ar)) (F_offset_a1 : Fld Z h0 a1 "com/example/precis/precis/iso2709/Chars" "offset" "I" (.int w2)) (F_length_a1 : Fld Z h0 a1 "com/example/precis/precis/iso2709/Chars" "length" "I" (.int w3)) (V_ar : Arv Z h0 ar kk .char (4 : Int32) [(.int e0), (.int e1), (.int e2), (.int e3)] (.int (0 : Int32))) (d1 : ¬ p2 < (0 : Int32)) (d2 : p2 < w3) (d3 : ¬ (w2 + p2) < (0 : Int32) ∧ (w2 + p2) < (4 : Int32)) :
    MetFree l (⟨"com/example/precis/precis/iso2709/Chars", "charAt", "(I)C"⟩ : MethodName) (head1 (Jvm.Cond.code (⟨"com/example/precis/precis/iso2709/Chars", "charAt", "(I)C"⟩ : MethodName) prog_37_method_4_code 2 (some .char) :: ws) ({ frames := 2, cells := 0, slots := 0, locals := 29 } : Room)) (fun a U => a = #[(.ref a1), (.int p2)] ∧ Z.Warmed39 U.vm ∧ U.heap = h0) (fun _ _ _ _ _ => True) (fun _ U o U' => ∃ v L, o = .returned v ∧ Q6 Z a1 p2 ar w2 w3 kk e0 e1 e2 e3 h0 n0 v U'.heap L ∧ FrameEnd U o U' L ({ frames := 2, cells := 0, slots := 0, locals := 29 } : Room).cells ({ frames := 2, cells := 0, slots := 0, locals := 29 } : Room).slots) := by
  refine MetFree.of_bodySF (plainFor_of_name pn_com_example_precis_precis_iso2709_Chars) hisR ?_
  intro p e s m args below meth c s₁ Bd hml0 hP hK
  obtain ⟨rfl, hZ, hh⟩ := hP
  have hx := Bd.exec
  have hby := Bd.bytes
  have hml : c.maxLocals = 2 := hml0
  have hown : s.vm.findClass "com/example/precis/precis/iso2709/Chars" = some m.cls := findClass_of_methodNamed Bd.named
  have hnm := (name_of_methodNamed Bd.named Bd.method).1
  have X0 : Stand p l e ({ frames := 2, cells := 0, slots := 0, locals := 29 } : Room) s m #[(.ref a1), (.int p2)] below meth c s₁ [] 0 0 := Stand.of_body Bd
  have eh0 : s₁.heap = h0 := by rw [← hh, Bd.state]; rfl
  have N0 := Fr.nil n0
  have pre0 : ∀ t, Steps p.tables e below (s₁.setTop (mkF m 0 #[.val (.ref a1), .val (.int p2)] [])) t → Steps p.tables e below (s₁.setTop (entryFrame m #[(.ref a1), (.int p2)] 2)) t := fun t k => castTop (ef_6 m a1 p2) k
  have pre1 : ∀ t, Steps p.tables e below (s₁.setTop (mkF m 1 #[.val (.ref a1), .val (.int p2)] [(.ref a1)])) t → Steps p.tables e below (s₁.setTop (entryFrame m #[(.ref a1), (.int p2)] 2)) t := fun t k => pre0 t (by
    show Steps p.tables e below (s₁.setTop (mkF m 0 #[.val (.ref a1), .val (.int p2)] [])) t
    refine XS.aloadN X0.here hx rfl (hb hby d6_0) rfl rfl ?_
    show Steps p.tables e below (s₁.setTop (mkF m 1 #[.val (.ref a1), .val (.int p2)] [(.ref a1)])) t
    exact k)
  obtain ⟨T2, X2, eh2, st2⟩ := getF X0 hx hZ hown (host := "") (Or.inl (hw _ (List.mem_of_getElem? (i := 24) rfl))) Via.refl eh0 F_array_a1 (g := (mkF m 1 #[.val (.ref a1), .val (.int p2)] [(.ref a1)])) rfl rfl (hb hby d6_1)
  have pre3 : ∀ t, Steps p.tables e below (T2.setTop (mkF m 4 #[.val (.ref a1), .val (.int p2)] [(.ref ar)])) t → Steps p.tables e below (s₁.setTop (entryFrame m #[(.ref a1), (.int p2)] 2)) t := fun t k => pre1 t (st2 _ k)
  have pre4 : ∀ t, Steps p.tables e below (T2.setTop (mkF m 5 #[.val (.ref a1), .val (.int p2)] [(.ref a1), (.ref ar)])) t → Steps p.tables e below (s₁.setTop (entryFrame m #[(.ref a1), (.int p2)] 2)) t := fun t k => pre3 t (by
    show Steps p.tables e below (T2.setTop (mkF m 4 #[.val (.ref a1), .val (.int p2)] [(.ref ar)])) t
    refine XS.aloadN X2.here hx rfl (hb hby d6_4) rfl rfl ?_
    show Steps p.tables e below (T2.setTop (mkF m 5 #[.val (.ref a1), .val (.int p2)] [(.ref a1), (.ref ar)])) t
    exact k)
  obtain ⟨T5, X5, eh5, st5⟩ := getF X2 hx hZ hown (host := "") (Or.inl (hw _ (List.mem_of_getElem? (i := 26) rfl))) Via.refl eh2 F_offset_a1 (g := (mkF m 5 #[.val (.ref a1), .val (.int p2)] [(.ref a1), (.ref ar)])) rfl rfl (hb hby d6_5)
  have pre6 : ∀ t, Steps p.tables e below (T5.setTop (mkF m 8 #[.val (.ref a1), .val (.int p2)] [(.int w2), (.ref ar)])) t → Steps p.tables e below (s₁.setTop (entryFrame m #[(.ref a1), (.int p2)] 2)) t := fun t k => pre4 t (st5 _ k)
  have pre7 : ∀ t, Steps p.tables e below (T5.setTop (mkF m 10 #[.val (.ref a1), .val (.int p2)] [(.ref a1), (.int p2), (.int w2), (.ref ar)])) t → Steps p.tables e below (s₁.setTop (entryFrame m #[(.ref a1), (.int p2)] 2)) t := fun t k => pre6 t (by
    show Steps p.tables e below (T5.setTop (mkF m 8 #[.val (.ref a1), .val (.int p2)] [(.int w2), (.ref ar)])) t
    refine XS.iloadN X5.here hx rfl (hb hby d6_8) rfl ?_
    show Steps p.tables e below (T5.setTop (mkF m 9 #[.val (.ref a1), .val (.int p2)] [(.int p2), (.int w2), (.ref ar)])) t
    refine XS.aloadN X5.here hx rfl (hb hby d6_9) rfl rfl ?_
    show Steps p.tables e below (T5.setTop (mkF m 10 #[.val (.ref a1), .val (.int p2)] [(.ref a1), (.int p2), (.int w2), (.ref ar)])) t
    exact k)
  obtain ⟨T8, X8, eh8, st8⟩ := getF X5 hx hZ hown (host := "") (Or.inl (hw _ (List.mem_of_getElem? (i := 28) rfl))) Via.refl eh5 F_length_a1 (g := (mkF m 10 #[.val (.ref a1), .val (.int p2)] [(.ref a1), (.int p2), (.int w2), (.ref ar)])) rfl rfl (hb hby d6_10)
  have pre9 : ∀ t, Steps p.tables e below (T8.setTop (mkF m 13 #[.val (.ref a1), .val (.int p2)] [(.int w3), (.int p2), (.int w2), (.ref ar)])) t → Steps p.tables e below (s₁.setTop (entryFrame m #[(.ref a1), (.int p2)] 2)) t := fun t k => pre7 t (st8 _ k)
  obtain ⟨_, _, ⟨T10, L10, k10, n10⟩, -, X10, ⟨Lc10, hQ10, l10, y10, z10⟩, st10⟩ := Jvm.LawKit.callS X8 hx (y := (⟨"java/util/Objects", "checkIndex", "(II)I"⟩ : MethodName)) hown (mvT hZ (hw _ (List.mem_of_getElem? (i := 35) rfl))) (mvT hZ (hw _ (List.mem_of_getElem? (i := 36) rfl))) (mvT hZ (hw _ (List.mem_of_getElem? (i := 18) rfl))) (mvT hZ (hw _ (List.mem_of_getElem? (i := 37) rfl))) (by decide) (backOf (W := 2) (rm7 l Z a0 hw [] p2 w3 h0 n0 Z0 (show ¬ p2 < (0 : Int32) from d1) (show p2 < w3 from d2)) hZ (hw _ (List.mem_of_getElem? (i := 37) rfl)) (hw _ (List.mem_of_getElem? (i := 18) rfl)) (by decide) (by decide)) (g := (mkF m 13 #[.val (.ref a1), .val (.int p2)] [(.int w3), (.int p2), (.int w2), (.ref ar)])) rfl (by rw [hml]; rfl) (argsL := [(.int p2), (.int w3)]) (rest := [(.int w2), (.ref ar)]) (lenOf pd_oIIcI rfl) rfl (by show 2 * 0 + _ ≤ _; exact Nat.le_of_eq rfl) (hb hby d6_13) (fun _ _ => ⟨rfl, eh8, (by decide : 0 + 0 ≤ _), (by decide : 0 + 0 ≤ _)⟩)
  dsimp only [Pt.U, Pt.locs, Pt.cells, Pt.slots] at X10 l10 y10 z10 st10 hQ10
  subst l10 y10 z10
  obtain ⟨rfl, N10q, eh10⟩ := hQ10
  have N10 := Fr.app N0 N10q
  have pre11 : ∀ t, Steps p.tables e below (T10.setTop (mkF m 16 #[.val (.ref a1), .val (.int p2)] [(.int p2), (.int w2), (.ref ar)])) t → Steps p.tables e below (s₁.setTop (entryFrame m #[(.ref a1), (.int p2)] 2)) t := fun t k => pre9 t (st10 _ k)
  have pre12 : ∀ t, Steps p.tables e below (T10.setTop (mkF m 18 #[.val (.ref a1), .val (.int p2)] [(.int (own_at e0 e1 e2 e3 (w2 + p2)))])) t → Steps p.tables e below (s₁.setTop (entryFrame m #[(.ref a1), (.int p2)] 2)) t := fun t k => pre11 t (by
    show Steps p.tables e below (T10.setTop (mkF m 16 #[.val (.ref a1), .val (.int p2)] [(.int p2), (.int w2), (.ref ar)])) t
    refine XS.iadd X10.here hx rfl (hb hby d6_16) rfl ?_
    show Steps p.tables e below (T10.setTop (mkF m 17 #[.val (.ref a1), .val (.int p2)] [(.int (w2 + p2)), (.ref ar)])) t
    refine own_caload X10 hx hZ eh10 V_ar (j := (w2 + p2)) (v := (.int (own_at e0 e1 e2 e3 (w2 + p2)))) d3 (own_get e0 e1 e2 e3 d3) (g := (mkF m 17 #[.val (.ref a1), .val (.int p2)] [(.int (w2 + p2)), (.ref ar)])) rfl rfl (hb hby d6_17) _ ?_
    show Steps p.tables e below (T10.setTop (mkF m 18 #[.val (.ref a1), .val (.int p2)] [(.int (own_at e0 e1 e2 e3 (w2 + p2)))])) t
    exact k)
  obtain ⟨fs, hr, hrun, hended, hW, hsame⟩ := X10.leave (v := some (.int (nar .char (own_at e0 e1 e2 e3 (w2 + p2))))) (fun h => by rw [Bd.returns] at h; cases h)
  refine ⟨_, _, pre12 _ ?_, hrun, hended, _, _, rfl, ?_, ⟨_, rfl⟩, hW, hsame.mono (by decide) (by decide)⟩
  · show Steps p.tables e below (T10.setTop (mkF m 18 #[.val (.ref a1), .val (.int p2)] [(.int (own_at e0 e1 e2 e3 (w2 + p2)))])) _
    exact retN X10 hx (t := .char) Bd.returns (by simp) (hb hby d6_18) hr
  · show Q6 Z a1 p2 ar w2 w3 kk e0 e1 e2 e3 h0 n0 _ T10.heap _
    rw [eh10]
    exact ⟨rfl, N10, rfl⟩
theorem ef_10 (m : MethodId) (a1 : Addr) : entryFrame m #[(.ref a1)] 1 = mkF m 0 #[.val (.ref a1)] [] := by first | (simp [entryFrame, mkF, argsToLocals, Value.category]; done) | rfl
theorem d10_0 : decode prog_37_method_3_code 0 = .ok (.aload_n 0, 1) := by decide +kernel
theorem d10_1 : decode prog_37_method_3_code 1 = .ok (.getfield 27, 3) := by decide +kernel
theorem d10_4 : decode prog_37_method_3_code 4 = .ok (.ireturn, 1) := by decide +kernel
def Q10 (Z : State) (a1 : Addr) (w3 : Int32) (h0 : Heap) (n0 : Nat) (v : Option Value) (h : Heap) (L : List Loc) : Prop := v = some (.int w3) ∧ Fr n0 L ∧ h = h0
set_option maxRecDepth 65536 in
set_option maxHeartbeats 40000000 in
theorem rm10 (l : Launch) (Z : State) (a0 : Array Value) (hw : ∀ d ∈ tables_1, d.before a0 Z = true) (ws : List Jvm.Cond) (a1 : Addr) (w3 : Int32) (h0 : Heap) (n0 : Nat) (Z0 : n0 ≤ h0.size) (F_length_a1 : Fld Z h0 a1 "com/example/precis/precis/iso2709/Chars" "length" "I" (.int w3)) :
    MetFree l (⟨"com/example/precis/precis/iso2709/Chars", "length", "()I"⟩ : MethodName) (head1 (Jvm.Cond.code (⟨"com/example/precis/precis/iso2709/Chars", "length", "()I"⟩ : MethodName) prog_37_method_3_code 1 (some .int) :: ws) ({ frames := 0, cells := 0, slots := 0, locals := 0 } : Room)) (fun a U => a = #[(.ref a1)] ∧ Z.Warmed39 U.vm ∧ U.heap = h0) (fun _ _ _ _ _ => True) (fun _ U o U' => ∃ v L, o = .returned v ∧ Q10 Z a1 w3 h0 n0 v U'.heap L ∧ FrameEnd U o U' L ({ frames := 0, cells := 0, slots := 0, locals := 0 } : Room).cells ({ frames := 0, cells := 0, slots := 0, locals := 0 } : Room).slots) := by
  refine MetFree.of_bodySF (plainFor_of_name pn_com_example_precis_precis_iso2709_Chars) hisR ?_
  intro p e s m args below meth c s₁ Bd hml0 hP hK
  obtain ⟨rfl, hZ, hh⟩ := hP
  have hx := Bd.exec
  have hby := Bd.bytes
  have hml : c.maxLocals = 1 := hml0
  have hown : s.vm.findClass "com/example/precis/precis/iso2709/Chars" = some m.cls := findClass_of_methodNamed Bd.named
  have hnm := (name_of_methodNamed Bd.named Bd.method).1
  have X0 : Stand p l e ({ frames := 0, cells := 0, slots := 0, locals := 0 } : Room) s m #[(.ref a1)] below meth c s₁ [] 0 0 := Stand.of_body Bd
  have eh0 : s₁.heap = h0 := by rw [← hh, Bd.state]; rfl
  have N0 := Fr.nil n0
  have pre0 : ∀ t, Steps p.tables e below (s₁.setTop (mkF m 0 #[.val (.ref a1)] [])) t → Steps p.tables e below (s₁.setTop (entryFrame m #[(.ref a1)] 1)) t := fun t k => castTop (ef_10 m a1) k
  have pre1 : ∀ t, Steps p.tables e below (s₁.setTop (mkF m 1 #[.val (.ref a1)] [(.ref a1)])) t → Steps p.tables e below (s₁.setTop (entryFrame m #[(.ref a1)] 1)) t := fun t k => pre0 t (by
    show Steps p.tables e below (s₁.setTop (mkF m 0 #[.val (.ref a1)] [])) t
    refine XS.aloadN X0.here hx rfl (hb hby d10_0) rfl rfl ?_
    show Steps p.tables e below (s₁.setTop (mkF m 1 #[.val (.ref a1)] [(.ref a1)])) t
    exact k)
  obtain ⟨T2, X2, eh2, st2⟩ := getF X0 hx hZ hown (host := "") (Or.inl (hw _ (List.mem_of_getElem? (i := 28) rfl))) Via.refl eh0 F_length_a1 (g := (mkF m 1 #[.val (.ref a1)] [(.ref a1)])) rfl rfl (hb hby d10_1)
  have pre3 : ∀ t, Steps p.tables e below (T2.setTop (mkF m 4 #[.val (.ref a1)] [(.int w3)])) t → Steps p.tables e below (s₁.setTop (entryFrame m #[(.ref a1)] 1)) t := fun t k => pre1 t (st2 _ k)
  obtain ⟨fs, hr, hrun, hended, hW, hsame⟩ := X2.leave (v := some (.int w3)) (fun h => by rw [Bd.returns] at h; cases h)
  refine ⟨_, _, pre3 _ ?_, hrun, hended, _, _, rfl, ?_, ⟨_, rfl⟩, hW, hsame.mono (by decide) (by decide)⟩
  · show Steps p.tables e below (T2.setTop (mkF m 4 #[.val (.ref a1)] [(.int w3)])) _
    exact retI X2 hx Bd.returns (hb hby d10_4) hr
  · show Q10 Z a1 w3 h0 n0 _ T2.heap _
    rw [eh2]
    exact ⟨rfl, N0, rfl⟩
theorem ef_9 (m : MethodId) (p1 : Int32) (p2 : Int32) (p3 : Int32) (p4 : Int32) (p5 : Int32) : entryFrame m #[(.int p1), (.int p2), (.int p3), (.int p4), (.int p5)] 5 = mkF m 0 #[.val (.int p1), .val (.int p2), .val (.int p3), .val (.int p4), .val (.int p5)] [] := by first | (simp [entryFrame, mkF, argsToLocals, Value.category]; done) | rfl
theorem pn_com_example_precis_precis_iso2709_CharsCharAtPinLaw : plainName "com/example/precis/precis/iso2709/CharsCharAtPinLaw" = true := by first | (simp [plainName, overriddenIn]; done) | decide +kernel
theorem d9_0 : decode method_2_code 0 = .ok (.iload 4, 2) := by decide +kernel
theorem d9_2 : decode method_2_code 2 = .ok (.ifCond .ne 6, 3) := by decide +kernel
theorem d9_5 : decode method_2_code 5 = .ok (.iload_n 0, 1) := by decide +kernel
theorem d9_6 : decode method_2_code 6 = .ok (.i2c, 1) := by decide +kernel
theorem d9_7 : decode method_2_code 7 = .ok (.ireturn, 1) := by decide +kernel
theorem d9_8 : decode method_2_code 8 = .ok (.iload 4, 2) := by decide +kernel
theorem d9_10 : decode method_2_code 10 = .ok (.iconst 1, 1) := by decide +kernel
theorem d9_11 : decode method_2_code 11 = .ok (.if_icmp .ne 6, 3) := by decide +kernel
theorem d9_14 : decode method_2_code 14 = .ok (.iload_n 1, 1) := by decide +kernel
theorem d9_15 : decode method_2_code 15 = .ok (.i2c, 1) := by decide +kernel
theorem d9_16 : decode method_2_code 16 = .ok (.ireturn, 1) := by decide +kernel
theorem d9_17 : decode method_2_code 17 = .ok (.iload 4, 2) := by decide +kernel
theorem d9_19 : decode method_2_code 19 = .ok (.iconst 2, 1) := by decide +kernel
theorem d9_20 : decode method_2_code 20 = .ok (.if_icmp .ne 6, 3) := by decide +kernel
theorem d9_23 : decode method_2_code 23 = .ok (.iload_n 2, 1) := by decide +kernel
theorem d9_24 : decode method_2_code 24 = .ok (.i2c, 1) := by decide +kernel
theorem d9_25 : decode method_2_code 25 = .ok (.ireturn, 1) := by decide +kernel
theorem d9_26 : decode method_2_code 26 = .ok (.iload_n 3, 1) := by decide +kernel
theorem d9_27 : decode method_2_code 27 = .ok (.i2c, 1) := by decide +kernel
theorem d9_28 : decode method_2_code 28 = .ok (.ireturn, 1) := by decide +kernel
def Q9 (Z : State) (p1 : Int32) (p2 : Int32) (p3 : Int32) (p4 : Int32) (p5 : Int32) (h0 : Heap) (n0 : Nat) (v : Option Value) (h : Heap) (L : List Loc) : Prop := v = some (.int (own_pick p1 p2 p3 p4 p5)) ∧ Fr n0 L ∧ h = h0
set_option maxRecDepth 65536 in
set_option maxHeartbeats 40000000 in
theorem rm9 (l : Launch) (Z : State) (a0 : Array Value) (hw : ∀ d ∈ tables_1, d.before a0 Z = true) (ws : List Jvm.Cond) (p1 : Int32) (p2 : Int32) (p3 : Int32) (p4 : Int32) (p5 : Int32) (h0 : Heap) (n0 : Nat) (Z0 : n0 ≤ h0.size) :
    MetFree l (⟨"com/example/precis/precis/iso2709/CharsCharAtPinLaw", "pick", "(IIIII)C"⟩ : MethodName) (head1 (Jvm.Cond.code (⟨"com/example/precis/precis/iso2709/CharsCharAtPinLaw", "pick", "(IIIII)C"⟩ : MethodName) method_2_code 5 (some .char) :: ws) ({ frames := 0, cells := 0, slots := 0, locals := 0 } : Room)) (fun a U => a = #[(.int p1), (.int p2), (.int p3), (.int p4), (.int p5)] ∧ Z.Warmed39 U.vm ∧ U.heap = h0) (fun _ _ _ _ _ => True) (fun _ U o U' => ∃ v L, o = .returned v ∧ Q9 Z p1 p2 p3 p4 p5 h0 n0 v U'.heap L ∧ FrameEnd U o U' L ({ frames := 0, cells := 0, slots := 0, locals := 0 } : Room).cells ({ frames := 0, cells := 0, slots := 0, locals := 0 } : Room).slots) := by
  refine MetFree.of_bodySF (plainFor_of_name pn_com_example_precis_precis_iso2709_CharsCharAtPinLaw) hisR ?_
  intro p e s m args below meth c s₁ Bd hml0 hP hK
  obtain ⟨rfl, hZ, hh⟩ := hP
  have hx := Bd.exec
  have hby := Bd.bytes
  have hml : c.maxLocals = 5 := hml0
  have hown : s.vm.findClass "com/example/precis/precis/iso2709/CharsCharAtPinLaw" = some m.cls := findClass_of_methodNamed Bd.named
  have hnm := (name_of_methodNamed Bd.named Bd.method).1
  have X0 : Stand p l e ({ frames := 0, cells := 0, slots := 0, locals := 0 } : Room) s m #[(.int p1), (.int p2), (.int p3), (.int p4), (.int p5)] below meth c s₁ [] 0 0 := Stand.of_body Bd
  have eh0 : s₁.heap = h0 := by rw [← hh, Bd.state]; rfl
  have N0 := Fr.nil n0
  have pre0 : ∀ t, Steps p.tables e below (s₁.setTop (mkF m 0 #[.val (.int p1), .val (.int p2), .val (.int p3), .val (.int p4), .val (.int p5)] [])) t → Steps p.tables e below (s₁.setTop (entryFrame m #[(.int p1), (.int p2), (.int p3), (.int p4), (.int p5)] 5)) t := fun t k => castTop (ef_9 m p1 p2 p3 p4 p5) k
  have pre2 : ∀ t, Steps p.tables e below (s₁.setTop (mkF m 2 #[.val (.int p1), .val (.int p2), .val (.int p3), .val (.int p4), .val (.int p5)] [(.int p5)])) t → Steps p.tables e below (s₁.setTop (entryFrame m #[(.int p1), (.int p2), (.int p3), (.int p4), (.int p5)] 5)) t := fun t k => pre0 t (by
    show Steps p.tables e below (s₁.setTop (mkF m 0 #[.val (.int p1), .val (.int p2), .val (.int p3), .val (.int p4), .val (.int p5)] [])) t
    refine XS.iload X0.here hx rfl (hb hby d9_0) rfl ?_
    show Steps p.tables e below (s₁.setTop (mkF m 2 #[.val (.int p1), .val (.int p2), .val (.int p3), .val (.int p4), .val (.int p5)] [(.int p5)])) t
    exact k)
  by_cases hc2_1 : p5 = (0 : Int32)
  · skip
    have pre3 : ∀ t, Steps p.tables e below (s₁.setTop (mkF m 7 #[.val (.int p1), .val (.int p2), .val (.int p3), .val (.int p4), .val (.int p5)] [(.int p1.toUInt32.toUInt16.toUInt32.toInt32)])) t → Steps p.tables e below (s₁.setTop (entryFrame m #[(.int p1), (.int p2), (.int p3), (.int p4), (.int p5)] 5)) t := fun t k => pre2 t (by
      show Steps p.tables e below (s₁.setTop (mkF m 2 #[.val (.int p1), .val (.int p2), .val (.int p3), .val (.int p4), .val (.int p5)] [(.int p5)])) t
      refine XS.ifNo X0.here hx rfl (hb hby d9_2) rfl (XT.i0_ne_f hc2_1) ?_
      show Steps p.tables e below (s₁.setTop (mkF m 5 #[.val (.int p1), .val (.int p2), .val (.int p3), .val (.int p4), .val (.int p5)] [])) t
      refine XS.iloadN X0.here hx rfl (hb hby d9_5) rfl ?_
      show Steps p.tables e below (s₁.setTop (mkF m 6 #[.val (.int p1), .val (.int p2), .val (.int p3), .val (.int p4), .val (.int p5)] [(.int p1)])) t
      refine XT.i2c X0.here hx rfl (hb hby d9_6) rfl ?_
      show Steps p.tables e below (s₁.setTop (mkF m 7 #[.val (.int p1), .val (.int p2), .val (.int p3), .val (.int p4), .val (.int p5)] [(.int p1.toUInt32.toUInt16.toUInt32.toInt32)])) t
      exact k)
    obtain ⟨fs, hr, hrun, hended, hW, hsame⟩ := X0.leave (v := some (.int (nar .char p1.toUInt32.toUInt16.toUInt32.toInt32))) (fun h => by rw [Bd.returns] at h; cases h)
    refine ⟨_, _, pre3 _ ?_, hrun, hended, _, _, rfl, ?_, ⟨_, rfl⟩, hW, hsame.mono (by decide) (by decide)⟩
    · show Steps p.tables e below (s₁.setTop (mkF m 7 #[.val (.int p1), .val (.int p2), .val (.int p3), .val (.int p4), .val (.int p5)] [(.int p1.toUInt32.toUInt16.toUInt32.toInt32)])) _
      exact retN X0 hx (t := .char) Bd.returns (by simp) (hb hby d9_7) hr
    · show Q9 Z p1 p2 p3 p4 p5 h0 n0 _ s₁.heap _
      rw [eh0]
      exact ⟨(congrArg (fun z => some (Value.int z)) (show (nar .char p1.toUInt32.toUInt16.toUInt32.toInt32) = (own_pick p1 p2 p3 p4 p5) from (by simp only [own_pick, if_pos hc2_1]))), N0, rfl⟩
  · skip
    have pre5 : ∀ t, Steps p.tables e below (s₁.setTop (mkF m 11 #[.val (.int p1), .val (.int p2), .val (.int p3), .val (.int p4), .val (.int p5)] [(.int (1 : Int32)), (.int p5)])) t → Steps p.tables e below (s₁.setTop (entryFrame m #[(.int p1), (.int p2), (.int p3), (.int p4), (.int p5)] 5)) t := fun t k => pre2 t (by
      show Steps p.tables e below (s₁.setTop (mkF m 2 #[.val (.int p1), .val (.int p2), .val (.int p3), .val (.int p4), .val (.int p5)] [(.int p5)])) t
      refine XS.ifYes X0.here hx rfl (pc0 := 2) (pc' := 8) rfl (hb hby d9_2) rfl (XT.i0_ne_t hc2_1) (by decide) (by decide) ?_
      show Steps p.tables e below (s₁.setTop (mkF m 8 #[.val (.int p1), .val (.int p2), .val (.int p3), .val (.int p4), .val (.int p5)] [])) t
      refine XS.iload X0.here hx rfl (hb hby d9_8) rfl ?_
      show Steps p.tables e below (s₁.setTop (mkF m 10 #[.val (.int p1), .val (.int p2), .val (.int p3), .val (.int p4), .val (.int p5)] [(.int p5)])) t
      refine XS.iconst X0.here hx rfl (hb hby d9_10) ?_
      show Steps p.tables e below (s₁.setTop (mkF m 11 #[.val (.int p1), .val (.int p2), .val (.int p3), .val (.int p4), .val (.int p5)] [(.int (1 : Int32)), (.int p5)])) t
      exact k)
    by_cases hc11_4 : p5 = (1 : Int32)
    · skip
      have pre6 : ∀ t, Steps p.tables e below (s₁.setTop (mkF m 16 #[.val (.int p1), .val (.int p2), .val (.int p3), .val (.int p4), .val (.int p5)] [(.int p2.toUInt32.toUInt16.toUInt32.toInt32)])) t → Steps p.tables e below (s₁.setTop (entryFrame m #[(.int p1), (.int p2), (.int p3), (.int p4), (.int p5)] 5)) t := fun t k => pre5 t (by
        show Steps p.tables e below (s₁.setTop (mkF m 11 #[.val (.int p1), .val (.int p2), .val (.int p3), .val (.int p4), .val (.int p5)] [(.int (1 : Int32)), (.int p5)])) t
        refine XS.icmpNo X0.here hx rfl (hb hby d9_11) rfl (XT.ii_ne_f hc11_4) ?_
        show Steps p.tables e below (s₁.setTop (mkF m 14 #[.val (.int p1), .val (.int p2), .val (.int p3), .val (.int p4), .val (.int p5)] [])) t
        refine XS.iloadN X0.here hx rfl (hb hby d9_14) rfl ?_
        show Steps p.tables e below (s₁.setTop (mkF m 15 #[.val (.int p1), .val (.int p2), .val (.int p3), .val (.int p4), .val (.int p5)] [(.int p2)])) t
        refine XT.i2c X0.here hx rfl (hb hby d9_15) rfl ?_
        show Steps p.tables e below (s₁.setTop (mkF m 16 #[.val (.int p1), .val (.int p2), .val (.int p3), .val (.int p4), .val (.int p5)] [(.int p2.toUInt32.toUInt16.toUInt32.toInt32)])) t
        exact k)
      obtain ⟨fs, hr, hrun, hended, hW, hsame⟩ := X0.leave (v := some (.int (nar .char p2.toUInt32.toUInt16.toUInt32.toInt32))) (fun h => by rw [Bd.returns] at h; cases h)
      refine ⟨_, _, pre6 _ ?_, hrun, hended, _, _, rfl, ?_, ⟨_, rfl⟩, hW, hsame.mono (by decide) (by decide)⟩
      · show Steps p.tables e below (s₁.setTop (mkF m 16 #[.val (.int p1), .val (.int p2), .val (.int p3), .val (.int p4), .val (.int p5)] [(.int p2.toUInt32.toUInt16.toUInt32.toInt32)])) _
        exact retN X0 hx (t := .char) Bd.returns (by simp) (hb hby d9_16) hr
      · show Q9 Z p1 p2 p3 p4 p5 h0 n0 _ s₁.heap _
        rw [eh0]
        exact ⟨(congrArg (fun z => some (Value.int z)) (show (nar .char p2.toUInt32.toUInt16.toUInt32.toInt32) = (own_pick p1 p2 p3 p4 p5) from (by simp only [own_pick, if_neg hc2_1, if_pos hc11_4]))), N0, rfl⟩
    · skip
      have pre8 : ∀ t, Steps p.tables e below (s₁.setTop (mkF m 20 #[.val (.int p1), .val (.int p2), .val (.int p3), .val (.int p4), .val (.int p5)] [(.int (2 : Int32)), (.int p5)])) t → Steps p.tables e below (s₁.setTop (entryFrame m #[(.int p1), (.int p2), (.int p3), (.int p4), (.int p5)] 5)) t := fun t k => pre5 t (by
        show Steps p.tables e below (s₁.setTop (mkF m 11 #[.val (.int p1), .val (.int p2), .val (.int p3), .val (.int p4), .val (.int p5)] [(.int (1 : Int32)), (.int p5)])) t
        refine XS.icmpYes X0.here hx rfl (pc0 := 11) (pc' := 17) rfl (hb hby d9_11) rfl (XT.ii_ne_t hc11_4) (by decide) (by decide) ?_
        show Steps p.tables e below (s₁.setTop (mkF m 17 #[.val (.int p1), .val (.int p2), .val (.int p3), .val (.int p4), .val (.int p5)] [])) t
        refine XS.iload X0.here hx rfl (hb hby d9_17) rfl ?_
        show Steps p.tables e below (s₁.setTop (mkF m 19 #[.val (.int p1), .val (.int p2), .val (.int p3), .val (.int p4), .val (.int p5)] [(.int p5)])) t
        refine XS.iconst X0.here hx rfl (hb hby d9_19) ?_
        show Steps p.tables e below (s₁.setTop (mkF m 20 #[.val (.int p1), .val (.int p2), .val (.int p3), .val (.int p4), .val (.int p5)] [(.int (2 : Int32)), (.int p5)])) t
        exact k)
      by_cases hc20_7 : p5 = (2 : Int32)
      · skip
        have pre9 : ∀ t, Steps p.tables e below (s₁.setTop (mkF m 25 #[.val (.int p1), .val (.int p2), .val (.int p3), .val (.int p4), .val (.int p5)] [(.int p3.toUInt32.toUInt16.toUInt32.toInt32)])) t → Steps p.tables e below (s₁.setTop (entryFrame m #[(.int p1), (.int p2), (.int p3), (.int p4), (.int p5)] 5)) t := fun t k => pre8 t (by
          show Steps p.tables e below (s₁.setTop (mkF m 20 #[.val (.int p1), .val (.int p2), .val (.int p3), .val (.int p4), .val (.int p5)] [(.int (2 : Int32)), (.int p5)])) t
          refine XS.icmpNo X0.here hx rfl (hb hby d9_20) rfl (XT.ii_ne_f hc20_7) ?_
          show Steps p.tables e below (s₁.setTop (mkF m 23 #[.val (.int p1), .val (.int p2), .val (.int p3), .val (.int p4), .val (.int p5)] [])) t
          refine XS.iloadN X0.here hx rfl (hb hby d9_23) rfl ?_
          show Steps p.tables e below (s₁.setTop (mkF m 24 #[.val (.int p1), .val (.int p2), .val (.int p3), .val (.int p4), .val (.int p5)] [(.int p3)])) t
          refine XT.i2c X0.here hx rfl (hb hby d9_24) rfl ?_
          show Steps p.tables e below (s₁.setTop (mkF m 25 #[.val (.int p1), .val (.int p2), .val (.int p3), .val (.int p4), .val (.int p5)] [(.int p3.toUInt32.toUInt16.toUInt32.toInt32)])) t
          exact k)
        obtain ⟨fs, hr, hrun, hended, hW, hsame⟩ := X0.leave (v := some (.int (nar .char p3.toUInt32.toUInt16.toUInt32.toInt32))) (fun h => by rw [Bd.returns] at h; cases h)
        refine ⟨_, _, pre9 _ ?_, hrun, hended, _, _, rfl, ?_, ⟨_, rfl⟩, hW, hsame.mono (by decide) (by decide)⟩
        · show Steps p.tables e below (s₁.setTop (mkF m 25 #[.val (.int p1), .val (.int p2), .val (.int p3), .val (.int p4), .val (.int p5)] [(.int p3.toUInt32.toUInt16.toUInt32.toInt32)])) _
          exact retN X0 hx (t := .char) Bd.returns (by simp) (hb hby d9_25) hr
        · show Q9 Z p1 p2 p3 p4 p5 h0 n0 _ s₁.heap _
          rw [eh0]
          exact ⟨(congrArg (fun z => some (Value.int z)) (show (nar .char p3.toUInt32.toUInt16.toUInt32.toInt32) = (own_pick p1 p2 p3 p4 p5) from (by simp only [own_pick, if_neg hc2_1, if_neg hc11_4, if_pos hc20_7]))), N0, rfl⟩
      · skip
        have pre10 : ∀ t, Steps p.tables e below (s₁.setTop (mkF m 28 #[.val (.int p1), .val (.int p2), .val (.int p3), .val (.int p4), .val (.int p5)] [(.int p4.toUInt32.toUInt16.toUInt32.toInt32)])) t → Steps p.tables e below (s₁.setTop (entryFrame m #[(.int p1), (.int p2), (.int p3), (.int p4), (.int p5)] 5)) t := fun t k => pre8 t (by
          show Steps p.tables e below (s₁.setTop (mkF m 20 #[.val (.int p1), .val (.int p2), .val (.int p3), .val (.int p4), .val (.int p5)] [(.int (2 : Int32)), (.int p5)])) t
          refine XS.icmpYes X0.here hx rfl (pc0 := 20) (pc' := 26) rfl (hb hby d9_20) rfl (XT.ii_ne_t hc20_7) (by decide) (by decide) ?_
          show Steps p.tables e below (s₁.setTop (mkF m 26 #[.val (.int p1), .val (.int p2), .val (.int p3), .val (.int p4), .val (.int p5)] [])) t
          refine XS.iloadN X0.here hx rfl (hb hby d9_26) rfl ?_
          show Steps p.tables e below (s₁.setTop (mkF m 27 #[.val (.int p1), .val (.int p2), .val (.int p3), .val (.int p4), .val (.int p5)] [(.int p4)])) t
          refine XT.i2c X0.here hx rfl (hb hby d9_27) rfl ?_
          show Steps p.tables e below (s₁.setTop (mkF m 28 #[.val (.int p1), .val (.int p2), .val (.int p3), .val (.int p4), .val (.int p5)] [(.int p4.toUInt32.toUInt16.toUInt32.toInt32)])) t
          exact k)
        obtain ⟨fs, hr, hrun, hended, hW, hsame⟩ := X0.leave (v := some (.int (nar .char p4.toUInt32.toUInt16.toUInt32.toInt32))) (fun h => by rw [Bd.returns] at h; cases h)
        refine ⟨_, _, pre10 _ ?_, hrun, hended, _, _, rfl, ?_, ⟨_, rfl⟩, hW, hsame.mono (by decide) (by decide)⟩
        · show Steps p.tables e below (s₁.setTop (mkF m 28 #[.val (.int p1), .val (.int p2), .val (.int p3), .val (.int p4), .val (.int p5)] [(.int p4.toUInt32.toUInt16.toUInt32.toInt32)])) _
          exact retN X0 hx (t := .char) Bd.returns (by simp) (hb hby d9_28) hr
        · show Q9 Z p1 p2 p3 p4 p5 h0 n0 _ s₁.heap _
          rw [eh0]
          exact ⟨(congrArg (fun z => some (Value.int z)) (show (nar .char p4.toUInt32.toUInt16.toUInt32.toInt32) = (own_pick p1 p2 p3 p4 p5) from (by simp only [own_pick, if_neg hc2_1, if_neg hc11_4, if_neg hc20_7]))), N0, rfl⟩
theorem ef_0 (m : MethodId) (p1 : Int32) (p2 : Int32) (p3 : Int32) (p4 : Int32) (p5 : Int32) (p6 : Int32) : entryFrame m #[(.int p1), (.int p2), (.int p3), (.int p4), (.int p5), (.int p6)] maxLocals = mkF m 0 #[.val (.int p1), .val (.int p2), .val (.int p3), .val (.int p4), .val (.int p5), .val (.int p6), .unset, .unset, .unset, .unset, .unset, .unset, .unset, .unset, .unset, .unset] [] := by first | (simp [entryFrame, mkF, argsToLocals, Value.category, maxLocals]; done) | rfl
theorem pd_oaCIIcV : parseMethodDescriptor "([CII)V" = some ⟨[(.array .char), .int, .int], none⟩ := by decide +kernel
theorem pd_oIcC : parseMethodDescriptor "(I)C" = some ⟨[.int], some .char⟩ := by decide +kernel
theorem pd_oIIIIIcC : parseMethodDescriptor "(IIIII)C" = some ⟨[.int, .int, .int, .int, .int], some .char⟩ := by decide +kernel
theorem pd_ocI : parseMethodDescriptor "()I" = some ⟨[], some .int⟩ := by decide +kernel
def Q0 (Z : State) (p1 : Int32) (p2 : Int32) (p3 : Int32) (p4 : Int32) (p5 : Int32) (p6 : Int32) (h0 : Heap) (n0 : Nat) (v : Option Value) (h : Heap) (L : List Loc) : Prop := v = some (.int (1 : Int32)) ∧ Fr n0 L
set_option maxRecDepth 65536 in
set_option maxHeartbeats 40000000 in
theorem rm0 (l : Launch) (Z : State) (a0 : Array Value) (hw : ∀ d ∈ tables_1, d.before a0 Z = true) (ws : List Jvm.Cond) (p1 : Int32) (p2 : Int32) (p3 : Int32) (p4 : Int32) (p5 : Int32) (p6 : Int32) (h0 : Heap) (n0 : Nat) (Z0 : n0 ≤ h0.size) :
    MetFree l x (head1 (Jvm.Cond.code x code maxLocals ret :: ws) room_1) (fun a U => a = #[(.int p1), (.int p2), (.int p3), (.int p4), (.int p5), (.int p6)] ∧ Z.Warmed39 U.vm ∧ U.heap = h0) (fun _ _ _ _ _ => True) (fun _ U o U' => ∃ v L, o = .returned v ∧ Q0 Z p1 p2 p3 p4 p5 p6 h0 n0 v U'.heap L ∧ FrameEnd U o U' L room_1.cells room_1.slots) := by
  refine MetFree.of_bodySF (plainFor_of_name pn_com_example_precis_precis_iso2709_CharsCharAtPinLaw) hisR ?_
  intro p e s m args below meth c s₁ Bd hml0 hP hK
  obtain ⟨rfl, hZ, hh⟩ := hP
  have hx := Bd.exec
  have hby := Bd.bytes
  have hml : c.maxLocals = 16 := hml0
  have hown : s.vm.findClass "com/example/precis/precis/iso2709/CharsCharAtPinLaw" = some m.cls := findClass_of_methodNamed Bd.named
  have hnm := (name_of_methodNamed Bd.named Bd.method).1
  have X0 : Stand p l e room_1 s m #[(.int p1), (.int p2), (.int p3), (.int p4), (.int p5), (.int p6)] below meth c s₁ [] 0 0 := Stand.of_body Bd
  have eh0 : s₁.heap = h0 := by rw [← hh, Bd.state]; rfl
  have N0 := Fr.nil n0
  have pre0 : ∀ t, Steps p.tables e below (s₁.setTop (mkF m 0 #[.val (.int p1), .val (.int p2), .val (.int p3), .val (.int p4), .val (.int p5), .val (.int p6), .unset, .unset, .unset, .unset, .unset, .unset, .unset, .unset, .unset, .unset] [])) t → Steps p.tables e below (s₁.setTop (entryFrame m #[(.int p1), (.int p2), (.int p3), (.int p4), (.int p5), (.int p6)] maxLocals)) t := fun t k => castTop (ef_0 m p1 p2 p3 p4 p5 p6) k
  have pre1 : ∀ t, Steps p.tables e below (s₁.setTop (mkF m 1 #[.val (.int p1), .val (.int p2), .val (.int p3), .val (.int p4), .val (.int p5), .val (.int p6), .unset, .unset, .unset, .unset, .unset, .unset, .unset, .unset, .unset, .unset] [(.int (4 : Int32))])) t → Steps p.tables e below (s₁.setTop (entryFrame m #[(.int p1), (.int p2), (.int p3), (.int p4), (.int p5), (.int p6)] maxLocals)) t := fun t k => pre0 t (by
    show Steps p.tables e below (s₁.setTop (mkF m 0 #[.val (.int p1), .val (.int p2), .val (.int p3), .val (.int p4), .val (.int p5), .val (.int p6), .unset, .unset, .unset, .unset, .unset, .unset, .unset, .unset, .unset, .unset] [])) t
    refine XS.iconst X0.here hx rfl (hb hby at_0) ?_
    show Steps p.tables e below (s₁.setTop (mkF m 1 #[.val (.int p1), .val (.int p2), .val (.int p3), .val (.int p4), .val (.int p5), .val (.int p6), .unset, .unset, .unset, .unset, .unset, .unset, .unset, .unset, .unset, .unset] [(.int (4 : Int32))])) t
    exact k)
  obtain ⟨T2, h2, k2, X2, eh2, E2, A2, st2⟩ := newP X0 hx hZ (hw _ (List.mem_of_getElem? (i := 0) rfl)) eh0 (g := (mkF m 1 #[.val (.int p1), .val (.int p2), .val (.int p3), .val (.int p4), .val (.int p5), .val (.int p6), .unset, .unset, .unset, .unset, .unset, .unset, .unset, .unset, .unset, .unset] [(.int (4 : Int32))])) rfl (hb hby at_1) rfl (by decide) (cap := 4) (by decide) (by decide) (by decide) (by decide)
  obtain ⟨b2, gg2⟩ : ∃ z, z = h0.size := ⟨_, rfl⟩
  rw [← gg2] at A2 st2
  have sz2 : n0 ≤ h2.size := Nat.le_trans Z0 E2.1
  have g_b2 : n0 ≤ b2 := Nat.le_trans Z0 (Nat.le_of_eq gg2.symm)
  have V_b2 : Arv Z h2 b2 k2 .char (4 : Int32) [(.int (0 : Int32)), (.int (0 : Int32)), (.int (0 : Int32)), (.int (0 : Int32))] (.int (0 : Int32)) := (Arv.new A2 (by decide)).pad (pad_rep [] (.int (0 : Int32)) 4)
  have pre3 : ∀ t, Steps p.tables e below (T2.setTop (mkF m 3 #[.val (.int p1), .val (.int p2), .val (.int p3), .val (.int p4), .val (.int p5), .val (.int p6), .unset, .unset, .unset, .unset, .unset, .unset, .unset, .unset, .unset, .unset] [(.ref b2)])) t → Steps p.tables e below (s₁.setTop (entryFrame m #[(.int p1), (.int p2), (.int p3), (.int p4), (.int p5), (.int p6)] maxLocals)) t := fun t k => pre1 t (st2 _ k)
  have pre4 : ∀ t, Steps p.tables e below (T2.setTop (mkF m 10 #[.val (.int p1), .val (.int p2), .val (.int p3), .val (.int p4), .val (.int p5), .val (.int p6), .val (.ref b2), .unset, .unset, .unset, .unset, .unset, .unset, .unset, .unset, .unset] [(.int p1.toUInt32.toUInt16.toUInt32.toInt32), (.int (0 : Int32)), (.ref b2)])) t → Steps p.tables e below (s₁.setTop (entryFrame m #[(.int p1), (.int p2), (.int p3), (.int p4), (.int p5), (.int p6)] maxLocals)) t := fun t k => pre3 t (by
    show Steps p.tables e below (T2.setTop (mkF m 3 #[.val (.int p1), .val (.int p2), .val (.int p3), .val (.int p4), .val (.int p5), .val (.int p6), .unset, .unset, .unset, .unset, .unset, .unset, .unset, .unset, .unset, .unset] [(.ref b2)])) t
    refine XS.astore X2.here hx rfl (hb hby at_3) rfl rfl (l' := #[.val (.int p1), .val (.int p2), .val (.int p3), .val (.int p4), .val (.int p5), .val (.int p6), .val (.ref b2), .unset, .unset, .unset, .unset, .unset, .unset, .unset, .unset, .unset]) rfl ?_
    show Steps p.tables e below (T2.setTop (mkF m 5 #[.val (.int p1), .val (.int p2), .val (.int p3), .val (.int p4), .val (.int p5), .val (.int p6), .val (.ref b2), .unset, .unset, .unset, .unset, .unset, .unset, .unset, .unset, .unset] [])) t
    refine XS.aload X2.here hx rfl (hb hby at_5) rfl rfl ?_
    show Steps p.tables e below (T2.setTop (mkF m 7 #[.val (.int p1), .val (.int p2), .val (.int p3), .val (.int p4), .val (.int p5), .val (.int p6), .val (.ref b2), .unset, .unset, .unset, .unset, .unset, .unset, .unset, .unset, .unset] [(.ref b2)])) t
    refine XS.iconst X2.here hx rfl (hb hby at_7) ?_
    show Steps p.tables e below (T2.setTop (mkF m 8 #[.val (.int p1), .val (.int p2), .val (.int p3), .val (.int p4), .val (.int p5), .val (.int p6), .val (.ref b2), .unset, .unset, .unset, .unset, .unset, .unset, .unset, .unset, .unset] [(.int (0 : Int32)), (.ref b2)])) t
    refine XS.iloadN X2.here hx rfl (hb hby at_8) rfl ?_
    show Steps p.tables e below (T2.setTop (mkF m 9 #[.val (.int p1), .val (.int p2), .val (.int p3), .val (.int p4), .val (.int p5), .val (.int p6), .val (.ref b2), .unset, .unset, .unset, .unset, .unset, .unset, .unset, .unset, .unset] [(.int p1), (.int (0 : Int32)), (.ref b2)])) t
    refine XT.i2c X2.here hx rfl (hb hby at_9) rfl ?_
    show Steps p.tables e below (T2.setTop (mkF m 10 #[.val (.int p1), .val (.int p2), .val (.int p3), .val (.int p4), .val (.int p5), .val (.int p6), .val (.ref b2), .unset, .unset, .unset, .unset, .unset, .unset, .unset, .unset, .unset] [(.int p1.toUInt32.toUInt16.toUInt32.toInt32), (.int (0 : Int32)), (.ref b2)])) t
    exact k)
  obtain ⟨cl5, Ar5, q5, S5, N5q, H5, G5⟩ := V_b2
  have hin5 : ¬ ((0 : Int32) < 0 ∨ cl5.slots.size ≤ ((0 : Int32)).toNatClampNeg) := inb_of S5 ⟨by decide, by decide⟩
  obtain ⟨T5, h5, X5, eh5, W5, st5⟩ := stC X2 hx hZ eh2 Ar5 (j := (0 : Int32)) hin5 (g := (mkF m 10 #[.val (.int p1), .val (.int p2), .val (.int p3), .val (.int p4), .val (.int p5), .val (.int p6), .val (.ref b2), .unset, .unset, .unset, .unset, .unset, .unset, .unset, .unset, .unset] [(.int p1.toUInt32.toUInt16.toUInt32.toInt32), (.int (0 : Int32)), (.ref b2)])) rfl rfl (hb hby at_10)
  have sz5 : n0 ≤ h5.size := Nat.le_trans sz2 (Keep.of_wr W5).1
  have N5 := Fr.snoc X5 N0 g_b2
  have V_b2__5 : Arv Z h5 b2 k2 .char (4 : Int32) [(.int (nar .char p1.toUInt32.toUInt16.toUInt32.toInt32)), (.int (0 : Int32)), (.int (0 : Int32)), (.int (0 : Int32))] (.int (0 : Int32)) := Arv.set Ar5 q5 S5 N5q H5 G5 (fits_nar_char _) W5 0 rfl (Nat.le_of_ble_eq_true rfl)
  have pre6 : ∀ t, Steps p.tables e below (T5.setTop (mkF m 11 #[.val (.int p1), .val (.int p2), .val (.int p3), .val (.int p4), .val (.int p5), .val (.int p6), .val (.ref b2), .unset, .unset, .unset, .unset, .unset, .unset, .unset, .unset, .unset] [])) t → Steps p.tables e below (s₁.setTop (entryFrame m #[(.int p1), (.int p2), (.int p3), (.int p4), (.int p5), (.int p6)] maxLocals)) t := fun t k => pre4 t (st5 _ k)
  have pre7 : ∀ t, Steps p.tables e below (T5.setTop (mkF m 16 #[.val (.int p1), .val (.int p2), .val (.int p3), .val (.int p4), .val (.int p5), .val (.int p6), .val (.ref b2), .unset, .unset, .unset, .unset, .unset, .unset, .unset, .unset, .unset] [(.int p2.toUInt32.toUInt16.toUInt32.toInt32), (.int (1 : Int32)), (.ref b2)])) t → Steps p.tables e below (s₁.setTop (entryFrame m #[(.int p1), (.int p2), (.int p3), (.int p4), (.int p5), (.int p6)] maxLocals)) t := fun t k => pre6 t (by
    show Steps p.tables e below (T5.setTop (mkF m 11 #[.val (.int p1), .val (.int p2), .val (.int p3), .val (.int p4), .val (.int p5), .val (.int p6), .val (.ref b2), .unset, .unset, .unset, .unset, .unset, .unset, .unset, .unset, .unset] [])) t
    refine XS.aload X5.here hx rfl (hb hby at_11) rfl rfl ?_
    show Steps p.tables e below (T5.setTop (mkF m 13 #[.val (.int p1), .val (.int p2), .val (.int p3), .val (.int p4), .val (.int p5), .val (.int p6), .val (.ref b2), .unset, .unset, .unset, .unset, .unset, .unset, .unset, .unset, .unset] [(.ref b2)])) t
    refine XS.iconst X5.here hx rfl (hb hby at_13) ?_
    show Steps p.tables e below (T5.setTop (mkF m 14 #[.val (.int p1), .val (.int p2), .val (.int p3), .val (.int p4), .val (.int p5), .val (.int p6), .val (.ref b2), .unset, .unset, .unset, .unset, .unset, .unset, .unset, .unset, .unset] [(.int (1 : Int32)), (.ref b2)])) t
    refine XS.iloadN X5.here hx rfl (hb hby at_14) rfl ?_
    show Steps p.tables e below (T5.setTop (mkF m 15 #[.val (.int p1), .val (.int p2), .val (.int p3), .val (.int p4), .val (.int p5), .val (.int p6), .val (.ref b2), .unset, .unset, .unset, .unset, .unset, .unset, .unset, .unset, .unset] [(.int p2), (.int (1 : Int32)), (.ref b2)])) t
    refine XT.i2c X5.here hx rfl (hb hby at_15) rfl ?_
    show Steps p.tables e below (T5.setTop (mkF m 16 #[.val (.int p1), .val (.int p2), .val (.int p3), .val (.int p4), .val (.int p5), .val (.int p6), .val (.ref b2), .unset, .unset, .unset, .unset, .unset, .unset, .unset, .unset, .unset] [(.int p2.toUInt32.toUInt16.toUInt32.toInt32), (.int (1 : Int32)), (.ref b2)])) t
    exact k)
  obtain ⟨cl8, Ar8, q8, S8, N8q, H8, G8⟩ := V_b2__5
  have hin8 : ¬ ((1 : Int32) < 0 ∨ cl8.slots.size ≤ ((1 : Int32)).toNatClampNeg) := inb_of S8 ⟨by decide, by decide⟩
  obtain ⟨T8, h8, X8, eh8, W8, st8⟩ := stC X5 hx hZ eh5 Ar8 (j := (1 : Int32)) hin8 (g := (mkF m 16 #[.val (.int p1), .val (.int p2), .val (.int p3), .val (.int p4), .val (.int p5), .val (.int p6), .val (.ref b2), .unset, .unset, .unset, .unset, .unset, .unset, .unset, .unset, .unset] [(.int p2.toUInt32.toUInt16.toUInt32.toInt32), (.int (1 : Int32)), (.ref b2)])) rfl rfl (hb hby at_16)
  have sz8 : n0 ≤ h8.size := Nat.le_trans sz5 (Keep.of_wr W8).1
  have N8 := Fr.snoc X8 N5 g_b2
  have V_b2__8 : Arv Z h8 b2 k2 .char (4 : Int32) [(.int (nar .char p1.toUInt32.toUInt16.toUInt32.toInt32)), (.int (nar .char p2.toUInt32.toUInt16.toUInt32.toInt32)), (.int (0 : Int32)), (.int (0 : Int32))] (.int (0 : Int32)) := Arv.set Ar8 q8 S8 N8q H8 G8 (fits_nar_char _) W8 1 rfl (Nat.le_of_ble_eq_true rfl)
  have pre9 : ∀ t, Steps p.tables e below (T8.setTop (mkF m 17 #[.val (.int p1), .val (.int p2), .val (.int p3), .val (.int p4), .val (.int p5), .val (.int p6), .val (.ref b2), .unset, .unset, .unset, .unset, .unset, .unset, .unset, .unset, .unset] [])) t → Steps p.tables e below (s₁.setTop (entryFrame m #[(.int p1), (.int p2), (.int p3), (.int p4), (.int p5), (.int p6)] maxLocals)) t := fun t k => pre7 t (st8 _ k)
  have pre10 : ∀ t, Steps p.tables e below (T8.setTop (mkF m 22 #[.val (.int p1), .val (.int p2), .val (.int p3), .val (.int p4), .val (.int p5), .val (.int p6), .val (.ref b2), .unset, .unset, .unset, .unset, .unset, .unset, .unset, .unset, .unset] [(.int p3.toUInt32.toUInt16.toUInt32.toInt32), (.int (2 : Int32)), (.ref b2)])) t → Steps p.tables e below (s₁.setTop (entryFrame m #[(.int p1), (.int p2), (.int p3), (.int p4), (.int p5), (.int p6)] maxLocals)) t := fun t k => pre9 t (by
    show Steps p.tables e below (T8.setTop (mkF m 17 #[.val (.int p1), .val (.int p2), .val (.int p3), .val (.int p4), .val (.int p5), .val (.int p6), .val (.ref b2), .unset, .unset, .unset, .unset, .unset, .unset, .unset, .unset, .unset] [])) t
    refine XS.aload X8.here hx rfl (hb hby at_17) rfl rfl ?_
    show Steps p.tables e below (T8.setTop (mkF m 19 #[.val (.int p1), .val (.int p2), .val (.int p3), .val (.int p4), .val (.int p5), .val (.int p6), .val (.ref b2), .unset, .unset, .unset, .unset, .unset, .unset, .unset, .unset, .unset] [(.ref b2)])) t
    refine XS.iconst X8.here hx rfl (hb hby at_19) ?_
    show Steps p.tables e below (T8.setTop (mkF m 20 #[.val (.int p1), .val (.int p2), .val (.int p3), .val (.int p4), .val (.int p5), .val (.int p6), .val (.ref b2), .unset, .unset, .unset, .unset, .unset, .unset, .unset, .unset, .unset] [(.int (2 : Int32)), (.ref b2)])) t
    refine XS.iloadN X8.here hx rfl (hb hby at_20) rfl ?_
    show Steps p.tables e below (T8.setTop (mkF m 21 #[.val (.int p1), .val (.int p2), .val (.int p3), .val (.int p4), .val (.int p5), .val (.int p6), .val (.ref b2), .unset, .unset, .unset, .unset, .unset, .unset, .unset, .unset, .unset] [(.int p3), (.int (2 : Int32)), (.ref b2)])) t
    refine XT.i2c X8.here hx rfl (hb hby at_21) rfl ?_
    show Steps p.tables e below (T8.setTop (mkF m 22 #[.val (.int p1), .val (.int p2), .val (.int p3), .val (.int p4), .val (.int p5), .val (.int p6), .val (.ref b2), .unset, .unset, .unset, .unset, .unset, .unset, .unset, .unset, .unset] [(.int p3.toUInt32.toUInt16.toUInt32.toInt32), (.int (2 : Int32)), (.ref b2)])) t
    exact k)
  obtain ⟨cl11, Ar11, q11, S11, N11q, H11, G11⟩ := V_b2__8
  have hin11 : ¬ ((2 : Int32) < 0 ∨ cl11.slots.size ≤ ((2 : Int32)).toNatClampNeg) := inb_of S11 ⟨by decide, by decide⟩
  obtain ⟨T11, h11, X11, eh11, W11, st11⟩ := stC X8 hx hZ eh8 Ar11 (j := (2 : Int32)) hin11 (g := (mkF m 22 #[.val (.int p1), .val (.int p2), .val (.int p3), .val (.int p4), .val (.int p5), .val (.int p6), .val (.ref b2), .unset, .unset, .unset, .unset, .unset, .unset, .unset, .unset, .unset] [(.int p3.toUInt32.toUInt16.toUInt32.toInt32), (.int (2 : Int32)), (.ref b2)])) rfl rfl (hb hby at_22)
  have sz11 : n0 ≤ h11.size := Nat.le_trans sz8 (Keep.of_wr W11).1
  have N11 := Fr.snoc X11 N8 g_b2
  have V_b2__11 : Arv Z h11 b2 k2 .char (4 : Int32) [(.int (nar .char p1.toUInt32.toUInt16.toUInt32.toInt32)), (.int (nar .char p2.toUInt32.toUInt16.toUInt32.toInt32)), (.int (nar .char p3.toUInt32.toUInt16.toUInt32.toInt32)), (.int (0 : Int32))] (.int (0 : Int32)) := Arv.set Ar11 q11 S11 N11q H11 G11 (fits_nar_char _) W11 2 rfl (Nat.le_of_ble_eq_true rfl)
  have pre12 : ∀ t, Steps p.tables e below (T11.setTop (mkF m 23 #[.val (.int p1), .val (.int p2), .val (.int p3), .val (.int p4), .val (.int p5), .val (.int p6), .val (.ref b2), .unset, .unset, .unset, .unset, .unset, .unset, .unset, .unset, .unset] [])) t → Steps p.tables e below (s₁.setTop (entryFrame m #[(.int p1), (.int p2), (.int p3), (.int p4), (.int p5), (.int p6)] maxLocals)) t := fun t k => pre10 t (st11 _ k)
  have pre13 : ∀ t, Steps p.tables e below (T11.setTop (mkF m 28 #[.val (.int p1), .val (.int p2), .val (.int p3), .val (.int p4), .val (.int p5), .val (.int p6), .val (.ref b2), .unset, .unset, .unset, .unset, .unset, .unset, .unset, .unset, .unset] [(.int p4.toUInt32.toUInt16.toUInt32.toInt32), (.int (3 : Int32)), (.ref b2)])) t → Steps p.tables e below (s₁.setTop (entryFrame m #[(.int p1), (.int p2), (.int p3), (.int p4), (.int p5), (.int p6)] maxLocals)) t := fun t k => pre12 t (by
    show Steps p.tables e below (T11.setTop (mkF m 23 #[.val (.int p1), .val (.int p2), .val (.int p3), .val (.int p4), .val (.int p5), .val (.int p6), .val (.ref b2), .unset, .unset, .unset, .unset, .unset, .unset, .unset, .unset, .unset] [])) t
    refine XS.aload X11.here hx rfl (hb hby at_23) rfl rfl ?_
    show Steps p.tables e below (T11.setTop (mkF m 25 #[.val (.int p1), .val (.int p2), .val (.int p3), .val (.int p4), .val (.int p5), .val (.int p6), .val (.ref b2), .unset, .unset, .unset, .unset, .unset, .unset, .unset, .unset, .unset] [(.ref b2)])) t
    refine XS.iconst X11.here hx rfl (hb hby at_25) ?_
    show Steps p.tables e below (T11.setTop (mkF m 26 #[.val (.int p1), .val (.int p2), .val (.int p3), .val (.int p4), .val (.int p5), .val (.int p6), .val (.ref b2), .unset, .unset, .unset, .unset, .unset, .unset, .unset, .unset, .unset] [(.int (3 : Int32)), (.ref b2)])) t
    refine XS.iloadN X11.here hx rfl (hb hby at_26) rfl ?_
    show Steps p.tables e below (T11.setTop (mkF m 27 #[.val (.int p1), .val (.int p2), .val (.int p3), .val (.int p4), .val (.int p5), .val (.int p6), .val (.ref b2), .unset, .unset, .unset, .unset, .unset, .unset, .unset, .unset, .unset] [(.int p4), (.int (3 : Int32)), (.ref b2)])) t
    refine XT.i2c X11.here hx rfl (hb hby at_27) rfl ?_
    show Steps p.tables e below (T11.setTop (mkF m 28 #[.val (.int p1), .val (.int p2), .val (.int p3), .val (.int p4), .val (.int p5), .val (.int p6), .val (.ref b2), .unset, .unset, .unset, .unset, .unset, .unset, .unset, .unset, .unset] [(.int p4.toUInt32.toUInt16.toUInt32.toInt32), (.int (3 : Int32)), (.ref b2)])) t
    exact k)
  obtain ⟨cl14, Ar14, q14, S14, N14q, H14, G14⟩ := V_b2__11
  have hin14 : ¬ ((3 : Int32) < 0 ∨ cl14.slots.size ≤ ((3 : Int32)).toNatClampNeg) := inb_of S14 ⟨by decide, by decide⟩
  obtain ⟨T14, h14, X14, eh14, W14, st14⟩ := stC X11 hx hZ eh11 Ar14 (j := (3 : Int32)) hin14 (g := (mkF m 28 #[.val (.int p1), .val (.int p2), .val (.int p3), .val (.int p4), .val (.int p5), .val (.int p6), .val (.ref b2), .unset, .unset, .unset, .unset, .unset, .unset, .unset, .unset, .unset] [(.int p4.toUInt32.toUInt16.toUInt32.toInt32), (.int (3 : Int32)), (.ref b2)])) rfl rfl (hb hby at_28)
  have sz14 : n0 ≤ h14.size := Nat.le_trans sz11 (Keep.of_wr W14).1
  have N14 := Fr.snoc X14 N11 g_b2
  have V_b2__14 : Arv Z h14 b2 k2 .char (4 : Int32) [(.int (nar .char p1.toUInt32.toUInt16.toUInt32.toInt32)), (.int (nar .char p2.toUInt32.toUInt16.toUInt32.toInt32)), (.int (nar .char p3.toUInt32.toUInt16.toUInt32.toInt32)), (.int (nar .char p4.toUInt32.toUInt16.toUInt32.toInt32))] (.int (0 : Int32)) := Arv.set Ar14 q14 S14 N14q H14 G14 (fits_nar_char _) W14 3 rfl (Nat.le_of_ble_eq_true rfl)
  have pre15 : ∀ t, Steps p.tables e below (T14.setTop (mkF m 29 #[.val (.int p1), .val (.int p2), .val (.int p3), .val (.int p4), .val (.int p5), .val (.int p6), .val (.ref b2), .unset, .unset, .unset, .unset, .unset, .unset, .unset, .unset, .unset] [])) t → Steps p.tables e below (s₁.setTop (entryFrame m #[(.int p1), (.int p2), (.int p3), (.int p4), (.int p5), (.int p6)] maxLocals)) t := fun t k => pre13 t (st14 _ k)
  have pre16 : ∀ t, Steps p.tables e below (T14.setTop (mkF m 35 #[.val (.int p1), .val (.int p2), .val (.int p3), .val (.int p4), .val (.int p5), .val (.int p6), .val (.ref b2), .val (.int (p5 &&& (3 : Int32))), .unset, .unset, .unset, .unset, .unset, .unset, .unset, .unset] [])) t → Steps p.tables e below (s₁.setTop (entryFrame m #[(.int p1), (.int p2), (.int p3), (.int p4), (.int p5), (.int p6)] maxLocals)) t := fun t k => pre15 t (by
    show Steps p.tables e below (T14.setTop (mkF m 29 #[.val (.int p1), .val (.int p2), .val (.int p3), .val (.int p4), .val (.int p5), .val (.int p6), .val (.ref b2), .unset, .unset, .unset, .unset, .unset, .unset, .unset, .unset, .unset] [])) t
    refine XS.iload X14.here hx rfl (hb hby at_29) rfl ?_
    show Steps p.tables e below (T14.setTop (mkF m 31 #[.val (.int p1), .val (.int p2), .val (.int p3), .val (.int p4), .val (.int p5), .val (.int p6), .val (.ref b2), .unset, .unset, .unset, .unset, .unset, .unset, .unset, .unset, .unset] [(.int p5)])) t
    refine XS.iconst X14.here hx rfl (hb hby at_31) ?_
    show Steps p.tables e below (T14.setTop (mkF m 32 #[.val (.int p1), .val (.int p2), .val (.int p3), .val (.int p4), .val (.int p5), .val (.int p6), .val (.ref b2), .unset, .unset, .unset, .unset, .unset, .unset, .unset, .unset, .unset] [(.int (3 : Int32)), (.int p5)])) t
    refine XS.iand X14.here hx rfl (hb hby at_32) rfl ?_
    show Steps p.tables e below (T14.setTop (mkF m 33 #[.val (.int p1), .val (.int p2), .val (.int p3), .val (.int p4), .val (.int p5), .val (.int p6), .val (.ref b2), .unset, .unset, .unset, .unset, .unset, .unset, .unset, .unset, .unset] [(.int (p5 &&& (3 : Int32)))])) t
    refine XS.istore X14.here hx rfl (hb hby at_33) rfl (l' := #[.val (.int p1), .val (.int p2), .val (.int p3), .val (.int p4), .val (.int p5), .val (.int p6), .val (.ref b2), .val (.int (p5 &&& (3 : Int32))), .unset, .unset, .unset, .unset, .unset, .unset, .unset, .unset]) rfl ?_
    show Steps p.tables e below (T14.setTop (mkF m 35 #[.val (.int p1), .val (.int p2), .val (.int p3), .val (.int p4), .val (.int p5), .val (.int p6), .val (.ref b2), .val (.int (p5 &&& (3 : Int32))), .unset, .unset, .unset, .unset, .unset, .unset, .unset, .unset] [])) t
    exact k)
  obtain ⟨off, h_off⟩ : ∃ z : Int32, z = (p5 &&& (3 : Int32)) := ⟨_, rfl⟩
  rw [← h_off] at pre16
  have hoff : own_O off := by rw [h_off]; exact own_off _
  have pre17 : ∀ t, Steps p.tables e below (T14.setTop (mkF m 48 #[.val (.int p1), .val (.int p2), .val (.int p3), .val (.int p4), .val (.int p5), .val (.int p6), .val (.ref b2), .val (.int off), .val (.int ((1 : Int32) + ((XT.ushr p5 (2 : Int32)) % ((4 : Int32) - off)))), .unset, .unset, .unset, .unset, .unset, .unset, .unset] [])) t → Steps p.tables e below (s₁.setTop (entryFrame m #[(.int p1), (.int p2), (.int p3), (.int p4), (.int p5), (.int p6)] maxLocals)) t := fun t k => pre16 t (by
    show Steps p.tables e below (T14.setTop (mkF m 35 #[.val (.int p1), .val (.int p2), .val (.int p3), .val (.int p4), .val (.int p5), .val (.int p6), .val (.ref b2), .val (.int off), .unset, .unset, .unset, .unset, .unset, .unset, .unset, .unset] [])) t
    refine XS.iconst X14.here hx rfl (hb hby at_35) ?_
    show Steps p.tables e below (T14.setTop (mkF m 36 #[.val (.int p1), .val (.int p2), .val (.int p3), .val (.int p4), .val (.int p5), .val (.int p6), .val (.ref b2), .val (.int off), .unset, .unset, .unset, .unset, .unset, .unset, .unset, .unset] [(.int (1 : Int32))])) t
    refine XS.iload X14.here hx rfl (hb hby at_36) rfl ?_
    show Steps p.tables e below (T14.setTop (mkF m 38 #[.val (.int p1), .val (.int p2), .val (.int p3), .val (.int p4), .val (.int p5), .val (.int p6), .val (.ref b2), .val (.int off), .unset, .unset, .unset, .unset, .unset, .unset, .unset, .unset] [(.int p5), (.int (1 : Int32))])) t
    refine XS.iconst X14.here hx rfl (hb hby at_38) ?_
    show Steps p.tables e below (T14.setTop (mkF m 39 #[.val (.int p1), .val (.int p2), .val (.int p3), .val (.int p4), .val (.int p5), .val (.int p6), .val (.ref b2), .val (.int off), .unset, .unset, .unset, .unset, .unset, .unset, .unset, .unset] [(.int (2 : Int32)), (.int p5), (.int (1 : Int32))])) t
    refine XT.iushr X14.here hx rfl (hb hby at_39) rfl ?_
    show Steps p.tables e below (T14.setTop (mkF m 40 #[.val (.int p1), .val (.int p2), .val (.int p3), .val (.int p4), .val (.int p5), .val (.int p6), .val (.ref b2), .val (.int off), .unset, .unset, .unset, .unset, .unset, .unset, .unset, .unset] [(.int (XT.ushr p5 (2 : Int32))), (.int (1 : Int32))])) t
    refine XS.iconst X14.here hx rfl (hb hby at_40) ?_
    show Steps p.tables e below (T14.setTop (mkF m 41 #[.val (.int p1), .val (.int p2), .val (.int p3), .val (.int p4), .val (.int p5), .val (.int p6), .val (.ref b2), .val (.int off), .unset, .unset, .unset, .unset, .unset, .unset, .unset, .unset] [(.int (4 : Int32)), (.int (XT.ushr p5 (2 : Int32))), (.int (1 : Int32))])) t
    refine XS.iload X14.here hx rfl (hb hby at_41) rfl ?_
    show Steps p.tables e below (T14.setTop (mkF m 43 #[.val (.int p1), .val (.int p2), .val (.int p3), .val (.int p4), .val (.int p5), .val (.int p6), .val (.ref b2), .val (.int off), .unset, .unset, .unset, .unset, .unset, .unset, .unset, .unset] [(.int off), (.int (4 : Int32)), (.int (XT.ushr p5 (2 : Int32))), (.int (1 : Int32))])) t
    refine XS.isub X14.here hx rfl (hb hby at_43) rfl ?_
    show Steps p.tables e below (T14.setTop (mkF m 44 #[.val (.int p1), .val (.int p2), .val (.int p3), .val (.int p4), .val (.int p5), .val (.int p6), .val (.ref b2), .val (.int off), .unset, .unset, .unset, .unset, .unset, .unset, .unset, .unset] [(.int ((4 : Int32) - off)), (.int (XT.ushr p5 (2 : Int32))), (.int (1 : Int32))])) t
    refine iremM X14 hx rfl (hb hby at_44) rfl (own_n4 hoff) ?_
    show Steps p.tables e below (T14.setTop (mkF m 45 #[.val (.int p1), .val (.int p2), .val (.int p3), .val (.int p4), .val (.int p5), .val (.int p6), .val (.ref b2), .val (.int off), .unset, .unset, .unset, .unset, .unset, .unset, .unset, .unset] [(.int ((XT.ushr p5 (2 : Int32)) % ((4 : Int32) - off))), (.int (1 : Int32))])) t
    refine XS.iadd X14.here hx rfl (hb hby at_45) rfl ?_
    show Steps p.tables e below (T14.setTop (mkF m 46 #[.val (.int p1), .val (.int p2), .val (.int p3), .val (.int p4), .val (.int p5), .val (.int p6), .val (.ref b2), .val (.int off), .unset, .unset, .unset, .unset, .unset, .unset, .unset, .unset] [(.int ((1 : Int32) + ((XT.ushr p5 (2 : Int32)) % ((4 : Int32) - off))))])) t
    refine XS.istore X14.here hx rfl (hb hby at_46) rfl (l' := #[.val (.int p1), .val (.int p2), .val (.int p3), .val (.int p4), .val (.int p5), .val (.int p6), .val (.ref b2), .val (.int off), .val (.int ((1 : Int32) + ((XT.ushr p5 (2 : Int32)) % ((4 : Int32) - off)))), .unset, .unset, .unset, .unset, .unset, .unset, .unset]) rfl ?_
    show Steps p.tables e below (T14.setTop (mkF m 48 #[.val (.int p1), .val (.int p2), .val (.int p3), .val (.int p4), .val (.int p5), .val (.int p6), .val (.ref b2), .val (.int off), .val (.int ((1 : Int32) + ((XT.ushr p5 (2 : Int32)) % ((4 : Int32) - off)))), .unset, .unset, .unset, .unset, .unset, .unset, .unset] [])) t
    exact k)
  obtain ⟨len, h_len⟩ : ∃ z : Int32, z = ((1 : Int32) + ((XT.ushr p5 (2 : Int32)) % ((4 : Int32) - off))) := ⟨_, rfl⟩
  rw [← h_len] at pre17
  have hlen : own_L off len := by rw [h_len]; exact own_len _ hoff
  have pre18 : ∀ t, Steps p.tables e below (T14.setTop (mkF m 58 #[.val (.int p1), .val (.int p2), .val (.int p3), .val (.int p4), .val (.int p5), .val (.int p6), .val (.ref b2), .val (.int off), .val (.int len), .val (.int ((p6 &&& (2147483647 : Int32)) % len)), .unset, .unset, .unset, .unset, .unset, .unset] [])) t → Steps p.tables e below (s₁.setTop (entryFrame m #[(.int p1), (.int p2), (.int p3), (.int p4), (.int p5), (.int p6)] maxLocals)) t := fun t k => pre17 t (by
    show Steps p.tables e below (T14.setTop (mkF m 48 #[.val (.int p1), .val (.int p2), .val (.int p3), .val (.int p4), .val (.int p5), .val (.int p6), .val (.ref b2), .val (.int off), .val (.int len), .unset, .unset, .unset, .unset, .unset, .unset, .unset] [])) t
    refine XS.iload X14.here hx rfl (hb hby at_48) rfl ?_
    show Steps p.tables e below (T14.setTop (mkF m 50 #[.val (.int p1), .val (.int p2), .val (.int p3), .val (.int p4), .val (.int p5), .val (.int p6), .val (.ref b2), .val (.int off), .val (.int len), .unset, .unset, .unset, .unset, .unset, .unset, .unset] [(.int p6)])) t
    refine X14.ldcInt hx hown (mvT hZ (hw _ (List.mem_of_getElem? (i := 1) rfl))) (g := (mkF m 50 #[.val (.int p1), .val (.int p2), .val (.int p3), .val (.int p4), .val (.int p5), .val (.int p6), .val (.ref b2), .val (.int off), .val (.int len), .unset, .unset, .unset, .unset, .unset, .unset, .unset] [(.int p6)])) rfl (hb hby at_50) _ ?_
    show Steps p.tables e below (T14.setTop (mkF m 52 #[.val (.int p1), .val (.int p2), .val (.int p3), .val (.int p4), .val (.int p5), .val (.int p6), .val (.ref b2), .val (.int off), .val (.int len), .unset, .unset, .unset, .unset, .unset, .unset, .unset] [(.int (2147483647 : Int32)), (.int p6)])) t
    refine XS.iand X14.here hx rfl (hb hby at_52) rfl ?_
    show Steps p.tables e below (T14.setTop (mkF m 53 #[.val (.int p1), .val (.int p2), .val (.int p3), .val (.int p4), .val (.int p5), .val (.int p6), .val (.ref b2), .val (.int off), .val (.int len), .unset, .unset, .unset, .unset, .unset, .unset, .unset] [(.int (p6 &&& (2147483647 : Int32)))])) t
    refine XS.iload X14.here hx rfl (hb hby at_53) rfl ?_
    show Steps p.tables e below (T14.setTop (mkF m 55 #[.val (.int p1), .val (.int p2), .val (.int p3), .val (.int p4), .val (.int p5), .val (.int p6), .val (.ref b2), .val (.int off), .val (.int len), .unset, .unset, .unset, .unset, .unset, .unset, .unset] [(.int len), (.int (p6 &&& (2147483647 : Int32)))])) t
    refine iremM X14 hx rfl (hb hby at_55) rfl (own_nz2 hlen) ?_
    show Steps p.tables e below (T14.setTop (mkF m 56 #[.val (.int p1), .val (.int p2), .val (.int p3), .val (.int p4), .val (.int p5), .val (.int p6), .val (.ref b2), .val (.int off), .val (.int len), .unset, .unset, .unset, .unset, .unset, .unset, .unset] [(.int ((p6 &&& (2147483647 : Int32)) % len))])) t
    refine XS.istore X14.here hx rfl (hb hby at_56) rfl (l' := #[.val (.int p1), .val (.int p2), .val (.int p3), .val (.int p4), .val (.int p5), .val (.int p6), .val (.ref b2), .val (.int off), .val (.int len), .val (.int ((p6 &&& (2147483647 : Int32)) % len)), .unset, .unset, .unset, .unset, .unset, .unset]) rfl ?_
    show Steps p.tables e below (T14.setTop (mkF m 58 #[.val (.int p1), .val (.int p2), .val (.int p3), .val (.int p4), .val (.int p5), .val (.int p6), .val (.ref b2), .val (.int off), .val (.int len), .val (.int ((p6 &&& (2147483647 : Int32)) % len)), .unset, .unset, .unset, .unset, .unset, .unset] [])) t
    exact k)
  obtain ⟨idx, h_idx⟩ : ∃ z : Int32, z = ((p6 &&& (2147483647 : Int32)) % len) := ⟨_, rfl⟩
  rw [← h_idx] at pre18
  have hidx : own_X len idx := by rw [h_idx]; exact own_idx _ hlen
  obtain ⟨T19, h19, X19, eh19, E19, A19, D19, -, st19⟩ := newO X14 hx hZ hown (hw _ (List.mem_of_getElem? (i := 2) rfl)) (hw _ (List.mem_of_getElem? (i := 3) rfl)) (hw _ (List.mem_of_getElem? (i := 4) rfl)) eh14 (g := (mkF m 58 #[.val (.int p1), .val (.int p2), .val (.int p3), .val (.int p4), .val (.int p5), .val (.int p6), .val (.ref b2), .val (.int off), .val (.int len), .val (.int idx), .unset, .unset, .unset, .unset, .unset, .unset] [])) rfl (hb hby at_58) (by decide) (by decide)
  obtain ⟨b19, gg19⟩ : ∃ z, z = h14.size := ⟨_, rfl⟩
  rw [← gg19] at A19 D19 st19
  have V_b2__19 : Arv Z h19 b2 k2 .char (4 : Int32) [(.int (nar .char p1.toUInt32.toUInt16.toUInt32.toInt32)), (.int (nar .char p2.toUInt32.toUInt16.toUInt32.toInt32)), (.int (nar .char p3.toUInt32.toUInt16.toUInt32.toInt32)), (.int (nar .char p4.toUInt32.toUInt16.toUInt32.toInt32))] (.int (0 : Int32)) := V_b2__14.ext E19
  have sz19 : n0 ≤ h19.size := Nat.le_trans sz14 E19.1
  have g_b19 : n0 ≤ b19 := Nat.le_trans sz14 (Nat.le_of_eq gg19.symm)
  have ne_b2_b19 : b2 ≠ b19 := Nat.ne_of_lt (Nat.lt_of_lt_of_le V_b2__14.lt (Nat.le_of_eq gg19.symm))
  have F_array_b19 : Fld Z h19 b19 "com/example/precis/precis/iso2709/Chars" "array" "[C" .null := D19 (Or.inl (hw _ (List.mem_of_getElem? (i := 25) rfl))) (ty := (.array .char)) (by decide)
  have F_offset_b19 : Fld Z h19 b19 "com/example/precis/precis/iso2709/Chars" "offset" "I" (.int (0 : Int32)) := D19 (Or.inl (hw _ (List.mem_of_getElem? (i := 27) rfl))) (ty := .int) (by decide)
  have F_length_b19 : Fld Z h19 b19 "com/example/precis/precis/iso2709/Chars" "length" "I" (.int (0 : Int32)) := D19 (Or.inl (hw _ (List.mem_of_getElem? (i := 29) rfl))) (ty := .int) (by decide)
  have pre20 : ∀ t, Steps p.tables e below (T19.setTop (mkF m 61 #[.val (.int p1), .val (.int p2), .val (.int p3), .val (.int p4), .val (.int p5), .val (.int p6), .val (.ref b2), .val (.int off), .val (.int len), .val (.int idx), .unset, .unset, .unset, .unset, .unset, .unset] [(.ref b19)])) t → Steps p.tables e below (s₁.setTop (entryFrame m #[(.int p1), (.int p2), (.int p3), (.int p4), (.int p5), (.int p6)] maxLocals)) t := fun t k => pre18 t (st19 _ k)
  have pre21 : ∀ t, Steps p.tables e below (T19.setTop (mkF m 68 #[.val (.int p1), .val (.int p2), .val (.int p3), .val (.int p4), .val (.int p5), .val (.int p6), .val (.ref b2), .val (.int off), .val (.int len), .val (.int idx), .unset, .unset, .unset, .unset, .unset, .unset] [(.int len), (.int off), (.ref b2), (.ref b19), (.ref b19)])) t → Steps p.tables e below (s₁.setTop (entryFrame m #[(.int p1), (.int p2), (.int p3), (.int p4), (.int p5), (.int p6)] maxLocals)) t := fun t k => pre20 t (by
    show Steps p.tables e below (T19.setTop (mkF m 61 #[.val (.int p1), .val (.int p2), .val (.int p3), .val (.int p4), .val (.int p5), .val (.int p6), .val (.ref b2), .val (.int off), .val (.int len), .val (.int idx), .unset, .unset, .unset, .unset, .unset, .unset] [(.ref b19)])) t
    refine XS.dup X19.here hx rfl (hb hby at_61) rfl rfl ?_
    show Steps p.tables e below (T19.setTop (mkF m 62 #[.val (.int p1), .val (.int p2), .val (.int p3), .val (.int p4), .val (.int p5), .val (.int p6), .val (.ref b2), .val (.int off), .val (.int len), .val (.int idx), .unset, .unset, .unset, .unset, .unset, .unset] [(.ref b19), (.ref b19)])) t
    refine XS.aload X19.here hx rfl (hb hby at_62) rfl rfl ?_
    show Steps p.tables e below (T19.setTop (mkF m 64 #[.val (.int p1), .val (.int p2), .val (.int p3), .val (.int p4), .val (.int p5), .val (.int p6), .val (.ref b2), .val (.int off), .val (.int len), .val (.int idx), .unset, .unset, .unset, .unset, .unset, .unset] [(.ref b2), (.ref b19), (.ref b19)])) t
    refine XS.iload X19.here hx rfl (hb hby at_64) rfl ?_
    show Steps p.tables e below (T19.setTop (mkF m 66 #[.val (.int p1), .val (.int p2), .val (.int p3), .val (.int p4), .val (.int p5), .val (.int p6), .val (.ref b2), .val (.int off), .val (.int len), .val (.int idx), .unset, .unset, .unset, .unset, .unset, .unset] [(.int off), (.ref b2), (.ref b19), (.ref b19)])) t
    refine XS.iload X19.here hx rfl (hb hby at_66) rfl ?_
    show Steps p.tables e below (T19.setTop (mkF m 68 #[.val (.int p1), .val (.int p2), .val (.int p3), .val (.int p4), .val (.int p5), .val (.int p6), .val (.ref b2), .val (.int off), .val (.int len), .val (.int idx), .unset, .unset, .unset, .unset, .unset, .unset] [(.int len), (.int off), (.ref b2), (.ref b19), (.ref b19)])) t
    exact k)
  obtain ⟨_, _, ⟨T22, L22, k22, n22⟩, -, X22, ⟨Lc22, hQ22, l22, y22, z22⟩, st22⟩ := X19.specialBack hx (y := (⟨"com/example/precis/precis/iso2709/Chars", "<init>", "([CII)V"⟩ : MethodName)) rfl hown (mvT hZ (hw _ (List.mem_of_getElem? (i := 5) rfl))) (mvT hZ (hw _ (List.mem_of_getElem? (i := 6) rfl))) (mvT hZ (hw _ (List.mem_of_getElem? (i := 7) rfl))) (by decide) (backOf (W := 1) (rm1 l Z a0 hw [] b19 b2 off len .null (.int (0 : Int32)) (.int (0 : Int32)) k2 (nar .char p1.toUInt32.toUInt16.toUInt32.toInt32) (nar .char p2.toUInt32.toUInt16.toUInt32.toInt32) (nar .char p3.toUInt32.toUInt16.toUInt32.toInt32) (nar .char p4.toUInt32.toUInt16.toUInt32.toInt32) h19 n0 sz19 A19 F_array_b19 F_offset_b19 F_length_b19 g_b19 V_b2__19 (Ne.symm ne_b2_b19) (show ¬ (((4 : Int32) ||| off) ||| len) < (0 : Int32) from own_h1 hoff hlen) (show ¬ ((4 : Int32) - off) < len from own_h2 hoff hlen)) hZ (hw _ (List.mem_of_getElem? (i := 7) rfl)) (hw _ (List.mem_of_getElem? (i := 4) rfl)) (by decide) (by decide)) (g := (mkF m 68 #[.val (.int p1), .val (.int p2), .val (.int p3), .val (.int p4), .val (.int p5), .val (.int p6), .val (.ref b2), .val (.int off), .val (.int len), .val (.int idx), .unset, .unset, .unset, .unset, .unset, .unset] [(.int len), (.int off), (.ref b2), (.ref b19), (.ref b19)])) rfl (by rw [hml]; rfl) (Steps.refl _) (a := b19) (argsL := [(.ref b2), (.int off), (.int len)]) (rest := [(.ref b19)]) (lenOf pd_oaCIIcV rfl) rfl (by show 2 * 0 + _ ≤ _; exact Nat.le_of_eq rfl) (hb hby at_68) (fun _ _ => ⟨rfl, eh19, (by decide : 2 + 0 ≤ _), (by decide : 7 + 0 ≤ _)⟩)
  dsimp only [Pt.U, Pt.locs, Pt.cells, Pt.slots] at X22 l22 y22 z22 st22 hQ22
  subst l22 y22 z22
  obtain ⟨rfl, N22q, Kq22, P22_1, P22_2, P22_3, P22_4⟩ := hQ22
  have V_b2__22 : Arv Z T22.heap b2 k2 .char (4 : Int32) [(.int (nar .char p1.toUInt32.toUInt16.toUInt32.toInt32)), (.int (nar .char p2.toUInt32.toUInt16.toUInt32.toInt32)), (.int (nar .char p3.toUInt32.toUInt16.toUInt32.toInt32)), (.int (nar .char p4.toUInt32.toUInt16.toUInt32.toInt32))] (.int (0 : Int32)) := V_b2__19.keep Kq22 (ninS ne_b2_b19 nin0)
  have sz22 : n0 ≤ T22.heap.size := Nat.le_trans sz19 Kq22.1
  have N22 := Fr.app N14 N22q
  have pre23 : ∀ t, Steps p.tables e below (T22.setTop (mkF m 71 #[.val (.int p1), .val (.int p2), .val (.int p3), .val (.int p4), .val (.int p5), .val (.int p6), .val (.ref b2), .val (.int off), .val (.int len), .val (.int idx), .unset, .unset, .unset, .unset, .unset, .unset] [(.ref b19)])) t → Steps p.tables e below (s₁.setTop (entryFrame m #[(.int p1), (.int p2), (.int p3), (.int p4), (.int p5), (.int p6)] maxLocals)) t := fun t k => pre21 t (st22.trans k)
  have pre24 : ∀ t, Steps p.tables e below (T22.setTop (mkF m 77 #[.val (.int p1), .val (.int p2), .val (.int p3), .val (.int p4), .val (.int p5), .val (.int p6), .val (.ref b2), .val (.int off), .val (.int len), .val (.int idx), .val (.ref b19), .unset, .unset, .unset, .unset, .unset] [(.int idx), (.ref b19)])) t → Steps p.tables e below (s₁.setTop (entryFrame m #[(.int p1), (.int p2), (.int p3), (.int p4), (.int p5), (.int p6)] maxLocals)) t := fun t k => pre23 t (by
    show Steps p.tables e below (T22.setTop (mkF m 71 #[.val (.int p1), .val (.int p2), .val (.int p3), .val (.int p4), .val (.int p5), .val (.int p6), .val (.ref b2), .val (.int off), .val (.int len), .val (.int idx), .unset, .unset, .unset, .unset, .unset, .unset] [(.ref b19)])) t
    refine XS.astore X22.here hx rfl (hb hby at_71) rfl rfl (l' := #[.val (.int p1), .val (.int p2), .val (.int p3), .val (.int p4), .val (.int p5), .val (.int p6), .val (.ref b2), .val (.int off), .val (.int len), .val (.int idx), .val (.ref b19), .unset, .unset, .unset, .unset, .unset]) rfl ?_
    show Steps p.tables e below (T22.setTop (mkF m 73 #[.val (.int p1), .val (.int p2), .val (.int p3), .val (.int p4), .val (.int p5), .val (.int p6), .val (.ref b2), .val (.int off), .val (.int len), .val (.int idx), .val (.ref b19), .unset, .unset, .unset, .unset, .unset] [])) t
    refine XS.aload X22.here hx rfl (hb hby at_73) rfl rfl ?_
    show Steps p.tables e below (T22.setTop (mkF m 75 #[.val (.int p1), .val (.int p2), .val (.int p3), .val (.int p4), .val (.int p5), .val (.int p6), .val (.ref b2), .val (.int off), .val (.int len), .val (.int idx), .val (.ref b19), .unset, .unset, .unset, .unset, .unset] [(.ref b19)])) t
    refine XS.iload X22.here hx rfl (hb hby at_75) rfl ?_
    show Steps p.tables e below (T22.setTop (mkF m 77 #[.val (.int p1), .val (.int p2), .val (.int p3), .val (.int p4), .val (.int p5), .val (.int p6), .val (.ref b2), .val (.int off), .val (.int len), .val (.int idx), .val (.ref b19), .unset, .unset, .unset, .unset, .unset] [(.int idx), (.ref b19)])) t
    exact k)
  obtain ⟨cq25, kq25, q25a, q25b, q25c⟩ := isOf hZ rfl P22_1
  obtain ⟨_, _, ⟨T25, L25, k25, n25⟩, -, X25, ⟨Lc25, hQ25, l25, y25, z25⟩, st25⟩ := X22.virtualBack hx (y := (⟨"com/example/precis/precis/iso2709/Chars", "charAt", "(I)C"⟩ : MethodName)) (z := (⟨"com/example/precis/precis/iso2709/Chars", "charAt", "(I)C"⟩ : MethodName)) hown (mvT hZ (hw _ (List.mem_of_getElem? (i := 30) rfl))) (mvT hZ (hw _ (List.mem_of_getElem? (i := 31) rfl))) (notFace_of_selects (args := #[]) (mvT hZ (hw _ (List.mem_of_getElem? (i := 33) rfl)))) (mvT hZ (hw _ (List.mem_of_getElem? (i := 33) rfl))) (mvT hZ (hw _ (List.mem_of_getElem? (i := 32) rfl))) (by decide) (backOf (W := 0) (rm6 l Z a0 hw [] b19 idx b2 off len k2 (nar .char p1.toUInt32.toUInt16.toUInt32.toInt32) (nar .char p2.toUInt32.toUInt16.toUInt32.toInt32) (nar .char p3.toUInt32.toUInt16.toUInt32.toInt32) (nar .char p4.toUInt32.toUInt16.toUInt32.toInt32) T22.heap n0 sz22 P22_2 P22_3 P22_4 V_b2__22 (show ¬ idx < (0 : Int32) from own_c1 hidx) (show idx < len from own_c2 hidx) (show ¬ (off + idx) < (0 : Int32) ∧ (off + idx) < (4 : Int32) from own_c3 hoff hlen hidx)) hZ (hw _ (List.mem_of_getElem? (i := 34) rfl)) (hw _ (List.mem_of_getElem? (i := 4) rfl)) (by decide) (by decide)) q25a q25c (g := (mkF m 77 #[.val (.int p1), .val (.int p2), .val (.int p3), .val (.int p4), .val (.int p5), .val (.int p6), .val (.ref b2), .val (.int off), .val (.int len), .val (.int idx), .val (.ref b19), .unset, .unset, .unset, .unset, .unset] [(.int idx), (.ref b19)])) rfl (by rw [hml]; rfl) (Steps.refl _) (argsL := [(.int idx)]) (rest := []) (lenOf pd_oIcC rfl) rfl (by show 2 * 0 + _ ≤ _; exact Nat.le_of_eq rfl) (hb hby at_77) (fun _ _ => ⟨rfl, rfl, (by decide : 2 + 0 ≤ _), (by decide : 7 + 0 ≤ _)⟩)
  dsimp only [Pt.U, Pt.locs, Pt.cells, Pt.slots] at X25 l25 y25 z25 st25 hQ25
  subst l25 y25 z25
  obtain ⟨rfl, N25q, eh25⟩ := hQ25
  have N25 := Fr.app N22 N25q
  have pre26 : ∀ t, Steps p.tables e below (T25.setTop (mkF m 80 #[.val (.int p1), .val (.int p2), .val (.int p3), .val (.int p4), .val (.int p5), .val (.int p6), .val (.ref b2), .val (.int off), .val (.int len), .val (.int idx), .val (.ref b19), .unset, .unset, .unset, .unset, .unset] [(.int (nar .char (own_at (nar .char p1.toUInt32.toUInt16.toUInt32.toInt32) (nar .char p2.toUInt32.toUInt16.toUInt32.toInt32) (nar .char p3.toUInt32.toUInt16.toUInt32.toInt32) (nar .char p4.toUInt32.toUInt16.toUInt32.toInt32) (off + idx))))])) t → Steps p.tables e below (s₁.setTop (entryFrame m #[(.int p1), (.int p2), (.int p3), (.int p4), (.int p5), (.int p6)] maxLocals)) t := fun t k => pre24 t (st25.trans k)
  have pre27 : ∀ t, Steps p.tables e below (T25.setTop (mkF m 85 #[.val (.int p1), .val (.int p2), .val (.int p3), .val (.int p4), .val (.int p5), .val (.int p6), .val (.ref b2), .val (.int off), .val (.int len), .val (.int idx), .val (.ref b19), .val (.int (nar .char (own_at (nar .char p1.toUInt32.toUInt16.toUInt32.toInt32) (nar .char p2.toUInt32.toUInt16.toUInt32.toInt32) (nar .char p3.toUInt32.toUInt16.toUInt32.toInt32) (nar .char p4.toUInt32.toUInt16.toUInt32.toInt32) (off + idx)))), .unset, .unset, .unset, .unset] [(.int (0 : Int32)), (.ref b19)])) t → Steps p.tables e below (s₁.setTop (entryFrame m #[(.int p1), (.int p2), (.int p3), (.int p4), (.int p5), (.int p6)] maxLocals)) t := fun t k => pre26 t (by
    show Steps p.tables e below (T25.setTop (mkF m 80 #[.val (.int p1), .val (.int p2), .val (.int p3), .val (.int p4), .val (.int p5), .val (.int p6), .val (.ref b2), .val (.int off), .val (.int len), .val (.int idx), .val (.ref b19), .unset, .unset, .unset, .unset, .unset] [(.int (nar .char (own_at (nar .char p1.toUInt32.toUInt16.toUInt32.toInt32) (nar .char p2.toUInt32.toUInt16.toUInt32.toInt32) (nar .char p3.toUInt32.toUInt16.toUInt32.toInt32) (nar .char p4.toUInt32.toUInt16.toUInt32.toInt32) (off + idx))))])) t
    refine XS.istore X25.here hx rfl (hb hby at_80) rfl (l' := #[.val (.int p1), .val (.int p2), .val (.int p3), .val (.int p4), .val (.int p5), .val (.int p6), .val (.ref b2), .val (.int off), .val (.int len), .val (.int idx), .val (.ref b19), .val (.int (nar .char (own_at (nar .char p1.toUInt32.toUInt16.toUInt32.toInt32) (nar .char p2.toUInt32.toUInt16.toUInt32.toInt32) (nar .char p3.toUInt32.toUInt16.toUInt32.toInt32) (nar .char p4.toUInt32.toUInt16.toUInt32.toInt32) (off + idx)))), .unset, .unset, .unset, .unset]) rfl ?_
    show Steps p.tables e below (T25.setTop (mkF m 82 #[.val (.int p1), .val (.int p2), .val (.int p3), .val (.int p4), .val (.int p5), .val (.int p6), .val (.ref b2), .val (.int off), .val (.int len), .val (.int idx), .val (.ref b19), .val (.int (nar .char (own_at (nar .char p1.toUInt32.toUInt16.toUInt32.toInt32) (nar .char p2.toUInt32.toUInt16.toUInt32.toInt32) (nar .char p3.toUInt32.toUInt16.toUInt32.toInt32) (nar .char p4.toUInt32.toUInt16.toUInt32.toInt32) (off + idx)))), .unset, .unset, .unset, .unset] [])) t
    refine XS.aload X25.here hx rfl (hb hby at_82) rfl rfl ?_
    show Steps p.tables e below (T25.setTop (mkF m 84 #[.val (.int p1), .val (.int p2), .val (.int p3), .val (.int p4), .val (.int p5), .val (.int p6), .val (.ref b2), .val (.int off), .val (.int len), .val (.int idx), .val (.ref b19), .val (.int (nar .char (own_at (nar .char p1.toUInt32.toUInt16.toUInt32.toInt32) (nar .char p2.toUInt32.toUInt16.toUInt32.toInt32) (nar .char p3.toUInt32.toUInt16.toUInt32.toInt32) (nar .char p4.toUInt32.toUInt16.toUInt32.toInt32) (off + idx)))), .unset, .unset, .unset, .unset] [(.ref b19)])) t
    refine XS.iconst X25.here hx rfl (hb hby at_84) ?_
    show Steps p.tables e below (T25.setTop (mkF m 85 #[.val (.int p1), .val (.int p2), .val (.int p3), .val (.int p4), .val (.int p5), .val (.int p6), .val (.ref b2), .val (.int off), .val (.int len), .val (.int idx), .val (.ref b19), .val (.int (nar .char (own_at (nar .char p1.toUInt32.toUInt16.toUInt32.toInt32) (nar .char p2.toUInt32.toUInt16.toUInt32.toInt32) (nar .char p3.toUInt32.toUInt16.toUInt32.toInt32) (nar .char p4.toUInt32.toUInt16.toUInt32.toInt32) (off + idx)))), .unset, .unset, .unset, .unset] [(.int (0 : Int32)), (.ref b19)])) t
    exact k)
  obtain ⟨cq28, kq28, q28a, q28b, q28c⟩ := isOf hZ eh25 P22_1
  obtain ⟨_, _, ⟨T28, L28, k28, n28⟩, -, X28, ⟨Lc28, hQ28, l28, y28, z28⟩, st28⟩ := X25.virtualBack hx (y := (⟨"com/example/precis/precis/iso2709/Chars", "charAt", "(I)C"⟩ : MethodName)) (z := (⟨"com/example/precis/precis/iso2709/Chars", "charAt", "(I)C"⟩ : MethodName)) hown (mvT hZ (hw _ (List.mem_of_getElem? (i := 30) rfl))) (mvT hZ (hw _ (List.mem_of_getElem? (i := 31) rfl))) (notFace_of_selects (args := #[]) (mvT hZ (hw _ (List.mem_of_getElem? (i := 33) rfl)))) (mvT hZ (hw _ (List.mem_of_getElem? (i := 33) rfl))) (mvT hZ (hw _ (List.mem_of_getElem? (i := 32) rfl))) (by decide) (backOf (W := 0) (rm6 l Z a0 hw [] b19 (0 : Int32) b2 off len k2 (nar .char p1.toUInt32.toUInt16.toUInt32.toInt32) (nar .char p2.toUInt32.toUInt16.toUInt32.toInt32) (nar .char p3.toUInt32.toUInt16.toUInt32.toInt32) (nar .char p4.toUInt32.toUInt16.toUInt32.toInt32) T22.heap n0 sz22 P22_2 P22_3 P22_4 V_b2__22 (show ¬ (0 : Int32) < (0 : Int32) from own_c1 (own_x0 hlen)) (show (0 : Int32) < len from own_c2 (own_x0 hlen)) (show ¬ (off + (0 : Int32)) < (0 : Int32) ∧ (off + (0 : Int32)) < (4 : Int32) from own_c3 hoff hlen (own_x0 hlen))) hZ (hw _ (List.mem_of_getElem? (i := 34) rfl)) (hw _ (List.mem_of_getElem? (i := 4) rfl)) (by decide) (by decide)) q28a q28c (g := (mkF m 85 #[.val (.int p1), .val (.int p2), .val (.int p3), .val (.int p4), .val (.int p5), .val (.int p6), .val (.ref b2), .val (.int off), .val (.int len), .val (.int idx), .val (.ref b19), .val (.int (nar .char (own_at (nar .char p1.toUInt32.toUInt16.toUInt32.toInt32) (nar .char p2.toUInt32.toUInt16.toUInt32.toInt32) (nar .char p3.toUInt32.toUInt16.toUInt32.toInt32) (nar .char p4.toUInt32.toUInt16.toUInt32.toInt32) (off + idx)))), .unset, .unset, .unset, .unset] [(.int (0 : Int32)), (.ref b19)])) rfl (by rw [hml]; rfl) (Steps.refl _) (argsL := [(.int (0 : Int32))]) (rest := []) (lenOf pd_oIcC rfl) rfl (by show 2 * 0 + _ ≤ _; exact Nat.le_of_eq rfl) (hb hby at_85) (fun _ _ => ⟨rfl, eh25, (by decide : 2 + 0 ≤ _), (by decide : 7 + 0 ≤ _)⟩)
  dsimp only [Pt.U, Pt.locs, Pt.cells, Pt.slots] at X28 l28 y28 z28 st28 hQ28
  subst l28 y28 z28
  obtain ⟨rfl, N28q, eh28⟩ := hQ28
  have N28 := Fr.app N25 N28q
  have pre29 : ∀ t, Steps p.tables e below (T28.setTop (mkF m 88 #[.val (.int p1), .val (.int p2), .val (.int p3), .val (.int p4), .val (.int p5), .val (.int p6), .val (.ref b2), .val (.int off), .val (.int len), .val (.int idx), .val (.ref b19), .val (.int (nar .char (own_at (nar .char p1.toUInt32.toUInt16.toUInt32.toInt32) (nar .char p2.toUInt32.toUInt16.toUInt32.toInt32) (nar .char p3.toUInt32.toUInt16.toUInt32.toInt32) (nar .char p4.toUInt32.toUInt16.toUInt32.toInt32) (off + idx)))), .unset, .unset, .unset, .unset] [(.int (nar .char (own_at (nar .char p1.toUInt32.toUInt16.toUInt32.toInt32) (nar .char p2.toUInt32.toUInt16.toUInt32.toInt32) (nar .char p3.toUInt32.toUInt16.toUInt32.toInt32) (nar .char p4.toUInt32.toUInt16.toUInt32.toInt32) (off + (0 : Int32)))))])) t → Steps p.tables e below (s₁.setTop (entryFrame m #[(.int p1), (.int p2), (.int p3), (.int p4), (.int p5), (.int p6)] maxLocals)) t := fun t k => pre27 t (st28.trans k)
  have pre30 : ∀ t, Steps p.tables e below (T28.setTop (mkF m 96 #[.val (.int p1), .val (.int p2), .val (.int p3), .val (.int p4), .val (.int p5), .val (.int p6), .val (.ref b2), .val (.int off), .val (.int len), .val (.int idx), .val (.ref b19), .val (.int (nar .char (own_at (nar .char p1.toUInt32.toUInt16.toUInt32.toInt32) (nar .char p2.toUInt32.toUInt16.toUInt32.toInt32) (nar .char p3.toUInt32.toUInt16.toUInt32.toInt32) (nar .char p4.toUInt32.toUInt16.toUInt32.toInt32) (off + idx)))), .val (.int (nar .char (own_at (nar .char p1.toUInt32.toUInt16.toUInt32.toInt32) (nar .char p2.toUInt32.toUInt16.toUInt32.toInt32) (nar .char p3.toUInt32.toUInt16.toUInt32.toInt32) (nar .char p4.toUInt32.toUInt16.toUInt32.toInt32) (off + (0 : Int32))))), .unset, .unset, .unset] [(.int (len - (1 : Int32))), (.ref b19)])) t → Steps p.tables e below (s₁.setTop (entryFrame m #[(.int p1), (.int p2), (.int p3), (.int p4), (.int p5), (.int p6)] maxLocals)) t := fun t k => pre29 t (by
    show Steps p.tables e below (T28.setTop (mkF m 88 #[.val (.int p1), .val (.int p2), .val (.int p3), .val (.int p4), .val (.int p5), .val (.int p6), .val (.ref b2), .val (.int off), .val (.int len), .val (.int idx), .val (.ref b19), .val (.int (nar .char (own_at (nar .char p1.toUInt32.toUInt16.toUInt32.toInt32) (nar .char p2.toUInt32.toUInt16.toUInt32.toInt32) (nar .char p3.toUInt32.toUInt16.toUInt32.toInt32) (nar .char p4.toUInt32.toUInt16.toUInt32.toInt32) (off + idx)))), .unset, .unset, .unset, .unset] [(.int (nar .char (own_at (nar .char p1.toUInt32.toUInt16.toUInt32.toInt32) (nar .char p2.toUInt32.toUInt16.toUInt32.toInt32) (nar .char p3.toUInt32.toUInt16.toUInt32.toInt32) (nar .char p4.toUInt32.toUInt16.toUInt32.toInt32) (off + (0 : Int32)))))])) t
    refine XS.istore X28.here hx rfl (hb hby at_88) rfl (l' := #[.val (.int p1), .val (.int p2), .val (.int p3), .val (.int p4), .val (.int p5), .val (.int p6), .val (.ref b2), .val (.int off), .val (.int len), .val (.int idx), .val (.ref b19), .val (.int (nar .char (own_at (nar .char p1.toUInt32.toUInt16.toUInt32.toInt32) (nar .char p2.toUInt32.toUInt16.toUInt32.toInt32) (nar .char p3.toUInt32.toUInt16.toUInt32.toInt32) (nar .char p4.toUInt32.toUInt16.toUInt32.toInt32) (off + idx)))), .val (.int (nar .char (own_at (nar .char p1.toUInt32.toUInt16.toUInt32.toInt32) (nar .char p2.toUInt32.toUInt16.toUInt32.toInt32) (nar .char p3.toUInt32.toUInt16.toUInt32.toInt32) (nar .char p4.toUInt32.toUInt16.toUInt32.toInt32) (off + (0 : Int32))))), .unset, .unset, .unset]) rfl ?_
    show Steps p.tables e below (T28.setTop (mkF m 90 #[.val (.int p1), .val (.int p2), .val (.int p3), .val (.int p4), .val (.int p5), .val (.int p6), .val (.ref b2), .val (.int off), .val (.int len), .val (.int idx), .val (.ref b19), .val (.int (nar .char (own_at (nar .char p1.toUInt32.toUInt16.toUInt32.toInt32) (nar .char p2.toUInt32.toUInt16.toUInt32.toInt32) (nar .char p3.toUInt32.toUInt16.toUInt32.toInt32) (nar .char p4.toUInt32.toUInt16.toUInt32.toInt32) (off + idx)))), .val (.int (nar .char (own_at (nar .char p1.toUInt32.toUInt16.toUInt32.toInt32) (nar .char p2.toUInt32.toUInt16.toUInt32.toInt32) (nar .char p3.toUInt32.toUInt16.toUInt32.toInt32) (nar .char p4.toUInt32.toUInt16.toUInt32.toInt32) (off + (0 : Int32))))), .unset, .unset, .unset] [])) t
    refine XS.aload X28.here hx rfl (hb hby at_90) rfl rfl ?_
    show Steps p.tables e below (T28.setTop (mkF m 92 #[.val (.int p1), .val (.int p2), .val (.int p3), .val (.int p4), .val (.int p5), .val (.int p6), .val (.ref b2), .val (.int off), .val (.int len), .val (.int idx), .val (.ref b19), .val (.int (nar .char (own_at (nar .char p1.toUInt32.toUInt16.toUInt32.toInt32) (nar .char p2.toUInt32.toUInt16.toUInt32.toInt32) (nar .char p3.toUInt32.toUInt16.toUInt32.toInt32) (nar .char p4.toUInt32.toUInt16.toUInt32.toInt32) (off + idx)))), .val (.int (nar .char (own_at (nar .char p1.toUInt32.toUInt16.toUInt32.toInt32) (nar .char p2.toUInt32.toUInt16.toUInt32.toInt32) (nar .char p3.toUInt32.toUInt16.toUInt32.toInt32) (nar .char p4.toUInt32.toUInt16.toUInt32.toInt32) (off + (0 : Int32))))), .unset, .unset, .unset] [(.ref b19)])) t
    refine XS.iload X28.here hx rfl (hb hby at_92) rfl ?_
    show Steps p.tables e below (T28.setTop (mkF m 94 #[.val (.int p1), .val (.int p2), .val (.int p3), .val (.int p4), .val (.int p5), .val (.int p6), .val (.ref b2), .val (.int off), .val (.int len), .val (.int idx), .val (.ref b19), .val (.int (nar .char (own_at (nar .char p1.toUInt32.toUInt16.toUInt32.toInt32) (nar .char p2.toUInt32.toUInt16.toUInt32.toInt32) (nar .char p3.toUInt32.toUInt16.toUInt32.toInt32) (nar .char p4.toUInt32.toUInt16.toUInt32.toInt32) (off + idx)))), .val (.int (nar .char (own_at (nar .char p1.toUInt32.toUInt16.toUInt32.toInt32) (nar .char p2.toUInt32.toUInt16.toUInt32.toInt32) (nar .char p3.toUInt32.toUInt16.toUInt32.toInt32) (nar .char p4.toUInt32.toUInt16.toUInt32.toInt32) (off + (0 : Int32))))), .unset, .unset, .unset] [(.int len), (.ref b19)])) t
    refine XS.iconst X28.here hx rfl (hb hby at_94) ?_
    show Steps p.tables e below (T28.setTop (mkF m 95 #[.val (.int p1), .val (.int p2), .val (.int p3), .val (.int p4), .val (.int p5), .val (.int p6), .val (.ref b2), .val (.int off), .val (.int len), .val (.int idx), .val (.ref b19), .val (.int (nar .char (own_at (nar .char p1.toUInt32.toUInt16.toUInt32.toInt32) (nar .char p2.toUInt32.toUInt16.toUInt32.toInt32) (nar .char p3.toUInt32.toUInt16.toUInt32.toInt32) (nar .char p4.toUInt32.toUInt16.toUInt32.toInt32) (off + idx)))), .val (.int (nar .char (own_at (nar .char p1.toUInt32.toUInt16.toUInt32.toInt32) (nar .char p2.toUInt32.toUInt16.toUInt32.toInt32) (nar .char p3.toUInt32.toUInt16.toUInt32.toInt32) (nar .char p4.toUInt32.toUInt16.toUInt32.toInt32) (off + (0 : Int32))))), .unset, .unset, .unset] [(.int (1 : Int32)), (.int len), (.ref b19)])) t
    refine XS.isub X28.here hx rfl (hb hby at_95) rfl ?_
    show Steps p.tables e below (T28.setTop (mkF m 96 #[.val (.int p1), .val (.int p2), .val (.int p3), .val (.int p4), .val (.int p5), .val (.int p6), .val (.ref b2), .val (.int off), .val (.int len), .val (.int idx), .val (.ref b19), .val (.int (nar .char (own_at (nar .char p1.toUInt32.toUInt16.toUInt32.toInt32) (nar .char p2.toUInt32.toUInt16.toUInt32.toInt32) (nar .char p3.toUInt32.toUInt16.toUInt32.toInt32) (nar .char p4.toUInt32.toUInt16.toUInt32.toInt32) (off + idx)))), .val (.int (nar .char (own_at (nar .char p1.toUInt32.toUInt16.toUInt32.toInt32) (nar .char p2.toUInt32.toUInt16.toUInt32.toInt32) (nar .char p3.toUInt32.toUInt16.toUInt32.toInt32) (nar .char p4.toUInt32.toUInt16.toUInt32.toInt32) (off + (0 : Int32))))), .unset, .unset, .unset] [(.int (len - (1 : Int32))), (.ref b19)])) t
    exact k)
  obtain ⟨cq31, kq31, q31a, q31b, q31c⟩ := isOf hZ eh28 P22_1
  obtain ⟨_, _, ⟨T31, L31, k31, n31⟩, -, X31, ⟨Lc31, hQ31, l31, y31, z31⟩, st31⟩ := X28.virtualBack hx (y := (⟨"com/example/precis/precis/iso2709/Chars", "charAt", "(I)C"⟩ : MethodName)) (z := (⟨"com/example/precis/precis/iso2709/Chars", "charAt", "(I)C"⟩ : MethodName)) hown (mvT hZ (hw _ (List.mem_of_getElem? (i := 30) rfl))) (mvT hZ (hw _ (List.mem_of_getElem? (i := 31) rfl))) (notFace_of_selects (args := #[]) (mvT hZ (hw _ (List.mem_of_getElem? (i := 33) rfl)))) (mvT hZ (hw _ (List.mem_of_getElem? (i := 33) rfl))) (mvT hZ (hw _ (List.mem_of_getElem? (i := 32) rfl))) (by decide) (backOf (W := 0) (rm6 l Z a0 hw [] b19 (len - (1 : Int32)) b2 off len k2 (nar .char p1.toUInt32.toUInt16.toUInt32.toInt32) (nar .char p2.toUInt32.toUInt16.toUInt32.toInt32) (nar .char p3.toUInt32.toUInt16.toUInt32.toInt32) (nar .char p4.toUInt32.toUInt16.toUInt32.toInt32) T22.heap n0 sz22 P22_2 P22_3 P22_4 V_b2__22 (show ¬ (len - (1 : Int32)) < (0 : Int32) from own_c1 (own_x1 hoff hlen)) (show (len - (1 : Int32)) < len from own_c2 (own_x1 hoff hlen)) (show ¬ (off + (len - (1 : Int32))) < (0 : Int32) ∧ (off + (len - (1 : Int32))) < (4 : Int32) from own_c3 hoff hlen (own_x1 hoff hlen))) hZ (hw _ (List.mem_of_getElem? (i := 34) rfl)) (hw _ (List.mem_of_getElem? (i := 4) rfl)) (by decide) (by decide)) q31a q31c (g := (mkF m 96 #[.val (.int p1), .val (.int p2), .val (.int p3), .val (.int p4), .val (.int p5), .val (.int p6), .val (.ref b2), .val (.int off), .val (.int len), .val (.int idx), .val (.ref b19), .val (.int (nar .char (own_at (nar .char p1.toUInt32.toUInt16.toUInt32.toInt32) (nar .char p2.toUInt32.toUInt16.toUInt32.toInt32) (nar .char p3.toUInt32.toUInt16.toUInt32.toInt32) (nar .char p4.toUInt32.toUInt16.toUInt32.toInt32) (off + idx)))), .val (.int (nar .char (own_at (nar .char p1.toUInt32.toUInt16.toUInt32.toInt32) (nar .char p2.toUInt32.toUInt16.toUInt32.toInt32) (nar .char p3.toUInt32.toUInt16.toUInt32.toInt32) (nar .char p4.toUInt32.toUInt16.toUInt32.toInt32) (off + (0 : Int32))))), .unset, .unset, .unset] [(.int (len - (1 : Int32))), (.ref b19)])) rfl (by rw [hml]; rfl) (Steps.refl _) (argsL := [(.int (len - (1 : Int32)))]) (rest := []) (lenOf pd_oIcC rfl) rfl (by show 2 * 0 + _ ≤ _; exact Nat.le_of_eq rfl) (hb hby at_96) (fun _ _ => ⟨rfl, eh28, (by decide : 2 + 0 ≤ _), (by decide : 7 + 0 ≤ _)⟩)
  dsimp only [Pt.U, Pt.locs, Pt.cells, Pt.slots] at X31 l31 y31 z31 st31 hQ31
  subst l31 y31 z31
  obtain ⟨rfl, N31q, eh31⟩ := hQ31
  have N31 := Fr.app N28 N31q
  have pre32 : ∀ t, Steps p.tables e below (T31.setTop (mkF m 99 #[.val (.int p1), .val (.int p2), .val (.int p3), .val (.int p4), .val (.int p5), .val (.int p6), .val (.ref b2), .val (.int off), .val (.int len), .val (.int idx), .val (.ref b19), .val (.int (nar .char (own_at (nar .char p1.toUInt32.toUInt16.toUInt32.toInt32) (nar .char p2.toUInt32.toUInt16.toUInt32.toInt32) (nar .char p3.toUInt32.toUInt16.toUInt32.toInt32) (nar .char p4.toUInt32.toUInt16.toUInt32.toInt32) (off + idx)))), .val (.int (nar .char (own_at (nar .char p1.toUInt32.toUInt16.toUInt32.toInt32) (nar .char p2.toUInt32.toUInt16.toUInt32.toInt32) (nar .char p3.toUInt32.toUInt16.toUInt32.toInt32) (nar .char p4.toUInt32.toUInt16.toUInt32.toInt32) (off + (0 : Int32))))), .unset, .unset, .unset] [(.int (nar .char (own_at (nar .char p1.toUInt32.toUInt16.toUInt32.toInt32) (nar .char p2.toUInt32.toUInt16.toUInt32.toInt32) (nar .char p3.toUInt32.toUInt16.toUInt32.toInt32) (nar .char p4.toUInt32.toUInt16.toUInt32.toInt32) (off + (len - (1 : Int32))))))])) t → Steps p.tables e below (s₁.setTop (entryFrame m #[(.int p1), (.int p2), (.int p3), (.int p4), (.int p5), (.int p6)] maxLocals)) t := fun t k => pre30 t (st31.trans k)
  have pre33 : ∀ t, Steps p.tables e below (T31.setTop (mkF m 112 #[.val (.int p1), .val (.int p2), .val (.int p3), .val (.int p4), .val (.int p5), .val (.int p6), .val (.ref b2), .val (.int off), .val (.int len), .val (.int idx), .val (.ref b19), .val (.int (nar .char (own_at (nar .char p1.toUInt32.toUInt16.toUInt32.toInt32) (nar .char p2.toUInt32.toUInt16.toUInt32.toInt32) (nar .char p3.toUInt32.toUInt16.toUInt32.toInt32) (nar .char p4.toUInt32.toUInt16.toUInt32.toInt32) (off + idx)))), .val (.int (nar .char (own_at (nar .char p1.toUInt32.toUInt16.toUInt32.toInt32) (nar .char p2.toUInt32.toUInt16.toUInt32.toInt32) (nar .char p3.toUInt32.toUInt16.toUInt32.toInt32) (nar .char p4.toUInt32.toUInt16.toUInt32.toInt32) (off + (0 : Int32))))), .val (.int (nar .char (own_at (nar .char p1.toUInt32.toUInt16.toUInt32.toInt32) (nar .char p2.toUInt32.toUInt16.toUInt32.toInt32) (nar .char p3.toUInt32.toUInt16.toUInt32.toInt32) (nar .char p4.toUInt32.toUInt16.toUInt32.toInt32) (off + (len - (1 : Int32)))))), .unset, .unset] [(.int (off + idx)), (.int p4), (.int p3), (.int p2), (.int p1), (.int (nar .char (own_at (nar .char p1.toUInt32.toUInt16.toUInt32.toInt32) (nar .char p2.toUInt32.toUInt16.toUInt32.toInt32) (nar .char p3.toUInt32.toUInt16.toUInt32.toInt32) (nar .char p4.toUInt32.toUInt16.toUInt32.toInt32) (off + idx))))])) t → Steps p.tables e below (s₁.setTop (entryFrame m #[(.int p1), (.int p2), (.int p3), (.int p4), (.int p5), (.int p6)] maxLocals)) t := fun t k => pre32 t (by
    show Steps p.tables e below (T31.setTop (mkF m 99 #[.val (.int p1), .val (.int p2), .val (.int p3), .val (.int p4), .val (.int p5), .val (.int p6), .val (.ref b2), .val (.int off), .val (.int len), .val (.int idx), .val (.ref b19), .val (.int (nar .char (own_at (nar .char p1.toUInt32.toUInt16.toUInt32.toInt32) (nar .char p2.toUInt32.toUInt16.toUInt32.toInt32) (nar .char p3.toUInt32.toUInt16.toUInt32.toInt32) (nar .char p4.toUInt32.toUInt16.toUInt32.toInt32) (off + idx)))), .val (.int (nar .char (own_at (nar .char p1.toUInt32.toUInt16.toUInt32.toInt32) (nar .char p2.toUInt32.toUInt16.toUInt32.toInt32) (nar .char p3.toUInt32.toUInt16.toUInt32.toInt32) (nar .char p4.toUInt32.toUInt16.toUInt32.toInt32) (off + (0 : Int32))))), .unset, .unset, .unset] [(.int (nar .char (own_at (nar .char p1.toUInt32.toUInt16.toUInt32.toInt32) (nar .char p2.toUInt32.toUInt16.toUInt32.toInt32) (nar .char p3.toUInt32.toUInt16.toUInt32.toInt32) (nar .char p4.toUInt32.toUInt16.toUInt32.toInt32) (off + (len - (1 : Int32))))))])) t
    refine XS.istore X31.here hx rfl (hb hby at_99) rfl (l' := #[.val (.int p1), .val (.int p2), .val (.int p3), .val (.int p4), .val (.int p5), .val (.int p6), .val (.ref b2), .val (.int off), .val (.int len), .val (.int idx), .val (.ref b19), .val (.int (nar .char (own_at (nar .char p1.toUInt32.toUInt16.toUInt32.toInt32) (nar .char p2.toUInt32.toUInt16.toUInt32.toInt32) (nar .char p3.toUInt32.toUInt16.toUInt32.toInt32) (nar .char p4.toUInt32.toUInt16.toUInt32.toInt32) (off + idx)))), .val (.int (nar .char (own_at (nar .char p1.toUInt32.toUInt16.toUInt32.toInt32) (nar .char p2.toUInt32.toUInt16.toUInt32.toInt32) (nar .char p3.toUInt32.toUInt16.toUInt32.toInt32) (nar .char p4.toUInt32.toUInt16.toUInt32.toInt32) (off + (0 : Int32))))), .val (.int (nar .char (own_at (nar .char p1.toUInt32.toUInt16.toUInt32.toInt32) (nar .char p2.toUInt32.toUInt16.toUInt32.toInt32) (nar .char p3.toUInt32.toUInt16.toUInt32.toInt32) (nar .char p4.toUInt32.toUInt16.toUInt32.toInt32) (off + (len - (1 : Int32)))))), .unset, .unset]) rfl ?_
    show Steps p.tables e below (T31.setTop (mkF m 101 #[.val (.int p1), .val (.int p2), .val (.int p3), .val (.int p4), .val (.int p5), .val (.int p6), .val (.ref b2), .val (.int off), .val (.int len), .val (.int idx), .val (.ref b19), .val (.int (nar .char (own_at (nar .char p1.toUInt32.toUInt16.toUInt32.toInt32) (nar .char p2.toUInt32.toUInt16.toUInt32.toInt32) (nar .char p3.toUInt32.toUInt16.toUInt32.toInt32) (nar .char p4.toUInt32.toUInt16.toUInt32.toInt32) (off + idx)))), .val (.int (nar .char (own_at (nar .char p1.toUInt32.toUInt16.toUInt32.toInt32) (nar .char p2.toUInt32.toUInt16.toUInt32.toInt32) (nar .char p3.toUInt32.toUInt16.toUInt32.toInt32) (nar .char p4.toUInt32.toUInt16.toUInt32.toInt32) (off + (0 : Int32))))), .val (.int (nar .char (own_at (nar .char p1.toUInt32.toUInt16.toUInt32.toInt32) (nar .char p2.toUInt32.toUInt16.toUInt32.toInt32) (nar .char p3.toUInt32.toUInt16.toUInt32.toInt32) (nar .char p4.toUInt32.toUInt16.toUInt32.toInt32) (off + (len - (1 : Int32)))))), .unset, .unset] [])) t
    refine XS.iload X31.here hx rfl (hb hby at_101) rfl ?_
    show Steps p.tables e below (T31.setTop (mkF m 103 #[.val (.int p1), .val (.int p2), .val (.int p3), .val (.int p4), .val (.int p5), .val (.int p6), .val (.ref b2), .val (.int off), .val (.int len), .val (.int idx), .val (.ref b19), .val (.int (nar .char (own_at (nar .char p1.toUInt32.toUInt16.toUInt32.toInt32) (nar .char p2.toUInt32.toUInt16.toUInt32.toInt32) (nar .char p3.toUInt32.toUInt16.toUInt32.toInt32) (nar .char p4.toUInt32.toUInt16.toUInt32.toInt32) (off + idx)))), .val (.int (nar .char (own_at (nar .char p1.toUInt32.toUInt16.toUInt32.toInt32) (nar .char p2.toUInt32.toUInt16.toUInt32.toInt32) (nar .char p3.toUInt32.toUInt16.toUInt32.toInt32) (nar .char p4.toUInt32.toUInt16.toUInt32.toInt32) (off + (0 : Int32))))), .val (.int (nar .char (own_at (nar .char p1.toUInt32.toUInt16.toUInt32.toInt32) (nar .char p2.toUInt32.toUInt16.toUInt32.toInt32) (nar .char p3.toUInt32.toUInt16.toUInt32.toInt32) (nar .char p4.toUInt32.toUInt16.toUInt32.toInt32) (off + (len - (1 : Int32)))))), .unset, .unset] [(.int (nar .char (own_at (nar .char p1.toUInt32.toUInt16.toUInt32.toInt32) (nar .char p2.toUInt32.toUInt16.toUInt32.toInt32) (nar .char p3.toUInt32.toUInt16.toUInt32.toInt32) (nar .char p4.toUInt32.toUInt16.toUInt32.toInt32) (off + idx))))])) t
    refine XS.iloadN X31.here hx rfl (hb hby at_103) rfl ?_
    show Steps p.tables e below (T31.setTop (mkF m 104 #[.val (.int p1), .val (.int p2), .val (.int p3), .val (.int p4), .val (.int p5), .val (.int p6), .val (.ref b2), .val (.int off), .val (.int len), .val (.int idx), .val (.ref b19), .val (.int (nar .char (own_at (nar .char p1.toUInt32.toUInt16.toUInt32.toInt32) (nar .char p2.toUInt32.toUInt16.toUInt32.toInt32) (nar .char p3.toUInt32.toUInt16.toUInt32.toInt32) (nar .char p4.toUInt32.toUInt16.toUInt32.toInt32) (off + idx)))), .val (.int (nar .char (own_at (nar .char p1.toUInt32.toUInt16.toUInt32.toInt32) (nar .char p2.toUInt32.toUInt16.toUInt32.toInt32) (nar .char p3.toUInt32.toUInt16.toUInt32.toInt32) (nar .char p4.toUInt32.toUInt16.toUInt32.toInt32) (off + (0 : Int32))))), .val (.int (nar .char (own_at (nar .char p1.toUInt32.toUInt16.toUInt32.toInt32) (nar .char p2.toUInt32.toUInt16.toUInt32.toInt32) (nar .char p3.toUInt32.toUInt16.toUInt32.toInt32) (nar .char p4.toUInt32.toUInt16.toUInt32.toInt32) (off + (len - (1 : Int32)))))), .unset, .unset] [(.int p1), (.int (nar .char (own_at (nar .char p1.toUInt32.toUInt16.toUInt32.toInt32) (nar .char p2.toUInt32.toUInt16.toUInt32.toInt32) (nar .char p3.toUInt32.toUInt16.toUInt32.toInt32) (nar .char p4.toUInt32.toUInt16.toUInt32.toInt32) (off + idx))))])) t
    refine XS.iloadN X31.here hx rfl (hb hby at_104) rfl ?_
    show Steps p.tables e below (T31.setTop (mkF m 105 #[.val (.int p1), .val (.int p2), .val (.int p3), .val (.int p4), .val (.int p5), .val (.int p6), .val (.ref b2), .val (.int off), .val (.int len), .val (.int idx), .val (.ref b19), .val (.int (nar .char (own_at (nar .char p1.toUInt32.toUInt16.toUInt32.toInt32) (nar .char p2.toUInt32.toUInt16.toUInt32.toInt32) (nar .char p3.toUInt32.toUInt16.toUInt32.toInt32) (nar .char p4.toUInt32.toUInt16.toUInt32.toInt32) (off + idx)))), .val (.int (nar .char (own_at (nar .char p1.toUInt32.toUInt16.toUInt32.toInt32) (nar .char p2.toUInt32.toUInt16.toUInt32.toInt32) (nar .char p3.toUInt32.toUInt16.toUInt32.toInt32) (nar .char p4.toUInt32.toUInt16.toUInt32.toInt32) (off + (0 : Int32))))), .val (.int (nar .char (own_at (nar .char p1.toUInt32.toUInt16.toUInt32.toInt32) (nar .char p2.toUInt32.toUInt16.toUInt32.toInt32) (nar .char p3.toUInt32.toUInt16.toUInt32.toInt32) (nar .char p4.toUInt32.toUInt16.toUInt32.toInt32) (off + (len - (1 : Int32)))))), .unset, .unset] [(.int p2), (.int p1), (.int (nar .char (own_at (nar .char p1.toUInt32.toUInt16.toUInt32.toInt32) (nar .char p2.toUInt32.toUInt16.toUInt32.toInt32) (nar .char p3.toUInt32.toUInt16.toUInt32.toInt32) (nar .char p4.toUInt32.toUInt16.toUInt32.toInt32) (off + idx))))])) t
    refine XS.iloadN X31.here hx rfl (hb hby at_105) rfl ?_
    show Steps p.tables e below (T31.setTop (mkF m 106 #[.val (.int p1), .val (.int p2), .val (.int p3), .val (.int p4), .val (.int p5), .val (.int p6), .val (.ref b2), .val (.int off), .val (.int len), .val (.int idx), .val (.ref b19), .val (.int (nar .char (own_at (nar .char p1.toUInt32.toUInt16.toUInt32.toInt32) (nar .char p2.toUInt32.toUInt16.toUInt32.toInt32) (nar .char p3.toUInt32.toUInt16.toUInt32.toInt32) (nar .char p4.toUInt32.toUInt16.toUInt32.toInt32) (off + idx)))), .val (.int (nar .char (own_at (nar .char p1.toUInt32.toUInt16.toUInt32.toInt32) (nar .char p2.toUInt32.toUInt16.toUInt32.toInt32) (nar .char p3.toUInt32.toUInt16.toUInt32.toInt32) (nar .char p4.toUInt32.toUInt16.toUInt32.toInt32) (off + (0 : Int32))))), .val (.int (nar .char (own_at (nar .char p1.toUInt32.toUInt16.toUInt32.toInt32) (nar .char p2.toUInt32.toUInt16.toUInt32.toInt32) (nar .char p3.toUInt32.toUInt16.toUInt32.toInt32) (nar .char p4.toUInt32.toUInt16.toUInt32.toInt32) (off + (len - (1 : Int32)))))), .unset, .unset] [(.int p3), (.int p2), (.int p1), (.int (nar .char (own_at (nar .char p1.toUInt32.toUInt16.toUInt32.toInt32) (nar .char p2.toUInt32.toUInt16.toUInt32.toInt32) (nar .char p3.toUInt32.toUInt16.toUInt32.toInt32) (nar .char p4.toUInt32.toUInt16.toUInt32.toInt32) (off + idx))))])) t
    refine XS.iloadN X31.here hx rfl (hb hby at_106) rfl ?_
    show Steps p.tables e below (T31.setTop (mkF m 107 #[.val (.int p1), .val (.int p2), .val (.int p3), .val (.int p4), .val (.int p5), .val (.int p6), .val (.ref b2), .val (.int off), .val (.int len), .val (.int idx), .val (.ref b19), .val (.int (nar .char (own_at (nar .char p1.toUInt32.toUInt16.toUInt32.toInt32) (nar .char p2.toUInt32.toUInt16.toUInt32.toInt32) (nar .char p3.toUInt32.toUInt16.toUInt32.toInt32) (nar .char p4.toUInt32.toUInt16.toUInt32.toInt32) (off + idx)))), .val (.int (nar .char (own_at (nar .char p1.toUInt32.toUInt16.toUInt32.toInt32) (nar .char p2.toUInt32.toUInt16.toUInt32.toInt32) (nar .char p3.toUInt32.toUInt16.toUInt32.toInt32) (nar .char p4.toUInt32.toUInt16.toUInt32.toInt32) (off + (0 : Int32))))), .val (.int (nar .char (own_at (nar .char p1.toUInt32.toUInt16.toUInt32.toInt32) (nar .char p2.toUInt32.toUInt16.toUInt32.toInt32) (nar .char p3.toUInt32.toUInt16.toUInt32.toInt32) (nar .char p4.toUInt32.toUInt16.toUInt32.toInt32) (off + (len - (1 : Int32)))))), .unset, .unset] [(.int p4), (.int p3), (.int p2), (.int p1), (.int (nar .char (own_at (nar .char p1.toUInt32.toUInt16.toUInt32.toInt32) (nar .char p2.toUInt32.toUInt16.toUInt32.toInt32) (nar .char p3.toUInt32.toUInt16.toUInt32.toInt32) (nar .char p4.toUInt32.toUInt16.toUInt32.toInt32) (off + idx))))])) t
    refine XS.iload X31.here hx rfl (hb hby at_107) rfl ?_
    show Steps p.tables e below (T31.setTop (mkF m 109 #[.val (.int p1), .val (.int p2), .val (.int p3), .val (.int p4), .val (.int p5), .val (.int p6), .val (.ref b2), .val (.int off), .val (.int len), .val (.int idx), .val (.ref b19), .val (.int (nar .char (own_at (nar .char p1.toUInt32.toUInt16.toUInt32.toInt32) (nar .char p2.toUInt32.toUInt16.toUInt32.toInt32) (nar .char p3.toUInt32.toUInt16.toUInt32.toInt32) (nar .char p4.toUInt32.toUInt16.toUInt32.toInt32) (off + idx)))), .val (.int (nar .char (own_at (nar .char p1.toUInt32.toUInt16.toUInt32.toInt32) (nar .char p2.toUInt32.toUInt16.toUInt32.toInt32) (nar .char p3.toUInt32.toUInt16.toUInt32.toInt32) (nar .char p4.toUInt32.toUInt16.toUInt32.toInt32) (off + (0 : Int32))))), .val (.int (nar .char (own_at (nar .char p1.toUInt32.toUInt16.toUInt32.toInt32) (nar .char p2.toUInt32.toUInt16.toUInt32.toInt32) (nar .char p3.toUInt32.toUInt16.toUInt32.toInt32) (nar .char p4.toUInt32.toUInt16.toUInt32.toInt32) (off + (len - (1 : Int32)))))), .unset, .unset] [(.int off), (.int p4), (.int p3), (.int p2), (.int p1), (.int (nar .char (own_at (nar .char p1.toUInt32.toUInt16.toUInt32.toInt32) (nar .char p2.toUInt32.toUInt16.toUInt32.toInt32) (nar .char p3.toUInt32.toUInt16.toUInt32.toInt32) (nar .char p4.toUInt32.toUInt16.toUInt32.toInt32) (off + idx))))])) t
    refine XS.iload X31.here hx rfl (hb hby at_109) rfl ?_
    show Steps p.tables e below (T31.setTop (mkF m 111 #[.val (.int p1), .val (.int p2), .val (.int p3), .val (.int p4), .val (.int p5), .val (.int p6), .val (.ref b2), .val (.int off), .val (.int len), .val (.int idx), .val (.ref b19), .val (.int (nar .char (own_at (nar .char p1.toUInt32.toUInt16.toUInt32.toInt32) (nar .char p2.toUInt32.toUInt16.toUInt32.toInt32) (nar .char p3.toUInt32.toUInt16.toUInt32.toInt32) (nar .char p4.toUInt32.toUInt16.toUInt32.toInt32) (off + idx)))), .val (.int (nar .char (own_at (nar .char p1.toUInt32.toUInt16.toUInt32.toInt32) (nar .char p2.toUInt32.toUInt16.toUInt32.toInt32) (nar .char p3.toUInt32.toUInt16.toUInt32.toInt32) (nar .char p4.toUInt32.toUInt16.toUInt32.toInt32) (off + (0 : Int32))))), .val (.int (nar .char (own_at (nar .char p1.toUInt32.toUInt16.toUInt32.toInt32) (nar .char p2.toUInt32.toUInt16.toUInt32.toInt32) (nar .char p3.toUInt32.toUInt16.toUInt32.toInt32) (nar .char p4.toUInt32.toUInt16.toUInt32.toInt32) (off + (len - (1 : Int32)))))), .unset, .unset] [(.int idx), (.int off), (.int p4), (.int p3), (.int p2), (.int p1), (.int (nar .char (own_at (nar .char p1.toUInt32.toUInt16.toUInt32.toInt32) (nar .char p2.toUInt32.toUInt16.toUInt32.toInt32) (nar .char p3.toUInt32.toUInt16.toUInt32.toInt32) (nar .char p4.toUInt32.toUInt16.toUInt32.toInt32) (off + idx))))])) t
    refine XS.iadd X31.here hx rfl (hb hby at_111) rfl ?_
    show Steps p.tables e below (T31.setTop (mkF m 112 #[.val (.int p1), .val (.int p2), .val (.int p3), .val (.int p4), .val (.int p5), .val (.int p6), .val (.ref b2), .val (.int off), .val (.int len), .val (.int idx), .val (.ref b19), .val (.int (nar .char (own_at (nar .char p1.toUInt32.toUInt16.toUInt32.toInt32) (nar .char p2.toUInt32.toUInt16.toUInt32.toInt32) (nar .char p3.toUInt32.toUInt16.toUInt32.toInt32) (nar .char p4.toUInt32.toUInt16.toUInt32.toInt32) (off + idx)))), .val (.int (nar .char (own_at (nar .char p1.toUInt32.toUInt16.toUInt32.toInt32) (nar .char p2.toUInt32.toUInt16.toUInt32.toInt32) (nar .char p3.toUInt32.toUInt16.toUInt32.toInt32) (nar .char p4.toUInt32.toUInt16.toUInt32.toInt32) (off + (0 : Int32))))), .val (.int (nar .char (own_at (nar .char p1.toUInt32.toUInt16.toUInt32.toInt32) (nar .char p2.toUInt32.toUInt16.toUInt32.toInt32) (nar .char p3.toUInt32.toUInt16.toUInt32.toInt32) (nar .char p4.toUInt32.toUInt16.toUInt32.toInt32) (off + (len - (1 : Int32)))))), .unset, .unset] [(.int (off + idx)), (.int p4), (.int p3), (.int p2), (.int p1), (.int (nar .char (own_at (nar .char p1.toUInt32.toUInt16.toUInt32.toInt32) (nar .char p2.toUInt32.toUInt16.toUInt32.toInt32) (nar .char p3.toUInt32.toUInt16.toUInt32.toInt32) (nar .char p4.toUInt32.toUInt16.toUInt32.toInt32) (off + idx))))])) t
    exact k)
  obtain ⟨_, _, ⟨T34, L34, k34, n34⟩, -, X34, ⟨Lc34, hQ34, l34, y34, z34⟩, st34⟩ := Jvm.LawKit.callS X31 hx (y := (⟨"com/example/precis/precis/iso2709/CharsCharAtPinLaw", "pick", "(IIIII)C"⟩ : MethodName)) hown (mvT hZ (hw _ (List.mem_of_getElem? (i := 41) rfl))) (mvT hZ (hw _ (List.mem_of_getElem? (i := 42) rfl))) (mvT hZ (hw _ (List.mem_of_getElem? (i := 43) rfl))) (mvT hZ (hw _ (List.mem_of_getElem? (i := 44) rfl))) (by decide) (backOf (W := 1) (rm9 l Z a0 hw [] p1 p2 p3 p4 (off + idx) T22.heap n0 sz22 ) hZ (hw _ (List.mem_of_getElem? (i := 44) rfl)) (hw _ (List.mem_of_getElem? (i := 43) rfl)) (by decide) (by decide)) (g := (mkF m 112 #[.val (.int p1), .val (.int p2), .val (.int p3), .val (.int p4), .val (.int p5), .val (.int p6), .val (.ref b2), .val (.int off), .val (.int len), .val (.int idx), .val (.ref b19), .val (.int (nar .char (own_at (nar .char p1.toUInt32.toUInt16.toUInt32.toInt32) (nar .char p2.toUInt32.toUInt16.toUInt32.toInt32) (nar .char p3.toUInt32.toUInt16.toUInt32.toInt32) (nar .char p4.toUInt32.toUInt16.toUInt32.toInt32) (off + idx)))), .val (.int (nar .char (own_at (nar .char p1.toUInt32.toUInt16.toUInt32.toInt32) (nar .char p2.toUInt32.toUInt16.toUInt32.toInt32) (nar .char p3.toUInt32.toUInt16.toUInt32.toInt32) (nar .char p4.toUInt32.toUInt16.toUInt32.toInt32) (off + (0 : Int32))))), .val (.int (nar .char (own_at (nar .char p1.toUInt32.toUInt16.toUInt32.toInt32) (nar .char p2.toUInt32.toUInt16.toUInt32.toInt32) (nar .char p3.toUInt32.toUInt16.toUInt32.toInt32) (nar .char p4.toUInt32.toUInt16.toUInt32.toInt32) (off + (len - (1 : Int32)))))), .unset, .unset] [(.int (off + idx)), (.int p4), (.int p3), (.int p2), (.int p1), (.int (nar .char (own_at (nar .char p1.toUInt32.toUInt16.toUInt32.toInt32) (nar .char p2.toUInt32.toUInt16.toUInt32.toInt32) (nar .char p3.toUInt32.toUInt16.toUInt32.toInt32) (nar .char p4.toUInt32.toUInt16.toUInt32.toInt32) (off + idx))))])) rfl (by rw [hml]; rfl) (argsL := [(.int p1), (.int p2), (.int p3), (.int p4), (.int (off + idx))]) (rest := [(.int (nar .char (own_at (nar .char p1.toUInt32.toUInt16.toUInt32.toInt32) (nar .char p2.toUInt32.toUInt16.toUInt32.toInt32) (nar .char p3.toUInt32.toUInt16.toUInt32.toInt32) (nar .char p4.toUInt32.toUInt16.toUInt32.toInt32) (off + idx))))]) (lenOf pd_oIIIIIcC rfl) rfl (by show 2 * 0 + _ ≤ _; exact Nat.le_of_eq rfl) (hb hby at_112) (fun _ _ => ⟨rfl, eh31, (by decide : 2 + 0 ≤ _), (by decide : 7 + 0 ≤ _)⟩)
  dsimp only [Pt.U, Pt.locs, Pt.cells, Pt.slots] at X34 l34 y34 z34 st34 hQ34
  subst l34 y34 z34
  obtain ⟨rfl, N34q, eh34⟩ := hQ34
  have N34 := Fr.app N31 N34q
  have pre35 : ∀ t, Steps p.tables e below (T34.setTop (mkF m 115 #[.val (.int p1), .val (.int p2), .val (.int p3), .val (.int p4), .val (.int p5), .val (.int p6), .val (.ref b2), .val (.int off), .val (.int len), .val (.int idx), .val (.ref b19), .val (.int (nar .char (own_at (nar .char p1.toUInt32.toUInt16.toUInt32.toInt32) (nar .char p2.toUInt32.toUInt16.toUInt32.toInt32) (nar .char p3.toUInt32.toUInt16.toUInt32.toInt32) (nar .char p4.toUInt32.toUInt16.toUInt32.toInt32) (off + idx)))), .val (.int (nar .char (own_at (nar .char p1.toUInt32.toUInt16.toUInt32.toInt32) (nar .char p2.toUInt32.toUInt16.toUInt32.toInt32) (nar .char p3.toUInt32.toUInt16.toUInt32.toInt32) (nar .char p4.toUInt32.toUInt16.toUInt32.toInt32) (off + (0 : Int32))))), .val (.int (nar .char (own_at (nar .char p1.toUInt32.toUInt16.toUInt32.toInt32) (nar .char p2.toUInt32.toUInt16.toUInt32.toInt32) (nar .char p3.toUInt32.toUInt16.toUInt32.toInt32) (nar .char p4.toUInt32.toUInt16.toUInt32.toInt32) (off + (len - (1 : Int32)))))), .unset, .unset] [(.int (own_pick p1 p2 p3 p4 (off + idx))), (.int (nar .char (own_at (nar .char p1.toUInt32.toUInt16.toUInt32.toInt32) (nar .char p2.toUInt32.toUInt16.toUInt32.toInt32) (nar .char p3.toUInt32.toUInt16.toUInt32.toInt32) (nar .char p4.toUInt32.toUInt16.toUInt32.toInt32) (off + idx))))])) t → Steps p.tables e below (s₁.setTop (entryFrame m #[(.int p1), (.int p2), (.int p3), (.int p4), (.int p5), (.int p6)] maxLocals)) t := fun t k => pre33 t (st34 _ k)
  have pre37 : ∀ t, Steps p.tables e below (T34.setTop (mkF m 126 #[.val (.int p1), .val (.int p2), .val (.int p3), .val (.int p4), .val (.int p5), .val (.int p6), .val (.ref b2), .val (.int off), .val (.int len), .val (.int idx), .val (.ref b19), .val (.int (nar .char (own_at (nar .char p1.toUInt32.toUInt16.toUInt32.toInt32) (nar .char p2.toUInt32.toUInt16.toUInt32.toInt32) (nar .char p3.toUInt32.toUInt16.toUInt32.toInt32) (nar .char p4.toUInt32.toUInt16.toUInt32.toInt32) (off + idx)))), .val (.int (nar .char (own_at (nar .char p1.toUInt32.toUInt16.toUInt32.toInt32) (nar .char p2.toUInt32.toUInt16.toUInt32.toInt32) (nar .char p3.toUInt32.toUInt16.toUInt32.toInt32) (nar .char p4.toUInt32.toUInt16.toUInt32.toInt32) (off + (0 : Int32))))), .val (.int (nar .char (own_at (nar .char p1.toUInt32.toUInt16.toUInt32.toInt32) (nar .char p2.toUInt32.toUInt16.toUInt32.toInt32) (nar .char p3.toUInt32.toUInt16.toUInt32.toInt32) (nar .char p4.toUInt32.toUInt16.toUInt32.toInt32) (off + (len - (1 : Int32)))))), .unset, .unset] [(.int off), (.int p4), (.int p3), (.int p2), (.int p1), (.int (nar .char (own_at (nar .char p1.toUInt32.toUInt16.toUInt32.toInt32) (nar .char p2.toUInt32.toUInt16.toUInt32.toInt32) (nar .char p3.toUInt32.toUInt16.toUInt32.toInt32) (nar .char p4.toUInt32.toUInt16.toUInt32.toInt32) (off + (0 : Int32)))))])) t → Steps p.tables e below (s₁.setTop (entryFrame m #[(.int p1), (.int p2), (.int p3), (.int p4), (.int p5), (.int p6)] maxLocals)) t := fun t k => pre35 t (by
    show Steps p.tables e below (T34.setTop (mkF m 115 #[.val (.int p1), .val (.int p2), .val (.int p3), .val (.int p4), .val (.int p5), .val (.int p6), .val (.ref b2), .val (.int off), .val (.int len), .val (.int idx), .val (.ref b19), .val (.int (nar .char (own_at (nar .char p1.toUInt32.toUInt16.toUInt32.toInt32) (nar .char p2.toUInt32.toUInt16.toUInt32.toInt32) (nar .char p3.toUInt32.toUInt16.toUInt32.toInt32) (nar .char p4.toUInt32.toUInt16.toUInt32.toInt32) (off + idx)))), .val (.int (nar .char (own_at (nar .char p1.toUInt32.toUInt16.toUInt32.toInt32) (nar .char p2.toUInt32.toUInt16.toUInt32.toInt32) (nar .char p3.toUInt32.toUInt16.toUInt32.toInt32) (nar .char p4.toUInt32.toUInt16.toUInt32.toInt32) (off + (0 : Int32))))), .val (.int (nar .char (own_at (nar .char p1.toUInt32.toUInt16.toUInt32.toInt32) (nar .char p2.toUInt32.toUInt16.toUInt32.toInt32) (nar .char p3.toUInt32.toUInt16.toUInt32.toInt32) (nar .char p4.toUInt32.toUInt16.toUInt32.toInt32) (off + (len - (1 : Int32)))))), .unset, .unset] [(.int (own_pick p1 p2 p3 p4 (off + idx))), (.int (nar .char (own_at (nar .char p1.toUInt32.toUInt16.toUInt32.toInt32) (nar .char p2.toUInt32.toUInt16.toUInt32.toInt32) (nar .char p3.toUInt32.toUInt16.toUInt32.toInt32) (nar .char p4.toUInt32.toUInt16.toUInt32.toInt32) (off + idx))))])) t
    refine XS.icmpNo X34.here hx rfl (hb hby at_115) rfl (XT.ii_ne_f (show (nar .char (own_at (nar .char p1.toUInt32.toUInt16.toUInt32.toInt32) (nar .char p2.toUInt32.toUInt16.toUInt32.toInt32) (nar .char p3.toUInt32.toUInt16.toUInt32.toInt32) (nar .char p4.toUInt32.toUInt16.toUInt32.toInt32) (off + idx))) = (own_pick p1 p2 p3 p4 (off + idx)) from own_eq _ _ _ _ _)) ?_
    show Steps p.tables e below (T34.setTop (mkF m 118 #[.val (.int p1), .val (.int p2), .val (.int p3), .val (.int p4), .val (.int p5), .val (.int p6), .val (.ref b2), .val (.int off), .val (.int len), .val (.int idx), .val (.ref b19), .val (.int (nar .char (own_at (nar .char p1.toUInt32.toUInt16.toUInt32.toInt32) (nar .char p2.toUInt32.toUInt16.toUInt32.toInt32) (nar .char p3.toUInt32.toUInt16.toUInt32.toInt32) (nar .char p4.toUInt32.toUInt16.toUInt32.toInt32) (off + idx)))), .val (.int (nar .char (own_at (nar .char p1.toUInt32.toUInt16.toUInt32.toInt32) (nar .char p2.toUInt32.toUInt16.toUInt32.toInt32) (nar .char p3.toUInt32.toUInt16.toUInt32.toInt32) (nar .char p4.toUInt32.toUInt16.toUInt32.toInt32) (off + (0 : Int32))))), .val (.int (nar .char (own_at (nar .char p1.toUInt32.toUInt16.toUInt32.toInt32) (nar .char p2.toUInt32.toUInt16.toUInt32.toInt32) (nar .char p3.toUInt32.toUInt16.toUInt32.toInt32) (nar .char p4.toUInt32.toUInt16.toUInt32.toInt32) (off + (len - (1 : Int32)))))), .unset, .unset] [])) t
    refine XS.iload X34.here hx rfl (hb hby at_118) rfl ?_
    show Steps p.tables e below (T34.setTop (mkF m 120 #[.val (.int p1), .val (.int p2), .val (.int p3), .val (.int p4), .val (.int p5), .val (.int p6), .val (.ref b2), .val (.int off), .val (.int len), .val (.int idx), .val (.ref b19), .val (.int (nar .char (own_at (nar .char p1.toUInt32.toUInt16.toUInt32.toInt32) (nar .char p2.toUInt32.toUInt16.toUInt32.toInt32) (nar .char p3.toUInt32.toUInt16.toUInt32.toInt32) (nar .char p4.toUInt32.toUInt16.toUInt32.toInt32) (off + idx)))), .val (.int (nar .char (own_at (nar .char p1.toUInt32.toUInt16.toUInt32.toInt32) (nar .char p2.toUInt32.toUInt16.toUInt32.toInt32) (nar .char p3.toUInt32.toUInt16.toUInt32.toInt32) (nar .char p4.toUInt32.toUInt16.toUInt32.toInt32) (off + (0 : Int32))))), .val (.int (nar .char (own_at (nar .char p1.toUInt32.toUInt16.toUInt32.toInt32) (nar .char p2.toUInt32.toUInt16.toUInt32.toInt32) (nar .char p3.toUInt32.toUInt16.toUInt32.toInt32) (nar .char p4.toUInt32.toUInt16.toUInt32.toInt32) (off + (len - (1 : Int32)))))), .unset, .unset] [(.int (nar .char (own_at (nar .char p1.toUInt32.toUInt16.toUInt32.toInt32) (nar .char p2.toUInt32.toUInt16.toUInt32.toInt32) (nar .char p3.toUInt32.toUInt16.toUInt32.toInt32) (nar .char p4.toUInt32.toUInt16.toUInt32.toInt32) (off + (0 : Int32)))))])) t
    refine XS.iloadN X34.here hx rfl (hb hby at_120) rfl ?_
    show Steps p.tables e below (T34.setTop (mkF m 121 #[.val (.int p1), .val (.int p2), .val (.int p3), .val (.int p4), .val (.int p5), .val (.int p6), .val (.ref b2), .val (.int off), .val (.int len), .val (.int idx), .val (.ref b19), .val (.int (nar .char (own_at (nar .char p1.toUInt32.toUInt16.toUInt32.toInt32) (nar .char p2.toUInt32.toUInt16.toUInt32.toInt32) (nar .char p3.toUInt32.toUInt16.toUInt32.toInt32) (nar .char p4.toUInt32.toUInt16.toUInt32.toInt32) (off + idx)))), .val (.int (nar .char (own_at (nar .char p1.toUInt32.toUInt16.toUInt32.toInt32) (nar .char p2.toUInt32.toUInt16.toUInt32.toInt32) (nar .char p3.toUInt32.toUInt16.toUInt32.toInt32) (nar .char p4.toUInt32.toUInt16.toUInt32.toInt32) (off + (0 : Int32))))), .val (.int (nar .char (own_at (nar .char p1.toUInt32.toUInt16.toUInt32.toInt32) (nar .char p2.toUInt32.toUInt16.toUInt32.toInt32) (nar .char p3.toUInt32.toUInt16.toUInt32.toInt32) (nar .char p4.toUInt32.toUInt16.toUInt32.toInt32) (off + (len - (1 : Int32)))))), .unset, .unset] [(.int p1), (.int (nar .char (own_at (nar .char p1.toUInt32.toUInt16.toUInt32.toInt32) (nar .char p2.toUInt32.toUInt16.toUInt32.toInt32) (nar .char p3.toUInt32.toUInt16.toUInt32.toInt32) (nar .char p4.toUInt32.toUInt16.toUInt32.toInt32) (off + (0 : Int32)))))])) t
    refine XS.iloadN X34.here hx rfl (hb hby at_121) rfl ?_
    show Steps p.tables e below (T34.setTop (mkF m 122 #[.val (.int p1), .val (.int p2), .val (.int p3), .val (.int p4), .val (.int p5), .val (.int p6), .val (.ref b2), .val (.int off), .val (.int len), .val (.int idx), .val (.ref b19), .val (.int (nar .char (own_at (nar .char p1.toUInt32.toUInt16.toUInt32.toInt32) (nar .char p2.toUInt32.toUInt16.toUInt32.toInt32) (nar .char p3.toUInt32.toUInt16.toUInt32.toInt32) (nar .char p4.toUInt32.toUInt16.toUInt32.toInt32) (off + idx)))), .val (.int (nar .char (own_at (nar .char p1.toUInt32.toUInt16.toUInt32.toInt32) (nar .char p2.toUInt32.toUInt16.toUInt32.toInt32) (nar .char p3.toUInt32.toUInt16.toUInt32.toInt32) (nar .char p4.toUInt32.toUInt16.toUInt32.toInt32) (off + (0 : Int32))))), .val (.int (nar .char (own_at (nar .char p1.toUInt32.toUInt16.toUInt32.toInt32) (nar .char p2.toUInt32.toUInt16.toUInt32.toInt32) (nar .char p3.toUInt32.toUInt16.toUInt32.toInt32) (nar .char p4.toUInt32.toUInt16.toUInt32.toInt32) (off + (len - (1 : Int32)))))), .unset, .unset] [(.int p2), (.int p1), (.int (nar .char (own_at (nar .char p1.toUInt32.toUInt16.toUInt32.toInt32) (nar .char p2.toUInt32.toUInt16.toUInt32.toInt32) (nar .char p3.toUInt32.toUInt16.toUInt32.toInt32) (nar .char p4.toUInt32.toUInt16.toUInt32.toInt32) (off + (0 : Int32)))))])) t
    refine XS.iloadN X34.here hx rfl (hb hby at_122) rfl ?_
    show Steps p.tables e below (T34.setTop (mkF m 123 #[.val (.int p1), .val (.int p2), .val (.int p3), .val (.int p4), .val (.int p5), .val (.int p6), .val (.ref b2), .val (.int off), .val (.int len), .val (.int idx), .val (.ref b19), .val (.int (nar .char (own_at (nar .char p1.toUInt32.toUInt16.toUInt32.toInt32) (nar .char p2.toUInt32.toUInt16.toUInt32.toInt32) (nar .char p3.toUInt32.toUInt16.toUInt32.toInt32) (nar .char p4.toUInt32.toUInt16.toUInt32.toInt32) (off + idx)))), .val (.int (nar .char (own_at (nar .char p1.toUInt32.toUInt16.toUInt32.toInt32) (nar .char p2.toUInt32.toUInt16.toUInt32.toInt32) (nar .char p3.toUInt32.toUInt16.toUInt32.toInt32) (nar .char p4.toUInt32.toUInt16.toUInt32.toInt32) (off + (0 : Int32))))), .val (.int (nar .char (own_at (nar .char p1.toUInt32.toUInt16.toUInt32.toInt32) (nar .char p2.toUInt32.toUInt16.toUInt32.toInt32) (nar .char p3.toUInt32.toUInt16.toUInt32.toInt32) (nar .char p4.toUInt32.toUInt16.toUInt32.toInt32) (off + (len - (1 : Int32)))))), .unset, .unset] [(.int p3), (.int p2), (.int p1), (.int (nar .char (own_at (nar .char p1.toUInt32.toUInt16.toUInt32.toInt32) (nar .char p2.toUInt32.toUInt16.toUInt32.toInt32) (nar .char p3.toUInt32.toUInt16.toUInt32.toInt32) (nar .char p4.toUInt32.toUInt16.toUInt32.toInt32) (off + (0 : Int32)))))])) t
    refine XS.iloadN X34.here hx rfl (hb hby at_123) rfl ?_
    show Steps p.tables e below (T34.setTop (mkF m 124 #[.val (.int p1), .val (.int p2), .val (.int p3), .val (.int p4), .val (.int p5), .val (.int p6), .val (.ref b2), .val (.int off), .val (.int len), .val (.int idx), .val (.ref b19), .val (.int (nar .char (own_at (nar .char p1.toUInt32.toUInt16.toUInt32.toInt32) (nar .char p2.toUInt32.toUInt16.toUInt32.toInt32) (nar .char p3.toUInt32.toUInt16.toUInt32.toInt32) (nar .char p4.toUInt32.toUInt16.toUInt32.toInt32) (off + idx)))), .val (.int (nar .char (own_at (nar .char p1.toUInt32.toUInt16.toUInt32.toInt32) (nar .char p2.toUInt32.toUInt16.toUInt32.toInt32) (nar .char p3.toUInt32.toUInt16.toUInt32.toInt32) (nar .char p4.toUInt32.toUInt16.toUInt32.toInt32) (off + (0 : Int32))))), .val (.int (nar .char (own_at (nar .char p1.toUInt32.toUInt16.toUInt32.toInt32) (nar .char p2.toUInt32.toUInt16.toUInt32.toInt32) (nar .char p3.toUInt32.toUInt16.toUInt32.toInt32) (nar .char p4.toUInt32.toUInt16.toUInt32.toInt32) (off + (len - (1 : Int32)))))), .unset, .unset] [(.int p4), (.int p3), (.int p2), (.int p1), (.int (nar .char (own_at (nar .char p1.toUInt32.toUInt16.toUInt32.toInt32) (nar .char p2.toUInt32.toUInt16.toUInt32.toInt32) (nar .char p3.toUInt32.toUInt16.toUInt32.toInt32) (nar .char p4.toUInt32.toUInt16.toUInt32.toInt32) (off + (0 : Int32)))))])) t
    refine XS.iload X34.here hx rfl (hb hby at_124) rfl ?_
    show Steps p.tables e below (T34.setTop (mkF m 126 #[.val (.int p1), .val (.int p2), .val (.int p3), .val (.int p4), .val (.int p5), .val (.int p6), .val (.ref b2), .val (.int off), .val (.int len), .val (.int idx), .val (.ref b19), .val (.int (nar .char (own_at (nar .char p1.toUInt32.toUInt16.toUInt32.toInt32) (nar .char p2.toUInt32.toUInt16.toUInt32.toInt32) (nar .char p3.toUInt32.toUInt16.toUInt32.toInt32) (nar .char p4.toUInt32.toUInt16.toUInt32.toInt32) (off + idx)))), .val (.int (nar .char (own_at (nar .char p1.toUInt32.toUInt16.toUInt32.toInt32) (nar .char p2.toUInt32.toUInt16.toUInt32.toInt32) (nar .char p3.toUInt32.toUInt16.toUInt32.toInt32) (nar .char p4.toUInt32.toUInt16.toUInt32.toInt32) (off + (0 : Int32))))), .val (.int (nar .char (own_at (nar .char p1.toUInt32.toUInt16.toUInt32.toInt32) (nar .char p2.toUInt32.toUInt16.toUInt32.toInt32) (nar .char p3.toUInt32.toUInt16.toUInt32.toInt32) (nar .char p4.toUInt32.toUInt16.toUInt32.toInt32) (off + (len - (1 : Int32)))))), .unset, .unset] [(.int off), (.int p4), (.int p3), (.int p2), (.int p1), (.int (nar .char (own_at (nar .char p1.toUInt32.toUInt16.toUInt32.toInt32) (nar .char p2.toUInt32.toUInt16.toUInt32.toInt32) (nar .char p3.toUInt32.toUInt16.toUInt32.toInt32) (nar .char p4.toUInt32.toUInt16.toUInt32.toInt32) (off + (0 : Int32)))))])) t
    exact k)
  obtain ⟨_, _, ⟨T38, L38, k38, n38⟩, -, X38, ⟨Lc38, hQ38, l38, y38, z38⟩, st38⟩ := Jvm.LawKit.callS X34 hx (y := (⟨"com/example/precis/precis/iso2709/CharsCharAtPinLaw", "pick", "(IIIII)C"⟩ : MethodName)) hown (mvT hZ (hw _ (List.mem_of_getElem? (i := 41) rfl))) (mvT hZ (hw _ (List.mem_of_getElem? (i := 42) rfl))) (mvT hZ (hw _ (List.mem_of_getElem? (i := 43) rfl))) (mvT hZ (hw _ (List.mem_of_getElem? (i := 44) rfl))) (by decide) (backOf (W := 1) (rm9 l Z a0 hw [] p1 p2 p3 p4 off T22.heap n0 sz22 ) hZ (hw _ (List.mem_of_getElem? (i := 44) rfl)) (hw _ (List.mem_of_getElem? (i := 43) rfl)) (by decide) (by decide)) (g := (mkF m 126 #[.val (.int p1), .val (.int p2), .val (.int p3), .val (.int p4), .val (.int p5), .val (.int p6), .val (.ref b2), .val (.int off), .val (.int len), .val (.int idx), .val (.ref b19), .val (.int (nar .char (own_at (nar .char p1.toUInt32.toUInt16.toUInt32.toInt32) (nar .char p2.toUInt32.toUInt16.toUInt32.toInt32) (nar .char p3.toUInt32.toUInt16.toUInt32.toInt32) (nar .char p4.toUInt32.toUInt16.toUInt32.toInt32) (off + idx)))), .val (.int (nar .char (own_at (nar .char p1.toUInt32.toUInt16.toUInt32.toInt32) (nar .char p2.toUInt32.toUInt16.toUInt32.toInt32) (nar .char p3.toUInt32.toUInt16.toUInt32.toInt32) (nar .char p4.toUInt32.toUInt16.toUInt32.toInt32) (off + (0 : Int32))))), .val (.int (nar .char (own_at (nar .char p1.toUInt32.toUInt16.toUInt32.toInt32) (nar .char p2.toUInt32.toUInt16.toUInt32.toInt32) (nar .char p3.toUInt32.toUInt16.toUInt32.toInt32) (nar .char p4.toUInt32.toUInt16.toUInt32.toInt32) (off + (len - (1 : Int32)))))), .unset, .unset] [(.int off), (.int p4), (.int p3), (.int p2), (.int p1), (.int (nar .char (own_at (nar .char p1.toUInt32.toUInt16.toUInt32.toInt32) (nar .char p2.toUInt32.toUInt16.toUInt32.toInt32) (nar .char p3.toUInt32.toUInt16.toUInt32.toInt32) (nar .char p4.toUInt32.toUInt16.toUInt32.toInt32) (off + (0 : Int32)))))])) rfl (by rw [hml]; rfl) (argsL := [(.int p1), (.int p2), (.int p3), (.int p4), (.int off)]) (rest := [(.int (nar .char (own_at (nar .char p1.toUInt32.toUInt16.toUInt32.toInt32) (nar .char p2.toUInt32.toUInt16.toUInt32.toInt32) (nar .char p3.toUInt32.toUInt16.toUInt32.toInt32) (nar .char p4.toUInt32.toUInt16.toUInt32.toInt32) (off + (0 : Int32)))))]) (lenOf pd_oIIIIIcC rfl) rfl (by show 2 * 0 + _ ≤ _; exact Nat.le_of_eq rfl) (hb hby at_126) (fun _ _ => ⟨rfl, eh34, (by decide : 2 + 0 ≤ _), (by decide : 7 + 0 ≤ _)⟩)
  dsimp only [Pt.U, Pt.locs, Pt.cells, Pt.slots] at X38 l38 y38 z38 st38 hQ38
  subst l38 y38 z38
  obtain ⟨rfl, N38q, eh38⟩ := hQ38
  have N38 := Fr.app N34 N38q
  have pre39 : ∀ t, Steps p.tables e below (T38.setTop (mkF m 129 #[.val (.int p1), .val (.int p2), .val (.int p3), .val (.int p4), .val (.int p5), .val (.int p6), .val (.ref b2), .val (.int off), .val (.int len), .val (.int idx), .val (.ref b19), .val (.int (nar .char (own_at (nar .char p1.toUInt32.toUInt16.toUInt32.toInt32) (nar .char p2.toUInt32.toUInt16.toUInt32.toInt32) (nar .char p3.toUInt32.toUInt16.toUInt32.toInt32) (nar .char p4.toUInt32.toUInt16.toUInt32.toInt32) (off + idx)))), .val (.int (nar .char (own_at (nar .char p1.toUInt32.toUInt16.toUInt32.toInt32) (nar .char p2.toUInt32.toUInt16.toUInt32.toInt32) (nar .char p3.toUInt32.toUInt16.toUInt32.toInt32) (nar .char p4.toUInt32.toUInt16.toUInt32.toInt32) (off + (0 : Int32))))), .val (.int (nar .char (own_at (nar .char p1.toUInt32.toUInt16.toUInt32.toInt32) (nar .char p2.toUInt32.toUInt16.toUInt32.toInt32) (nar .char p3.toUInt32.toUInt16.toUInt32.toInt32) (nar .char p4.toUInt32.toUInt16.toUInt32.toInt32) (off + (len - (1 : Int32)))))), .unset, .unset] [(.int (own_pick p1 p2 p3 p4 off)), (.int (nar .char (own_at (nar .char p1.toUInt32.toUInt16.toUInt32.toInt32) (nar .char p2.toUInt32.toUInt16.toUInt32.toInt32) (nar .char p3.toUInt32.toUInt16.toUInt32.toInt32) (nar .char p4.toUInt32.toUInt16.toUInt32.toInt32) (off + (0 : Int32)))))])) t → Steps p.tables e below (s₁.setTop (entryFrame m #[(.int p1), (.int p2), (.int p3), (.int p4), (.int p5), (.int p6)] maxLocals)) t := fun t k => pre37 t (st38 _ k)
  have pre41 : ∀ t, Steps p.tables e below (T38.setTop (mkF m 145 #[.val (.int p1), .val (.int p2), .val (.int p3), .val (.int p4), .val (.int p5), .val (.int p6), .val (.ref b2), .val (.int off), .val (.int len), .val (.int idx), .val (.ref b19), .val (.int (nar .char (own_at (nar .char p1.toUInt32.toUInt16.toUInt32.toInt32) (nar .char p2.toUInt32.toUInt16.toUInt32.toInt32) (nar .char p3.toUInt32.toUInt16.toUInt32.toInt32) (nar .char p4.toUInt32.toUInt16.toUInt32.toInt32) (off + idx)))), .val (.int (nar .char (own_at (nar .char p1.toUInt32.toUInt16.toUInt32.toInt32) (nar .char p2.toUInt32.toUInt16.toUInt32.toInt32) (nar .char p3.toUInt32.toUInt16.toUInt32.toInt32) (nar .char p4.toUInt32.toUInt16.toUInt32.toInt32) (off + (0 : Int32))))), .val (.int (nar .char (own_at (nar .char p1.toUInt32.toUInt16.toUInt32.toInt32) (nar .char p2.toUInt32.toUInt16.toUInt32.toInt32) (nar .char p3.toUInt32.toUInt16.toUInt32.toInt32) (nar .char p4.toUInt32.toUInt16.toUInt32.toInt32) (off + (len - (1 : Int32)))))), .unset, .unset] [(.int ((off + len) - (1 : Int32))), (.int p4), (.int p3), (.int p2), (.int p1), (.int (nar .char (own_at (nar .char p1.toUInt32.toUInt16.toUInt32.toInt32) (nar .char p2.toUInt32.toUInt16.toUInt32.toInt32) (nar .char p3.toUInt32.toUInt16.toUInt32.toInt32) (nar .char p4.toUInt32.toUInt16.toUInt32.toInt32) (off + (len - (1 : Int32))))))])) t → Steps p.tables e below (s₁.setTop (entryFrame m #[(.int p1), (.int p2), (.int p3), (.int p4), (.int p5), (.int p6)] maxLocals)) t := fun t k => pre39 t (by
    show Steps p.tables e below (T38.setTop (mkF m 129 #[.val (.int p1), .val (.int p2), .val (.int p3), .val (.int p4), .val (.int p5), .val (.int p6), .val (.ref b2), .val (.int off), .val (.int len), .val (.int idx), .val (.ref b19), .val (.int (nar .char (own_at (nar .char p1.toUInt32.toUInt16.toUInt32.toInt32) (nar .char p2.toUInt32.toUInt16.toUInt32.toInt32) (nar .char p3.toUInt32.toUInt16.toUInt32.toInt32) (nar .char p4.toUInt32.toUInt16.toUInt32.toInt32) (off + idx)))), .val (.int (nar .char (own_at (nar .char p1.toUInt32.toUInt16.toUInt32.toInt32) (nar .char p2.toUInt32.toUInt16.toUInt32.toInt32) (nar .char p3.toUInt32.toUInt16.toUInt32.toInt32) (nar .char p4.toUInt32.toUInt16.toUInt32.toInt32) (off + (0 : Int32))))), .val (.int (nar .char (own_at (nar .char p1.toUInt32.toUInt16.toUInt32.toInt32) (nar .char p2.toUInt32.toUInt16.toUInt32.toInt32) (nar .char p3.toUInt32.toUInt16.toUInt32.toInt32) (nar .char p4.toUInt32.toUInt16.toUInt32.toInt32) (off + (len - (1 : Int32)))))), .unset, .unset] [(.int (own_pick p1 p2 p3 p4 off)), (.int (nar .char (own_at (nar .char p1.toUInt32.toUInt16.toUInt32.toInt32) (nar .char p2.toUInt32.toUInt16.toUInt32.toInt32) (nar .char p3.toUInt32.toUInt16.toUInt32.toInt32) (nar .char p4.toUInt32.toUInt16.toUInt32.toInt32) (off + (0 : Int32)))))])) t
    refine XS.icmpNo X38.here hx rfl (hb hby at_129) rfl (XT.ii_ne_f (show (nar .char (own_at (nar .char p1.toUInt32.toUInt16.toUInt32.toInt32) (nar .char p2.toUInt32.toUInt16.toUInt32.toInt32) (nar .char p3.toUInt32.toUInt16.toUInt32.toInt32) (nar .char p4.toUInt32.toUInt16.toUInt32.toInt32) (off + (0 : Int32)))) = (own_pick p1 p2 p3 p4 off) from own_eq0 _ _ _ _ _)) ?_
    show Steps p.tables e below (T38.setTop (mkF m 132 #[.val (.int p1), .val (.int p2), .val (.int p3), .val (.int p4), .val (.int p5), .val (.int p6), .val (.ref b2), .val (.int off), .val (.int len), .val (.int idx), .val (.ref b19), .val (.int (nar .char (own_at (nar .char p1.toUInt32.toUInt16.toUInt32.toInt32) (nar .char p2.toUInt32.toUInt16.toUInt32.toInt32) (nar .char p3.toUInt32.toUInt16.toUInt32.toInt32) (nar .char p4.toUInt32.toUInt16.toUInt32.toInt32) (off + idx)))), .val (.int (nar .char (own_at (nar .char p1.toUInt32.toUInt16.toUInt32.toInt32) (nar .char p2.toUInt32.toUInt16.toUInt32.toInt32) (nar .char p3.toUInt32.toUInt16.toUInt32.toInt32) (nar .char p4.toUInt32.toUInt16.toUInt32.toInt32) (off + (0 : Int32))))), .val (.int (nar .char (own_at (nar .char p1.toUInt32.toUInt16.toUInt32.toInt32) (nar .char p2.toUInt32.toUInt16.toUInt32.toInt32) (nar .char p3.toUInt32.toUInt16.toUInt32.toInt32) (nar .char p4.toUInt32.toUInt16.toUInt32.toInt32) (off + (len - (1 : Int32)))))), .unset, .unset] [])) t
    refine XS.iload X38.here hx rfl (hb hby at_132) rfl ?_
    show Steps p.tables e below (T38.setTop (mkF m 134 #[.val (.int p1), .val (.int p2), .val (.int p3), .val (.int p4), .val (.int p5), .val (.int p6), .val (.ref b2), .val (.int off), .val (.int len), .val (.int idx), .val (.ref b19), .val (.int (nar .char (own_at (nar .char p1.toUInt32.toUInt16.toUInt32.toInt32) (nar .char p2.toUInt32.toUInt16.toUInt32.toInt32) (nar .char p3.toUInt32.toUInt16.toUInt32.toInt32) (nar .char p4.toUInt32.toUInt16.toUInt32.toInt32) (off + idx)))), .val (.int (nar .char (own_at (nar .char p1.toUInt32.toUInt16.toUInt32.toInt32) (nar .char p2.toUInt32.toUInt16.toUInt32.toInt32) (nar .char p3.toUInt32.toUInt16.toUInt32.toInt32) (nar .char p4.toUInt32.toUInt16.toUInt32.toInt32) (off + (0 : Int32))))), .val (.int (nar .char (own_at (nar .char p1.toUInt32.toUInt16.toUInt32.toInt32) (nar .char p2.toUInt32.toUInt16.toUInt32.toInt32) (nar .char p3.toUInt32.toUInt16.toUInt32.toInt32) (nar .char p4.toUInt32.toUInt16.toUInt32.toInt32) (off + (len - (1 : Int32)))))), .unset, .unset] [(.int (nar .char (own_at (nar .char p1.toUInt32.toUInt16.toUInt32.toInt32) (nar .char p2.toUInt32.toUInt16.toUInt32.toInt32) (nar .char p3.toUInt32.toUInt16.toUInt32.toInt32) (nar .char p4.toUInt32.toUInt16.toUInt32.toInt32) (off + (len - (1 : Int32))))))])) t
    refine XS.iloadN X38.here hx rfl (hb hby at_134) rfl ?_
    show Steps p.tables e below (T38.setTop (mkF m 135 #[.val (.int p1), .val (.int p2), .val (.int p3), .val (.int p4), .val (.int p5), .val (.int p6), .val (.ref b2), .val (.int off), .val (.int len), .val (.int idx), .val (.ref b19), .val (.int (nar .char (own_at (nar .char p1.toUInt32.toUInt16.toUInt32.toInt32) (nar .char p2.toUInt32.toUInt16.toUInt32.toInt32) (nar .char p3.toUInt32.toUInt16.toUInt32.toInt32) (nar .char p4.toUInt32.toUInt16.toUInt32.toInt32) (off + idx)))), .val (.int (nar .char (own_at (nar .char p1.toUInt32.toUInt16.toUInt32.toInt32) (nar .char p2.toUInt32.toUInt16.toUInt32.toInt32) (nar .char p3.toUInt32.toUInt16.toUInt32.toInt32) (nar .char p4.toUInt32.toUInt16.toUInt32.toInt32) (off + (0 : Int32))))), .val (.int (nar .char (own_at (nar .char p1.toUInt32.toUInt16.toUInt32.toInt32) (nar .char p2.toUInt32.toUInt16.toUInt32.toInt32) (nar .char p3.toUInt32.toUInt16.toUInt32.toInt32) (nar .char p4.toUInt32.toUInt16.toUInt32.toInt32) (off + (len - (1 : Int32)))))), .unset, .unset] [(.int p1), (.int (nar .char (own_at (nar .char p1.toUInt32.toUInt16.toUInt32.toInt32) (nar .char p2.toUInt32.toUInt16.toUInt32.toInt32) (nar .char p3.toUInt32.toUInt16.toUInt32.toInt32) (nar .char p4.toUInt32.toUInt16.toUInt32.toInt32) (off + (len - (1 : Int32))))))])) t
    refine XS.iloadN X38.here hx rfl (hb hby at_135) rfl ?_
    show Steps p.tables e below (T38.setTop (mkF m 136 #[.val (.int p1), .val (.int p2), .val (.int p3), .val (.int p4), .val (.int p5), .val (.int p6), .val (.ref b2), .val (.int off), .val (.int len), .val (.int idx), .val (.ref b19), .val (.int (nar .char (own_at (nar .char p1.toUInt32.toUInt16.toUInt32.toInt32) (nar .char p2.toUInt32.toUInt16.toUInt32.toInt32) (nar .char p3.toUInt32.toUInt16.toUInt32.toInt32) (nar .char p4.toUInt32.toUInt16.toUInt32.toInt32) (off + idx)))), .val (.int (nar .char (own_at (nar .char p1.toUInt32.toUInt16.toUInt32.toInt32) (nar .char p2.toUInt32.toUInt16.toUInt32.toInt32) (nar .char p3.toUInt32.toUInt16.toUInt32.toInt32) (nar .char p4.toUInt32.toUInt16.toUInt32.toInt32) (off + (0 : Int32))))), .val (.int (nar .char (own_at (nar .char p1.toUInt32.toUInt16.toUInt32.toInt32) (nar .char p2.toUInt32.toUInt16.toUInt32.toInt32) (nar .char p3.toUInt32.toUInt16.toUInt32.toInt32) (nar .char p4.toUInt32.toUInt16.toUInt32.toInt32) (off + (len - (1 : Int32)))))), .unset, .unset] [(.int p2), (.int p1), (.int (nar .char (own_at (nar .char p1.toUInt32.toUInt16.toUInt32.toInt32) (nar .char p2.toUInt32.toUInt16.toUInt32.toInt32) (nar .char p3.toUInt32.toUInt16.toUInt32.toInt32) (nar .char p4.toUInt32.toUInt16.toUInt32.toInt32) (off + (len - (1 : Int32))))))])) t
    refine XS.iloadN X38.here hx rfl (hb hby at_136) rfl ?_
    show Steps p.tables e below (T38.setTop (mkF m 137 #[.val (.int p1), .val (.int p2), .val (.int p3), .val (.int p4), .val (.int p5), .val (.int p6), .val (.ref b2), .val (.int off), .val (.int len), .val (.int idx), .val (.ref b19), .val (.int (nar .char (own_at (nar .char p1.toUInt32.toUInt16.toUInt32.toInt32) (nar .char p2.toUInt32.toUInt16.toUInt32.toInt32) (nar .char p3.toUInt32.toUInt16.toUInt32.toInt32) (nar .char p4.toUInt32.toUInt16.toUInt32.toInt32) (off + idx)))), .val (.int (nar .char (own_at (nar .char p1.toUInt32.toUInt16.toUInt32.toInt32) (nar .char p2.toUInt32.toUInt16.toUInt32.toInt32) (nar .char p3.toUInt32.toUInt16.toUInt32.toInt32) (nar .char p4.toUInt32.toUInt16.toUInt32.toInt32) (off + (0 : Int32))))), .val (.int (nar .char (own_at (nar .char p1.toUInt32.toUInt16.toUInt32.toInt32) (nar .char p2.toUInt32.toUInt16.toUInt32.toInt32) (nar .char p3.toUInt32.toUInt16.toUInt32.toInt32) (nar .char p4.toUInt32.toUInt16.toUInt32.toInt32) (off + (len - (1 : Int32)))))), .unset, .unset] [(.int p3), (.int p2), (.int p1), (.int (nar .char (own_at (nar .char p1.toUInt32.toUInt16.toUInt32.toInt32) (nar .char p2.toUInt32.toUInt16.toUInt32.toInt32) (nar .char p3.toUInt32.toUInt16.toUInt32.toInt32) (nar .char p4.toUInt32.toUInt16.toUInt32.toInt32) (off + (len - (1 : Int32))))))])) t
    refine XS.iloadN X38.here hx rfl (hb hby at_137) rfl ?_
    show Steps p.tables e below (T38.setTop (mkF m 138 #[.val (.int p1), .val (.int p2), .val (.int p3), .val (.int p4), .val (.int p5), .val (.int p6), .val (.ref b2), .val (.int off), .val (.int len), .val (.int idx), .val (.ref b19), .val (.int (nar .char (own_at (nar .char p1.toUInt32.toUInt16.toUInt32.toInt32) (nar .char p2.toUInt32.toUInt16.toUInt32.toInt32) (nar .char p3.toUInt32.toUInt16.toUInt32.toInt32) (nar .char p4.toUInt32.toUInt16.toUInt32.toInt32) (off + idx)))), .val (.int (nar .char (own_at (nar .char p1.toUInt32.toUInt16.toUInt32.toInt32) (nar .char p2.toUInt32.toUInt16.toUInt32.toInt32) (nar .char p3.toUInt32.toUInt16.toUInt32.toInt32) (nar .char p4.toUInt32.toUInt16.toUInt32.toInt32) (off + (0 : Int32))))), .val (.int (nar .char (own_at (nar .char p1.toUInt32.toUInt16.toUInt32.toInt32) (nar .char p2.toUInt32.toUInt16.toUInt32.toInt32) (nar .char p3.toUInt32.toUInt16.toUInt32.toInt32) (nar .char p4.toUInt32.toUInt16.toUInt32.toInt32) (off + (len - (1 : Int32)))))), .unset, .unset] [(.int p4), (.int p3), (.int p2), (.int p1), (.int (nar .char (own_at (nar .char p1.toUInt32.toUInt16.toUInt32.toInt32) (nar .char p2.toUInt32.toUInt16.toUInt32.toInt32) (nar .char p3.toUInt32.toUInt16.toUInt32.toInt32) (nar .char p4.toUInt32.toUInt16.toUInt32.toInt32) (off + (len - (1 : Int32))))))])) t
    refine XS.iload X38.here hx rfl (hb hby at_138) rfl ?_
    show Steps p.tables e below (T38.setTop (mkF m 140 #[.val (.int p1), .val (.int p2), .val (.int p3), .val (.int p4), .val (.int p5), .val (.int p6), .val (.ref b2), .val (.int off), .val (.int len), .val (.int idx), .val (.ref b19), .val (.int (nar .char (own_at (nar .char p1.toUInt32.toUInt16.toUInt32.toInt32) (nar .char p2.toUInt32.toUInt16.toUInt32.toInt32) (nar .char p3.toUInt32.toUInt16.toUInt32.toInt32) (nar .char p4.toUInt32.toUInt16.toUInt32.toInt32) (off + idx)))), .val (.int (nar .char (own_at (nar .char p1.toUInt32.toUInt16.toUInt32.toInt32) (nar .char p2.toUInt32.toUInt16.toUInt32.toInt32) (nar .char p3.toUInt32.toUInt16.toUInt32.toInt32) (nar .char p4.toUInt32.toUInt16.toUInt32.toInt32) (off + (0 : Int32))))), .val (.int (nar .char (own_at (nar .char p1.toUInt32.toUInt16.toUInt32.toInt32) (nar .char p2.toUInt32.toUInt16.toUInt32.toInt32) (nar .char p3.toUInt32.toUInt16.toUInt32.toInt32) (nar .char p4.toUInt32.toUInt16.toUInt32.toInt32) (off + (len - (1 : Int32)))))), .unset, .unset] [(.int off), (.int p4), (.int p3), (.int p2), (.int p1), (.int (nar .char (own_at (nar .char p1.toUInt32.toUInt16.toUInt32.toInt32) (nar .char p2.toUInt32.toUInt16.toUInt32.toInt32) (nar .char p3.toUInt32.toUInt16.toUInt32.toInt32) (nar .char p4.toUInt32.toUInt16.toUInt32.toInt32) (off + (len - (1 : Int32))))))])) t
    refine XS.iload X38.here hx rfl (hb hby at_140) rfl ?_
    show Steps p.tables e below (T38.setTop (mkF m 142 #[.val (.int p1), .val (.int p2), .val (.int p3), .val (.int p4), .val (.int p5), .val (.int p6), .val (.ref b2), .val (.int off), .val (.int len), .val (.int idx), .val (.ref b19), .val (.int (nar .char (own_at (nar .char p1.toUInt32.toUInt16.toUInt32.toInt32) (nar .char p2.toUInt32.toUInt16.toUInt32.toInt32) (nar .char p3.toUInt32.toUInt16.toUInt32.toInt32) (nar .char p4.toUInt32.toUInt16.toUInt32.toInt32) (off + idx)))), .val (.int (nar .char (own_at (nar .char p1.toUInt32.toUInt16.toUInt32.toInt32) (nar .char p2.toUInt32.toUInt16.toUInt32.toInt32) (nar .char p3.toUInt32.toUInt16.toUInt32.toInt32) (nar .char p4.toUInt32.toUInt16.toUInt32.toInt32) (off + (0 : Int32))))), .val (.int (nar .char (own_at (nar .char p1.toUInt32.toUInt16.toUInt32.toInt32) (nar .char p2.toUInt32.toUInt16.toUInt32.toInt32) (nar .char p3.toUInt32.toUInt16.toUInt32.toInt32) (nar .char p4.toUInt32.toUInt16.toUInt32.toInt32) (off + (len - (1 : Int32)))))), .unset, .unset] [(.int len), (.int off), (.int p4), (.int p3), (.int p2), (.int p1), (.int (nar .char (own_at (nar .char p1.toUInt32.toUInt16.toUInt32.toInt32) (nar .char p2.toUInt32.toUInt16.toUInt32.toInt32) (nar .char p3.toUInt32.toUInt16.toUInt32.toInt32) (nar .char p4.toUInt32.toUInt16.toUInt32.toInt32) (off + (len - (1 : Int32))))))])) t
    refine XS.iadd X38.here hx rfl (hb hby at_142) rfl ?_
    show Steps p.tables e below (T38.setTop (mkF m 143 #[.val (.int p1), .val (.int p2), .val (.int p3), .val (.int p4), .val (.int p5), .val (.int p6), .val (.ref b2), .val (.int off), .val (.int len), .val (.int idx), .val (.ref b19), .val (.int (nar .char (own_at (nar .char p1.toUInt32.toUInt16.toUInt32.toInt32) (nar .char p2.toUInt32.toUInt16.toUInt32.toInt32) (nar .char p3.toUInt32.toUInt16.toUInt32.toInt32) (nar .char p4.toUInt32.toUInt16.toUInt32.toInt32) (off + idx)))), .val (.int (nar .char (own_at (nar .char p1.toUInt32.toUInt16.toUInt32.toInt32) (nar .char p2.toUInt32.toUInt16.toUInt32.toInt32) (nar .char p3.toUInt32.toUInt16.toUInt32.toInt32) (nar .char p4.toUInt32.toUInt16.toUInt32.toInt32) (off + (0 : Int32))))), .val (.int (nar .char (own_at (nar .char p1.toUInt32.toUInt16.toUInt32.toInt32) (nar .char p2.toUInt32.toUInt16.toUInt32.toInt32) (nar .char p3.toUInt32.toUInt16.toUInt32.toInt32) (nar .char p4.toUInt32.toUInt16.toUInt32.toInt32) (off + (len - (1 : Int32)))))), .unset, .unset] [(.int (off + len)), (.int p4), (.int p3), (.int p2), (.int p1), (.int (nar .char (own_at (nar .char p1.toUInt32.toUInt16.toUInt32.toInt32) (nar .char p2.toUInt32.toUInt16.toUInt32.toInt32) (nar .char p3.toUInt32.toUInt16.toUInt32.toInt32) (nar .char p4.toUInt32.toUInt16.toUInt32.toInt32) (off + (len - (1 : Int32))))))])) t
    refine XS.iconst X38.here hx rfl (hb hby at_143) ?_
    show Steps p.tables e below (T38.setTop (mkF m 144 #[.val (.int p1), .val (.int p2), .val (.int p3), .val (.int p4), .val (.int p5), .val (.int p6), .val (.ref b2), .val (.int off), .val (.int len), .val (.int idx), .val (.ref b19), .val (.int (nar .char (own_at (nar .char p1.toUInt32.toUInt16.toUInt32.toInt32) (nar .char p2.toUInt32.toUInt16.toUInt32.toInt32) (nar .char p3.toUInt32.toUInt16.toUInt32.toInt32) (nar .char p4.toUInt32.toUInt16.toUInt32.toInt32) (off + idx)))), .val (.int (nar .char (own_at (nar .char p1.toUInt32.toUInt16.toUInt32.toInt32) (nar .char p2.toUInt32.toUInt16.toUInt32.toInt32) (nar .char p3.toUInt32.toUInt16.toUInt32.toInt32) (nar .char p4.toUInt32.toUInt16.toUInt32.toInt32) (off + (0 : Int32))))), .val (.int (nar .char (own_at (nar .char p1.toUInt32.toUInt16.toUInt32.toInt32) (nar .char p2.toUInt32.toUInt16.toUInt32.toInt32) (nar .char p3.toUInt32.toUInt16.toUInt32.toInt32) (nar .char p4.toUInt32.toUInt16.toUInt32.toInt32) (off + (len - (1 : Int32)))))), .unset, .unset] [(.int (1 : Int32)), (.int (off + len)), (.int p4), (.int p3), (.int p2), (.int p1), (.int (nar .char (own_at (nar .char p1.toUInt32.toUInt16.toUInt32.toInt32) (nar .char p2.toUInt32.toUInt16.toUInt32.toInt32) (nar .char p3.toUInt32.toUInt16.toUInt32.toInt32) (nar .char p4.toUInt32.toUInt16.toUInt32.toInt32) (off + (len - (1 : Int32))))))])) t
    refine XS.isub X38.here hx rfl (hb hby at_144) rfl ?_
    show Steps p.tables e below (T38.setTop (mkF m 145 #[.val (.int p1), .val (.int p2), .val (.int p3), .val (.int p4), .val (.int p5), .val (.int p6), .val (.ref b2), .val (.int off), .val (.int len), .val (.int idx), .val (.ref b19), .val (.int (nar .char (own_at (nar .char p1.toUInt32.toUInt16.toUInt32.toInt32) (nar .char p2.toUInt32.toUInt16.toUInt32.toInt32) (nar .char p3.toUInt32.toUInt16.toUInt32.toInt32) (nar .char p4.toUInt32.toUInt16.toUInt32.toInt32) (off + idx)))), .val (.int (nar .char (own_at (nar .char p1.toUInt32.toUInt16.toUInt32.toInt32) (nar .char p2.toUInt32.toUInt16.toUInt32.toInt32) (nar .char p3.toUInt32.toUInt16.toUInt32.toInt32) (nar .char p4.toUInt32.toUInt16.toUInt32.toInt32) (off + (0 : Int32))))), .val (.int (nar .char (own_at (nar .char p1.toUInt32.toUInt16.toUInt32.toInt32) (nar .char p2.toUInt32.toUInt16.toUInt32.toInt32) (nar .char p3.toUInt32.toUInt16.toUInt32.toInt32) (nar .char p4.toUInt32.toUInt16.toUInt32.toInt32) (off + (len - (1 : Int32)))))), .unset, .unset] [(.int ((off + len) - (1 : Int32))), (.int p4), (.int p3), (.int p2), (.int p1), (.int (nar .char (own_at (nar .char p1.toUInt32.toUInt16.toUInt32.toInt32) (nar .char p2.toUInt32.toUInt16.toUInt32.toInt32) (nar .char p3.toUInt32.toUInt16.toUInt32.toInt32) (nar .char p4.toUInt32.toUInt16.toUInt32.toInt32) (off + (len - (1 : Int32))))))])) t
    exact k)
  obtain ⟨_, _, ⟨T42, L42, k42, n42⟩, -, X42, ⟨Lc42, hQ42, l42, y42, z42⟩, st42⟩ := Jvm.LawKit.callS X38 hx (y := (⟨"com/example/precis/precis/iso2709/CharsCharAtPinLaw", "pick", "(IIIII)C"⟩ : MethodName)) hown (mvT hZ (hw _ (List.mem_of_getElem? (i := 41) rfl))) (mvT hZ (hw _ (List.mem_of_getElem? (i := 42) rfl))) (mvT hZ (hw _ (List.mem_of_getElem? (i := 43) rfl))) (mvT hZ (hw _ (List.mem_of_getElem? (i := 44) rfl))) (by decide) (backOf (W := 1) (rm9 l Z a0 hw [] p1 p2 p3 p4 ((off + len) - (1 : Int32)) T22.heap n0 sz22 ) hZ (hw _ (List.mem_of_getElem? (i := 44) rfl)) (hw _ (List.mem_of_getElem? (i := 43) rfl)) (by decide) (by decide)) (g := (mkF m 145 #[.val (.int p1), .val (.int p2), .val (.int p3), .val (.int p4), .val (.int p5), .val (.int p6), .val (.ref b2), .val (.int off), .val (.int len), .val (.int idx), .val (.ref b19), .val (.int (nar .char (own_at (nar .char p1.toUInt32.toUInt16.toUInt32.toInt32) (nar .char p2.toUInt32.toUInt16.toUInt32.toInt32) (nar .char p3.toUInt32.toUInt16.toUInt32.toInt32) (nar .char p4.toUInt32.toUInt16.toUInt32.toInt32) (off + idx)))), .val (.int (nar .char (own_at (nar .char p1.toUInt32.toUInt16.toUInt32.toInt32) (nar .char p2.toUInt32.toUInt16.toUInt32.toInt32) (nar .char p3.toUInt32.toUInt16.toUInt32.toInt32) (nar .char p4.toUInt32.toUInt16.toUInt32.toInt32) (off + (0 : Int32))))), .val (.int (nar .char (own_at (nar .char p1.toUInt32.toUInt16.toUInt32.toInt32) (nar .char p2.toUInt32.toUInt16.toUInt32.toInt32) (nar .char p3.toUInt32.toUInt16.toUInt32.toInt32) (nar .char p4.toUInt32.toUInt16.toUInt32.toInt32) (off + (len - (1 : Int32)))))), .unset, .unset] [(.int ((off + len) - (1 : Int32))), (.int p4), (.int p3), (.int p2), (.int p1), (.int (nar .char (own_at (nar .char p1.toUInt32.toUInt16.toUInt32.toInt32) (nar .char p2.toUInt32.toUInt16.toUInt32.toInt32) (nar .char p3.toUInt32.toUInt16.toUInt32.toInt32) (nar .char p4.toUInt32.toUInt16.toUInt32.toInt32) (off + (len - (1 : Int32))))))])) rfl (by rw [hml]; rfl) (argsL := [(.int p1), (.int p2), (.int p3), (.int p4), (.int ((off + len) - (1 : Int32)))]) (rest := [(.int (nar .char (own_at (nar .char p1.toUInt32.toUInt16.toUInt32.toInt32) (nar .char p2.toUInt32.toUInt16.toUInt32.toInt32) (nar .char p3.toUInt32.toUInt16.toUInt32.toInt32) (nar .char p4.toUInt32.toUInt16.toUInt32.toInt32) (off + (len - (1 : Int32))))))]) (lenOf pd_oIIIIIcC rfl) rfl (by show 2 * 0 + _ ≤ _; exact Nat.le_of_eq rfl) (hb hby at_145) (fun _ _ => ⟨rfl, eh38, (by decide : 2 + 0 ≤ _), (by decide : 7 + 0 ≤ _)⟩)
  dsimp only [Pt.U, Pt.locs, Pt.cells, Pt.slots] at X42 l42 y42 z42 st42 hQ42
  subst l42 y42 z42
  obtain ⟨rfl, N42q, eh42⟩ := hQ42
  have N42 := Fr.app N38 N42q
  have pre43 : ∀ t, Steps p.tables e below (T42.setTop (mkF m 148 #[.val (.int p1), .val (.int p2), .val (.int p3), .val (.int p4), .val (.int p5), .val (.int p6), .val (.ref b2), .val (.int off), .val (.int len), .val (.int idx), .val (.ref b19), .val (.int (nar .char (own_at (nar .char p1.toUInt32.toUInt16.toUInt32.toInt32) (nar .char p2.toUInt32.toUInt16.toUInt32.toInt32) (nar .char p3.toUInt32.toUInt16.toUInt32.toInt32) (nar .char p4.toUInt32.toUInt16.toUInt32.toInt32) (off + idx)))), .val (.int (nar .char (own_at (nar .char p1.toUInt32.toUInt16.toUInt32.toInt32) (nar .char p2.toUInt32.toUInt16.toUInt32.toInt32) (nar .char p3.toUInt32.toUInt16.toUInt32.toInt32) (nar .char p4.toUInt32.toUInt16.toUInt32.toInt32) (off + (0 : Int32))))), .val (.int (nar .char (own_at (nar .char p1.toUInt32.toUInt16.toUInt32.toInt32) (nar .char p2.toUInt32.toUInt16.toUInt32.toInt32) (nar .char p3.toUInt32.toUInt16.toUInt32.toInt32) (nar .char p4.toUInt32.toUInt16.toUInt32.toInt32) (off + (len - (1 : Int32)))))), .unset, .unset] [(.int (own_pick p1 p2 p3 p4 ((off + len) - (1 : Int32)))), (.int (nar .char (own_at (nar .char p1.toUInt32.toUInt16.toUInt32.toInt32) (nar .char p2.toUInt32.toUInt16.toUInt32.toInt32) (nar .char p3.toUInt32.toUInt16.toUInt32.toInt32) (nar .char p4.toUInt32.toUInt16.toUInt32.toInt32) (off + (len - (1 : Int32))))))])) t → Steps p.tables e below (s₁.setTop (entryFrame m #[(.int p1), (.int p2), (.int p3), (.int p4), (.int p5), (.int p6)] maxLocals)) t := fun t k => pre41 t (st42 _ k)
  have pre45 : ∀ t, Steps p.tables e below (T42.setTop (mkF m 153 #[.val (.int p1), .val (.int p2), .val (.int p3), .val (.int p4), .val (.int p5), .val (.int p6), .val (.ref b2), .val (.int off), .val (.int len), .val (.int idx), .val (.ref b19), .val (.int (nar .char (own_at (nar .char p1.toUInt32.toUInt16.toUInt32.toInt32) (nar .char p2.toUInt32.toUInt16.toUInt32.toInt32) (nar .char p3.toUInt32.toUInt16.toUInt32.toInt32) (nar .char p4.toUInt32.toUInt16.toUInt32.toInt32) (off + idx)))), .val (.int (nar .char (own_at (nar .char p1.toUInt32.toUInt16.toUInt32.toInt32) (nar .char p2.toUInt32.toUInt16.toUInt32.toInt32) (nar .char p3.toUInt32.toUInt16.toUInt32.toInt32) (nar .char p4.toUInt32.toUInt16.toUInt32.toInt32) (off + (0 : Int32))))), .val (.int (nar .char (own_at (nar .char p1.toUInt32.toUInt16.toUInt32.toInt32) (nar .char p2.toUInt32.toUInt16.toUInt32.toInt32) (nar .char p3.toUInt32.toUInt16.toUInt32.toInt32) (nar .char p4.toUInt32.toUInt16.toUInt32.toInt32) (off + (len - (1 : Int32)))))), .unset, .unset] [(.ref b19)])) t → Steps p.tables e below (s₁.setTop (entryFrame m #[(.int p1), (.int p2), (.int p3), (.int p4), (.int p5), (.int p6)] maxLocals)) t := fun t k => pre43 t (by
    show Steps p.tables e below (T42.setTop (mkF m 148 #[.val (.int p1), .val (.int p2), .val (.int p3), .val (.int p4), .val (.int p5), .val (.int p6), .val (.ref b2), .val (.int off), .val (.int len), .val (.int idx), .val (.ref b19), .val (.int (nar .char (own_at (nar .char p1.toUInt32.toUInt16.toUInt32.toInt32) (nar .char p2.toUInt32.toUInt16.toUInt32.toInt32) (nar .char p3.toUInt32.toUInt16.toUInt32.toInt32) (nar .char p4.toUInt32.toUInt16.toUInt32.toInt32) (off + idx)))), .val (.int (nar .char (own_at (nar .char p1.toUInt32.toUInt16.toUInt32.toInt32) (nar .char p2.toUInt32.toUInt16.toUInt32.toInt32) (nar .char p3.toUInt32.toUInt16.toUInt32.toInt32) (nar .char p4.toUInt32.toUInt16.toUInt32.toInt32) (off + (0 : Int32))))), .val (.int (nar .char (own_at (nar .char p1.toUInt32.toUInt16.toUInt32.toInt32) (nar .char p2.toUInt32.toUInt16.toUInt32.toInt32) (nar .char p3.toUInt32.toUInt16.toUInt32.toInt32) (nar .char p4.toUInt32.toUInt16.toUInt32.toInt32) (off + (len - (1 : Int32)))))), .unset, .unset] [(.int (own_pick p1 p2 p3 p4 ((off + len) - (1 : Int32)))), (.int (nar .char (own_at (nar .char p1.toUInt32.toUInt16.toUInt32.toInt32) (nar .char p2.toUInt32.toUInt16.toUInt32.toInt32) (nar .char p3.toUInt32.toUInt16.toUInt32.toInt32) (nar .char p4.toUInt32.toUInt16.toUInt32.toInt32) (off + (len - (1 : Int32))))))])) t
    refine XS.icmpNo X42.here hx rfl (hb hby at_148) rfl (XT.ii_ne_f (show (nar .char (own_at (nar .char p1.toUInt32.toUInt16.toUInt32.toInt32) (nar .char p2.toUInt32.toUInt16.toUInt32.toInt32) (nar .char p3.toUInt32.toUInt16.toUInt32.toInt32) (nar .char p4.toUInt32.toUInt16.toUInt32.toInt32) (off + (len - (1 : Int32))))) = (own_pick p1 p2 p3 p4 ((off + len) - (1 : Int32))) from own_eq1 _ _ _ _ _ _)) ?_
    show Steps p.tables e below (T42.setTop (mkF m 151 #[.val (.int p1), .val (.int p2), .val (.int p3), .val (.int p4), .val (.int p5), .val (.int p6), .val (.ref b2), .val (.int off), .val (.int len), .val (.int idx), .val (.ref b19), .val (.int (nar .char (own_at (nar .char p1.toUInt32.toUInt16.toUInt32.toInt32) (nar .char p2.toUInt32.toUInt16.toUInt32.toInt32) (nar .char p3.toUInt32.toUInt16.toUInt32.toInt32) (nar .char p4.toUInt32.toUInt16.toUInt32.toInt32) (off + idx)))), .val (.int (nar .char (own_at (nar .char p1.toUInt32.toUInt16.toUInt32.toInt32) (nar .char p2.toUInt32.toUInt16.toUInt32.toInt32) (nar .char p3.toUInt32.toUInt16.toUInt32.toInt32) (nar .char p4.toUInt32.toUInt16.toUInt32.toInt32) (off + (0 : Int32))))), .val (.int (nar .char (own_at (nar .char p1.toUInt32.toUInt16.toUInt32.toInt32) (nar .char p2.toUInt32.toUInt16.toUInt32.toInt32) (nar .char p3.toUInt32.toUInt16.toUInt32.toInt32) (nar .char p4.toUInt32.toUInt16.toUInt32.toInt32) (off + (len - (1 : Int32)))))), .unset, .unset] [])) t
    refine XS.aload X42.here hx rfl (hb hby at_151) rfl rfl ?_
    show Steps p.tables e below (T42.setTop (mkF m 153 #[.val (.int p1), .val (.int p2), .val (.int p3), .val (.int p4), .val (.int p5), .val (.int p6), .val (.ref b2), .val (.int off), .val (.int len), .val (.int idx), .val (.ref b19), .val (.int (nar .char (own_at (nar .char p1.toUInt32.toUInt16.toUInt32.toInt32) (nar .char p2.toUInt32.toUInt16.toUInt32.toInt32) (nar .char p3.toUInt32.toUInt16.toUInt32.toInt32) (nar .char p4.toUInt32.toUInt16.toUInt32.toInt32) (off + idx)))), .val (.int (nar .char (own_at (nar .char p1.toUInt32.toUInt16.toUInt32.toInt32) (nar .char p2.toUInt32.toUInt16.toUInt32.toInt32) (nar .char p3.toUInt32.toUInt16.toUInt32.toInt32) (nar .char p4.toUInt32.toUInt16.toUInt32.toInt32) (off + (0 : Int32))))), .val (.int (nar .char (own_at (nar .char p1.toUInt32.toUInt16.toUInt32.toInt32) (nar .char p2.toUInt32.toUInt16.toUInt32.toInt32) (nar .char p3.toUInt32.toUInt16.toUInt32.toInt32) (nar .char p4.toUInt32.toUInt16.toUInt32.toInt32) (off + (len - (1 : Int32)))))), .unset, .unset] [(.ref b19)])) t
    exact k)
  obtain ⟨cq46, kq46, q46a, q46b, q46c⟩ := isOf hZ eh42 P22_1
  obtain ⟨_, _, ⟨T46, L46, k46, n46⟩, -, X46, ⟨Lc46, hQ46, l46, y46, z46⟩, st46⟩ := X42.virtualBack hx (y := (⟨"com/example/precis/precis/iso2709/Chars", "length", "()I"⟩ : MethodName)) (z := (⟨"com/example/precis/precis/iso2709/Chars", "length", "()I"⟩ : MethodName)) hown (mvT hZ (hw _ (List.mem_of_getElem? (i := 45) rfl))) (mvT hZ (hw _ (List.mem_of_getElem? (i := 46) rfl))) (notFace_of_selects (args := #[]) (mvT hZ (hw _ (List.mem_of_getElem? (i := 48) rfl)))) (mvT hZ (hw _ (List.mem_of_getElem? (i := 48) rfl))) (mvT hZ (hw _ (List.mem_of_getElem? (i := 47) rfl))) (by decide) (backOf (W := 0) (rm10 l Z a0 hw [] b19 len T22.heap n0 sz22 P22_4) hZ (hw _ (List.mem_of_getElem? (i := 49) rfl)) (hw _ (List.mem_of_getElem? (i := 4) rfl)) (by decide) (by decide)) q46a q46c (g := (mkF m 153 #[.val (.int p1), .val (.int p2), .val (.int p3), .val (.int p4), .val (.int p5), .val (.int p6), .val (.ref b2), .val (.int off), .val (.int len), .val (.int idx), .val (.ref b19), .val (.int (nar .char (own_at (nar .char p1.toUInt32.toUInt16.toUInt32.toInt32) (nar .char p2.toUInt32.toUInt16.toUInt32.toInt32) (nar .char p3.toUInt32.toUInt16.toUInt32.toInt32) (nar .char p4.toUInt32.toUInt16.toUInt32.toInt32) (off + idx)))), .val (.int (nar .char (own_at (nar .char p1.toUInt32.toUInt16.toUInt32.toInt32) (nar .char p2.toUInt32.toUInt16.toUInt32.toInt32) (nar .char p3.toUInt32.toUInt16.toUInt32.toInt32) (nar .char p4.toUInt32.toUInt16.toUInt32.toInt32) (off + (0 : Int32))))), .val (.int (nar .char (own_at (nar .char p1.toUInt32.toUInt16.toUInt32.toInt32) (nar .char p2.toUInt32.toUInt16.toUInt32.toInt32) (nar .char p3.toUInt32.toUInt16.toUInt32.toInt32) (nar .char p4.toUInt32.toUInt16.toUInt32.toInt32) (off + (len - (1 : Int32)))))), .unset, .unset] [(.ref b19)])) rfl (by rw [hml]; rfl) (Steps.refl _) (argsL := []) (rest := []) (lenOf pd_ocI rfl) rfl (by show 2 * 0 + _ ≤ _; exact Nat.le_of_eq rfl) (hb hby at_153) (fun _ _ => ⟨rfl, eh42, (by decide : 2 + 0 ≤ _), (by decide : 7 + 0 ≤ _)⟩)
  dsimp only [Pt.U, Pt.locs, Pt.cells, Pt.slots] at X46 l46 y46 z46 st46 hQ46
  subst l46 y46 z46
  obtain ⟨rfl, N46q, eh46⟩ := hQ46
  have N46 := Fr.app N42 N46q
  have pre47 : ∀ t, Steps p.tables e below (T46.setTop (mkF m 156 #[.val (.int p1), .val (.int p2), .val (.int p3), .val (.int p4), .val (.int p5), .val (.int p6), .val (.ref b2), .val (.int off), .val (.int len), .val (.int idx), .val (.ref b19), .val (.int (nar .char (own_at (nar .char p1.toUInt32.toUInt16.toUInt32.toInt32) (nar .char p2.toUInt32.toUInt16.toUInt32.toInt32) (nar .char p3.toUInt32.toUInt16.toUInt32.toInt32) (nar .char p4.toUInt32.toUInt16.toUInt32.toInt32) (off + idx)))), .val (.int (nar .char (own_at (nar .char p1.toUInt32.toUInt16.toUInt32.toInt32) (nar .char p2.toUInt32.toUInt16.toUInt32.toInt32) (nar .char p3.toUInt32.toUInt16.toUInt32.toInt32) (nar .char p4.toUInt32.toUInt16.toUInt32.toInt32) (off + (0 : Int32))))), .val (.int (nar .char (own_at (nar .char p1.toUInt32.toUInt16.toUInt32.toInt32) (nar .char p2.toUInt32.toUInt16.toUInt32.toInt32) (nar .char p3.toUInt32.toUInt16.toUInt32.toInt32) (nar .char p4.toUInt32.toUInt16.toUInt32.toInt32) (off + (len - (1 : Int32)))))), .unset, .unset] [(.int len)])) t → Steps p.tables e below (s₁.setTop (entryFrame m #[(.int p1), (.int p2), (.int p3), (.int p4), (.int p5), (.int p6)] maxLocals)) t := fun t k => pre45 t (st46.trans k)
  have pre49 : ∀ t, Steps p.tables e below (T46.setTop (mkF m 181 #[.val (.int p1), .val (.int p2), .val (.int p3), .val (.int p4), .val (.int p5), .val (.int p6), .val (.ref b2), .val (.int off), .val (.int len), .val (.int idx), .val (.ref b19), .val (.int (nar .char (own_at (nar .char p1.toUInt32.toUInt16.toUInt32.toInt32) (nar .char p2.toUInt32.toUInt16.toUInt32.toInt32) (nar .char p3.toUInt32.toUInt16.toUInt32.toInt32) (nar .char p4.toUInt32.toUInt16.toUInt32.toInt32) (off + idx)))), .val (.int (nar .char (own_at (nar .char p1.toUInt32.toUInt16.toUInt32.toInt32) (nar .char p2.toUInt32.toUInt16.toUInt32.toInt32) (nar .char p3.toUInt32.toUInt16.toUInt32.toInt32) (nar .char p4.toUInt32.toUInt16.toUInt32.toInt32) (off + (0 : Int32))))), .val (.int (nar .char (own_at (nar .char p1.toUInt32.toUInt16.toUInt32.toInt32) (nar .char p2.toUInt32.toUInt16.toUInt32.toInt32) (nar .char p3.toUInt32.toUInt16.toUInt32.toInt32) (nar .char p4.toUInt32.toUInt16.toUInt32.toInt32) (off + (len - (1 : Int32)))))), .val (.int (1 : Int32)), .unset] [(.int (XT.ushr p6 (7 : Int32)).toUInt32.toUInt16.toUInt32.toInt32), (.int (off + idx)), (.ref b2)])) t → Steps p.tables e below (s₁.setTop (entryFrame m #[(.int p1), (.int p2), (.int p3), (.int p4), (.int p5), (.int p6)] maxLocals)) t := fun t k => pre47 t (by
    show Steps p.tables e below (T46.setTop (mkF m 156 #[.val (.int p1), .val (.int p2), .val (.int p3), .val (.int p4), .val (.int p5), .val (.int p6), .val (.ref b2), .val (.int off), .val (.int len), .val (.int idx), .val (.ref b19), .val (.int (nar .char (own_at (nar .char p1.toUInt32.toUInt16.toUInt32.toInt32) (nar .char p2.toUInt32.toUInt16.toUInt32.toInt32) (nar .char p3.toUInt32.toUInt16.toUInt32.toInt32) (nar .char p4.toUInt32.toUInt16.toUInt32.toInt32) (off + idx)))), .val (.int (nar .char (own_at (nar .char p1.toUInt32.toUInt16.toUInt32.toInt32) (nar .char p2.toUInt32.toUInt16.toUInt32.toInt32) (nar .char p3.toUInt32.toUInt16.toUInt32.toInt32) (nar .char p4.toUInt32.toUInt16.toUInt32.toInt32) (off + (0 : Int32))))), .val (.int (nar .char (own_at (nar .char p1.toUInt32.toUInt16.toUInt32.toInt32) (nar .char p2.toUInt32.toUInt16.toUInt32.toInt32) (nar .char p3.toUInt32.toUInt16.toUInt32.toInt32) (nar .char p4.toUInt32.toUInt16.toUInt32.toInt32) (off + (len - (1 : Int32)))))), .unset, .unset] [(.int len)])) t
    refine XS.iload X46.here hx rfl (hb hby at_156) rfl ?_
    show Steps p.tables e below (T46.setTop (mkF m 158 #[.val (.int p1), .val (.int p2), .val (.int p3), .val (.int p4), .val (.int p5), .val (.int p6), .val (.ref b2), .val (.int off), .val (.int len), .val (.int idx), .val (.ref b19), .val (.int (nar .char (own_at (nar .char p1.toUInt32.toUInt16.toUInt32.toInt32) (nar .char p2.toUInt32.toUInt16.toUInt32.toInt32) (nar .char p3.toUInt32.toUInt16.toUInt32.toInt32) (nar .char p4.toUInt32.toUInt16.toUInt32.toInt32) (off + idx)))), .val (.int (nar .char (own_at (nar .char p1.toUInt32.toUInt16.toUInt32.toInt32) (nar .char p2.toUInt32.toUInt16.toUInt32.toInt32) (nar .char p3.toUInt32.toUInt16.toUInt32.toInt32) (nar .char p4.toUInt32.toUInt16.toUInt32.toInt32) (off + (0 : Int32))))), .val (.int (nar .char (own_at (nar .char p1.toUInt32.toUInt16.toUInt32.toInt32) (nar .char p2.toUInt32.toUInt16.toUInt32.toInt32) (nar .char p3.toUInt32.toUInt16.toUInt32.toInt32) (nar .char p4.toUInt32.toUInt16.toUInt32.toInt32) (off + (len - (1 : Int32)))))), .unset, .unset] [(.int len), (.int len)])) t
    refine XS.icmpNo X46.here hx rfl (hb hby at_158) rfl (XT.ii_ne_f (show len = len from rfl)) ?_
    show Steps p.tables e below (T46.setTop (mkF m 161 #[.val (.int p1), .val (.int p2), .val (.int p3), .val (.int p4), .val (.int p5), .val (.int p6), .val (.ref b2), .val (.int off), .val (.int len), .val (.int idx), .val (.ref b19), .val (.int (nar .char (own_at (nar .char p1.toUInt32.toUInt16.toUInt32.toInt32) (nar .char p2.toUInt32.toUInt16.toUInt32.toInt32) (nar .char p3.toUInt32.toUInt16.toUInt32.toInt32) (nar .char p4.toUInt32.toUInt16.toUInt32.toInt32) (off + idx)))), .val (.int (nar .char (own_at (nar .char p1.toUInt32.toUInt16.toUInt32.toInt32) (nar .char p2.toUInt32.toUInt16.toUInt32.toInt32) (nar .char p3.toUInt32.toUInt16.toUInt32.toInt32) (nar .char p4.toUInt32.toUInt16.toUInt32.toInt32) (off + (0 : Int32))))), .val (.int (nar .char (own_at (nar .char p1.toUInt32.toUInt16.toUInt32.toInt32) (nar .char p2.toUInt32.toUInt16.toUInt32.toInt32) (nar .char p3.toUInt32.toUInt16.toUInt32.toInt32) (nar .char p4.toUInt32.toUInt16.toUInt32.toInt32) (off + (len - (1 : Int32)))))), .unset, .unset] [])) t
    refine XS.iconst X46.here hx rfl (hb hby at_161) ?_
    show Steps p.tables e below (T46.setTop (mkF m 162 #[.val (.int p1), .val (.int p2), .val (.int p3), .val (.int p4), .val (.int p5), .val (.int p6), .val (.ref b2), .val (.int off), .val (.int len), .val (.int idx), .val (.ref b19), .val (.int (nar .char (own_at (nar .char p1.toUInt32.toUInt16.toUInt32.toInt32) (nar .char p2.toUInt32.toUInt16.toUInt32.toInt32) (nar .char p3.toUInt32.toUInt16.toUInt32.toInt32) (nar .char p4.toUInt32.toUInt16.toUInt32.toInt32) (off + idx)))), .val (.int (nar .char (own_at (nar .char p1.toUInt32.toUInt16.toUInt32.toInt32) (nar .char p2.toUInt32.toUInt16.toUInt32.toInt32) (nar .char p3.toUInt32.toUInt16.toUInt32.toInt32) (nar .char p4.toUInt32.toUInt16.toUInt32.toInt32) (off + (0 : Int32))))), .val (.int (nar .char (own_at (nar .char p1.toUInt32.toUInt16.toUInt32.toInt32) (nar .char p2.toUInt32.toUInt16.toUInt32.toInt32) (nar .char p3.toUInt32.toUInt16.toUInt32.toInt32) (nar .char p4.toUInt32.toUInt16.toUInt32.toInt32) (off + (len - (1 : Int32)))))), .unset, .unset] [(.int (1 : Int32))])) t
    refine XS.goto X46.here hx rfl (pc0 := 162) (pc' := 166) rfl (hb hby at_162) (by decide) (by decide) ?_
    show Steps p.tables e below (T46.setTop (mkF m 166 #[.val (.int p1), .val (.int p2), .val (.int p3), .val (.int p4), .val (.int p5), .val (.int p6), .val (.ref b2), .val (.int off), .val (.int len), .val (.int idx), .val (.ref b19), .val (.int (nar .char (own_at (nar .char p1.toUInt32.toUInt16.toUInt32.toInt32) (nar .char p2.toUInt32.toUInt16.toUInt32.toInt32) (nar .char p3.toUInt32.toUInt16.toUInt32.toInt32) (nar .char p4.toUInt32.toUInt16.toUInt32.toInt32) (off + idx)))), .val (.int (nar .char (own_at (nar .char p1.toUInt32.toUInt16.toUInt32.toInt32) (nar .char p2.toUInt32.toUInt16.toUInt32.toInt32) (nar .char p3.toUInt32.toUInt16.toUInt32.toInt32) (nar .char p4.toUInt32.toUInt16.toUInt32.toInt32) (off + (0 : Int32))))), .val (.int (nar .char (own_at (nar .char p1.toUInt32.toUInt16.toUInt32.toInt32) (nar .char p2.toUInt32.toUInt16.toUInt32.toInt32) (nar .char p3.toUInt32.toUInt16.toUInt32.toInt32) (nar .char p4.toUInt32.toUInt16.toUInt32.toInt32) (off + (len - (1 : Int32)))))), .unset, .unset] [(.int (1 : Int32))])) t
    refine XS.istore X46.here hx rfl (hb hby at_166) rfl (l' := #[.val (.int p1), .val (.int p2), .val (.int p3), .val (.int p4), .val (.int p5), .val (.int p6), .val (.ref b2), .val (.int off), .val (.int len), .val (.int idx), .val (.ref b19), .val (.int (nar .char (own_at (nar .char p1.toUInt32.toUInt16.toUInt32.toInt32) (nar .char p2.toUInt32.toUInt16.toUInt32.toInt32) (nar .char p3.toUInt32.toUInt16.toUInt32.toInt32) (nar .char p4.toUInt32.toUInt16.toUInt32.toInt32) (off + idx)))), .val (.int (nar .char (own_at (nar .char p1.toUInt32.toUInt16.toUInt32.toInt32) (nar .char p2.toUInt32.toUInt16.toUInt32.toInt32) (nar .char p3.toUInt32.toUInt16.toUInt32.toInt32) (nar .char p4.toUInt32.toUInt16.toUInt32.toInt32) (off + (0 : Int32))))), .val (.int (nar .char (own_at (nar .char p1.toUInt32.toUInt16.toUInt32.toInt32) (nar .char p2.toUInt32.toUInt16.toUInt32.toInt32) (nar .char p3.toUInt32.toUInt16.toUInt32.toInt32) (nar .char p4.toUInt32.toUInt16.toUInt32.toInt32) (off + (len - (1 : Int32)))))), .val (.int (1 : Int32)), .unset]) rfl ?_
    show Steps p.tables e below (T46.setTop (mkF m 168 #[.val (.int p1), .val (.int p2), .val (.int p3), .val (.int p4), .val (.int p5), .val (.int p6), .val (.ref b2), .val (.int off), .val (.int len), .val (.int idx), .val (.ref b19), .val (.int (nar .char (own_at (nar .char p1.toUInt32.toUInt16.toUInt32.toInt32) (nar .char p2.toUInt32.toUInt16.toUInt32.toInt32) (nar .char p3.toUInt32.toUInt16.toUInt32.toInt32) (nar .char p4.toUInt32.toUInt16.toUInt32.toInt32) (off + idx)))), .val (.int (nar .char (own_at (nar .char p1.toUInt32.toUInt16.toUInt32.toInt32) (nar .char p2.toUInt32.toUInt16.toUInt32.toInt32) (nar .char p3.toUInt32.toUInt16.toUInt32.toInt32) (nar .char p4.toUInt32.toUInt16.toUInt32.toInt32) (off + (0 : Int32))))), .val (.int (nar .char (own_at (nar .char p1.toUInt32.toUInt16.toUInt32.toInt32) (nar .char p2.toUInt32.toUInt16.toUInt32.toInt32) (nar .char p3.toUInt32.toUInt16.toUInt32.toInt32) (nar .char p4.toUInt32.toUInt16.toUInt32.toInt32) (off + (len - (1 : Int32)))))), .val (.int (1 : Int32)), .unset] [])) t
    refine XS.aload X46.here hx rfl (hb hby at_168) rfl rfl ?_
    show Steps p.tables e below (T46.setTop (mkF m 170 #[.val (.int p1), .val (.int p2), .val (.int p3), .val (.int p4), .val (.int p5), .val (.int p6), .val (.ref b2), .val (.int off), .val (.int len), .val (.int idx), .val (.ref b19), .val (.int (nar .char (own_at (nar .char p1.toUInt32.toUInt16.toUInt32.toInt32) (nar .char p2.toUInt32.toUInt16.toUInt32.toInt32) (nar .char p3.toUInt32.toUInt16.toUInt32.toInt32) (nar .char p4.toUInt32.toUInt16.toUInt32.toInt32) (off + idx)))), .val (.int (nar .char (own_at (nar .char p1.toUInt32.toUInt16.toUInt32.toInt32) (nar .char p2.toUInt32.toUInt16.toUInt32.toInt32) (nar .char p3.toUInt32.toUInt16.toUInt32.toInt32) (nar .char p4.toUInt32.toUInt16.toUInt32.toInt32) (off + (0 : Int32))))), .val (.int (nar .char (own_at (nar .char p1.toUInt32.toUInt16.toUInt32.toInt32) (nar .char p2.toUInt32.toUInt16.toUInt32.toInt32) (nar .char p3.toUInt32.toUInt16.toUInt32.toInt32) (nar .char p4.toUInt32.toUInt16.toUInt32.toInt32) (off + (len - (1 : Int32)))))), .val (.int (1 : Int32)), .unset] [(.ref b2)])) t
    refine XS.iload X46.here hx rfl (hb hby at_170) rfl ?_
    show Steps p.tables e below (T46.setTop (mkF m 172 #[.val (.int p1), .val (.int p2), .val (.int p3), .val (.int p4), .val (.int p5), .val (.int p6), .val (.ref b2), .val (.int off), .val (.int len), .val (.int idx), .val (.ref b19), .val (.int (nar .char (own_at (nar .char p1.toUInt32.toUInt16.toUInt32.toInt32) (nar .char p2.toUInt32.toUInt16.toUInt32.toInt32) (nar .char p3.toUInt32.toUInt16.toUInt32.toInt32) (nar .char p4.toUInt32.toUInt16.toUInt32.toInt32) (off + idx)))), .val (.int (nar .char (own_at (nar .char p1.toUInt32.toUInt16.toUInt32.toInt32) (nar .char p2.toUInt32.toUInt16.toUInt32.toInt32) (nar .char p3.toUInt32.toUInt16.toUInt32.toInt32) (nar .char p4.toUInt32.toUInt16.toUInt32.toInt32) (off + (0 : Int32))))), .val (.int (nar .char (own_at (nar .char p1.toUInt32.toUInt16.toUInt32.toInt32) (nar .char p2.toUInt32.toUInt16.toUInt32.toInt32) (nar .char p3.toUInt32.toUInt16.toUInt32.toInt32) (nar .char p4.toUInt32.toUInt16.toUInt32.toInt32) (off + (len - (1 : Int32)))))), .val (.int (1 : Int32)), .unset] [(.int off), (.ref b2)])) t
    refine XS.iload X46.here hx rfl (hb hby at_172) rfl ?_
    show Steps p.tables e below (T46.setTop (mkF m 174 #[.val (.int p1), .val (.int p2), .val (.int p3), .val (.int p4), .val (.int p5), .val (.int p6), .val (.ref b2), .val (.int off), .val (.int len), .val (.int idx), .val (.ref b19), .val (.int (nar .char (own_at (nar .char p1.toUInt32.toUInt16.toUInt32.toInt32) (nar .char p2.toUInt32.toUInt16.toUInt32.toInt32) (nar .char p3.toUInt32.toUInt16.toUInt32.toInt32) (nar .char p4.toUInt32.toUInt16.toUInt32.toInt32) (off + idx)))), .val (.int (nar .char (own_at (nar .char p1.toUInt32.toUInt16.toUInt32.toInt32) (nar .char p2.toUInt32.toUInt16.toUInt32.toInt32) (nar .char p3.toUInt32.toUInt16.toUInt32.toInt32) (nar .char p4.toUInt32.toUInt16.toUInt32.toInt32) (off + (0 : Int32))))), .val (.int (nar .char (own_at (nar .char p1.toUInt32.toUInt16.toUInt32.toInt32) (nar .char p2.toUInt32.toUInt16.toUInt32.toInt32) (nar .char p3.toUInt32.toUInt16.toUInt32.toInt32) (nar .char p4.toUInt32.toUInt16.toUInt32.toInt32) (off + (len - (1 : Int32)))))), .val (.int (1 : Int32)), .unset] [(.int idx), (.int off), (.ref b2)])) t
    refine XS.iadd X46.here hx rfl (hb hby at_174) rfl ?_
    show Steps p.tables e below (T46.setTop (mkF m 175 #[.val (.int p1), .val (.int p2), .val (.int p3), .val (.int p4), .val (.int p5), .val (.int p6), .val (.ref b2), .val (.int off), .val (.int len), .val (.int idx), .val (.ref b19), .val (.int (nar .char (own_at (nar .char p1.toUInt32.toUInt16.toUInt32.toInt32) (nar .char p2.toUInt32.toUInt16.toUInt32.toInt32) (nar .char p3.toUInt32.toUInt16.toUInt32.toInt32) (nar .char p4.toUInt32.toUInt16.toUInt32.toInt32) (off + idx)))), .val (.int (nar .char (own_at (nar .char p1.toUInt32.toUInt16.toUInt32.toInt32) (nar .char p2.toUInt32.toUInt16.toUInt32.toInt32) (nar .char p3.toUInt32.toUInt16.toUInt32.toInt32) (nar .char p4.toUInt32.toUInt16.toUInt32.toInt32) (off + (0 : Int32))))), .val (.int (nar .char (own_at (nar .char p1.toUInt32.toUInt16.toUInt32.toInt32) (nar .char p2.toUInt32.toUInt16.toUInt32.toInt32) (nar .char p3.toUInt32.toUInt16.toUInt32.toInt32) (nar .char p4.toUInt32.toUInt16.toUInt32.toInt32) (off + (len - (1 : Int32)))))), .val (.int (1 : Int32)), .unset] [(.int (off + idx)), (.ref b2)])) t
    refine XS.iload X46.here hx rfl (hb hby at_175) rfl ?_
    show Steps p.tables e below (T46.setTop (mkF m 177 #[.val (.int p1), .val (.int p2), .val (.int p3), .val (.int p4), .val (.int p5), .val (.int p6), .val (.ref b2), .val (.int off), .val (.int len), .val (.int idx), .val (.ref b19), .val (.int (nar .char (own_at (nar .char p1.toUInt32.toUInt16.toUInt32.toInt32) (nar .char p2.toUInt32.toUInt16.toUInt32.toInt32) (nar .char p3.toUInt32.toUInt16.toUInt32.toInt32) (nar .char p4.toUInt32.toUInt16.toUInt32.toInt32) (off + idx)))), .val (.int (nar .char (own_at (nar .char p1.toUInt32.toUInt16.toUInt32.toInt32) (nar .char p2.toUInt32.toUInt16.toUInt32.toInt32) (nar .char p3.toUInt32.toUInt16.toUInt32.toInt32) (nar .char p4.toUInt32.toUInt16.toUInt32.toInt32) (off + (0 : Int32))))), .val (.int (nar .char (own_at (nar .char p1.toUInt32.toUInt16.toUInt32.toInt32) (nar .char p2.toUInt32.toUInt16.toUInt32.toInt32) (nar .char p3.toUInt32.toUInt16.toUInt32.toInt32) (nar .char p4.toUInt32.toUInt16.toUInt32.toInt32) (off + (len - (1 : Int32)))))), .val (.int (1 : Int32)), .unset] [(.int p6), (.int (off + idx)), (.ref b2)])) t
    refine XS.bipush X46.here hx rfl (hb hby at_177) ?_
    show Steps p.tables e below (T46.setTop (mkF m 179 #[.val (.int p1), .val (.int p2), .val (.int p3), .val (.int p4), .val (.int p5), .val (.int p6), .val (.ref b2), .val (.int off), .val (.int len), .val (.int idx), .val (.ref b19), .val (.int (nar .char (own_at (nar .char p1.toUInt32.toUInt16.toUInt32.toInt32) (nar .char p2.toUInt32.toUInt16.toUInt32.toInt32) (nar .char p3.toUInt32.toUInt16.toUInt32.toInt32) (nar .char p4.toUInt32.toUInt16.toUInt32.toInt32) (off + idx)))), .val (.int (nar .char (own_at (nar .char p1.toUInt32.toUInt16.toUInt32.toInt32) (nar .char p2.toUInt32.toUInt16.toUInt32.toInt32) (nar .char p3.toUInt32.toUInt16.toUInt32.toInt32) (nar .char p4.toUInt32.toUInt16.toUInt32.toInt32) (off + (0 : Int32))))), .val (.int (nar .char (own_at (nar .char p1.toUInt32.toUInt16.toUInt32.toInt32) (nar .char p2.toUInt32.toUInt16.toUInt32.toInt32) (nar .char p3.toUInt32.toUInt16.toUInt32.toInt32) (nar .char p4.toUInt32.toUInt16.toUInt32.toInt32) (off + (len - (1 : Int32)))))), .val (.int (1 : Int32)), .unset] [(.int (7 : Int32)), (.int p6), (.int (off + idx)), (.ref b2)])) t
    refine XT.iushr X46.here hx rfl (hb hby at_179) rfl ?_
    show Steps p.tables e below (T46.setTop (mkF m 180 #[.val (.int p1), .val (.int p2), .val (.int p3), .val (.int p4), .val (.int p5), .val (.int p6), .val (.ref b2), .val (.int off), .val (.int len), .val (.int idx), .val (.ref b19), .val (.int (nar .char (own_at (nar .char p1.toUInt32.toUInt16.toUInt32.toInt32) (nar .char p2.toUInt32.toUInt16.toUInt32.toInt32) (nar .char p3.toUInt32.toUInt16.toUInt32.toInt32) (nar .char p4.toUInt32.toUInt16.toUInt32.toInt32) (off + idx)))), .val (.int (nar .char (own_at (nar .char p1.toUInt32.toUInt16.toUInt32.toInt32) (nar .char p2.toUInt32.toUInt16.toUInt32.toInt32) (nar .char p3.toUInt32.toUInt16.toUInt32.toInt32) (nar .char p4.toUInt32.toUInt16.toUInt32.toInt32) (off + (0 : Int32))))), .val (.int (nar .char (own_at (nar .char p1.toUInt32.toUInt16.toUInt32.toInt32) (nar .char p2.toUInt32.toUInt16.toUInt32.toInt32) (nar .char p3.toUInt32.toUInt16.toUInt32.toInt32) (nar .char p4.toUInt32.toUInt16.toUInt32.toInt32) (off + (len - (1 : Int32)))))), .val (.int (1 : Int32)), .unset] [(.int (XT.ushr p6 (7 : Int32))), (.int (off + idx)), (.ref b2)])) t
    refine XT.i2c X46.here hx rfl (hb hby at_180) rfl ?_
    show Steps p.tables e below (T46.setTop (mkF m 181 #[.val (.int p1), .val (.int p2), .val (.int p3), .val (.int p4), .val (.int p5), .val (.int p6), .val (.ref b2), .val (.int off), .val (.int len), .val (.int idx), .val (.ref b19), .val (.int (nar .char (own_at (nar .char p1.toUInt32.toUInt16.toUInt32.toInt32) (nar .char p2.toUInt32.toUInt16.toUInt32.toInt32) (nar .char p3.toUInt32.toUInt16.toUInt32.toInt32) (nar .char p4.toUInt32.toUInt16.toUInt32.toInt32) (off + idx)))), .val (.int (nar .char (own_at (nar .char p1.toUInt32.toUInt16.toUInt32.toInt32) (nar .char p2.toUInt32.toUInt16.toUInt32.toInt32) (nar .char p3.toUInt32.toUInt16.toUInt32.toInt32) (nar .char p4.toUInt32.toUInt16.toUInt32.toInt32) (off + (0 : Int32))))), .val (.int (nar .char (own_at (nar .char p1.toUInt32.toUInt16.toUInt32.toInt32) (nar .char p2.toUInt32.toUInt16.toUInt32.toInt32) (nar .char p3.toUInt32.toUInt16.toUInt32.toInt32) (nar .char p4.toUInt32.toUInt16.toUInt32.toInt32) (off + (len - (1 : Int32)))))), .val (.int (1 : Int32)), .unset] [(.int (XT.ushr p6 (7 : Int32)).toUInt32.toUInt16.toUInt32.toInt32), (.int (off + idx)), (.ref b2)])) t
    exact k)
  obtain ⟨cl50, Ar50, q50, S50, N50q, H50, G50⟩ := V_b2__22
  have hin50 : ¬ ((off + idx) < 0 ∨ cl50.slots.size ≤ ((off + idx)).toNatClampNeg) := inb_of S50 (own_c3 hoff hlen hidx)
  obtain ⟨T50, h50, X50, eh50, W50, st50⟩ := stC X46 hx hZ eh46 Ar50 (j := (off + idx)) hin50 (g := (mkF m 181 #[.val (.int p1), .val (.int p2), .val (.int p3), .val (.int p4), .val (.int p5), .val (.int p6), .val (.ref b2), .val (.int off), .val (.int len), .val (.int idx), .val (.ref b19), .val (.int (nar .char (own_at (nar .char p1.toUInt32.toUInt16.toUInt32.toInt32) (nar .char p2.toUInt32.toUInt16.toUInt32.toInt32) (nar .char p3.toUInt32.toUInt16.toUInt32.toInt32) (nar .char p4.toUInt32.toUInt16.toUInt32.toInt32) (off + idx)))), .val (.int (nar .char (own_at (nar .char p1.toUInt32.toUInt16.toUInt32.toInt32) (nar .char p2.toUInt32.toUInt16.toUInt32.toInt32) (nar .char p3.toUInt32.toUInt16.toUInt32.toInt32) (nar .char p4.toUInt32.toUInt16.toUInt32.toInt32) (off + (0 : Int32))))), .val (.int (nar .char (own_at (nar .char p1.toUInt32.toUInt16.toUInt32.toInt32) (nar .char p2.toUInt32.toUInt16.toUInt32.toInt32) (nar .char p3.toUInt32.toUInt16.toUInt32.toInt32) (nar .char p4.toUInt32.toUInt16.toUInt32.toInt32) (off + (len - (1 : Int32)))))), .val (.int (1 : Int32)), .unset] [(.int (XT.ushr p6 (7 : Int32)).toUInt32.toUInt16.toUInt32.toInt32), (.int (off + idx)), (.ref b2)])) rfl rfl (hb hby at_181)
  have P22_1__50 : Exa Z h50 b19 "com/example/precis/precis/iso2709/Chars" := P22_1.wr W50
  have P22_2__50 : Fld Z h50 b19 "com/example/precis/precis/iso2709/Chars" "array" "[C" (.ref b2) := P22_2.other W50 (Or.inl (Ne.symm ne_b2_b19))
  have P22_3__50 : Fld Z h50 b19 "com/example/precis/precis/iso2709/Chars" "offset" "I" (.int off) := P22_3.other W50 (Or.inl (Ne.symm ne_b2_b19))
  have P22_4__50 : Fld Z h50 b19 "com/example/precis/precis/iso2709/Chars" "length" "I" (.int len) := P22_4.other W50 (Or.inl (Ne.symm ne_b2_b19))
  have sz50 : n0 ≤ h50.size := Nat.le_trans sz22 (Keep.of_wr W50).1
  have N50 := Fr.snoc X50 N46 g_b2
  have V_b2__50 : Arv Z h50 b2 k2 .char (4 : Int32) [(.int (if (off + idx) = (0 : Int32) then (nar .char (XT.ushr p6 (7 : Int32)).toUInt32.toUInt16.toUInt32.toInt32) else (nar .char p1.toUInt32.toUInt16.toUInt32.toInt32))), (.int (if (off + idx) = (1 : Int32) then (nar .char (XT.ushr p6 (7 : Int32)).toUInt32.toUInt16.toUInt32.toInt32) else (nar .char p2.toUInt32.toUInt16.toUInt32.toInt32))), (.int (if (off + idx) = (2 : Int32) then (nar .char (XT.ushr p6 (7 : Int32)).toUInt32.toUInt16.toUInt32.toInt32) else (nar .char p3.toUInt32.toUInt16.toUInt32.toInt32))), (.int (if (off + idx) = (3 : Int32) then (nar .char (XT.ushr p6 (7 : Int32)).toUInt32.toUInt16.toUInt32.toInt32) else (nar .char p4.toUInt32.toUInt16.toUInt32.toInt32)))] (.int (0 : Int32)) := by
    have q := Arv.set Ar50 q50 S50 N50q H50 G50 (fits_nar_char _) W50 ((off + idx)).toNatClampNeg rfl (own_lt4 (own_c3 hoff hlen hidx))
    rw [own_setl _ _ _ _ _ (own_c3 hoff hlen hidx)] at q
    exact q
  have pre51 : ∀ t, Steps p.tables e below (T50.setTop (mkF m 182 #[.val (.int p1), .val (.int p2), .val (.int p3), .val (.int p4), .val (.int p5), .val (.int p6), .val (.ref b2), .val (.int off), .val (.int len), .val (.int idx), .val (.ref b19), .val (.int (nar .char (own_at (nar .char p1.toUInt32.toUInt16.toUInt32.toInt32) (nar .char p2.toUInt32.toUInt16.toUInt32.toInt32) (nar .char p3.toUInt32.toUInt16.toUInt32.toInt32) (nar .char p4.toUInt32.toUInt16.toUInt32.toInt32) (off + idx)))), .val (.int (nar .char (own_at (nar .char p1.toUInt32.toUInt16.toUInt32.toInt32) (nar .char p2.toUInt32.toUInt16.toUInt32.toInt32) (nar .char p3.toUInt32.toUInt16.toUInt32.toInt32) (nar .char p4.toUInt32.toUInt16.toUInt32.toInt32) (off + (0 : Int32))))), .val (.int (nar .char (own_at (nar .char p1.toUInt32.toUInt16.toUInt32.toInt32) (nar .char p2.toUInt32.toUInt16.toUInt32.toInt32) (nar .char p3.toUInt32.toUInt16.toUInt32.toInt32) (nar .char p4.toUInt32.toUInt16.toUInt32.toInt32) (off + (len - (1 : Int32)))))), .val (.int (1 : Int32)), .unset] [])) t → Steps p.tables e below (s₁.setTop (entryFrame m #[(.int p1), (.int p2), (.int p3), (.int p4), (.int p5), (.int p6)] maxLocals)) t := fun t k => pre49 t (st50 _ k)
  have pre52 : ∀ t, Steps p.tables e below (T50.setTop (mkF m 186 #[.val (.int p1), .val (.int p2), .val (.int p3), .val (.int p4), .val (.int p5), .val (.int p6), .val (.ref b2), .val (.int off), .val (.int len), .val (.int idx), .val (.ref b19), .val (.int (nar .char (own_at (nar .char p1.toUInt32.toUInt16.toUInt32.toInt32) (nar .char p2.toUInt32.toUInt16.toUInt32.toInt32) (nar .char p3.toUInt32.toUInt16.toUInt32.toInt32) (nar .char p4.toUInt32.toUInt16.toUInt32.toInt32) (off + idx)))), .val (.int (nar .char (own_at (nar .char p1.toUInt32.toUInt16.toUInt32.toInt32) (nar .char p2.toUInt32.toUInt16.toUInt32.toInt32) (nar .char p3.toUInt32.toUInt16.toUInt32.toInt32) (nar .char p4.toUInt32.toUInt16.toUInt32.toInt32) (off + (0 : Int32))))), .val (.int (nar .char (own_at (nar .char p1.toUInt32.toUInt16.toUInt32.toInt32) (nar .char p2.toUInt32.toUInt16.toUInt32.toInt32) (nar .char p3.toUInt32.toUInt16.toUInt32.toInt32) (nar .char p4.toUInt32.toUInt16.toUInt32.toInt32) (off + (len - (1 : Int32)))))), .val (.int (1 : Int32)), .unset] [(.int idx), (.ref b19)])) t → Steps p.tables e below (s₁.setTop (entryFrame m #[(.int p1), (.int p2), (.int p3), (.int p4), (.int p5), (.int p6)] maxLocals)) t := fun t k => pre51 t (by
    show Steps p.tables e below (T50.setTop (mkF m 182 #[.val (.int p1), .val (.int p2), .val (.int p3), .val (.int p4), .val (.int p5), .val (.int p6), .val (.ref b2), .val (.int off), .val (.int len), .val (.int idx), .val (.ref b19), .val (.int (nar .char (own_at (nar .char p1.toUInt32.toUInt16.toUInt32.toInt32) (nar .char p2.toUInt32.toUInt16.toUInt32.toInt32) (nar .char p3.toUInt32.toUInt16.toUInt32.toInt32) (nar .char p4.toUInt32.toUInt16.toUInt32.toInt32) (off + idx)))), .val (.int (nar .char (own_at (nar .char p1.toUInt32.toUInt16.toUInt32.toInt32) (nar .char p2.toUInt32.toUInt16.toUInt32.toInt32) (nar .char p3.toUInt32.toUInt16.toUInt32.toInt32) (nar .char p4.toUInt32.toUInt16.toUInt32.toInt32) (off + (0 : Int32))))), .val (.int (nar .char (own_at (nar .char p1.toUInt32.toUInt16.toUInt32.toInt32) (nar .char p2.toUInt32.toUInt16.toUInt32.toInt32) (nar .char p3.toUInt32.toUInt16.toUInt32.toInt32) (nar .char p4.toUInt32.toUInt16.toUInt32.toInt32) (off + (len - (1 : Int32)))))), .val (.int (1 : Int32)), .unset] [])) t
    refine XS.aload X50.here hx rfl (hb hby at_182) rfl rfl ?_
    show Steps p.tables e below (T50.setTop (mkF m 184 #[.val (.int p1), .val (.int p2), .val (.int p3), .val (.int p4), .val (.int p5), .val (.int p6), .val (.ref b2), .val (.int off), .val (.int len), .val (.int idx), .val (.ref b19), .val (.int (nar .char (own_at (nar .char p1.toUInt32.toUInt16.toUInt32.toInt32) (nar .char p2.toUInt32.toUInt16.toUInt32.toInt32) (nar .char p3.toUInt32.toUInt16.toUInt32.toInt32) (nar .char p4.toUInt32.toUInt16.toUInt32.toInt32) (off + idx)))), .val (.int (nar .char (own_at (nar .char p1.toUInt32.toUInt16.toUInt32.toInt32) (nar .char p2.toUInt32.toUInt16.toUInt32.toInt32) (nar .char p3.toUInt32.toUInt16.toUInt32.toInt32) (nar .char p4.toUInt32.toUInt16.toUInt32.toInt32) (off + (0 : Int32))))), .val (.int (nar .char (own_at (nar .char p1.toUInt32.toUInt16.toUInt32.toInt32) (nar .char p2.toUInt32.toUInt16.toUInt32.toInt32) (nar .char p3.toUInt32.toUInt16.toUInt32.toInt32) (nar .char p4.toUInt32.toUInt16.toUInt32.toInt32) (off + (len - (1 : Int32)))))), .val (.int (1 : Int32)), .unset] [(.ref b19)])) t
    refine XS.iload X50.here hx rfl (hb hby at_184) rfl ?_
    show Steps p.tables e below (T50.setTop (mkF m 186 #[.val (.int p1), .val (.int p2), .val (.int p3), .val (.int p4), .val (.int p5), .val (.int p6), .val (.ref b2), .val (.int off), .val (.int len), .val (.int idx), .val (.ref b19), .val (.int (nar .char (own_at (nar .char p1.toUInt32.toUInt16.toUInt32.toInt32) (nar .char p2.toUInt32.toUInt16.toUInt32.toInt32) (nar .char p3.toUInt32.toUInt16.toUInt32.toInt32) (nar .char p4.toUInt32.toUInt16.toUInt32.toInt32) (off + idx)))), .val (.int (nar .char (own_at (nar .char p1.toUInt32.toUInt16.toUInt32.toInt32) (nar .char p2.toUInt32.toUInt16.toUInt32.toInt32) (nar .char p3.toUInt32.toUInt16.toUInt32.toInt32) (nar .char p4.toUInt32.toUInt16.toUInt32.toInt32) (off + (0 : Int32))))), .val (.int (nar .char (own_at (nar .char p1.toUInt32.toUInt16.toUInt32.toInt32) (nar .char p2.toUInt32.toUInt16.toUInt32.toInt32) (nar .char p3.toUInt32.toUInt16.toUInt32.toInt32) (nar .char p4.toUInt32.toUInt16.toUInt32.toInt32) (off + (len - (1 : Int32)))))), .val (.int (1 : Int32)), .unset] [(.int idx), (.ref b19)])) t
    exact k)
  obtain ⟨cq53, kq53, q53a, q53b, q53c⟩ := isOf hZ eh50 P22_1__50
  obtain ⟨_, _, ⟨T53, L53, k53, n53⟩, -, X53, ⟨Lc53, hQ53, l53, y53, z53⟩, st53⟩ := X50.virtualBack hx (y := (⟨"com/example/precis/precis/iso2709/Chars", "charAt", "(I)C"⟩ : MethodName)) (z := (⟨"com/example/precis/precis/iso2709/Chars", "charAt", "(I)C"⟩ : MethodName)) hown (mvT hZ (hw _ (List.mem_of_getElem? (i := 30) rfl))) (mvT hZ (hw _ (List.mem_of_getElem? (i := 31) rfl))) (notFace_of_selects (args := #[]) (mvT hZ (hw _ (List.mem_of_getElem? (i := 33) rfl)))) (mvT hZ (hw _ (List.mem_of_getElem? (i := 33) rfl))) (mvT hZ (hw _ (List.mem_of_getElem? (i := 32) rfl))) (by decide) (backOf (W := 0) (rm6 l Z a0 hw [] b19 idx b2 off len k2 (if (off + idx) = (0 : Int32) then (nar .char (XT.ushr p6 (7 : Int32)).toUInt32.toUInt16.toUInt32.toInt32) else (nar .char p1.toUInt32.toUInt16.toUInt32.toInt32)) (if (off + idx) = (1 : Int32) then (nar .char (XT.ushr p6 (7 : Int32)).toUInt32.toUInt16.toUInt32.toInt32) else (nar .char p2.toUInt32.toUInt16.toUInt32.toInt32)) (if (off + idx) = (2 : Int32) then (nar .char (XT.ushr p6 (7 : Int32)).toUInt32.toUInt16.toUInt32.toInt32) else (nar .char p3.toUInt32.toUInt16.toUInt32.toInt32)) (if (off + idx) = (3 : Int32) then (nar .char (XT.ushr p6 (7 : Int32)).toUInt32.toUInt16.toUInt32.toInt32) else (nar .char p4.toUInt32.toUInt16.toUInt32.toInt32)) h50 n0 sz50 P22_2__50 P22_3__50 P22_4__50 V_b2__50 (show ¬ idx < (0 : Int32) from own_c1 hidx) (show idx < len from own_c2 hidx) (show ¬ (off + idx) < (0 : Int32) ∧ (off + idx) < (4 : Int32) from own_c3 hoff hlen hidx)) hZ (hw _ (List.mem_of_getElem? (i := 34) rfl)) (hw _ (List.mem_of_getElem? (i := 4) rfl)) (by decide) (by decide)) q53a q53c (g := (mkF m 186 #[.val (.int p1), .val (.int p2), .val (.int p3), .val (.int p4), .val (.int p5), .val (.int p6), .val (.ref b2), .val (.int off), .val (.int len), .val (.int idx), .val (.ref b19), .val (.int (nar .char (own_at (nar .char p1.toUInt32.toUInt16.toUInt32.toInt32) (nar .char p2.toUInt32.toUInt16.toUInt32.toInt32) (nar .char p3.toUInt32.toUInt16.toUInt32.toInt32) (nar .char p4.toUInt32.toUInt16.toUInt32.toInt32) (off + idx)))), .val (.int (nar .char (own_at (nar .char p1.toUInt32.toUInt16.toUInt32.toInt32) (nar .char p2.toUInt32.toUInt16.toUInt32.toInt32) (nar .char p3.toUInt32.toUInt16.toUInt32.toInt32) (nar .char p4.toUInt32.toUInt16.toUInt32.toInt32) (off + (0 : Int32))))), .val (.int (nar .char (own_at (nar .char p1.toUInt32.toUInt16.toUInt32.toInt32) (nar .char p2.toUInt32.toUInt16.toUInt32.toInt32) (nar .char p3.toUInt32.toUInt16.toUInt32.toInt32) (nar .char p4.toUInt32.toUInt16.toUInt32.toInt32) (off + (len - (1 : Int32)))))), .val (.int (1 : Int32)), .unset] [(.int idx), (.ref b19)])) rfl (by rw [hml]; rfl) (Steps.refl _) (argsL := [(.int idx)]) (rest := []) (lenOf pd_oIcC rfl) rfl (by show 2 * 0 + _ ≤ _; exact Nat.le_of_eq rfl) (hb hby at_186) (fun _ _ => ⟨rfl, eh50, (by decide : 2 + 0 ≤ _), (by decide : 7 + 0 ≤ _)⟩)
  dsimp only [Pt.U, Pt.locs, Pt.cells, Pt.slots] at X53 l53 y53 z53 st53 hQ53
  subst l53 y53 z53
  obtain ⟨rfl, N53q, eh53⟩ := hQ53
  have N53 := Fr.app N50 N53q
  have pre54 : ∀ t, Steps p.tables e below (T53.setTop (mkF m 189 #[.val (.int p1), .val (.int p2), .val (.int p3), .val (.int p4), .val (.int p5), .val (.int p6), .val (.ref b2), .val (.int off), .val (.int len), .val (.int idx), .val (.ref b19), .val (.int (nar .char (own_at (nar .char p1.toUInt32.toUInt16.toUInt32.toInt32) (nar .char p2.toUInt32.toUInt16.toUInt32.toInt32) (nar .char p3.toUInt32.toUInt16.toUInt32.toInt32) (nar .char p4.toUInt32.toUInt16.toUInt32.toInt32) (off + idx)))), .val (.int (nar .char (own_at (nar .char p1.toUInt32.toUInt16.toUInt32.toInt32) (nar .char p2.toUInt32.toUInt16.toUInt32.toInt32) (nar .char p3.toUInt32.toUInt16.toUInt32.toInt32) (nar .char p4.toUInt32.toUInt16.toUInt32.toInt32) (off + (0 : Int32))))), .val (.int (nar .char (own_at (nar .char p1.toUInt32.toUInt16.toUInt32.toInt32) (nar .char p2.toUInt32.toUInt16.toUInt32.toInt32) (nar .char p3.toUInt32.toUInt16.toUInt32.toInt32) (nar .char p4.toUInt32.toUInt16.toUInt32.toInt32) (off + (len - (1 : Int32)))))), .val (.int (1 : Int32)), .unset] [(.int (nar .char (own_at (if (off + idx) = (0 : Int32) then (nar .char (XT.ushr p6 (7 : Int32)).toUInt32.toUInt16.toUInt32.toInt32) else (nar .char p1.toUInt32.toUInt16.toUInt32.toInt32)) (if (off + idx) = (1 : Int32) then (nar .char (XT.ushr p6 (7 : Int32)).toUInt32.toUInt16.toUInt32.toInt32) else (nar .char p2.toUInt32.toUInt16.toUInt32.toInt32)) (if (off + idx) = (2 : Int32) then (nar .char (XT.ushr p6 (7 : Int32)).toUInt32.toUInt16.toUInt32.toInt32) else (nar .char p3.toUInt32.toUInt16.toUInt32.toInt32)) (if (off + idx) = (3 : Int32) then (nar .char (XT.ushr p6 (7 : Int32)).toUInt32.toUInt16.toUInt32.toInt32) else (nar .char p4.toUInt32.toUInt16.toUInt32.toInt32)) (off + idx))))])) t → Steps p.tables e below (s₁.setTop (entryFrame m #[(.int p1), (.int p2), (.int p3), (.int p4), (.int p5), (.int p6)] maxLocals)) t := fun t k => pre52 t (st53.trans k)
  have pre57 : ∀ t, Steps p.tables e below (T53.setTop (mkF m 212 #[.val (.int p1), .val (.int p2), .val (.int p3), .val (.int p4), .val (.int p5), .val (.int p6), .val (.ref b2), .val (.int off), .val (.int len), .val (.int idx), .val (.ref b19), .val (.int (nar .char (own_at (nar .char p1.toUInt32.toUInt16.toUInt32.toInt32) (nar .char p2.toUInt32.toUInt16.toUInt32.toInt32) (nar .char p3.toUInt32.toUInt16.toUInt32.toInt32) (nar .char p4.toUInt32.toUInt16.toUInt32.toInt32) (off + idx)))), .val (.int (nar .char (own_at (nar .char p1.toUInt32.toUInt16.toUInt32.toInt32) (nar .char p2.toUInt32.toUInt16.toUInt32.toInt32) (nar .char p3.toUInt32.toUInt16.toUInt32.toInt32) (nar .char p4.toUInt32.toUInt16.toUInt32.toInt32) (off + (0 : Int32))))), .val (.int (nar .char (own_at (nar .char p1.toUInt32.toUInt16.toUInt32.toInt32) (nar .char p2.toUInt32.toUInt16.toUInt32.toInt32) (nar .char p3.toUInt32.toUInt16.toUInt32.toInt32) (nar .char p4.toUInt32.toUInt16.toUInt32.toInt32) (off + (len - (1 : Int32)))))), .val (.int (1 : Int32)), .val (.int (nar .char (own_at (if (off + idx) = (0 : Int32) then (nar .char (XT.ushr p6 (7 : Int32)).toUInt32.toUInt16.toUInt32.toInt32) else (nar .char p1.toUInt32.toUInt16.toUInt32.toInt32)) (if (off + idx) = (1 : Int32) then (nar .char (XT.ushr p6 (7 : Int32)).toUInt32.toUInt16.toUInt32.toInt32) else (nar .char p2.toUInt32.toUInt16.toUInt32.toInt32)) (if (off + idx) = (2 : Int32) then (nar .char (XT.ushr p6 (7 : Int32)).toUInt32.toUInt16.toUInt32.toInt32) else (nar .char p3.toUInt32.toUInt16.toUInt32.toInt32)) (if (off + idx) = (3 : Int32) then (nar .char (XT.ushr p6 (7 : Int32)).toUInt32.toUInt16.toUInt32.toInt32) else (nar .char p4.toUInt32.toUInt16.toUInt32.toInt32)) (off + idx))))] [(.int (1 : Int32))])) t → Steps p.tables e below (s₁.setTop (entryFrame m #[(.int p1), (.int p2), (.int p3), (.int p4), (.int p5), (.int p6)] maxLocals)) t := fun t k => pre54 t (by
    show Steps p.tables e below (T53.setTop (mkF m 189 #[.val (.int p1), .val (.int p2), .val (.int p3), .val (.int p4), .val (.int p5), .val (.int p6), .val (.ref b2), .val (.int off), .val (.int len), .val (.int idx), .val (.ref b19), .val (.int (nar .char (own_at (nar .char p1.toUInt32.toUInt16.toUInt32.toInt32) (nar .char p2.toUInt32.toUInt16.toUInt32.toInt32) (nar .char p3.toUInt32.toUInt16.toUInt32.toInt32) (nar .char p4.toUInt32.toUInt16.toUInt32.toInt32) (off + idx)))), .val (.int (nar .char (own_at (nar .char p1.toUInt32.toUInt16.toUInt32.toInt32) (nar .char p2.toUInt32.toUInt16.toUInt32.toInt32) (nar .char p3.toUInt32.toUInt16.toUInt32.toInt32) (nar .char p4.toUInt32.toUInt16.toUInt32.toInt32) (off + (0 : Int32))))), .val (.int (nar .char (own_at (nar .char p1.toUInt32.toUInt16.toUInt32.toInt32) (nar .char p2.toUInt32.toUInt16.toUInt32.toInt32) (nar .char p3.toUInt32.toUInt16.toUInt32.toInt32) (nar .char p4.toUInt32.toUInt16.toUInt32.toInt32) (off + (len - (1 : Int32)))))), .val (.int (1 : Int32)), .unset] [(.int (nar .char (own_at (if (off + idx) = (0 : Int32) then (nar .char (XT.ushr p6 (7 : Int32)).toUInt32.toUInt16.toUInt32.toInt32) else (nar .char p1.toUInt32.toUInt16.toUInt32.toInt32)) (if (off + idx) = (1 : Int32) then (nar .char (XT.ushr p6 (7 : Int32)).toUInt32.toUInt16.toUInt32.toInt32) else (nar .char p2.toUInt32.toUInt16.toUInt32.toInt32)) (if (off + idx) = (2 : Int32) then (nar .char (XT.ushr p6 (7 : Int32)).toUInt32.toUInt16.toUInt32.toInt32) else (nar .char p3.toUInt32.toUInt16.toUInt32.toInt32)) (if (off + idx) = (3 : Int32) then (nar .char (XT.ushr p6 (7 : Int32)).toUInt32.toUInt16.toUInt32.toInt32) else (nar .char p4.toUInt32.toUInt16.toUInt32.toInt32)) (off + idx))))])) t
    refine XS.istore X53.here hx rfl (hb hby at_189) rfl (l' := #[.val (.int p1), .val (.int p2), .val (.int p3), .val (.int p4), .val (.int p5), .val (.int p6), .val (.ref b2), .val (.int off), .val (.int len), .val (.int idx), .val (.ref b19), .val (.int (nar .char (own_at (nar .char p1.toUInt32.toUInt16.toUInt32.toInt32) (nar .char p2.toUInt32.toUInt16.toUInt32.toInt32) (nar .char p3.toUInt32.toUInt16.toUInt32.toInt32) (nar .char p4.toUInt32.toUInt16.toUInt32.toInt32) (off + idx)))), .val (.int (nar .char (own_at (nar .char p1.toUInt32.toUInt16.toUInt32.toInt32) (nar .char p2.toUInt32.toUInt16.toUInt32.toInt32) (nar .char p3.toUInt32.toUInt16.toUInt32.toInt32) (nar .char p4.toUInt32.toUInt16.toUInt32.toInt32) (off + (0 : Int32))))), .val (.int (nar .char (own_at (nar .char p1.toUInt32.toUInt16.toUInt32.toInt32) (nar .char p2.toUInt32.toUInt16.toUInt32.toInt32) (nar .char p3.toUInt32.toUInt16.toUInt32.toInt32) (nar .char p4.toUInt32.toUInt16.toUInt32.toInt32) (off + (len - (1 : Int32)))))), .val (.int (1 : Int32)), .val (.int (nar .char (own_at (if (off + idx) = (0 : Int32) then (nar .char (XT.ushr p6 (7 : Int32)).toUInt32.toUInt16.toUInt32.toInt32) else (nar .char p1.toUInt32.toUInt16.toUInt32.toInt32)) (if (off + idx) = (1 : Int32) then (nar .char (XT.ushr p6 (7 : Int32)).toUInt32.toUInt16.toUInt32.toInt32) else (nar .char p2.toUInt32.toUInt16.toUInt32.toInt32)) (if (off + idx) = (2 : Int32) then (nar .char (XT.ushr p6 (7 : Int32)).toUInt32.toUInt16.toUInt32.toInt32) else (nar .char p3.toUInt32.toUInt16.toUInt32.toInt32)) (if (off + idx) = (3 : Int32) then (nar .char (XT.ushr p6 (7 : Int32)).toUInt32.toUInt16.toUInt32.toInt32) else (nar .char p4.toUInt32.toUInt16.toUInt32.toInt32)) (off + idx))))]) rfl ?_
    show Steps p.tables e below (T53.setTop (mkF m 191 #[.val (.int p1), .val (.int p2), .val (.int p3), .val (.int p4), .val (.int p5), .val (.int p6), .val (.ref b2), .val (.int off), .val (.int len), .val (.int idx), .val (.ref b19), .val (.int (nar .char (own_at (nar .char p1.toUInt32.toUInt16.toUInt32.toInt32) (nar .char p2.toUInt32.toUInt16.toUInt32.toInt32) (nar .char p3.toUInt32.toUInt16.toUInt32.toInt32) (nar .char p4.toUInt32.toUInt16.toUInt32.toInt32) (off + idx)))), .val (.int (nar .char (own_at (nar .char p1.toUInt32.toUInt16.toUInt32.toInt32) (nar .char p2.toUInt32.toUInt16.toUInt32.toInt32) (nar .char p3.toUInt32.toUInt16.toUInt32.toInt32) (nar .char p4.toUInt32.toUInt16.toUInt32.toInt32) (off + (0 : Int32))))), .val (.int (nar .char (own_at (nar .char p1.toUInt32.toUInt16.toUInt32.toInt32) (nar .char p2.toUInt32.toUInt16.toUInt32.toInt32) (nar .char p3.toUInt32.toUInt16.toUInt32.toInt32) (nar .char p4.toUInt32.toUInt16.toUInt32.toInt32) (off + (len - (1 : Int32)))))), .val (.int (1 : Int32)), .val (.int (nar .char (own_at (if (off + idx) = (0 : Int32) then (nar .char (XT.ushr p6 (7 : Int32)).toUInt32.toUInt16.toUInt32.toInt32) else (nar .char p1.toUInt32.toUInt16.toUInt32.toInt32)) (if (off + idx) = (1 : Int32) then (nar .char (XT.ushr p6 (7 : Int32)).toUInt32.toUInt16.toUInt32.toInt32) else (nar .char p2.toUInt32.toUInt16.toUInt32.toInt32)) (if (off + idx) = (2 : Int32) then (nar .char (XT.ushr p6 (7 : Int32)).toUInt32.toUInt16.toUInt32.toInt32) else (nar .char p3.toUInt32.toUInt16.toUInt32.toInt32)) (if (off + idx) = (3 : Int32) then (nar .char (XT.ushr p6 (7 : Int32)).toUInt32.toUInt16.toUInt32.toInt32) else (nar .char p4.toUInt32.toUInt16.toUInt32.toInt32)) (off + idx))))] [])) t
    refine XS.iload X53.here hx rfl (hb hby at_191) rfl ?_
    show Steps p.tables e below (T53.setTop (mkF m 193 #[.val (.int p1), .val (.int p2), .val (.int p3), .val (.int p4), .val (.int p5), .val (.int p6), .val (.ref b2), .val (.int off), .val (.int len), .val (.int idx), .val (.ref b19), .val (.int (nar .char (own_at (nar .char p1.toUInt32.toUInt16.toUInt32.toInt32) (nar .char p2.toUInt32.toUInt16.toUInt32.toInt32) (nar .char p3.toUInt32.toUInt16.toUInt32.toInt32) (nar .char p4.toUInt32.toUInt16.toUInt32.toInt32) (off + idx)))), .val (.int (nar .char (own_at (nar .char p1.toUInt32.toUInt16.toUInt32.toInt32) (nar .char p2.toUInt32.toUInt16.toUInt32.toInt32) (nar .char p3.toUInt32.toUInt16.toUInt32.toInt32) (nar .char p4.toUInt32.toUInt16.toUInt32.toInt32) (off + (0 : Int32))))), .val (.int (nar .char (own_at (nar .char p1.toUInt32.toUInt16.toUInt32.toInt32) (nar .char p2.toUInt32.toUInt16.toUInt32.toInt32) (nar .char p3.toUInt32.toUInt16.toUInt32.toInt32) (nar .char p4.toUInt32.toUInt16.toUInt32.toInt32) (off + (len - (1 : Int32)))))), .val (.int (1 : Int32)), .val (.int (nar .char (own_at (if (off + idx) = (0 : Int32) then (nar .char (XT.ushr p6 (7 : Int32)).toUInt32.toUInt16.toUInt32.toInt32) else (nar .char p1.toUInt32.toUInt16.toUInt32.toInt32)) (if (off + idx) = (1 : Int32) then (nar .char (XT.ushr p6 (7 : Int32)).toUInt32.toUInt16.toUInt32.toInt32) else (nar .char p2.toUInt32.toUInt16.toUInt32.toInt32)) (if (off + idx) = (2 : Int32) then (nar .char (XT.ushr p6 (7 : Int32)).toUInt32.toUInt16.toUInt32.toInt32) else (nar .char p3.toUInt32.toUInt16.toUInt32.toInt32)) (if (off + idx) = (3 : Int32) then (nar .char (XT.ushr p6 (7 : Int32)).toUInt32.toUInt16.toUInt32.toInt32) else (nar .char p4.toUInt32.toUInt16.toUInt32.toInt32)) (off + idx))))] [(.int (1 : Int32))])) t
    refine XS.ifNo X53.here hx rfl (hb hby at_193) rfl (XT.i0_eq_f (show ¬ ((1 : Int32) = (0 : Int32)) from by decide)) ?_
    show Steps p.tables e below (T53.setTop (mkF m 196 #[.val (.int p1), .val (.int p2), .val (.int p3), .val (.int p4), .val (.int p5), .val (.int p6), .val (.ref b2), .val (.int off), .val (.int len), .val (.int idx), .val (.ref b19), .val (.int (nar .char (own_at (nar .char p1.toUInt32.toUInt16.toUInt32.toInt32) (nar .char p2.toUInt32.toUInt16.toUInt32.toInt32) (nar .char p3.toUInt32.toUInt16.toUInt32.toInt32) (nar .char p4.toUInt32.toUInt16.toUInt32.toInt32) (off + idx)))), .val (.int (nar .char (own_at (nar .char p1.toUInt32.toUInt16.toUInt32.toInt32) (nar .char p2.toUInt32.toUInt16.toUInt32.toInt32) (nar .char p3.toUInt32.toUInt16.toUInt32.toInt32) (nar .char p4.toUInt32.toUInt16.toUInt32.toInt32) (off + (0 : Int32))))), .val (.int (nar .char (own_at (nar .char p1.toUInt32.toUInt16.toUInt32.toInt32) (nar .char p2.toUInt32.toUInt16.toUInt32.toInt32) (nar .char p3.toUInt32.toUInt16.toUInt32.toInt32) (nar .char p4.toUInt32.toUInt16.toUInt32.toInt32) (off + (len - (1 : Int32)))))), .val (.int (1 : Int32)), .val (.int (nar .char (own_at (if (off + idx) = (0 : Int32) then (nar .char (XT.ushr p6 (7 : Int32)).toUInt32.toUInt16.toUInt32.toInt32) else (nar .char p1.toUInt32.toUInt16.toUInt32.toInt32)) (if (off + idx) = (1 : Int32) then (nar .char (XT.ushr p6 (7 : Int32)).toUInt32.toUInt16.toUInt32.toInt32) else (nar .char p2.toUInt32.toUInt16.toUInt32.toInt32)) (if (off + idx) = (2 : Int32) then (nar .char (XT.ushr p6 (7 : Int32)).toUInt32.toUInt16.toUInt32.toInt32) else (nar .char p3.toUInt32.toUInt16.toUInt32.toInt32)) (if (off + idx) = (3 : Int32) then (nar .char (XT.ushr p6 (7 : Int32)).toUInt32.toUInt16.toUInt32.toInt32) else (nar .char p4.toUInt32.toUInt16.toUInt32.toInt32)) (off + idx))))] [])) t
    refine XS.iload X53.here hx rfl (hb hby at_196) rfl ?_
    show Steps p.tables e below (T53.setTop (mkF m 198 #[.val (.int p1), .val (.int p2), .val (.int p3), .val (.int p4), .val (.int p5), .val (.int p6), .val (.ref b2), .val (.int off), .val (.int len), .val (.int idx), .val (.ref b19), .val (.int (nar .char (own_at (nar .char p1.toUInt32.toUInt16.toUInt32.toInt32) (nar .char p2.toUInt32.toUInt16.toUInt32.toInt32) (nar .char p3.toUInt32.toUInt16.toUInt32.toInt32) (nar .char p4.toUInt32.toUInt16.toUInt32.toInt32) (off + idx)))), .val (.int (nar .char (own_at (nar .char p1.toUInt32.toUInt16.toUInt32.toInt32) (nar .char p2.toUInt32.toUInt16.toUInt32.toInt32) (nar .char p3.toUInt32.toUInt16.toUInt32.toInt32) (nar .char p4.toUInt32.toUInt16.toUInt32.toInt32) (off + (0 : Int32))))), .val (.int (nar .char (own_at (nar .char p1.toUInt32.toUInt16.toUInt32.toInt32) (nar .char p2.toUInt32.toUInt16.toUInt32.toInt32) (nar .char p3.toUInt32.toUInt16.toUInt32.toInt32) (nar .char p4.toUInt32.toUInt16.toUInt32.toInt32) (off + (len - (1 : Int32)))))), .val (.int (1 : Int32)), .val (.int (nar .char (own_at (if (off + idx) = (0 : Int32) then (nar .char (XT.ushr p6 (7 : Int32)).toUInt32.toUInt16.toUInt32.toInt32) else (nar .char p1.toUInt32.toUInt16.toUInt32.toInt32)) (if (off + idx) = (1 : Int32) then (nar .char (XT.ushr p6 (7 : Int32)).toUInt32.toUInt16.toUInt32.toInt32) else (nar .char p2.toUInt32.toUInt16.toUInt32.toInt32)) (if (off + idx) = (2 : Int32) then (nar .char (XT.ushr p6 (7 : Int32)).toUInt32.toUInt16.toUInt32.toInt32) else (nar .char p3.toUInt32.toUInt16.toUInt32.toInt32)) (if (off + idx) = (3 : Int32) then (nar .char (XT.ushr p6 (7 : Int32)).toUInt32.toUInt16.toUInt32.toInt32) else (nar .char p4.toUInt32.toUInt16.toUInt32.toInt32)) (off + idx))))] [(.int (nar .char (own_at (if (off + idx) = (0 : Int32) then (nar .char (XT.ushr p6 (7 : Int32)).toUInt32.toUInt16.toUInt32.toInt32) else (nar .char p1.toUInt32.toUInt16.toUInt32.toInt32)) (if (off + idx) = (1 : Int32) then (nar .char (XT.ushr p6 (7 : Int32)).toUInt32.toUInt16.toUInt32.toInt32) else (nar .char p2.toUInt32.toUInt16.toUInt32.toInt32)) (if (off + idx) = (2 : Int32) then (nar .char (XT.ushr p6 (7 : Int32)).toUInt32.toUInt16.toUInt32.toInt32) else (nar .char p3.toUInt32.toUInt16.toUInt32.toInt32)) (if (off + idx) = (3 : Int32) then (nar .char (XT.ushr p6 (7 : Int32)).toUInt32.toUInt16.toUInt32.toInt32) else (nar .char p4.toUInt32.toUInt16.toUInt32.toInt32)) (off + idx))))])) t
    refine XS.iload X53.here hx rfl (hb hby at_198) rfl ?_
    show Steps p.tables e below (T53.setTop (mkF m 200 #[.val (.int p1), .val (.int p2), .val (.int p3), .val (.int p4), .val (.int p5), .val (.int p6), .val (.ref b2), .val (.int off), .val (.int len), .val (.int idx), .val (.ref b19), .val (.int (nar .char (own_at (nar .char p1.toUInt32.toUInt16.toUInt32.toInt32) (nar .char p2.toUInt32.toUInt16.toUInt32.toInt32) (nar .char p3.toUInt32.toUInt16.toUInt32.toInt32) (nar .char p4.toUInt32.toUInt16.toUInt32.toInt32) (off + idx)))), .val (.int (nar .char (own_at (nar .char p1.toUInt32.toUInt16.toUInt32.toInt32) (nar .char p2.toUInt32.toUInt16.toUInt32.toInt32) (nar .char p3.toUInt32.toUInt16.toUInt32.toInt32) (nar .char p4.toUInt32.toUInt16.toUInt32.toInt32) (off + (0 : Int32))))), .val (.int (nar .char (own_at (nar .char p1.toUInt32.toUInt16.toUInt32.toInt32) (nar .char p2.toUInt32.toUInt16.toUInt32.toInt32) (nar .char p3.toUInt32.toUInt16.toUInt32.toInt32) (nar .char p4.toUInt32.toUInt16.toUInt32.toInt32) (off + (len - (1 : Int32)))))), .val (.int (1 : Int32)), .val (.int (nar .char (own_at (if (off + idx) = (0 : Int32) then (nar .char (XT.ushr p6 (7 : Int32)).toUInt32.toUInt16.toUInt32.toInt32) else (nar .char p1.toUInt32.toUInt16.toUInt32.toInt32)) (if (off + idx) = (1 : Int32) then (nar .char (XT.ushr p6 (7 : Int32)).toUInt32.toUInt16.toUInt32.toInt32) else (nar .char p2.toUInt32.toUInt16.toUInt32.toInt32)) (if (off + idx) = (2 : Int32) then (nar .char (XT.ushr p6 (7 : Int32)).toUInt32.toUInt16.toUInt32.toInt32) else (nar .char p3.toUInt32.toUInt16.toUInt32.toInt32)) (if (off + idx) = (3 : Int32) then (nar .char (XT.ushr p6 (7 : Int32)).toUInt32.toUInt16.toUInt32.toInt32) else (nar .char p4.toUInt32.toUInt16.toUInt32.toInt32)) (off + idx))))] [(.int p6), (.int (nar .char (own_at (if (off + idx) = (0 : Int32) then (nar .char (XT.ushr p6 (7 : Int32)).toUInt32.toUInt16.toUInt32.toInt32) else (nar .char p1.toUInt32.toUInt16.toUInt32.toInt32)) (if (off + idx) = (1 : Int32) then (nar .char (XT.ushr p6 (7 : Int32)).toUInt32.toUInt16.toUInt32.toInt32) else (nar .char p2.toUInt32.toUInt16.toUInt32.toInt32)) (if (off + idx) = (2 : Int32) then (nar .char (XT.ushr p6 (7 : Int32)).toUInt32.toUInt16.toUInt32.toInt32) else (nar .char p3.toUInt32.toUInt16.toUInt32.toInt32)) (if (off + idx) = (3 : Int32) then (nar .char (XT.ushr p6 (7 : Int32)).toUInt32.toUInt16.toUInt32.toInt32) else (nar .char p4.toUInt32.toUInt16.toUInt32.toInt32)) (off + idx))))])) t
    refine XS.bipush X53.here hx rfl (hb hby at_200) ?_
    show Steps p.tables e below (T53.setTop (mkF m 202 #[.val (.int p1), .val (.int p2), .val (.int p3), .val (.int p4), .val (.int p5), .val (.int p6), .val (.ref b2), .val (.int off), .val (.int len), .val (.int idx), .val (.ref b19), .val (.int (nar .char (own_at (nar .char p1.toUInt32.toUInt16.toUInt32.toInt32) (nar .char p2.toUInt32.toUInt16.toUInt32.toInt32) (nar .char p3.toUInt32.toUInt16.toUInt32.toInt32) (nar .char p4.toUInt32.toUInt16.toUInt32.toInt32) (off + idx)))), .val (.int (nar .char (own_at (nar .char p1.toUInt32.toUInt16.toUInt32.toInt32) (nar .char p2.toUInt32.toUInt16.toUInt32.toInt32) (nar .char p3.toUInt32.toUInt16.toUInt32.toInt32) (nar .char p4.toUInt32.toUInt16.toUInt32.toInt32) (off + (0 : Int32))))), .val (.int (nar .char (own_at (nar .char p1.toUInt32.toUInt16.toUInt32.toInt32) (nar .char p2.toUInt32.toUInt16.toUInt32.toInt32) (nar .char p3.toUInt32.toUInt16.toUInt32.toInt32) (nar .char p4.toUInt32.toUInt16.toUInt32.toInt32) (off + (len - (1 : Int32)))))), .val (.int (1 : Int32)), .val (.int (nar .char (own_at (if (off + idx) = (0 : Int32) then (nar .char (XT.ushr p6 (7 : Int32)).toUInt32.toUInt16.toUInt32.toInt32) else (nar .char p1.toUInt32.toUInt16.toUInt32.toInt32)) (if (off + idx) = (1 : Int32) then (nar .char (XT.ushr p6 (7 : Int32)).toUInt32.toUInt16.toUInt32.toInt32) else (nar .char p2.toUInt32.toUInt16.toUInt32.toInt32)) (if (off + idx) = (2 : Int32) then (nar .char (XT.ushr p6 (7 : Int32)).toUInt32.toUInt16.toUInt32.toInt32) else (nar .char p3.toUInt32.toUInt16.toUInt32.toInt32)) (if (off + idx) = (3 : Int32) then (nar .char (XT.ushr p6 (7 : Int32)).toUInt32.toUInt16.toUInt32.toInt32) else (nar .char p4.toUInt32.toUInt16.toUInt32.toInt32)) (off + idx))))] [(.int (7 : Int32)), (.int p6), (.int (nar .char (own_at (if (off + idx) = (0 : Int32) then (nar .char (XT.ushr p6 (7 : Int32)).toUInt32.toUInt16.toUInt32.toInt32) else (nar .char p1.toUInt32.toUInt16.toUInt32.toInt32)) (if (off + idx) = (1 : Int32) then (nar .char (XT.ushr p6 (7 : Int32)).toUInt32.toUInt16.toUInt32.toInt32) else (nar .char p2.toUInt32.toUInt16.toUInt32.toInt32)) (if (off + idx) = (2 : Int32) then (nar .char (XT.ushr p6 (7 : Int32)).toUInt32.toUInt16.toUInt32.toInt32) else (nar .char p3.toUInt32.toUInt16.toUInt32.toInt32)) (if (off + idx) = (3 : Int32) then (nar .char (XT.ushr p6 (7 : Int32)).toUInt32.toUInt16.toUInt32.toInt32) else (nar .char p4.toUInt32.toUInt16.toUInt32.toInt32)) (off + idx))))])) t
    refine XT.iushr X53.here hx rfl (hb hby at_202) rfl ?_
    show Steps p.tables e below (T53.setTop (mkF m 203 #[.val (.int p1), .val (.int p2), .val (.int p3), .val (.int p4), .val (.int p5), .val (.int p6), .val (.ref b2), .val (.int off), .val (.int len), .val (.int idx), .val (.ref b19), .val (.int (nar .char (own_at (nar .char p1.toUInt32.toUInt16.toUInt32.toInt32) (nar .char p2.toUInt32.toUInt16.toUInt32.toInt32) (nar .char p3.toUInt32.toUInt16.toUInt32.toInt32) (nar .char p4.toUInt32.toUInt16.toUInt32.toInt32) (off + idx)))), .val (.int (nar .char (own_at (nar .char p1.toUInt32.toUInt16.toUInt32.toInt32) (nar .char p2.toUInt32.toUInt16.toUInt32.toInt32) (nar .char p3.toUInt32.toUInt16.toUInt32.toInt32) (nar .char p4.toUInt32.toUInt16.toUInt32.toInt32) (off + (0 : Int32))))), .val (.int (nar .char (own_at (nar .char p1.toUInt32.toUInt16.toUInt32.toInt32) (nar .char p2.toUInt32.toUInt16.toUInt32.toInt32) (nar .char p3.toUInt32.toUInt16.toUInt32.toInt32) (nar .char p4.toUInt32.toUInt16.toUInt32.toInt32) (off + (len - (1 : Int32)))))), .val (.int (1 : Int32)), .val (.int (nar .char (own_at (if (off + idx) = (0 : Int32) then (nar .char (XT.ushr p6 (7 : Int32)).toUInt32.toUInt16.toUInt32.toInt32) else (nar .char p1.toUInt32.toUInt16.toUInt32.toInt32)) (if (off + idx) = (1 : Int32) then (nar .char (XT.ushr p6 (7 : Int32)).toUInt32.toUInt16.toUInt32.toInt32) else (nar .char p2.toUInt32.toUInt16.toUInt32.toInt32)) (if (off + idx) = (2 : Int32) then (nar .char (XT.ushr p6 (7 : Int32)).toUInt32.toUInt16.toUInt32.toInt32) else (nar .char p3.toUInt32.toUInt16.toUInt32.toInt32)) (if (off + idx) = (3 : Int32) then (nar .char (XT.ushr p6 (7 : Int32)).toUInt32.toUInt16.toUInt32.toInt32) else (nar .char p4.toUInt32.toUInt16.toUInt32.toInt32)) (off + idx))))] [(.int (XT.ushr p6 (7 : Int32))), (.int (nar .char (own_at (if (off + idx) = (0 : Int32) then (nar .char (XT.ushr p6 (7 : Int32)).toUInt32.toUInt16.toUInt32.toInt32) else (nar .char p1.toUInt32.toUInt16.toUInt32.toInt32)) (if (off + idx) = (1 : Int32) then (nar .char (XT.ushr p6 (7 : Int32)).toUInt32.toUInt16.toUInt32.toInt32) else (nar .char p2.toUInt32.toUInt16.toUInt32.toInt32)) (if (off + idx) = (2 : Int32) then (nar .char (XT.ushr p6 (7 : Int32)).toUInt32.toUInt16.toUInt32.toInt32) else (nar .char p3.toUInt32.toUInt16.toUInt32.toInt32)) (if (off + idx) = (3 : Int32) then (nar .char (XT.ushr p6 (7 : Int32)).toUInt32.toUInt16.toUInt32.toInt32) else (nar .char p4.toUInt32.toUInt16.toUInt32.toInt32)) (off + idx))))])) t
    refine XT.i2c X53.here hx rfl (hb hby at_203) rfl ?_
    show Steps p.tables e below (T53.setTop (mkF m 204 #[.val (.int p1), .val (.int p2), .val (.int p3), .val (.int p4), .val (.int p5), .val (.int p6), .val (.ref b2), .val (.int off), .val (.int len), .val (.int idx), .val (.ref b19), .val (.int (nar .char (own_at (nar .char p1.toUInt32.toUInt16.toUInt32.toInt32) (nar .char p2.toUInt32.toUInt16.toUInt32.toInt32) (nar .char p3.toUInt32.toUInt16.toUInt32.toInt32) (nar .char p4.toUInt32.toUInt16.toUInt32.toInt32) (off + idx)))), .val (.int (nar .char (own_at (nar .char p1.toUInt32.toUInt16.toUInt32.toInt32) (nar .char p2.toUInt32.toUInt16.toUInt32.toInt32) (nar .char p3.toUInt32.toUInt16.toUInt32.toInt32) (nar .char p4.toUInt32.toUInt16.toUInt32.toInt32) (off + (0 : Int32))))), .val (.int (nar .char (own_at (nar .char p1.toUInt32.toUInt16.toUInt32.toInt32) (nar .char p2.toUInt32.toUInt16.toUInt32.toInt32) (nar .char p3.toUInt32.toUInt16.toUInt32.toInt32) (nar .char p4.toUInt32.toUInt16.toUInt32.toInt32) (off + (len - (1 : Int32)))))), .val (.int (1 : Int32)), .val (.int (nar .char (own_at (if (off + idx) = (0 : Int32) then (nar .char (XT.ushr p6 (7 : Int32)).toUInt32.toUInt16.toUInt32.toInt32) else (nar .char p1.toUInt32.toUInt16.toUInt32.toInt32)) (if (off + idx) = (1 : Int32) then (nar .char (XT.ushr p6 (7 : Int32)).toUInt32.toUInt16.toUInt32.toInt32) else (nar .char p2.toUInt32.toUInt16.toUInt32.toInt32)) (if (off + idx) = (2 : Int32) then (nar .char (XT.ushr p6 (7 : Int32)).toUInt32.toUInt16.toUInt32.toInt32) else (nar .char p3.toUInt32.toUInt16.toUInt32.toInt32)) (if (off + idx) = (3 : Int32) then (nar .char (XT.ushr p6 (7 : Int32)).toUInt32.toUInt16.toUInt32.toInt32) else (nar .char p4.toUInt32.toUInt16.toUInt32.toInt32)) (off + idx))))] [(.int (XT.ushr p6 (7 : Int32)).toUInt32.toUInt16.toUInt32.toInt32), (.int (nar .char (own_at (if (off + idx) = (0 : Int32) then (nar .char (XT.ushr p6 (7 : Int32)).toUInt32.toUInt16.toUInt32.toInt32) else (nar .char p1.toUInt32.toUInt16.toUInt32.toInt32)) (if (off + idx) = (1 : Int32) then (nar .char (XT.ushr p6 (7 : Int32)).toUInt32.toUInt16.toUInt32.toInt32) else (nar .char p2.toUInt32.toUInt16.toUInt32.toInt32)) (if (off + idx) = (2 : Int32) then (nar .char (XT.ushr p6 (7 : Int32)).toUInt32.toUInt16.toUInt32.toInt32) else (nar .char p3.toUInt32.toUInt16.toUInt32.toInt32)) (if (off + idx) = (3 : Int32) then (nar .char (XT.ushr p6 (7 : Int32)).toUInt32.toUInt16.toUInt32.toInt32) else (nar .char p4.toUInt32.toUInt16.toUInt32.toInt32)) (off + idx))))])) t
    refine XS.icmpNo X53.here hx rfl (hb hby at_204) rfl (XT.ii_ne_f (show (nar .char (own_at (if (off + idx) = (0 : Int32) then (nar .char (XT.ushr p6 (7 : Int32)).toUInt32.toUInt16.toUInt32.toInt32) else (nar .char p1.toUInt32.toUInt16.toUInt32.toInt32)) (if (off + idx) = (1 : Int32) then (nar .char (XT.ushr p6 (7 : Int32)).toUInt32.toUInt16.toUInt32.toInt32) else (nar .char p2.toUInt32.toUInt16.toUInt32.toInt32)) (if (off + idx) = (2 : Int32) then (nar .char (XT.ushr p6 (7 : Int32)).toUInt32.toUInt16.toUInt32.toInt32) else (nar .char p3.toUInt32.toUInt16.toUInt32.toInt32)) (if (off + idx) = (3 : Int32) then (nar .char (XT.ushr p6 (7 : Int32)).toUInt32.toUInt16.toUInt32.toInt32) else (nar .char p4.toUInt32.toUInt16.toUInt32.toInt32)) (off + idx))) = (XT.ushr p6 (7 : Int32)).toUInt32.toUInt16.toUInt32.toInt32 from own_after _ _ _ _ _ (own_c3 hoff hlen hidx))) ?_
    show Steps p.tables e below (T53.setTop (mkF m 207 #[.val (.int p1), .val (.int p2), .val (.int p3), .val (.int p4), .val (.int p5), .val (.int p6), .val (.ref b2), .val (.int off), .val (.int len), .val (.int idx), .val (.ref b19), .val (.int (nar .char (own_at (nar .char p1.toUInt32.toUInt16.toUInt32.toInt32) (nar .char p2.toUInt32.toUInt16.toUInt32.toInt32) (nar .char p3.toUInt32.toUInt16.toUInt32.toInt32) (nar .char p4.toUInt32.toUInt16.toUInt32.toInt32) (off + idx)))), .val (.int (nar .char (own_at (nar .char p1.toUInt32.toUInt16.toUInt32.toInt32) (nar .char p2.toUInt32.toUInt16.toUInt32.toInt32) (nar .char p3.toUInt32.toUInt16.toUInt32.toInt32) (nar .char p4.toUInt32.toUInt16.toUInt32.toInt32) (off + (0 : Int32))))), .val (.int (nar .char (own_at (nar .char p1.toUInt32.toUInt16.toUInt32.toInt32) (nar .char p2.toUInt32.toUInt16.toUInt32.toInt32) (nar .char p3.toUInt32.toUInt16.toUInt32.toInt32) (nar .char p4.toUInt32.toUInt16.toUInt32.toInt32) (off + (len - (1 : Int32)))))), .val (.int (1 : Int32)), .val (.int (nar .char (own_at (if (off + idx) = (0 : Int32) then (nar .char (XT.ushr p6 (7 : Int32)).toUInt32.toUInt16.toUInt32.toInt32) else (nar .char p1.toUInt32.toUInt16.toUInt32.toInt32)) (if (off + idx) = (1 : Int32) then (nar .char (XT.ushr p6 (7 : Int32)).toUInt32.toUInt16.toUInt32.toInt32) else (nar .char p2.toUInt32.toUInt16.toUInt32.toInt32)) (if (off + idx) = (2 : Int32) then (nar .char (XT.ushr p6 (7 : Int32)).toUInt32.toUInt16.toUInt32.toInt32) else (nar .char p3.toUInt32.toUInt16.toUInt32.toInt32)) (if (off + idx) = (3 : Int32) then (nar .char (XT.ushr p6 (7 : Int32)).toUInt32.toUInt16.toUInt32.toInt32) else (nar .char p4.toUInt32.toUInt16.toUInt32.toInt32)) (off + idx))))] [])) t
    refine XS.iconst X53.here hx rfl (hb hby at_207) ?_
    show Steps p.tables e below (T53.setTop (mkF m 208 #[.val (.int p1), .val (.int p2), .val (.int p3), .val (.int p4), .val (.int p5), .val (.int p6), .val (.ref b2), .val (.int off), .val (.int len), .val (.int idx), .val (.ref b19), .val (.int (nar .char (own_at (nar .char p1.toUInt32.toUInt16.toUInt32.toInt32) (nar .char p2.toUInt32.toUInt16.toUInt32.toInt32) (nar .char p3.toUInt32.toUInt16.toUInt32.toInt32) (nar .char p4.toUInt32.toUInt16.toUInt32.toInt32) (off + idx)))), .val (.int (nar .char (own_at (nar .char p1.toUInt32.toUInt16.toUInt32.toInt32) (nar .char p2.toUInt32.toUInt16.toUInt32.toInt32) (nar .char p3.toUInt32.toUInt16.toUInt32.toInt32) (nar .char p4.toUInt32.toUInt16.toUInt32.toInt32) (off + (0 : Int32))))), .val (.int (nar .char (own_at (nar .char p1.toUInt32.toUInt16.toUInt32.toInt32) (nar .char p2.toUInt32.toUInt16.toUInt32.toInt32) (nar .char p3.toUInt32.toUInt16.toUInt32.toInt32) (nar .char p4.toUInt32.toUInt16.toUInt32.toInt32) (off + (len - (1 : Int32)))))), .val (.int (1 : Int32)), .val (.int (nar .char (own_at (if (off + idx) = (0 : Int32) then (nar .char (XT.ushr p6 (7 : Int32)).toUInt32.toUInt16.toUInt32.toInt32) else (nar .char p1.toUInt32.toUInt16.toUInt32.toInt32)) (if (off + idx) = (1 : Int32) then (nar .char (XT.ushr p6 (7 : Int32)).toUInt32.toUInt16.toUInt32.toInt32) else (nar .char p2.toUInt32.toUInt16.toUInt32.toInt32)) (if (off + idx) = (2 : Int32) then (nar .char (XT.ushr p6 (7 : Int32)).toUInt32.toUInt16.toUInt32.toInt32) else (nar .char p3.toUInt32.toUInt16.toUInt32.toInt32)) (if (off + idx) = (3 : Int32) then (nar .char (XT.ushr p6 (7 : Int32)).toUInt32.toUInt16.toUInt32.toInt32) else (nar .char p4.toUInt32.toUInt16.toUInt32.toInt32)) (off + idx))))] [(.int (1 : Int32))])) t
    refine XS.goto X53.here hx rfl (pc0 := 208) (pc' := 212) rfl (hb hby at_208) (by decide) (by decide) ?_
    show Steps p.tables e below (T53.setTop (mkF m 212 #[.val (.int p1), .val (.int p2), .val (.int p3), .val (.int p4), .val (.int p5), .val (.int p6), .val (.ref b2), .val (.int off), .val (.int len), .val (.int idx), .val (.ref b19), .val (.int (nar .char (own_at (nar .char p1.toUInt32.toUInt16.toUInt32.toInt32) (nar .char p2.toUInt32.toUInt16.toUInt32.toInt32) (nar .char p3.toUInt32.toUInt16.toUInt32.toInt32) (nar .char p4.toUInt32.toUInt16.toUInt32.toInt32) (off + idx)))), .val (.int (nar .char (own_at (nar .char p1.toUInt32.toUInt16.toUInt32.toInt32) (nar .char p2.toUInt32.toUInt16.toUInt32.toInt32) (nar .char p3.toUInt32.toUInt16.toUInt32.toInt32) (nar .char p4.toUInt32.toUInt16.toUInt32.toInt32) (off + (0 : Int32))))), .val (.int (nar .char (own_at (nar .char p1.toUInt32.toUInt16.toUInt32.toInt32) (nar .char p2.toUInt32.toUInt16.toUInt32.toInt32) (nar .char p3.toUInt32.toUInt16.toUInt32.toInt32) (nar .char p4.toUInt32.toUInt16.toUInt32.toInt32) (off + (len - (1 : Int32)))))), .val (.int (1 : Int32)), .val (.int (nar .char (own_at (if (off + idx) = (0 : Int32) then (nar .char (XT.ushr p6 (7 : Int32)).toUInt32.toUInt16.toUInt32.toInt32) else (nar .char p1.toUInt32.toUInt16.toUInt32.toInt32)) (if (off + idx) = (1 : Int32) then (nar .char (XT.ushr p6 (7 : Int32)).toUInt32.toUInt16.toUInt32.toInt32) else (nar .char p2.toUInt32.toUInt16.toUInt32.toInt32)) (if (off + idx) = (2 : Int32) then (nar .char (XT.ushr p6 (7 : Int32)).toUInt32.toUInt16.toUInt32.toInt32) else (nar .char p3.toUInt32.toUInt16.toUInt32.toInt32)) (if (off + idx) = (3 : Int32) then (nar .char (XT.ushr p6 (7 : Int32)).toUInt32.toUInt16.toUInt32.toInt32) else (nar .char p4.toUInt32.toUInt16.toUInt32.toInt32)) (off + idx))))] [(.int (1 : Int32))])) t
    exact k)
  obtain ⟨fs, hr, hrun, hended, hW, hsame⟩ := X53.leave (v := some (.int (1 : Int32))) (fun h => by rw [Bd.returns] at h; cases h)
  refine ⟨_, _, pre57 _ ?_, hrun, hended, _, _, rfl, ?_, ⟨_, rfl⟩, hW, hsame.mono (by decide) (by decide)⟩
  · show Steps p.tables e below (T53.setTop (mkF m 212 #[.val (.int p1), .val (.int p2), .val (.int p3), .val (.int p4), .val (.int p5), .val (.int p6), .val (.ref b2), .val (.int off), .val (.int len), .val (.int idx), .val (.ref b19), .val (.int (nar .char (own_at (nar .char p1.toUInt32.toUInt16.toUInt32.toInt32) (nar .char p2.toUInt32.toUInt16.toUInt32.toInt32) (nar .char p3.toUInt32.toUInt16.toUInt32.toInt32) (nar .char p4.toUInt32.toUInt16.toUInt32.toInt32) (off + idx)))), .val (.int (nar .char (own_at (nar .char p1.toUInt32.toUInt16.toUInt32.toInt32) (nar .char p2.toUInt32.toUInt16.toUInt32.toInt32) (nar .char p3.toUInt32.toUInt16.toUInt32.toInt32) (nar .char p4.toUInt32.toUInt16.toUInt32.toInt32) (off + (0 : Int32))))), .val (.int (nar .char (own_at (nar .char p1.toUInt32.toUInt16.toUInt32.toInt32) (nar .char p2.toUInt32.toUInt16.toUInt32.toInt32) (nar .char p3.toUInt32.toUInt16.toUInt32.toInt32) (nar .char p4.toUInt32.toUInt16.toUInt32.toInt32) (off + (len - (1 : Int32)))))), .val (.int (1 : Int32)), .val (.int (nar .char (own_at (if (off + idx) = (0 : Int32) then (nar .char (XT.ushr p6 (7 : Int32)).toUInt32.toUInt16.toUInt32.toInt32) else (nar .char p1.toUInt32.toUInt16.toUInt32.toInt32)) (if (off + idx) = (1 : Int32) then (nar .char (XT.ushr p6 (7 : Int32)).toUInt32.toUInt16.toUInt32.toInt32) else (nar .char p2.toUInt32.toUInt16.toUInt32.toInt32)) (if (off + idx) = (2 : Int32) then (nar .char (XT.ushr p6 (7 : Int32)).toUInt32.toUInt16.toUInt32.toInt32) else (nar .char p3.toUInt32.toUInt16.toUInt32.toInt32)) (if (off + idx) = (3 : Int32) then (nar .char (XT.ushr p6 (7 : Int32)).toUInt32.toUInt16.toUInt32.toInt32) else (nar .char p4.toUInt32.toUInt16.toUInt32.toInt32)) (off + idx))))] [(.int (1 : Int32))])) _
    exact retN X53 hx (t := .boolean) Bd.returns (by simp) (hb hby at_212) hr
  · show Q0 Z p1 p2 p3 p4 p5 p6 h0 n0 _ T53.heap _
    rw [eh53]
    exact ⟨rfl, N53⟩
set_option maxRecDepth 65536 in
set_option maxHeartbeats 40000000 in
theorem comes_1 {Post : Tables → Env → Array Value → State → Outcome → State → Prop} (hpost : ∀ tb e args s v u, (limb_1_1.after args s (.returned v) u = true ∧ limb_1_2.after args s (.returned v) u = true ∧ True) → FrameEnd s (.returned v) u (Jvm.fieldLocs frame_1_writes args s ++ Jvm.arrayLocs frame_1_arrays args s ++ Jvm.staticLocs frame_1_statics s) 16 128 → Post tb e args s (.returned v) u) :
    ArmFor flags0 classFile x code maxLocals ret World_1 tables_1 room_1 Calls_1 rest_1 Pre_1 Post := by
  intro l hfl _ _ p e ha hc hk s m args below hf hA hF happ hP
  obtain ⟨hcalls, hrest, hpre⟩ := hP
  obtain ⟨-, -, -, hnamed, -, -, -, hat⟩ := (Spec.applies_iff hf).mp happ
  obtain ⟨hg, hn⟩ := and_e (Cond.before_iff.mp (show (Jvm.Cond.and given_1 narrow_1).before args s = true from hpre))
  obtain ⟨ga0, gb0⟩ := and_e hg
  obtain ⟨ga1, gb1⟩ := and_e gb0
  obtain ⟨ga2, gb2⟩ := and_e gb1
  obtain ⟨ga3, gb3⟩ := and_e gb2
  obtain ⟨ga4, gb4⟩ := and_e gb3
  obtain ⟨ga5, gb5⟩ := and_e gb4
  obtain ⟨w0, w1, w2, w3, w4, w5, rfl⟩ : ∃ w0 w1 w2 w3 w4 w5 : Value, args = #[w0, w1, w2, w3, w4, w5] := by
    have hs : args.size = 6 := by simpa [Cond.value, given_1] using ga0
    obtain ⟨L⟩ := args
    match L, hs with
    | [w0, w1, w2, w3, w4, w5], _ => exact ⟨w0, w1, w2, w3, w4, w5, rfl⟩
  have hw := fun d (hd : d ∈ tables_1) => atoms_spec (ws := Jvm.Cond.code x code maxLocals ret :: tables_1) hat d (List.mem_cons_of_mem _ hd)
  obtain ⟨i0, ei0⟩ := is_v ga1
  obtain rfl : w0 = (.int i0) := Option.some.inj ei0
  obtain ⟨i1, ei1⟩ := is_v ga2
  obtain rfl : w1 = (.int i1) := Option.some.inj ei1
  obtain ⟨i2, ei2⟩ := is_v ga3
  obtain rfl : w2 = (.int i2) := Option.some.inj ei2
  obtain ⟨i3, ei3⟩ := is_v ga4
  obtain rfl : w3 = (.int i3) := Option.some.inj ei3
  obtain ⟨i4, ei4⟩ := is_v ga5
  obtain rfl : w4 = (.int i4) := Option.some.inj ei4
  obtain ⟨i5, ei5⟩ := is_v gb5
  obtain rfl : w5 = (.int i5) := Option.some.inj ei5
  obtain ⟨n, o, h1, h2, h3, _, L, rfl, ⟨rfl, N⟩, hq⟩ := rm0 l s _ hw tables_1 i0 i1 i2 i3 i4 i5 s.heap s.heap.size (Nat.le_refl _) p e ha hc hk s m _ below hf ((Spec.applies_iff_loose hf).mp happ).1 ⟨rfl, State.Warmed39.refl s, rfl⟩ trivial
  refine ⟨n, _, h1, h2, h3, hpost _ _ _ _ _ _ ⟨Cond.after_iff.mpr rfl, Cond.after_iff.mpr (eq_i res_at (Term.int_eval (1)) rfl), trivial⟩ ⟨hq.1, hq.2.1, (hq.2.2.sift fun y hy => Or.inr (N y hy)).mono (by decide) (by decide)⟩⟩
theorem main_1_1 : Claimed_1_1 := comes_1 fun _ _ _ _ _ _ h hF => ⟨h.1, hF⟩
theorem main_1_2 : Claimed_1_2 := comes_1 fun _ _ _ _ _ _ h hF => ⟨h.2.1, hF⟩
end Jvm.Pilot.@@N@@
namespace Jvm.Pilot.@@N@@
open Jvm Jvm.ClassFile Sem Op Lib Jvm.Free Jvm.Stand Jvm.Pilot.@@N@@.Jvm.D
/-! MADE BY PROGRAM (witnessworld.py) out of the Statement's table words and the real class files: 14 classes; the members and pool entries that the words name. The judged class is class 1, her method 2. -/
namespace start1
open Jvm.ClassFile
def u (s : String) : CpInfo := .utf8 (stringToUtf16 s)
/-- a pool by its gaps: so many unusable entries, then the entry; so many at the end -/
def gap : Nat → List CpInfo → List CpInfo
  | 0, r => r
  | n + 1, r => .unusable :: gap n r
def poolList (es : List (Nat × CpInfo)) (last : Nat) : List CpInfo := es.foldr (fun e r => gap e.1 (e.2 :: r)) (gap last [])
def pool (es : List (Nat × CpInfo)) (last : Nat) : Array CpInfo := ⟨poolList es last⟩
def fileOf (pool : Array CpInfo) (this : Nat) (attrs : Array Attribute := #[]) (ms : Array MethodInfo := #[]) (fl : Nat := 33) (sup : Nat := 0) (ifs : Array Nat := #[]) (fds : Array FieldInfo := #[]) : ClassFile where
  minorVersion := 0
  majorVersion := 65
  constantPool := pool
  accessFlags := fl
  thisClass := this
  superClass := sup
  interfaces := ifs
  fields := fds
  methods := ms
  attributes := attrs
def plain (name : String) (sup : Option ClassId) : Class where
  name := name
  kind := .ordinary
  loader := none
  accessFlags := 33
  super := sup
  interfaces := #[]
  cf := none
  fields := #[]
  methods := #[]
  instanceTypes := #[]
  staticTypes := #[]
  resolved := #[]
  callSites := []
  init := .initialized
  statics := none
  mirror := none

def pool0 : Array CpInfo := pool [(5, u "<init>"), (0, u "()V"), (1, .class_ 10), (1, u "java/lang/Object")] 113

def k0c0 : Code := { maxStack := 0, maxLocals := 1, code := object_method_1_code, exceptionTable := #[], attributes := #[] }
def k0m0 : Method := { name := "<init>", desc := "()V", sig := { parameters := [], returnType := none }, accessFlags := 1, code := some k0c0 }
/-- java/lang/Object -/
def k0 : Class := { plain "java/lang/Object" none with
  accessFlags := 33
  interfaces := #[]
  cf := some (fileOf pool0 8 #[] #[{ accessFlags := 1, nameIndex := 5, descriptorIndex := 6, attributes := #[] }] 33 0 #[] #[])
  fields := #[]
  methods := #[k0m0]
  instanceTypes := #[]
  staticTypes := #[]
  resolved := Array.replicate 124 none
  statics := none }

def pool1 : Array CpInfo := pool [(2, .class_ 4), (1, u "java/lang/Object"), (0, u "<init>"), (0, u "()V"), (0, .integer 2147483647), (0, .class_ 9), (0, u "com/example/precis/precis/iso2709/Chars"), (0, .methodref 8 11), (0, .nameAndType 5 12), (0, u "([CII)V"), (0, .methodref 8 14), (0, .nameAndType 15 16), (0, u "charAt"), (0, u "(I)C"), (0, .methodref 18 19), (0, .class_ 20), (0, .nameAndType 21 22), (0, u "com/example/precis/precis/iso2709/CharsCharAtPinLaw"), (0, u "pick"), (0, u "(IIIII)C"), (0, .methodref 8 24), (0, .nameAndType 25 26), (0, u "length"), (0, u "()I"), (3, u "law"), (0, u "(IIIIII)Z")] 4

def k1m0 : Method := { name := "<init>", desc := "()V", sig := { parameters := [], returnType := none }, accessFlags := 1, code := none }
def k1c1 : Code := { maxStack := 2, maxLocals := 5, code := method_2_code, exceptionTable := #[], attributes := #[] }
def k1m1 : Method := { name := "pick", desc := "(IIIII)C", sig := { parameters := [.int, .int, .int, .int, .int], returnType := some .char }, accessFlags := 10, code := some k1c1 }
def k1c2 : Code := { maxStack := 7, maxLocals := 16, code := code, exceptionTable := #[], attributes := #[] }
def k1m2 : Method := { name := "law", desc := "(IIIIII)Z", sig := { parameters := [.int, .int, .int, .int, .int, .int], returnType := some .boolean }, accessFlags := 9, code := some k1c2 }
/-- com/example/precis/precis/iso2709/CharsCharAtPinLaw -/
def k1 : Class := { plain "com/example/precis/precis/iso2709/CharsCharAtPinLaw" (some 0) with
  accessFlags := 49
  interfaces := #[]
  cf := some (fileOf pool1 18 #[] #[{ accessFlags := 1, nameIndex := 5, descriptorIndex := 6, attributes := #[] }, { accessFlags := 10, nameIndex := 21, descriptorIndex := 22, attributes := #[] }, { accessFlags := 9, nameIndex := 30, descriptorIndex := 31, attributes := #[] }] 49 2 #[] #[])
  fields := #[]
  methods := #[k1m0, k1m1, k1m2]
  instanceTypes := #[]
  staticTypes := #[]
  resolved := Array.replicate 36 none
  statics := none }

def pool2 : Array CpInfo := pool [(2, .class_ 4), (1, u "java/lang/CharSequence"), (42, .class_ 48), (0, u "java/lang/CharSequence$1CodePointIterator"), (10, .class_ 60), (0, u "java/lang/CharSequence$1CharIterator"), (5, .class_ 67), (0, u "java/lang/Object")] 63

/-- java/lang/CharSequence -/
def k2 : Class := { plain "java/lang/CharSequence" (some 0) with
  accessFlags := 1537
  interfaces := #[]
  cf := some (fileOf pool2 2 #[.nestMembers #[47, 59]] #[] 1537 66 #[] #[])
  fields := #[]
  methods := #[]
  instanceTypes := #[]
  staticTypes := #[]
  resolved := Array.replicate 131 none
  statics := none }

def pool3 : Array CpInfo := pool [(1, .methodref 2 3), (0, .class_ 4), (0, .nameAndType 5 6), (0, u "java/lang/Object"), (0, u "<init>"), (0, u "()V"), (0, .methodref 8 9), (0, .class_ 10), (0, .nameAndType 11 12), (0, u "com/example/precis/precis/iso2709/Chars"), (0, u "set"), (0, u "([CII)Lcom/example/precis/precis/iso2709/Chars;"), (0, .methodref 14 15), (0, .class_ 16), (0, .nameAndType 17 18), (0, u "java/util/Objects"), (0, u "checkFromIndexSize"), (0, u "(III)I"), (0, .fieldref 8 20), (0, .nameAndType 21 22), (0, u "array"), (0, u "[C"), (0, .fieldref 8 24), (0, .nameAndType 25 26), (0, u "offset"), (0, u "I"), (0, .fieldref 8 28), (0, .nameAndType 29 26), (0, u "length"), (0, .methodref 14 31), (0, .nameAndType 32 33), (0, u "checkIndex"), (0, u "(II)I"), (7, u "([CII)V"), (0, .class_ 43), (0, u "java/lang/CharSequence"), (2, u "()I"), (0, u "charAt"), (0, u "(I)C")] 6

def k3c0 : Code := { maxStack := 4, maxLocals := 4, code := prog_37_method_1_code, exceptionTable := #[], attributes := #[] }
def k3m0 : Method := { name := "<init>", desc := "([CII)V", sig := { parameters := [(.array .char), .int, .int], returnType := none }, accessFlags := 0, code := some k3c0 }
def k3c1 : Code := { maxStack := 3, maxLocals := 4, code := prog_37_method_2_code, exceptionTable := #[], attributes := #[] }
def k3m1 : Method := { name := "set", desc := "([CII)Lcom/example/precis/precis/iso2709/Chars;", sig := { parameters := [(.array .char), .int, .int], returnType := some (.object "com/example/precis/precis/iso2709/Chars") }, accessFlags := 0, code := some k3c1 }
def k3c2 : Code := { maxStack := 1, maxLocals := 1, code := prog_37_method_3_code, exceptionTable := #[], attributes := #[] }
def k3m2 : Method := { name := "length", desc := "()I", sig := { parameters := [], returnType := some .int }, accessFlags := 1, code := some k3c2 }
def k3c3 : Code := { maxStack := 4, maxLocals := 2, code := prog_37_method_4_code, exceptionTable := #[], attributes := #[] }
def k3m3 : Method := { name := "charAt", desc := "(I)C", sig := { parameters := [.int], returnType := some .char }, accessFlags := 1, code := some k3c3 }
/-- com/example/precis/precis/iso2709/Chars -/
def k3 : Class := { plain "com/example/precis/precis/iso2709/Chars" (some 0) with
  accessFlags := 48
  interfaces := #[2]
  cf := some (fileOf pool3 8 #[] #[{ accessFlags := 0, nameIndex := 5, descriptorIndex := 41, attributes := #[] }, { accessFlags := 0, nameIndex := 11, descriptorIndex := 12, attributes := #[] }, { accessFlags := 1, nameIndex := 29, descriptorIndex := 46, attributes := #[] }, { accessFlags := 1, nameIndex := 47, descriptorIndex := 48, attributes := #[] }] 48 2 #[42] #[{ accessFlags := 2, nameIndex := 21, descriptorIndex := 22, attributes := #[] }, { accessFlags := 2, nameIndex := 25, descriptorIndex := 26, attributes := #[] }, { accessFlags := 2, nameIndex := 29, descriptorIndex := 26, attributes := #[] }])
  fields := #[{ name := "array", type := (.array .char), accessFlags := 2, slot := 0, constantValue := 0 }, { name := "offset", type := .int, accessFlags := 2, slot := 1, constantValue := 0 }, { name := "length", type := .int, accessFlags := 2, slot := 2, constantValue := 0 }]
  methods := #[k3m0, k3m1, k3m2, k3m3]
  instanceTypes := #[(.array .char), .int, .int]
  staticTypes := #[]
  resolved := Array.replicate 55 none
  statics := none }

def pool4 : Array CpInfo := pool [(2, .class_ 4), (1, u "java/lang/Object"), (0, u "<init>"), (0, u "()V"), (35, .class_ 44), (1, u "java/util/Objects"), (60, .methodref 106 107), (0, .class_ 108), (0, .nameAndType 109 110), (0, u "jdk/internal/util/Preconditions"), (0, u "checkIndex"), (0, u "(IILjava/util/function/BiFunction;)I"), (3, u "(IIILjava/util/function/BiFunction;)I"), (0, .methodref 106 116), (0, .nameAndType 117 114), (0, u "checkFromIndexSize"), (53, u "(II)I"), (3, u "(III)I")] 8

def k4m0 : Method := { name := "<init>", desc := "()V", sig := { parameters := [], returnType := none }, accessFlags := 2, code := none }
def k4c1 : Code := { maxStack := 3, maxLocals := 2, code := jdk_31_method_17_code, exceptionTable := #[], attributes := #[] }
def k4m1 : Method := { name := "checkIndex", desc := "(II)I", sig := { parameters := [.int, .int], returnType := some .int }, accessFlags := 9, code := some k4c1 }
def k4c2 : Code := { maxStack := 4, maxLocals := 3, code := jdk_31_method_19_code, exceptionTable := #[], attributes := #[] }
def k4m2 : Method := { name := "checkFromIndexSize", desc := "(III)I", sig := { parameters := [.int, .int, .int], returnType := some .int }, accessFlags := 9, code := some k4c2 }
/-- java/util/Objects -/
def k4 : Class := { plain "java/util/Objects" (some 0) with
  accessFlags := 49
  interfaces := #[]
  cf := some (fileOf pool4 42 #[] #[{ accessFlags := 2, nameIndex := 5, descriptorIndex := 6, attributes := #[] }, { accessFlags := 9, nameIndex := 109, descriptorIndex := 171, attributes := #[] }, { accessFlags := 9, nameIndex := 117, descriptorIndex := 175, attributes := #[] }] 49 2 #[] #[])
  fields := #[]
  methods := #[k4m0, k4m1, k4m2]
  instanceTypes := #[]
  staticTypes := #[]
  resolved := Array.replicate 184 none
  statics := none }

def pool5 : Array CpInfo := pool [(2, .class_ 4), (1, u "java/lang/Object"), (0, u "<init>"), (0, u "()V"), (17, .class_ 26), (1, u "jdk/internal/util/Preconditions"), (6, u "checkIndex"), (15, u "checkFromIndexSize"), (5, .class_ 56), (0, u "jdk/internal/util/Preconditions$4"), (57, .class_ 115), (0, u "jdk/internal/util/Preconditions$1"), (7, u "SIOOBE_FORMATTER"), (0, u "Ljava/util/function/BiFunction;"), (0, .class_ 126), (0, u "jdk/internal/util/Preconditions$2"), (3, u "AIOOBE_FORMATTER"), (0, .class_ 132), (0, u "jdk/internal/util/Preconditions$3"), (3, u "IOOBE_FORMATTER"), (41, u "(IILjava/util/function/BiFunction;)I"), (4, u "(IIILjava/util/function/BiFunction;)I")] 10

def k5m0 : Method := { name := "<init>", desc := "()V", sig := { parameters := [], returnType := none }, accessFlags := 1, code := none }
def k5c1 : Code := { maxStack := 3, maxLocals := 3, code := jdk_41_method_11_code, exceptionTable := #[], attributes := #[] }
def k5m1 : Method := { name := "checkIndex", desc := "(IILjava/util/function/BiFunction;)I", sig := { parameters := [.int, .int, (.object "java/util/function/BiFunction")], returnType := some .int }, accessFlags := 9, code := some k5c1 }
def k5c2 : Code := { maxStack := 4, maxLocals := 4, code := jdk_41_method_13_code, exceptionTable := #[], attributes := #[] }
def k5m2 : Method := { name := "checkFromIndexSize", desc := "(IIILjava/util/function/BiFunction;)I", sig := { parameters := [.int, .int, .int, (.object "java/util/function/BiFunction")], returnType := some .int }, accessFlags := 9, code := some k5c2 }
/-- jdk/internal/util/Preconditions -/
def k5 : Class := { plain "jdk/internal/util/Preconditions" (some 0) with
  accessFlags := 33
  interfaces := #[]
  cf := some (fileOf pool5 24 #[.nestMembers #[55, 131, 125, 114]] #[{ accessFlags := 1, nameIndex := 5, descriptorIndex := 6, attributes := #[] }, { accessFlags := 9, nameIndex := 33, descriptorIndex := 178, attributes := #[] }, { accessFlags := 9, nameIndex := 49, descriptorIndex := 183, attributes := #[] }] 33 2 #[] #[{ accessFlags := 25, nameIndex := 123, descriptorIndex := 124, attributes := #[] }, { accessFlags := 25, nameIndex := 130, descriptorIndex := 124, attributes := #[] }, { accessFlags := 25, nameIndex := 136, descriptorIndex := 124, attributes := #[] }])
  fields := #[{ name := "SIOOBE_FORMATTER", type := (.object "java/util/function/BiFunction"), accessFlags := 25, slot := 0, constantValue := 0 }, { name := "AIOOBE_FORMATTER", type := (.object "java/util/function/BiFunction"), accessFlags := 25, slot := 1, constantValue := 0 }, { name := "IOOBE_FORMATTER", type := (.object "java/util/function/BiFunction"), accessFlags := 25, slot := 2, constantValue := 0 }]
  methods := #[k5m0, k5m1, k5m2]
  instanceTypes := #[]
  staticTypes := #[(.object "java/util/function/BiFunction"), (.object "java/util/function/BiFunction"), (.object "java/util/function/BiFunction")]
  resolved := Array.replicate 194 none
  statics := none }

def pool6 : Array CpInfo := pool [(1, u "java/lang/Cloneable"), (0, .class_ 1), (0, u "java/lang/Object"), (0, .class_ 3)] 3

/-- java/lang/Cloneable -/
def k6 : Class := { plain "java/lang/Cloneable" (some 0) with
  accessFlags := 1537
  interfaces := #[]
  cf := some (fileOf pool6 2 #[] #[] 1537 4 #[] #[])
  fields := #[]
  methods := #[]
  instanceTypes := #[]
  staticTypes := #[]
  resolved := Array.replicate 8 none
  statics := none }

def pool7 : Array CpInfo := pool [(1, u "java/io/Serializable"), (0, .class_ 1), (0, u "java/lang/Object"), (0, .class_ 3)] 3

/-- java/io/Serializable -/
def k7 : Class := { plain "java/io/Serializable" (some 0) with
  accessFlags := 1537
  interfaces := #[]
  cf := some (fileOf pool7 2 #[] #[] 1537 4 #[] #[])
  fields := #[]
  methods := #[]
  instanceTypes := #[]
  staticTypes := #[]
  resolved := Array.replicate 8 none
  statics := none }

/-- the primitive byte -/
def k8 : Class := { plain "byte" none with kind := .primitive 'B', accessFlags := 0x411 }
/-- [B -/
def k9 : Class := { plain "[B" (some 0) with kind := .array 8 .byte, interfaces := #[6, 7], accessFlags := 1041 }

/-- the primitive char -/
def k10 : Class := { plain "char" none with kind := .primitive 'C', accessFlags := 0x411 }
/-- [C -/
def k11 : Class := { plain "[C" (some 0) with kind := .array 10 .char, interfaces := #[6, 7], accessFlags := 1041 }

/-- the primitive int -/
def k12 : Class := { plain "int" none with kind := .primitive 'I', accessFlags := 0x411 }
/-- [I -/
def k13 : Class := { plain "[I" (some 0) with kind := .array 12 .int, interfaces := #[6, 7], accessFlags := 1041 }

def heap : Heap := #[]
def classes : Array Class := #[k0, k1, k2, k3, k4, k5, k6, k7, k8, k9, k10, k11, k12, k13]
def interned : List (Array UInt16 × Addr) := []
def slotsUsed : Nat := 0
def theMethod : MethodId := ⟨1, 2⟩
def args0 : Array Value := #[.int 1, .int 2, .int 3, .int 4, .int 5, .int 6]
def aboutOver (below : List Frame) : State where
  vm := { classes := classes, interned := interned.toArray }
  heap := heap
  slotsUsed := slotsUsed
  threads := #[{ frames := .invoking theMethod args0 :: below }]
def below0 : List Frame := [.native { method := ⟨0, 0⟩, args := #[] }]
def about1 : State := aboutOver below0
def p0 : Program := .bare "" "" ""
def e0 : Env := launch0.env 0 0 0
theorem w_frames : about1.frames = Frame.invoking theMethod args0 :: below0 := rfl
set_option maxRecDepth 65536 in
theorem w_args : argsFit about1.vm theMethod args0 = true := by decide +kernel
set_option maxRecDepth 65536 in
theorem w_heap : heapFits about1 = true := by decide +kernel
set_option maxRecDepth 65536 in
theorem w_runnable : about1.curStatus? = some .runnable := by decide +kernel
set_option maxRecDepth 65536 in
theorem w_alone : about1.alone = true := by decide +kernel
set_option maxRecDepth 65536 in
theorem w_named : about1.methodNamed? x = some theMethod := by decide +kernel
set_option maxRecDepth 65536 in
theorem w_hears : about1.hears theMethod below0 = true := by decide +kernel
set_option maxRecDepth 65536 in
theorem w_ripe : about1.ripe theMethod args0 below0 = true := by decide +kernel
theorem w_running : about1.status = .running := rfl
set_option maxRecDepth 65536 in
theorem w_room : about1.hasRoom e0.platform room_1 = true :=
  launch0.hasRoom_least _ room_1 (by decide +kernel) (by decide +kernel) (by decide +kernel) (by decide +kernel) (by decide +kernel) (by decide +kernel)
theorem allAtoms_all (ts : List Jvm.Cond) (a : Array Jvm.Value) (st : Jvm.State) : (allAtoms ts).before a st = ts.all (fun c => c.before a st) := by
  induction ts with
  | nil => rfl
  | cons c t ih =>
    show (Jvm.Cond.and c (allAtoms t)).before a st = _
    rw [Jvm.Cond.before_and, ih, List.all_cons]
def words1 : List Jvm.Cond := Jvm.Cond.code x code maxLocals ret :: tables_1
/-- a 'code' word, met by the world's own term for the bytes: nothing is compared byte by byte -/
theorem code_word {y : MethodName} {bytes : ByteArray} {mx : Nat} {rt : Option FieldType} {a : Array Value} {s : State} {m : MethodId} {meth : Method} {c : Code} (h1 : s.methodNamed? y = some m) (h2 : s.vm.method? m = some meth) (h3 : meth.code = some c) (h4 : c.code = bytes)
    (h5 : (c.maxLocals == mx && c.exceptionTable.isEmpty && decide (c.maxStack ≤ mostOperands) && decide (meth.sig.returnType = rt) && !meth.locks && decide (parseMethodDescriptor y.desc = some meth.sig)) = true) : (Jvm.Cond.code y bytes mx rt).before a s = true := by
  simp only [Bool.and_eq_true, beq_iff_eq, Bool.not_eq_true', decide_eq_true_eq] at h5
  obtain ⟨⟨⟨⟨⟨g1, g2⟩, g3⟩, g4⟩, g5⟩, g6⟩ := h5
  simp [Cond.before, Cond.holds, Cond.value, h1, h2, h3, h4, g1, g2, g3, g4, g5, g6]
def isCode : Jvm.Cond → Bool
  | .code _ _ _ _ => true
  | _ => false
theorem all_split {L : List Jvm.Cond} {P : Jvm.Cond → Bool} (h1 : L.all (fun c => isCode c || P c) = true) (h2 : ∀ c ∈ L.filter isCode, P c = true) : L.all P = true := by
  refine List.all_eq_true.mpr fun c hc => ?_
  have h := List.all_eq_true.mp h1 c hc
  rcases Bool.eq_false_or_eq_true (isCode c) with hi | hi
  · exact h2 c (List.mem_filter.mpr ⟨hc, hi⟩)
  · simpa [hi] using h
set_option maxRecDepth 65536 in
theorem w_c0 : (Jvm.Cond.code x code maxLocals ret).before args0 about1 = true := code_word (m := ⟨1, 2⟩) (meth := k1m2) (c := k1c2) (by decide +kernel) rfl rfl rfl (by decide +kernel)
set_option maxRecDepth 65536 in
theorem w_c1 : (Jvm.Cond.code ({ cls := "com/example/precis/precis/iso2709/Chars", name := "<init>", desc := "([CII)V" } : Jvm.MethodName) prog_37_method_1_code (4 : Nat) (Option.none : Option Jvm.ClassFile.FieldType)).before args0 about1 = true := code_word (m := ⟨3, 0⟩) (meth := k3m0) (c := k3c0) (by decide +kernel) rfl rfl rfl (by decide +kernel)
set_option maxRecDepth 65536 in
theorem w_c2 : (Jvm.Cond.code ({ cls := "java/lang/Object", name := "<init>", desc := "()V" } : Jvm.MethodName) object_method_1_code (1 : Nat) (Option.none : Option Jvm.ClassFile.FieldType)).before args0 about1 = true := code_word (m := ⟨0, 0⟩) (meth := k0m0) (c := k0c0) (by decide +kernel) rfl rfl rfl (by decide +kernel)
set_option maxRecDepth 65536 in
theorem w_c3 : (Jvm.Cond.code ({ cls := "com/example/precis/precis/iso2709/Chars", name := "set", desc := "([CII)Lcom/example/precis/precis/iso2709/Chars;" } : Jvm.MethodName) prog_37_method_2_code (4 : Nat) (Option.some (Jvm.ClassFile.FieldType.object "com/example/precis/precis/iso2709/Chars"))).before args0 about1 = true := code_word (m := ⟨3, 1⟩) (meth := k3m1) (c := k3c1) (by decide +kernel) rfl rfl rfl (by decide +kernel)
set_option maxRecDepth 65536 in
theorem w_c4 : (Jvm.Cond.code ({ cls := "java/util/Objects", name := "checkFromIndexSize", desc := "(III)I" } : Jvm.MethodName) jdk_31_method_19_code (3 : Nat) (Option.some Jvm.ClassFile.FieldType.int)).before args0 about1 = true := code_word (m := ⟨4, 2⟩) (meth := k4m2) (c := k4c2) (by decide +kernel) rfl rfl rfl (by decide +kernel)
set_option maxRecDepth 65536 in
theorem w_c5 : (Jvm.Cond.code ({ cls := "jdk/internal/util/Preconditions", name := "checkFromIndexSize", desc := "(IIILjava/util/function/BiFunction;)I" } : Jvm.MethodName) jdk_41_method_13_code (4 : Nat) (Option.some Jvm.ClassFile.FieldType.int)).before args0 about1 = true := code_word (m := ⟨5, 2⟩) (meth := k5m2) (c := k5c2) (by decide +kernel) rfl rfl rfl (by decide +kernel)
set_option maxRecDepth 65536 in
theorem w_c6 : (Jvm.Cond.code ({ cls := "com/example/precis/precis/iso2709/Chars", name := "charAt", desc := "(I)C" } : Jvm.MethodName) prog_37_method_4_code (2 : Nat) (Option.some Jvm.ClassFile.FieldType.char)).before args0 about1 = true := code_word (m := ⟨3, 3⟩) (meth := k3m3) (c := k3c3) (by decide +kernel) rfl rfl rfl (by decide +kernel)
set_option maxRecDepth 65536 in
theorem w_c7 : (Jvm.Cond.code ({ cls := "java/util/Objects", name := "checkIndex", desc := "(II)I" } : Jvm.MethodName) jdk_31_method_17_code (2 : Nat) (Option.some Jvm.ClassFile.FieldType.int)).before args0 about1 = true := code_word (m := ⟨4, 1⟩) (meth := k4m1) (c := k4c1) (by decide +kernel) rfl rfl rfl (by decide +kernel)
set_option maxRecDepth 65536 in
theorem w_c8 : (Jvm.Cond.code ({ cls := "jdk/internal/util/Preconditions", name := "checkIndex", desc := "(IILjava/util/function/BiFunction;)I" } : Jvm.MethodName) jdk_41_method_11_code (3 : Nat) (Option.some Jvm.ClassFile.FieldType.int)).before args0 about1 = true := code_word (m := ⟨5, 1⟩) (meth := k5m1) (c := k5c1) (by decide +kernel) rfl rfl rfl (by decide +kernel)
set_option maxRecDepth 65536 in
theorem w_c9 : (Jvm.Cond.code ({ cls := "com/example/precis/precis/iso2709/CharsCharAtPinLaw", name := "pick", desc := "(IIIII)C" } : Jvm.MethodName) method_2_code (5 : Nat) (Option.some Jvm.ClassFile.FieldType.char)).before args0 about1 = true := code_word (m := ⟨1, 1⟩) (meth := k1m1) (c := k1c1) (by decide +kernel) rfl rfl rfl (by decide +kernel)
set_option maxRecDepth 65536 in
theorem w_c10 : (Jvm.Cond.code ({ cls := "com/example/precis/precis/iso2709/Chars", name := "length", desc := "()I" } : Jvm.MethodName) prog_37_method_3_code (1 : Nat) (Option.some Jvm.ClassFile.FieldType.int)).before args0 about1 = true := code_word (m := ⟨3, 2⟩) (meth := k3m2) (c := k3c2) (by decide +kernel) rfl rfl rfl (by decide +kernel)
def codes1 : List Jvm.Cond := [Jvm.Cond.code x code maxLocals ret, Jvm.Cond.code ({ cls := "com/example/precis/precis/iso2709/Chars", name := "<init>", desc := "([CII)V" } : Jvm.MethodName) prog_37_method_1_code (4 : Nat) (Option.none : Option Jvm.ClassFile.FieldType), Jvm.Cond.code ({ cls := "java/lang/Object", name := "<init>", desc := "()V" } : Jvm.MethodName) object_method_1_code (1 : Nat) (Option.none : Option Jvm.ClassFile.FieldType), Jvm.Cond.code ({ cls := "com/example/precis/precis/iso2709/Chars", name := "set", desc := "([CII)Lcom/example/precis/precis/iso2709/Chars;" } : Jvm.MethodName) prog_37_method_2_code (4 : Nat) (Option.some (Jvm.ClassFile.FieldType.object "com/example/precis/precis/iso2709/Chars")), Jvm.Cond.code ({ cls := "java/util/Objects", name := "checkFromIndexSize", desc := "(III)I" } : Jvm.MethodName) jdk_31_method_19_code (3 : Nat) (Option.some Jvm.ClassFile.FieldType.int), Jvm.Cond.code ({ cls := "jdk/internal/util/Preconditions", name := "checkFromIndexSize", desc := "(IIILjava/util/function/BiFunction;)I" } : Jvm.MethodName) jdk_41_method_13_code (4 : Nat) (Option.some Jvm.ClassFile.FieldType.int), Jvm.Cond.code ({ cls := "com/example/precis/precis/iso2709/Chars", name := "charAt", desc := "(I)C" } : Jvm.MethodName) prog_37_method_4_code (2 : Nat) (Option.some Jvm.ClassFile.FieldType.char), Jvm.Cond.code ({ cls := "java/util/Objects", name := "checkIndex", desc := "(II)I" } : Jvm.MethodName) jdk_31_method_17_code (2 : Nat) (Option.some Jvm.ClassFile.FieldType.int), Jvm.Cond.code ({ cls := "jdk/internal/util/Preconditions", name := "checkIndex", desc := "(IILjava/util/function/BiFunction;)I" } : Jvm.MethodName) jdk_41_method_11_code (3 : Nat) (Option.some Jvm.ClassFile.FieldType.int), Jvm.Cond.code ({ cls := "com/example/precis/precis/iso2709/CharsCharAtPinLaw", name := "pick", desc := "(IIIII)C" } : Jvm.MethodName) method_2_code (5 : Nat) (Option.some Jvm.ClassFile.FieldType.char), Jvm.Cond.code ({ cls := "com/example/precis/precis/iso2709/Chars", name := "length", desc := "()I" } : Jvm.MethodName) prog_37_method_3_code (1 : Nat) (Option.some Jvm.ClassFile.FieldType.int)]
set_option maxRecDepth 65536 in
theorem codes_eq : words1.filter isCode = codes1 := rfl
theorem w_codes : ∀ c ∈ words1.filter isCode, c.before args0 about1 = true := by
  rw [codes_eq]
  intro c hc
  simp only [codes1, List.mem_cons, List.not_mem_nil, or_false] at hc
  rcases hc with rfl | rfl | rfl | rfl | rfl | rfl | rfl | rfl | rfl | rfl | rfl
  · exact w_c0
  · exact w_c1
  · exact w_c2
  · exact w_c3
  · exact w_c4
  · exact w_c5
  · exact w_c6
  · exact w_c7
  · exact w_c8
  · exact w_c9
  · exact w_c10
set_option maxRecDepth 65536 in
theorem w_t1 : (words1.take 24).all (fun c => isCode c || c.before args0 about1) = true := by decide +kernel
set_option maxRecDepth 65536 in
theorem w_t2 : ((words1.drop 24).take 24).all (fun c => isCode c || c.before args0 about1) = true := by decide +kernel
set_option maxRecDepth 65536 in
theorem w_t3 : ((words1.drop 24).drop 24).all (fun c => isCode c || c.before args0 about1) = true := by decide +kernel
theorem w_tables : (allAtoms (Jvm.Cond.code x code maxLocals ret :: tables_1)).before args0 about1 = true := by
  rw [allAtoms_all]
  show words1.all (fun c => c.before args0 about1) = true
  refine all_split ?_ w_codes
  rw [← List.take_append_drop 24 words1, List.all_append, w_t1, ← List.take_append_drop 24 (words1.drop 24), List.all_append, w_t2, w_t3]
  rfl
set_option maxRecDepth 65536 in
theorem w_case : (Jvm.Cond.and given_1 narrow_1).before args0 about1 = true := by decide +kernel
theorem w_applies : (headSpec (Jvm.Cond.code x code maxLocals ret :: tables_1) room_1).applies x e0.platform about1 = true :=
  (Spec.applies_iff w_frames).mpr ⟨w_running, w_runnable, w_alone, w_named, w_hears, w_ripe, w_room, w_tables⟩
theorem atStart : AtStart classFile x code maxLocals ret World_1 tables_1 room_1 Calls_1 rest_1 Pre_1 launch0 p0 e0 about1 theMethod args0 below0 :=
  ⟨lists_1, trivial, launch0.admits_env _ _ _, launch0.least_env, fairChoices_fair.cas, fairChoices_fair.clock, w_frames, w_args, w_heap, w_applies, trivial, trivial, w_case⟩
end start1
theorem witness_1 : WitnessClaimed_1 := ⟨start1.p0, start1.e0, start1.about1, start1.theMethod, start1.args0, start1.below0, start1.atStart⟩
end Jvm.Pilot.@@N@@
