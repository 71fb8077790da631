import JvmDerived
import JvmDerived.Pilot.@@N@@Statement
import JvmDerived.Pilot.@@N@@Code
set_option linter.unusedVariables false
set_option linter.unusedSimpArgs false
@@BLOCK:NumsL.lean.txt@@
namespace Jvm.RoadKit
open Sem ClassFile Op Lib Jvm.Stand Jvm.Free Jvm.LawKit
section New
variable {p : Program} {l : Launch} {e : Env} {R : Room} {s : State} {m : MethodId} {args : Array Value} {below : List Frame} {meth : Method} {c : Code} {T : State} {locs : List Loc} {cells slots : Nat}
theorem retI (X : Stand p l e R s m args below meth c T locs cells slots) (hx : p.tables.exec = Jvm.exec) {pc : Nat} {Ls : Array Slot} {z : Int32} {rest : List Value} (hret : meth.sig.returnType = some .int) (hd : decode c.code pc = .ok (.ireturn, 1)) {fs : List Frame}
    (hl : ∀ (f : JFrame) (acts : List Action), f.method = m → f.locked = none → f.entered = [] → (doReturn e (T.setTop f) acts (some (.int z))).1 = T.setFrames fs) : Steps p.tables e below (T.setTop (mkF m pc Ls (.int z :: rest))) (T.setFrames fs) := by
  have hm' : T.vm.method? m = some meth := X.method'
  have hn : narrow .int (.int z) = .int z := rfl
  show Steps p.tables e below (T.setTop { method := m, pc := pc, locals := Ls, stack := _ :: rest, locked := none }) _
  jvm_step X.here [X.here.top, hx, hd, hm', hret, hn]
  first | (intro acts; rw [hl _ acts rfl rfl rfl]) | rw [hl _ _ rfl rfl rfl]
  exact Steps.refl _
end New
end Jvm.RoadKit
namespace Jvm.Pilot.@@N@@
open Jvm Jvm.ClassFile Sem Op Lib Jvm.Free Jvm.Stand Jvm.LawKit Jvm.RoadKit Bundle Jvm.Pilot.@@N@@.Jvm.D
section Own
variable {p : Program} {l : Launch} {e : Env} {R : Room} {s : State} {m : MethodId} {args : Array Value} {below : List Frame} {meth : Method} {c : Code} {T : State} {locs : List Loc} {cells slots : Nat} {Z : State} {h : Heap} {a : Addr} {k : ClassId} {n : Int32} {vs : List Value} {dv : Value} {ty : FieldType}
theorem own_caload (X : Stand p l e R s m args below meth c T locs cells slots) (hx : p.tables.exec = Jvm.exec) (hZ : Z.Warmed39 s.vm) (eT : T.heap = h) (V : Arv Z h a k .char n vs dv) {j : Int32} {v : Value} (hj : ¬ j < 0 ∧ j < n) (hv : vs.getD j.toNatClampNeg dv = v) {g : JFrame} (hg : g.method = m) {rest : List Value} (hs : g.stack = .int j :: .ref a :: rest) (hd : decode c.code g.pc = .ok (.caload, 1)) :
    ∀ target, Steps p.tables e below (T.setTop { g with pc := g.pc + 1, stack := v :: rest }) target → Steps p.tables e below (T.setTop g) target := by
  obtain ⟨cl, Ar, -, S, -, H, -⟩ := V
  exact X.caload hx (j := j) (v := v) (by rw [eT]; exact Ar.1) (State.isArrayOf_alike hZ.alike Ar.2.1) Ar.2.2 (inb_of S hj) (H.at (inb_of S hj) hv) hg hs hd
theorem own_iaload (X : Stand p l e R s m args below meth c T locs cells slots) (hx : p.tables.exec = Jvm.exec) (hZ : Z.Warmed39 s.vm) (eT : T.heap = h) (V : Arv Z h a k .int n vs dv) {j : Int32} {v : Value} (hj : ¬ j < 0 ∧ j < n) (hv : vs.getD j.toNatClampNeg dv = v) {g : JFrame} (hg : g.method = m) {rest : List Value} (hs : g.stack = .int j :: .ref a :: rest) (hd : decode c.code g.pc = .ok (.iaload, 1)) :
    ∀ target, Steps p.tables e below (T.setTop { g with pc := g.pc + 1, stack := v :: rest }) target → Steps p.tables e below (T.setTop g) target := by
  obtain ⟨cl, Ar, -, S, -, H, -⟩ := V
  exact X.iaload hx (j := j) (v := v) (by rw [eT]; exact Ar.1) (State.isArrayOf_alike hZ.alike Ar.2.1) Ar.2.2 (inb_of S hj) (H.at (inb_of S hj) hv) hg hs hd
theorem own_baload (X : Stand p l e R s m args below meth c T locs cells slots) (hx : p.tables.exec = Jvm.exec) (hZ : Z.Warmed39 s.vm) (eT : T.heap = h) (V : Arv Z h a k .byte n vs dv) {j : Int32} {v : Value} (hj : ¬ j < 0 ∧ j < n) (hv : vs.getD j.toNatClampNeg dv = v) {g : JFrame} (hg : g.method = m) {rest : List Value} (hs : g.stack = .int j :: .ref a :: rest) (hd : decode c.code g.pc = .ok (.baload, 1)) :
    ∀ target, Steps p.tables e below (T.setTop { g with pc := g.pc + 1, stack := v :: rest }) target → Steps p.tables e below (T.setTop g) target := by
  obtain ⟨cl, Ar, -, S, -, H, -⟩ := V
  exact X.baloadBytes hx (j := j) (v := v) (by rw [eT]; exact Ar.1) (State.isArrayOf_alike hZ.alike Ar.2.1) Ar.2.2 (inb_of S hj) (H.at (inb_of S hj) hv) hg hs hd
theorem own_alen (X : Stand p l e R s m args below meth c T locs cells slots) (hx : p.tables.exec = Jvm.exec) (hZ : Z.Warmed39 s.vm) (eT : T.heap = h) (V : Arv Z h a k ty n vs dv) {g : JFrame} (hg : g.method = m) {rest : List Value} (hs : g.stack = .ref a :: rest) (hd : decode c.code g.pc = .ok (.arraylength, 1)) :
    ∀ target, Steps p.tables e below (T.setTop { g with pc := g.pc + 1, stack := .int n :: rest }) target → Steps p.tables e below (T.setTop g) target := by
  obtain ⟨cl, Ar, -, S, N, -, -⟩ := V
  intro target q
  refine X.arraylength hx (by rw [eT]; exact Ar.1) (State.isArrayOf_alike hZ.alike Ar.2.1) hg hs hd target ?_
  rw [len_of S N]; exact q
end Own

theorem own_since (s : State) (n : Nat) : s.Since s.vm n := ⟨State.Warmed39.refl s, fun j p hj hp => absurd (Array.getElem?_eq_some_iff.mp hp).1 (Nat.not_lt.mpr hj)⟩
theorem own_str {Z : State} {a0 : Array Value} (hw : ∀ d ∈ tables_1, d.before a0 Z = true) : ∀ a ∈ Bundle.stringAtoms, a.before a0 Z = true := fun d hd => by
  simp only [Bundle.stringAtoms, List.mem_cons, List.not_mem_nil, or_false] at hd
  rcases hd with rfl | rfl | rfl | rfl | rfl | rfl | rfl
  · exact (hw _ (List.mem_of_getElem? (i := 5) rfl))
  · exact (hw _ (List.mem_of_getElem? (i := 6) rfl))
  · exact (hw _ (List.mem_of_getElem? (i := 7) rfl))
  · exact (hw _ (List.mem_of_getElem? (i := 8) rfl))
  · exact (hw _ (List.mem_of_getElem? (i := 9) rfl))
  · exact (hw _ (List.mem_of_getElem? (i := 10) rfl))
  · exact (hw _ (List.mem_of_getElem? (i := 11) rfl))

def own_can (b h p a : Int64) : Int32 := if a < (0 : Int64) then (if a < (-(b - h)) then (0 : Int32) else (1 : Int32)) else (if (((9223372036854775807 : Int64) - b) - p) < a then (0 : Int32) else (1 : Int32))
def own_hd (h a : Int64) : Int64 := if a < (0 : Int64) then (h - a) else h
def own_pd (p a : Int64) : Int64 := if a < (0 : Int64) then p else (p + a)
theorem own_wrapU {n : Int} (h1 : 2 ^ 63 ≤ n) (h2 : n < 2 ^ 64) : n.bmod (2 ^ 64) = n - 2 ^ 64 := by
  rw [Int.bmod_def]; split <;> omega
theorem own_mask (a : Int64) : 0 ≤ (a &&& (9223372036854775807 : Int64)).toInt ∧ (a &&& (9223372036854775807 : Int64)).toInt < 2 ^ 63 := by
  have ea : (a &&& (9223372036854775807 : Int64)).toInt = a.toInt % 2 ^ 63 := Jvm.Kit.i64_mask a _ (k := 63) (by decide) (by decide)
  omega
theorem own_succ {o : Int64} (h0 : 0 ≤ o.toInt) (h : o < (9223372036854775807 : Int64)) : (o + (1 : Int64)).toInt = o.toInt + 1 := by
  have hM : (9223372036854775807 : Int64).toInt = 9223372036854775807 := by decide
  have h1 : (1 : Int64).toInt = 1 := by decide
  rw [Int64.lt_iff_toInt_lt, hM] at h
  rw [Jvm.Kit.i64_add (by omega) (by omega), h1]
theorem own_nz {o : Int64} (h0 : 0 ≤ o.toInt) (h : o < (9223372036854775807 : Int64)) : (o + (1 : Int64)) ≠ 0 := by
  have e := own_succ h0 h
  intro q
  rw [q] at e
  have z : (0 : Int64).toInt = 0 := by decide
  omega
/-- x, taken modulo o + 1 where o is less than the greatest long, lies between 0 and o -/
theorem own_mod {o : Int64} (h0 : 0 ≤ o.toInt) (x : Int64) : 0 ≤ (if o < (9223372036854775807 : Int64) then ((x &&& (9223372036854775807 : Int64)) - (x &&& (9223372036854775807 : Int64)) / (o + (1 : Int64)) * (o + (1 : Int64))) else (x &&& (9223372036854775807 : Int64))).toInt ∧ (if o < (9223372036854775807 : Int64) then ((x &&& (9223372036854775807 : Int64)) - (x &&& (9223372036854775807 : Int64)) / (o + (1 : Int64)) * (o + (1 : Int64))) else (x &&& (9223372036854775807 : Int64))).toInt ≤ o.toInt := by
  have hx := own_mask x
  have hM : (9223372036854775807 : Int64).toInt = 9223372036854775807 := by decide
  by_cases h : o < (9223372036854775807 : Int64)
  · rw [if_pos h, Jvm.Kit.i64_rem_nonneg hx.1, own_succ h0 h]
    have q1 := Int.emod_nonneg (x &&& (9223372036854775807 : Int64)).toInt (b := o.toInt + 1) (by omega)
    have q2 := Int.emod_lt_of_pos (x &&& (9223372036854775807 : Int64)).toInt (b := o.toInt + 1) (by omega)
    omega
  · rw [if_neg h]
    rw [Int64.lt_iff_toInt_lt, hM] at h
    omega
theorem own_room {b : Int64} (h0 : 0 ≤ b.toInt) : ((9223372036854775807 : Int64) - b).toInt = 9223372036854775807 - b.toInt := by
  have hM : (9223372036854775807 : Int64).toInt = 9223372036854775807 := by decide
  have := b.toInt_lt
  rw [Jvm.Kit.i64_sub (by omega) (by omega), hM]
/-- the law's right side: what is kept -/
def own_kept (b h p : Int64) : Int32 := if h < (0 : Int64) then (0 : Int32) else if b < h then (0 : Int32) else if p < (0 : Int64) then (0 : Int32) else if ((9223372036854775807 : Int64) - b) < p then (0 : Int32) else (1 : Int32)
theorem own_plain {b h p : Int64} (a : Int64) (hb : 0 ≤ b.toInt) (hh : 0 ≤ h.toInt ∧ h.toInt ≤ b.toInt) (hp : 0 ≤ p.toInt ∧ p.toInt ≤ ((9223372036854775807 : Int64) - b).toInt) : own_can b h p a = own_kept b (own_hd h a) (own_pd p a) := by
  have e := own_room hb
  have z : (0 : Int64).toInt = 0 := by decide
  have hlt := a.toInt_lt
  have hle := a.le_toInt
  have bl := b.toInt_lt
  unfold own_can own_kept own_hd own_pd
  by_cases ha : a < (0 : Int64)
  · simp only [if_pos ha]
    rw [Int64.lt_iff_toInt_lt, z] at ha
    have e1 : (b - h).toInt = b.toInt - h.toInt := Jvm.Kit.i64_sub (by omega) (by omega)
    have e2 : (-(b - h)).toInt = -(b.toInt - h.toInt) := by rw [Jvm.Kit.i64_neg (by omega), e1]
    by_cases hq : a < (-(b - h))
    · rw [if_pos hq]
      rw [Int64.lt_iff_toInt_lt, e2] at hq
      by_cases hw : h.toInt - a.toInt < 2 ^ 63
      · have e3 : (h - a).toInt = h.toInt - a.toInt := Jvm.Kit.i64_sub (by omega) hw
        rw [if_neg (by rw [Int64.lt_iff_toInt_lt]; omega), if_pos (by rw [Int64.lt_iff_toInt_lt]; omega)]
      · have e3 : (h - a).toInt = h.toInt - a.toInt - 2 ^ 64 := by rw [Int64.toInt_sub]; exact own_wrapU (by omega) (by omega)
        rw [if_pos (by rw [Int64.lt_iff_toInt_lt]; omega)]
    · rw [if_neg hq]
      rw [Int64.lt_iff_toInt_lt, e2] at hq
      have e3 : (h - a).toInt = h.toInt - a.toInt := Jvm.Kit.i64_sub (by omega) (by omega)
      rw [if_neg (by rw [Int64.lt_iff_toInt_lt]; omega), if_neg (by rw [Int64.lt_iff_toInt_lt]; omega), if_neg (by rw [Int64.lt_iff_toInt_lt]; omega), if_neg (by rw [Int64.lt_iff_toInt_lt]; omega)]
  · simp only [if_neg ha]
    rw [Int64.lt_iff_toInt_lt, z] at ha
    have e1 : (((9223372036854775807 : Int64) - b) - p).toInt = 9223372036854775807 - b.toInt - p.toInt := by rw [Jvm.Kit.i64_sub (by omega) (by omega), e]
    by_cases hq : (((9223372036854775807 : Int64) - b) - p) < a
    · rw [if_pos hq]
      rw [Int64.lt_iff_toInt_lt, e1] at hq
      by_cases hw : p.toInt + a.toInt < 2 ^ 63
      · have e3 : (p + a).toInt = p.toInt + a.toInt := Jvm.Kit.i64_add (by omega) hw
        rw [if_neg (by rw [Int64.lt_iff_toInt_lt]; omega), if_neg (by rw [Int64.lt_iff_toInt_lt]; omega), if_neg (by rw [Int64.lt_iff_toInt_lt]; omega), if_pos (by rw [Int64.lt_iff_toInt_lt]; omega)]
      · have e3 : (p + a).toInt = p.toInt + a.toInt - 2 ^ 64 := by rw [Int64.toInt_add]; exact own_wrapU (by omega) (by omega)
        rw [if_neg (by rw [Int64.lt_iff_toInt_lt]; omega), if_neg (by rw [Int64.lt_iff_toInt_lt]; omega), if_pos (by rw [Int64.lt_iff_toInt_lt]; omega)]
    · rw [if_neg hq]
      rw [Int64.lt_iff_toInt_lt, e1] at hq
      have e3 : (p + a).toInt = p.toInt + a.toInt := Jvm.Kit.i64_add (by omega) (by omega)
      rw [if_neg (by rw [Int64.lt_iff_toInt_lt]; omega), if_neg (by rw [Int64.lt_iff_toInt_lt]; omega), if_neg (by rw [Int64.lt_iff_toInt_lt]; omega), if_neg (by rw [Int64.lt_iff_toInt_lt]; omega)]
theorem ef_2 (m : MethodId) (a1 : Addr) : entryFrame m #[(.ref a1)] 1 = mkF m 0 #[.val (.ref a1)] [] := by first | (simp [entryFrame, mkF, argsToLocals, Value.category]; done) | rfl
theorem pn_java_lang_Record : plainName "java/lang/Record" = true := by first | (simp [plainName, overriddenIn]; done) | decide +kernel
theorem d2_0 : decode jdk_30_method_1_code 0 = .ok (.aload_n 0, 1) := by decide +kernel
theorem d2_1 : decode jdk_30_method_1_code 1 = .ok (.invokespecial 1, 3) := by decide +kernel
theorem d2_4 : decode jdk_30_method_1_code 4 = .ok (.return_, 1) := by decide +kernel
def Q2 (Z : State) (a1 : Addr) (h0 : Heap) (n0 : Nat) (v : Option Value) (h : Heap) (L : List Loc) : Prop := v = none ∧ Fr n0 L ∧ h = h0
set_option maxRecDepth 65536 in
set_option maxHeartbeats 40000000 in
theorem rm2 (l : Launch) (Z : State) (a0 : Array Value) (hw : ∀ d ∈ tables_1, d.before a0 Z = true) (ws : List Jvm.Cond) (a1 : Addr) (h0 : Heap) (n0 : Nat) (Z0 : n0 ≤ h0.size) :
    MetFree l (⟨"java/lang/Record", "<init>", "()V"⟩ : MethodName) (head1 (Jvm.Cond.code (⟨"java/lang/Record", "<init>", "()V"⟩ : MethodName) jdk_30_method_1_code 1 none :: ws) ({ frames := 1, cells := 0, slots := 0, locals := 12 } : Room)) (fun a U => a = #[(.ref a1)] ∧ Z.Warmed39 U.vm ∧ U.heap = h0) (fun _ _ _ _ _ => True) (fun _ U o U' => ∃ v L, o = .returned v ∧ Q2 Z a1 h0 n0 v U'.heap L ∧ FrameEnd U o U' L ({ frames := 1, cells := 0, slots := 0, locals := 12 } : Room).cells ({ frames := 1, cells := 0, slots := 0, locals := 12 } : Room).slots) := by
  refine MetFree.of_bodySF (plainFor_of_name pn_java_lang_Record) hisR ?_
  intro p e s m args below meth c s₁ Bd hml0 hP hK
  obtain ⟨rfl, hZ, hh⟩ := hP
  have hx := Bd.exec
  have hby := Bd.bytes
  have hml : c.maxLocals = 1 := hml0
  have hown : s.vm.findClass "java/lang/Record" = some m.cls := findClass_of_methodNamed Bd.named
  have hnm := (name_of_methodNamed Bd.named Bd.method).1
  have X0 : Stand p l e ({ frames := 1, cells := 0, slots := 0, locals := 12 } : Room) s m #[(.ref a1)] below meth c s₁ [] 0 0 := Stand.of_body Bd
  have eh0 : s₁.heap = h0 := by rw [← hh, Bd.state]; rfl
  have N0 := Fr.nil n0
  have pre0 : ∀ t, Steps p.tables e below (s₁.setTop (mkF m 0 #[.val (.ref a1)] [])) t → Steps p.tables e below (s₁.setTop (entryFrame m #[(.ref a1)] 1)) t := fun t k => castTop (ef_2 m a1) k
  have pre1 : ∀ t, Steps p.tables e below (s₁.setTop (mkF m 1 #[.val (.ref a1)] [(.ref a1)])) t → Steps p.tables e below (s₁.setTop (entryFrame m #[(.ref a1)] 1)) t := fun t k => pre0 t (by
    show Steps p.tables e below (s₁.setTop (mkF m 0 #[.val (.ref a1)] [])) t
    refine XS.aloadN X0.here hx rfl (hb hby d2_0) rfl rfl ?_
    show Steps p.tables e below (s₁.setTop (mkF m 1 #[.val (.ref a1)] [(.ref a1)])) t
    exact k)
  obtain ⟨T2, X2, eh2, st2⟩ := initO X0 hx hZ hown (hw _ (List.mem_of_getElem? (i := 20) rfl)) (hw _ (List.mem_of_getElem? (i := 21) rfl)) (hw _ (List.mem_of_getElem? (i := 22) rfl)) eh0 (g := (mkF m 1 #[.val (.ref a1)] [(.ref a1)])) rfl (by rw [hml]; rfl) rfl (hb hby d2_1) (by decide) (W := 0) (by show 2 * 0 + _ ≤ _; exact Nat.le_of_eq rfl) (by decide)
  have pre3 : ∀ t, Steps p.tables e below (T2.setTop (mkF m 4 #[.val (.ref a1)] [])) t → Steps p.tables e below (s₁.setTop (entryFrame m #[(.ref a1)] 1)) t := fun t k => pre1 t (st2 _ k)
  obtain ⟨fs, hr, hrun, hended, hW, hsame⟩ := X2.leave (v := none) (fun _ => rfl)
  refine ⟨_, _, pre3 _ ?_, hrun, hended, _, _, rfl, ?_, ⟨_, rfl⟩, hW, hsame.mono (by decide) (by decide)⟩
  · show Steps p.tables e below (T2.setTop (mkF m 4 #[.val (.ref a1)] [])) _
    exact X2.returnOut hx Bd.returns (hb hby d2_4) hr
  · show Q2 Z a1 h0 n0 _ T2.heap _
    rw [eh2]
    exact ⟨rfl, N0, rfl⟩
theorem ef_1 (m : MethodId) (a1 : Addr) (a2 : Addr) (q3 : Int64) (q4 : Int64) (q5 : Int64) : entryFrame m #[(.ref a1), (.ref a2), (.long q3), (.long q4), (.long q5)] 8 = mkF m 0 #[.val (.ref a1), .val (.ref a2), .val (.long q3), .second, .val (.long q4), .second, .val (.long q5), .second] [] := by first | (simp [entryFrame, mkF, argsToLocals, Value.category]; done) | rfl
theorem pn_com_example_pledgeway_pledgeway_demo_ledger_Account : plainName "com/example/pledgeway/pledgeway/demo/ledger/Account" = true := by first | (simp [plainName, overriddenIn]; done) | decide +kernel
theorem d1_0 : decode prog_17_method_1_code 0 = .ok (.aload_n 0, 1) := by decide +kernel
theorem d1_1 : decode prog_17_method_1_code 1 = .ok (.invokespecial 1, 3) := by decide +kernel
theorem pd_ocV : parseMethodDescriptor "()V" = some ⟨[], none⟩ := by decide +kernel
theorem d1_4 : decode prog_17_method_1_code 4 = .ok (.aload_n 0, 1) := by decide +kernel
theorem d1_5 : decode prog_17_method_1_code 5 = .ok (.aload_n 1, 1) := by decide +kernel
theorem d1_6 : decode prog_17_method_1_code 6 = .ok (.putfield 7, 3) := by decide +kernel
theorem d1_9 : decode prog_17_method_1_code 9 = .ok (.aload_n 0, 1) := by decide +kernel
theorem d1_10 : decode prog_17_method_1_code 10 = .ok (.lload_n 2, 1) := by decide +kernel
theorem d1_11 : decode prog_17_method_1_code 11 = .ok (.putfield 13, 3) := by decide +kernel
theorem d1_14 : decode prog_17_method_1_code 14 = .ok (.aload_n 0, 1) := by decide +kernel
theorem d1_15 : decode prog_17_method_1_code 15 = .ok (.lload 4, 2) := by decide +kernel
theorem d1_17 : decode prog_17_method_1_code 17 = .ok (.putfield 17, 3) := by decide +kernel
theorem d1_20 : decode prog_17_method_1_code 20 = .ok (.aload_n 0, 1) := by decide +kernel
theorem d1_21 : decode prog_17_method_1_code 21 = .ok (.lload 6, 2) := by decide +kernel
theorem d1_23 : decode prog_17_method_1_code 23 = .ok (.putfield 20, 3) := by decide +kernel
theorem d1_26 : decode prog_17_method_1_code 26 = .ok (.return_, 1) := by decide +kernel
def Q1 (Z : State) (a1 : Addr) (a2 : Addr) (q3 : Int64) (q4 : Int64) (q5 : Int64) (u0 : Value) (u1 : Value) (u2 : Value) (u3 : Value) (h0 : Heap) (n0 : Nat) (v : Option Value) (h : Heap) (L : List Loc) : Prop := v = none ∧ Fr n0 L ∧ Keep h0 h [a1] ∧ Exa Z h a1 "com/example/pledgeway/pledgeway/demo/ledger/Account" ∧ Fld Z h a1 "com/example/pledgeway/pledgeway/demo/ledger/Account" "name" "Ljava/lang/String;" (.ref a2) ∧ Fld Z h a1 "com/example/pledgeway/pledgeway/demo/ledger/Account" "balance" "J" (.long q3) ∧ Fld Z h a1 "com/example/pledgeway/pledgeway/demo/ledger/Account" "held" "J" (.long q4) ∧ Fld Z h a1 "com/example/pledgeway/pledgeway/demo/ledger/Account" "pending" "J" (.long q5)
set_option maxRecDepth 65536 in
set_option maxHeartbeats 40000000 in
theorem rm1 (l : Launch) (Z : State) (a0 : Array Value) (hw : ∀ d ∈ tables_1, d.before a0 Z = true) (ws : List Jvm.Cond) (a1 : Addr) (a2 : Addr) (q3 : Int64) (q4 : Int64) (q5 : Int64) (u0 : Value) (u1 : Value) (u2 : Value) (u3 : Value) (h0 : Heap) (n0 : Nat) (Z0 : n0 ≤ h0.size) (E_a1 : Exa Z h0 a1 "com/example/pledgeway/pledgeway/demo/ledger/Account") (F_name_a1 : Fld Z h0 a1 "com/example/pledgeway/pledgeway/demo/ledger/Account" "name" "Ljava/lang/String;" u0) (F_balance_a1 : Fld Z h0 a1 "com/example/pledgeway/pledgeway/demo/ledger/Account" "balance" "J" u1) (F_held_a1 : Fld Z h0 a1 "com/example/pledgeway/pledgeway/demo/ledger/Account" "held" "J" u2) (F_pending_a1 : Fld Z h0 a1 "com/example/pledgeway/pledgeway/demo/ledger/Account" "pending" "J" u3) (g_a1 : n0 ≤ a1) :
    MetFree l (⟨"com/example/pledgeway/pledgeway/demo/ledger/Account", "<init>", "(Ljava/lang/String;JJJ)V"⟩ : MethodName) (head1 (Jvm.Cond.code (⟨"com/example/pledgeway/pledgeway/demo/ledger/Account", "<init>", "(Ljava/lang/String;JJJ)V"⟩ : MethodName) prog_17_method_1_code 8 none :: ws) ({ frames := 2, cells := 0, slots := 0, locals := 24 } : Room)) (fun a U => a = #[(.ref a1), (.ref a2), (.long q3), (.long q4), (.long q5)] ∧ Z.Warmed39 U.vm ∧ U.heap = h0) (fun _ _ _ _ _ => True) (fun _ U o U' => ∃ v L, o = .returned v ∧ Q1 Z a1 a2 q3 q4 q5 u0 u1 u2 u3 h0 n0 v U'.heap L ∧ FrameEnd U o U' L ({ frames := 2, cells := 0, slots := 0, locals := 24 } : Room).cells ({ frames := 2, cells := 0, slots := 0, locals := 24 } : Room).slots) := by
  refine MetFree.of_bodySF (plainFor_of_name pn_com_example_pledgeway_pledgeway_demo_ledger_Account) hisR ?_
  intro p e s m args below meth c s₁ Bd hml0 hP hK
  obtain ⟨rfl, hZ, hh⟩ := hP
  have hx := Bd.exec
  have hby := Bd.bytes
  have hml : c.maxLocals = 8 := hml0
  have hown : s.vm.findClass "com/example/pledgeway/pledgeway/demo/ledger/Account" = some m.cls := findClass_of_methodNamed Bd.named
  have hnm := (name_of_methodNamed Bd.named Bd.method).1
  have X0 : Stand p l e ({ frames := 2, cells := 0, slots := 0, locals := 24 } : Room) s m #[(.ref a1), (.ref a2), (.long q3), (.long q4), (.long q5)] below meth c s₁ [] 0 0 := Stand.of_body Bd
  have eh0 : s₁.heap = h0 := by rw [← hh, Bd.state]; rfl
  have N0 := Fr.nil n0
  have pre0 : ∀ t, Steps p.tables e below (s₁.setTop (mkF m 0 #[.val (.ref a1), .val (.ref a2), .val (.long q3), .second, .val (.long q4), .second, .val (.long q5), .second] [])) t → Steps p.tables e below (s₁.setTop (entryFrame m #[(.ref a1), (.ref a2), (.long q3), (.long q4), (.long q5)] 8)) t := fun t k => castTop (ef_1 m a1 a2 q3 q4 q5) k
  have K0 : Keep h0 h0 [a1] := Keep.refl _ _
  have pre1 : ∀ t, Steps p.tables e below (s₁.setTop (mkF m 1 #[.val (.ref a1), .val (.ref a2), .val (.long q3), .second, .val (.long q4), .second, .val (.long q5), .second] [(.ref a1)])) t → Steps p.tables e below (s₁.setTop (entryFrame m #[(.ref a1), (.ref a2), (.long q3), (.long q4), (.long q5)] 8)) t := fun t k => pre0 t (by
    show Steps p.tables e below (s₁.setTop (mkF m 0 #[.val (.ref a1), .val (.ref a2), .val (.long q3), .second, .val (.long q4), .second, .val (.long q5), .second] [])) t
    refine XS.aloadN X0.here hx rfl (hb hby d1_0) rfl rfl ?_
    show Steps p.tables e below (s₁.setTop (mkF m 1 #[.val (.ref a1), .val (.ref a2), .val (.long q3), .second, .val (.long q4), .second, .val (.long q5), .second] [(.ref a1)])) t
    exact k)
  obtain ⟨_, _, ⟨T2, L2, k2, n2⟩, -, X2, ⟨Lc2, hQ2, l2, y2, z2⟩, st2⟩ := X0.specialBack hx (y := (⟨"java/lang/Record", "<init>", "()V"⟩ : MethodName)) rfl hown (mvT hZ (hw _ (List.mem_of_getElem? (i := 15) rfl))) (mvT hZ (hw _ (List.mem_of_getElem? (i := 16) rfl))) (mvT hZ (hw _ (List.mem_of_getElem? (i := 19) rfl))) (by decide) (backOf (W := 0) (rm2 l Z a0 hw [] a1 h0 n0 Z0 ) hZ (hw _ (List.mem_of_getElem? (i := 19) rfl)) (hw _ (List.mem_of_getElem? (i := 18) rfl)) (by decide) (by decide)) (g := (mkF m 1 #[.val (.ref a1), .val (.ref a2), .val (.long q3), .second, .val (.long q4), .second, .val (.long q5), .second] [(.ref a1)])) rfl (by rw [hml]; rfl) (Steps.refl _) (a := a1) (argsL := []) (rest := []) (lenOf pd_ocV rfl) rfl (by show 2 * 0 + _ ≤ _; exact Nat.le_of_eq rfl) (hb hby d1_1) (fun _ _ => ⟨rfl, eh0, (by decide : 0 + 0 ≤ _), (by decide : 0 + 0 ≤ _)⟩)
  dsimp only [Pt.U, Pt.locs, Pt.cells, Pt.slots] at X2 l2 y2 z2 st2 hQ2
  subst l2 y2 z2
  obtain ⟨rfl, N2q, eh2⟩ := hQ2
  have N2 := Fr.app N0 N2q
  have pre3 : ∀ t, Steps p.tables e below (T2.setTop (mkF m 4 #[.val (.ref a1), .val (.ref a2), .val (.long q3), .second, .val (.long q4), .second, .val (.long q5), .second] [])) t → Steps p.tables e below (s₁.setTop (entryFrame m #[(.ref a1), (.ref a2), (.long q3), (.long q4), (.long q5)] 8)) t := fun t k => pre1 t (st2.trans k)
  have pre4 : ∀ t, Steps p.tables e below (T2.setTop (mkF m 6 #[.val (.ref a1), .val (.ref a2), .val (.long q3), .second, .val (.long q4), .second, .val (.long q5), .second] [(.ref a2), (.ref a1)])) t → Steps p.tables e below (s₁.setTop (entryFrame m #[(.ref a1), (.ref a2), (.long q3), (.long q4), (.long q5)] 8)) t := fun t k => pre3 t (by
    show Steps p.tables e below (T2.setTop (mkF m 4 #[.val (.ref a1), .val (.ref a2), .val (.long q3), .second, .val (.long q4), .second, .val (.long q5), .second] [])) t
    refine XS.aloadN X2.here hx rfl (hb hby d1_4) rfl rfl ?_
    show Steps p.tables e below (T2.setTop (mkF m 5 #[.val (.ref a1), .val (.ref a2), .val (.long q3), .second, .val (.long q4), .second, .val (.long q5), .second] [(.ref a1)])) t
    refine XS.aloadN X2.here hx rfl (hb hby d1_5) rfl rfl ?_
    show Steps p.tables e below (T2.setTop (mkF m 6 #[.val (.ref a1), .val (.ref a2), .val (.long q3), .second, .val (.long q4), .second, .val (.long q5), .second] [(.ref a2), (.ref a1)])) t
    exact k)
  obtain ⟨T5, h5, X5, eh5, W5, st5⟩ := putF X2 hx hZ hown (host := "") (Or.inl (hw _ (List.mem_of_getElem? (i := 23) rfl))) Via.refl eh2 F_name_a1 E_a1 (Or.inr ⟨(hw _ (List.mem_of_getElem? (i := 24) rfl)), rfl, hnm⟩) (hw _ (List.mem_of_getElem? (i := 2) rfl)) (ty := (.object "java/lang/String")) (by decide) rfl rfl (g := (mkF m 6 #[.val (.ref a1), .val (.ref a2), .val (.long q3), .second, .val (.long q4), .second, .val (.long q5), .second] [(.ref a2), (.ref a1)])) rfl rfl (hb hby d1_6)
  have E_a1__5 : Exa Z h5 a1 "com/example/pledgeway/pledgeway/demo/ledger/Account" := E_a1.wr W5
  have F_balance_a1__5 : Fld Z h5 a1 "com/example/pledgeway/pledgeway/demo/ledger/Account" "balance" "J" u1 := F_balance_a1.other W5 (Or.inr (slot_ne (Or.inr (hw _ (List.mem_of_getElem? (i := 26) rfl))) (Or.inr (hw _ (List.mem_of_getElem? (i := 24) rfl))) (by decide) (t := .long) (t' := (.object "java/lang/String")) (by decide) (by decide)))
  have F_held_a1__5 : Fld Z h5 a1 "com/example/pledgeway/pledgeway/demo/ledger/Account" "held" "J" u2 := F_held_a1.other W5 (Or.inr (slot_ne (Or.inr (hw _ (List.mem_of_getElem? (i := 28) rfl))) (Or.inr (hw _ (List.mem_of_getElem? (i := 24) rfl))) (by decide) (t := .long) (t' := (.object "java/lang/String")) (by decide) (by decide)))
  have F_pending_a1__5 : Fld Z h5 a1 "com/example/pledgeway/pledgeway/demo/ledger/Account" "pending" "J" u3 := F_pending_a1.other W5 (Or.inr (slot_ne (Or.inr (hw _ (List.mem_of_getElem? (i := 30) rfl))) (Or.inr (hw _ (List.mem_of_getElem? (i := 24) rfl))) (by decide) (t := .long) (t' := (.object "java/lang/String")) (by decide) (by decide)))
  have sz5 : n0 ≤ h5.size := Nat.le_trans Z0 (Keep.of_wr W5).1
  have K5 : Keep h0 h5 [a1] := K0.wr W5 (Or.inl (List.mem_of_getElem? (i := 0) rfl))
  have N5 := Fr.snoc X5 N2 g_a1
  have F_name_a1__5 : Fld Z h5 a1 "com/example/pledgeway/pledgeway/demo/ledger/Account" "name" "Ljava/lang/String;" (.ref a2) := F_name_a1.same W5
  have pre6 : ∀ t, Steps p.tables e below (T5.setTop (mkF m 9 #[.val (.ref a1), .val (.ref a2), .val (.long q3), .second, .val (.long q4), .second, .val (.long q5), .second] [])) t → Steps p.tables e below (s₁.setTop (entryFrame m #[(.ref a1), (.ref a2), (.long q3), (.long q4), (.long q5)] 8)) t := fun t k => pre4 t (st5 _ k)
  have pre7 : ∀ t, Steps p.tables e below (T5.setTop (mkF m 11 #[.val (.ref a1), .val (.ref a2), .val (.long q3), .second, .val (.long q4), .second, .val (.long q5), .second] [(.long q3), (.ref a1)])) t → Steps p.tables e below (s₁.setTop (entryFrame m #[(.ref a1), (.ref a2), (.long q3), (.long q4), (.long q5)] 8)) t := fun t k => pre6 t (by
    show Steps p.tables e below (T5.setTop (mkF m 9 #[.val (.ref a1), .val (.ref a2), .val (.long q3), .second, .val (.long q4), .second, .val (.long q5), .second] [])) t
    refine XS.aloadN X5.here hx rfl (hb hby d1_9) rfl rfl ?_
    show Steps p.tables e below (T5.setTop (mkF m 10 #[.val (.ref a1), .val (.ref a2), .val (.long q3), .second, .val (.long q4), .second, .val (.long q5), .second] [(.ref a1)])) t
    refine XT.lloadN X5.here hx rfl (hb hby d1_10) rfl ?_
    show Steps p.tables e below (T5.setTop (mkF m 11 #[.val (.ref a1), .val (.ref a2), .val (.long q3), .second, .val (.long q4), .second, .val (.long q5), .second] [(.long q3), (.ref a1)])) t
    exact k)
  obtain ⟨T8, h8, X8, eh8, W8, st8⟩ := putF X5 hx hZ hown (host := "") (Or.inl (hw _ (List.mem_of_getElem? (i := 25) rfl))) Via.refl eh5 F_balance_a1__5 E_a1__5 (Or.inr ⟨(hw _ (List.mem_of_getElem? (i := 26) rfl)), rfl, hnm⟩) (hw _ (List.mem_of_getElem? (i := 2) rfl)) (ty := .long) (by decide) rfl rfl (g := (mkF m 11 #[.val (.ref a1), .val (.ref a2), .val (.long q3), .second, .val (.long q4), .second, .val (.long q5), .second] [(.long q3), (.ref a1)])) rfl rfl (hb hby d1_11)
  have E_a1__8 : Exa Z h8 a1 "com/example/pledgeway/pledgeway/demo/ledger/Account" := E_a1__5.wr W8
  have F_name_a1__8 : Fld Z h8 a1 "com/example/pledgeway/pledgeway/demo/ledger/Account" "name" "Ljava/lang/String;" (.ref a2) := F_name_a1__5.other W8 (Or.inr (slot_ne (Or.inr (hw _ (List.mem_of_getElem? (i := 24) rfl))) (Or.inr (hw _ (List.mem_of_getElem? (i := 26) rfl))) (by decide) (t := (.object "java/lang/String")) (t' := .long) (by decide) (by decide)))
  have F_held_a1__8 : Fld Z h8 a1 "com/example/pledgeway/pledgeway/demo/ledger/Account" "held" "J" u2 := F_held_a1__5.other W8 (Or.inr (slot_ne (Or.inr (hw _ (List.mem_of_getElem? (i := 28) rfl))) (Or.inr (hw _ (List.mem_of_getElem? (i := 26) rfl))) (by decide) (t := .long) (t' := .long) (by decide) (by decide)))
  have F_pending_a1__8 : Fld Z h8 a1 "com/example/pledgeway/pledgeway/demo/ledger/Account" "pending" "J" u3 := F_pending_a1__5.other W8 (Or.inr (slot_ne (Or.inr (hw _ (List.mem_of_getElem? (i := 30) rfl))) (Or.inr (hw _ (List.mem_of_getElem? (i := 26) rfl))) (by decide) (t := .long) (t' := .long) (by decide) (by decide)))
  have sz8 : n0 ≤ h8.size := Nat.le_trans sz5 (Keep.of_wr W8).1
  have K8 : Keep h0 h8 [a1] := K5.wr W8 (Or.inl (List.mem_of_getElem? (i := 0) rfl))
  have N8 := Fr.snoc X8 N5 g_a1
  have F_balance_a1__8 : Fld Z h8 a1 "com/example/pledgeway/pledgeway/demo/ledger/Account" "balance" "J" (.long q3) := F_balance_a1__5.same W8
  have pre9 : ∀ t, Steps p.tables e below (T8.setTop (mkF m 14 #[.val (.ref a1), .val (.ref a2), .val (.long q3), .second, .val (.long q4), .second, .val (.long q5), .second] [])) t → Steps p.tables e below (s₁.setTop (entryFrame m #[(.ref a1), (.ref a2), (.long q3), (.long q4), (.long q5)] 8)) t := fun t k => pre7 t (st8 _ k)
  have pre10 : ∀ t, Steps p.tables e below (T8.setTop (mkF m 17 #[.val (.ref a1), .val (.ref a2), .val (.long q3), .second, .val (.long q4), .second, .val (.long q5), .second] [(.long q4), (.ref a1)])) t → Steps p.tables e below (s₁.setTop (entryFrame m #[(.ref a1), (.ref a2), (.long q3), (.long q4), (.long q5)] 8)) t := fun t k => pre9 t (by
    show Steps p.tables e below (T8.setTop (mkF m 14 #[.val (.ref a1), .val (.ref a2), .val (.long q3), .second, .val (.long q4), .second, .val (.long q5), .second] [])) t
    refine XS.aloadN X8.here hx rfl (hb hby d1_14) rfl rfl ?_
    show Steps p.tables e below (T8.setTop (mkF m 15 #[.val (.ref a1), .val (.ref a2), .val (.long q3), .second, .val (.long q4), .second, .val (.long q5), .second] [(.ref a1)])) t
    refine XT.lload X8.here hx rfl (hb hby d1_15) rfl ?_
    show Steps p.tables e below (T8.setTop (mkF m 17 #[.val (.ref a1), .val (.ref a2), .val (.long q3), .second, .val (.long q4), .second, .val (.long q5), .second] [(.long q4), (.ref a1)])) t
    exact k)
  obtain ⟨T11, h11, X11, eh11, W11, st11⟩ := putF X8 hx hZ hown (host := "") (Or.inl (hw _ (List.mem_of_getElem? (i := 27) rfl))) Via.refl eh8 F_held_a1__8 E_a1__8 (Or.inr ⟨(hw _ (List.mem_of_getElem? (i := 28) rfl)), rfl, hnm⟩) (hw _ (List.mem_of_getElem? (i := 2) rfl)) (ty := .long) (by decide) rfl rfl (g := (mkF m 17 #[.val (.ref a1), .val (.ref a2), .val (.long q3), .second, .val (.long q4), .second, .val (.long q5), .second] [(.long q4), (.ref a1)])) rfl rfl (hb hby d1_17)
  have E_a1__11 : Exa Z h11 a1 "com/example/pledgeway/pledgeway/demo/ledger/Account" := E_a1__8.wr W11
  have F_name_a1__11 : Fld Z h11 a1 "com/example/pledgeway/pledgeway/demo/ledger/Account" "name" "Ljava/lang/String;" (.ref a2) := F_name_a1__8.other W11 (Or.inr (slot_ne (Or.inr (hw _ (List.mem_of_getElem? (i := 24) rfl))) (Or.inr (hw _ (List.mem_of_getElem? (i := 28) rfl))) (by decide) (t := (.object "java/lang/String")) (t' := .long) (by decide) (by decide)))
  have F_balance_a1__11 : Fld Z h11 a1 "com/example/pledgeway/pledgeway/demo/ledger/Account" "balance" "J" (.long q3) := F_balance_a1__8.other W11 (Or.inr (slot_ne (Or.inr (hw _ (List.mem_of_getElem? (i := 26) rfl))) (Or.inr (hw _ (List.mem_of_getElem? (i := 28) rfl))) (by decide) (t := .long) (t' := .long) (by decide) (by decide)))
  have F_pending_a1__11 : Fld Z h11 a1 "com/example/pledgeway/pledgeway/demo/ledger/Account" "pending" "J" u3 := F_pending_a1__8.other W11 (Or.inr (slot_ne (Or.inr (hw _ (List.mem_of_getElem? (i := 30) rfl))) (Or.inr (hw _ (List.mem_of_getElem? (i := 28) rfl))) (by decide) (t := .long) (t' := .long) (by decide) (by decide)))
  have sz11 : n0 ≤ h11.size := Nat.le_trans sz8 (Keep.of_wr W11).1
  have K11 : Keep h0 h11 [a1] := K8.wr W11 (Or.inl (List.mem_of_getElem? (i := 0) rfl))
  have N11 := Fr.snoc X11 N8 g_a1
  have F_held_a1__11 : Fld Z h11 a1 "com/example/pledgeway/pledgeway/demo/ledger/Account" "held" "J" (.long q4) := F_held_a1__8.same W11
  have pre12 : ∀ t, Steps p.tables e below (T11.setTop (mkF m 20 #[.val (.ref a1), .val (.ref a2), .val (.long q3), .second, .val (.long q4), .second, .val (.long q5), .second] [])) t → Steps p.tables e below (s₁.setTop (entryFrame m #[(.ref a1), (.ref a2), (.long q3), (.long q4), (.long q5)] 8)) t := fun t k => pre10 t (st11 _ k)
  have pre13 : ∀ t, Steps p.tables e below (T11.setTop (mkF m 23 #[.val (.ref a1), .val (.ref a2), .val (.long q3), .second, .val (.long q4), .second, .val (.long q5), .second] [(.long q5), (.ref a1)])) t → Steps p.tables e below (s₁.setTop (entryFrame m #[(.ref a1), (.ref a2), (.long q3), (.long q4), (.long q5)] 8)) t := fun t k => pre12 t (by
    show Steps p.tables e below (T11.setTop (mkF m 20 #[.val (.ref a1), .val (.ref a2), .val (.long q3), .second, .val (.long q4), .second, .val (.long q5), .second] [])) t
    refine XS.aloadN X11.here hx rfl (hb hby d1_20) rfl rfl ?_
    show Steps p.tables e below (T11.setTop (mkF m 21 #[.val (.ref a1), .val (.ref a2), .val (.long q3), .second, .val (.long q4), .second, .val (.long q5), .second] [(.ref a1)])) t
    refine XT.lload X11.here hx rfl (hb hby d1_21) rfl ?_
    show Steps p.tables e below (T11.setTop (mkF m 23 #[.val (.ref a1), .val (.ref a2), .val (.long q3), .second, .val (.long q4), .second, .val (.long q5), .second] [(.long q5), (.ref a1)])) t
    exact k)
  obtain ⟨T14, h14, X14, eh14, W14, st14⟩ := putF X11 hx hZ hown (host := "") (Or.inl (hw _ (List.mem_of_getElem? (i := 29) rfl))) Via.refl eh11 F_pending_a1__11 E_a1__11 (Or.inr ⟨(hw _ (List.mem_of_getElem? (i := 30) rfl)), rfl, hnm⟩) (hw _ (List.mem_of_getElem? (i := 2) rfl)) (ty := .long) (by decide) rfl rfl (g := (mkF m 23 #[.val (.ref a1), .val (.ref a2), .val (.long q3), .second, .val (.long q4), .second, .val (.long q5), .second] [(.long q5), (.ref a1)])) rfl rfl (hb hby d1_23)
  have E_a1__14 : Exa Z h14 a1 "com/example/pledgeway/pledgeway/demo/ledger/Account" := E_a1__11.wr W14
  have F_name_a1__14 : Fld Z h14 a1 "com/example/pledgeway/pledgeway/demo/ledger/Account" "name" "Ljava/lang/String;" (.ref a2) := F_name_a1__11.other W14 (Or.inr (slot_ne (Or.inr (hw _ (List.mem_of_getElem? (i := 24) rfl))) (Or.inr (hw _ (List.mem_of_getElem? (i := 30) rfl))) (by decide) (t := (.object "java/lang/String")) (t' := .long) (by decide) (by decide)))
  have F_balance_a1__14 : Fld Z h14 a1 "com/example/pledgeway/pledgeway/demo/ledger/Account" "balance" "J" (.long q3) := F_balance_a1__11.other W14 (Or.inr (slot_ne (Or.inr (hw _ (List.mem_of_getElem? (i := 26) rfl))) (Or.inr (hw _ (List.mem_of_getElem? (i := 30) rfl))) (by decide) (t := .long) (t' := .long) (by decide) (by decide)))
  have F_held_a1__14 : Fld Z h14 a1 "com/example/pledgeway/pledgeway/demo/ledger/Account" "held" "J" (.long q4) := F_held_a1__11.other W14 (Or.inr (slot_ne (Or.inr (hw _ (List.mem_of_getElem? (i := 28) rfl))) (Or.inr (hw _ (List.mem_of_getElem? (i := 30) rfl))) (by decide) (t := .long) (t' := .long) (by decide) (by decide)))
  have sz14 : n0 ≤ h14.size := Nat.le_trans sz11 (Keep.of_wr W14).1
  have K14 : Keep h0 h14 [a1] := K11.wr W14 (Or.inl (List.mem_of_getElem? (i := 0) rfl))
  have N14 := Fr.snoc X14 N11 g_a1
  have F_pending_a1__14 : Fld Z h14 a1 "com/example/pledgeway/pledgeway/demo/ledger/Account" "pending" "J" (.long q5) := F_pending_a1__11.same W14
  have pre15 : ∀ t, Steps p.tables e below (T14.setTop (mkF m 26 #[.val (.ref a1), .val (.ref a2), .val (.long q3), .second, .val (.long q4), .second, .val (.long q5), .second] [])) t → Steps p.tables e below (s₁.setTop (entryFrame m #[(.ref a1), (.ref a2), (.long q3), (.long q4), (.long q5)] 8)) t := fun t k => pre13 t (st14 _ k)
  obtain ⟨fs, hr, hrun, hended, hW, hsame⟩ := X14.leave (v := none) (fun _ => rfl)
  refine ⟨_, _, pre15 _ ?_, hrun, hended, _, _, rfl, ?_, ⟨_, rfl⟩, hW, hsame.mono (by decide) (by decide)⟩
  · show Steps p.tables e below (T14.setTop (mkF m 26 #[.val (.ref a1), .val (.ref a2), .val (.long q3), .second, .val (.long q4), .second, .val (.long q5), .second] [])) _
    exact X14.returnOut hx Bd.returns (hb hby d1_26) hr
  · show Q1 Z a1 a2 q3 q4 q5 u0 u1 u2 u3 h0 n0 _ T14.heap _
    rw [eh14]
    exact ⟨rfl, N14, K14, E_a1__14, F_name_a1__14, F_balance_a1__14, F_held_a1__14, F_pending_a1__14⟩
theorem ef_4 (m : MethodId) (a1 : Addr) (q2 : Int64) : entryFrame m #[(.ref a1), (.long q2)] 3 = mkF m 0 #[.val (.ref a1), .val (.long q2), .second] [] := by first | (simp [entryFrame, mkF, argsToLocals, Value.category]; done) | rfl
theorem d4_0 : decode prog_17_method_2_code 0 = .ok (.lload_n 1, 1) := by decide +kernel
theorem d4_1 : decode prog_17_method_2_code 1 = .ok (.lconst 0, 1) := by decide +kernel
theorem d4_2 : decode prog_17_method_2_code 2 = .ok (.lcmp, 1) := by decide +kernel
theorem d4_3 : decode prog_17_method_2_code 3 = .ok (.ifCond .ge 24, 3) := by decide +kernel
theorem d4_6 : decode prog_17_method_2_code 6 = .ok (.lload_n 1, 1) := by decide +kernel
theorem d4_7 : decode prog_17_method_2_code 7 = .ok (.aload_n 0, 1) := by decide +kernel
theorem d4_8 : decode prog_17_method_2_code 8 = .ok (.getfield 13, 3) := by decide +kernel
theorem d4_11 : decode prog_17_method_2_code 11 = .ok (.aload_n 0, 1) := by decide +kernel
theorem d4_12 : decode prog_17_method_2_code 12 = .ok (.getfield 17, 3) := by decide +kernel
theorem d4_15 : decode prog_17_method_2_code 15 = .ok (.lsub, 1) := by decide +kernel
theorem d4_16 : decode prog_17_method_2_code 16 = .ok (.lneg, 1) := by decide +kernel
theorem d4_17 : decode prog_17_method_2_code 17 = .ok (.lcmp, 1) := by decide +kernel
theorem d4_18 : decode prog_17_method_2_code 18 = .ok (.ifCond .lt 7, 3) := by decide +kernel
theorem d4_25 : decode prog_17_method_2_code 25 = .ok (.iconst 0, 1) := by decide +kernel
theorem d4_26 : decode prog_17_method_2_code 26 = .ok (.ireturn, 1) := by decide +kernel
theorem d4_21 : decode prog_17_method_2_code 21 = .ok (.iconst 1, 1) := by decide +kernel
theorem d4_22 : decode prog_17_method_2_code 22 = .ok (.goto 4, 3) := by decide +kernel
theorem d4_27 : decode prog_17_method_2_code 27 = .ok (.lload_n 1, 1) := by decide +kernel
theorem d4_28 : decode prog_17_method_2_code 28 = .ok (.ldc2_w 25, 3) := by decide +kernel
theorem d4_31 : decode prog_17_method_2_code 31 = .ok (.aload_n 0, 1) := by decide +kernel
theorem d4_32 : decode prog_17_method_2_code 32 = .ok (.getfield 13, 3) := by decide +kernel
theorem d4_35 : decode prog_17_method_2_code 35 = .ok (.lsub, 1) := by decide +kernel
theorem d4_36 : decode prog_17_method_2_code 36 = .ok (.aload_n 0, 1) := by decide +kernel
theorem d4_37 : decode prog_17_method_2_code 37 = .ok (.getfield 20, 3) := by decide +kernel
theorem d4_40 : decode prog_17_method_2_code 40 = .ok (.lsub, 1) := by decide +kernel
theorem d4_41 : decode prog_17_method_2_code 41 = .ok (.lcmp, 1) := by decide +kernel
theorem d4_42 : decode prog_17_method_2_code 42 = .ok (.ifCond .gt 7, 3) := by decide +kernel
theorem d4_49 : decode prog_17_method_2_code 49 = .ok (.iconst 0, 1) := by decide +kernel
theorem d4_50 : decode prog_17_method_2_code 50 = .ok (.ireturn, 1) := by decide +kernel
theorem d4_45 : decode prog_17_method_2_code 45 = .ok (.iconst 1, 1) := by decide +kernel
theorem d4_46 : decode prog_17_method_2_code 46 = .ok (.goto 4, 3) := by decide +kernel
def Q4 (Z : State) (a1 : Addr) (q2 : Int64) (w0 : Addr) (w1 : Int64) (w2 : Int64) (w3 : Int64) (h0 : Heap) (n0 : Nat) (v : Option Value) (h : Heap) (L : List Loc) : Prop := v = some (.int (own_can w1 w2 w3 q2)) ∧ Fr n0 L ∧ h = h0
set_option maxRecDepth 65536 in
set_option maxHeartbeats 40000000 in
theorem rm4 (l : Launch) (Z : State) (a0 : Array Value) (hw : ∀ d ∈ tables_1, d.before a0 Z = true) (ws : List Jvm.Cond) (a1 : Addr) (q2 : Int64) (w0 : Addr) (w1 : Int64) (w2 : Int64) (w3 : Int64) (h0 : Heap) (n0 : Nat) (Z0 : n0 ≤ h0.size) (F_name_a1 : Fld Z h0 a1 "com/example/pledgeway/pledgeway/demo/ledger/Account" "name" "Ljava/lang/String;" (.ref w0)) (F_balance_a1 : Fld Z h0 a1 "com/example/pledgeway/pledgeway/demo/ledger/Account" "balance" "J" (.long w1)) (F_held_a1 : Fld Z h0 a1 "com/example/pledgeway/pledgeway/demo/ledger/Account" "held" "J" (.long w2)) (F_pending_a1 : Fld Z h0 a1 "com/example/pledgeway/pledgeway/demo/ledger/Account" "pending" "J" (.long w3)) :
    MetFree l (⟨"com/example/pledgeway/pledgeway/demo/ledger/Account", "canReserve", "(J)Z"⟩ : MethodName) (head1 (Jvm.Cond.code (⟨"com/example/pledgeway/pledgeway/demo/ledger/Account", "canReserve", "(J)Z"⟩ : MethodName) prog_17_method_2_code 3 (some .boolean) :: ws) ({ frames := 0, cells := 0, slots := 0, locals := 0 } : Room)) (fun a U => a = #[(.ref a1), (.long q2)] ∧ Z.Warmed39 U.vm ∧ U.heap = h0) (fun _ _ _ _ _ => True) (fun _ U o U' => ∃ v L, o = .returned v ∧ Q4 Z a1 q2 w0 w1 w2 w3 h0 n0 v U'.heap L ∧ FrameEnd U o U' L ({ frames := 0, cells := 0, slots := 0, locals := 0 } : Room).cells ({ frames := 0, cells := 0, slots := 0, locals := 0 } : Room).slots) := by
  refine MetFree.of_bodySF (plainFor_of_name pn_com_example_pledgeway_pledgeway_demo_ledger_Account) hisR ?_
  intro p e s m args below meth c s₁ Bd hml0 hP hK
  obtain ⟨rfl, hZ, hh⟩ := hP
  have hx := Bd.exec
  have hby := Bd.bytes
  have hml : c.maxLocals = 3 := hml0
  have hown : s.vm.findClass "com/example/pledgeway/pledgeway/demo/ledger/Account" = some m.cls := findClass_of_methodNamed Bd.named
  have hnm := (name_of_methodNamed Bd.named Bd.method).1
  have X0 : Stand p l e ({ frames := 0, cells := 0, slots := 0, locals := 0 } : Room) s m #[(.ref a1), (.long q2)] below meth c s₁ [] 0 0 := Stand.of_body Bd
  have eh0 : s₁.heap = h0 := by rw [← hh, Bd.state]; rfl
  have N0 := Fr.nil n0
  have pre0 : ∀ t, Steps p.tables e below (s₁.setTop (mkF m 0 #[.val (.ref a1), .val (.long q2), .second] [])) t → Steps p.tables e below (s₁.setTop (entryFrame m #[(.ref a1), (.long q2)] 3)) t := fun t k => castTop (ef_4 m a1 q2) k
  have pre2 : ∀ t, Steps p.tables e below (s₁.setTop (mkF m 3 #[.val (.ref a1), .val (.long q2), .second] [(.int (XT.cmpL q2 (0 : Int64)))])) t → Steps p.tables e below (s₁.setTop (entryFrame m #[(.ref a1), (.long q2)] 3)) t := fun t k => pre0 t (by
    show Steps p.tables e below (s₁.setTop (mkF m 0 #[.val (.ref a1), .val (.long q2), .second] [])) t
    refine XT.lloadN X0.here hx rfl (hb hby d4_0) rfl ?_
    show Steps p.tables e below (s₁.setTop (mkF m 1 #[.val (.ref a1), .val (.long q2), .second] [(.long q2)])) t
    refine XT.lconstV X0.here hx rfl (0 : Int64) (hb hby d4_1) (by decide) ?_
    show Steps p.tables e below (s₁.setTop (mkF m 2 #[.val (.ref a1), .val (.long q2), .second] [(.long (0 : Int64)), (.long q2)])) t
    refine XT.lcmp X0.here hx rfl (hb hby d4_2) rfl ?_
    show Steps p.tables e below (s₁.setTop (mkF m 3 #[.val (.ref a1), .val (.long q2), .second] [(.int (XT.cmpL q2 (0 : Int64)))])) t
    exact k)
  by_cases hc3_1 : q2 < (0 : Int64)
  · skip
    have pre3 : ∀ t, Steps p.tables e below (s₁.setTop (mkF m 8 #[.val (.ref a1), .val (.long q2), .second] [(.ref a1), (.long q2)])) t → Steps p.tables e below (s₁.setTop (entryFrame m #[(.ref a1), (.long q2)] 3)) t := fun t k => pre2 t (by
      show Steps p.tables e below (s₁.setTop (mkF m 3 #[.val (.ref a1), .val (.long q2), .second] [(.int (XT.cmpL q2 (0 : Int64)))])) t
      refine XS.ifNo X0.here hx rfl (hb hby d4_3) rfl (XT.ll_ge_f hc3_1) ?_
      show Steps p.tables e below (s₁.setTop (mkF m 6 #[.val (.ref a1), .val (.long q2), .second] [])) t
      refine XT.lloadN X0.here hx rfl (hb hby d4_6) rfl ?_
      show Steps p.tables e below (s₁.setTop (mkF m 7 #[.val (.ref a1), .val (.long q2), .second] [(.long q2)])) t
      refine XS.aloadN X0.here hx rfl (hb hby d4_7) rfl rfl ?_
      show Steps p.tables e below (s₁.setTop (mkF m 8 #[.val (.ref a1), .val (.long q2), .second] [(.ref a1), (.long q2)])) t
      exact k)
    obtain ⟨T4, X4, eh4, st4⟩ := getF X0 hx hZ hown (host := "") (Or.inl (hw _ (List.mem_of_getElem? (i := 25) rfl))) Via.refl eh0 F_balance_a1 (g := (mkF m 8 #[.val (.ref a1), .val (.long q2), .second] [(.ref a1), (.long q2)])) rfl rfl (hb hby d4_8)
    have pre5 : ∀ t, Steps p.tables e below (T4.setTop (mkF m 11 #[.val (.ref a1), .val (.long q2), .second] [(.long w1), (.long q2)])) t → Steps p.tables e below (s₁.setTop (entryFrame m #[(.ref a1), (.long q2)] 3)) t := fun t k => pre3 t (st4 _ k)
    have pre6 : ∀ t, Steps p.tables e below (T4.setTop (mkF m 12 #[.val (.ref a1), .val (.long q2), .second] [(.ref a1), (.long w1), (.long q2)])) t → Steps p.tables e below (s₁.setTop (entryFrame m #[(.ref a1), (.long q2)] 3)) t := fun t k => pre5 t (by
      show Steps p.tables e below (T4.setTop (mkF m 11 #[.val (.ref a1), .val (.long q2), .second] [(.long w1), (.long q2)])) t
      refine XS.aloadN X4.here hx rfl (hb hby d4_11) rfl rfl ?_
      show Steps p.tables e below (T4.setTop (mkF m 12 #[.val (.ref a1), .val (.long q2), .second] [(.ref a1), (.long w1), (.long q2)])) t
      exact k)
    obtain ⟨T7, X7, eh7, st7⟩ := getF X4 hx hZ hown (host := "") (Or.inl (hw _ (List.mem_of_getElem? (i := 27) rfl))) Via.refl eh4 F_held_a1 (g := (mkF m 12 #[.val (.ref a1), .val (.long q2), .second] [(.ref a1), (.long w1), (.long q2)])) rfl rfl (hb hby d4_12)
    have pre8 : ∀ t, Steps p.tables e below (T7.setTop (mkF m 15 #[.val (.ref a1), .val (.long q2), .second] [(.long w2), (.long w1), (.long q2)])) t → Steps p.tables e below (s₁.setTop (entryFrame m #[(.ref a1), (.long q2)] 3)) t := fun t k => pre6 t (st7 _ k)
    have pre10 : ∀ t, Steps p.tables e below (T7.setTop (mkF m 18 #[.val (.ref a1), .val (.long q2), .second] [(.int (XT.cmpL q2 (-(w1 - w2))))])) t → Steps p.tables e below (s₁.setTop (entryFrame m #[(.ref a1), (.long q2)] 3)) t := fun t k => pre8 t (by
      show Steps p.tables e below (T7.setTop (mkF m 15 #[.val (.ref a1), .val (.long q2), .second] [(.long w2), (.long w1), (.long q2)])) t
      refine XT.lsub X7.here hx rfl (hb hby d4_15) rfl ?_
      show Steps p.tables e below (T7.setTop (mkF m 16 #[.val (.ref a1), .val (.long q2), .second] [(.long (w1 - w2)), (.long q2)])) t
      refine XT.lneg X7.here hx rfl (hb hby d4_16) rfl ?_
      show Steps p.tables e below (T7.setTop (mkF m 17 #[.val (.ref a1), .val (.long q2), .second] [(.long (-(w1 - w2))), (.long q2)])) t
      refine XT.lcmp X7.here hx rfl (hb hby d4_17) rfl ?_
      show Steps p.tables e below (T7.setTop (mkF m 18 #[.val (.ref a1), .val (.long q2), .second] [(.int (XT.cmpL q2 (-(w1 - w2))))])) t
      exact k)
    by_cases hc18_9 : q2 < (-(w1 - w2))
    · skip
      have pre11 : ∀ t, Steps p.tables e below (T7.setTop (mkF m 26 #[.val (.ref a1), .val (.long q2), .second] [(.int (0 : Int32))])) t → Steps p.tables e below (s₁.setTop (entryFrame m #[(.ref a1), (.long q2)] 3)) t := fun t k => pre10 t (by
        show Steps p.tables e below (T7.setTop (mkF m 18 #[.val (.ref a1), .val (.long q2), .second] [(.int (XT.cmpL q2 (-(w1 - w2))))])) t
        refine XS.ifYes X7.here hx rfl (pc0 := 18) (pc' := 25) rfl (hb hby d4_18) rfl (XT.ll_lt_t hc18_9) (by decide) (by decide) ?_
        show Steps p.tables e below (T7.setTop (mkF m 25 #[.val (.ref a1), .val (.long q2), .second] [])) t
        refine XS.iconst X7.here hx rfl (hb hby d4_25) ?_
        show Steps p.tables e below (T7.setTop (mkF m 26 #[.val (.ref a1), .val (.long q2), .second] [(.int (0 : Int32))])) t
        exact k)
      obtain ⟨fs, hr, hrun, hended, hW, hsame⟩ := X7.leave (v := some (.int (0 : Int32))) (fun h => by rw [Bd.returns] at h; cases h)
      refine ⟨_, _, pre11 _ ?_, hrun, hended, _, _, rfl, ?_, ⟨_, rfl⟩, hW, hsame.mono (by decide) (by decide)⟩
      · show Steps p.tables e below (T7.setTop (mkF m 26 #[.val (.ref a1), .val (.long q2), .second] [(.int (0 : Int32))])) _
        exact retN X7 hx (t := .boolean) Bd.returns (by simp) (hb hby d4_26) hr
      · show Q4 Z a1 q2 w0 w1 w2 w3 h0 n0 _ T7.heap _
        rw [eh7]
        exact ⟨(congrArg (fun z => some (Value.int z)) (show (0 : Int32) = (own_can w1 w2 w3 q2) from (by simp only [own_can, if_pos hc3_1, if_pos hc18_9]))), N0, rfl⟩
    · skip
      have pre12 : ∀ t, Steps p.tables e below (T7.setTop (mkF m 26 #[.val (.ref a1), .val (.long q2), .second] [(.int (1 : Int32))])) t → Steps p.tables e below (s₁.setTop (entryFrame m #[(.ref a1), (.long q2)] 3)) t := fun t k => pre10 t (by
        show Steps p.tables e below (T7.setTop (mkF m 18 #[.val (.ref a1), .val (.long q2), .second] [(.int (XT.cmpL q2 (-(w1 - w2))))])) t
        refine XS.ifNo X7.here hx rfl (hb hby d4_18) rfl (XT.ll_lt_f hc18_9) ?_
        show Steps p.tables e below (T7.setTop (mkF m 21 #[.val (.ref a1), .val (.long q2), .second] [])) t
        refine XS.iconst X7.here hx rfl (hb hby d4_21) ?_
        show Steps p.tables e below (T7.setTop (mkF m 22 #[.val (.ref a1), .val (.long q2), .second] [(.int (1 : Int32))])) t
        refine XS.goto X7.here hx rfl (pc0 := 22) (pc' := 26) rfl (hb hby d4_22) (by decide) (by decide) ?_
        show Steps p.tables e below (T7.setTop (mkF m 26 #[.val (.ref a1), .val (.long q2), .second] [(.int (1 : Int32))])) t
        exact k)
      obtain ⟨fs, hr, hrun, hended, hW, hsame⟩ := X7.leave (v := some (.int (1 : Int32))) (fun h => by rw [Bd.returns] at h; cases h)
      refine ⟨_, _, pre12 _ ?_, hrun, hended, _, _, rfl, ?_, ⟨_, rfl⟩, hW, hsame.mono (by decide) (by decide)⟩
      · show Steps p.tables e below (T7.setTop (mkF m 26 #[.val (.ref a1), .val (.long q2), .second] [(.int (1 : Int32))])) _
        exact retN X7 hx (t := .boolean) Bd.returns (by simp) (hb hby d4_26) hr
      · show Q4 Z a1 q2 w0 w1 w2 w3 h0 n0 _ T7.heap _
        rw [eh7]
        exact ⟨(congrArg (fun z => some (Value.int z)) (show (1 : Int32) = (own_can w1 w2 w3 q2) from (by simp only [own_can, if_pos hc3_1, if_neg hc18_9]))), N0, rfl⟩
  · skip
    have pre13 : ∀ t, Steps p.tables e below (s₁.setTop (mkF m 32 #[.val (.ref a1), .val (.long q2), .second] [(.ref a1), (.long (9223372036854775807 : Int64)), (.long q2)])) t → Steps p.tables e below (s₁.setTop (entryFrame m #[(.ref a1), (.long q2)] 3)) t := fun t k => pre2 t (by
      show Steps p.tables e below (s₁.setTop (mkF m 3 #[.val (.ref a1), .val (.long q2), .second] [(.int (XT.cmpL q2 (0 : Int64)))])) t
      refine XS.ifYes X0.here hx rfl (pc0 := 3) (pc' := 27) rfl (hb hby d4_3) rfl (XT.ll_ge_t hc3_1) (by decide) (by decide) ?_
      show Steps p.tables e below (s₁.setTop (mkF m 27 #[.val (.ref a1), .val (.long q2), .second] [])) t
      refine XT.lloadN X0.here hx rfl (hb hby d4_27) rfl ?_
      show Steps p.tables e below (s₁.setTop (mkF m 28 #[.val (.ref a1), .val (.long q2), .second] [(.long q2)])) t
      refine X0.ldc2Long hx hown (mvT hZ (hw _ (List.mem_of_getElem? (i := 36) rfl))) (g := (mkF m 28 #[.val (.ref a1), .val (.long q2), .second] [(.long q2)])) rfl (hb hby d4_28) _ ?_
      show Steps p.tables e below (s₁.setTop (mkF m 31 #[.val (.ref a1), .val (.long q2), .second] [(.long (9223372036854775807 : Int64)), (.long q2)])) t
      refine XS.aloadN X0.here hx rfl (hb hby d4_31) rfl rfl ?_
      show Steps p.tables e below (s₁.setTop (mkF m 32 #[.val (.ref a1), .val (.long q2), .second] [(.ref a1), (.long (9223372036854775807 : Int64)), (.long q2)])) t
      exact k)
    obtain ⟨T14, X14, eh14, st14⟩ := getF X0 hx hZ hown (host := "") (Or.inl (hw _ (List.mem_of_getElem? (i := 25) rfl))) Via.refl eh0 F_balance_a1 (g := (mkF m 32 #[.val (.ref a1), .val (.long q2), .second] [(.ref a1), (.long (9223372036854775807 : Int64)), (.long q2)])) rfl rfl (hb hby d4_32)
    have pre15 : ∀ t, Steps p.tables e below (T14.setTop (mkF m 35 #[.val (.ref a1), .val (.long q2), .second] [(.long w1), (.long (9223372036854775807 : Int64)), (.long q2)])) t → Steps p.tables e below (s₁.setTop (entryFrame m #[(.ref a1), (.long q2)] 3)) t := fun t k => pre13 t (st14 _ k)
    have pre16 : ∀ t, Steps p.tables e below (T14.setTop (mkF m 37 #[.val (.ref a1), .val (.long q2), .second] [(.ref a1), (.long ((9223372036854775807 : Int64) - w1)), (.long q2)])) t → Steps p.tables e below (s₁.setTop (entryFrame m #[(.ref a1), (.long q2)] 3)) t := fun t k => pre15 t (by
      show Steps p.tables e below (T14.setTop (mkF m 35 #[.val (.ref a1), .val (.long q2), .second] [(.long w1), (.long (9223372036854775807 : Int64)), (.long q2)])) t
      refine XT.lsub X14.here hx rfl (hb hby d4_35) rfl ?_
      show Steps p.tables e below (T14.setTop (mkF m 36 #[.val (.ref a1), .val (.long q2), .second] [(.long ((9223372036854775807 : Int64) - w1)), (.long q2)])) t
      refine XS.aloadN X14.here hx rfl (hb hby d4_36) rfl rfl ?_
      show Steps p.tables e below (T14.setTop (mkF m 37 #[.val (.ref a1), .val (.long q2), .second] [(.ref a1), (.long ((9223372036854775807 : Int64) - w1)), (.long q2)])) t
      exact k)
    obtain ⟨T17, X17, eh17, st17⟩ := getF X14 hx hZ hown (host := "") (Or.inl (hw _ (List.mem_of_getElem? (i := 29) rfl))) Via.refl eh14 F_pending_a1 (g := (mkF m 37 #[.val (.ref a1), .val (.long q2), .second] [(.ref a1), (.long ((9223372036854775807 : Int64) - w1)), (.long q2)])) rfl rfl (hb hby d4_37)
    have pre18 : ∀ t, Steps p.tables e below (T17.setTop (mkF m 40 #[.val (.ref a1), .val (.long q2), .second] [(.long w3), (.long ((9223372036854775807 : Int64) - w1)), (.long q2)])) t → Steps p.tables e below (s₁.setTop (entryFrame m #[(.ref a1), (.long q2)] 3)) t := fun t k => pre16 t (st17 _ k)
    have pre20 : ∀ t, Steps p.tables e below (T17.setTop (mkF m 42 #[.val (.ref a1), .val (.long q2), .second] [(.int (XT.cmpL q2 (((9223372036854775807 : Int64) - w1) - w3)))])) t → Steps p.tables e below (s₁.setTop (entryFrame m #[(.ref a1), (.long q2)] 3)) t := fun t k => pre18 t (by
      show Steps p.tables e below (T17.setTop (mkF m 40 #[.val (.ref a1), .val (.long q2), .second] [(.long w3), (.long ((9223372036854775807 : Int64) - w1)), (.long q2)])) t
      refine XT.lsub X17.here hx rfl (hb hby d4_40) rfl ?_
      show Steps p.tables e below (T17.setTop (mkF m 41 #[.val (.ref a1), .val (.long q2), .second] [(.long (((9223372036854775807 : Int64) - w1) - w3)), (.long q2)])) t
      refine XT.lcmp X17.here hx rfl (hb hby d4_41) rfl ?_
      show Steps p.tables e below (T17.setTop (mkF m 42 #[.val (.ref a1), .val (.long q2), .second] [(.int (XT.cmpL q2 (((9223372036854775807 : Int64) - w1) - w3)))])) t
      exact k)
    by_cases hc42_19 : (((9223372036854775807 : Int64) - w1) - w3) < q2
    · skip
      have pre21 : ∀ t, Steps p.tables e below (T17.setTop (mkF m 50 #[.val (.ref a1), .val (.long q2), .second] [(.int (0 : Int32))])) t → Steps p.tables e below (s₁.setTop (entryFrame m #[(.ref a1), (.long q2)] 3)) t := fun t k => pre20 t (by
        show Steps p.tables e below (T17.setTop (mkF m 42 #[.val (.ref a1), .val (.long q2), .second] [(.int (XT.cmpL q2 (((9223372036854775807 : Int64) - w1) - w3)))])) t
        refine XS.ifYes X17.here hx rfl (pc0 := 42) (pc' := 49) rfl (hb hby d4_42) rfl (XT.ll_gt_t hc42_19) (by decide) (by decide) ?_
        show Steps p.tables e below (T17.setTop (mkF m 49 #[.val (.ref a1), .val (.long q2), .second] [])) t
        refine XS.iconst X17.here hx rfl (hb hby d4_49) ?_
        show Steps p.tables e below (T17.setTop (mkF m 50 #[.val (.ref a1), .val (.long q2), .second] [(.int (0 : Int32))])) t
        exact k)
      obtain ⟨fs, hr, hrun, hended, hW, hsame⟩ := X17.leave (v := some (.int (0 : Int32))) (fun h => by rw [Bd.returns] at h; cases h)
      refine ⟨_, _, pre21 _ ?_, hrun, hended, _, _, rfl, ?_, ⟨_, rfl⟩, hW, hsame.mono (by decide) (by decide)⟩
      · show Steps p.tables e below (T17.setTop (mkF m 50 #[.val (.ref a1), .val (.long q2), .second] [(.int (0 : Int32))])) _
        exact retN X17 hx (t := .boolean) Bd.returns (by simp) (hb hby d4_50) hr
      · show Q4 Z a1 q2 w0 w1 w2 w3 h0 n0 _ T17.heap _
        rw [eh17]
        exact ⟨(congrArg (fun z => some (Value.int z)) (show (0 : Int32) = (own_can w1 w2 w3 q2) from (by simp only [own_can, if_neg hc3_1, if_pos hc42_19]))), N0, rfl⟩
    · skip
      have pre22 : ∀ t, Steps p.tables e below (T17.setTop (mkF m 50 #[.val (.ref a1), .val (.long q2), .second] [(.int (1 : Int32))])) t → Steps p.tables e below (s₁.setTop (entryFrame m #[(.ref a1), (.long q2)] 3)) t := fun t k => pre20 t (by
        show Steps p.tables e below (T17.setTop (mkF m 42 #[.val (.ref a1), .val (.long q2), .second] [(.int (XT.cmpL q2 (((9223372036854775807 : Int64) - w1) - w3)))])) t
        refine XS.ifNo X17.here hx rfl (hb hby d4_42) rfl (XT.ll_gt_f hc42_19) ?_
        show Steps p.tables e below (T17.setTop (mkF m 45 #[.val (.ref a1), .val (.long q2), .second] [])) t
        refine XS.iconst X17.here hx rfl (hb hby d4_45) ?_
        show Steps p.tables e below (T17.setTop (mkF m 46 #[.val (.ref a1), .val (.long q2), .second] [(.int (1 : Int32))])) t
        refine XS.goto X17.here hx rfl (pc0 := 46) (pc' := 50) rfl (hb hby d4_46) (by decide) (by decide) ?_
        show Steps p.tables e below (T17.setTop (mkF m 50 #[.val (.ref a1), .val (.long q2), .second] [(.int (1 : Int32))])) t
        exact k)
      obtain ⟨fs, hr, hrun, hended, hW, hsame⟩ := X17.leave (v := some (.int (1 : Int32))) (fun h => by rw [Bd.returns] at h; cases h)
      refine ⟨_, _, pre22 _ ?_, hrun, hended, _, _, rfl, ?_, ⟨_, rfl⟩, hW, hsame.mono (by decide) (by decide)⟩
      · show Steps p.tables e below (T17.setTop (mkF m 50 #[.val (.ref a1), .val (.long q2), .second] [(.int (1 : Int32))])) _
        exact retN X17 hx (t := .boolean) Bd.returns (by simp) (hb hby d4_50) hr
      · show Q4 Z a1 q2 w0 w1 w2 w3 h0 n0 _ T17.heap _
        rw [eh17]
        exact ⟨(congrArg (fun z => some (Value.int z)) (show (1 : Int32) = (own_can w1 w2 w3 q2) from (by simp only [own_can, if_neg hc3_1, if_neg hc42_19]))), N0, rfl⟩
theorem ef_5 (m : MethodId) (a1 : Addr) (q2 : Int64) : entryFrame m #[(.ref a1), (.long q2)] 3 = mkF m 0 #[.val (.ref a1), .val (.long q2), .second] [] := by first | (simp [entryFrame, mkF, argsToLocals, Value.category]; done) | rfl
theorem d5_0 : decode prog_17_method_3_code 0 = .ok (.lload_n 1, 1) := by decide +kernel
theorem d5_1 : decode prog_17_method_3_code 1 = .ok (.lconst 0, 1) := by decide +kernel
theorem d5_2 : decode prog_17_method_3_code 2 = .ok (.lcmp, 1) := by decide +kernel
theorem d5_3 : decode prog_17_method_3_code 3 = .ok (.ifCond .ge 29, 3) := by decide +kernel
theorem d5_6 : decode prog_17_method_3_code 6 = .ok (.new 8, 3) := by decide +kernel
theorem d5_9 : decode prog_17_method_3_code 9 = .ok (.dup, 1) := by decide +kernel
theorem d5_10 : decode prog_17_method_3_code 10 = .ok (.aload_n 0, 1) := by decide +kernel
theorem d5_11 : decode prog_17_method_3_code 11 = .ok (.getfield 7, 3) := by decide +kernel
theorem d5_14 : decode prog_17_method_3_code 14 = .ok (.aload_n 0, 1) := by decide +kernel
theorem d5_15 : decode prog_17_method_3_code 15 = .ok (.getfield 13, 3) := by decide +kernel
theorem d5_18 : decode prog_17_method_3_code 18 = .ok (.aload_n 0, 1) := by decide +kernel
theorem d5_19 : decode prog_17_method_3_code 19 = .ok (.getfield 17, 3) := by decide +kernel
theorem d5_22 : decode prog_17_method_3_code 22 = .ok (.lload_n 1, 1) := by decide +kernel
theorem d5_23 : decode prog_17_method_3_code 23 = .ok (.lsub, 1) := by decide +kernel
theorem d5_24 : decode prog_17_method_3_code 24 = .ok (.aload_n 0, 1) := by decide +kernel
theorem d5_25 : decode prog_17_method_3_code 25 = .ok (.getfield 20, 3) := by decide +kernel
theorem d5_28 : decode prog_17_method_3_code 28 = .ok (.invokespecial 27, 3) := by decide +kernel
theorem pd_oLjava_lang_String_JJJcV : parseMethodDescriptor "(Ljava/lang/String;JJJ)V" = some ⟨[(.object "java/lang/String"), .long, .long, .long], none⟩ := by decide +kernel
theorem d5_31 : decode prog_17_method_3_code 31 = .ok (.areturn, 1) := by decide +kernel
theorem d5_32 : decode prog_17_method_3_code 32 = .ok (.new 8, 3) := by decide +kernel
theorem d5_35 : decode prog_17_method_3_code 35 = .ok (.dup, 1) := by decide +kernel
theorem d5_36 : decode prog_17_method_3_code 36 = .ok (.aload_n 0, 1) := by decide +kernel
theorem d5_37 : decode prog_17_method_3_code 37 = .ok (.getfield 7, 3) := by decide +kernel
theorem d5_40 : decode prog_17_method_3_code 40 = .ok (.aload_n 0, 1) := by decide +kernel
theorem d5_41 : decode prog_17_method_3_code 41 = .ok (.getfield 13, 3) := by decide +kernel
theorem d5_44 : decode prog_17_method_3_code 44 = .ok (.aload_n 0, 1) := by decide +kernel
theorem d5_45 : decode prog_17_method_3_code 45 = .ok (.getfield 17, 3) := by decide +kernel
theorem d5_48 : decode prog_17_method_3_code 48 = .ok (.aload_n 0, 1) := by decide +kernel
theorem d5_49 : decode prog_17_method_3_code 49 = .ok (.getfield 20, 3) := by decide +kernel
theorem d5_52 : decode prog_17_method_3_code 52 = .ok (.lload_n 1, 1) := by decide +kernel
theorem d5_53 : decode prog_17_method_3_code 53 = .ok (.ladd, 1) := by decide +kernel
theorem d5_54 : decode prog_17_method_3_code 54 = .ok (.invokespecial 27, 3) := by decide +kernel
theorem d5_57 : decode prog_17_method_3_code 57 = .ok (.areturn, 1) := by decide +kernel
def Q5 (Z : State) (a1 : Addr) (q2 : Int64) (w0 : Addr) (w1 : Int64) (w2 : Int64) (w3 : Int64) (h0 : Heap) (n0 : Nat) (v : Option Value) (h : Heap) (L : List Loc) : Prop := ∃ bb : Addr, v = some (.ref bb) ∧ Fr n0 L ∧ Keep h0 h [] ∧ h0.size ≤ bb ∧ Exa Z h bb "com/example/pledgeway/pledgeway/demo/ledger/Account" ∧ Fld Z h bb "com/example/pledgeway/pledgeway/demo/ledger/Account" "balance" "J" (.long w1) ∧ Fld Z h bb "com/example/pledgeway/pledgeway/demo/ledger/Account" "held" "J" (.long (own_hd w2 q2)) ∧ Fld Z h bb "com/example/pledgeway/pledgeway/demo/ledger/Account" "pending" "J" (.long (own_pd w3 q2))
set_option maxRecDepth 65536 in
set_option maxHeartbeats 40000000 in
theorem rm5 (l : Launch) (Z : State) (a0 : Array Value) (hw : ∀ d ∈ tables_1, d.before a0 Z = true) (ws : List Jvm.Cond) (a1 : Addr) (q2 : Int64) (w0 : Addr) (w1 : Int64) (w2 : Int64) (w3 : Int64) (h0 : Heap) (n0 : Nat) (Z0 : n0 ≤ h0.size) (F_name_a1 : Fld Z h0 a1 "com/example/pledgeway/pledgeway/demo/ledger/Account" "name" "Ljava/lang/String;" (.ref w0)) (F_balance_a1 : Fld Z h0 a1 "com/example/pledgeway/pledgeway/demo/ledger/Account" "balance" "J" (.long w1)) (F_held_a1 : Fld Z h0 a1 "com/example/pledgeway/pledgeway/demo/ledger/Account" "held" "J" (.long w2)) (F_pending_a1 : Fld Z h0 a1 "com/example/pledgeway/pledgeway/demo/ledger/Account" "pending" "J" (.long w3)) :
    MetFree l (⟨"com/example/pledgeway/pledgeway/demo/ledger/Account", "reserve", "(J)Lcom/example/pledgeway/pledgeway/demo/ledger/Account;"⟩ : MethodName) (head1 (Jvm.Cond.code (⟨"com/example/pledgeway/pledgeway/demo/ledger/Account", "reserve", "(J)Lcom/example/pledgeway/pledgeway/demo/ledger/Account;"⟩ : MethodName) prog_17_method_3_code 3 (some (.object "com/example/pledgeway/pledgeway/demo/ledger/Account")) :: ws) ({ frames := 3, cells := 1, slots := 4, locals := 44 } : Room)) (fun a U => a = #[(.ref a1), (.long q2)] ∧ Z.Warmed39 U.vm ∧ U.heap = h0) (fun _ _ _ _ _ => True) (fun _ U o U' => ∃ v L, o = .returned v ∧ Q5 Z a1 q2 w0 w1 w2 w3 h0 n0 v U'.heap L ∧ FrameEnd U o U' L ({ frames := 3, cells := 1, slots := 4, locals := 44 } : Room).cells ({ frames := 3, cells := 1, slots := 4, locals := 44 } : Room).slots) := by
  refine MetFree.of_bodySF (plainFor_of_name pn_com_example_pledgeway_pledgeway_demo_ledger_Account) hisR ?_
  intro p e s m args below meth c s₁ Bd hml0 hP hK
  obtain ⟨rfl, hZ, hh⟩ := hP
  have hx := Bd.exec
  have hby := Bd.bytes
  have hml : c.maxLocals = 3 := hml0
  have hown : s.vm.findClass "com/example/pledgeway/pledgeway/demo/ledger/Account" = some m.cls := findClass_of_methodNamed Bd.named
  have hnm := (name_of_methodNamed Bd.named Bd.method).1
  have X0 : Stand p l e ({ frames := 3, cells := 1, slots := 4, locals := 44 } : Room) s m #[(.ref a1), (.long q2)] below meth c s₁ [] 0 0 := Stand.of_body Bd
  have eh0 : s₁.heap = h0 := by rw [← hh, Bd.state]; rfl
  have N0 := Fr.nil n0
  have pre0 : ∀ t, Steps p.tables e below (s₁.setTop (mkF m 0 #[.val (.ref a1), .val (.long q2), .second] [])) t → Steps p.tables e below (s₁.setTop (entryFrame m #[(.ref a1), (.long q2)] 3)) t := fun t k => castTop (ef_5 m a1 q2) k
  have K0 : Keep h0 h0 [] := Keep.refl _ _
  have pre2 : ∀ t, Steps p.tables e below (s₁.setTop (mkF m 3 #[.val (.ref a1), .val (.long q2), .second] [(.int (XT.cmpL q2 (0 : Int64)))])) t → Steps p.tables e below (s₁.setTop (entryFrame m #[(.ref a1), (.long q2)] 3)) t := fun t k => pre0 t (by
    show Steps p.tables e below (s₁.setTop (mkF m 0 #[.val (.ref a1), .val (.long q2), .second] [])) t
    refine XT.lloadN X0.here hx rfl (hb hby d5_0) rfl ?_
    show Steps p.tables e below (s₁.setTop (mkF m 1 #[.val (.ref a1), .val (.long q2), .second] [(.long q2)])) t
    refine XT.lconstV X0.here hx rfl (0 : Int64) (hb hby d5_1) (by decide) ?_
    show Steps p.tables e below (s₁.setTop (mkF m 2 #[.val (.ref a1), .val (.long q2), .second] [(.long (0 : Int64)), (.long q2)])) t
    refine XT.lcmp X0.here hx rfl (hb hby d5_2) rfl ?_
    show Steps p.tables e below (s₁.setTop (mkF m 3 #[.val (.ref a1), .val (.long q2), .second] [(.int (XT.cmpL q2 (0 : Int64)))])) t
    exact k)
  by_cases hc3_1 : q2 < (0 : Int64)
  · skip
    have pre3 : ∀ t, Steps p.tables e below (s₁.setTop (mkF m 6 #[.val (.ref a1), .val (.long q2), .second] [])) t → Steps p.tables e below (s₁.setTop (entryFrame m #[(.ref a1), (.long q2)] 3)) t := fun t k => pre2 t (by
      show Steps p.tables e below (s₁.setTop (mkF m 3 #[.val (.ref a1), .val (.long q2), .second] [(.int (XT.cmpL q2 (0 : Int64)))])) t
      refine XS.ifNo X0.here hx rfl (hb hby d5_3) rfl (XT.ll_ge_f hc3_1) ?_
      show Steps p.tables e below (s₁.setTop (mkF m 6 #[.val (.ref a1), .val (.long q2), .second] [])) t
      exact k)
    obtain ⟨T4, h4, X4, eh4, E4, A4, D4, -, st4⟩ := newO X0 hx hZ hown (hw _ (List.mem_of_getElem? (i := 42) rfl)) (hw _ (List.mem_of_getElem? (i := 2) rfl)) (hw _ (List.mem_of_getElem? (i := 3) rfl)) eh0 (g := (mkF m 6 #[.val (.ref a1), .val (.long q2), .second] [])) rfl (hb hby d5_6) (by decide) (by decide)
    obtain ⟨b4, gg4⟩ : ∃ z, z = h0.size := ⟨_, rfl⟩
    rw [← gg4] at A4 D4 st4
    have F_name_a1__4 : Fld Z h4 a1 "com/example/pledgeway/pledgeway/demo/ledger/Account" "name" "Ljava/lang/String;" (.ref w0) := F_name_a1.ext E4
    have F_balance_a1__4 : Fld Z h4 a1 "com/example/pledgeway/pledgeway/demo/ledger/Account" "balance" "J" (.long w1) := F_balance_a1.ext E4
    have F_held_a1__4 : Fld Z h4 a1 "com/example/pledgeway/pledgeway/demo/ledger/Account" "held" "J" (.long w2) := F_held_a1.ext E4
    have F_pending_a1__4 : Fld Z h4 a1 "com/example/pledgeway/pledgeway/demo/ledger/Account" "pending" "J" (.long w3) := F_pending_a1.ext E4
    have sz4 : n0 ≤ h4.size := Nat.le_trans Z0 E4.1
    have K4 : Keep h0 h4 [] := K0.ext E4
    have g_b4 : n0 ≤ b4 := Nat.le_trans Z0 (Nat.le_of_eq gg4.symm)
    have bo_b4 : h0.size ≤ b4 := Nat.le_trans K0.1 (Nat.le_of_eq gg4.symm)
    have ne_a1_b4 : a1 ≠ b4 := Nat.ne_of_lt (Nat.lt_of_lt_of_le F_name_a1.lt (Nat.le_of_eq gg4.symm))
    have F_name_b4 : Fld Z h4 b4 "com/example/pledgeway/pledgeway/demo/ledger/Account" "name" "Ljava/lang/String;" .null := D4 (Or.inr (hw _ (List.mem_of_getElem? (i := 24) rfl))) (ty := (.object "java/lang/String")) (by decide)
    have F_balance_b4 : Fld Z h4 b4 "com/example/pledgeway/pledgeway/demo/ledger/Account" "balance" "J" (.long (0 : Int64)) := D4 (Or.inr (hw _ (List.mem_of_getElem? (i := 26) rfl))) (ty := .long) (by decide)
    have F_held_b4 : Fld Z h4 b4 "com/example/pledgeway/pledgeway/demo/ledger/Account" "held" "J" (.long (0 : Int64)) := D4 (Or.inr (hw _ (List.mem_of_getElem? (i := 28) rfl))) (ty := .long) (by decide)
    have F_pending_b4 : Fld Z h4 b4 "com/example/pledgeway/pledgeway/demo/ledger/Account" "pending" "J" (.long (0 : Int64)) := D4 (Or.inr (hw _ (List.mem_of_getElem? (i := 30) rfl))) (ty := .long) (by decide)
    have pre5 : ∀ t, Steps p.tables e below (T4.setTop (mkF m 9 #[.val (.ref a1), .val (.long q2), .second] [(.ref b4)])) t → Steps p.tables e below (s₁.setTop (entryFrame m #[(.ref a1), (.long q2)] 3)) t := fun t k => pre3 t (st4 _ k)
    have pre6 : ∀ t, Steps p.tables e below (T4.setTop (mkF m 11 #[.val (.ref a1), .val (.long q2), .second] [(.ref a1), (.ref b4), (.ref b4)])) t → Steps p.tables e below (s₁.setTop (entryFrame m #[(.ref a1), (.long q2)] 3)) t := fun t k => pre5 t (by
      show Steps p.tables e below (T4.setTop (mkF m 9 #[.val (.ref a1), .val (.long q2), .second] [(.ref b4)])) t
      refine XS.dup X4.here hx rfl (hb hby d5_9) rfl rfl ?_
      show Steps p.tables e below (T4.setTop (mkF m 10 #[.val (.ref a1), .val (.long q2), .second] [(.ref b4), (.ref b4)])) t
      refine XS.aloadN X4.here hx rfl (hb hby d5_10) rfl rfl ?_
      show Steps p.tables e below (T4.setTop (mkF m 11 #[.val (.ref a1), .val (.long q2), .second] [(.ref a1), (.ref b4), (.ref b4)])) t
      exact k)
    obtain ⟨T7, X7, eh7, st7⟩ := getF X4 hx hZ hown (host := "") (Or.inl (hw _ (List.mem_of_getElem? (i := 23) rfl))) Via.refl eh4 F_name_a1__4 (g := (mkF m 11 #[.val (.ref a1), .val (.long q2), .second] [(.ref a1), (.ref b4), (.ref b4)])) rfl rfl (hb hby d5_11)
    have pre8 : ∀ t, Steps p.tables e below (T7.setTop (mkF m 14 #[.val (.ref a1), .val (.long q2), .second] [(.ref w0), (.ref b4), (.ref b4)])) t → Steps p.tables e below (s₁.setTop (entryFrame m #[(.ref a1), (.long q2)] 3)) t := fun t k => pre6 t (st7 _ k)
    have pre9 : ∀ t, Steps p.tables e below (T7.setTop (mkF m 15 #[.val (.ref a1), .val (.long q2), .second] [(.ref a1), (.ref w0), (.ref b4), (.ref b4)])) t → Steps p.tables e below (s₁.setTop (entryFrame m #[(.ref a1), (.long q2)] 3)) t := fun t k => pre8 t (by
      show Steps p.tables e below (T7.setTop (mkF m 14 #[.val (.ref a1), .val (.long q2), .second] [(.ref w0), (.ref b4), (.ref b4)])) t
      refine XS.aloadN X7.here hx rfl (hb hby d5_14) rfl rfl ?_
      show Steps p.tables e below (T7.setTop (mkF m 15 #[.val (.ref a1), .val (.long q2), .second] [(.ref a1), (.ref w0), (.ref b4), (.ref b4)])) t
      exact k)
    obtain ⟨T10, X10, eh10, st10⟩ := getF X7 hx hZ hown (host := "") (Or.inl (hw _ (List.mem_of_getElem? (i := 25) rfl))) Via.refl eh7 F_balance_a1__4 (g := (mkF m 15 #[.val (.ref a1), .val (.long q2), .second] [(.ref a1), (.ref w0), (.ref b4), (.ref b4)])) rfl rfl (hb hby d5_15)
    have pre11 : ∀ t, Steps p.tables e below (T10.setTop (mkF m 18 #[.val (.ref a1), .val (.long q2), .second] [(.long w1), (.ref w0), (.ref b4), (.ref b4)])) t → Steps p.tables e below (s₁.setTop (entryFrame m #[(.ref a1), (.long q2)] 3)) t := fun t k => pre9 t (st10 _ k)
    have pre12 : ∀ t, Steps p.tables e below (T10.setTop (mkF m 19 #[.val (.ref a1), .val (.long q2), .second] [(.ref a1), (.long w1), (.ref w0), (.ref b4), (.ref b4)])) t → Steps p.tables e below (s₁.setTop (entryFrame m #[(.ref a1), (.long q2)] 3)) t := fun t k => pre11 t (by
      show Steps p.tables e below (T10.setTop (mkF m 18 #[.val (.ref a1), .val (.long q2), .second] [(.long w1), (.ref w0), (.ref b4), (.ref b4)])) t
      refine XS.aloadN X10.here hx rfl (hb hby d5_18) rfl rfl ?_
      show Steps p.tables e below (T10.setTop (mkF m 19 #[.val (.ref a1), .val (.long q2), .second] [(.ref a1), (.long w1), (.ref w0), (.ref b4), (.ref b4)])) t
      exact k)
    obtain ⟨T13, X13, eh13, st13⟩ := getF X10 hx hZ hown (host := "") (Or.inl (hw _ (List.mem_of_getElem? (i := 27) rfl))) Via.refl eh10 F_held_a1__4 (g := (mkF m 19 #[.val (.ref a1), .val (.long q2), .second] [(.ref a1), (.long w1), (.ref w0), (.ref b4), (.ref b4)])) rfl rfl (hb hby d5_19)
    have pre14 : ∀ t, Steps p.tables e below (T13.setTop (mkF m 22 #[.val (.ref a1), .val (.long q2), .second] [(.long w2), (.long w1), (.ref w0), (.ref b4), (.ref b4)])) t → Steps p.tables e below (s₁.setTop (entryFrame m #[(.ref a1), (.long q2)] 3)) t := fun t k => pre12 t (st13 _ k)
    have pre15 : ∀ t, Steps p.tables e below (T13.setTop (mkF m 25 #[.val (.ref a1), .val (.long q2), .second] [(.ref a1), (.long (w2 - q2)), (.long w1), (.ref w0), (.ref b4), (.ref b4)])) t → Steps p.tables e below (s₁.setTop (entryFrame m #[(.ref a1), (.long q2)] 3)) t := fun t k => pre14 t (by
      show Steps p.tables e below (T13.setTop (mkF m 22 #[.val (.ref a1), .val (.long q2), .second] [(.long w2), (.long w1), (.ref w0), (.ref b4), (.ref b4)])) t
      refine XT.lloadN X13.here hx rfl (hb hby d5_22) rfl ?_
      show Steps p.tables e below (T13.setTop (mkF m 23 #[.val (.ref a1), .val (.long q2), .second] [(.long q2), (.long w2), (.long w1), (.ref w0), (.ref b4), (.ref b4)])) t
      refine XT.lsub X13.here hx rfl (hb hby d5_23) rfl ?_
      show Steps p.tables e below (T13.setTop (mkF m 24 #[.val (.ref a1), .val (.long q2), .second] [(.long (w2 - q2)), (.long w1), (.ref w0), (.ref b4), (.ref b4)])) t
      refine XS.aloadN X13.here hx rfl (hb hby d5_24) rfl rfl ?_
      show Steps p.tables e below (T13.setTop (mkF m 25 #[.val (.ref a1), .val (.long q2), .second] [(.ref a1), (.long (w2 - q2)), (.long w1), (.ref w0), (.ref b4), (.ref b4)])) t
      exact k)
    obtain ⟨T16, X16, eh16, st16⟩ := getF X13 hx hZ hown (host := "") (Or.inl (hw _ (List.mem_of_getElem? (i := 29) rfl))) Via.refl eh13 F_pending_a1__4 (g := (mkF m 25 #[.val (.ref a1), .val (.long q2), .second] [(.ref a1), (.long (w2 - q2)), (.long w1), (.ref w0), (.ref b4), (.ref b4)])) rfl rfl (hb hby d5_25)
    have pre17 : ∀ t, Steps p.tables e below (T16.setTop (mkF m 28 #[.val (.ref a1), .val (.long q2), .second] [(.long w3), (.long (w2 - q2)), (.long w1), (.ref w0), (.ref b4), (.ref b4)])) t → Steps p.tables e below (s₁.setTop (entryFrame m #[(.ref a1), (.long q2)] 3)) t := fun t k => pre15 t (st16 _ k)
    obtain ⟨_, _, ⟨T18, L18, k18, n18⟩, -, X18, ⟨Lc18, hQ18, l18, y18, z18⟩, st18⟩ := X16.specialBack hx (y := (⟨"com/example/pledgeway/pledgeway/demo/ledger/Account", "<init>", "(Ljava/lang/String;JJJ)V"⟩ : MethodName)) rfl hown (mvT hZ (hw _ (List.mem_of_getElem? (i := 43) rfl))) (mvT hZ (hw _ (List.mem_of_getElem? (i := 13) rfl))) (mvT hZ (hw _ (List.mem_of_getElem? (i := 14) rfl))) (by decide) (backOf (W := 1) (rm1 l Z a0 hw [] b4 w0 w1 (w2 - q2) w3 .null (.long (0 : Int64)) (.long (0 : Int64)) (.long (0 : Int64)) h4 n0 sz4 A4 F_name_b4 F_balance_b4 F_held_b4 F_pending_b4 g_b4) hZ (hw _ (List.mem_of_getElem? (i := 14) rfl)) (hw _ (List.mem_of_getElem? (i := 3) rfl)) (by decide) (by decide)) (g := (mkF m 28 #[.val (.ref a1), .val (.long q2), .second] [(.long w3), (.long (w2 - q2)), (.long w1), (.ref w0), (.ref b4), (.ref b4)])) rfl (by rw [hml]; rfl) (Steps.refl _) (a := b4) (argsL := [(.ref w0), (.long w1), (.long (w2 - q2)), (.long w3)]) (rest := [(.ref b4)]) (lenOf pd_oLjava_lang_String_JJJcV rfl) rfl (by show 2 * 0 + _ ≤ _; exact Nat.le_of_eq rfl) (hb hby d5_28) (fun _ _ => ⟨rfl, eh16, (by decide : 1 + 0 ≤ _), (by decide : 4 + 0 ≤ _)⟩)
    dsimp only [Pt.U, Pt.locs, Pt.cells, Pt.slots] at X18 l18 y18 z18 st18 hQ18
    subst l18 y18 z18
    obtain ⟨rfl, N18q, Kq18, P18_1, P18_2, P18_3, P18_4, P18_5⟩ := hQ18
    have F_name_a1__18 : Fld Z T18.heap a1 "com/example/pledgeway/pledgeway/demo/ledger/Account" "name" "Ljava/lang/String;" (.ref w0) := F_name_a1__4.keep Kq18 (ninS ne_a1_b4 nin0)
    have F_balance_a1__18 : Fld Z T18.heap a1 "com/example/pledgeway/pledgeway/demo/ledger/Account" "balance" "J" (.long w1) := F_balance_a1__4.keep Kq18 (ninS ne_a1_b4 nin0)
    have F_held_a1__18 : Fld Z T18.heap a1 "com/example/pledgeway/pledgeway/demo/ledger/Account" "held" "J" (.long w2) := F_held_a1__4.keep Kq18 (ninS ne_a1_b4 nin0)
    have F_pending_a1__18 : Fld Z T18.heap a1 "com/example/pledgeway/pledgeway/demo/ledger/Account" "pending" "J" (.long w3) := F_pending_a1__4.keep Kq18 (ninS ne_a1_b4 nin0)
    have sz18 : n0 ≤ T18.heap.size := Nat.le_trans sz4 Kq18.1
    have K18 : Keep h0 T18.heap [] := K4.trans Kq18 (allS (Or.inr bo_b4) all0)
    have N18 := Fr.app N0 N18q
    have pre19 : ∀ t, Steps p.tables e below (T18.setTop (mkF m 31 #[.val (.ref a1), .val (.long q2), .second] [(.ref b4)])) t → Steps p.tables e below (s₁.setTop (entryFrame m #[(.ref a1), (.long q2)] 3)) t := fun t k => pre17 t (st18.trans k)
    obtain ⟨fs, hr, hrun, hended, hW, hsame⟩ := X18.leave (v := some (.ref b4)) (fun h => by rw [Bd.returns] at h; cases h)
    refine ⟨_, _, pre19 _ ?_, hrun, hended, _, _, rfl, ?_, ⟨_, rfl⟩, hW, hsame.mono (by decide) (by decide)⟩
    · show Steps p.tables e below (T18.setTop (mkF m 31 #[.val (.ref a1), .val (.long q2), .second] [(.ref b4)])) _
      jvm_step X18.here [X18.here.top, hx, (hb hby d5_31), X18.method', Bd.returns, Value.isRef, FieldType.isReference]
      first | (intro acts; rw [hr _ acts rfl rfl rfl]) | rw [hr _ _ rfl rfl rfl]
      exact Steps.refl _
    · show Q5 Z a1 q2 w0 w1 w2 w3 h0 n0 _ T18.heap _
      exact ⟨b4, rfl, N18, K18, bo_b4, P18_1, P18_3, (by rw [own_hd, if_pos hc3_1]; exact P18_4), (by rw [own_pd, if_pos hc3_1]; exact P18_5)⟩
  · skip
    have pre20 : ∀ t, Steps p.tables e below (s₁.setTop (mkF m 32 #[.val (.ref a1), .val (.long q2), .second] [])) t → Steps p.tables e below (s₁.setTop (entryFrame m #[(.ref a1), (.long q2)] 3)) t := fun t k => pre2 t (by
      show Steps p.tables e below (s₁.setTop (mkF m 3 #[.val (.ref a1), .val (.long q2), .second] [(.int (XT.cmpL q2 (0 : Int64)))])) t
      refine XS.ifYes X0.here hx rfl (pc0 := 3) (pc' := 32) rfl (hb hby d5_3) rfl (XT.ll_ge_t hc3_1) (by decide) (by decide) ?_
      show Steps p.tables e below (s₁.setTop (mkF m 32 #[.val (.ref a1), .val (.long q2), .second] [])) t
      exact k)
    obtain ⟨T21, h21, X21, eh21, E21, A21, D21, -, st21⟩ := newO X0 hx hZ hown (hw _ (List.mem_of_getElem? (i := 42) rfl)) (hw _ (List.mem_of_getElem? (i := 2) rfl)) (hw _ (List.mem_of_getElem? (i := 3) rfl)) eh0 (g := (mkF m 32 #[.val (.ref a1), .val (.long q2), .second] [])) rfl (hb hby d5_32) (by decide) (by decide)
    obtain ⟨b21, gg21⟩ : ∃ z, z = h0.size := ⟨_, rfl⟩
    rw [← gg21] at A21 D21 st21
    have F_name_a1__21 : Fld Z h21 a1 "com/example/pledgeway/pledgeway/demo/ledger/Account" "name" "Ljava/lang/String;" (.ref w0) := F_name_a1.ext E21
    have F_balance_a1__21 : Fld Z h21 a1 "com/example/pledgeway/pledgeway/demo/ledger/Account" "balance" "J" (.long w1) := F_balance_a1.ext E21
    have F_held_a1__21 : Fld Z h21 a1 "com/example/pledgeway/pledgeway/demo/ledger/Account" "held" "J" (.long w2) := F_held_a1.ext E21
    have F_pending_a1__21 : Fld Z h21 a1 "com/example/pledgeway/pledgeway/demo/ledger/Account" "pending" "J" (.long w3) := F_pending_a1.ext E21
    have sz21 : n0 ≤ h21.size := Nat.le_trans Z0 E21.1
    have K21 : Keep h0 h21 [] := K0.ext E21
    have g_b21 : n0 ≤ b21 := Nat.le_trans Z0 (Nat.le_of_eq gg21.symm)
    have bo_b21 : h0.size ≤ b21 := Nat.le_trans K0.1 (Nat.le_of_eq gg21.symm)
    have ne_a1_b21 : a1 ≠ b21 := Nat.ne_of_lt (Nat.lt_of_lt_of_le F_name_a1.lt (Nat.le_of_eq gg21.symm))
    have F_name_b21 : Fld Z h21 b21 "com/example/pledgeway/pledgeway/demo/ledger/Account" "name" "Ljava/lang/String;" .null := D21 (Or.inr (hw _ (List.mem_of_getElem? (i := 24) rfl))) (ty := (.object "java/lang/String")) (by decide)
    have F_balance_b21 : Fld Z h21 b21 "com/example/pledgeway/pledgeway/demo/ledger/Account" "balance" "J" (.long (0 : Int64)) := D21 (Or.inr (hw _ (List.mem_of_getElem? (i := 26) rfl))) (ty := .long) (by decide)
    have F_held_b21 : Fld Z h21 b21 "com/example/pledgeway/pledgeway/demo/ledger/Account" "held" "J" (.long (0 : Int64)) := D21 (Or.inr (hw _ (List.mem_of_getElem? (i := 28) rfl))) (ty := .long) (by decide)
    have F_pending_b21 : Fld Z h21 b21 "com/example/pledgeway/pledgeway/demo/ledger/Account" "pending" "J" (.long (0 : Int64)) := D21 (Or.inr (hw _ (List.mem_of_getElem? (i := 30) rfl))) (ty := .long) (by decide)
    have pre22 : ∀ t, Steps p.tables e below (T21.setTop (mkF m 35 #[.val (.ref a1), .val (.long q2), .second] [(.ref b21)])) t → Steps p.tables e below (s₁.setTop (entryFrame m #[(.ref a1), (.long q2)] 3)) t := fun t k => pre20 t (st21 _ k)
    have pre23 : ∀ t, Steps p.tables e below (T21.setTop (mkF m 37 #[.val (.ref a1), .val (.long q2), .second] [(.ref a1), (.ref b21), (.ref b21)])) t → Steps p.tables e below (s₁.setTop (entryFrame m #[(.ref a1), (.long q2)] 3)) t := fun t k => pre22 t (by
      show Steps p.tables e below (T21.setTop (mkF m 35 #[.val (.ref a1), .val (.long q2), .second] [(.ref b21)])) t
      refine XS.dup X21.here hx rfl (hb hby d5_35) rfl rfl ?_
      show Steps p.tables e below (T21.setTop (mkF m 36 #[.val (.ref a1), .val (.long q2), .second] [(.ref b21), (.ref b21)])) t
      refine XS.aloadN X21.here hx rfl (hb hby d5_36) rfl rfl ?_
      show Steps p.tables e below (T21.setTop (mkF m 37 #[.val (.ref a1), .val (.long q2), .second] [(.ref a1), (.ref b21), (.ref b21)])) t
      exact k)
    obtain ⟨T24, X24, eh24, st24⟩ := getF X21 hx hZ hown (host := "") (Or.inl (hw _ (List.mem_of_getElem? (i := 23) rfl))) Via.refl eh21 F_name_a1__21 (g := (mkF m 37 #[.val (.ref a1), .val (.long q2), .second] [(.ref a1), (.ref b21), (.ref b21)])) rfl rfl (hb hby d5_37)
    have pre25 : ∀ t, Steps p.tables e below (T24.setTop (mkF m 40 #[.val (.ref a1), .val (.long q2), .second] [(.ref w0), (.ref b21), (.ref b21)])) t → Steps p.tables e below (s₁.setTop (entryFrame m #[(.ref a1), (.long q2)] 3)) t := fun t k => pre23 t (st24 _ k)
    have pre26 : ∀ t, Steps p.tables e below (T24.setTop (mkF m 41 #[.val (.ref a1), .val (.long q2), .second] [(.ref a1), (.ref w0), (.ref b21), (.ref b21)])) t → Steps p.tables e below (s₁.setTop (entryFrame m #[(.ref a1), (.long q2)] 3)) t := fun t k => pre25 t (by
      show Steps p.tables e below (T24.setTop (mkF m 40 #[.val (.ref a1), .val (.long q2), .second] [(.ref w0), (.ref b21), (.ref b21)])) t
      refine XS.aloadN X24.here hx rfl (hb hby d5_40) rfl rfl ?_
      show Steps p.tables e below (T24.setTop (mkF m 41 #[.val (.ref a1), .val (.long q2), .second] [(.ref a1), (.ref w0), (.ref b21), (.ref b21)])) t
      exact k)
    obtain ⟨T27, X27, eh27, st27⟩ := getF X24 hx hZ hown (host := "") (Or.inl (hw _ (List.mem_of_getElem? (i := 25) rfl))) Via.refl eh24 F_balance_a1__21 (g := (mkF m 41 #[.val (.ref a1), .val (.long q2), .second] [(.ref a1), (.ref w0), (.ref b21), (.ref b21)])) rfl rfl (hb hby d5_41)
    have pre28 : ∀ t, Steps p.tables e below (T27.setTop (mkF m 44 #[.val (.ref a1), .val (.long q2), .second] [(.long w1), (.ref w0), (.ref b21), (.ref b21)])) t → Steps p.tables e below (s₁.setTop (entryFrame m #[(.ref a1), (.long q2)] 3)) t := fun t k => pre26 t (st27 _ k)
    have pre29 : ∀ t, Steps p.tables e below (T27.setTop (mkF m 45 #[.val (.ref a1), .val (.long q2), .second] [(.ref a1), (.long w1), (.ref w0), (.ref b21), (.ref b21)])) t → Steps p.tables e below (s₁.setTop (entryFrame m #[(.ref a1), (.long q2)] 3)) t := fun t k => pre28 t (by
      show Steps p.tables e below (T27.setTop (mkF m 44 #[.val (.ref a1), .val (.long q2), .second] [(.long w1), (.ref w0), (.ref b21), (.ref b21)])) t
      refine XS.aloadN X27.here hx rfl (hb hby d5_44) rfl rfl ?_
      show Steps p.tables e below (T27.setTop (mkF m 45 #[.val (.ref a1), .val (.long q2), .second] [(.ref a1), (.long w1), (.ref w0), (.ref b21), (.ref b21)])) t
      exact k)
    obtain ⟨T30, X30, eh30, st30⟩ := getF X27 hx hZ hown (host := "") (Or.inl (hw _ (List.mem_of_getElem? (i := 27) rfl))) Via.refl eh27 F_held_a1__21 (g := (mkF m 45 #[.val (.ref a1), .val (.long q2), .second] [(.ref a1), (.long w1), (.ref w0), (.ref b21), (.ref b21)])) rfl rfl (hb hby d5_45)
    have pre31 : ∀ t, Steps p.tables e below (T30.setTop (mkF m 48 #[.val (.ref a1), .val (.long q2), .second] [(.long w2), (.long w1), (.ref w0), (.ref b21), (.ref b21)])) t → Steps p.tables e below (s₁.setTop (entryFrame m #[(.ref a1), (.long q2)] 3)) t := fun t k => pre29 t (st30 _ k)
    have pre32 : ∀ t, Steps p.tables e below (T30.setTop (mkF m 49 #[.val (.ref a1), .val (.long q2), .second] [(.ref a1), (.long w2), (.long w1), (.ref w0), (.ref b21), (.ref b21)])) t → Steps p.tables e below (s₁.setTop (entryFrame m #[(.ref a1), (.long q2)] 3)) t := fun t k => pre31 t (by
      show Steps p.tables e below (T30.setTop (mkF m 48 #[.val (.ref a1), .val (.long q2), .second] [(.long w2), (.long w1), (.ref w0), (.ref b21), (.ref b21)])) t
      refine XS.aloadN X30.here hx rfl (hb hby d5_48) rfl rfl ?_
      show Steps p.tables e below (T30.setTop (mkF m 49 #[.val (.ref a1), .val (.long q2), .second] [(.ref a1), (.long w2), (.long w1), (.ref w0), (.ref b21), (.ref b21)])) t
      exact k)
    obtain ⟨T33, X33, eh33, st33⟩ := getF X30 hx hZ hown (host := "") (Or.inl (hw _ (List.mem_of_getElem? (i := 29) rfl))) Via.refl eh30 F_pending_a1__21 (g := (mkF m 49 #[.val (.ref a1), .val (.long q2), .second] [(.ref a1), (.long w2), (.long w1), (.ref w0), (.ref b21), (.ref b21)])) rfl rfl (hb hby d5_49)
    have pre34 : ∀ t, Steps p.tables e below (T33.setTop (mkF m 52 #[.val (.ref a1), .val (.long q2), .second] [(.long w3), (.long w2), (.long w1), (.ref w0), (.ref b21), (.ref b21)])) t → Steps p.tables e below (s₁.setTop (entryFrame m #[(.ref a1), (.long q2)] 3)) t := fun t k => pre32 t (st33 _ k)
    have pre35 : ∀ t, Steps p.tables e below (T33.setTop (mkF m 54 #[.val (.ref a1), .val (.long q2), .second] [(.long (w3 + q2)), (.long w2), (.long w1), (.ref w0), (.ref b21), (.ref b21)])) t → Steps p.tables e below (s₁.setTop (entryFrame m #[(.ref a1), (.long q2)] 3)) t := fun t k => pre34 t (by
      show Steps p.tables e below (T33.setTop (mkF m 52 #[.val (.ref a1), .val (.long q2), .second] [(.long w3), (.long w2), (.long w1), (.ref w0), (.ref b21), (.ref b21)])) t
      refine XT.lloadN X33.here hx rfl (hb hby d5_52) rfl ?_
      show Steps p.tables e below (T33.setTop (mkF m 53 #[.val (.ref a1), .val (.long q2), .second] [(.long q2), (.long w3), (.long w2), (.long w1), (.ref w0), (.ref b21), (.ref b21)])) t
      refine XT.ladd X33.here hx rfl (hb hby d5_53) rfl ?_
      show Steps p.tables e below (T33.setTop (mkF m 54 #[.val (.ref a1), .val (.long q2), .second] [(.long (w3 + q2)), (.long w2), (.long w1), (.ref w0), (.ref b21), (.ref b21)])) t
      exact k)
    obtain ⟨_, _, ⟨T36, L36, k36, n36⟩, -, X36, ⟨Lc36, hQ36, l36, y36, z36⟩, st36⟩ := X33.specialBack hx (y := (⟨"com/example/pledgeway/pledgeway/demo/ledger/Account", "<init>", "(Ljava/lang/String;JJJ)V"⟩ : MethodName)) rfl hown (mvT hZ (hw _ (List.mem_of_getElem? (i := 43) rfl))) (mvT hZ (hw _ (List.mem_of_getElem? (i := 13) rfl))) (mvT hZ (hw _ (List.mem_of_getElem? (i := 14) rfl))) (by decide) (backOf (W := 1) (rm1 l Z a0 hw [] b21 w0 w1 w2 (w3 + q2) .null (.long (0 : Int64)) (.long (0 : Int64)) (.long (0 : Int64)) h21 n0 sz21 A21 F_name_b21 F_balance_b21 F_held_b21 F_pending_b21 g_b21) hZ (hw _ (List.mem_of_getElem? (i := 14) rfl)) (hw _ (List.mem_of_getElem? (i := 3) rfl)) (by decide) (by decide)) (g := (mkF m 54 #[.val (.ref a1), .val (.long q2), .second] [(.long (w3 + q2)), (.long w2), (.long w1), (.ref w0), (.ref b21), (.ref b21)])) rfl (by rw [hml]; rfl) (Steps.refl _) (a := b21) (argsL := [(.ref w0), (.long w1), (.long w2), (.long (w3 + q2))]) (rest := [(.ref b21)]) (lenOf pd_oLjava_lang_String_JJJcV rfl) rfl (by show 2 * 0 + _ ≤ _; exact Nat.le_of_eq rfl) (hb hby d5_54) (fun _ _ => ⟨rfl, eh33, (by decide : 1 + 0 ≤ _), (by decide : 4 + 0 ≤ _)⟩)
    dsimp only [Pt.U, Pt.locs, Pt.cells, Pt.slots] at X36 l36 y36 z36 st36 hQ36
    subst l36 y36 z36
    obtain ⟨rfl, N36q, Kq36, P36_1, P36_2, P36_3, P36_4, P36_5⟩ := hQ36
    have F_name_a1__36 : Fld Z T36.heap a1 "com/example/pledgeway/pledgeway/demo/ledger/Account" "name" "Ljava/lang/String;" (.ref w0) := F_name_a1__21.keep Kq36 (ninS ne_a1_b21 nin0)
    have F_balance_a1__36 : Fld Z T36.heap a1 "com/example/pledgeway/pledgeway/demo/ledger/Account" "balance" "J" (.long w1) := F_balance_a1__21.keep Kq36 (ninS ne_a1_b21 nin0)
    have F_held_a1__36 : Fld Z T36.heap a1 "com/example/pledgeway/pledgeway/demo/ledger/Account" "held" "J" (.long w2) := F_held_a1__21.keep Kq36 (ninS ne_a1_b21 nin0)
    have F_pending_a1__36 : Fld Z T36.heap a1 "com/example/pledgeway/pledgeway/demo/ledger/Account" "pending" "J" (.long w3) := F_pending_a1__21.keep Kq36 (ninS ne_a1_b21 nin0)
    have sz36 : n0 ≤ T36.heap.size := Nat.le_trans sz21 Kq36.1
    have K36 : Keep h0 T36.heap [] := K21.trans Kq36 (allS (Or.inr bo_b21) all0)
    have N36 := Fr.app N0 N36q
    have pre37 : ∀ t, Steps p.tables e below (T36.setTop (mkF m 57 #[.val (.ref a1), .val (.long q2), .second] [(.ref b21)])) t → Steps p.tables e below (s₁.setTop (entryFrame m #[(.ref a1), (.long q2)] 3)) t := fun t k => pre35 t (st36.trans k)
    obtain ⟨fs, hr, hrun, hended, hW, hsame⟩ := X36.leave (v := some (.ref b21)) (fun h => by rw [Bd.returns] at h; cases h)
    refine ⟨_, _, pre37 _ ?_, hrun, hended, _, _, rfl, ?_, ⟨_, rfl⟩, hW, hsame.mono (by decide) (by decide)⟩
    · show Steps p.tables e below (T36.setTop (mkF m 57 #[.val (.ref a1), .val (.long q2), .second] [(.ref b21)])) _
      jvm_step X36.here [X36.here.top, hx, (hb hby d5_57), X36.method', Bd.returns, Value.isRef, FieldType.isReference]
      first | (intro acts; rw [hr _ acts rfl rfl rfl]) | rw [hr _ _ rfl rfl rfl]
      exact Steps.refl _
    · show Q5 Z a1 q2 w0 w1 w2 w3 h0 n0 _ T36.heap _
      exact ⟨b21, rfl, N36, K36, bo_b21, P36_1, P36_3, (by rw [own_hd, if_neg hc3_1]; exact P36_4), (by rw [own_pd, if_neg hc3_1]; exact P36_5)⟩
theorem ef_6 (m : MethodId) (a1 : Addr) : entryFrame m #[(.ref a1)] 1 = mkF m 0 #[.val (.ref a1)] [] := by first | (simp [entryFrame, mkF, argsToLocals, Value.category]; done) | rfl
theorem d6_0 : decode prog_17_method_10_code 0 = .ok (.aload_n 0, 1) := by decide +kernel
theorem d6_1 : decode prog_17_method_10_code 1 = .ok (.getfield 13, 3) := by decide +kernel
theorem d6_4 : decode prog_17_method_10_code 4 = .ok (.lreturn, 1) := by decide +kernel
def Q6 (Z : State) (a1 : Addr) (w1 : Int64) (h0 : Heap) (n0 : Nat) (v : Option Value) (h : Heap) (L : List Loc) : Prop := v = some (.long w1) ∧ Fr n0 L ∧ h = h0
set_option maxRecDepth 65536 in
set_option maxHeartbeats 40000000 in
theorem rm6 (l : Launch) (Z : State) (a0 : Array Value) (hw : ∀ d ∈ tables_1, d.before a0 Z = true) (ws : List Jvm.Cond) (a1 : Addr) (w1 : Int64) (h0 : Heap) (n0 : Nat) (Z0 : n0 ≤ h0.size) (F_balance_a1 : Fld Z h0 a1 "com/example/pledgeway/pledgeway/demo/ledger/Account" "balance" "J" (.long w1)) :
    MetFree l (⟨"com/example/pledgeway/pledgeway/demo/ledger/Account", "balance", "()J"⟩ : MethodName) (head1 (Jvm.Cond.code (⟨"com/example/pledgeway/pledgeway/demo/ledger/Account", "balance", "()J"⟩ : MethodName) prog_17_method_10_code 1 (some .long) :: ws) ({ frames := 0, cells := 0, slots := 0, locals := 0 } : Room)) (fun a U => a = #[(.ref a1)] ∧ Z.Warmed39 U.vm ∧ U.heap = h0) (fun _ _ _ _ _ => True) (fun _ U o U' => ∃ v L, o = .returned v ∧ Q6 Z a1 w1 h0 n0 v U'.heap L ∧ FrameEnd U o U' L ({ frames := 0, cells := 0, slots := 0, locals := 0 } : Room).cells ({ frames := 0, cells := 0, slots := 0, locals := 0 } : Room).slots) := by
  refine MetFree.of_bodySF (plainFor_of_name pn_com_example_pledgeway_pledgeway_demo_ledger_Account) hisR ?_
  intro p e s m args below meth c s₁ Bd hml0 hP hK
  obtain ⟨rfl, hZ, hh⟩ := hP
  have hx := Bd.exec
  have hby := Bd.bytes
  have hml : c.maxLocals = 1 := hml0
  have hown : s.vm.findClass "com/example/pledgeway/pledgeway/demo/ledger/Account" = some m.cls := findClass_of_methodNamed Bd.named
  have hnm := (name_of_methodNamed Bd.named Bd.method).1
  have X0 : Stand p l e ({ frames := 0, cells := 0, slots := 0, locals := 0 } : Room) s m #[(.ref a1)] below meth c s₁ [] 0 0 := Stand.of_body Bd
  have eh0 : s₁.heap = h0 := by rw [← hh, Bd.state]; rfl
  have N0 := Fr.nil n0
  have pre0 : ∀ t, Steps p.tables e below (s₁.setTop (mkF m 0 #[.val (.ref a1)] [])) t → Steps p.tables e below (s₁.setTop (entryFrame m #[(.ref a1)] 1)) t := fun t k => castTop (ef_6 m a1) k
  have pre1 : ∀ t, Steps p.tables e below (s₁.setTop (mkF m 1 #[.val (.ref a1)] [(.ref a1)])) t → Steps p.tables e below (s₁.setTop (entryFrame m #[(.ref a1)] 1)) t := fun t k => pre0 t (by
    show Steps p.tables e below (s₁.setTop (mkF m 0 #[.val (.ref a1)] [])) t
    refine XS.aloadN X0.here hx rfl (hb hby d6_0) rfl rfl ?_
    show Steps p.tables e below (s₁.setTop (mkF m 1 #[.val (.ref a1)] [(.ref a1)])) t
    exact k)
  obtain ⟨T2, X2, eh2, st2⟩ := getF X0 hx hZ hown (host := "") (Or.inl (hw _ (List.mem_of_getElem? (i := 25) rfl))) Via.refl eh0 F_balance_a1 (g := (mkF m 1 #[.val (.ref a1)] [(.ref a1)])) rfl rfl (hb hby d6_1)
  have pre3 : ∀ t, Steps p.tables e below (T2.setTop (mkF m 4 #[.val (.ref a1)] [(.long w1)])) t → Steps p.tables e below (s₁.setTop (entryFrame m #[(.ref a1)] 1)) t := fun t k => pre1 t (st2 _ k)
  obtain ⟨fs, hr, hrun, hended, hW, hsame⟩ := X2.leave (v := some (.long w1)) (fun h => by rw [Bd.returns] at h; cases h)
  refine ⟨_, _, pre3 _ ?_, hrun, hended, _, _, rfl, ?_, ⟨_, rfl⟩, hW, hsame.mono (by decide) (by decide)⟩
  · show Steps p.tables e below (T2.setTop (mkF m 4 #[.val (.ref a1)] [(.long w1)])) _
    jvm_step X2.here [X2.here.top, hx, (hb hby d6_4), X2.method', Bd.returns, narrow]
    first | (intro acts; rw [hr _ acts rfl rfl rfl]) | rw [hr _ _ rfl rfl rfl]
    exact Steps.refl _
  · show Q6 Z a1 w1 h0 n0 _ T2.heap _
    rw [eh2]
    exact ⟨rfl, N0, rfl⟩
theorem ef_7 (m : MethodId) (a1 : Addr) : entryFrame m #[(.ref a1)] 1 = mkF m 0 #[.val (.ref a1)] [] := by first | (simp [entryFrame, mkF, argsToLocals, Value.category]; done) | rfl
theorem d7_0 : decode prog_17_method_11_code 0 = .ok (.aload_n 0, 1) := by decide +kernel
theorem d7_1 : decode prog_17_method_11_code 1 = .ok (.getfield 17, 3) := by decide +kernel
theorem d7_4 : decode prog_17_method_11_code 4 = .ok (.lreturn, 1) := by decide +kernel
def Q7 (Z : State) (a1 : Addr) (w2 : Int64) (h0 : Heap) (n0 : Nat) (v : Option Value) (h : Heap) (L : List Loc) : Prop := v = some (.long w2) ∧ Fr n0 L ∧ h = h0
set_option maxRecDepth 65536 in
set_option maxHeartbeats 40000000 in
theorem rm7 (l : Launch) (Z : State) (a0 : Array Value) (hw : ∀ d ∈ tables_1, d.before a0 Z = true) (ws : List Jvm.Cond) (a1 : Addr) (w2 : Int64) (h0 : Heap) (n0 : Nat) (Z0 : n0 ≤ h0.size) (F_held_a1 : Fld Z h0 a1 "com/example/pledgeway/pledgeway/demo/ledger/Account" "held" "J" (.long w2)) :
    MetFree l (⟨"com/example/pledgeway/pledgeway/demo/ledger/Account", "held", "()J"⟩ : MethodName) (head1 (Jvm.Cond.code (⟨"com/example/pledgeway/pledgeway/demo/ledger/Account", "held", "()J"⟩ : MethodName) prog_17_method_11_code 1 (some .long) :: ws) ({ frames := 0, cells := 0, slots := 0, locals := 0 } : Room)) (fun a U => a = #[(.ref a1)] ∧ Z.Warmed39 U.vm ∧ U.heap = h0) (fun _ _ _ _ _ => True) (fun _ U o U' => ∃ v L, o = .returned v ∧ Q7 Z a1 w2 h0 n0 v U'.heap L ∧ FrameEnd U o U' L ({ frames := 0, cells := 0, slots := 0, locals := 0 } : Room).cells ({ frames := 0, cells := 0, slots := 0, locals := 0 } : Room).slots) := by
  refine MetFree.of_bodySF (plainFor_of_name pn_com_example_pledgeway_pledgeway_demo_ledger_Account) hisR ?_
  intro p e s m args below meth c s₁ Bd hml0 hP hK
  obtain ⟨rfl, hZ, hh⟩ := hP
  have hx := Bd.exec
  have hby := Bd.bytes
  have hml : c.maxLocals = 1 := hml0
  have hown : s.vm.findClass "com/example/pledgeway/pledgeway/demo/ledger/Account" = some m.cls := findClass_of_methodNamed Bd.named
  have hnm := (name_of_methodNamed Bd.named Bd.method).1
  have X0 : Stand p l e ({ frames := 0, cells := 0, slots := 0, locals := 0 } : Room) s m #[(.ref a1)] below meth c s₁ [] 0 0 := Stand.of_body Bd
  have eh0 : s₁.heap = h0 := by rw [← hh, Bd.state]; rfl
  have N0 := Fr.nil n0
  have pre0 : ∀ t, Steps p.tables e below (s₁.setTop (mkF m 0 #[.val (.ref a1)] [])) t → Steps p.tables e below (s₁.setTop (entryFrame m #[(.ref a1)] 1)) t := fun t k => castTop (ef_7 m a1) k
  have pre1 : ∀ t, Steps p.tables e below (s₁.setTop (mkF m 1 #[.val (.ref a1)] [(.ref a1)])) t → Steps p.tables e below (s₁.setTop (entryFrame m #[(.ref a1)] 1)) t := fun t k => pre0 t (by
    show Steps p.tables e below (s₁.setTop (mkF m 0 #[.val (.ref a1)] [])) t
    refine XS.aloadN X0.here hx rfl (hb hby d7_0) rfl rfl ?_
    show Steps p.tables e below (s₁.setTop (mkF m 1 #[.val (.ref a1)] [(.ref a1)])) t
    exact k)
  obtain ⟨T2, X2, eh2, st2⟩ := getF X0 hx hZ hown (host := "") (Or.inl (hw _ (List.mem_of_getElem? (i := 27) rfl))) Via.refl eh0 F_held_a1 (g := (mkF m 1 #[.val (.ref a1)] [(.ref a1)])) rfl rfl (hb hby d7_1)
  have pre3 : ∀ t, Steps p.tables e below (T2.setTop (mkF m 4 #[.val (.ref a1)] [(.long w2)])) t → Steps p.tables e below (s₁.setTop (entryFrame m #[(.ref a1)] 1)) t := fun t k => pre1 t (st2 _ k)
  obtain ⟨fs, hr, hrun, hended, hW, hsame⟩ := X2.leave (v := some (.long w2)) (fun h => by rw [Bd.returns] at h; cases h)
  refine ⟨_, _, pre3 _ ?_, hrun, hended, _, _, rfl, ?_, ⟨_, rfl⟩, hW, hsame.mono (by decide) (by decide)⟩
  · show Steps p.tables e below (T2.setTop (mkF m 4 #[.val (.ref a1)] [(.long w2)])) _
    jvm_step X2.here [X2.here.top, hx, (hb hby d7_4), X2.method', Bd.returns, narrow]
    first | (intro acts; rw [hr _ acts rfl rfl rfl]) | rw [hr _ _ rfl rfl rfl]
    exact Steps.refl _
  · show Q7 Z a1 w2 h0 n0 _ T2.heap _
    rw [eh2]
    exact ⟨rfl, N0, rfl⟩
theorem ef_8 (m : MethodId) (a1 : Addr) : entryFrame m #[(.ref a1)] 1 = mkF m 0 #[.val (.ref a1)] [] := by first | (simp [entryFrame, mkF, argsToLocals, Value.category]; done) | rfl
theorem d8_0 : decode prog_17_method_12_code 0 = .ok (.aload_n 0, 1) := by decide +kernel
theorem d8_1 : decode prog_17_method_12_code 1 = .ok (.getfield 20, 3) := by decide +kernel
theorem d8_4 : decode prog_17_method_12_code 4 = .ok (.lreturn, 1) := by decide +kernel
def Q8 (Z : State) (a1 : Addr) (w3 : Int64) (h0 : Heap) (n0 : Nat) (v : Option Value) (h : Heap) (L : List Loc) : Prop := v = some (.long w3) ∧ Fr n0 L ∧ h = h0
set_option maxRecDepth 65536 in
set_option maxHeartbeats 40000000 in
theorem rm8 (l : Launch) (Z : State) (a0 : Array Value) (hw : ∀ d ∈ tables_1, d.before a0 Z = true) (ws : List Jvm.Cond) (a1 : Addr) (w3 : Int64) (h0 : Heap) (n0 : Nat) (Z0 : n0 ≤ h0.size) (F_pending_a1 : Fld Z h0 a1 "com/example/pledgeway/pledgeway/demo/ledger/Account" "pending" "J" (.long w3)) :
    MetFree l (⟨"com/example/pledgeway/pledgeway/demo/ledger/Account", "pending", "()J"⟩ : MethodName) (head1 (Jvm.Cond.code (⟨"com/example/pledgeway/pledgeway/demo/ledger/Account", "pending", "()J"⟩ : MethodName) prog_17_method_12_code 1 (some .long) :: ws) ({ frames := 0, cells := 0, slots := 0, locals := 0 } : Room)) (fun a U => a = #[(.ref a1)] ∧ Z.Warmed39 U.vm ∧ U.heap = h0) (fun _ _ _ _ _ => True) (fun _ U o U' => ∃ v L, o = .returned v ∧ Q8 Z a1 w3 h0 n0 v U'.heap L ∧ FrameEnd U o U' L ({ frames := 0, cells := 0, slots := 0, locals := 0 } : Room).cells ({ frames := 0, cells := 0, slots := 0, locals := 0 } : Room).slots) := by
  refine MetFree.of_bodySF (plainFor_of_name pn_com_example_pledgeway_pledgeway_demo_ledger_Account) hisR ?_
  intro p e s m args below meth c s₁ Bd hml0 hP hK
  obtain ⟨rfl, hZ, hh⟩ := hP
  have hx := Bd.exec
  have hby := Bd.bytes
  have hml : c.maxLocals = 1 := hml0
  have hown : s.vm.findClass "com/example/pledgeway/pledgeway/demo/ledger/Account" = some m.cls := findClass_of_methodNamed Bd.named
  have hnm := (name_of_methodNamed Bd.named Bd.method).1
  have X0 : Stand p l e ({ frames := 0, cells := 0, slots := 0, locals := 0 } : Room) s m #[(.ref a1)] below meth c s₁ [] 0 0 := Stand.of_body Bd
  have eh0 : s₁.heap = h0 := by rw [← hh, Bd.state]; rfl
  have N0 := Fr.nil n0
  have pre0 : ∀ t, Steps p.tables e below (s₁.setTop (mkF m 0 #[.val (.ref a1)] [])) t → Steps p.tables e below (s₁.setTop (entryFrame m #[(.ref a1)] 1)) t := fun t k => castTop (ef_8 m a1) k
  have pre1 : ∀ t, Steps p.tables e below (s₁.setTop (mkF m 1 #[.val (.ref a1)] [(.ref a1)])) t → Steps p.tables e below (s₁.setTop (entryFrame m #[(.ref a1)] 1)) t := fun t k => pre0 t (by
    show Steps p.tables e below (s₁.setTop (mkF m 0 #[.val (.ref a1)] [])) t
    refine XS.aloadN X0.here hx rfl (hb hby d8_0) rfl rfl ?_
    show Steps p.tables e below (s₁.setTop (mkF m 1 #[.val (.ref a1)] [(.ref a1)])) t
    exact k)
  obtain ⟨T2, X2, eh2, st2⟩ := getF X0 hx hZ hown (host := "") (Or.inl (hw _ (List.mem_of_getElem? (i := 29) rfl))) Via.refl eh0 F_pending_a1 (g := (mkF m 1 #[.val (.ref a1)] [(.ref a1)])) rfl rfl (hb hby d8_1)
  have pre3 : ∀ t, Steps p.tables e below (T2.setTop (mkF m 4 #[.val (.ref a1)] [(.long w3)])) t → Steps p.tables e below (s₁.setTop (entryFrame m #[(.ref a1)] 1)) t := fun t k => pre1 t (st2 _ k)
  obtain ⟨fs, hr, hrun, hended, hW, hsame⟩ := X2.leave (v := some (.long w3)) (fun h => by rw [Bd.returns] at h; cases h)
  refine ⟨_, _, pre3 _ ?_, hrun, hended, _, _, rfl, ?_, ⟨_, rfl⟩, hW, hsame.mono (by decide) (by decide)⟩
  · show Steps p.tables e below (T2.setTop (mkF m 4 #[.val (.ref a1)] [(.long w3)])) _
    jvm_step X2.here [X2.here.top, hx, (hb hby d8_4), X2.method', Bd.returns, narrow]
    first | (intro acts; rw [hr _ acts rfl rfl rfl]) | rw [hr _ _ rfl rfl rfl]
    exact Steps.refl _
  · show Q8 Z a1 w3 h0 n0 _ T2.heap _
    rw [eh2]
    exact ⟨rfl, N0, rfl⟩
theorem ef_0 (m : MethodId) (q1 : Int64) (q2 : Int64) (q3 : Int64) (q4 : Int64) : entryFrame m #[(.long q1), (.long q2), (.long q3), (.long q4)] maxLocals = mkF m 0 #[.val (.long q1), .second, .val (.long q2), .second, .val (.long q3), .second, .val (.long q4), .second, .unset, .unset, .unset, .unset, .unset, .unset, .unset, .unset, .unset, .unset, .unset, .unset, .unset, .unset, .unset, .unset, .unset, .unset] [] := by first | (simp [entryFrame, mkF, argsToLocals, Value.category, maxLocals]; done) | rfl
theorem pn_com_example_pledgeway_pledgeway_demo_ledger_AccountCanReservePinLaw : plainName "com/example/pledgeway/pledgeway/demo/ledger/AccountCanReservePinLaw" = true := by first | (simp [plainName, overriddenIn]; done) | decide +kernel
theorem pd_oJcZ : parseMethodDescriptor "(J)Z" = some ⟨[.long], some .boolean⟩ := by decide +kernel
theorem pd_oJcLcom_example_pledgeway_pledgeway_demo_ledger_Account_ : parseMethodDescriptor "(J)Lcom/example/pledgeway/pledgeway/demo/ledger/Account;" = some ⟨[.long], some (.object "com/example/pledgeway/pledgeway/demo/ledger/Account")⟩ := by decide +kernel
theorem pd_ocJ : parseMethodDescriptor "()J" = some ⟨[], some .long⟩ := by decide +kernel
def Q0 (Z : State) (q1 : Int64) (q2 : Int64) (q3 : Int64) (q4 : Int64) (h0 : Heap) (n0 : Nat) (v : Option Value) (h : Heap) (L : List Loc) : Prop := v = some (.int (1 : Int32)) ∧ Fr n0 L
set_option maxRecDepth 65536 in
set_option maxHeartbeats 40000000 in
theorem rm0 (l : Launch) (Z : State) (a0 : Array Value) (hw : ∀ d ∈ tables_1, d.before a0 Z = true) (ws : List Jvm.Cond) (q1 : Int64) (q2 : Int64) (q3 : Int64) (q4 : Int64) (h0 : Heap) (n0 : Nat) (Z0 : n0 ≤ h0.size) :
    MetFree l x (head1 (Jvm.Cond.code x code maxLocals ret :: ws) room_1) (fun a U => a = #[(.long q1), (.long q2), (.long q3), (.long q4)] ∧ Z.Warmed39 U.vm ∧ U.heap = h0) (fun _ _ _ _ _ => True) (fun _ U o U' => ∃ v L, o = .returned v ∧ Q0 Z q1 q2 q3 q4 h0 n0 v U'.heap L ∧ ReturnedEndW U o U' L room_1.cells room_1.slots) := by
  refine MetFree.of_bodySF (plainFor_of_name pn_com_example_pledgeway_pledgeway_demo_ledger_AccountCanReservePinLaw) hisR ?_
  intro p e s m args below meth c s₁ Bd hml0 hP hK
  obtain ⟨rfl, hZ, hh⟩ := hP
  have hx := Bd.exec
  have hby := Bd.bytes
  have hml : c.maxLocals = 26 := hml0
  have hown : s.vm.findClass "com/example/pledgeway/pledgeway/demo/ledger/AccountCanReservePinLaw" = some m.cls := findClass_of_methodNamed Bd.named
  have hnm := (name_of_methodNamed Bd.named Bd.method).1
  have X0 : Stand p l e room_1 s m #[(.long q1), (.long q2), (.long q3), (.long q4)] below meth c s₁ [] 0 0 := Stand.of_body Bd
  have eh0 : s₁.heap = h0 := by rw [← hh, Bd.state]; rfl
  have N0 := Fr.nil n0
  have pre0 : ∀ t, Steps p.tables e below (s₁.setTop (mkF m 0 #[.val (.long q1), .second, .val (.long q2), .second, .val (.long q3), .second, .val (.long q4), .second, .unset, .unset, .unset, .unset, .unset, .unset, .unset, .unset, .unset, .unset, .unset, .unset, .unset, .unset, .unset, .unset, .unset, .unset] [])) t → Steps p.tables e below (s₁.setTop (entryFrame m #[(.long q1), (.long q2), (.long q3), (.long q4)] maxLocals)) t := fun t k => castTop (ef_0 m q1 q2 q3 q4) k
  have pre1 : ∀ t, Steps p.tables e below (s₁.setTop (mkF m 7 #[.val (.long q1), .second, .val (.long q2), .second, .val (.long q3), .second, .val (.long q4), .second, .val (.long (q1 &&& (9223372036854775807 : Int64))), .second, .unset, .unset, .unset, .unset, .unset, .unset, .unset, .unset, .unset, .unset, .unset, .unset, .unset, .unset, .unset, .unset] [])) t → Steps p.tables e below (s₁.setTop (entryFrame m #[(.long q1), (.long q2), (.long q3), (.long q4)] maxLocals)) t := fun t k => pre0 t (by
    show Steps p.tables e below (s₁.setTop (mkF m 0 #[.val (.long q1), .second, .val (.long q2), .second, .val (.long q3), .second, .val (.long q4), .second, .unset, .unset, .unset, .unset, .unset, .unset, .unset, .unset, .unset, .unset, .unset, .unset, .unset, .unset, .unset, .unset, .unset, .unset] [])) t
    refine XT.lloadN X0.here hx rfl (hb hby at_0) rfl ?_
    show Steps p.tables e below (s₁.setTop (mkF m 1 #[.val (.long q1), .second, .val (.long q2), .second, .val (.long q3), .second, .val (.long q4), .second, .unset, .unset, .unset, .unset, .unset, .unset, .unset, .unset, .unset, .unset, .unset, .unset, .unset, .unset, .unset, .unset, .unset, .unset] [(.long q1)])) t
    refine X0.ldc2Long hx hown (mvT hZ (hw _ (List.mem_of_getElem? (i := 0) rfl))) (g := (mkF m 1 #[.val (.long q1), .second, .val (.long q2), .second, .val (.long q3), .second, .val (.long q4), .second, .unset, .unset, .unset, .unset, .unset, .unset, .unset, .unset, .unset, .unset, .unset, .unset, .unset, .unset, .unset, .unset, .unset, .unset] [(.long q1)])) rfl (hb hby at_1) _ ?_
    show Steps p.tables e below (s₁.setTop (mkF m 4 #[.val (.long q1), .second, .val (.long q2), .second, .val (.long q3), .second, .val (.long q4), .second, .unset, .unset, .unset, .unset, .unset, .unset, .unset, .unset, .unset, .unset, .unset, .unset, .unset, .unset, .unset, .unset, .unset, .unset] [(.long (9223372036854775807 : Int64)), (.long q1)])) t
    refine XT.land X0.here hx rfl (hb hby at_4) rfl ?_
    show Steps p.tables e below (s₁.setTop (mkF m 5 #[.val (.long q1), .second, .val (.long q2), .second, .val (.long q3), .second, .val (.long q4), .second, .unset, .unset, .unset, .unset, .unset, .unset, .unset, .unset, .unset, .unset, .unset, .unset, .unset, .unset, .unset, .unset, .unset, .unset] [(.long (q1 &&& (9223372036854775807 : Int64)))])) t
    refine XT.lstore X0.here hx rfl (hb hby at_5) rfl (l' := #[.val (.long q1), .second, .val (.long q2), .second, .val (.long q3), .second, .val (.long q4), .second, .val (.long (q1 &&& (9223372036854775807 : Int64))), .second, .unset, .unset, .unset, .unset, .unset, .unset, .unset, .unset, .unset, .unset, .unset, .unset, .unset, .unset, .unset, .unset]) rfl ?_
    show Steps p.tables e below (s₁.setTop (mkF m 7 #[.val (.long q1), .second, .val (.long q2), .second, .val (.long q3), .second, .val (.long q4), .second, .val (.long (q1 &&& (9223372036854775807 : Int64))), .second, .unset, .unset, .unset, .unset, .unset, .unset, .unset, .unset, .unset, .unset, .unset, .unset, .unset, .unset, .unset, .unset] [])) t
    exact k)
  obtain ⟨bal, h_bal⟩ : ∃ z : Int64, z = (q1 &&& (9223372036854775807 : Int64)) := ⟨_, rfl⟩
  rw [← h_bal] at pre1
  have hbal : 0 ≤ bal.toInt := by rw [h_bal]; exact (own_mask _).1
  have pre3 : ∀ t, Steps p.tables e below (s₁.setTop (mkF m 20 #[.val (.long q1), .second, .val (.long q2), .second, .val (.long q3), .second, .val (.long q4), .second, .val (.long bal), .second, .val (.long (q2 &&& (9223372036854775807 : Int64))), .second, .unset, .unset, .unset, .unset, .unset, .unset, .unset, .unset, .unset, .unset, .unset, .unset, .unset, .unset] [(.int (XT.cmpL bal (9223372036854775807 : Int64)))])) t → Steps p.tables e below (s₁.setTop (entryFrame m #[(.long q1), (.long q2), (.long q3), (.long q4)] maxLocals)) t := fun t k => pre1 t (by
    show Steps p.tables e below (s₁.setTop (mkF m 7 #[.val (.long q1), .second, .val (.long q2), .second, .val (.long q3), .second, .val (.long q4), .second, .val (.long bal), .second, .unset, .unset, .unset, .unset, .unset, .unset, .unset, .unset, .unset, .unset, .unset, .unset, .unset, .unset, .unset, .unset] [])) t
    refine XT.lloadN X0.here hx rfl (hb hby at_7) rfl ?_
    show Steps p.tables e below (s₁.setTop (mkF m 8 #[.val (.long q1), .second, .val (.long q2), .second, .val (.long q3), .second, .val (.long q4), .second, .val (.long bal), .second, .unset, .unset, .unset, .unset, .unset, .unset, .unset, .unset, .unset, .unset, .unset, .unset, .unset, .unset, .unset, .unset] [(.long q2)])) t
    refine X0.ldc2Long hx hown (mvT hZ (hw _ (List.mem_of_getElem? (i := 0) rfl))) (g := (mkF m 8 #[.val (.long q1), .second, .val (.long q2), .second, .val (.long q3), .second, .val (.long q4), .second, .val (.long bal), .second, .unset, .unset, .unset, .unset, .unset, .unset, .unset, .unset, .unset, .unset, .unset, .unset, .unset, .unset, .unset, .unset] [(.long q2)])) rfl (hb hby at_8) _ ?_
    show Steps p.tables e below (s₁.setTop (mkF m 11 #[.val (.long q1), .second, .val (.long q2), .second, .val (.long q3), .second, .val (.long q4), .second, .val (.long bal), .second, .unset, .unset, .unset, .unset, .unset, .unset, .unset, .unset, .unset, .unset, .unset, .unset, .unset, .unset, .unset, .unset] [(.long (9223372036854775807 : Int64)), (.long q2)])) t
    refine XT.land X0.here hx rfl (hb hby at_11) rfl ?_
    show Steps p.tables e below (s₁.setTop (mkF m 12 #[.val (.long q1), .second, .val (.long q2), .second, .val (.long q3), .second, .val (.long q4), .second, .val (.long bal), .second, .unset, .unset, .unset, .unset, .unset, .unset, .unset, .unset, .unset, .unset, .unset, .unset, .unset, .unset, .unset, .unset] [(.long (q2 &&& (9223372036854775807 : Int64)))])) t
    refine XT.lstore X0.here hx rfl (hb hby at_12) rfl (l' := #[.val (.long q1), .second, .val (.long q2), .second, .val (.long q3), .second, .val (.long q4), .second, .val (.long bal), .second, .val (.long (q2 &&& (9223372036854775807 : Int64))), .second, .unset, .unset, .unset, .unset, .unset, .unset, .unset, .unset, .unset, .unset, .unset, .unset, .unset, .unset]) rfl ?_
    show Steps p.tables e below (s₁.setTop (mkF m 14 #[.val (.long q1), .second, .val (.long q2), .second, .val (.long q3), .second, .val (.long q4), .second, .val (.long bal), .second, .val (.long (q2 &&& (9223372036854775807 : Int64))), .second, .unset, .unset, .unset, .unset, .unset, .unset, .unset, .unset, .unset, .unset, .unset, .unset, .unset, .unset] [])) t
    refine XT.lload X0.here hx rfl (hb hby at_14) rfl ?_
    show Steps p.tables e below (s₁.setTop (mkF m 16 #[.val (.long q1), .second, .val (.long q2), .second, .val (.long q3), .second, .val (.long q4), .second, .val (.long bal), .second, .val (.long (q2 &&& (9223372036854775807 : Int64))), .second, .unset, .unset, .unset, .unset, .unset, .unset, .unset, .unset, .unset, .unset, .unset, .unset, .unset, .unset] [(.long bal)])) t
    refine X0.ldc2Long hx hown (mvT hZ (hw _ (List.mem_of_getElem? (i := 0) rfl))) (g := (mkF m 16 #[.val (.long q1), .second, .val (.long q2), .second, .val (.long q3), .second, .val (.long q4), .second, .val (.long bal), .second, .val (.long (q2 &&& (9223372036854775807 : Int64))), .second, .unset, .unset, .unset, .unset, .unset, .unset, .unset, .unset, .unset, .unset, .unset, .unset, .unset, .unset] [(.long bal)])) rfl (hb hby at_16) _ ?_
    show Steps p.tables e below (s₁.setTop (mkF m 19 #[.val (.long q1), .second, .val (.long q2), .second, .val (.long q3), .second, .val (.long q4), .second, .val (.long bal), .second, .val (.long (q2 &&& (9223372036854775807 : Int64))), .second, .unset, .unset, .unset, .unset, .unset, .unset, .unset, .unset, .unset, .unset, .unset, .unset, .unset, .unset] [(.long (9223372036854775807 : Int64)), (.long bal)])) t
    refine XT.lcmp X0.here hx rfl (hb hby at_19) rfl ?_
    show Steps p.tables e below (s₁.setTop (mkF m 20 #[.val (.long q1), .second, .val (.long q2), .second, .val (.long q3), .second, .val (.long q4), .second, .val (.long bal), .second, .val (.long (q2 &&& (9223372036854775807 : Int64))), .second, .unset, .unset, .unset, .unset, .unset, .unset, .unset, .unset, .unset, .unset, .unset, .unset, .unset, .unset] [(.int (XT.cmpL bal (9223372036854775807 : Int64)))])) t
    exact k)
  have pre4 : ∀ t, Steps p.tables e below (s₁.setTop (mkF m 32 #[.val (.long q1), .second, .val (.long q2), .second, .val (.long q3), .second, .val (.long q4), .second, .val (.long bal), .second, .val (.long (if bal < (9223372036854775807 : Int64) then ((q2 &&& (9223372036854775807 : Int64)) - (q2 &&& (9223372036854775807 : Int64)) / (bal + (1 : Int64)) * (bal + (1 : Int64))) else (q2 &&& (9223372036854775807 : Int64)))), .second, .unset, .unset, .unset, .unset, .unset, .unset, .unset, .unset, .unset, .unset, .unset, .unset, .unset, .unset] [])) t → Steps p.tables e below (s₁.setTop (entryFrame m #[(.long q1), (.long q2), (.long q3), (.long q4)] maxLocals)) t := fun t k => pre3 t (by
    show Steps p.tables e below (s₁.setTop (mkF m 20 #[.val (.long q1), .second, .val (.long q2), .second, .val (.long q3), .second, .val (.long q4), .second, .val (.long bal), .second, .val (.long (q2 &&& (9223372036854775807 : Int64))), .second, .unset, .unset, .unset, .unset, .unset, .unset, .unset, .unset, .unset, .unset, .unset, .unset, .unset, .unset] [(.int (XT.cmpL bal (9223372036854775807 : Int64)))])) t
    by_cases hc20_2 : bal < (9223372036854775807 : Int64)
    · simp only [if_pos hc20_2] at k
      refine XS.ifNo X0.here hx rfl (hb hby at_20) rfl (XT.ll_ge_f hc20_2) ?_
      show Steps p.tables e below (s₁.setTop (mkF m 23 #[.val (.long q1), .second, .val (.long q2), .second, .val (.long q3), .second, .val (.long q4), .second, .val (.long bal), .second, .val (.long (q2 &&& (9223372036854775807 : Int64))), .second, .unset, .unset, .unset, .unset, .unset, .unset, .unset, .unset, .unset, .unset, .unset, .unset, .unset, .unset] [])) t
      refine XT.lload X0.here hx rfl (hb hby at_23) rfl ?_
      show Steps p.tables e below (s₁.setTop (mkF m 25 #[.val (.long q1), .second, .val (.long q2), .second, .val (.long q3), .second, .val (.long q4), .second, .val (.long bal), .second, .val (.long (q2 &&& (9223372036854775807 : Int64))), .second, .unset, .unset, .unset, .unset, .unset, .unset, .unset, .unset, .unset, .unset, .unset, .unset, .unset, .unset] [(.long (q2 &&& (9223372036854775807 : Int64)))])) t
      refine XT.lload X0.here hx rfl (hb hby at_25) rfl ?_
      show Steps p.tables e below (s₁.setTop (mkF m 27 #[.val (.long q1), .second, .val (.long q2), .second, .val (.long q3), .second, .val (.long q4), .second, .val (.long bal), .second, .val (.long (q2 &&& (9223372036854775807 : Int64))), .second, .unset, .unset, .unset, .unset, .unset, .unset, .unset, .unset, .unset, .unset, .unset, .unset, .unset, .unset] [(.long bal), (.long (q2 &&& (9223372036854775807 : Int64)))])) t
      refine XT.lconstV X0.here hx rfl (1 : Int64) (hb hby at_27) (by decide) ?_
      show Steps p.tables e below (s₁.setTop (mkF m 28 #[.val (.long q1), .second, .val (.long q2), .second, .val (.long q3), .second, .val (.long q4), .second, .val (.long bal), .second, .val (.long (q2 &&& (9223372036854775807 : Int64))), .second, .unset, .unset, .unset, .unset, .unset, .unset, .unset, .unset, .unset, .unset, .unset, .unset, .unset, .unset] [(.long (1 : Int64)), (.long bal), (.long (q2 &&& (9223372036854775807 : Int64)))])) t
      refine XT.ladd X0.here hx rfl (hb hby at_28) rfl ?_
      show Steps p.tables e below (s₁.setTop (mkF m 29 #[.val (.long q1), .second, .val (.long q2), .second, .val (.long q3), .second, .val (.long q4), .second, .val (.long bal), .second, .val (.long (q2 &&& (9223372036854775807 : Int64))), .second, .unset, .unset, .unset, .unset, .unset, .unset, .unset, .unset, .unset, .unset, .unset, .unset, .unset, .unset] [(.long (bal + (1 : Int64))), (.long (q2 &&& (9223372036854775807 : Int64)))])) t
      refine XT.lrem X0.here hx rfl (hb hby at_29) rfl (own_nz hbal (by assumption)) ?_
      show Steps p.tables e below (s₁.setTop (mkF m 30 #[.val (.long q1), .second, .val (.long q2), .second, .val (.long q3), .second, .val (.long q4), .second, .val (.long bal), .second, .val (.long (q2 &&& (9223372036854775807 : Int64))), .second, .unset, .unset, .unset, .unset, .unset, .unset, .unset, .unset, .unset, .unset, .unset, .unset, .unset, .unset] [(.long ((q2 &&& (9223372036854775807 : Int64)) - (q2 &&& (9223372036854775807 : Int64)) / (bal + (1 : Int64)) * (bal + (1 : Int64))))])) t
      refine XT.lstore X0.here hx rfl (hb hby at_30) rfl (l' := #[.val (.long q1), .second, .val (.long q2), .second, .val (.long q3), .second, .val (.long q4), .second, .val (.long bal), .second, .val (.long ((q2 &&& (9223372036854775807 : Int64)) - (q2 &&& (9223372036854775807 : Int64)) / (bal + (1 : Int64)) * (bal + (1 : Int64)))), .second, .unset, .unset, .unset, .unset, .unset, .unset, .unset, .unset, .unset, .unset, .unset, .unset, .unset, .unset]) rfl ?_
      show Steps p.tables e below (s₁.setTop (mkF m 32 #[.val (.long q1), .second, .val (.long q2), .second, .val (.long q3), .second, .val (.long q4), .second, .val (.long bal), .second, .val (.long ((q2 &&& (9223372036854775807 : Int64)) - (q2 &&& (9223372036854775807 : Int64)) / (bal + (1 : Int64)) * (bal + (1 : Int64)))), .second, .unset, .unset, .unset, .unset, .unset, .unset, .unset, .unset, .unset, .unset, .unset, .unset, .unset, .unset] [])) t
      exact k
    · simp only [if_neg hc20_2] at k
      refine XS.ifYes X0.here hx rfl (pc0 := 20) (pc' := 32) rfl (hb hby at_20) rfl (XT.ll_ge_t hc20_2) (by decide) (by decide) ?_
      show Steps p.tables e below (s₁.setTop (mkF m 32 #[.val (.long q1), .second, .val (.long q2), .second, .val (.long q3), .second, .val (.long q4), .second, .val (.long bal), .second, .val (.long (q2 &&& (9223372036854775807 : Int64))), .second, .unset, .unset, .unset, .unset, .unset, .unset, .unset, .unset, .unset, .unset, .unset, .unset, .unset, .unset] [])) t
      exact k)
  obtain ⟨held, h_held⟩ : ∃ z : Int64, z = (if bal < (9223372036854775807 : Int64) then ((q2 &&& (9223372036854775807 : Int64)) - (q2 &&& (9223372036854775807 : Int64)) / (bal + (1 : Int64)) * (bal + (1 : Int64))) else (q2 &&& (9223372036854775807 : Int64))) := ⟨_, rfl⟩
  rw [← h_held] at pre4
  have hheld : 0 ≤ held.toInt ∧ held.toInt ≤ bal.toInt := by rw [h_held]; exact own_mod hbal _
  have pre5 : ∀ t, Steps p.tables e below (s₁.setTop (mkF m 40 #[.val (.long q1), .second, .val (.long q2), .second, .val (.long q3), .second, .val (.long q4), .second, .val (.long bal), .second, .val (.long held), .second, .val (.long ((9223372036854775807 : Int64) - bal)), .second, .unset, .unset, .unset, .unset, .unset, .unset, .unset, .unset, .unset, .unset, .unset, .unset] [])) t → Steps p.tables e below (s₁.setTop (entryFrame m #[(.long q1), (.long q2), (.long q3), (.long q4)] maxLocals)) t := fun t k => pre4 t (by
    show Steps p.tables e below (s₁.setTop (mkF m 32 #[.val (.long q1), .second, .val (.long q2), .second, .val (.long q3), .second, .val (.long q4), .second, .val (.long bal), .second, .val (.long held), .second, .unset, .unset, .unset, .unset, .unset, .unset, .unset, .unset, .unset, .unset, .unset, .unset, .unset, .unset] [])) t
    refine X0.ldc2Long hx hown (mvT hZ (hw _ (List.mem_of_getElem? (i := 0) rfl))) (g := (mkF m 32 #[.val (.long q1), .second, .val (.long q2), .second, .val (.long q3), .second, .val (.long q4), .second, .val (.long bal), .second, .val (.long held), .second, .unset, .unset, .unset, .unset, .unset, .unset, .unset, .unset, .unset, .unset, .unset, .unset, .unset, .unset] [])) rfl (hb hby at_32) _ ?_
    show Steps p.tables e below (s₁.setTop (mkF m 35 #[.val (.long q1), .second, .val (.long q2), .second, .val (.long q3), .second, .val (.long q4), .second, .val (.long bal), .second, .val (.long held), .second, .unset, .unset, .unset, .unset, .unset, .unset, .unset, .unset, .unset, .unset, .unset, .unset, .unset, .unset] [(.long (9223372036854775807 : Int64))])) t
    refine XT.lload X0.here hx rfl (hb hby at_35) rfl ?_
    show Steps p.tables e below (s₁.setTop (mkF m 37 #[.val (.long q1), .second, .val (.long q2), .second, .val (.long q3), .second, .val (.long q4), .second, .val (.long bal), .second, .val (.long held), .second, .unset, .unset, .unset, .unset, .unset, .unset, .unset, .unset, .unset, .unset, .unset, .unset, .unset, .unset] [(.long bal), (.long (9223372036854775807 : Int64))])) t
    refine XT.lsub X0.here hx rfl (hb hby at_37) rfl ?_
    show Steps p.tables e below (s₁.setTop (mkF m 38 #[.val (.long q1), .second, .val (.long q2), .second, .val (.long q3), .second, .val (.long q4), .second, .val (.long bal), .second, .val (.long held), .second, .unset, .unset, .unset, .unset, .unset, .unset, .unset, .unset, .unset, .unset, .unset, .unset, .unset, .unset] [(.long ((9223372036854775807 : Int64) - bal))])) t
    refine XT.lstore X0.here hx rfl (hb hby at_38) rfl (l' := #[.val (.long q1), .second, .val (.long q2), .second, .val (.long q3), .second, .val (.long q4), .second, .val (.long bal), .second, .val (.long held), .second, .val (.long ((9223372036854775807 : Int64) - bal)), .second, .unset, .unset, .unset, .unset, .unset, .unset, .unset, .unset, .unset, .unset, .unset, .unset]) rfl ?_
    show Steps p.tables e below (s₁.setTop (mkF m 40 #[.val (.long q1), .second, .val (.long q2), .second, .val (.long q3), .second, .val (.long q4), .second, .val (.long bal), .second, .val (.long held), .second, .val (.long ((9223372036854775807 : Int64) - bal)), .second, .unset, .unset, .unset, .unset, .unset, .unset, .unset, .unset, .unset, .unset, .unset, .unset] [])) t
    exact k)
  obtain ⟨room, h_room⟩ : ∃ z : Int64, z = ((9223372036854775807 : Int64) - bal) := ⟨_, rfl⟩
  rw [← h_room] at pre5
  have hroom : 0 ≤ room.toInt := by rw [h_room, own_room hbal]; have := bal.toInt_lt; omega
  have pre7 : ∀ t, Steps p.tables e below (s₁.setTop (mkF m 54 #[.val (.long q1), .second, .val (.long q2), .second, .val (.long q3), .second, .val (.long q4), .second, .val (.long bal), .second, .val (.long held), .second, .val (.long room), .second, .val (.long (q3 &&& (9223372036854775807 : Int64))), .second, .unset, .unset, .unset, .unset, .unset, .unset, .unset, .unset, .unset, .unset] [(.int (XT.cmpL room (9223372036854775807 : Int64)))])) t → Steps p.tables e below (s₁.setTop (entryFrame m #[(.long q1), (.long q2), (.long q3), (.long q4)] maxLocals)) t := fun t k => pre5 t (by
    show Steps p.tables e below (s₁.setTop (mkF m 40 #[.val (.long q1), .second, .val (.long q2), .second, .val (.long q3), .second, .val (.long q4), .second, .val (.long bal), .second, .val (.long held), .second, .val (.long room), .second, .unset, .unset, .unset, .unset, .unset, .unset, .unset, .unset, .unset, .unset, .unset, .unset] [])) t
    refine XT.lload X0.here hx rfl (hb hby at_40) rfl ?_
    show Steps p.tables e below (s₁.setTop (mkF m 42 #[.val (.long q1), .second, .val (.long q2), .second, .val (.long q3), .second, .val (.long q4), .second, .val (.long bal), .second, .val (.long held), .second, .val (.long room), .second, .unset, .unset, .unset, .unset, .unset, .unset, .unset, .unset, .unset, .unset, .unset, .unset] [(.long q3)])) t
    refine X0.ldc2Long hx hown (mvT hZ (hw _ (List.mem_of_getElem? (i := 0) rfl))) (g := (mkF m 42 #[.val (.long q1), .second, .val (.long q2), .second, .val (.long q3), .second, .val (.long q4), .second, .val (.long bal), .second, .val (.long held), .second, .val (.long room), .second, .unset, .unset, .unset, .unset, .unset, .unset, .unset, .unset, .unset, .unset, .unset, .unset] [(.long q3)])) rfl (hb hby at_42) _ ?_
    show Steps p.tables e below (s₁.setTop (mkF m 45 #[.val (.long q1), .second, .val (.long q2), .second, .val (.long q3), .second, .val (.long q4), .second, .val (.long bal), .second, .val (.long held), .second, .val (.long room), .second, .unset, .unset, .unset, .unset, .unset, .unset, .unset, .unset, .unset, .unset, .unset, .unset] [(.long (9223372036854775807 : Int64)), (.long q3)])) t
    refine XT.land X0.here hx rfl (hb hby at_45) rfl ?_
    show Steps p.tables e below (s₁.setTop (mkF m 46 #[.val (.long q1), .second, .val (.long q2), .second, .val (.long q3), .second, .val (.long q4), .second, .val (.long bal), .second, .val (.long held), .second, .val (.long room), .second, .unset, .unset, .unset, .unset, .unset, .unset, .unset, .unset, .unset, .unset, .unset, .unset] [(.long (q3 &&& (9223372036854775807 : Int64)))])) t
    refine XT.lstore X0.here hx rfl (hb hby at_46) rfl (l' := #[.val (.long q1), .second, .val (.long q2), .second, .val (.long q3), .second, .val (.long q4), .second, .val (.long bal), .second, .val (.long held), .second, .val (.long room), .second, .val (.long (q3 &&& (9223372036854775807 : Int64))), .second, .unset, .unset, .unset, .unset, .unset, .unset, .unset, .unset, .unset, .unset]) rfl ?_
    show Steps p.tables e below (s₁.setTop (mkF m 48 #[.val (.long q1), .second, .val (.long q2), .second, .val (.long q3), .second, .val (.long q4), .second, .val (.long bal), .second, .val (.long held), .second, .val (.long room), .second, .val (.long (q3 &&& (9223372036854775807 : Int64))), .second, .unset, .unset, .unset, .unset, .unset, .unset, .unset, .unset, .unset, .unset] [])) t
    refine XT.lload X0.here hx rfl (hb hby at_48) rfl ?_
    show Steps p.tables e below (s₁.setTop (mkF m 50 #[.val (.long q1), .second, .val (.long q2), .second, .val (.long q3), .second, .val (.long q4), .second, .val (.long bal), .second, .val (.long held), .second, .val (.long room), .second, .val (.long (q3 &&& (9223372036854775807 : Int64))), .second, .unset, .unset, .unset, .unset, .unset, .unset, .unset, .unset, .unset, .unset] [(.long room)])) t
    refine X0.ldc2Long hx hown (mvT hZ (hw _ (List.mem_of_getElem? (i := 0) rfl))) (g := (mkF m 50 #[.val (.long q1), .second, .val (.long q2), .second, .val (.long q3), .second, .val (.long q4), .second, .val (.long bal), .second, .val (.long held), .second, .val (.long room), .second, .val (.long (q3 &&& (9223372036854775807 : Int64))), .second, .unset, .unset, .unset, .unset, .unset, .unset, .unset, .unset, .unset, .unset] [(.long room)])) rfl (hb hby at_50) _ ?_
    show Steps p.tables e below (s₁.setTop (mkF m 53 #[.val (.long q1), .second, .val (.long q2), .second, .val (.long q3), .second, .val (.long q4), .second, .val (.long bal), .second, .val (.long held), .second, .val (.long room), .second, .val (.long (q3 &&& (9223372036854775807 : Int64))), .second, .unset, .unset, .unset, .unset, .unset, .unset, .unset, .unset, .unset, .unset] [(.long (9223372036854775807 : Int64)), (.long room)])) t
    refine XT.lcmp X0.here hx rfl (hb hby at_53) rfl ?_
    show Steps p.tables e below (s₁.setTop (mkF m 54 #[.val (.long q1), .second, .val (.long q2), .second, .val (.long q3), .second, .val (.long q4), .second, .val (.long bal), .second, .val (.long held), .second, .val (.long room), .second, .val (.long (q3 &&& (9223372036854775807 : Int64))), .second, .unset, .unset, .unset, .unset, .unset, .unset, .unset, .unset, .unset, .unset] [(.int (XT.cmpL room (9223372036854775807 : Int64)))])) t
    exact k)
  have pre8 : ∀ t, Steps p.tables e below (s₁.setTop (mkF m 66 #[.val (.long q1), .second, .val (.long q2), .second, .val (.long q3), .second, .val (.long q4), .second, .val (.long bal), .second, .val (.long held), .second, .val (.long room), .second, .val (.long (if room < (9223372036854775807 : Int64) then ((q3 &&& (9223372036854775807 : Int64)) - (q3 &&& (9223372036854775807 : Int64)) / (room + (1 : Int64)) * (room + (1 : Int64))) else (q3 &&& (9223372036854775807 : Int64)))), .second, .unset, .unset, .unset, .unset, .unset, .unset, .unset, .unset, .unset, .unset] [])) t → Steps p.tables e below (s₁.setTop (entryFrame m #[(.long q1), (.long q2), (.long q3), (.long q4)] maxLocals)) t := fun t k => pre7 t (by
    show Steps p.tables e below (s₁.setTop (mkF m 54 #[.val (.long q1), .second, .val (.long q2), .second, .val (.long q3), .second, .val (.long q4), .second, .val (.long bal), .second, .val (.long held), .second, .val (.long room), .second, .val (.long (q3 &&& (9223372036854775807 : Int64))), .second, .unset, .unset, .unset, .unset, .unset, .unset, .unset, .unset, .unset, .unset] [(.int (XT.cmpL room (9223372036854775807 : Int64)))])) t
    by_cases hc54_6 : room < (9223372036854775807 : Int64)
    · simp only [if_pos hc54_6] at k
      refine XS.ifNo X0.here hx rfl (hb hby at_54) rfl (XT.ll_ge_f hc54_6) ?_
      show Steps p.tables e below (s₁.setTop (mkF m 57 #[.val (.long q1), .second, .val (.long q2), .second, .val (.long q3), .second, .val (.long q4), .second, .val (.long bal), .second, .val (.long held), .second, .val (.long room), .second, .val (.long (q3 &&& (9223372036854775807 : Int64))), .second, .unset, .unset, .unset, .unset, .unset, .unset, .unset, .unset, .unset, .unset] [])) t
      refine XT.lload X0.here hx rfl (hb hby at_57) rfl ?_
      show Steps p.tables e below (s₁.setTop (mkF m 59 #[.val (.long q1), .second, .val (.long q2), .second, .val (.long q3), .second, .val (.long q4), .second, .val (.long bal), .second, .val (.long held), .second, .val (.long room), .second, .val (.long (q3 &&& (9223372036854775807 : Int64))), .second, .unset, .unset, .unset, .unset, .unset, .unset, .unset, .unset, .unset, .unset] [(.long (q3 &&& (9223372036854775807 : Int64)))])) t
      refine XT.lload X0.here hx rfl (hb hby at_59) rfl ?_
      show Steps p.tables e below (s₁.setTop (mkF m 61 #[.val (.long q1), .second, .val (.long q2), .second, .val (.long q3), .second, .val (.long q4), .second, .val (.long bal), .second, .val (.long held), .second, .val (.long room), .second, .val (.long (q3 &&& (9223372036854775807 : Int64))), .second, .unset, .unset, .unset, .unset, .unset, .unset, .unset, .unset, .unset, .unset] [(.long room), (.long (q3 &&& (9223372036854775807 : Int64)))])) t
      refine XT.lconstV X0.here hx rfl (1 : Int64) (hb hby at_61) (by decide) ?_
      show Steps p.tables e below (s₁.setTop (mkF m 62 #[.val (.long q1), .second, .val (.long q2), .second, .val (.long q3), .second, .val (.long q4), .second, .val (.long bal), .second, .val (.long held), .second, .val (.long room), .second, .val (.long (q3 &&& (9223372036854775807 : Int64))), .second, .unset, .unset, .unset, .unset, .unset, .unset, .unset, .unset, .unset, .unset] [(.long (1 : Int64)), (.long room), (.long (q3 &&& (9223372036854775807 : Int64)))])) t
      refine XT.ladd X0.here hx rfl (hb hby at_62) rfl ?_
      show Steps p.tables e below (s₁.setTop (mkF m 63 #[.val (.long q1), .second, .val (.long q2), .second, .val (.long q3), .second, .val (.long q4), .second, .val (.long bal), .second, .val (.long held), .second, .val (.long room), .second, .val (.long (q3 &&& (9223372036854775807 : Int64))), .second, .unset, .unset, .unset, .unset, .unset, .unset, .unset, .unset, .unset, .unset] [(.long (room + (1 : Int64))), (.long (q3 &&& (9223372036854775807 : Int64)))])) t
      refine XT.lrem X0.here hx rfl (hb hby at_63) rfl (own_nz hroom (by assumption)) ?_
      show Steps p.tables e below (s₁.setTop (mkF m 64 #[.val (.long q1), .second, .val (.long q2), .second, .val (.long q3), .second, .val (.long q4), .second, .val (.long bal), .second, .val (.long held), .second, .val (.long room), .second, .val (.long (q3 &&& (9223372036854775807 : Int64))), .second, .unset, .unset, .unset, .unset, .unset, .unset, .unset, .unset, .unset, .unset] [(.long ((q3 &&& (9223372036854775807 : Int64)) - (q3 &&& (9223372036854775807 : Int64)) / (room + (1 : Int64)) * (room + (1 : Int64))))])) t
      refine XT.lstore X0.here hx rfl (hb hby at_64) rfl (l' := #[.val (.long q1), .second, .val (.long q2), .second, .val (.long q3), .second, .val (.long q4), .second, .val (.long bal), .second, .val (.long held), .second, .val (.long room), .second, .val (.long ((q3 &&& (9223372036854775807 : Int64)) - (q3 &&& (9223372036854775807 : Int64)) / (room + (1 : Int64)) * (room + (1 : Int64)))), .second, .unset, .unset, .unset, .unset, .unset, .unset, .unset, .unset, .unset, .unset]) rfl ?_
      show Steps p.tables e below (s₁.setTop (mkF m 66 #[.val (.long q1), .second, .val (.long q2), .second, .val (.long q3), .second, .val (.long q4), .second, .val (.long bal), .second, .val (.long held), .second, .val (.long room), .second, .val (.long ((q3 &&& (9223372036854775807 : Int64)) - (q3 &&& (9223372036854775807 : Int64)) / (room + (1 : Int64)) * (room + (1 : Int64)))), .second, .unset, .unset, .unset, .unset, .unset, .unset, .unset, .unset, .unset, .unset] [])) t
      exact k
    · simp only [if_neg hc54_6] at k
      refine XS.ifYes X0.here hx rfl (pc0 := 54) (pc' := 66) rfl (hb hby at_54) rfl (XT.ll_ge_t hc54_6) (by decide) (by decide) ?_
      show Steps p.tables e below (s₁.setTop (mkF m 66 #[.val (.long q1), .second, .val (.long q2), .second, .val (.long q3), .second, .val (.long q4), .second, .val (.long bal), .second, .val (.long held), .second, .val (.long room), .second, .val (.long (q3 &&& (9223372036854775807 : Int64))), .second, .unset, .unset, .unset, .unset, .unset, .unset, .unset, .unset, .unset, .unset] [])) t
      exact k)
  obtain ⟨pend, h_pend⟩ : ∃ z : Int64, z = (if room < (9223372036854775807 : Int64) then ((q3 &&& (9223372036854775807 : Int64)) - (q3 &&& (9223372036854775807 : Int64)) / (room + (1 : Int64)) * (room + (1 : Int64))) else (q3 &&& (9223372036854775807 : Int64))) := ⟨_, rfl⟩
  rw [← h_pend] at pre8
  have hpend : 0 ≤ pend.toInt ∧ pend.toInt ≤ ((9223372036854775807 : Int64) - bal).toInt := by rw [← h_room, h_pend]; exact own_mod hroom _
  obtain ⟨T9, h9, X9, eh9, E9, A9, D9, -, st9⟩ := newO X0 hx hZ hown (hw _ (List.mem_of_getElem? (i := 1) rfl)) (hw _ (List.mem_of_getElem? (i := 2) rfl)) (hw _ (List.mem_of_getElem? (i := 3) rfl)) eh0 (g := (mkF m 66 #[.val (.long q1), .second, .val (.long q2), .second, .val (.long q3), .second, .val (.long q4), .second, .val (.long bal), .second, .val (.long held), .second, .val (.long room), .second, .val (.long pend), .second, .unset, .unset, .unset, .unset, .unset, .unset, .unset, .unset, .unset, .unset] [])) rfl (hb hby at_66) (by decide) (by decide)
  obtain ⟨b9, gg9⟩ : ∃ z, z = h0.size := ⟨_, rfl⟩
  rw [← gg9] at A9 D9 st9
  have sz9 : n0 ≤ h9.size := Nat.le_trans Z0 E9.1
  have g_b9 : n0 ≤ b9 := Nat.le_trans Z0 (Nat.le_of_eq gg9.symm)
  have F_name_b9 : Fld Z h9 b9 "com/example/pledgeway/pledgeway/demo/ledger/Account" "name" "Ljava/lang/String;" .null := D9 (Or.inr (hw _ (List.mem_of_getElem? (i := 24) rfl))) (ty := (.object "java/lang/String")) (by decide)
  have F_balance_b9 : Fld Z h9 b9 "com/example/pledgeway/pledgeway/demo/ledger/Account" "balance" "J" (.long (0 : Int64)) := D9 (Or.inr (hw _ (List.mem_of_getElem? (i := 26) rfl))) (ty := .long) (by decide)
  have F_held_b9 : Fld Z h9 b9 "com/example/pledgeway/pledgeway/demo/ledger/Account" "held" "J" (.long (0 : Int64)) := D9 (Or.inr (hw _ (List.mem_of_getElem? (i := 28) rfl))) (ty := .long) (by decide)
  have F_pending_b9 : Fld Z h9 b9 "com/example/pledgeway/pledgeway/demo/ledger/Account" "pending" "J" (.long (0 : Int64)) := D9 (Or.inr (hw _ (List.mem_of_getElem? (i := 30) rfl))) (ty := .long) (by decide)
  have pre10 : ∀ t, Steps p.tables e below (T9.setTop (mkF m 69 #[.val (.long q1), .second, .val (.long q2), .second, .val (.long q3), .second, .val (.long q4), .second, .val (.long bal), .second, .val (.long held), .second, .val (.long room), .second, .val (.long pend), .second, .unset, .unset, .unset, .unset, .unset, .unset, .unset, .unset, .unset, .unset] [(.ref b9)])) t → Steps p.tables e below (s₁.setTop (entryFrame m #[(.long q1), (.long q2), (.long q3), (.long q4)] maxLocals)) t := fun t k => pre8 t (st9 _ k)
  have pre11 : ∀ t, Steps p.tables e below (T9.setTop (mkF m 70 #[.val (.long q1), .second, .val (.long q2), .second, .val (.long q3), .second, .val (.long q4), .second, .val (.long bal), .second, .val (.long held), .second, .val (.long room), .second, .val (.long pend), .second, .unset, .unset, .unset, .unset, .unset, .unset, .unset, .unset, .unset, .unset] [(.ref b9), (.ref b9)])) t → Steps p.tables e below (s₁.setTop (entryFrame m #[(.long q1), (.long q2), (.long q3), (.long q4)] maxLocals)) t := fun t k => pre10 t (by
    show Steps p.tables e below (T9.setTop (mkF m 69 #[.val (.long q1), .second, .val (.long q2), .second, .val (.long q3), .second, .val (.long q4), .second, .val (.long bal), .second, .val (.long held), .second, .val (.long room), .second, .val (.long pend), .second, .unset, .unset, .unset, .unset, .unset, .unset, .unset, .unset, .unset, .unset] [(.ref b9)])) t
    refine XS.dup X9.here hx rfl (hb hby at_69) rfl rfl ?_
    show Steps p.tables e below (T9.setTop (mkF m 70 #[.val (.long q1), .second, .val (.long q2), .second, .val (.long q3), .second, .val (.long q4), .second, .val (.long bal), .second, .val (.long held), .second, .val (.long room), .second, .val (.long pend), .second, .unset, .unset, .unset, .unset, .unset, .unset, .unset, .unset, .unset, .unset] [(.ref b9), (.ref b9)])) t
    exact k)
  obtain ⟨sa12, T12, h12, kk12, X12, eh12, E12, hS12, hk12, hZ12, ho12, st12⟩ := ldcS (s := s) (vm0 := s.vm) X9 hx hZ hown (hw _ (List.mem_of_getElem? (i := 4) rfl)) (own_str hw) eh9 (own_since s 0) (Nat.zero_le _) (g := (mkF m 70 #[.val (.long q1), .second, .val (.long q2), .second, .val (.long q3), .second, .val (.long q4), .second, .val (.long bal), .second, .val (.long held), .second, .val (.long room), .second, .val (.long pend), .second, .unset, .unset, .unset, .unset, .unset, .unset, .unset, .unset, .unset, .unset] [(.ref b9), (.ref b9)])) rfl (hb hby at_70) (n := 4) (by decide) (by decide) (by decide) (by decide)
  have A9__12 : Exa Z h12 b9 "com/example/pledgeway/pledgeway/demo/ledger/Account" := A9.ext E12
  have F_name_b9__12 : Fld Z h12 b9 "com/example/pledgeway/pledgeway/demo/ledger/Account" "name" "Ljava/lang/String;" .null := F_name_b9.ext E12
  have F_balance_b9__12 : Fld Z h12 b9 "com/example/pledgeway/pledgeway/demo/ledger/Account" "balance" "J" (.long (0 : Int64)) := F_balance_b9.ext E12
  have F_held_b9__12 : Fld Z h12 b9 "com/example/pledgeway/pledgeway/demo/ledger/Account" "held" "J" (.long (0 : Int64)) := F_held_b9.ext E12
  have F_pending_b9__12 : Fld Z h12 b9 "com/example/pledgeway/pledgeway/demo/ledger/Account" "pending" "J" (.long (0 : Int64)) := F_pending_b9.ext E12
  have sz12 : n0 ≤ h12.size := Nat.le_trans sz9 E12.1
  have pre13 : ∀ t, Steps p.tables e below (T12.setTop (mkF m 72 #[.val (.long q1), .second, .val (.long q2), .second, .val (.long q3), .second, .val (.long q4), .second, .val (.long bal), .second, .val (.long held), .second, .val (.long room), .second, .val (.long pend), .second, .unset, .unset, .unset, .unset, .unset, .unset, .unset, .unset, .unset, .unset] [(.ref sa12), (.ref b9), (.ref b9)])) t → Steps p.tables e below (s₁.setTop (entryFrame m #[(.long q1), (.long q2), (.long q3), (.long q4)] maxLocals)) t := fun t k => pre11 t (st12 _ k)
  have pre14 : ∀ t, Steps p.tables e below (T12.setTop (mkF m 78 #[.val (.long q1), .second, .val (.long q2), .second, .val (.long q3), .second, .val (.long q4), .second, .val (.long bal), .second, .val (.long held), .second, .val (.long room), .second, .val (.long pend), .second, .unset, .unset, .unset, .unset, .unset, .unset, .unset, .unset, .unset, .unset] [(.long pend), (.long held), (.long bal), (.ref sa12), (.ref b9), (.ref b9)])) t → Steps p.tables e below (s₁.setTop (entryFrame m #[(.long q1), (.long q2), (.long q3), (.long q4)] maxLocals)) t := fun t k => pre13 t (by
    show Steps p.tables e below (T12.setTop (mkF m 72 #[.val (.long q1), .second, .val (.long q2), .second, .val (.long q3), .second, .val (.long q4), .second, .val (.long bal), .second, .val (.long held), .second, .val (.long room), .second, .val (.long pend), .second, .unset, .unset, .unset, .unset, .unset, .unset, .unset, .unset, .unset, .unset] [(.ref sa12), (.ref b9), (.ref b9)])) t
    refine XT.lload X12.here hx rfl (hb hby at_72) rfl ?_
    show Steps p.tables e below (T12.setTop (mkF m 74 #[.val (.long q1), .second, .val (.long q2), .second, .val (.long q3), .second, .val (.long q4), .second, .val (.long bal), .second, .val (.long held), .second, .val (.long room), .second, .val (.long pend), .second, .unset, .unset, .unset, .unset, .unset, .unset, .unset, .unset, .unset, .unset] [(.long bal), (.ref sa12), (.ref b9), (.ref b9)])) t
    refine XT.lload X12.here hx rfl (hb hby at_74) rfl ?_
    show Steps p.tables e below (T12.setTop (mkF m 76 #[.val (.long q1), .second, .val (.long q2), .second, .val (.long q3), .second, .val (.long q4), .second, .val (.long bal), .second, .val (.long held), .second, .val (.long room), .second, .val (.long pend), .second, .unset, .unset, .unset, .unset, .unset, .unset, .unset, .unset, .unset, .unset] [(.long held), (.long bal), (.ref sa12), (.ref b9), (.ref b9)])) t
    refine XT.lload X12.here hx rfl (hb hby at_76) rfl ?_
    show Steps p.tables e below (T12.setTop (mkF m 78 #[.val (.long q1), .second, .val (.long q2), .second, .val (.long q3), .second, .val (.long q4), .second, .val (.long bal), .second, .val (.long held), .second, .val (.long room), .second, .val (.long pend), .second, .unset, .unset, .unset, .unset, .unset, .unset, .unset, .unset, .unset, .unset] [(.long pend), (.long held), (.long bal), (.ref sa12), (.ref b9), (.ref b9)])) t
    exact k)
  obtain ⟨_, _, ⟨T15, L15, k15, n15⟩, -, X15, ⟨Lc15, hQ15, l15, y15, z15⟩, st15⟩ := X12.specialBack hx (y := (⟨"com/example/pledgeway/pledgeway/demo/ledger/Account", "<init>", "(Ljava/lang/String;JJJ)V"⟩ : MethodName)) rfl ho12 (mvT hZ12 (hw _ (List.mem_of_getElem? (i := 12) rfl))) (mvT hZ12 (hw _ (List.mem_of_getElem? (i := 13) rfl))) (mvT hZ12 (hw _ (List.mem_of_getElem? (i := 14) rfl))) (by decide) (backOf (W := 1) (rm1 l Z a0 hw [] b9 sa12 bal held pend .null (.long (0 : Int64)) (.long (0 : Int64)) (.long (0 : Int64)) h12 n0 sz12 A9__12 F_name_b9__12 F_balance_b9__12 F_held_b9__12 F_pending_b9__12 g_b9) hZ12 (hw _ (List.mem_of_getElem? (i := 14) rfl)) (hw _ (List.mem_of_getElem? (i := 3) rfl)) (by decide) (by decide)) (g := (mkF m 78 #[.val (.long q1), .second, .val (.long q2), .second, .val (.long q3), .second, .val (.long q4), .second, .val (.long bal), .second, .val (.long held), .second, .val (.long room), .second, .val (.long pend), .second, .unset, .unset, .unset, .unset, .unset, .unset, .unset, .unset, .unset, .unset] [(.long pend), (.long held), (.long bal), (.ref sa12), (.ref b9), (.ref b9)])) rfl (by rw [hml]; rfl) (Steps.refl _) (a := b9) (argsL := [(.ref sa12), (.long bal), (.long held), (.long pend)]) (rest := [(.ref b9)]) (lenOf pd_oLjava_lang_String_JJJcV rfl) rfl (by show 2 * 0 + _ ≤ _; exact Nat.le_of_eq rfl) (hb hby at_78) (fun _ _ => ⟨rfl, eh12, (by decide : 3 + 0 ≤ _), (by decide : 12 + 0 ≤ _)⟩)
  dsimp only [Pt.U, Pt.locs, Pt.cells, Pt.slots] at X15 l15 y15 z15 st15 hQ15
  subst l15 y15 z15
  obtain ⟨rfl, N15q, Kq15, P15_1, P15_2, P15_3, P15_4, P15_5⟩ := hQ15
  have sz15 : n0 ≤ T15.heap.size := Nat.le_trans sz12 Kq15.1
  have hk15' := Nat.le_trans hk12 Kq15.1
  have N15 := Fr.app N0 N15q
  have pre16 : ∀ t, Steps p.tables e below (T15.setTop (mkF m 81 #[.val (.long q1), .second, .val (.long q2), .second, .val (.long q3), .second, .val (.long q4), .second, .val (.long bal), .second, .val (.long held), .second, .val (.long room), .second, .val (.long pend), .second, .unset, .unset, .unset, .unset, .unset, .unset, .unset, .unset, .unset, .unset] [(.ref b9)])) t → Steps p.tables e below (s₁.setTop (entryFrame m #[(.long q1), (.long q2), (.long q3), (.long q4)] maxLocals)) t := fun t k => pre14 t (st15.trans k)
  have pre17 : ∀ t, Steps p.tables e below (T15.setTop (mkF m 87 #[.val (.long q1), .second, .val (.long q2), .second, .val (.long q3), .second, .val (.long q4), .second, .val (.long bal), .second, .val (.long held), .second, .val (.long room), .second, .val (.long pend), .second, .val (.ref b9), .unset, .unset, .unset, .unset, .unset, .unset, .unset, .unset, .unset] [(.long q4), (.ref b9)])) t → Steps p.tables e below (s₁.setTop (entryFrame m #[(.long q1), (.long q2), (.long q3), (.long q4)] maxLocals)) t := fun t k => pre16 t (by
    show Steps p.tables e below (T15.setTop (mkF m 81 #[.val (.long q1), .second, .val (.long q2), .second, .val (.long q3), .second, .val (.long q4), .second, .val (.long bal), .second, .val (.long held), .second, .val (.long room), .second, .val (.long pend), .second, .unset, .unset, .unset, .unset, .unset, .unset, .unset, .unset, .unset, .unset] [(.ref b9)])) t
    refine XS.astore X15.here hx rfl (hb hby at_81) rfl rfl (l' := #[.val (.long q1), .second, .val (.long q2), .second, .val (.long q3), .second, .val (.long q4), .second, .val (.long bal), .second, .val (.long held), .second, .val (.long room), .second, .val (.long pend), .second, .val (.ref b9), .unset, .unset, .unset, .unset, .unset, .unset, .unset, .unset, .unset]) rfl ?_
    show Steps p.tables e below (T15.setTop (mkF m 83 #[.val (.long q1), .second, .val (.long q2), .second, .val (.long q3), .second, .val (.long q4), .second, .val (.long bal), .second, .val (.long held), .second, .val (.long room), .second, .val (.long pend), .second, .val (.ref b9), .unset, .unset, .unset, .unset, .unset, .unset, .unset, .unset, .unset] [])) t
    refine XS.aload X15.here hx rfl (hb hby at_83) rfl rfl ?_
    show Steps p.tables e below (T15.setTop (mkF m 85 #[.val (.long q1), .second, .val (.long q2), .second, .val (.long q3), .second, .val (.long q4), .second, .val (.long bal), .second, .val (.long held), .second, .val (.long room), .second, .val (.long pend), .second, .val (.ref b9), .unset, .unset, .unset, .unset, .unset, .unset, .unset, .unset, .unset] [(.ref b9)])) t
    refine XT.lload X15.here hx rfl (hb hby at_85) rfl ?_
    show Steps p.tables e below (T15.setTop (mkF m 87 #[.val (.long q1), .second, .val (.long q2), .second, .val (.long q3), .second, .val (.long q4), .second, .val (.long bal), .second, .val (.long held), .second, .val (.long room), .second, .val (.long pend), .second, .val (.ref b9), .unset, .unset, .unset, .unset, .unset, .unset, .unset, .unset, .unset] [(.long q4), (.ref b9)])) t
    exact k)
  obtain ⟨cq18, kq18, q18a, q18b, q18c⟩ := isOf hZ12 rfl P15_1
  obtain ⟨_, _, ⟨T18, L18, k18, n18⟩, -, X18, ⟨Lc18, hQ18, l18, y18, z18⟩, st18⟩ := X15.virtualBack hx (y := (⟨"com/example/pledgeway/pledgeway/demo/ledger/Account", "canReserve", "(J)Z"⟩ : MethodName)) (z := (⟨"com/example/pledgeway/pledgeway/demo/ledger/Account", "canReserve", "(J)Z"⟩ : MethodName)) ho12 (mvT hZ12 (hw _ (List.mem_of_getElem? (i := 31) rfl))) (mvT hZ12 (hw _ (List.mem_of_getElem? (i := 32) rfl))) (notFace_of_selects (args := #[]) (mvT hZ12 (hw _ (List.mem_of_getElem? (i := 34) rfl)))) (mvT hZ12 (hw _ (List.mem_of_getElem? (i := 34) rfl))) (mvT hZ12 (hw _ (List.mem_of_getElem? (i := 33) rfl))) (by decide) (backOf (W := 0) (rm4 l Z a0 hw [] b9 q4 sa12 bal held pend T15.heap n0 sz15 P15_2 P15_3 P15_4 P15_5) hZ12 (hw _ (List.mem_of_getElem? (i := 35) rfl)) (hw _ (List.mem_of_getElem? (i := 3) rfl)) (by decide) (by decide)) q18a q18c (g := (mkF m 87 #[.val (.long q1), .second, .val (.long q2), .second, .val (.long q3), .second, .val (.long q4), .second, .val (.long bal), .second, .val (.long held), .second, .val (.long room), .second, .val (.long pend), .second, .val (.ref b9), .unset, .unset, .unset, .unset, .unset, .unset, .unset, .unset, .unset] [(.long q4), (.ref b9)])) rfl (by rw [hml]; rfl) (Steps.refl _) (argsL := [(.long q4)]) (rest := []) (lenOf pd_oJcZ rfl) rfl (by show 2 * 0 + _ ≤ _; exact Nat.le_of_eq rfl) (hb hby at_87) (fun _ _ => ⟨rfl, rfl, (by decide : 3 + 0 ≤ _), (by decide : 12 + 0 ≤ _)⟩)
  dsimp only [Pt.U, Pt.locs, Pt.cells, Pt.slots] at X18 l18 y18 z18 st18 hQ18
  subst l18 y18 z18
  obtain ⟨rfl, N18q, eh18⟩ := hQ18
  have N18 := Fr.app N15 N18q
  have pre19 : ∀ t, Steps p.tables e below (T18.setTop (mkF m 90 #[.val (.long q1), .second, .val (.long q2), .second, .val (.long q3), .second, .val (.long q4), .second, .val (.long bal), .second, .val (.long held), .second, .val (.long room), .second, .val (.long pend), .second, .val (.ref b9), .unset, .unset, .unset, .unset, .unset, .unset, .unset, .unset, .unset] [(.int (own_can bal held pend q4))])) t → Steps p.tables e below (s₁.setTop (entryFrame m #[(.long q1), (.long q2), (.long q3), (.long q4)] maxLocals)) t := fun t k => pre17 t (st18.trans k)
  have pre20 : ∀ t, Steps p.tables e below (T18.setTop (mkF m 96 #[.val (.long q1), .second, .val (.long q2), .second, .val (.long q3), .second, .val (.long q4), .second, .val (.long bal), .second, .val (.long held), .second, .val (.long room), .second, .val (.long pend), .second, .val (.ref b9), .val (.int (own_can bal held pend q4)), .unset, .unset, .unset, .unset, .unset, .unset, .unset, .unset] [(.long q4), (.ref b9)])) t → Steps p.tables e below (s₁.setTop (entryFrame m #[(.long q1), (.long q2), (.long q3), (.long q4)] maxLocals)) t := fun t k => pre19 t (by
    show Steps p.tables e below (T18.setTop (mkF m 90 #[.val (.long q1), .second, .val (.long q2), .second, .val (.long q3), .second, .val (.long q4), .second, .val (.long bal), .second, .val (.long held), .second, .val (.long room), .second, .val (.long pend), .second, .val (.ref b9), .unset, .unset, .unset, .unset, .unset, .unset, .unset, .unset, .unset] [(.int (own_can bal held pend q4))])) t
    refine XS.istore X18.here hx rfl (hb hby at_90) rfl (l' := #[.val (.long q1), .second, .val (.long q2), .second, .val (.long q3), .second, .val (.long q4), .second, .val (.long bal), .second, .val (.long held), .second, .val (.long room), .second, .val (.long pend), .second, .val (.ref b9), .val (.int (own_can bal held pend q4)), .unset, .unset, .unset, .unset, .unset, .unset, .unset, .unset]) rfl ?_
    show Steps p.tables e below (T18.setTop (mkF m 92 #[.val (.long q1), .second, .val (.long q2), .second, .val (.long q3), .second, .val (.long q4), .second, .val (.long bal), .second, .val (.long held), .second, .val (.long room), .second, .val (.long pend), .second, .val (.ref b9), .val (.int (own_can bal held pend q4)), .unset, .unset, .unset, .unset, .unset, .unset, .unset, .unset] [])) t
    refine XS.aload X18.here hx rfl (hb hby at_92) rfl rfl ?_
    show Steps p.tables e below (T18.setTop (mkF m 94 #[.val (.long q1), .second, .val (.long q2), .second, .val (.long q3), .second, .val (.long q4), .second, .val (.long bal), .second, .val (.long held), .second, .val (.long room), .second, .val (.long pend), .second, .val (.ref b9), .val (.int (own_can bal held pend q4)), .unset, .unset, .unset, .unset, .unset, .unset, .unset, .unset] [(.ref b9)])) t
    refine XT.lload X18.here hx rfl (hb hby at_94) rfl ?_
    show Steps p.tables e below (T18.setTop (mkF m 96 #[.val (.long q1), .second, .val (.long q2), .second, .val (.long q3), .second, .val (.long q4), .second, .val (.long bal), .second, .val (.long held), .second, .val (.long room), .second, .val (.long pend), .second, .val (.ref b9), .val (.int (own_can bal held pend q4)), .unset, .unset, .unset, .unset, .unset, .unset, .unset, .unset] [(.long q4), (.ref b9)])) t
    exact k)
  obtain ⟨cq21, kq21, q21a, q21b, q21c⟩ := isOf hZ12 eh18 P15_1
  obtain ⟨_, _, ⟨T21, L21, k21, n21⟩, -, X21, ⟨Lc21, hQ21, l21, y21, z21⟩, st21⟩ := X18.virtualBack hx (y := (⟨"com/example/pledgeway/pledgeway/demo/ledger/Account", "reserve", "(J)Lcom/example/pledgeway/pledgeway/demo/ledger/Account;"⟩ : MethodName)) (z := (⟨"com/example/pledgeway/pledgeway/demo/ledger/Account", "reserve", "(J)Lcom/example/pledgeway/pledgeway/demo/ledger/Account;"⟩ : MethodName)) ho12 (mvT hZ12 (hw _ (List.mem_of_getElem? (i := 37) rfl))) (mvT hZ12 (hw _ (List.mem_of_getElem? (i := 38) rfl))) (notFace_of_selects (args := #[]) (mvT hZ12 (hw _ (List.mem_of_getElem? (i := 40) rfl)))) (mvT hZ12 (hw _ (List.mem_of_getElem? (i := 40) rfl))) (mvT hZ12 (hw _ (List.mem_of_getElem? (i := 39) rfl))) (by decide) (backOf (W := 0) (rm5 l Z a0 hw [] b9 q4 sa12 bal held pend T15.heap n0 sz15 P15_2 P15_3 P15_4 P15_5) hZ12 (hw _ (List.mem_of_getElem? (i := 41) rfl)) (hw _ (List.mem_of_getElem? (i := 3) rfl)) (by decide) (by decide)) q21a q21c (g := (mkF m 96 #[.val (.long q1), .second, .val (.long q2), .second, .val (.long q3), .second, .val (.long q4), .second, .val (.long bal), .second, .val (.long held), .second, .val (.long room), .second, .val (.long pend), .second, .val (.ref b9), .val (.int (own_can bal held pend q4)), .unset, .unset, .unset, .unset, .unset, .unset, .unset, .unset] [(.long q4), (.ref b9)])) rfl (by rw [hml]; rfl) (Steps.refl _) (argsL := [(.long q4)]) (rest := []) (lenOf pd_oJcLcom_example_pledgeway_pledgeway_demo_ledger_Account_ rfl) rfl (by show 2 * 0 + _ ≤ _; exact Nat.le_of_eq rfl) (hb hby at_96) (fun _ _ => ⟨rfl, eh18, (by decide : 3 + 1 ≤ _), (by decide : 12 + 4 ≤ _)⟩)
  dsimp only [Pt.U, Pt.locs, Pt.cells, Pt.slots] at X21 l21 y21 z21 st21 hQ21
  subst l21 y21 z21
  obtain ⟨bb_21, rfl, N21q, Kq21, P21_1, P21_2, P21_3, P21_4, P21_5⟩ := hQ21
  have P15_1__21 : Exa Z T21.heap b9 "com/example/pledgeway/pledgeway/demo/ledger/Account" := P15_1.keep Kq21
  have P15_2__21 : Fld Z T21.heap b9 "com/example/pledgeway/pledgeway/demo/ledger/Account" "name" "Ljava/lang/String;" (.ref sa12) := P15_2.keep Kq21 nin0
  have P15_3__21 : Fld Z T21.heap b9 "com/example/pledgeway/pledgeway/demo/ledger/Account" "balance" "J" (.long bal) := P15_3.keep Kq21 nin0
  have P15_4__21 : Fld Z T21.heap b9 "com/example/pledgeway/pledgeway/demo/ledger/Account" "held" "J" (.long held) := P15_4.keep Kq21 nin0
  have P15_5__21 : Fld Z T21.heap b9 "com/example/pledgeway/pledgeway/demo/ledger/Account" "pending" "J" (.long pend) := P15_5.keep Kq21 nin0
  have ne_b9_bb_21 : b9 ≠ bb_21 := Nat.ne_of_lt (Nat.lt_of_lt_of_le P15_1.lt P21_1)
  have g_bb_21 : n0 ≤ bb_21 := Nat.le_trans sz15 P21_1
  have sz21 : n0 ≤ T21.heap.size := Nat.le_trans sz15 Kq21.1
  have hk21' := Nat.le_trans hk15' Kq21.1
  have N21 := Fr.app N18 N21q
  have pre22 : ∀ t, Steps p.tables e below (T21.setTop (mkF m 99 #[.val (.long q1), .second, .val (.long q2), .second, .val (.long q3), .second, .val (.long q4), .second, .val (.long bal), .second, .val (.long held), .second, .val (.long room), .second, .val (.long pend), .second, .val (.ref b9), .val (.int (own_can bal held pend q4)), .unset, .unset, .unset, .unset, .unset, .unset, .unset, .unset] [(.ref bb_21)])) t → Steps p.tables e below (s₁.setTop (entryFrame m #[(.long q1), (.long q2), (.long q3), (.long q4)] maxLocals)) t := fun t k => pre20 t (st21.trans k)
  have pre23 : ∀ t, Steps p.tables e below (T21.setTop (mkF m 103 #[.val (.long q1), .second, .val (.long q2), .second, .val (.long q3), .second, .val (.long q4), .second, .val (.long bal), .second, .val (.long held), .second, .val (.long room), .second, .val (.long pend), .second, .val (.ref b9), .val (.int (own_can bal held pend q4)), .val (.ref bb_21), .unset, .unset, .unset, .unset, .unset, .unset, .unset] [(.ref bb_21)])) t → Steps p.tables e below (s₁.setTop (entryFrame m #[(.long q1), (.long q2), (.long q3), (.long q4)] maxLocals)) t := fun t k => pre22 t (by
    show Steps p.tables e below (T21.setTop (mkF m 99 #[.val (.long q1), .second, .val (.long q2), .second, .val (.long q3), .second, .val (.long q4), .second, .val (.long bal), .second, .val (.long held), .second, .val (.long room), .second, .val (.long pend), .second, .val (.ref b9), .val (.int (own_can bal held pend q4)), .unset, .unset, .unset, .unset, .unset, .unset, .unset, .unset] [(.ref bb_21)])) t
    refine XS.astore X21.here hx rfl (hb hby at_99) rfl rfl (l' := #[.val (.long q1), .second, .val (.long q2), .second, .val (.long q3), .second, .val (.long q4), .second, .val (.long bal), .second, .val (.long held), .second, .val (.long room), .second, .val (.long pend), .second, .val (.ref b9), .val (.int (own_can bal held pend q4)), .val (.ref bb_21), .unset, .unset, .unset, .unset, .unset, .unset, .unset]) rfl ?_
    show Steps p.tables e below (T21.setTop (mkF m 101 #[.val (.long q1), .second, .val (.long q2), .second, .val (.long q3), .second, .val (.long q4), .second, .val (.long bal), .second, .val (.long held), .second, .val (.long room), .second, .val (.long pend), .second, .val (.ref b9), .val (.int (own_can bal held pend q4)), .val (.ref bb_21), .unset, .unset, .unset, .unset, .unset, .unset, .unset] [])) t
    refine XS.aload X21.here hx rfl (hb hby at_101) rfl rfl ?_
    show Steps p.tables e below (T21.setTop (mkF m 103 #[.val (.long q1), .second, .val (.long q2), .second, .val (.long q3), .second, .val (.long q4), .second, .val (.long bal), .second, .val (.long held), .second, .val (.long room), .second, .val (.long pend), .second, .val (.ref b9), .val (.int (own_can bal held pend q4)), .val (.ref bb_21), .unset, .unset, .unset, .unset, .unset, .unset, .unset] [(.ref bb_21)])) t
    exact k)
  obtain ⟨cq24, kq24, q24a, q24b, q24c⟩ := isOf hZ12 rfl P21_2
  obtain ⟨_, _, ⟨T24, L24, k24, n24⟩, -, X24, ⟨Lc24, hQ24, l24, y24, z24⟩, st24⟩ := X21.virtualBack hx (y := (⟨"com/example/pledgeway/pledgeway/demo/ledger/Account", "balance", "()J"⟩ : MethodName)) (z := (⟨"com/example/pledgeway/pledgeway/demo/ledger/Account", "balance", "()J"⟩ : MethodName)) ho12 (mvT hZ12 (hw _ (List.mem_of_getElem? (i := 44) rfl))) (mvT hZ12 (hw _ (List.mem_of_getElem? (i := 45) rfl))) (notFace_of_selects (args := #[]) (mvT hZ12 (hw _ (List.mem_of_getElem? (i := 47) rfl)))) (mvT hZ12 (hw _ (List.mem_of_getElem? (i := 47) rfl))) (mvT hZ12 (hw _ (List.mem_of_getElem? (i := 46) rfl))) (by decide) (backOf (W := 0) (rm6 l Z a0 hw [] bb_21 bal T21.heap n0 sz21 P21_3) hZ12 (hw _ (List.mem_of_getElem? (i := 48) rfl)) (hw _ (List.mem_of_getElem? (i := 3) rfl)) (by decide) (by decide)) q24a q24c (g := (mkF m 103 #[.val (.long q1), .second, .val (.long q2), .second, .val (.long q3), .second, .val (.long q4), .second, .val (.long bal), .second, .val (.long held), .second, .val (.long room), .second, .val (.long pend), .second, .val (.ref b9), .val (.int (own_can bal held pend q4)), .val (.ref bb_21), .unset, .unset, .unset, .unset, .unset, .unset, .unset] [(.ref bb_21)])) rfl (by rw [hml]; rfl) (Steps.refl _) (argsL := []) (rest := []) (lenOf pd_ocJ rfl) rfl (by show 2 * 0 + _ ≤ _; exact Nat.le_of_eq rfl) (hb hby at_103) (fun _ _ => ⟨rfl, rfl, (by decide : 4 + 0 ≤ _), (by decide : 16 + 0 ≤ _)⟩)
  dsimp only [Pt.U, Pt.locs, Pt.cells, Pt.slots] at X24 l24 y24 z24 st24 hQ24
  subst l24 y24 z24
  obtain ⟨rfl, N24q, eh24⟩ := hQ24
  have N24 := Fr.app N21 N24q
  have pre25 : ∀ t, Steps p.tables e below (T24.setTop (mkF m 106 #[.val (.long q1), .second, .val (.long q2), .second, .val (.long q3), .second, .val (.long q4), .second, .val (.long bal), .second, .val (.long held), .second, .val (.long room), .second, .val (.long pend), .second, .val (.ref b9), .val (.int (own_can bal held pend q4)), .val (.ref bb_21), .unset, .unset, .unset, .unset, .unset, .unset, .unset] [(.long bal)])) t → Steps p.tables e below (s₁.setTop (entryFrame m #[(.long q1), (.long q2), (.long q3), (.long q4)] maxLocals)) t := fun t k => pre23 t (st24.trans k)
  have pre26 : ∀ t, Steps p.tables e below (T24.setTop (mkF m 110 #[.val (.long q1), .second, .val (.long q2), .second, .val (.long q3), .second, .val (.long q4), .second, .val (.long bal), .second, .val (.long held), .second, .val (.long room), .second, .val (.long pend), .second, .val (.ref b9), .val (.int (own_can bal held pend q4)), .val (.ref bb_21), .val (.long bal), .second, .unset, .unset, .unset, .unset, .unset] [(.ref bb_21)])) t → Steps p.tables e below (s₁.setTop (entryFrame m #[(.long q1), (.long q2), (.long q3), (.long q4)] maxLocals)) t := fun t k => pre25 t (by
    show Steps p.tables e below (T24.setTop (mkF m 106 #[.val (.long q1), .second, .val (.long q2), .second, .val (.long q3), .second, .val (.long q4), .second, .val (.long bal), .second, .val (.long held), .second, .val (.long room), .second, .val (.long pend), .second, .val (.ref b9), .val (.int (own_can bal held pend q4)), .val (.ref bb_21), .unset, .unset, .unset, .unset, .unset, .unset, .unset] [(.long bal)])) t
    refine XT.lstore X24.here hx rfl (hb hby at_106) rfl (l' := #[.val (.long q1), .second, .val (.long q2), .second, .val (.long q3), .second, .val (.long q4), .second, .val (.long bal), .second, .val (.long held), .second, .val (.long room), .second, .val (.long pend), .second, .val (.ref b9), .val (.int (own_can bal held pend q4)), .val (.ref bb_21), .val (.long bal), .second, .unset, .unset, .unset, .unset, .unset]) rfl ?_
    show Steps p.tables e below (T24.setTop (mkF m 108 #[.val (.long q1), .second, .val (.long q2), .second, .val (.long q3), .second, .val (.long q4), .second, .val (.long bal), .second, .val (.long held), .second, .val (.long room), .second, .val (.long pend), .second, .val (.ref b9), .val (.int (own_can bal held pend q4)), .val (.ref bb_21), .val (.long bal), .second, .unset, .unset, .unset, .unset, .unset] [])) t
    refine XS.aload X24.here hx rfl (hb hby at_108) rfl rfl ?_
    show Steps p.tables e below (T24.setTop (mkF m 110 #[.val (.long q1), .second, .val (.long q2), .second, .val (.long q3), .second, .val (.long q4), .second, .val (.long bal), .second, .val (.long held), .second, .val (.long room), .second, .val (.long pend), .second, .val (.ref b9), .val (.int (own_can bal held pend q4)), .val (.ref bb_21), .val (.long bal), .second, .unset, .unset, .unset, .unset, .unset] [(.ref bb_21)])) t
    exact k)
  obtain ⟨cq27, kq27, q27a, q27b, q27c⟩ := isOf hZ12 eh24 P21_2
  obtain ⟨_, _, ⟨T27, L27, k27, n27⟩, -, X27, ⟨Lc27, hQ27, l27, y27, z27⟩, st27⟩ := X24.virtualBack hx (y := (⟨"com/example/pledgeway/pledgeway/demo/ledger/Account", "held", "()J"⟩ : MethodName)) (z := (⟨"com/example/pledgeway/pledgeway/demo/ledger/Account", "held", "()J"⟩ : MethodName)) ho12 (mvT hZ12 (hw _ (List.mem_of_getElem? (i := 49) rfl))) (mvT hZ12 (hw _ (List.mem_of_getElem? (i := 50) rfl))) (notFace_of_selects (args := #[]) (mvT hZ12 (hw _ (List.mem_of_getElem? (i := 52) rfl)))) (mvT hZ12 (hw _ (List.mem_of_getElem? (i := 52) rfl))) (mvT hZ12 (hw _ (List.mem_of_getElem? (i := 51) rfl))) (by decide) (backOf (W := 0) (rm7 l Z a0 hw [] bb_21 (own_hd held q4) T21.heap n0 sz21 P21_4) hZ12 (hw _ (List.mem_of_getElem? (i := 53) rfl)) (hw _ (List.mem_of_getElem? (i := 3) rfl)) (by decide) (by decide)) q27a q27c (g := (mkF m 110 #[.val (.long q1), .second, .val (.long q2), .second, .val (.long q3), .second, .val (.long q4), .second, .val (.long bal), .second, .val (.long held), .second, .val (.long room), .second, .val (.long pend), .second, .val (.ref b9), .val (.int (own_can bal held pend q4)), .val (.ref bb_21), .val (.long bal), .second, .unset, .unset, .unset, .unset, .unset] [(.ref bb_21)])) rfl (by rw [hml]; rfl) (Steps.refl _) (argsL := []) (rest := []) (lenOf pd_ocJ rfl) rfl (by show 2 * 0 + _ ≤ _; exact Nat.le_of_eq rfl) (hb hby at_110) (fun _ _ => ⟨rfl, eh24, (by decide : 4 + 0 ≤ _), (by decide : 16 + 0 ≤ _)⟩)
  dsimp only [Pt.U, Pt.locs, Pt.cells, Pt.slots] at X27 l27 y27 z27 st27 hQ27
  subst l27 y27 z27
  obtain ⟨rfl, N27q, eh27⟩ := hQ27
  have N27 := Fr.app N24 N27q
  have pre28 : ∀ t, Steps p.tables e below (T27.setTop (mkF m 113 #[.val (.long q1), .second, .val (.long q2), .second, .val (.long q3), .second, .val (.long q4), .second, .val (.long bal), .second, .val (.long held), .second, .val (.long room), .second, .val (.long pend), .second, .val (.ref b9), .val (.int (own_can bal held pend q4)), .val (.ref bb_21), .val (.long bal), .second, .unset, .unset, .unset, .unset, .unset] [(.long (own_hd held q4))])) t → Steps p.tables e below (s₁.setTop (entryFrame m #[(.long q1), (.long q2), (.long q3), (.long q4)] maxLocals)) t := fun t k => pre26 t (st27.trans k)
  have pre29 : ∀ t, Steps p.tables e below (T27.setTop (mkF m 117 #[.val (.long q1), .second, .val (.long q2), .second, .val (.long q3), .second, .val (.long q4), .second, .val (.long bal), .second, .val (.long held), .second, .val (.long room), .second, .val (.long pend), .second, .val (.ref b9), .val (.int (own_can bal held pend q4)), .val (.ref bb_21), .val (.long bal), .second, .val (.long (own_hd held q4)), .second, .unset, .unset, .unset] [(.ref bb_21)])) t → Steps p.tables e below (s₁.setTop (entryFrame m #[(.long q1), (.long q2), (.long q3), (.long q4)] maxLocals)) t := fun t k => pre28 t (by
    show Steps p.tables e below (T27.setTop (mkF m 113 #[.val (.long q1), .second, .val (.long q2), .second, .val (.long q3), .second, .val (.long q4), .second, .val (.long bal), .second, .val (.long held), .second, .val (.long room), .second, .val (.long pend), .second, .val (.ref b9), .val (.int (own_can bal held pend q4)), .val (.ref bb_21), .val (.long bal), .second, .unset, .unset, .unset, .unset, .unset] [(.long (own_hd held q4))])) t
    refine XT.lstore X27.here hx rfl (hb hby at_113) rfl (l' := #[.val (.long q1), .second, .val (.long q2), .second, .val (.long q3), .second, .val (.long q4), .second, .val (.long bal), .second, .val (.long held), .second, .val (.long room), .second, .val (.long pend), .second, .val (.ref b9), .val (.int (own_can bal held pend q4)), .val (.ref bb_21), .val (.long bal), .second, .val (.long (own_hd held q4)), .second, .unset, .unset, .unset]) rfl ?_
    show Steps p.tables e below (T27.setTop (mkF m 115 #[.val (.long q1), .second, .val (.long q2), .second, .val (.long q3), .second, .val (.long q4), .second, .val (.long bal), .second, .val (.long held), .second, .val (.long room), .second, .val (.long pend), .second, .val (.ref b9), .val (.int (own_can bal held pend q4)), .val (.ref bb_21), .val (.long bal), .second, .val (.long (own_hd held q4)), .second, .unset, .unset, .unset] [])) t
    refine XS.aload X27.here hx rfl (hb hby at_115) rfl rfl ?_
    show Steps p.tables e below (T27.setTop (mkF m 117 #[.val (.long q1), .second, .val (.long q2), .second, .val (.long q3), .second, .val (.long q4), .second, .val (.long bal), .second, .val (.long held), .second, .val (.long room), .second, .val (.long pend), .second, .val (.ref b9), .val (.int (own_can bal held pend q4)), .val (.ref bb_21), .val (.long bal), .second, .val (.long (own_hd held q4)), .second, .unset, .unset, .unset] [(.ref bb_21)])) t
    exact k)
  obtain ⟨cq30, kq30, q30a, q30b, q30c⟩ := isOf hZ12 eh27 P21_2
  obtain ⟨_, _, ⟨T30, L30, k30, n30⟩, -, X30, ⟨Lc30, hQ30, l30, y30, z30⟩, st30⟩ := X27.virtualBack hx (y := (⟨"com/example/pledgeway/pledgeway/demo/ledger/Account", "pending", "()J"⟩ : MethodName)) (z := (⟨"com/example/pledgeway/pledgeway/demo/ledger/Account", "pending", "()J"⟩ : MethodName)) ho12 (mvT hZ12 (hw _ (List.mem_of_getElem? (i := 54) rfl))) (mvT hZ12 (hw _ (List.mem_of_getElem? (i := 55) rfl))) (notFace_of_selects (args := #[]) (mvT hZ12 (hw _ (List.mem_of_getElem? (i := 57) rfl)))) (mvT hZ12 (hw _ (List.mem_of_getElem? (i := 57) rfl))) (mvT hZ12 (hw _ (List.mem_of_getElem? (i := 56) rfl))) (by decide) (backOf (W := 0) (rm8 l Z a0 hw [] bb_21 (own_pd pend q4) T21.heap n0 sz21 P21_5) hZ12 (hw _ (List.mem_of_getElem? (i := 58) rfl)) (hw _ (List.mem_of_getElem? (i := 3) rfl)) (by decide) (by decide)) q30a q30c (g := (mkF m 117 #[.val (.long q1), .second, .val (.long q2), .second, .val (.long q3), .second, .val (.long q4), .second, .val (.long bal), .second, .val (.long held), .second, .val (.long room), .second, .val (.long pend), .second, .val (.ref b9), .val (.int (own_can bal held pend q4)), .val (.ref bb_21), .val (.long bal), .second, .val (.long (own_hd held q4)), .second, .unset, .unset, .unset] [(.ref bb_21)])) rfl (by rw [hml]; rfl) (Steps.refl _) (argsL := []) (rest := []) (lenOf pd_ocJ rfl) rfl (by show 2 * 0 + _ ≤ _; exact Nat.le_of_eq rfl) (hb hby at_117) (fun _ _ => ⟨rfl, eh27, (by decide : 4 + 0 ≤ _), (by decide : 16 + 0 ≤ _)⟩)
  dsimp only [Pt.U, Pt.locs, Pt.cells, Pt.slots] at X30 l30 y30 z30 st30 hQ30
  subst l30 y30 z30
  obtain ⟨rfl, N30q, eh30⟩ := hQ30
  have N30 := Fr.app N27 N30q
  have pre31 : ∀ t, Steps p.tables e below (T30.setTop (mkF m 120 #[.val (.long q1), .second, .val (.long q2), .second, .val (.long q3), .second, .val (.long q4), .second, .val (.long bal), .second, .val (.long held), .second, .val (.long room), .second, .val (.long pend), .second, .val (.ref b9), .val (.int (own_can bal held pend q4)), .val (.ref bb_21), .val (.long bal), .second, .val (.long (own_hd held q4)), .second, .unset, .unset, .unset] [(.long (own_pd pend q4))])) t → Steps p.tables e below (s₁.setTop (entryFrame m #[(.long q1), (.long q2), (.long q3), (.long q4)] maxLocals)) t := fun t k => pre29 t (st30.trans k)
  have pre34 : ∀ t, Steps p.tables e below (T30.setTop (mkF m 134 #[.val (.long q1), .second, .val (.long q2), .second, .val (.long q3), .second, .val (.long q4), .second, .val (.long bal), .second, .val (.long held), .second, .val (.long room), .second, .val (.long pend), .second, .val (.ref b9), .val (.int (own_can bal held pend q4)), .val (.ref bb_21), .val (.long bal), .second, .val (.long (own_hd held q4)), .second, .val (.long (own_pd pend q4)), .second, .unset] [(.int (XT.cmpL (own_hd held q4) (0 : Int64)))])) t → Steps p.tables e below (s₁.setTop (entryFrame m #[(.long q1), (.long q2), (.long q3), (.long q4)] maxLocals)) t := fun t k => pre31 t (by
    show Steps p.tables e below (T30.setTop (mkF m 120 #[.val (.long q1), .second, .val (.long q2), .second, .val (.long q3), .second, .val (.long q4), .second, .val (.long bal), .second, .val (.long held), .second, .val (.long room), .second, .val (.long pend), .second, .val (.ref b9), .val (.int (own_can bal held pend q4)), .val (.ref bb_21), .val (.long bal), .second, .val (.long (own_hd held q4)), .second, .unset, .unset, .unset] [(.long (own_pd pend q4))])) t
    refine XT.lstore X30.here hx rfl (hb hby at_120) rfl (l' := #[.val (.long q1), .second, .val (.long q2), .second, .val (.long q3), .second, .val (.long q4), .second, .val (.long bal), .second, .val (.long held), .second, .val (.long room), .second, .val (.long pend), .second, .val (.ref b9), .val (.int (own_can bal held pend q4)), .val (.ref bb_21), .val (.long bal), .second, .val (.long (own_hd held q4)), .second, .val (.long (own_pd pend q4)), .second, .unset]) rfl ?_
    show Steps p.tables e below (T30.setTop (mkF m 122 #[.val (.long q1), .second, .val (.long q2), .second, .val (.long q3), .second, .val (.long q4), .second, .val (.long bal), .second, .val (.long held), .second, .val (.long room), .second, .val (.long pend), .second, .val (.ref b9), .val (.int (own_can bal held pend q4)), .val (.ref bb_21), .val (.long bal), .second, .val (.long (own_hd held q4)), .second, .val (.long (own_pd pend q4)), .second, .unset] [])) t
    refine XT.lload X30.here hx rfl (hb hby at_122) rfl ?_
    show Steps p.tables e below (T30.setTop (mkF m 124 #[.val (.long q1), .second, .val (.long q2), .second, .val (.long q3), .second, .val (.long q4), .second, .val (.long bal), .second, .val (.long held), .second, .val (.long room), .second, .val (.long pend), .second, .val (.ref b9), .val (.int (own_can bal held pend q4)), .val (.ref bb_21), .val (.long bal), .second, .val (.long (own_hd held q4)), .second, .val (.long (own_pd pend q4)), .second, .unset] [(.long bal)])) t
    refine XT.lload X30.here hx rfl (hb hby at_124) rfl ?_
    show Steps p.tables e below (T30.setTop (mkF m 126 #[.val (.long q1), .second, .val (.long q2), .second, .val (.long q3), .second, .val (.long q4), .second, .val (.long bal), .second, .val (.long held), .second, .val (.long room), .second, .val (.long pend), .second, .val (.ref b9), .val (.int (own_can bal held pend q4)), .val (.ref bb_21), .val (.long bal), .second, .val (.long (own_hd held q4)), .second, .val (.long (own_pd pend q4)), .second, .unset] [(.long bal), (.long bal)])) t
    refine XT.lcmp X30.here hx rfl (hb hby at_126) rfl ?_
    show Steps p.tables e below (T30.setTop (mkF m 127 #[.val (.long q1), .second, .val (.long q2), .second, .val (.long q3), .second, .val (.long q4), .second, .val (.long bal), .second, .val (.long held), .second, .val (.long room), .second, .val (.long pend), .second, .val (.ref b9), .val (.int (own_can bal held pend q4)), .val (.ref bb_21), .val (.long bal), .second, .val (.long (own_hd held q4)), .second, .val (.long (own_pd pend q4)), .second, .unset] [(.int (XT.cmpL bal bal))])) t
    refine XS.ifNo X30.here hx rfl (hb hby at_127) rfl (XT.ll_ne_f (show bal = bal from rfl)) ?_
    show Steps p.tables e below (T30.setTop (mkF m 130 #[.val (.long q1), .second, .val (.long q2), .second, .val (.long q3), .second, .val (.long q4), .second, .val (.long bal), .second, .val (.long held), .second, .val (.long room), .second, .val (.long pend), .second, .val (.ref b9), .val (.int (own_can bal held pend q4)), .val (.ref bb_21), .val (.long bal), .second, .val (.long (own_hd held q4)), .second, .val (.long (own_pd pend q4)), .second, .unset] [])) t
    refine XT.lload X30.here hx rfl (hb hby at_130) rfl ?_
    show Steps p.tables e below (T30.setTop (mkF m 132 #[.val (.long q1), .second, .val (.long q2), .second, .val (.long q3), .second, .val (.long q4), .second, .val (.long bal), .second, .val (.long held), .second, .val (.long room), .second, .val (.long pend), .second, .val (.ref b9), .val (.int (own_can bal held pend q4)), .val (.ref bb_21), .val (.long bal), .second, .val (.long (own_hd held q4)), .second, .val (.long (own_pd pend q4)), .second, .unset] [(.long (own_hd held q4))])) t
    refine XT.lconstV X30.here hx rfl (0 : Int64) (hb hby at_132) (by decide) ?_
    show Steps p.tables e below (T30.setTop (mkF m 133 #[.val (.long q1), .second, .val (.long q2), .second, .val (.long q3), .second, .val (.long q4), .second, .val (.long bal), .second, .val (.long held), .second, .val (.long room), .second, .val (.long pend), .second, .val (.ref b9), .val (.int (own_can bal held pend q4)), .val (.ref bb_21), .val (.long bal), .second, .val (.long (own_hd held q4)), .second, .val (.long (own_pd pend q4)), .second, .unset] [(.long (0 : Int64)), (.long (own_hd held q4))])) t
    refine XT.lcmp X30.here hx rfl (hb hby at_133) rfl ?_
    show Steps p.tables e below (T30.setTop (mkF m 134 #[.val (.long q1), .second, .val (.long q2), .second, .val (.long q3), .second, .val (.long q4), .second, .val (.long bal), .second, .val (.long held), .second, .val (.long room), .second, .val (.long pend), .second, .val (.ref b9), .val (.int (own_can bal held pend q4)), .val (.ref bb_21), .val (.long bal), .second, .val (.long (own_hd held q4)), .second, .val (.long (own_pd pend q4)), .second, .unset] [(.int (XT.cmpL (own_hd held q4) (0 : Int64)))])) t
    exact k)
  have pre41 : ∀ t, Steps p.tables e below (T30.setTop (mkF m 169 #[.val (.long q1), .second, .val (.long q2), .second, .val (.long q3), .second, .val (.long q4), .second, .val (.long bal), .second, .val (.long held), .second, .val (.long room), .second, .val (.long pend), .second, .val (.ref b9), .val (.int (own_can bal held pend q4)), .val (.ref bb_21), .val (.long bal), .second, .val (.long (own_hd held q4)), .second, .val (.long (own_pd pend q4)), .second, .unset] [(.int (if (own_hd held q4) < (0 : Int64) then (0 : Int32) else (if bal < (own_hd held q4) then (0 : Int32) else (if (own_pd pend q4) < (0 : Int64) then (0 : Int32) else (if ((9223372036854775807 : Int64) - bal) < (own_pd pend q4) then (0 : Int32) else (1 : Int32))))))])) t → Steps p.tables e below (s₁.setTop (entryFrame m #[(.long q1), (.long q2), (.long q3), (.long q4)] maxLocals)) t := fun t k => pre34 t (by
    show Steps p.tables e below (T30.setTop (mkF m 134 #[.val (.long q1), .second, .val (.long q2), .second, .val (.long q3), .second, .val (.long q4), .second, .val (.long bal), .second, .val (.long held), .second, .val (.long room), .second, .val (.long pend), .second, .val (.ref b9), .val (.int (own_can bal held pend q4)), .val (.ref bb_21), .val (.long bal), .second, .val (.long (own_hd held q4)), .second, .val (.long (own_pd pend q4)), .second, .unset] [(.int (XT.cmpL (own_hd held q4) (0 : Int64)))])) t
    by_cases hc134_33 : (own_hd held q4) < (0 : Int64)
    · simp only [if_pos hc134_33] at k
      refine XS.ifYes X30.here hx rfl (pc0 := 134) (pc' := 168) rfl (hb hby at_134) rfl (XT.ll_lt_t hc134_33) (by decide) (by decide) ?_
      show Steps p.tables e below (T30.setTop (mkF m 168 #[.val (.long q1), .second, .val (.long q2), .second, .val (.long q3), .second, .val (.long q4), .second, .val (.long bal), .second, .val (.long held), .second, .val (.long room), .second, .val (.long pend), .second, .val (.ref b9), .val (.int (own_can bal held pend q4)), .val (.ref bb_21), .val (.long bal), .second, .val (.long (own_hd held q4)), .second, .val (.long (own_pd pend q4)), .second, .unset] [])) t
      refine XS.iconst X30.here hx rfl (hb hby at_168) ?_
      show Steps p.tables e below (T30.setTop (mkF m 169 #[.val (.long q1), .second, .val (.long q2), .second, .val (.long q3), .second, .val (.long q4), .second, .val (.long bal), .second, .val (.long held), .second, .val (.long room), .second, .val (.long pend), .second, .val (.ref b9), .val (.int (own_can bal held pend q4)), .val (.ref bb_21), .val (.long bal), .second, .val (.long (own_hd held q4)), .second, .val (.long (own_pd pend q4)), .second, .unset] [(.int (0 : Int32))])) t
      exact k
    · simp only [if_neg hc134_33] at k
      refine XS.ifNo X30.here hx rfl (hb hby at_134) rfl (XT.ll_lt_f hc134_33) ?_
      show Steps p.tables e below (T30.setTop (mkF m 137 #[.val (.long q1), .second, .val (.long q2), .second, .val (.long q3), .second, .val (.long q4), .second, .val (.long bal), .second, .val (.long held), .second, .val (.long room), .second, .val (.long pend), .second, .val (.ref b9), .val (.int (own_can bal held pend q4)), .val (.ref bb_21), .val (.long bal), .second, .val (.long (own_hd held q4)), .second, .val (.long (own_pd pend q4)), .second, .unset] [])) t
      refine XT.lload X30.here hx rfl (hb hby at_137) rfl ?_
      show Steps p.tables e below (T30.setTop (mkF m 139 #[.val (.long q1), .second, .val (.long q2), .second, .val (.long q3), .second, .val (.long q4), .second, .val (.long bal), .second, .val (.long held), .second, .val (.long room), .second, .val (.long pend), .second, .val (.ref b9), .val (.int (own_can bal held pend q4)), .val (.ref bb_21), .val (.long bal), .second, .val (.long (own_hd held q4)), .second, .val (.long (own_pd pend q4)), .second, .unset] [(.long (own_hd held q4))])) t
      refine XT.lload X30.here hx rfl (hb hby at_139) rfl ?_
      show Steps p.tables e below (T30.setTop (mkF m 141 #[.val (.long q1), .second, .val (.long q2), .second, .val (.long q3), .second, .val (.long q4), .second, .val (.long bal), .second, .val (.long held), .second, .val (.long room), .second, .val (.long pend), .second, .val (.ref b9), .val (.int (own_can bal held pend q4)), .val (.ref bb_21), .val (.long bal), .second, .val (.long (own_hd held q4)), .second, .val (.long (own_pd pend q4)), .second, .unset] [(.long bal), (.long (own_hd held q4))])) t
      refine XT.lcmp X30.here hx rfl (hb hby at_141) rfl ?_
      show Steps p.tables e below (T30.setTop (mkF m 142 #[.val (.long q1), .second, .val (.long q2), .second, .val (.long q3), .second, .val (.long q4), .second, .val (.long bal), .second, .val (.long held), .second, .val (.long room), .second, .val (.long pend), .second, .val (.ref b9), .val (.int (own_can bal held pend q4)), .val (.ref bb_21), .val (.long bal), .second, .val (.long (own_hd held q4)), .second, .val (.long (own_pd pend q4)), .second, .unset] [(.int (XT.cmpL (own_hd held q4) bal))])) t
      suffices k40 : Steps p.tables e below (T30.setTop (mkF m 169 #[.val (.long q1), .second, .val (.long q2), .second, .val (.long q3), .second, .val (.long q4), .second, .val (.long bal), .second, .val (.long held), .second, .val (.long room), .second, .val (.long pend), .second, .val (.ref b9), .val (.int (own_can bal held pend q4)), .val (.ref bb_21), .val (.long bal), .second, .val (.long (own_hd held q4)), .second, .val (.long (own_pd pend q4)), .second, .unset] [(.int (if bal < (own_hd held q4) then (0 : Int32) else (if (own_pd pend q4) < (0 : Int64) then (0 : Int32) else (if ((9223372036854775807 : Int64) - bal) < (own_pd pend q4) then (0 : Int32) else (1 : Int32)))))])) t by
        by_cases hc142_35 : bal < (own_hd held q4)
        · simp only [if_pos hc142_35] at k40
          refine XS.ifYes X30.here hx rfl (pc0 := 142) (pc' := 168) rfl (hb hby at_142) rfl (XT.ll_gt_t hc142_35) (by decide) (by decide) ?_
          show Steps p.tables e below (T30.setTop (mkF m 168 #[.val (.long q1), .second, .val (.long q2), .second, .val (.long q3), .second, .val (.long q4), .second, .val (.long bal), .second, .val (.long held), .second, .val (.long room), .second, .val (.long pend), .second, .val (.ref b9), .val (.int (own_can bal held pend q4)), .val (.ref bb_21), .val (.long bal), .second, .val (.long (own_hd held q4)), .second, .val (.long (own_pd pend q4)), .second, .unset] [])) t
          refine XS.iconst X30.here hx rfl (hb hby at_168) ?_
          show Steps p.tables e below (T30.setTop (mkF m 169 #[.val (.long q1), .second, .val (.long q2), .second, .val (.long q3), .second, .val (.long q4), .second, .val (.long bal), .second, .val (.long held), .second, .val (.long room), .second, .val (.long pend), .second, .val (.ref b9), .val (.int (own_can bal held pend q4)), .val (.ref bb_21), .val (.long bal), .second, .val (.long (own_hd held q4)), .second, .val (.long (own_pd pend q4)), .second, .unset] [(.int (0 : Int32))])) t
          exact k40
        · simp only [if_neg hc142_35] at k40
          refine XS.ifNo X30.here hx rfl (hb hby at_142) rfl (XT.ll_gt_f hc142_35) ?_
          show Steps p.tables e below (T30.setTop (mkF m 145 #[.val (.long q1), .second, .val (.long q2), .second, .val (.long q3), .second, .val (.long q4), .second, .val (.long bal), .second, .val (.long held), .second, .val (.long room), .second, .val (.long pend), .second, .val (.ref b9), .val (.int (own_can bal held pend q4)), .val (.ref bb_21), .val (.long bal), .second, .val (.long (own_hd held q4)), .second, .val (.long (own_pd pend q4)), .second, .unset] [])) t
          refine XT.lload X30.here hx rfl (hb hby at_145) rfl ?_
          show Steps p.tables e below (T30.setTop (mkF m 147 #[.val (.long q1), .second, .val (.long q2), .second, .val (.long q3), .second, .val (.long q4), .second, .val (.long bal), .second, .val (.long held), .second, .val (.long room), .second, .val (.long pend), .second, .val (.ref b9), .val (.int (own_can bal held pend q4)), .val (.ref bb_21), .val (.long bal), .second, .val (.long (own_hd held q4)), .second, .val (.long (own_pd pend q4)), .second, .unset] [(.long (own_pd pend q4))])) t
          refine XT.lconstV X30.here hx rfl (0 : Int64) (hb hby at_147) (by decide) ?_
          show Steps p.tables e below (T30.setTop (mkF m 148 #[.val (.long q1), .second, .val (.long q2), .second, .val (.long q3), .second, .val (.long q4), .second, .val (.long bal), .second, .val (.long held), .second, .val (.long room), .second, .val (.long pend), .second, .val (.ref b9), .val (.int (own_can bal held pend q4)), .val (.ref bb_21), .val (.long bal), .second, .val (.long (own_hd held q4)), .second, .val (.long (own_pd pend q4)), .second, .unset] [(.long (0 : Int64)), (.long (own_pd pend q4))])) t
          refine XT.lcmp X30.here hx rfl (hb hby at_148) rfl ?_
          show Steps p.tables e below (T30.setTop (mkF m 149 #[.val (.long q1), .second, .val (.long q2), .second, .val (.long q3), .second, .val (.long q4), .second, .val (.long bal), .second, .val (.long held), .second, .val (.long room), .second, .val (.long pend), .second, .val (.ref b9), .val (.int (own_can bal held pend q4)), .val (.ref bb_21), .val (.long bal), .second, .val (.long (own_hd held q4)), .second, .val (.long (own_pd pend q4)), .second, .unset] [(.int (XT.cmpL (own_pd pend q4) (0 : Int64)))])) t
          suffices k39 : Steps p.tables e below (T30.setTop (mkF m 169 #[.val (.long q1), .second, .val (.long q2), .second, .val (.long q3), .second, .val (.long q4), .second, .val (.long bal), .second, .val (.long held), .second, .val (.long room), .second, .val (.long pend), .second, .val (.ref b9), .val (.int (own_can bal held pend q4)), .val (.ref bb_21), .val (.long bal), .second, .val (.long (own_hd held q4)), .second, .val (.long (own_pd pend q4)), .second, .unset] [(.int (if (own_pd pend q4) < (0 : Int64) then (0 : Int32) else (if ((9223372036854775807 : Int64) - bal) < (own_pd pend q4) then (0 : Int32) else (1 : Int32))))])) t by
            by_cases hc149_36 : (own_pd pend q4) < (0 : Int64)
            · simp only [if_pos hc149_36] at k39
              refine XS.ifYes X30.here hx rfl (pc0 := 149) (pc' := 168) rfl (hb hby at_149) rfl (XT.ll_lt_t hc149_36) (by decide) (by decide) ?_
              show Steps p.tables e below (T30.setTop (mkF m 168 #[.val (.long q1), .second, .val (.long q2), .second, .val (.long q3), .second, .val (.long q4), .second, .val (.long bal), .second, .val (.long held), .second, .val (.long room), .second, .val (.long pend), .second, .val (.ref b9), .val (.int (own_can bal held pend q4)), .val (.ref bb_21), .val (.long bal), .second, .val (.long (own_hd held q4)), .second, .val (.long (own_pd pend q4)), .second, .unset] [])) t
              refine XS.iconst X30.here hx rfl (hb hby at_168) ?_
              show Steps p.tables e below (T30.setTop (mkF m 169 #[.val (.long q1), .second, .val (.long q2), .second, .val (.long q3), .second, .val (.long q4), .second, .val (.long bal), .second, .val (.long held), .second, .val (.long room), .second, .val (.long pend), .second, .val (.ref b9), .val (.int (own_can bal held pend q4)), .val (.ref bb_21), .val (.long bal), .second, .val (.long (own_hd held q4)), .second, .val (.long (own_pd pend q4)), .second, .unset] [(.int (0 : Int32))])) t
              exact k39
            · simp only [if_neg hc149_36] at k39
              refine XS.ifNo X30.here hx rfl (hb hby at_149) rfl (XT.ll_lt_f hc149_36) ?_
              show Steps p.tables e below (T30.setTop (mkF m 152 #[.val (.long q1), .second, .val (.long q2), .second, .val (.long q3), .second, .val (.long q4), .second, .val (.long bal), .second, .val (.long held), .second, .val (.long room), .second, .val (.long pend), .second, .val (.ref b9), .val (.int (own_can bal held pend q4)), .val (.ref bb_21), .val (.long bal), .second, .val (.long (own_hd held q4)), .second, .val (.long (own_pd pend q4)), .second, .unset] [])) t
              refine XT.lload X30.here hx rfl (hb hby at_152) rfl ?_
              show Steps p.tables e below (T30.setTop (mkF m 154 #[.val (.long q1), .second, .val (.long q2), .second, .val (.long q3), .second, .val (.long q4), .second, .val (.long bal), .second, .val (.long held), .second, .val (.long room), .second, .val (.long pend), .second, .val (.ref b9), .val (.int (own_can bal held pend q4)), .val (.ref bb_21), .val (.long bal), .second, .val (.long (own_hd held q4)), .second, .val (.long (own_pd pend q4)), .second, .unset] [(.long (own_pd pend q4))])) t
              refine X30.ldc2Long hx ho12 (mvT hZ12 (hw _ (List.mem_of_getElem? (i := 0) rfl))) (g := (mkF m 154 #[.val (.long q1), .second, .val (.long q2), .second, .val (.long q3), .second, .val (.long q4), .second, .val (.long bal), .second, .val (.long held), .second, .val (.long room), .second, .val (.long pend), .second, .val (.ref b9), .val (.int (own_can bal held pend q4)), .val (.ref bb_21), .val (.long bal), .second, .val (.long (own_hd held q4)), .second, .val (.long (own_pd pend q4)), .second, .unset] [(.long (own_pd pend q4))])) rfl (hb hby at_154) _ ?_
              show Steps p.tables e below (T30.setTop (mkF m 157 #[.val (.long q1), .second, .val (.long q2), .second, .val (.long q3), .second, .val (.long q4), .second, .val (.long bal), .second, .val (.long held), .second, .val (.long room), .second, .val (.long pend), .second, .val (.ref b9), .val (.int (own_can bal held pend q4)), .val (.ref bb_21), .val (.long bal), .second, .val (.long (own_hd held q4)), .second, .val (.long (own_pd pend q4)), .second, .unset] [(.long (9223372036854775807 : Int64)), (.long (own_pd pend q4))])) t
              refine XT.lload X30.here hx rfl (hb hby at_157) rfl ?_
              show Steps p.tables e below (T30.setTop (mkF m 159 #[.val (.long q1), .second, .val (.long q2), .second, .val (.long q3), .second, .val (.long q4), .second, .val (.long bal), .second, .val (.long held), .second, .val (.long room), .second, .val (.long pend), .second, .val (.ref b9), .val (.int (own_can bal held pend q4)), .val (.ref bb_21), .val (.long bal), .second, .val (.long (own_hd held q4)), .second, .val (.long (own_pd pend q4)), .second, .unset] [(.long bal), (.long (9223372036854775807 : Int64)), (.long (own_pd pend q4))])) t
              refine XT.lsub X30.here hx rfl (hb hby at_159) rfl ?_
              show Steps p.tables e below (T30.setTop (mkF m 160 #[.val (.long q1), .second, .val (.long q2), .second, .val (.long q3), .second, .val (.long q4), .second, .val (.long bal), .second, .val (.long held), .second, .val (.long room), .second, .val (.long pend), .second, .val (.ref b9), .val (.int (own_can bal held pend q4)), .val (.ref bb_21), .val (.long bal), .second, .val (.long (own_hd held q4)), .second, .val (.long (own_pd pend q4)), .second, .unset] [(.long ((9223372036854775807 : Int64) - bal)), (.long (own_pd pend q4))])) t
              refine XT.lcmp X30.here hx rfl (hb hby at_160) rfl ?_
              show Steps p.tables e below (T30.setTop (mkF m 161 #[.val (.long q1), .second, .val (.long q2), .second, .val (.long q3), .second, .val (.long q4), .second, .val (.long bal), .second, .val (.long held), .second, .val (.long room), .second, .val (.long pend), .second, .val (.ref b9), .val (.int (own_can bal held pend q4)), .val (.ref bb_21), .val (.long bal), .second, .val (.long (own_hd held q4)), .second, .val (.long (own_pd pend q4)), .second, .unset] [(.int (XT.cmpL (own_pd pend q4) ((9223372036854775807 : Int64) - bal)))])) t
              suffices k38 : Steps p.tables e below (T30.setTop (mkF m 169 #[.val (.long q1), .second, .val (.long q2), .second, .val (.long q3), .second, .val (.long q4), .second, .val (.long bal), .second, .val (.long held), .second, .val (.long room), .second, .val (.long pend), .second, .val (.ref b9), .val (.int (own_can bal held pend q4)), .val (.ref bb_21), .val (.long bal), .second, .val (.long (own_hd held q4)), .second, .val (.long (own_pd pend q4)), .second, .unset] [(.int (if ((9223372036854775807 : Int64) - bal) < (own_pd pend q4) then (0 : Int32) else (1 : Int32)))])) t by
                by_cases hc161_37 : ((9223372036854775807 : Int64) - bal) < (own_pd pend q4)
                · simp only [if_pos hc161_37] at k38
                  refine XS.ifYes X30.here hx rfl (pc0 := 161) (pc' := 168) rfl (hb hby at_161) rfl (XT.ll_gt_t hc161_37) (by decide) (by decide) ?_
                  show Steps p.tables e below (T30.setTop (mkF m 168 #[.val (.long q1), .second, .val (.long q2), .second, .val (.long q3), .second, .val (.long q4), .second, .val (.long bal), .second, .val (.long held), .second, .val (.long room), .second, .val (.long pend), .second, .val (.ref b9), .val (.int (own_can bal held pend q4)), .val (.ref bb_21), .val (.long bal), .second, .val (.long (own_hd held q4)), .second, .val (.long (own_pd pend q4)), .second, .unset] [])) t
                  refine XS.iconst X30.here hx rfl (hb hby at_168) ?_
                  show Steps p.tables e below (T30.setTop (mkF m 169 #[.val (.long q1), .second, .val (.long q2), .second, .val (.long q3), .second, .val (.long q4), .second, .val (.long bal), .second, .val (.long held), .second, .val (.long room), .second, .val (.long pend), .second, .val (.ref b9), .val (.int (own_can bal held pend q4)), .val (.ref bb_21), .val (.long bal), .second, .val (.long (own_hd held q4)), .second, .val (.long (own_pd pend q4)), .second, .unset] [(.int (0 : Int32))])) t
                  exact k38
                · simp only [if_neg hc161_37] at k38
                  refine XS.ifNo X30.here hx rfl (hb hby at_161) rfl (XT.ll_gt_f hc161_37) ?_
                  show Steps p.tables e below (T30.setTop (mkF m 164 #[.val (.long q1), .second, .val (.long q2), .second, .val (.long q3), .second, .val (.long q4), .second, .val (.long bal), .second, .val (.long held), .second, .val (.long room), .second, .val (.long pend), .second, .val (.ref b9), .val (.int (own_can bal held pend q4)), .val (.ref bb_21), .val (.long bal), .second, .val (.long (own_hd held q4)), .second, .val (.long (own_pd pend q4)), .second, .unset] [])) t
                  refine XS.iconst X30.here hx rfl (hb hby at_164) ?_
                  show Steps p.tables e below (T30.setTop (mkF m 165 #[.val (.long q1), .second, .val (.long q2), .second, .val (.long q3), .second, .val (.long q4), .second, .val (.long bal), .second, .val (.long held), .second, .val (.long room), .second, .val (.long pend), .second, .val (.ref b9), .val (.int (own_can bal held pend q4)), .val (.ref bb_21), .val (.long bal), .second, .val (.long (own_hd held q4)), .second, .val (.long (own_pd pend q4)), .second, .unset] [(.int (1 : Int32))])) t
                  refine XS.goto X30.here hx rfl (pc0 := 165) (pc' := 169) rfl (hb hby at_165) (by decide) (by decide) ?_
                  show Steps p.tables e below (T30.setTop (mkF m 169 #[.val (.long q1), .second, .val (.long q2), .second, .val (.long q3), .second, .val (.long q4), .second, .val (.long bal), .second, .val (.long held), .second, .val (.long room), .second, .val (.long pend), .second, .val (.ref b9), .val (.int (own_can bal held pend q4)), .val (.ref bb_21), .val (.long bal), .second, .val (.long (own_hd held q4)), .second, .val (.long (own_pd pend q4)), .second, .unset] [(.int (1 : Int32))])) t
                  exact k38
              exact k39
          exact k40
      exact k)
  have pre43 : ∀ t, Steps p.tables e below (T30.setTop (mkF m 183 #[.val (.long q1), .second, .val (.long q2), .second, .val (.long q3), .second, .val (.long q4), .second, .val (.long bal), .second, .val (.long held), .second, .val (.long room), .second, .val (.long pend), .second, .val (.ref b9), .val (.int (own_can bal held pend q4)), .val (.ref bb_21), .val (.long bal), .second, .val (.long (own_hd held q4)), .second, .val (.long (own_pd pend q4)), .second, .val (.int (if (own_hd held q4) < (0 : Int64) then (0 : Int32) else (if bal < (own_hd held q4) then (0 : Int32) else (if (own_pd pend q4) < (0 : Int64) then (0 : Int32) else (if ((9223372036854775807 : Int64) - bal) < (own_pd pend q4) then (0 : Int32) else (1 : Int32))))))] [(.int (1 : Int32))])) t → Steps p.tables e below (s₁.setTop (entryFrame m #[(.long q1), (.long q2), (.long q3), (.long q4)] maxLocals)) t := fun t k => pre41 t (by
    show Steps p.tables e below (T30.setTop (mkF m 169 #[.val (.long q1), .second, .val (.long q2), .second, .val (.long q3), .second, .val (.long q4), .second, .val (.long bal), .second, .val (.long held), .second, .val (.long room), .second, .val (.long pend), .second, .val (.ref b9), .val (.int (own_can bal held pend q4)), .val (.ref bb_21), .val (.long bal), .second, .val (.long (own_hd held q4)), .second, .val (.long (own_pd pend q4)), .second, .unset] [(.int (if (own_hd held q4) < (0 : Int64) then (0 : Int32) else (if bal < (own_hd held q4) then (0 : Int32) else (if (own_pd pend q4) < (0 : Int64) then (0 : Int32) else (if ((9223372036854775807 : Int64) - bal) < (own_pd pend q4) then (0 : Int32) else (1 : Int32))))))])) t
    refine XS.istore X30.here hx rfl (hb hby at_169) rfl (l' := #[.val (.long q1), .second, .val (.long q2), .second, .val (.long q3), .second, .val (.long q4), .second, .val (.long bal), .second, .val (.long held), .second, .val (.long room), .second, .val (.long pend), .second, .val (.ref b9), .val (.int (own_can bal held pend q4)), .val (.ref bb_21), .val (.long bal), .second, .val (.long (own_hd held q4)), .second, .val (.long (own_pd pend q4)), .second, .val (.int (if (own_hd held q4) < (0 : Int64) then (0 : Int32) else (if bal < (own_hd held q4) then (0 : Int32) else (if (own_pd pend q4) < (0 : Int64) then (0 : Int32) else (if ((9223372036854775807 : Int64) - bal) < (own_pd pend q4) then (0 : Int32) else (1 : Int32))))))]) rfl ?_
    show Steps p.tables e below (T30.setTop (mkF m 171 #[.val (.long q1), .second, .val (.long q2), .second, .val (.long q3), .second, .val (.long q4), .second, .val (.long bal), .second, .val (.long held), .second, .val (.long room), .second, .val (.long pend), .second, .val (.ref b9), .val (.int (own_can bal held pend q4)), .val (.ref bb_21), .val (.long bal), .second, .val (.long (own_hd held q4)), .second, .val (.long (own_pd pend q4)), .second, .val (.int (if (own_hd held q4) < (0 : Int64) then (0 : Int32) else (if bal < (own_hd held q4) then (0 : Int32) else (if (own_pd pend q4) < (0 : Int64) then (0 : Int32) else (if ((9223372036854775807 : Int64) - bal) < (own_pd pend q4) then (0 : Int32) else (1 : Int32))))))] [])) t
    refine XS.iload X30.here hx rfl (hb hby at_171) rfl ?_
    show Steps p.tables e below (T30.setTop (mkF m 173 #[.val (.long q1), .second, .val (.long q2), .second, .val (.long q3), .second, .val (.long q4), .second, .val (.long bal), .second, .val (.long held), .second, .val (.long room), .second, .val (.long pend), .second, .val (.ref b9), .val (.int (own_can bal held pend q4)), .val (.ref bb_21), .val (.long bal), .second, .val (.long (own_hd held q4)), .second, .val (.long (own_pd pend q4)), .second, .val (.int (if (own_hd held q4) < (0 : Int64) then (0 : Int32) else (if bal < (own_hd held q4) then (0 : Int32) else (if (own_pd pend q4) < (0 : Int64) then (0 : Int32) else (if ((9223372036854775807 : Int64) - bal) < (own_pd pend q4) then (0 : Int32) else (1 : Int32))))))] [(.int (own_can bal held pend q4))])) t
    refine XS.iload X30.here hx rfl (hb hby at_173) rfl ?_
    show Steps p.tables e below (T30.setTop (mkF m 175 #[.val (.long q1), .second, .val (.long q2), .second, .val (.long q3), .second, .val (.long q4), .second, .val (.long bal), .second, .val (.long held), .second, .val (.long room), .second, .val (.long pend), .second, .val (.ref b9), .val (.int (own_can bal held pend q4)), .val (.ref bb_21), .val (.long bal), .second, .val (.long (own_hd held q4)), .second, .val (.long (own_pd pend q4)), .second, .val (.int (if (own_hd held q4) < (0 : Int64) then (0 : Int32) else (if bal < (own_hd held q4) then (0 : Int32) else (if (own_pd pend q4) < (0 : Int64) then (0 : Int32) else (if ((9223372036854775807 : Int64) - bal) < (own_pd pend q4) then (0 : Int32) else (1 : Int32))))))] [(.int (if (own_hd held q4) < (0 : Int64) then (0 : Int32) else (if bal < (own_hd held q4) then (0 : Int32) else (if (own_pd pend q4) < (0 : Int64) then (0 : Int32) else (if ((9223372036854775807 : Int64) - bal) < (own_pd pend q4) then (0 : Int32) else (1 : Int32)))))), (.int (own_can bal held pend q4))])) t
    refine XS.icmpNo X30.here hx rfl (hb hby at_175) rfl (XT.ii_ne_f (show (own_can bal held pend q4) = (if (own_hd held q4) < (0 : Int64) then (0 : Int32) else (if bal < (own_hd held q4) then (0 : Int32) else (if (own_pd pend q4) < (0 : Int64) then (0 : Int32) else (if ((9223372036854775807 : Int64) - bal) < (own_pd pend q4) then (0 : Int32) else (1 : Int32))))) from own_plain q4 hbal hheld hpend)) ?_
    show Steps p.tables e below (T30.setTop (mkF m 178 #[.val (.long q1), .second, .val (.long q2), .second, .val (.long q3), .second, .val (.long q4), .second, .val (.long bal), .second, .val (.long held), .second, .val (.long room), .second, .val (.long pend), .second, .val (.ref b9), .val (.int (own_can bal held pend q4)), .val (.ref bb_21), .val (.long bal), .second, .val (.long (own_hd held q4)), .second, .val (.long (own_pd pend q4)), .second, .val (.int (if (own_hd held q4) < (0 : Int64) then (0 : Int32) else (if bal < (own_hd held q4) then (0 : Int32) else (if (own_pd pend q4) < (0 : Int64) then (0 : Int32) else (if ((9223372036854775807 : Int64) - bal) < (own_pd pend q4) then (0 : Int32) else (1 : Int32))))))] [])) t
    refine XS.iconst X30.here hx rfl (hb hby at_178) ?_
    show Steps p.tables e below (T30.setTop (mkF m 179 #[.val (.long q1), .second, .val (.long q2), .second, .val (.long q3), .second, .val (.long q4), .second, .val (.long bal), .second, .val (.long held), .second, .val (.long room), .second, .val (.long pend), .second, .val (.ref b9), .val (.int (own_can bal held pend q4)), .val (.ref bb_21), .val (.long bal), .second, .val (.long (own_hd held q4)), .second, .val (.long (own_pd pend q4)), .second, .val (.int (if (own_hd held q4) < (0 : Int64) then (0 : Int32) else (if bal < (own_hd held q4) then (0 : Int32) else (if (own_pd pend q4) < (0 : Int64) then (0 : Int32) else (if ((9223372036854775807 : Int64) - bal) < (own_pd pend q4) then (0 : Int32) else (1 : Int32))))))] [(.int (1 : Int32))])) t
    refine XS.goto X30.here hx rfl (pc0 := 179) (pc' := 183) rfl (hb hby at_179) (by decide) (by decide) ?_
    show Steps p.tables e below (T30.setTop (mkF m 183 #[.val (.long q1), .second, .val (.long q2), .second, .val (.long q3), .second, .val (.long q4), .second, .val (.long bal), .second, .val (.long held), .second, .val (.long room), .second, .val (.long pend), .second, .val (.ref b9), .val (.int (own_can bal held pend q4)), .val (.ref bb_21), .val (.long bal), .second, .val (.long (own_hd held q4)), .second, .val (.long (own_pd pend q4)), .second, .val (.int (if (own_hd held q4) < (0 : Int64) then (0 : Int32) else (if bal < (own_hd held q4) then (0 : Int32) else (if (own_pd pend q4) < (0 : Int64) then (0 : Int32) else (if ((9223372036854775807 : Int64) - bal) < (own_pd pend q4) then (0 : Int32) else (1 : Int32))))))] [(.int (1 : Int32))])) t
    exact k)
  obtain ⟨fs, hr, hrun, hended, hend⟩ := Jvm.Stand.leaveW (s := s) (vm₁ := T12.vm) X30 hS12 (by rw [eh30]; exact hk21') (v := some (.int (1 : Int32))) (fun h => by rw [Bd.returns] at h; cases h)
  refine ⟨_, _, pre43 _ ?_, hrun, hended, _, _, rfl, ?_, ⟨_, rfl⟩, hend.2.1, hend.2.2.1, hend.2.2.2.mono (by decide) (by decide)⟩
  · show Steps p.tables e below (T30.setTop (mkF m 183 #[.val (.long q1), .second, .val (.long q2), .second, .val (.long q3), .second, .val (.long q4), .second, .val (.long bal), .second, .val (.long held), .second, .val (.long room), .second, .val (.long pend), .second, .val (.ref b9), .val (.int (own_can bal held pend q4)), .val (.ref bb_21), .val (.long bal), .second, .val (.long (own_hd held q4)), .second, .val (.long (own_pd pend q4)), .second, .val (.int (if (own_hd held q4) < (0 : Int64) then (0 : Int32) else (if bal < (own_hd held q4) then (0 : Int32) else (if (own_pd pend q4) < (0 : Int64) then (0 : Int32) else (if ((9223372036854775807 : Int64) - bal) < (own_pd pend q4) then (0 : Int32) else (1 : Int32))))))] [(.int (1 : Int32))])) _
    exact retN X30 hx (t := .boolean) Bd.returns (by simp) (hb hby at_183) hr
  · show Q0 Z q1 q2 q3 q4 h0 n0 _ T30.heap _
    rw [eh30]
    exact ⟨rfl, N30⟩
set_option maxRecDepth 65536 in
set_option maxHeartbeats 40000000 in
theorem comes_1 {Post : Tables → Env → Array Value → State → Outcome → State → Prop} (hpost : ∀ tb e args s v u, (limb_1_1.after args s (.returned v) u = true ∧ limb_1_2.after args s (.returned v) u = true ∧ True) → ReturnedEndW s (.returned v) u (Jvm.fieldLocs frame_1_writes args s ++ Jvm.arrayLocs frame_1_arrays args s ++ Jvm.staticLocs frame_1_statics s) 16 1152 → Post tb e args s (.returned v) u) :
    ArmFor flags0 classFile x code maxLocals ret World_1 tables_1 room_1 Calls_1 rest_1 Pre_1 Post := by
  intro l hfl _ _ p e ha hc hk s m args below hf hA hF happ hP
  obtain ⟨hcalls, hrest, hpre⟩ := hP
  obtain ⟨-, -, -, hnamed, -, -, -, hat⟩ := (Spec.applies_iff hf).mp happ
  obtain ⟨hg, hn⟩ := and_e (Cond.before_iff.mp (show (Jvm.Cond.and given_1 narrow_1).before args s = true from hpre))
  obtain ⟨ga0, gb0⟩ := and_e hg
  obtain ⟨ga1, gb1⟩ := and_e gb0
  obtain ⟨ga2, gb2⟩ := and_e gb1
  obtain ⟨ga3, gb3⟩ := and_e gb2
  obtain ⟨w0, w1, w2, w3, rfl⟩ : ∃ w0 w1 w2 w3 : Value, args = #[w0, w1, w2, w3] := by
    have hs : args.size = 4 := by simpa [Cond.value, given_1] using ga0
    obtain ⟨L⟩ := args
    match L, hs with
    | [w0, w1, w2, w3], _ => exact ⟨w0, w1, w2, w3, rfl⟩
  have hw := fun d (hd : d ∈ tables_1) => atoms_spec (ws := Jvm.Cond.code x code maxLocals ret :: tables_1) hat d (List.mem_cons_of_mem _ hd)
  obtain ⟨i0, ei0⟩ := isL_v ga1
  obtain rfl : w0 = (.long i0) := Option.some.inj ei0
  obtain ⟨i1, ei1⟩ := isL_v ga2
  obtain rfl : w1 = (.long i1) := Option.some.inj ei1
  obtain ⟨i2, ei2⟩ := isL_v ga3
  obtain rfl : w2 = (.long i2) := Option.some.inj ei2
  obtain ⟨i3, ei3⟩ := isL_v gb3
  obtain rfl : w3 = (.long i3) := Option.some.inj ei3
  obtain ⟨n, o, h1, h2, h3, _, L, rfl, ⟨rfl, N⟩, hq⟩ := rm0 l s _ hw tables_1 i0 i1 i2 i3 s.heap s.heap.size (Nat.le_refl _) p e ha hc hk s m _ below hf ((Spec.applies_iff_loose hf).mp happ).1 ⟨rfl, State.Warmed39.refl s, rfl⟩ trivial
  refine ⟨n, _, h1, h2, h3, hpost _ _ _ _ _ _ ⟨Cond.after_iff.mpr rfl, Cond.after_iff.mpr (eq_i res_at (Term.int_eval (1)) rfl), trivial⟩ ⟨hq.1, hq.2.1, hq.2.2.1, (hq.2.2.2.sift fun y hy => Or.inr (N y hy)).mono (by decide) (by decide)⟩⟩
theorem main_1_1 : Claimed_1_1 := comes_1 fun _ _ _ _ _ _ h hF => ⟨h.1, hF⟩
theorem main_1_2 : Claimed_1_2 := comes_1 fun _ _ _ _ _ _ h hF => ⟨h.2.1, hF⟩
end Jvm.Pilot.@@N@@
namespace Jvm.Pilot.@@N@@
open Jvm Jvm.ClassFile Sem Op Lib Jvm.Free Jvm.Stand Jvm.Pilot.@@N@@.Jvm.D
/-! MADE BY PROGRAM (witnessworld.py) out of the Statement's table words and the real class files: 15 classes; the members and pool entries that the words name. The judged class is class 1, her method 1. -/
namespace start1
open Jvm.ClassFile
def u (s : String) : CpInfo := .utf8 (stringToUtf16 s)
/-- a pool by its gaps: so many unusable entries, then the entry; so many at the end -/
def gap : Nat → List CpInfo → List CpInfo
  | 0, r => r
  | n + 1, r => .unusable :: gap n r
def poolList (es : List (Nat × CpInfo)) (last : Nat) : List CpInfo := es.foldr (fun e r => gap e.1 (e.2 :: r)) (gap last [])
def pool (es : List (Nat × CpInfo)) (last : Nat) : Array CpInfo := ⟨poolList es last⟩
def fileOf (pool : Array CpInfo) (this : Nat) (attrs : Array Attribute := #[]) (ms : Array MethodInfo := #[]) (fl : Nat := 33) (sup : Nat := 0) (ifs : Array Nat := #[]) (fds : Array FieldInfo := #[]) : ClassFile where
  minorVersion := 0
  majorVersion := 65
  constantPool := pool
  accessFlags := fl
  thisClass := this
  superClass := sup
  interfaces := ifs
  fields := fds
  methods := ms
  attributes := attrs
def plain (name : String) (sup : Option ClassId) : Class where
  name := name
  kind := .ordinary
  loader := none
  accessFlags := 33
  super := sup
  interfaces := #[]
  cf := none
  fields := #[]
  methods := #[]
  instanceTypes := #[]
  staticTypes := #[]
  resolved := #[]
  callSites := []
  init := .initialized
  statics := none
  mirror := none

def pool0 : Array CpInfo := pool [(5, u "<init>"), (0, u "()V"), (1, .class_ 10), (1, u "java/lang/Object")] 113

def k0c0 : Code := { maxStack := 0, maxLocals := 1, code := object_method_1_code, exceptionTable := #[], attributes := #[] }
def k0m0 : Method := { name := "<init>", desc := "()V", sig := { parameters := [], returnType := none }, accessFlags := 1, code := some k0c0 }
/-- java/lang/Object -/
def k0 : Class := { plain "java/lang/Object" none with
  accessFlags := 33
  interfaces := #[]
  cf := some (fileOf pool0 8 #[] #[{ accessFlags := 1, nameIndex := 5, descriptorIndex := 6, attributes := #[] }] 33 0 #[] #[])
  fields := #[]
  methods := #[k0m0]
  instanceTypes := #[]
  staticTypes := #[]
  resolved := Array.replicate 124 none
  statics := none }

def pool1 : Array CpInfo := pool [(2, .class_ 4), (1, u "java/lang/Object"), (0, u "<init>"), (0, u "()V"), (0, .long 9223372036854775807), (1, .class_ 10), (0, u "com/example/pledgeway/pledgeway/demo/ledger/Account"), (0, .string 12), (0, u "a"), (0, .methodref 9 14), (0, .nameAndType 5 15), (0, u "(Ljava/lang/String;JJJ)V"), (0, .methodref 9 17), (0, .nameAndType 18 19), (0, u "canReserve"), (0, u "(J)Z"), (0, .methodref 9 21), (0, .nameAndType 22 23), (0, u "reserve"), (0, u "(J)Lcom/example/pledgeway/pledgeway/demo/ledger/Account;"), (0, .methodref 9 25), (0, .nameAndType 26 27), (0, u "balance"), (0, u "()J"), (0, .methodref 9 29), (0, .nameAndType 30 27), (0, u "held"), (0, .methodref 9 32), (0, .nameAndType 33 27), (0, u "pending"), (0, .class_ 35), (0, u "com/example/pledgeway/pledgeway/demo/ledger/AccountCanReservePinLaw"), (2, u "law"), (0, u "(JJJJ)Z")] 3

def k1m0 : Method := { name := "<init>", desc := "()V", sig := { parameters := [], returnType := none }, accessFlags := 1, code := none }
def k1c1 : Code := { maxStack := 9, maxLocals := 26, code := code, exceptionTable := #[], attributes := #[] }
def k1m1 : Method := { name := "law", desc := "(JJJJ)Z", sig := { parameters := [.long, .long, .long, .long], returnType := some .boolean }, accessFlags := 9, code := some k1c1 }
/-- com/example/pledgeway/pledgeway/demo/ledger/AccountCanReservePinLaw -/
def k1 : Class := { plain "com/example/pledgeway/pledgeway/demo/ledger/AccountCanReservePinLaw" (some 0) with
  accessFlags := 49
  interfaces := #[]
  cf := some (fileOf pool1 34 #[] #[{ accessFlags := 1, nameIndex := 5, descriptorIndex := 6, attributes := #[] }, { accessFlags := 9, nameIndex := 38, descriptorIndex := 39, attributes := #[] }] 49 2 #[] #[])
  fields := #[]
  methods := #[k1m0, k1m1]
  instanceTypes := #[]
  staticTypes := #[]
  resolved := Array.replicate 43 none
  statics := none }

def pool2 : Array CpInfo := pool [(1, .methodref 2 3), (0, .class_ 4), (0, .nameAndType 5 6), (0, u "java/lang/Object"), (0, u "<init>"), (0, u "()V"), (0, .class_ 8), (0, u "java/lang/Record")] 13

def k2c0 : Code := { maxStack := 1, maxLocals := 1, code := jdk_30_method_1_code, exceptionTable := #[], attributes := #[] }
def k2m0 : Method := { name := "<init>", desc := "()V", sig := { parameters := [], returnType := none }, accessFlags := 4, code := some k2c0 }
/-- java/lang/Record -/
def k2 : Class := { plain "java/lang/Record" (some 0) with
  accessFlags := 1057
  interfaces := #[]
  cf := some (fileOf pool2 7 #[] #[{ accessFlags := 4, nameIndex := 5, descriptorIndex := 6, attributes := #[] }] 1057 2 #[] #[])
  fields := #[]
  methods := #[k2m0]
  instanceTypes := #[]
  staticTypes := #[]
  resolved := Array.replicate 22 none
  statics := none }

def pool3 : Array CpInfo := pool [(1, .methodref 2 3), (0, .class_ 4), (0, .nameAndType 5 6), (0, u "java/lang/Record"), (0, u "<init>"), (0, u "()V"), (0, .fieldref 8 9), (0, .class_ 10), (0, .nameAndType 11 12), (0, u "com/example/pledgeway/pledgeway/demo/ledger/Account"), (0, u "name"), (0, u "Ljava/lang/String;"), (0, .fieldref 8 14), (0, .nameAndType 15 16), (0, u "balance"), (0, u "J"), (0, .fieldref 8 18), (0, .nameAndType 19 16), (0, u "held"), (0, .fieldref 8 21), (0, .nameAndType 22 16), (0, u "pending"), (2, .long 9223372036854775807), (1, .methodref 8 28), (0, .nameAndType 5 29), (0, u "(Ljava/lang/String;JJJ)V"), (15, u "canReserve"), (0, u "(J)Z"), (1, u "reserve"), (0, u "(J)Lcom/example/pledgeway/pledgeway/demo/ledger/Account;"), (5, u "()J")] 23

def k3c0 : Code := { maxStack := 3, maxLocals := 8, code := prog_17_method_1_code, exceptionTable := #[], attributes := #[] }
def k3m0 : Method := { name := "<init>", desc := "(Ljava/lang/String;JJJ)V", sig := { parameters := [(.object "java/lang/String"), .long, .long, .long], returnType := none }, accessFlags := 1, code := some k3c0 }
def k3c1 : Code := { maxStack := 6, maxLocals := 3, code := prog_17_method_2_code, exceptionTable := #[], attributes := #[] }
def k3m1 : Method := { name := "canReserve", desc := "(J)Z", sig := { parameters := [.long], returnType := some .boolean }, accessFlags := 0, code := some k3c1 }
def k3c2 : Code := { maxStack := 11, maxLocals := 3, code := prog_17_method_3_code, exceptionTable := #[], attributes := #[] }
def k3m2 : Method := { name := "reserve", desc := "(J)Lcom/example/pledgeway/pledgeway/demo/ledger/Account;", sig := { parameters := [.long], returnType := some (.object "com/example/pledgeway/pledgeway/demo/ledger/Account") }, accessFlags := 0, code := some k3c2 }
def k3c3 : Code := { maxStack := 2, maxLocals := 1, code := prog_17_method_10_code, exceptionTable := #[], attributes := #[] }
def k3m3 : Method := { name := "balance", desc := "()J", sig := { parameters := [], returnType := some .long }, accessFlags := 1, code := some k3c3 }
def k3c4 : Code := { maxStack := 2, maxLocals := 1, code := prog_17_method_11_code, exceptionTable := #[], attributes := #[] }
def k3m4 : Method := { name := "held", desc := "()J", sig := { parameters := [], returnType := some .long }, accessFlags := 1, code := some k3c4 }
def k3c5 : Code := { maxStack := 2, maxLocals := 1, code := prog_17_method_12_code, exceptionTable := #[], attributes := #[] }
def k3m5 : Method := { name := "pending", desc := "()J", sig := { parameters := [], returnType := some .long }, accessFlags := 1, code := some k3c5 }
/-- com/example/pledgeway/pledgeway/demo/ledger/Account -/
def k3 : Class := { plain "com/example/pledgeway/pledgeway/demo/ledger/Account" (some 2) with
  accessFlags := 49
  interfaces := #[]
  cf := some (fileOf pool3 8 #[] #[{ accessFlags := 1, nameIndex := 5, descriptorIndex := 29, attributes := #[] }, { accessFlags := 0, nameIndex := 45, descriptorIndex := 46, attributes := #[] }, { accessFlags := 0, nameIndex := 48, descriptorIndex := 49, attributes := #[] }, { accessFlags := 1, nameIndex := 15, descriptorIndex := 55, attributes := #[] }, { accessFlags := 1, nameIndex := 19, descriptorIndex := 55, attributes := #[] }, { accessFlags := 1, nameIndex := 22, descriptorIndex := 55, attributes := #[] }] 49 2 #[] #[{ accessFlags := 18, nameIndex := 11, descriptorIndex := 12, attributes := #[] }, { accessFlags := 18, nameIndex := 15, descriptorIndex := 16, attributes := #[] }, { accessFlags := 18, nameIndex := 19, descriptorIndex := 16, attributes := #[] }, { accessFlags := 18, nameIndex := 22, descriptorIndex := 16, attributes := #[] }])
  fields := #[{ name := "name", type := (.object "java/lang/String"), accessFlags := 18, slot := 0, constantValue := 0 }, { name := "balance", type := .long, accessFlags := 18, slot := 1, constantValue := 0 }, { name := "held", type := .long, accessFlags := 18, slot := 2, constantValue := 0 }, { name := "pending", type := .long, accessFlags := 18, slot := 3, constantValue := 0 }]
  methods := #[k3m0, k3m1, k3m2, k3m3, k3m4, k3m5]
  instanceTypes := #[(.object "java/lang/String"), .long, .long, .long]
  staticTypes := #[]
  resolved := Array.replicate 79 none
  statics := none }

def pool4 : Array CpInfo := pool [(1, .class_ 2), (0, u "java/io/Serializable"), (0, .class_ 4), (0, u "java/lang/Object")] 2

/-- java/io/Serializable -/
def k4 : Class := { plain "java/io/Serializable" (some 0) with
  accessFlags := 1537
  interfaces := #[]
  cf := some (fileOf pool4 1 #[] #[] 1537 3 #[] #[])
  fields := #[]
  methods := #[]
  instanceTypes := #[]
  staticTypes := #[]
  resolved := Array.replicate 7 none
  statics := none }

def pool5 : Array CpInfo := pool [(1, .class_ 2), (0, u "java/lang/Comparable"), (0, .class_ 4), (0, u "java/lang/Object")] 7

/-- java/lang/Comparable -/
def k5 : Class := { plain "java/lang/Comparable" (some 0) with
  accessFlags := 1537
  interfaces := #[]
  cf := some (fileOf pool5 1 #[] #[] 1537 3 #[] #[])
  fields := #[]
  methods := #[]
  instanceTypes := #[]
  staticTypes := #[]
  resolved := Array.replicate 12 none
  statics := none }

def pool6 : Array CpInfo := pool [(2, .class_ 4), (1, u "java/lang/CharSequence"), (42, .class_ 48), (0, u "java/lang/CharSequence$1CodePointIterator"), (10, .class_ 60), (0, u "java/lang/CharSequence$1CharIterator"), (5, .class_ 67), (0, u "java/lang/Object")] 63

/-- java/lang/CharSequence -/
def k6 : Class := { plain "java/lang/CharSequence" (some 0) with
  accessFlags := 1537
  interfaces := #[]
  cf := some (fileOf pool6 2 #[.nestMembers #[47, 59]] #[] 1537 66 #[] #[])
  fields := #[]
  methods := #[]
  instanceTypes := #[]
  staticTypes := #[]
  resolved := Array.replicate 131 none
  statics := none }

def pool7 : Array CpInfo := pool [(1, .class_ 2), (0, u "java/lang/constant/Constable"), (0, .class_ 4), (0, u "java/lang/Object")] 6

/-- java/lang/constant/Constable -/
def k7 : Class := { plain "java/lang/constant/Constable" (some 0) with
  accessFlags := 1537
  interfaces := #[]
  cf := some (fileOf pool7 1 #[] #[] 1537 3 #[] #[])
  fields := #[]
  methods := #[]
  instanceTypes := #[]
  staticTypes := #[]
  resolved := Array.replicate 11 none
  statics := none }

def pool8 : Array CpInfo := pool [(1, .class_ 2), (0, u "java/lang/constant/ConstantDesc"), (0, .class_ 4), (0, u "java/lang/Object")] 32

/-- java/lang/constant/ConstantDesc -/
def k8 : Class := { plain "java/lang/constant/ConstantDesc" (some 0) with
  accessFlags := 1537
  interfaces := #[]
  cf := some (fileOf pool8 1 #[] #[] 1537 3 #[] #[])
  fields := #[]
  methods := #[]
  instanceTypes := #[]
  staticTypes := #[]
  resolved := Array.replicate 37 none
  statics := none }

def pool9 : Array CpInfo := pool [(2, .class_ 4), (1, u "java/lang/Object"), (0, u "<init>"), (0, u "()V"), (3, .class_ 12), (1, u "java/lang/String"), (0, u "value"), (0, u "[B"), (2, u "coder"), (0, u "B"), (2, u "hash"), (0, u "I"), (2, u "hashIsZero"), (0, u "Z"), (13, u "COMPACT_STRINGS"), (534, .class_ 576), (0, u "java/lang/CharSequence"), (22, u "CASE_INSENSITIVE_ORDER"), (0, u "Ljava/util/Comparator;"), (500, u "serialPersistentFields"), (0, u "[Ljava/io/ObjectStreamField;"), (0, .class_ 1104), (0, u "java/lang/String$CaseInsensitiveComparator"), (1, .class_ 1107), (0, u "java/io/Serializable"), (0, .class_ 1109), (0, u "java/lang/Comparable"), (0, .class_ 1111), (0, u "java/lang/constant/Constable"), (0, .class_ 1113), (0, u "java/lang/constant/ConstantDesc"), (2, u "serialVersionUID"), (0, u "J"), (3, u "REPL"), (0, u "C"), (2, u "LATIN1"), (1, u "UTF16")] 323

def k9m0 : Method := { name := "<init>", desc := "()V", sig := { parameters := [], returnType := none }, accessFlags := 1, code := none }
/-- java/lang/String -/
def k9 : Class := { plain "java/lang/String" (some 0) with
  accessFlags := 49
  interfaces := #[4, 5, 6, 7, 8]
  cf := some (fileOf pool9 10 #[.nestMembers #[1103]] #[{ accessFlags := 1, nameIndex := 5, descriptorIndex := 6, attributes := #[] }] 49 2 #[1106, 1108, 575, 1110, 1112] #[{ accessFlags := 18, nameIndex := 13, descriptorIndex := 14, attributes := #[] }, { accessFlags := 18, nameIndex := 17, descriptorIndex := 18, attributes := #[] }, { accessFlags := 2, nameIndex := 21, descriptorIndex := 22, attributes := #[] }, { accessFlags := 2, nameIndex := 25, descriptorIndex := 26, attributes := #[] }, { accessFlags := 26, nameIndex := 1116, descriptorIndex := 1117, attributes := #[] }, { accessFlags := 24, nameIndex := 40, descriptorIndex := 26, attributes := #[] }, { accessFlags := 26, nameIndex := 1101, descriptorIndex := 1102, attributes := #[] }, { accessFlags := 26, nameIndex := 1121, descriptorIndex := 1122, attributes := #[] }, { accessFlags := 25, nameIndex := 599, descriptorIndex := 600, attributes := #[] }, { accessFlags := 24, nameIndex := 1125, descriptorIndex := 18, attributes := #[] }, { accessFlags := 24, nameIndex := 1127, descriptorIndex := 18, attributes := #[] }])
  fields := #[{ name := "value", type := (.array .byte), accessFlags := 18, slot := 0, constantValue := 0 }, { name := "coder", type := .byte, accessFlags := 18, slot := 1, constantValue := 0 }, { name := "hash", type := .int, accessFlags := 2, slot := 2, constantValue := 0 }, { name := "hashIsZero", type := .boolean, accessFlags := 2, slot := 3, constantValue := 0 }, { name := "serialVersionUID", type := .long, accessFlags := 26, slot := 0, constantValue := 0 }, { name := "COMPACT_STRINGS", type := .boolean, accessFlags := 24, slot := 1, constantValue := 0 }, { name := "serialPersistentFields", type := (.array (.object "java/io/ObjectStreamField")), accessFlags := 26, slot := 2, constantValue := 0 }, { name := "REPL", type := .char, accessFlags := 26, slot := 3, constantValue := 0 }, { name := "CASE_INSENSITIVE_ORDER", type := (.object "java/util/Comparator"), accessFlags := 25, slot := 4, constantValue := 0 }, { name := "LATIN1", type := .byte, accessFlags := 24, slot := 5, constantValue := 0 }, { name := "UTF16", type := .byte, accessFlags := 24, slot := 6, constantValue := 0 }]
  methods := #[k9m0]
  instanceTypes := #[(.array .byte), .byte, .int, .boolean]
  staticTypes := #[.long, .boolean, (.array (.object "java/io/ObjectStreamField")), .char, (.object "java/util/Comparator"), .byte, .byte]
  resolved := Array.replicate 1451 none
  statics := none }

def pool10 : Array CpInfo := pool [(1, u "java/lang/Cloneable"), (0, .class_ 1), (0, u "java/lang/Object"), (0, .class_ 3)] 3

/-- java/lang/Cloneable -/
def k10 : Class := { plain "java/lang/Cloneable" (some 0) with
  accessFlags := 1537
  interfaces := #[]
  cf := some (fileOf pool10 2 #[] #[] 1537 4 #[] #[])
  fields := #[]
  methods := #[]
  instanceTypes := #[]
  staticTypes := #[]
  resolved := Array.replicate 8 none
  statics := none }

/-- the primitive byte -/
def k11 : Class := { plain "byte" none with kind := .primitive 'B', accessFlags := 0x411 }
/-- [B -/
def k12 : Class := { plain "[B" (some 0) with kind := .array 11 .byte, interfaces := #[10, 4], accessFlags := 1041 }

/-- the primitive int -/
def k13 : Class := { plain "int" none with kind := .primitive 'I', accessFlags := 0x411 }
/-- [I -/
def k14 : Class := { plain "[I" (some 0) with kind := .array 13 .int, interfaces := #[10, 4], accessFlags := 1041 }

def heap : Heap := #[]
def classes : Array Class := #[k0, k1, k2, k3, k4, k5, k6, k7, k8, k9, k10, k11, k12, k13, k14]
def interned : List (Array UInt16 × Addr) := []
def slotsUsed : Nat := 0
def theMethod : MethodId := ⟨1, 1⟩
def args0 : Array Value := #[.long 1, .long 2, .long 3, .long 4]
def aboutOver (below : List Frame) : State where
  vm := { classes := classes, interned := interned.toArray }
  heap := heap
  slotsUsed := slotsUsed
  threads := #[{ frames := .invoking theMethod args0 :: below }]
def below0 : List Frame := [.native { method := ⟨0, 0⟩, args := #[] }]
def about1 : State := aboutOver below0
def p0 : Program := .bare "" "" ""
def e0 : Env := launch0.env 0 0 0
theorem w_frames : about1.frames = Frame.invoking theMethod args0 :: below0 := rfl
set_option maxRecDepth 65536 in
theorem w_args : argsFit about1.vm theMethod args0 = true := by decide +kernel
set_option maxRecDepth 65536 in
theorem w_heap : heapFits about1 = true := by decide +kernel
set_option maxRecDepth 65536 in
theorem w_runnable : about1.curStatus? = some .runnable := by decide +kernel
set_option maxRecDepth 65536 in
theorem w_alone : about1.alone = true := by decide +kernel
set_option maxRecDepth 65536 in
theorem w_named : about1.methodNamed? x = some theMethod := by decide +kernel
set_option maxRecDepth 65536 in
theorem w_hears : about1.hears theMethod below0 = true := by decide +kernel
set_option maxRecDepth 65536 in
theorem w_ripe : about1.ripe theMethod args0 below0 = true := by decide +kernel
theorem w_running : about1.status = .running := rfl
set_option maxRecDepth 65536 in
theorem w_room : about1.hasRoom e0.platform room_1 = true :=
  launch0.hasRoom_least _ room_1 (by decide +kernel) (by decide +kernel) (by decide +kernel) (by decide +kernel) (by decide +kernel) (by decide +kernel)
theorem allAtoms_all (ts : List Jvm.Cond) (a : Array Jvm.Value) (st : Jvm.State) : (allAtoms ts).before a st = ts.all (fun c => c.before a st) := by
  induction ts with
  | nil => rfl
  | cons c t ih =>
    show (Jvm.Cond.and c (allAtoms t)).before a st = _
    rw [Jvm.Cond.before_and, ih, List.all_cons]
def words1 : List Jvm.Cond := Jvm.Cond.code x code maxLocals ret :: tables_1
/-- a 'code' word, met by the world's own term for the bytes: nothing is compared byte by byte -/
theorem code_word {y : MethodName} {bytes : ByteArray} {mx : Nat} {rt : Option FieldType} {a : Array Value} {s : State} {m : MethodId} {meth : Method} {c : Code} (h1 : s.methodNamed? y = some m) (h2 : s.vm.method? m = some meth) (h3 : meth.code = some c) (h4 : c.code = bytes)
    (h5 : (c.maxLocals == mx && c.exceptionTable.isEmpty && decide (c.maxStack ≤ mostOperands) && decide (meth.sig.returnType = rt) && !meth.locks && decide (parseMethodDescriptor y.desc = some meth.sig)) = true) : (Jvm.Cond.code y bytes mx rt).before a s = true := by
  simp only [Bool.and_eq_true, beq_iff_eq, Bool.not_eq_true', decide_eq_true_eq] at h5
  obtain ⟨⟨⟨⟨⟨g1, g2⟩, g3⟩, g4⟩, g5⟩, g6⟩ := h5
  simp [Cond.before, Cond.holds, Cond.value, h1, h2, h3, h4, g1, g2, g3, g4, g5, g6]
def isCode : Jvm.Cond → Bool
  | .code _ _ _ _ => true
  | _ => false
theorem all_split {L : List Jvm.Cond} {P : Jvm.Cond → Bool} (h1 : L.all (fun c => isCode c || P c) = true) (h2 : ∀ c ∈ L.filter isCode, P c = true) : L.all P = true := by
  refine List.all_eq_true.mpr fun c hc => ?_
  have h := List.all_eq_true.mp h1 c hc
  rcases Bool.eq_false_or_eq_true (isCode c) with hi | hi
  · exact h2 c (List.mem_filter.mpr ⟨hc, hi⟩)
  · simpa [hi] using h
set_option maxRecDepth 65536 in
theorem w_c0 : (Jvm.Cond.code x code maxLocals ret).before args0 about1 = true := code_word (m := ⟨1, 1⟩) (meth := k1m1) (c := k1c1) (by decide +kernel) rfl rfl rfl (by decide +kernel)
set_option maxRecDepth 65536 in
theorem w_c1 : (Jvm.Cond.code ({ cls := "com/example/pledgeway/pledgeway/demo/ledger/Account", name := "<init>", desc := "(Ljava/lang/String;JJJ)V" } : Jvm.MethodName) prog_17_method_1_code (8 : Nat) (Option.none : Option Jvm.ClassFile.FieldType)).before args0 about1 = true := code_word (m := ⟨3, 0⟩) (meth := k3m0) (c := k3c0) (by decide +kernel) rfl rfl rfl (by decide +kernel)
set_option maxRecDepth 65536 in
theorem w_c2 : (Jvm.Cond.code ({ cls := "java/lang/Record", name := "<init>", desc := "()V" } : Jvm.MethodName) jdk_30_method_1_code (1 : Nat) (Option.none : Option Jvm.ClassFile.FieldType)).before args0 about1 = true := code_word (m := ⟨2, 0⟩) (meth := k2m0) (c := k2c0) (by decide +kernel) rfl rfl rfl (by decide +kernel)
set_option maxRecDepth 65536 in
theorem w_c3 : (Jvm.Cond.code ({ cls := "java/lang/Object", name := "<init>", desc := "()V" } : Jvm.MethodName) object_method_1_code (1 : Nat) (Option.none : Option Jvm.ClassFile.FieldType)).before args0 about1 = true := code_word (m := ⟨0, 0⟩) (meth := k0m0) (c := k0c0) (by decide +kernel) rfl rfl rfl (by decide +kernel)
set_option maxRecDepth 65536 in
theorem w_c4 : (Jvm.Cond.code ({ cls := "com/example/pledgeway/pledgeway/demo/ledger/Account", name := "canReserve", desc := "(J)Z" } : Jvm.MethodName) prog_17_method_2_code (3 : Nat) (Option.some Jvm.ClassFile.FieldType.boolean)).before args0 about1 = true := code_word (m := ⟨3, 1⟩) (meth := k3m1) (c := k3c1) (by decide +kernel) rfl rfl rfl (by decide +kernel)
set_option maxRecDepth 65536 in
theorem w_c5 : (Jvm.Cond.code ({ cls := "com/example/pledgeway/pledgeway/demo/ledger/Account", name := "reserve", desc := "(J)Lcom/example/pledgeway/pledgeway/demo/ledger/Account;" } : Jvm.MethodName) prog_17_method_3_code (3 : Nat) (Option.some (Jvm.ClassFile.FieldType.object "com/example/pledgeway/pledgeway/demo/ledger/Account"))).before args0 about1 = true := code_word (m := ⟨3, 2⟩) (meth := k3m2) (c := k3c2) (by decide +kernel) rfl rfl rfl (by decide +kernel)
set_option maxRecDepth 65536 in
theorem w_c6 : (Jvm.Cond.code ({ cls := "com/example/pledgeway/pledgeway/demo/ledger/Account", name := "balance", desc := "()J" } : Jvm.MethodName) prog_17_method_10_code (1 : Nat) (Option.some Jvm.ClassFile.FieldType.long)).before args0 about1 = true := code_word (m := ⟨3, 3⟩) (meth := k3m3) (c := k3c3) (by decide +kernel) rfl rfl rfl (by decide +kernel)
set_option maxRecDepth 65536 in
theorem w_c7 : (Jvm.Cond.code ({ cls := "com/example/pledgeway/pledgeway/demo/ledger/Account", name := "held", desc := "()J" } : Jvm.MethodName) prog_17_method_11_code (1 : Nat) (Option.some Jvm.ClassFile.FieldType.long)).before args0 about1 = true := code_word (m := ⟨3, 4⟩) (meth := k3m4) (c := k3c4) (by decide +kernel) rfl rfl rfl (by decide +kernel)
set_option maxRecDepth 65536 in
theorem w_c8 : (Jvm.Cond.code ({ cls := "com/example/pledgeway/pledgeway/demo/ledger/Account", name := "pending", desc := "()J" } : Jvm.MethodName) prog_17_method_12_code (1 : Nat) (Option.some Jvm.ClassFile.FieldType.long)).before args0 about1 = true := code_word (m := ⟨3, 5⟩) (meth := k3m5) (c := k3c5) (by decide +kernel) rfl rfl rfl (by decide +kernel)
def codes1 : List Jvm.Cond := [Jvm.Cond.code x code maxLocals ret, Jvm.Cond.code ({ cls := "com/example/pledgeway/pledgeway/demo/ledger/Account", name := "<init>", desc := "(Ljava/lang/String;JJJ)V" } : Jvm.MethodName) prog_17_method_1_code (8 : Nat) (Option.none : Option Jvm.ClassFile.FieldType), Jvm.Cond.code ({ cls := "java/lang/Record", name := "<init>", desc := "()V" } : Jvm.MethodName) jdk_30_method_1_code (1 : Nat) (Option.none : Option Jvm.ClassFile.FieldType), Jvm.Cond.code ({ cls := "java/lang/Object", name := "<init>", desc := "()V" } : Jvm.MethodName) object_method_1_code (1 : Nat) (Option.none : Option Jvm.ClassFile.FieldType), Jvm.Cond.code ({ cls := "com/example/pledgeway/pledgeway/demo/ledger/Account", name := "canReserve", desc := "(J)Z" } : Jvm.MethodName) prog_17_method_2_code (3 : Nat) (Option.some Jvm.ClassFile.FieldType.boolean), Jvm.Cond.code ({ cls := "com/example/pledgeway/pledgeway/demo/ledger/Account", name := "reserve", desc := "(J)Lcom/example/pledgeway/pledgeway/demo/ledger/Account;" } : Jvm.MethodName) prog_17_method_3_code (3 : Nat) (Option.some (Jvm.ClassFile.FieldType.object "com/example/pledgeway/pledgeway/demo/ledger/Account")), Jvm.Cond.code ({ cls := "com/example/pledgeway/pledgeway/demo/ledger/Account", name := "balance", desc := "()J" } : Jvm.MethodName) prog_17_method_10_code (1 : Nat) (Option.some Jvm.ClassFile.FieldType.long), Jvm.Cond.code ({ cls := "com/example/pledgeway/pledgeway/demo/ledger/Account", name := "held", desc := "()J" } : Jvm.MethodName) prog_17_method_11_code (1 : Nat) (Option.some Jvm.ClassFile.FieldType.long), Jvm.Cond.code ({ cls := "com/example/pledgeway/pledgeway/demo/ledger/Account", name := "pending", desc := "()J" } : Jvm.MethodName) prog_17_method_12_code (1 : Nat) (Option.some Jvm.ClassFile.FieldType.long)]
set_option maxRecDepth 65536 in
theorem codes_eq : words1.filter isCode = codes1 := rfl
theorem w_codes : ∀ c ∈ words1.filter isCode, c.before args0 about1 = true := by
  rw [codes_eq]
  intro c hc
  simp only [codes1, List.mem_cons, List.not_mem_nil, or_false] at hc
  rcases hc with rfl | rfl | rfl | rfl | rfl | rfl | rfl | rfl | rfl
  · exact w_c0
  · exact w_c1
  · exact w_c2
  · exact w_c3
  · exact w_c4
  · exact w_c5
  · exact w_c6
  · exact w_c7
  · exact w_c8
set_option maxRecDepth 65536 in
theorem w_t1 : (words1.take 24).all (fun c => isCode c || c.before args0 about1) = true := by decide +kernel
set_option maxRecDepth 65536 in
theorem w_t2 : ((words1.drop 24).take 24).all (fun c => isCode c || c.before args0 about1) = true := by decide +kernel
set_option maxRecDepth 65536 in
theorem w_t3 : ((words1.drop 24).drop 24).all (fun c => isCode c || c.before args0 about1) = true := by decide +kernel
theorem w_tables : (allAtoms (Jvm.Cond.code x code maxLocals ret :: tables_1)).before args0 about1 = true := by
  rw [allAtoms_all]
  show words1.all (fun c => c.before args0 about1) = true
  refine all_split ?_ w_codes
  rw [← List.take_append_drop 24 words1, List.all_append, w_t1, ← List.take_append_drop 24 (words1.drop 24), List.all_append, w_t2, w_t3]
  rfl
set_option maxRecDepth 65536 in
theorem w_case : (Jvm.Cond.and given_1 narrow_1).before args0 about1 = true := by decide +kernel
theorem w_applies : (headSpec (Jvm.Cond.code x code maxLocals ret :: tables_1) room_1).applies x e0.platform about1 = true :=
  (Spec.applies_iff w_frames).mpr ⟨w_running, w_runnable, w_alone, w_named, w_hears, w_ripe, w_room, w_tables⟩
theorem atStart : AtStart classFile x code maxLocals ret World_1 tables_1 room_1 Calls_1 rest_1 Pre_1 launch0 p0 e0 about1 theMethod args0 below0 :=
  ⟨lists_1, trivial, launch0.admits_env _ _ _, launch0.least_env, fairChoices_fair.cas, fairChoices_fair.clock, w_frames, w_args, w_heap, w_applies, trivial, trivial, w_case⟩
end start1
theorem witness_1 : WitnessClaimed_1 := ⟨start1.p0, start1.e0, start1.about1, start1.theMethod, start1.args0, start1.below0, start1.atStart⟩
end Jvm.Pilot.@@N@@
