import JvmDerived
import JvmDerived.Pilot.@@N@@Statement
import JvmDerived.Pilot.@@N@@Code
set_option linter.unusedVariables false
set_option linter.unusedSimpArgs false
@@BLOCK:NumsL.lean.txt@@
namespace Jvm.RoadKit
open Sem ClassFile Op Lib Jvm.Stand Jvm.Free Jvm.LawKit
section New
variable {p : Program} {l : Launch} {e : Env} {R : Room} {s : State} {m : MethodId} {args : Array Value} {below : List Frame} {meth : Method} {c : Code} {T : State} {locs : List Loc} {cells slots : Nat}
theorem retI (X : Stand p l e R s m args below meth c T locs cells slots) (hx : p.tables.exec = Jvm.exec) {pc : Nat} {Ls : Array Slot} {z : Int32} {rest : List Value} (hret : meth.sig.returnType = some .int) (hd : decode c.code pc = .ok (.ireturn, 1)) {fs : List Frame}
    (hl : ∀ (f : JFrame) (acts : List Action), f.method = m → f.locked = none → f.entered = [] → (doReturn e (T.setTop f) acts (some (.int z))).1 = T.setFrames fs) : Steps p.tables e below (T.setTop (mkF m pc Ls (.int z :: rest))) (T.setFrames fs) := by
  have hm' : T.vm.method? m = some meth := X.method'
  have hn : narrow .int (.int z) = .int z := rfl
  show Steps p.tables e below (T.setTop { method := m, pc := pc, locals := Ls, stack := _ :: rest, locked := none }) _
  jvm_step X.here [X.here.top, hx, hd, hm', hret, hn]
  first | (intro acts; rw [hl _ acts rfl rfl rfl]) | rw [hl _ _ rfl rfl rfl]
  exact Steps.refl _
end New
end Jvm.RoadKit
namespace Jvm.Pilot.@@N@@
open Jvm Jvm.ClassFile Sem Op Lib Jvm.Free Jvm.Stand Jvm.LawKit Jvm.RoadKit Bundle Jvm.Pilot.@@N@@.Jvm.D
section Own
variable {p : Program} {l : Launch} {e : Env} {R : Room} {s : State} {m : MethodId} {args : Array Value} {below : List Frame} {meth : Method} {c : Code} {T : State} {locs : List Loc} {cells slots : Nat} {Z : State} {h : Heap} {a : Addr} {k : ClassId} {n : Int32} {vs : List Value} {dv : Value} {ty : FieldType}
theorem own_caload (X : Stand p l e R s m args below meth c T locs cells slots) (hx : p.tables.exec = Jvm.exec) (hZ : Z.Warmed39 s.vm) (eT : T.heap = h) (V : Arv Z h a k .char n vs dv) {j : Int32} {v : Value} (hj : ¬ j < 0 ∧ j < n) (hv : vs.getD j.toNatClampNeg dv = v) {g : JFrame} (hg : g.method = m) {rest : List Value} (hs : g.stack = .int j :: .ref a :: rest) (hd : decode c.code g.pc = .ok (.caload, 1)) :
    ∀ target, Steps p.tables e below (T.setTop { g with pc := g.pc + 1, stack := v :: rest }) target → Steps p.tables e below (T.setTop g) target := by
  obtain ⟨cl, Ar, -, S, -, H, -⟩ := V
  exact X.caload hx (j := j) (v := v) (by rw [eT]; exact Ar.1) (State.isArrayOf_alike hZ.alike Ar.2.1) Ar.2.2 (inb_of S hj) (H.at (inb_of S hj) hv) hg hs hd
theorem own_iaload (X : Stand p l e R s m args below meth c T locs cells slots) (hx : p.tables.exec = Jvm.exec) (hZ : Z.Warmed39 s.vm) (eT : T.heap = h) (V : Arv Z h a k .int n vs dv) {j : Int32} {v : Value} (hj : ¬ j < 0 ∧ j < n) (hv : vs.getD j.toNatClampNeg dv = v) {g : JFrame} (hg : g.method = m) {rest : List Value} (hs : g.stack = .int j :: .ref a :: rest) (hd : decode c.code g.pc = .ok (.iaload, 1)) :
    ∀ target, Steps p.tables e below (T.setTop { g with pc := g.pc + 1, stack := v :: rest }) target → Steps p.tables e below (T.setTop g) target := by
  obtain ⟨cl, Ar, -, S, -, H, -⟩ := V
  exact X.iaload hx (j := j) (v := v) (by rw [eT]; exact Ar.1) (State.isArrayOf_alike hZ.alike Ar.2.1) Ar.2.2 (inb_of S hj) (H.at (inb_of S hj) hv) hg hs hd
theorem own_baload (X : Stand p l e R s m args below meth c T locs cells slots) (hx : p.tables.exec = Jvm.exec) (hZ : Z.Warmed39 s.vm) (eT : T.heap = h) (V : Arv Z h a k .byte n vs dv) {j : Int32} {v : Value} (hj : ¬ j < 0 ∧ j < n) (hv : vs.getD j.toNatClampNeg dv = v) {g : JFrame} (hg : g.method = m) {rest : List Value} (hs : g.stack = .int j :: .ref a :: rest) (hd : decode c.code g.pc = .ok (.baload, 1)) :
    ∀ target, Steps p.tables e below (T.setTop { g with pc := g.pc + 1, stack := v :: rest }) target → Steps p.tables e below (T.setTop g) target := by
  obtain ⟨cl, Ar, -, S, -, H, -⟩ := V
  exact X.baloadBytes hx (j := j) (v := v) (by rw [eT]; exact Ar.1) (State.isArrayOf_alike hZ.alike Ar.2.1) Ar.2.2 (inb_of S hj) (H.at (inb_of S hj) hv) hg hs hd
theorem own_alen (X : Stand p l e R s m args below meth c T locs cells slots) (hx : p.tables.exec = Jvm.exec) (hZ : Z.Warmed39 s.vm) (eT : T.heap = h) (V : Arv Z h a k ty n vs dv) {g : JFrame} (hg : g.method = m) {rest : List Value} (hs : g.stack = .ref a :: rest) (hd : decode c.code g.pc = .ok (.arraylength, 1)) :
    ∀ target, Steps p.tables e below (T.setTop { g with pc := g.pc + 1, stack := .int n :: rest }) target → Steps p.tables e below (T.setTop g) target := by
  obtain ⟨cl, Ar, -, S, N, -, -⟩ := V
  intro target q
  refine X.arraylength hx (by rw [eT]; exact Ar.1) (State.isArrayOf_alike hZ.alike Ar.2.1) hg hs hd target ?_
  rw [len_of S N]; exact q
end Own

def own_ov (a b c d : Int32) : Int32 := if a = (0 : Int32) then (if b = (0 : Int32) then (0 : Int32) else if d = (0 : Int32) then (0 : Int32) else (1 : Int32)) else if c = (0 : Int32) then (if b = (0 : Int32) then (0 : Int32) else if d = (0 : Int32) then (0 : Int32) else (1 : Int32)) else (1 : Int32)
theorem own_bits (a b : BitVec 32) : ((a &&& b &&& 3#32) = 0#32) ↔ (((a &&& 1#32) = 0#32 ∨ (b &&& 1#32) = 0#32) ∧ ((a &&& 2#32) = 0#32 ∨ (b &&& 2#32) = 0#32)) := by
  have e1 : ∀ x : BitVec 32, (x &&& 1#32) = 0#32 ↔ x.getLsbD 0 = false := fun x => by
    rw [show (1#32 : BitVec 32) = BitVec.twoPow 32 0 from by decide, BitVec.and_twoPow]; cases x.getLsbD 0 <;> simp <;> decide
  have e2 : ∀ x : BitVec 32, (x &&& 2#32) = 0#32 ↔ x.getLsbD 1 = false := fun x => by
    rw [show (2#32 : BitVec 32) = BitVec.twoPow 32 1 from by decide, BitVec.and_twoPow]; cases x.getLsbD 1 <;> simp <;> decide
  have e3 : ∀ x : BitVec 32, (x &&& 3#32) = 0#32 ↔ x.getLsbD 0 = false ∧ x.getLsbD 1 = false := fun x => by
    have : x &&& 3#32 = (x &&& 1#32) ||| (x &&& 2#32) := by rw [← BitVec.and_or_distrib_left]; rfl
    rw [this, BitVec.or_eq_zero_iff, e1, e2]
  rw [e3, e1, e1, e2, e2, BitVec.getLsbD_and, BitVec.getLsbD_and]
  cases a.getLsbD 0 <;> cases b.getLsbD 0 <;> cases a.getLsbD 1 <;> cases b.getLsbD 1 <;> decide
theorem own_bits' (a b : Int32) : (((a &&& b) &&& (3 : Int32)) = 0) ↔ (((a &&& (1 : Int32)) = 0 ∨ (b &&& (1 : Int32)) = 0) ∧ ((a &&& (2 : Int32)) = 0 ∨ (b &&& (2 : Int32)) = 0)) := by
  simp only [← Int32.toBitVec_inj, Int32.toBitVec_and]
  exact own_bits a.toBitVec b.toBitVec
theorem own_nb (P : Prop) [Decidable P] : (nar .boolean (if P then (0 : Int32) else (1 : Int32)) = 0) ↔ P := by
  by_cases h : P
  · rw [if_pos h]; exact ⟨fun _ => h, fun _ => by decide⟩
  · rw [if_neg h]; exact ⟨fun q => absurd q (by decide), fun q => absurd q h⟩
theorem own_plain (a b : Int32) : own_ov (nar .boolean (if (a &&& (1 : Int32)) = (0 : Int32) then (0 : Int32) else (1 : Int32))) (nar .boolean (if (a &&& (2 : Int32)) = (0 : Int32) then (0 : Int32) else (1 : Int32))) (nar .boolean (if (b &&& (1 : Int32)) = (0 : Int32) then (0 : Int32) else (1 : Int32))) (nar .boolean (if (b &&& (2 : Int32)) = (0 : Int32) then (0 : Int32) else (1 : Int32))) = (if ((a &&& b) &&& (3 : Int32)) = (0 : Int32) then (0 : Int32) else (1 : Int32)) := by
  unfold own_ov
  simp only [own_nb, own_bits']
  by_cases h1 : (a &&& (1 : Int32)) = 0 <;> by_cases h2 : (a &&& (2 : Int32)) = 0 <;> by_cases h3 : (b &&& (1 : Int32)) = 0 <;> by_cases h4 : (b &&& (2 : Int32)) = 0 <;> simp [h1, h2, h3, h4]
theorem own_plain' (a b : Int32) : own_ov (nar .boolean (if (b &&& (1 : Int32)) = (0 : Int32) then (0 : Int32) else (1 : Int32))) (nar .boolean (if (b &&& (2 : Int32)) = (0 : Int32) then (0 : Int32) else (1 : Int32))) (nar .boolean (if (a &&& (1 : Int32)) = (0 : Int32) then (0 : Int32) else (1 : Int32))) (nar .boolean (if (a &&& (2 : Int32)) = (0 : Int32) then (0 : Int32) else (1 : Int32))) = (if ((a &&& b) &&& (3 : Int32)) = (0 : Int32) then (0 : Int32) else (1 : Int32)) := by
  rw [Int32.and_comm a b]; exact own_plain b a
theorem ef_2 (m : MethodId) (a1 : Addr) : entryFrame m #[(.ref a1)] 1 = mkF m 0 #[.val (.ref a1)] [] := by first | (simp [entryFrame, mkF, argsToLocals, Value.category]; done) | rfl
theorem pn_java_lang_Record : plainName "java/lang/Record" = true := by first | (simp [plainName, overriddenIn]; done) | decide +kernel
theorem d2_0 : decode jdk_30_method_1_code 0 = .ok (.aload_n 0, 1) := by decide +kernel
theorem d2_1 : decode jdk_30_method_1_code 1 = .ok (.invokespecial 1, 3) := by decide +kernel
theorem d2_4 : decode jdk_30_method_1_code 4 = .ok (.return_, 1) := by decide +kernel
def Q2 (Z : State) (a1 : Addr) (h0 : Heap) (n0 : Nat) (v : Option Value) (h : Heap) (L : List Loc) : Prop := v = none ∧ Fr n0 L ∧ h = h0
set_option maxRecDepth 65536 in
set_option maxHeartbeats 40000000 in
theorem rm2 (l : Launch) (Z : State) (a0 : Array Value) (hw : ∀ d ∈ tables_1, d.before a0 Z = true) (ws : List Jvm.Cond) (a1 : Addr) (h0 : Heap) (n0 : Nat) (Z0 : n0 ≤ h0.size) :
    MetFree l (⟨"java/lang/Record", "<init>", "()V"⟩ : MethodName) (head1 (Jvm.Cond.code (⟨"java/lang/Record", "<init>", "()V"⟩ : MethodName) jdk_30_method_1_code 1 none :: ws) ({ frames := 1, cells := 0, slots := 0, locals := 12 } : Room)) (fun a U => a = #[(.ref a1)] ∧ Z.Warmed39 U.vm ∧ U.heap = h0) (fun _ _ _ _ _ => True) (fun _ U o U' => ∃ v L, o = .returned v ∧ Q2 Z a1 h0 n0 v U'.heap L ∧ FrameEnd U o U' L ({ frames := 1, cells := 0, slots := 0, locals := 12 } : Room).cells ({ frames := 1, cells := 0, slots := 0, locals := 12 } : Room).slots) := by
  refine MetFree.of_bodySF (plainFor_of_name pn_java_lang_Record) hisR ?_
  intro p e s m args below meth c s₁ Bd hml0 hP hK
  obtain ⟨rfl, hZ, hh⟩ := hP
  have hx := Bd.exec
  have hby := Bd.bytes
  have hml : c.maxLocals = 1 := hml0
  have hown : s.vm.findClass "java/lang/Record" = some m.cls := findClass_of_methodNamed Bd.named
  have hnm := (name_of_methodNamed Bd.named Bd.method).1
  have X0 : Stand p l e ({ frames := 1, cells := 0, slots := 0, locals := 12 } : Room) s m #[(.ref a1)] below meth c s₁ [] 0 0 := Stand.of_body Bd
  have eh0 : s₁.heap = h0 := by rw [← hh, Bd.state]; rfl
  have N0 := Fr.nil n0
  have pre0 : ∀ t, Steps p.tables e below (s₁.setTop (mkF m 0 #[.val (.ref a1)] [])) t → Steps p.tables e below (s₁.setTop (entryFrame m #[(.ref a1)] 1)) t := fun t k => castTop (ef_2 m a1) k
  have pre1 : ∀ t, Steps p.tables e below (s₁.setTop (mkF m 1 #[.val (.ref a1)] [(.ref a1)])) t → Steps p.tables e below (s₁.setTop (entryFrame m #[(.ref a1)] 1)) t := fun t k => pre0 t (by
    show Steps p.tables e below (s₁.setTop (mkF m 0 #[.val (.ref a1)] [])) t
    refine XS.aloadN X0.here hx rfl (hb hby d2_0) rfl rfl ?_
    show Steps p.tables e below (s₁.setTop (mkF m 1 #[.val (.ref a1)] [(.ref a1)])) t
    exact k)
  obtain ⟨T2, X2, eh2, st2⟩ := initO X0 hx hZ hown (hw _ (List.mem_of_getElem? (i := 11) rfl)) (hw _ (List.mem_of_getElem? (i := 12) rfl)) (hw _ (List.mem_of_getElem? (i := 13) rfl)) eh0 (g := (mkF m 1 #[.val (.ref a1)] [(.ref a1)])) rfl (by rw [hml]; rfl) rfl (hb hby d2_1) (by decide) (W := 0) (by show 2 * 0 + _ ≤ _; exact Nat.le_of_eq rfl) (by decide)
  have pre3 : ∀ t, Steps p.tables e below (T2.setTop (mkF m 4 #[.val (.ref a1)] [])) t → Steps p.tables e below (s₁.setTop (entryFrame m #[(.ref a1)] 1)) t := fun t k => pre1 t (st2 _ k)
  obtain ⟨fs, hr, hrun, hended, hW, hsame⟩ := X2.leave (v := none) (fun _ => rfl)
  refine ⟨_, _, pre3 _ ?_, hrun, hended, _, _, rfl, ?_, ⟨_, rfl⟩, hW, hsame.mono (by decide) (by decide)⟩
  · show Steps p.tables e below (T2.setTop (mkF m 4 #[.val (.ref a1)] [])) _
    exact X2.returnOut hx Bd.returns (hb hby d2_4) hr
  · show Q2 Z a1 h0 n0 _ T2.heap _
    rw [eh2]
    exact ⟨rfl, N0, rfl⟩
theorem ef_1 (m : MethodId) (a1 : Addr) (p2 : Int32) (p3 : Int32) : entryFrame m #[(.ref a1), (.int p2), (.int p3)] 3 = mkF m 0 #[.val (.ref a1), .val (.int p2), .val (.int p3)] [] := by first | (simp [entryFrame, mkF, argsToLocals, Value.category]; done) | rfl
theorem pn_com_example_jarlens_jarlens_corpus_Breaks : plainName "com/example/jarlens/jarlens/corpus/Breaks" = true := by first | (simp [plainName, overriddenIn]; done) | decide +kernel
theorem d1_0 : decode prog_12_method_1_code 0 = .ok (.aload_n 0, 1) := by decide +kernel
theorem d1_1 : decode prog_12_method_1_code 1 = .ok (.invokespecial 1, 3) := by decide +kernel
theorem pd_ocV : parseMethodDescriptor "()V" = some ⟨[], none⟩ := by decide +kernel
theorem d1_4 : decode prog_12_method_1_code 4 = .ok (.aload_n 0, 1) := by decide +kernel
theorem d1_5 : decode prog_12_method_1_code 5 = .ok (.iload_n 1, 1) := by decide +kernel
theorem d1_6 : decode prog_12_method_1_code 6 = .ok (.putfield 7, 3) := by decide +kernel
theorem d1_9 : decode prog_12_method_1_code 9 = .ok (.aload_n 0, 1) := by decide +kernel
theorem d1_10 : decode prog_12_method_1_code 10 = .ok (.iload_n 2, 1) := by decide +kernel
theorem d1_11 : decode prog_12_method_1_code 11 = .ok (.putfield 13, 3) := by decide +kernel
theorem d1_14 : decode prog_12_method_1_code 14 = .ok (.return_, 1) := by decide +kernel
def Q1 (Z : State) (a1 : Addr) (p2 : Int32) (p3 : Int32) (u1 : Value) (u2 : Value) (h0 : Heap) (n0 : Nat) (v : Option Value) (h : Heap) (L : List Loc) : Prop := v = none ∧ Fr n0 L ∧ Keep h0 h [a1] ∧ Exa Z h a1 "com/example/jarlens/jarlens/corpus/Breaks" ∧ Fld Z h a1 "com/example/jarlens/jarlens/corpus/Breaks" "binary" "Z" (.int (nar .boolean p2)) ∧ Fld Z h a1 "com/example/jarlens/jarlens/corpus/Breaks" "source" "Z" (.int (nar .boolean p3))
set_option maxRecDepth 65536 in
set_option maxHeartbeats 40000000 in
theorem rm1 (l : Launch) (Z : State) (a0 : Array Value) (hw : ∀ d ∈ tables_1, d.before a0 Z = true) (ws : List Jvm.Cond) (a1 : Addr) (p2 : Int32) (p3 : Int32) (u1 : Value) (u2 : Value) (h0 : Heap) (n0 : Nat) (Z0 : n0 ≤ h0.size) (E_a1 : Exa Z h0 a1 "com/example/jarlens/jarlens/corpus/Breaks") (F_binary_a1 : Fld Z h0 a1 "com/example/jarlens/jarlens/corpus/Breaks" "binary" "Z" u1) (F_source_a1 : Fld Z h0 a1 "com/example/jarlens/jarlens/corpus/Breaks" "source" "Z" u2) (g_a1 : n0 ≤ a1) :
    MetFree l (⟨"com/example/jarlens/jarlens/corpus/Breaks", "<init>", "(ZZ)V"⟩ : MethodName) (head1 (Jvm.Cond.code (⟨"com/example/jarlens/jarlens/corpus/Breaks", "<init>", "(ZZ)V"⟩ : MethodName) prog_12_method_1_code 3 none :: ws) ({ frames := 2, cells := 0, slots := 0, locals := 24 } : Room)) (fun a U => a = #[(.ref a1), (.int p2), (.int p3)] ∧ Z.Warmed39 U.vm ∧ U.heap = h0) (fun _ _ _ _ _ => True) (fun _ U o U' => ∃ v L, o = .returned v ∧ Q1 Z a1 p2 p3 u1 u2 h0 n0 v U'.heap L ∧ FrameEnd U o U' L ({ frames := 2, cells := 0, slots := 0, locals := 24 } : Room).cells ({ frames := 2, cells := 0, slots := 0, locals := 24 } : Room).slots) := by
  refine MetFree.of_bodySF (plainFor_of_name pn_com_example_jarlens_jarlens_corpus_Breaks) hisR ?_
  intro p e s m args below meth c s₁ Bd hml0 hP hK
  obtain ⟨rfl, hZ, hh⟩ := hP
  have hx := Bd.exec
  have hby := Bd.bytes
  have hml : c.maxLocals = 3 := hml0
  have hown : s.vm.findClass "com/example/jarlens/jarlens/corpus/Breaks" = some m.cls := findClass_of_methodNamed Bd.named
  have hnm := (name_of_methodNamed Bd.named Bd.method).1
  have X0 : Stand p l e ({ frames := 2, cells := 0, slots := 0, locals := 24 } : Room) s m #[(.ref a1), (.int p2), (.int p3)] below meth c s₁ [] 0 0 := Stand.of_body Bd
  have eh0 : s₁.heap = h0 := by rw [← hh, Bd.state]; rfl
  have N0 := Fr.nil n0
  have pre0 : ∀ t, Steps p.tables e below (s₁.setTop (mkF m 0 #[.val (.ref a1), .val (.int p2), .val (.int p3)] [])) t → Steps p.tables e below (s₁.setTop (entryFrame m #[(.ref a1), (.int p2), (.int p3)] 3)) t := fun t k => castTop (ef_1 m a1 p2 p3) k
  have K0 : Keep h0 h0 [a1] := Keep.refl _ _
  have pre1 : ∀ t, Steps p.tables e below (s₁.setTop (mkF m 1 #[.val (.ref a1), .val (.int p2), .val (.int p3)] [(.ref a1)])) t → Steps p.tables e below (s₁.setTop (entryFrame m #[(.ref a1), (.int p2), (.int p3)] 3)) t := fun t k => pre0 t (by
    show Steps p.tables e below (s₁.setTop (mkF m 0 #[.val (.ref a1), .val (.int p2), .val (.int p3)] [])) t
    refine XS.aloadN X0.here hx rfl (hb hby d1_0) rfl rfl ?_
    show Steps p.tables e below (s₁.setTop (mkF m 1 #[.val (.ref a1), .val (.int p2), .val (.int p3)] [(.ref a1)])) t
    exact k)
  obtain ⟨_, _, ⟨T2, L2, k2, n2⟩, -, X2, ⟨Lc2, hQ2, l2, y2, z2⟩, st2⟩ := X0.specialBack hx (y := (⟨"java/lang/Record", "<init>", "()V"⟩ : MethodName)) rfl hown (mvT hZ (hw _ (List.mem_of_getElem? (i := 6) rfl))) (mvT hZ (hw _ (List.mem_of_getElem? (i := 7) rfl))) (mvT hZ (hw _ (List.mem_of_getElem? (i := 10) rfl))) (by decide) (backOf (W := 0) (rm2 l Z a0 hw [] a1 h0 n0 Z0 ) hZ (hw _ (List.mem_of_getElem? (i := 10) rfl)) (hw _ (List.mem_of_getElem? (i := 9) rfl)) (by decide) (by decide)) (g := (mkF m 1 #[.val (.ref a1), .val (.int p2), .val (.int p3)] [(.ref a1)])) rfl (by rw [hml]; rfl) (Steps.refl _) (a := a1) (argsL := []) (rest := []) (lenOf pd_ocV rfl) rfl (by show 2 * 0 + _ ≤ _; exact Nat.le_of_eq rfl) (hb hby d1_1) (fun _ _ => ⟨rfl, eh0, (by decide : 0 + 0 ≤ _), (by decide : 0 + 0 ≤ _)⟩)
  dsimp only [Pt.U, Pt.locs, Pt.cells, Pt.slots] at X2 l2 y2 z2 st2 hQ2
  subst l2 y2 z2
  obtain ⟨rfl, N2q, eh2⟩ := hQ2
  have N2 := Fr.app N0 N2q
  have pre3 : ∀ t, Steps p.tables e below (T2.setTop (mkF m 4 #[.val (.ref a1), .val (.int p2), .val (.int p3)] [])) t → Steps p.tables e below (s₁.setTop (entryFrame m #[(.ref a1), (.int p2), (.int p3)] 3)) t := fun t k => pre1 t (st2.trans k)
  have pre4 : ∀ t, Steps p.tables e below (T2.setTop (mkF m 6 #[.val (.ref a1), .val (.int p2), .val (.int p3)] [(.int p2), (.ref a1)])) t → Steps p.tables e below (s₁.setTop (entryFrame m #[(.ref a1), (.int p2), (.int p3)] 3)) t := fun t k => pre3 t (by
    show Steps p.tables e below (T2.setTop (mkF m 4 #[.val (.ref a1), .val (.int p2), .val (.int p3)] [])) t
    refine XS.aloadN X2.here hx rfl (hb hby d1_4) rfl rfl ?_
    show Steps p.tables e below (T2.setTop (mkF m 5 #[.val (.ref a1), .val (.int p2), .val (.int p3)] [(.ref a1)])) t
    refine XS.iloadN X2.here hx rfl (hb hby d1_5) rfl ?_
    show Steps p.tables e below (T2.setTop (mkF m 6 #[.val (.ref a1), .val (.int p2), .val (.int p3)] [(.int p2), (.ref a1)])) t
    exact k)
  obtain ⟨T5, h5, X5, eh5, W5, st5⟩ := putFN X2 hx hZ hown (hw _ (List.mem_of_getElem? (i := 14) rfl)) Via.refl eh2 F_binary_a1 E_a1 (Or.inr ⟨(hw _ (List.mem_of_getElem? (i := 15) rfl)), rfl, hnm⟩) (hw _ (List.mem_of_getElem? (i := 1) rfl)) (ty := .boolean) (v' := (.int (nar .boolean p2))) (by decide) rfl (fits_nar_bool _) (g := (mkF m 6 #[.val (.ref a1), .val (.int p2), .val (.int p3)] [(.int p2), (.ref a1)])) rfl rfl (hb hby d1_6)
  have E_a1__5 : Exa Z h5 a1 "com/example/jarlens/jarlens/corpus/Breaks" := E_a1.wr W5
  have F_source_a1__5 : Fld Z h5 a1 "com/example/jarlens/jarlens/corpus/Breaks" "source" "Z" u2 := F_source_a1.other W5 (Or.inr (slot_ne (Or.inr (hw _ (List.mem_of_getElem? (i := 17) rfl))) (Or.inr (hw _ (List.mem_of_getElem? (i := 15) rfl))) (by decide) (t := .boolean) (t' := .boolean) (by decide) (by decide)))
  have sz5 : n0 ≤ h5.size := Nat.le_trans Z0 (Keep.of_wr W5).1
  have K5 : Keep h0 h5 [a1] := K0.wr W5 (Or.inl (List.mem_of_getElem? (i := 0) rfl))
  have N5 := Fr.snoc X5 N2 g_a1
  have F_binary_a1__5 : Fld Z h5 a1 "com/example/jarlens/jarlens/corpus/Breaks" "binary" "Z" (.int (nar .boolean p2)) := F_binary_a1.same W5
  have pre6 : ∀ t, Steps p.tables e below (T5.setTop (mkF m 9 #[.val (.ref a1), .val (.int p2), .val (.int p3)] [])) t → Steps p.tables e below (s₁.setTop (entryFrame m #[(.ref a1), (.int p2), (.int p3)] 3)) t := fun t k => pre4 t (st5 _ k)
  have pre7 : ∀ t, Steps p.tables e below (T5.setTop (mkF m 11 #[.val (.ref a1), .val (.int p2), .val (.int p3)] [(.int p3), (.ref a1)])) t → Steps p.tables e below (s₁.setTop (entryFrame m #[(.ref a1), (.int p2), (.int p3)] 3)) t := fun t k => pre6 t (by
    show Steps p.tables e below (T5.setTop (mkF m 9 #[.val (.ref a1), .val (.int p2), .val (.int p3)] [])) t
    refine XS.aloadN X5.here hx rfl (hb hby d1_9) rfl rfl ?_
    show Steps p.tables e below (T5.setTop (mkF m 10 #[.val (.ref a1), .val (.int p2), .val (.int p3)] [(.ref a1)])) t
    refine XS.iloadN X5.here hx rfl (hb hby d1_10) rfl ?_
    show Steps p.tables e below (T5.setTop (mkF m 11 #[.val (.ref a1), .val (.int p2), .val (.int p3)] [(.int p3), (.ref a1)])) t
    exact k)
  obtain ⟨T8, h8, X8, eh8, W8, st8⟩ := putFN X5 hx hZ hown (hw _ (List.mem_of_getElem? (i := 16) rfl)) Via.refl eh5 F_source_a1__5 E_a1__5 (Or.inr ⟨(hw _ (List.mem_of_getElem? (i := 17) rfl)), rfl, hnm⟩) (hw _ (List.mem_of_getElem? (i := 1) rfl)) (ty := .boolean) (v' := (.int (nar .boolean p3))) (by decide) rfl (fits_nar_bool _) (g := (mkF m 11 #[.val (.ref a1), .val (.int p2), .val (.int p3)] [(.int p3), (.ref a1)])) rfl rfl (hb hby d1_11)
  have E_a1__8 : Exa Z h8 a1 "com/example/jarlens/jarlens/corpus/Breaks" := E_a1__5.wr W8
  have F_binary_a1__8 : Fld Z h8 a1 "com/example/jarlens/jarlens/corpus/Breaks" "binary" "Z" (.int (nar .boolean p2)) := F_binary_a1__5.other W8 (Or.inr (slot_ne (Or.inr (hw _ (List.mem_of_getElem? (i := 15) rfl))) (Or.inr (hw _ (List.mem_of_getElem? (i := 17) rfl))) (by decide) (t := .boolean) (t' := .boolean) (by decide) (by decide)))
  have sz8 : n0 ≤ h8.size := Nat.le_trans sz5 (Keep.of_wr W8).1
  have K8 : Keep h0 h8 [a1] := K5.wr W8 (Or.inl (List.mem_of_getElem? (i := 0) rfl))
  have N8 := Fr.snoc X8 N5 g_a1
  have F_source_a1__8 : Fld Z h8 a1 "com/example/jarlens/jarlens/corpus/Breaks" "source" "Z" (.int (nar .boolean p3)) := F_source_a1__5.same W8
  have pre9 : ∀ t, Steps p.tables e below (T8.setTop (mkF m 14 #[.val (.ref a1), .val (.int p2), .val (.int p3)] [])) t → Steps p.tables e below (s₁.setTop (entryFrame m #[(.ref a1), (.int p2), (.int p3)] 3)) t := fun t k => pre7 t (st8 _ k)
  obtain ⟨fs, hr, hrun, hended, hW, hsame⟩ := X8.leave (v := none) (fun _ => rfl)
  refine ⟨_, _, pre9 _ ?_, hrun, hended, _, _, rfl, ?_, ⟨_, rfl⟩, hW, hsame.mono (by decide) (by decide)⟩
  · show Steps p.tables e below (T8.setTop (mkF m 14 #[.val (.ref a1), .val (.int p2), .val (.int p3)] [])) _
    exact X8.returnOut hx Bd.returns (hb hby d1_14) hr
  · show Q1 Z a1 p2 p3 u1 u2 h0 n0 _ T8.heap _
    rw [eh8]
    exact ⟨rfl, N8, K8, E_a1__8, F_binary_a1__8, F_source_a1__8⟩
theorem ef_4 (m : MethodId) (a1 : Addr) (a2 : Addr) : entryFrame m #[(.ref a1), (.ref a2)] 2 = mkF m 0 #[.val (.ref a1), .val (.ref a2)] [] := by first | (simp [entryFrame, mkF, argsToLocals, Value.category]; done) | rfl
theorem d4_0 : decode prog_12_method_4_code 0 = .ok (.aload_n 0, 1) := by decide +kernel
theorem d4_1 : decode prog_12_method_4_code 1 = .ok (.getfield 7, 3) := by decide +kernel
theorem d4_4 : decode prog_12_method_4_code 4 = .ok (.ifCond .eq 10, 3) := by decide +kernel
theorem d4_14 : decode prog_12_method_4_code 14 = .ok (.aload_n 0, 1) := by decide +kernel
theorem d4_15 : decode prog_12_method_4_code 15 = .ok (.getfield 13, 3) := by decide +kernel
theorem d4_18 : decode prog_12_method_4_code 18 = .ok (.ifCond .eq 14, 3) := by decide +kernel
theorem d4_32 : decode prog_12_method_4_code 32 = .ok (.iconst 0, 1) := by decide +kernel
theorem d4_33 : decode prog_12_method_4_code 33 = .ok (.ireturn, 1) := by decide +kernel
theorem d4_21 : decode prog_12_method_4_code 21 = .ok (.aload_n 1, 1) := by decide +kernel
theorem d4_22 : decode prog_12_method_4_code 22 = .ok (.getfield 13, 3) := by decide +kernel
theorem d4_25 : decode prog_12_method_4_code 25 = .ok (.ifCond .eq 7, 3) := by decide +kernel
theorem d4_28 : decode prog_12_method_4_code 28 = .ok (.iconst 1, 1) := by decide +kernel
theorem d4_29 : decode prog_12_method_4_code 29 = .ok (.goto 4, 3) := by decide +kernel
theorem d4_7 : decode prog_12_method_4_code 7 = .ok (.aload_n 1, 1) := by decide +kernel
theorem d4_8 : decode prog_12_method_4_code 8 = .ok (.getfield 7, 3) := by decide +kernel
theorem d4_11 : decode prog_12_method_4_code 11 = .ok (.ifCond .ne 17, 3) := by decide +kernel
def Q4 (Z : State) (a1 : Addr) (a2 : Addr) (w1 : Int32) (w2 : Int32) (w3 : Int32) (w4 : Int32) (h0 : Heap) (n0 : Nat) (v : Option Value) (h : Heap) (L : List Loc) : Prop := v = some (.int (own_ov w1 w2 w3 w4)) ∧ Fr n0 L ∧ h = h0
set_option maxRecDepth 65536 in
set_option maxHeartbeats 40000000 in
theorem rm4 (l : Launch) (Z : State) (a0 : Array Value) (hw : ∀ d ∈ tables_1, d.before a0 Z = true) (ws : List Jvm.Cond) (a1 : Addr) (a2 : Addr) (w1 : Int32) (w2 : Int32) (w3 : Int32) (w4 : Int32) (h0 : Heap) (n0 : Nat) (Z0 : n0 ≤ h0.size) (F_binary_a1 : Fld Z h0 a1 "com/example/jarlens/jarlens/corpus/Breaks" "binary" "Z" (.int w1)) (F_source_a1 : Fld Z h0 a1 "com/example/jarlens/jarlens/corpus/Breaks" "source" "Z" (.int w2)) (F_binary_a2 : Fld Z h0 a2 "com/example/jarlens/jarlens/corpus/Breaks" "binary" "Z" (.int w3)) (F_source_a2 : Fld Z h0 a2 "com/example/jarlens/jarlens/corpus/Breaks" "source" "Z" (.int w4)) :
    MetFree l (⟨"com/example/jarlens/jarlens/corpus/Breaks", "overlaps", "(Lcom/example/jarlens/jarlens/corpus/Breaks;)Z"⟩ : MethodName) (head1 (Jvm.Cond.code (⟨"com/example/jarlens/jarlens/corpus/Breaks", "overlaps", "(Lcom/example/jarlens/jarlens/corpus/Breaks;)Z"⟩ : MethodName) prog_12_method_4_code 2 (some .boolean) :: ws) ({ frames := 0, cells := 0, slots := 0, locals := 0 } : Room)) (fun a U => a = #[(.ref a1), (.ref a2)] ∧ Z.Warmed39 U.vm ∧ U.heap = h0) (fun _ _ _ _ _ => True) (fun _ U o U' => ∃ v L, o = .returned v ∧ Q4 Z a1 a2 w1 w2 w3 w4 h0 n0 v U'.heap L ∧ FrameEnd U o U' L ({ frames := 0, cells := 0, slots := 0, locals := 0 } : Room).cells ({ frames := 0, cells := 0, slots := 0, locals := 0 } : Room).slots) := by
  refine MetFree.of_bodySF (plainFor_of_name pn_com_example_jarlens_jarlens_corpus_Breaks) hisR ?_
  intro p e s m args below meth c s₁ Bd hml0 hP hK
  obtain ⟨rfl, hZ, hh⟩ := hP
  have hx := Bd.exec
  have hby := Bd.bytes
  have hml : c.maxLocals = 2 := hml0
  have hown : s.vm.findClass "com/example/jarlens/jarlens/corpus/Breaks" = some m.cls := findClass_of_methodNamed Bd.named
  have hnm := (name_of_methodNamed Bd.named Bd.method).1
  have X0 : Stand p l e ({ frames := 0, cells := 0, slots := 0, locals := 0 } : Room) s m #[(.ref a1), (.ref a2)] below meth c s₁ [] 0 0 := Stand.of_body Bd
  have eh0 : s₁.heap = h0 := by rw [← hh, Bd.state]; rfl
  have N0 := Fr.nil n0
  have pre0 : ∀ t, Steps p.tables e below (s₁.setTop (mkF m 0 #[.val (.ref a1), .val (.ref a2)] [])) t → Steps p.tables e below (s₁.setTop (entryFrame m #[(.ref a1), (.ref a2)] 2)) t := fun t k => castTop (ef_4 m a1 a2) k
  have pre1 : ∀ t, Steps p.tables e below (s₁.setTop (mkF m 1 #[.val (.ref a1), .val (.ref a2)] [(.ref a1)])) t → Steps p.tables e below (s₁.setTop (entryFrame m #[(.ref a1), (.ref a2)] 2)) t := fun t k => pre0 t (by
    show Steps p.tables e below (s₁.setTop (mkF m 0 #[.val (.ref a1), .val (.ref a2)] [])) t
    refine XS.aloadN X0.here hx rfl (hb hby d4_0) rfl rfl ?_
    show Steps p.tables e below (s₁.setTop (mkF m 1 #[.val (.ref a1), .val (.ref a2)] [(.ref a1)])) t
    exact k)
  obtain ⟨T2, X2, eh2, st2⟩ := getF X0 hx hZ hown (host := "") (Or.inl (hw _ (List.mem_of_getElem? (i := 14) rfl))) Via.refl eh0 F_binary_a1 (g := (mkF m 1 #[.val (.ref a1), .val (.ref a2)] [(.ref a1)])) rfl rfl (hb hby d4_1)
  have pre3 : ∀ t, Steps p.tables e below (T2.setTop (mkF m 4 #[.val (.ref a1), .val (.ref a2)] [(.int w1)])) t → Steps p.tables e below (s₁.setTop (entryFrame m #[(.ref a1), (.ref a2)] 2)) t := fun t k => pre1 t (st2 _ k)
  by_cases hc4_4 : w1 = (0 : Int32)
  · skip
    have pre5 : ∀ t, Steps p.tables e below (T2.setTop (mkF m 15 #[.val (.ref a1), .val (.ref a2)] [(.ref a1)])) t → Steps p.tables e below (s₁.setTop (entryFrame m #[(.ref a1), (.ref a2)] 2)) t := fun t k => pre3 t (by
      show Steps p.tables e below (T2.setTop (mkF m 4 #[.val (.ref a1), .val (.ref a2)] [(.int w1)])) t
      refine XS.ifYes X2.here hx rfl (pc0 := 4) (pc' := 14) rfl (hb hby d4_4) rfl (XT.i0_eq_t hc4_4) (by decide) (by decide) ?_
      show Steps p.tables e below (T2.setTop (mkF m 14 #[.val (.ref a1), .val (.ref a2)] [])) t
      refine XS.aloadN X2.here hx rfl (hb hby d4_14) rfl rfl ?_
      show Steps p.tables e below (T2.setTop (mkF m 15 #[.val (.ref a1), .val (.ref a2)] [(.ref a1)])) t
      exact k)
    obtain ⟨T6, X6, eh6, st6⟩ := getF X2 hx hZ hown (host := "") (Or.inl (hw _ (List.mem_of_getElem? (i := 16) rfl))) Via.refl eh2 F_source_a1 (g := (mkF m 15 #[.val (.ref a1), .val (.ref a2)] [(.ref a1)])) rfl rfl (hb hby d4_15)
    have pre7 : ∀ t, Steps p.tables e below (T6.setTop (mkF m 18 #[.val (.ref a1), .val (.ref a2)] [(.int w2)])) t → Steps p.tables e below (s₁.setTop (entryFrame m #[(.ref a1), (.ref a2)] 2)) t := fun t k => pre5 t (st6 _ k)
    by_cases hc18_8 : w2 = (0 : Int32)
    · skip
      have pre9 : ∀ t, Steps p.tables e below (T6.setTop (mkF m 33 #[.val (.ref a1), .val (.ref a2)] [(.int (0 : Int32))])) t → Steps p.tables e below (s₁.setTop (entryFrame m #[(.ref a1), (.ref a2)] 2)) t := fun t k => pre7 t (by
        show Steps p.tables e below (T6.setTop (mkF m 18 #[.val (.ref a1), .val (.ref a2)] [(.int w2)])) t
        refine XS.ifYes X6.here hx rfl (pc0 := 18) (pc' := 32) rfl (hb hby d4_18) rfl (XT.i0_eq_t hc18_8) (by decide) (by decide) ?_
        show Steps p.tables e below (T6.setTop (mkF m 32 #[.val (.ref a1), .val (.ref a2)] [])) t
        refine XS.iconst X6.here hx rfl (hb hby d4_32) ?_
        show Steps p.tables e below (T6.setTop (mkF m 33 #[.val (.ref a1), .val (.ref a2)] [(.int (0 : Int32))])) t
        exact k)
      obtain ⟨fs, hr, hrun, hended, hW, hsame⟩ := X6.leave (v := some (.int (0 : Int32))) (fun h => by rw [Bd.returns] at h; cases h)
      refine ⟨_, _, pre9 _ ?_, hrun, hended, _, _, rfl, ?_, ⟨_, rfl⟩, hW, hsame.mono (by decide) (by decide)⟩
      · show Steps p.tables e below (T6.setTop (mkF m 33 #[.val (.ref a1), .val (.ref a2)] [(.int (0 : Int32))])) _
        exact retN X6 hx (t := .boolean) Bd.returns (by simp) (hb hby d4_33) hr
      · show Q4 Z a1 a2 w1 w2 w3 w4 h0 n0 _ T6.heap _
        rw [eh6]
        exact ⟨(congrArg (fun z => some (Value.int z)) (show (0 : Int32) = (own_ov w1 w2 w3 w4) from (by simp only [own_ov, if_pos hc4_4, if_pos hc18_8]))), N0, rfl⟩
    · skip
      have pre10 : ∀ t, Steps p.tables e below (T6.setTop (mkF m 22 #[.val (.ref a1), .val (.ref a2)] [(.ref a2)])) t → Steps p.tables e below (s₁.setTop (entryFrame m #[(.ref a1), (.ref a2)] 2)) t := fun t k => pre7 t (by
        show Steps p.tables e below (T6.setTop (mkF m 18 #[.val (.ref a1), .val (.ref a2)] [(.int w2)])) t
        refine XS.ifNo X6.here hx rfl (hb hby d4_18) rfl (XT.i0_eq_f hc18_8) ?_
        show Steps p.tables e below (T6.setTop (mkF m 21 #[.val (.ref a1), .val (.ref a2)] [])) t
        refine XS.aloadN X6.here hx rfl (hb hby d4_21) rfl rfl ?_
        show Steps p.tables e below (T6.setTop (mkF m 22 #[.val (.ref a1), .val (.ref a2)] [(.ref a2)])) t
        exact k)
      obtain ⟨T11, X11, eh11, st11⟩ := getF X6 hx hZ hown (host := "") (Or.inl (hw _ (List.mem_of_getElem? (i := 16) rfl))) Via.refl eh6 F_source_a2 (g := (mkF m 22 #[.val (.ref a1), .val (.ref a2)] [(.ref a2)])) rfl rfl (hb hby d4_22)
      have pre12 : ∀ t, Steps p.tables e below (T11.setTop (mkF m 25 #[.val (.ref a1), .val (.ref a2)] [(.int w4)])) t → Steps p.tables e below (s₁.setTop (entryFrame m #[(.ref a1), (.ref a2)] 2)) t := fun t k => pre10 t (st11 _ k)
      by_cases hc25_13 : w4 = (0 : Int32)
      · skip
        have pre14 : ∀ t, Steps p.tables e below (T11.setTop (mkF m 33 #[.val (.ref a1), .val (.ref a2)] [(.int (0 : Int32))])) t → Steps p.tables e below (s₁.setTop (entryFrame m #[(.ref a1), (.ref a2)] 2)) t := fun t k => pre12 t (by
          show Steps p.tables e below (T11.setTop (mkF m 25 #[.val (.ref a1), .val (.ref a2)] [(.int w4)])) t
          refine XS.ifYes X11.here hx rfl (pc0 := 25) (pc' := 32) rfl (hb hby d4_25) rfl (XT.i0_eq_t hc25_13) (by decide) (by decide) ?_
          show Steps p.tables e below (T11.setTop (mkF m 32 #[.val (.ref a1), .val (.ref a2)] [])) t
          refine XS.iconst X11.here hx rfl (hb hby d4_32) ?_
          show Steps p.tables e below (T11.setTop (mkF m 33 #[.val (.ref a1), .val (.ref a2)] [(.int (0 : Int32))])) t
          exact k)
        obtain ⟨fs, hr, hrun, hended, hW, hsame⟩ := X11.leave (v := some (.int (0 : Int32))) (fun h => by rw [Bd.returns] at h; cases h)
        refine ⟨_, _, pre14 _ ?_, hrun, hended, _, _, rfl, ?_, ⟨_, rfl⟩, hW, hsame.mono (by decide) (by decide)⟩
        · show Steps p.tables e below (T11.setTop (mkF m 33 #[.val (.ref a1), .val (.ref a2)] [(.int (0 : Int32))])) _
          exact retN X11 hx (t := .boolean) Bd.returns (by simp) (hb hby d4_33) hr
        · show Q4 Z a1 a2 w1 w2 w3 w4 h0 n0 _ T11.heap _
          rw [eh11]
          exact ⟨(congrArg (fun z => some (Value.int z)) (show (0 : Int32) = (own_ov w1 w2 w3 w4) from (by simp only [own_ov, if_pos hc4_4, if_neg hc18_8, if_pos hc25_13]))), N0, rfl⟩
      · skip
        have pre15 : ∀ t, Steps p.tables e below (T11.setTop (mkF m 33 #[.val (.ref a1), .val (.ref a2)] [(.int (1 : Int32))])) t → Steps p.tables e below (s₁.setTop (entryFrame m #[(.ref a1), (.ref a2)] 2)) t := fun t k => pre12 t (by
          show Steps p.tables e below (T11.setTop (mkF m 25 #[.val (.ref a1), .val (.ref a2)] [(.int w4)])) t
          refine XS.ifNo X11.here hx rfl (hb hby d4_25) rfl (XT.i0_eq_f hc25_13) ?_
          show Steps p.tables e below (T11.setTop (mkF m 28 #[.val (.ref a1), .val (.ref a2)] [])) t
          refine XS.iconst X11.here hx rfl (hb hby d4_28) ?_
          show Steps p.tables e below (T11.setTop (mkF m 29 #[.val (.ref a1), .val (.ref a2)] [(.int (1 : Int32))])) t
          refine XS.goto X11.here hx rfl (pc0 := 29) (pc' := 33) rfl (hb hby d4_29) (by decide) (by decide) ?_
          show Steps p.tables e below (T11.setTop (mkF m 33 #[.val (.ref a1), .val (.ref a2)] [(.int (1 : Int32))])) t
          exact k)
        obtain ⟨fs, hr, hrun, hended, hW, hsame⟩ := X11.leave (v := some (.int (1 : Int32))) (fun h => by rw [Bd.returns] at h; cases h)
        refine ⟨_, _, pre15 _ ?_, hrun, hended, _, _, rfl, ?_, ⟨_, rfl⟩, hW, hsame.mono (by decide) (by decide)⟩
        · show Steps p.tables e below (T11.setTop (mkF m 33 #[.val (.ref a1), .val (.ref a2)] [(.int (1 : Int32))])) _
          exact retN X11 hx (t := .boolean) Bd.returns (by simp) (hb hby d4_33) hr
        · show Q4 Z a1 a2 w1 w2 w3 w4 h0 n0 _ T11.heap _
          rw [eh11]
          exact ⟨(congrArg (fun z => some (Value.int z)) (show (1 : Int32) = (own_ov w1 w2 w3 w4) from (by simp only [own_ov, if_pos hc4_4, if_neg hc18_8, if_neg hc25_13]))), N0, rfl⟩
  · skip
    have pre16 : ∀ t, Steps p.tables e below (T2.setTop (mkF m 8 #[.val (.ref a1), .val (.ref a2)] [(.ref a2)])) t → Steps p.tables e below (s₁.setTop (entryFrame m #[(.ref a1), (.ref a2)] 2)) t := fun t k => pre3 t (by
      show Steps p.tables e below (T2.setTop (mkF m 4 #[.val (.ref a1), .val (.ref a2)] [(.int w1)])) t
      refine XS.ifNo X2.here hx rfl (hb hby d4_4) rfl (XT.i0_eq_f hc4_4) ?_
      show Steps p.tables e below (T2.setTop (mkF m 7 #[.val (.ref a1), .val (.ref a2)] [])) t
      refine XS.aloadN X2.here hx rfl (hb hby d4_7) rfl rfl ?_
      show Steps p.tables e below (T2.setTop (mkF m 8 #[.val (.ref a1), .val (.ref a2)] [(.ref a2)])) t
      exact k)
    obtain ⟨T17, X17, eh17, st17⟩ := getF X2 hx hZ hown (host := "") (Or.inl (hw _ (List.mem_of_getElem? (i := 14) rfl))) Via.refl eh2 F_binary_a2 (g := (mkF m 8 #[.val (.ref a1), .val (.ref a2)] [(.ref a2)])) rfl rfl (hb hby d4_8)
    have pre18 : ∀ t, Steps p.tables e below (T17.setTop (mkF m 11 #[.val (.ref a1), .val (.ref a2)] [(.int w3)])) t → Steps p.tables e below (s₁.setTop (entryFrame m #[(.ref a1), (.ref a2)] 2)) t := fun t k => pre16 t (st17 _ k)
    by_cases hc11_19 : w3 = (0 : Int32)
    · skip
      have pre20 : ∀ t, Steps p.tables e below (T17.setTop (mkF m 15 #[.val (.ref a1), .val (.ref a2)] [(.ref a1)])) t → Steps p.tables e below (s₁.setTop (entryFrame m #[(.ref a1), (.ref a2)] 2)) t := fun t k => pre18 t (by
        show Steps p.tables e below (T17.setTop (mkF m 11 #[.val (.ref a1), .val (.ref a2)] [(.int w3)])) t
        refine XS.ifNo X17.here hx rfl (hb hby d4_11) rfl (XT.i0_ne_f hc11_19) ?_
        show Steps p.tables e below (T17.setTop (mkF m 14 #[.val (.ref a1), .val (.ref a2)] [])) t
        refine XS.aloadN X17.here hx rfl (hb hby d4_14) rfl rfl ?_
        show Steps p.tables e below (T17.setTop (mkF m 15 #[.val (.ref a1), .val (.ref a2)] [(.ref a1)])) t
        exact k)
      obtain ⟨T21, X21, eh21, st21⟩ := getF X17 hx hZ hown (host := "") (Or.inl (hw _ (List.mem_of_getElem? (i := 16) rfl))) Via.refl eh17 F_source_a1 (g := (mkF m 15 #[.val (.ref a1), .val (.ref a2)] [(.ref a1)])) rfl rfl (hb hby d4_15)
      have pre22 : ∀ t, Steps p.tables e below (T21.setTop (mkF m 18 #[.val (.ref a1), .val (.ref a2)] [(.int w2)])) t → Steps p.tables e below (s₁.setTop (entryFrame m #[(.ref a1), (.ref a2)] 2)) t := fun t k => pre20 t (st21 _ k)
      by_cases hc18_23 : w2 = (0 : Int32)
      · skip
        have pre24 : ∀ t, Steps p.tables e below (T21.setTop (mkF m 33 #[.val (.ref a1), .val (.ref a2)] [(.int (0 : Int32))])) t → Steps p.tables e below (s₁.setTop (entryFrame m #[(.ref a1), (.ref a2)] 2)) t := fun t k => pre22 t (by
          show Steps p.tables e below (T21.setTop (mkF m 18 #[.val (.ref a1), .val (.ref a2)] [(.int w2)])) t
          refine XS.ifYes X21.here hx rfl (pc0 := 18) (pc' := 32) rfl (hb hby d4_18) rfl (XT.i0_eq_t hc18_23) (by decide) (by decide) ?_
          show Steps p.tables e below (T21.setTop (mkF m 32 #[.val (.ref a1), .val (.ref a2)] [])) t
          refine XS.iconst X21.here hx rfl (hb hby d4_32) ?_
          show Steps p.tables e below (T21.setTop (mkF m 33 #[.val (.ref a1), .val (.ref a2)] [(.int (0 : Int32))])) t
          exact k)
        obtain ⟨fs, hr, hrun, hended, hW, hsame⟩ := X21.leave (v := some (.int (0 : Int32))) (fun h => by rw [Bd.returns] at h; cases h)
        refine ⟨_, _, pre24 _ ?_, hrun, hended, _, _, rfl, ?_, ⟨_, rfl⟩, hW, hsame.mono (by decide) (by decide)⟩
        · show Steps p.tables e below (T21.setTop (mkF m 33 #[.val (.ref a1), .val (.ref a2)] [(.int (0 : Int32))])) _
          exact retN X21 hx (t := .boolean) Bd.returns (by simp) (hb hby d4_33) hr
        · show Q4 Z a1 a2 w1 w2 w3 w4 h0 n0 _ T21.heap _
          rw [eh21]
          exact ⟨(congrArg (fun z => some (Value.int z)) (show (0 : Int32) = (own_ov w1 w2 w3 w4) from (by simp only [own_ov, if_neg hc4_4, if_pos hc11_19, if_pos hc18_23]))), N0, rfl⟩
      · skip
        have pre25 : ∀ t, Steps p.tables e below (T21.setTop (mkF m 22 #[.val (.ref a1), .val (.ref a2)] [(.ref a2)])) t → Steps p.tables e below (s₁.setTop (entryFrame m #[(.ref a1), (.ref a2)] 2)) t := fun t k => pre22 t (by
          show Steps p.tables e below (T21.setTop (mkF m 18 #[.val (.ref a1), .val (.ref a2)] [(.int w2)])) t
          refine XS.ifNo X21.here hx rfl (hb hby d4_18) rfl (XT.i0_eq_f hc18_23) ?_
          show Steps p.tables e below (T21.setTop (mkF m 21 #[.val (.ref a1), .val (.ref a2)] [])) t
          refine XS.aloadN X21.here hx rfl (hb hby d4_21) rfl rfl ?_
          show Steps p.tables e below (T21.setTop (mkF m 22 #[.val (.ref a1), .val (.ref a2)] [(.ref a2)])) t
          exact k)
        obtain ⟨T26, X26, eh26, st26⟩ := getF X21 hx hZ hown (host := "") (Or.inl (hw _ (List.mem_of_getElem? (i := 16) rfl))) Via.refl eh21 F_source_a2 (g := (mkF m 22 #[.val (.ref a1), .val (.ref a2)] [(.ref a2)])) rfl rfl (hb hby d4_22)
        have pre27 : ∀ t, Steps p.tables e below (T26.setTop (mkF m 25 #[.val (.ref a1), .val (.ref a2)] [(.int w4)])) t → Steps p.tables e below (s₁.setTop (entryFrame m #[(.ref a1), (.ref a2)] 2)) t := fun t k => pre25 t (st26 _ k)
        by_cases hc25_28 : w4 = (0 : Int32)
        · skip
          have pre29 : ∀ t, Steps p.tables e below (T26.setTop (mkF m 33 #[.val (.ref a1), .val (.ref a2)] [(.int (0 : Int32))])) t → Steps p.tables e below (s₁.setTop (entryFrame m #[(.ref a1), (.ref a2)] 2)) t := fun t k => pre27 t (by
            show Steps p.tables e below (T26.setTop (mkF m 25 #[.val (.ref a1), .val (.ref a2)] [(.int w4)])) t
            refine XS.ifYes X26.here hx rfl (pc0 := 25) (pc' := 32) rfl (hb hby d4_25) rfl (XT.i0_eq_t hc25_28) (by decide) (by decide) ?_
            show Steps p.tables e below (T26.setTop (mkF m 32 #[.val (.ref a1), .val (.ref a2)] [])) t
            refine XS.iconst X26.here hx rfl (hb hby d4_32) ?_
            show Steps p.tables e below (T26.setTop (mkF m 33 #[.val (.ref a1), .val (.ref a2)] [(.int (0 : Int32))])) t
            exact k)
          obtain ⟨fs, hr, hrun, hended, hW, hsame⟩ := X26.leave (v := some (.int (0 : Int32))) (fun h => by rw [Bd.returns] at h; cases h)
          refine ⟨_, _, pre29 _ ?_, hrun, hended, _, _, rfl, ?_, ⟨_, rfl⟩, hW, hsame.mono (by decide) (by decide)⟩
          · show Steps p.tables e below (T26.setTop (mkF m 33 #[.val (.ref a1), .val (.ref a2)] [(.int (0 : Int32))])) _
            exact retN X26 hx (t := .boolean) Bd.returns (by simp) (hb hby d4_33) hr
          · show Q4 Z a1 a2 w1 w2 w3 w4 h0 n0 _ T26.heap _
            rw [eh26]
            exact ⟨(congrArg (fun z => some (Value.int z)) (show (0 : Int32) = (own_ov w1 w2 w3 w4) from (by simp only [own_ov, if_neg hc4_4, if_pos hc11_19, if_neg hc18_23, if_pos hc25_28]))), N0, rfl⟩
        · skip
          have pre30 : ∀ t, Steps p.tables e below (T26.setTop (mkF m 33 #[.val (.ref a1), .val (.ref a2)] [(.int (1 : Int32))])) t → Steps p.tables e below (s₁.setTop (entryFrame m #[(.ref a1), (.ref a2)] 2)) t := fun t k => pre27 t (by
            show Steps p.tables e below (T26.setTop (mkF m 25 #[.val (.ref a1), .val (.ref a2)] [(.int w4)])) t
            refine XS.ifNo X26.here hx rfl (hb hby d4_25) rfl (XT.i0_eq_f hc25_28) ?_
            show Steps p.tables e below (T26.setTop (mkF m 28 #[.val (.ref a1), .val (.ref a2)] [])) t
            refine XS.iconst X26.here hx rfl (hb hby d4_28) ?_
            show Steps p.tables e below (T26.setTop (mkF m 29 #[.val (.ref a1), .val (.ref a2)] [(.int (1 : Int32))])) t
            refine XS.goto X26.here hx rfl (pc0 := 29) (pc' := 33) rfl (hb hby d4_29) (by decide) (by decide) ?_
            show Steps p.tables e below (T26.setTop (mkF m 33 #[.val (.ref a1), .val (.ref a2)] [(.int (1 : Int32))])) t
            exact k)
          obtain ⟨fs, hr, hrun, hended, hW, hsame⟩ := X26.leave (v := some (.int (1 : Int32))) (fun h => by rw [Bd.returns] at h; cases h)
          refine ⟨_, _, pre30 _ ?_, hrun, hended, _, _, rfl, ?_, ⟨_, rfl⟩, hW, hsame.mono (by decide) (by decide)⟩
          · show Steps p.tables e below (T26.setTop (mkF m 33 #[.val (.ref a1), .val (.ref a2)] [(.int (1 : Int32))])) _
            exact retN X26 hx (t := .boolean) Bd.returns (by simp) (hb hby d4_33) hr
          · show Q4 Z a1 a2 w1 w2 w3 w4 h0 n0 _ T26.heap _
            rw [eh26]
            exact ⟨(congrArg (fun z => some (Value.int z)) (show (1 : Int32) = (own_ov w1 w2 w3 w4) from (by simp only [own_ov, if_neg hc4_4, if_pos hc11_19, if_neg hc18_23, if_neg hc25_28]))), N0, rfl⟩
    · skip
      have pre31 : ∀ t, Steps p.tables e below (T17.setTop (mkF m 33 #[.val (.ref a1), .val (.ref a2)] [(.int (1 : Int32))])) t → Steps p.tables e below (s₁.setTop (entryFrame m #[(.ref a1), (.ref a2)] 2)) t := fun t k => pre18 t (by
        show Steps p.tables e below (T17.setTop (mkF m 11 #[.val (.ref a1), .val (.ref a2)] [(.int w3)])) t
        refine XS.ifYes X17.here hx rfl (pc0 := 11) (pc' := 28) rfl (hb hby d4_11) rfl (XT.i0_ne_t hc11_19) (by decide) (by decide) ?_
        show Steps p.tables e below (T17.setTop (mkF m 28 #[.val (.ref a1), .val (.ref a2)] [])) t
        refine XS.iconst X17.here hx rfl (hb hby d4_28) ?_
        show Steps p.tables e below (T17.setTop (mkF m 29 #[.val (.ref a1), .val (.ref a2)] [(.int (1 : Int32))])) t
        refine XS.goto X17.here hx rfl (pc0 := 29) (pc' := 33) rfl (hb hby d4_29) (by decide) (by decide) ?_
        show Steps p.tables e below (T17.setTop (mkF m 33 #[.val (.ref a1), .val (.ref a2)] [(.int (1 : Int32))])) t
        exact k)
      obtain ⟨fs, hr, hrun, hended, hW, hsame⟩ := X17.leave (v := some (.int (1 : Int32))) (fun h => by rw [Bd.returns] at h; cases h)
      refine ⟨_, _, pre31 _ ?_, hrun, hended, _, _, rfl, ?_, ⟨_, rfl⟩, hW, hsame.mono (by decide) (by decide)⟩
      · show Steps p.tables e below (T17.setTop (mkF m 33 #[.val (.ref a1), .val (.ref a2)] [(.int (1 : Int32))])) _
        exact retN X17 hx (t := .boolean) Bd.returns (by simp) (hb hby d4_33) hr
      · show Q4 Z a1 a2 w1 w2 w3 w4 h0 n0 _ T17.heap _
        rw [eh17]
        exact ⟨(congrArg (fun z => some (Value.int z)) (show (1 : Int32) = (own_ov w1 w2 w3 w4) from (by simp only [own_ov, if_neg hc4_4, if_neg hc11_19]))), N0, rfl⟩
theorem ef_0 (m : MethodId) (p1 : Int32) (p2 : Int32) : entryFrame m #[(.int p1), (.int p2)] maxLocals = mkF m 0 #[.val (.int p1), .val (.int p2), .unset, .unset, .unset, .unset, .unset] [] := by first | (simp [entryFrame, mkF, argsToLocals, Value.category, maxLocals]; done) | rfl
theorem pn_com_example_jarlens_jarlens_corpus_BreaksOverlapsPinLaw : plainName "com/example/jarlens/jarlens/corpus/BreaksOverlapsPinLaw" = true := by first | (simp [plainName, overriddenIn]; done) | decide +kernel
theorem pd_oZZcV : parseMethodDescriptor "(ZZ)V" = some ⟨[.boolean, .boolean], none⟩ := by decide +kernel
theorem pd_oLcom_example_jarlens_jarlens_corpus_Breaks_cZ : parseMethodDescriptor "(Lcom/example/jarlens/jarlens/corpus/Breaks;)Z" = some ⟨[(.object "com/example/jarlens/jarlens/corpus/Breaks")], some .boolean⟩ := by decide +kernel
def Q0 (Z : State) (p1 : Int32) (p2 : Int32) (h0 : Heap) (n0 : Nat) (v : Option Value) (h : Heap) (L : List Loc) : Prop := v = some (.int (1 : Int32)) ∧ Fr n0 L
set_option maxRecDepth 65536 in
set_option maxHeartbeats 40000000 in
theorem rm0 (l : Launch) (Z : State) (a0 : Array Value) (hw : ∀ d ∈ tables_1, d.before a0 Z = true) (ws : List Jvm.Cond) (p1 : Int32) (p2 : Int32) (h0 : Heap) (n0 : Nat) (Z0 : n0 ≤ h0.size) :
    MetFree l x (head1 (Jvm.Cond.code x code maxLocals ret :: ws) room_1) (fun a U => a = #[(.int p1), (.int p2)] ∧ Z.Warmed39 U.vm ∧ U.heap = h0) (fun _ _ _ _ _ => True) (fun _ U o U' => ∃ v L, o = .returned v ∧ Q0 Z p1 p2 h0 n0 v U'.heap L ∧ FrameEnd U o U' L room_1.cells room_1.slots) := by
  refine MetFree.of_bodySF (plainFor_of_name pn_com_example_jarlens_jarlens_corpus_BreaksOverlapsPinLaw) hisR ?_
  intro p e s m args below meth c s₁ Bd hml0 hP hK
  obtain ⟨rfl, hZ, hh⟩ := hP
  have hx := Bd.exec
  have hby := Bd.bytes
  have hml : c.maxLocals = 7 := hml0
  have hown : s.vm.findClass "com/example/jarlens/jarlens/corpus/BreaksOverlapsPinLaw" = some m.cls := findClass_of_methodNamed Bd.named
  have hnm := (name_of_methodNamed Bd.named Bd.method).1
  have X0 : Stand p l e room_1 s m #[(.int p1), (.int p2)] below meth c s₁ [] 0 0 := Stand.of_body Bd
  have eh0 : s₁.heap = h0 := by rw [← hh, Bd.state]; rfl
  have N0 := Fr.nil n0
  have pre0 : ∀ t, Steps p.tables e below (s₁.setTop (mkF m 0 #[.val (.int p1), .val (.int p2), .unset, .unset, .unset, .unset, .unset] [])) t → Steps p.tables e below (s₁.setTop (entryFrame m #[(.int p1), (.int p2)] maxLocals)) t := fun t k => castTop (ef_0 m p1 p2) k
  obtain ⟨T1, h1, X1, eh1, E1, A1, D1, -, st1⟩ := newO X0 hx hZ hown (hw _ (List.mem_of_getElem? (i := 0) rfl)) (hw _ (List.mem_of_getElem? (i := 1) rfl)) (hw _ (List.mem_of_getElem? (i := 2) rfl)) eh0 (g := (mkF m 0 #[.val (.int p1), .val (.int p2), .unset, .unset, .unset, .unset, .unset] [])) rfl (hb hby at_0) (by decide) (by decide)
  obtain ⟨b1, gg1⟩ : ∃ z, z = h0.size := ⟨_, rfl⟩
  rw [← gg1] at A1 D1 st1
  have sz1 : n0 ≤ h1.size := Nat.le_trans Z0 E1.1
  have g_b1 : n0 ≤ b1 := Nat.le_trans Z0 (Nat.le_of_eq gg1.symm)
  have F_binary_b1 : Fld Z h1 b1 "com/example/jarlens/jarlens/corpus/Breaks" "binary" "Z" (.int (0 : Int32)) := D1 (Or.inr (hw _ (List.mem_of_getElem? (i := 15) rfl))) (ty := .boolean) (by decide)
  have F_source_b1 : Fld Z h1 b1 "com/example/jarlens/jarlens/corpus/Breaks" "source" "Z" (.int (0 : Int32)) := D1 (Or.inr (hw _ (List.mem_of_getElem? (i := 17) rfl))) (ty := .boolean) (by decide)
  have pre2 : ∀ t, Steps p.tables e below (T1.setTop (mkF m 3 #[.val (.int p1), .val (.int p2), .unset, .unset, .unset, .unset, .unset] [(.ref b1)])) t → Steps p.tables e below (s₁.setTop (entryFrame m #[(.int p1), (.int p2)] maxLocals)) t := fun t k => pre0 t (st1 _ k)
  have pre4 : ∀ t, Steps p.tables e below (T1.setTop (mkF m 7 #[.val (.int p1), .val (.int p2), .unset, .unset, .unset, .unset, .unset] [(.int (p1 &&& (1 : Int32))), (.ref b1), (.ref b1)])) t → Steps p.tables e below (s₁.setTop (entryFrame m #[(.int p1), (.int p2)] maxLocals)) t := fun t k => pre2 t (by
    show Steps p.tables e below (T1.setTop (mkF m 3 #[.val (.int p1), .val (.int p2), .unset, .unset, .unset, .unset, .unset] [(.ref b1)])) t
    refine XS.dup X1.here hx rfl (hb hby at_3) rfl rfl ?_
    show Steps p.tables e below (T1.setTop (mkF m 4 #[.val (.int p1), .val (.int p2), .unset, .unset, .unset, .unset, .unset] [(.ref b1), (.ref b1)])) t
    refine XS.iloadN X1.here hx rfl (hb hby at_4) rfl ?_
    show Steps p.tables e below (T1.setTop (mkF m 5 #[.val (.int p1), .val (.int p2), .unset, .unset, .unset, .unset, .unset] [(.int p1), (.ref b1), (.ref b1)])) t
    refine XS.iconst X1.here hx rfl (hb hby at_5) ?_
    show Steps p.tables e below (T1.setTop (mkF m 6 #[.val (.int p1), .val (.int p2), .unset, .unset, .unset, .unset, .unset] [(.int (1 : Int32)), (.int p1), (.ref b1), (.ref b1)])) t
    refine XS.iand X1.here hx rfl (hb hby at_6) rfl ?_
    show Steps p.tables e below (T1.setTop (mkF m 7 #[.val (.int p1), .val (.int p2), .unset, .unset, .unset, .unset, .unset] [(.int (p1 &&& (1 : Int32))), (.ref b1), (.ref b1)])) t
    exact k)
  have pre5 : ∀ t, Steps p.tables e below (T1.setTop (mkF m 15 #[.val (.int p1), .val (.int p2), .unset, .unset, .unset, .unset, .unset] [(.int (if (p1 &&& (1 : Int32)) = (0 : Int32) then (0 : Int32) else (1 : Int32))), (.ref b1), (.ref b1)])) t → Steps p.tables e below (s₁.setTop (entryFrame m #[(.int p1), (.int p2)] maxLocals)) t := fun t k => pre4 t (by
    show Steps p.tables e below (T1.setTop (mkF m 7 #[.val (.int p1), .val (.int p2), .unset, .unset, .unset, .unset, .unset] [(.int (p1 &&& (1 : Int32))), (.ref b1), (.ref b1)])) t
    by_cases hc7_3 : (p1 &&& (1 : Int32)) = (0 : Int32)
    · simp only [if_pos hc7_3] at k
      refine XS.ifYes X1.here hx rfl (pc0 := 7) (pc' := 14) rfl (hb hby at_7) rfl (XT.i0_eq_t hc7_3) (by decide) (by decide) ?_
      show Steps p.tables e below (T1.setTop (mkF m 14 #[.val (.int p1), .val (.int p2), .unset, .unset, .unset, .unset, .unset] [(.ref b1), (.ref b1)])) t
      refine XS.iconst X1.here hx rfl (hb hby at_14) ?_
      show Steps p.tables e below (T1.setTop (mkF m 15 #[.val (.int p1), .val (.int p2), .unset, .unset, .unset, .unset, .unset] [(.int (0 : Int32)), (.ref b1), (.ref b1)])) t
      exact k
    · simp only [if_neg hc7_3] at k
      refine XS.ifNo X1.here hx rfl (hb hby at_7) rfl (XT.i0_eq_f hc7_3) ?_
      show Steps p.tables e below (T1.setTop (mkF m 10 #[.val (.int p1), .val (.int p2), .unset, .unset, .unset, .unset, .unset] [(.ref b1), (.ref b1)])) t
      refine XS.iconst X1.here hx rfl (hb hby at_10) ?_
      show Steps p.tables e below (T1.setTop (mkF m 11 #[.val (.int p1), .val (.int p2), .unset, .unset, .unset, .unset, .unset] [(.int (1 : Int32)), (.ref b1), (.ref b1)])) t
      refine XS.goto X1.here hx rfl (pc0 := 11) (pc' := 15) rfl (hb hby at_11) (by decide) (by decide) ?_
      show Steps p.tables e below (T1.setTop (mkF m 15 #[.val (.int p1), .val (.int p2), .unset, .unset, .unset, .unset, .unset] [(.int (1 : Int32)), (.ref b1), (.ref b1)])) t
      exact k)
  have pre7 : ∀ t, Steps p.tables e below (T1.setTop (mkF m 18 #[.val (.int p1), .val (.int p2), .unset, .unset, .unset, .unset, .unset] [(.int (p1 &&& (2 : Int32))), (.int (if (p1 &&& (1 : Int32)) = (0 : Int32) then (0 : Int32) else (1 : Int32))), (.ref b1), (.ref b1)])) t → Steps p.tables e below (s₁.setTop (entryFrame m #[(.int p1), (.int p2)] maxLocals)) t := fun t k => pre5 t (by
    show Steps p.tables e below (T1.setTop (mkF m 15 #[.val (.int p1), .val (.int p2), .unset, .unset, .unset, .unset, .unset] [(.int (if (p1 &&& (1 : Int32)) = (0 : Int32) then (0 : Int32) else (1 : Int32))), (.ref b1), (.ref b1)])) t
    refine XS.iloadN X1.here hx rfl (hb hby at_15) rfl ?_
    show Steps p.tables e below (T1.setTop (mkF m 16 #[.val (.int p1), .val (.int p2), .unset, .unset, .unset, .unset, .unset] [(.int p1), (.int (if (p1 &&& (1 : Int32)) = (0 : Int32) then (0 : Int32) else (1 : Int32))), (.ref b1), (.ref b1)])) t
    refine XS.iconst X1.here hx rfl (hb hby at_16) ?_
    show Steps p.tables e below (T1.setTop (mkF m 17 #[.val (.int p1), .val (.int p2), .unset, .unset, .unset, .unset, .unset] [(.int (2 : Int32)), (.int p1), (.int (if (p1 &&& (1 : Int32)) = (0 : Int32) then (0 : Int32) else (1 : Int32))), (.ref b1), (.ref b1)])) t
    refine XS.iand X1.here hx rfl (hb hby at_17) rfl ?_
    show Steps p.tables e below (T1.setTop (mkF m 18 #[.val (.int p1), .val (.int p2), .unset, .unset, .unset, .unset, .unset] [(.int (p1 &&& (2 : Int32))), (.int (if (p1 &&& (1 : Int32)) = (0 : Int32) then (0 : Int32) else (1 : Int32))), (.ref b1), (.ref b1)])) t
    exact k)
  have pre8 : ∀ t, Steps p.tables e below (T1.setTop (mkF m 26 #[.val (.int p1), .val (.int p2), .unset, .unset, .unset, .unset, .unset] [(.int (if (p1 &&& (2 : Int32)) = (0 : Int32) then (0 : Int32) else (1 : Int32))), (.int (if (p1 &&& (1 : Int32)) = (0 : Int32) then (0 : Int32) else (1 : Int32))), (.ref b1), (.ref b1)])) t → Steps p.tables e below (s₁.setTop (entryFrame m #[(.int p1), (.int p2)] maxLocals)) t := fun t k => pre7 t (by
    show Steps p.tables e below (T1.setTop (mkF m 18 #[.val (.int p1), .val (.int p2), .unset, .unset, .unset, .unset, .unset] [(.int (p1 &&& (2 : Int32))), (.int (if (p1 &&& (1 : Int32)) = (0 : Int32) then (0 : Int32) else (1 : Int32))), (.ref b1), (.ref b1)])) t
    by_cases hc18_6 : (p1 &&& (2 : Int32)) = (0 : Int32)
    · simp only [if_pos hc18_6] at k
      refine XS.ifYes X1.here hx rfl (pc0 := 18) (pc' := 25) rfl (hb hby at_18) rfl (XT.i0_eq_t hc18_6) (by decide) (by decide) ?_
      show Steps p.tables e below (T1.setTop (mkF m 25 #[.val (.int p1), .val (.int p2), .unset, .unset, .unset, .unset, .unset] [(.int (if (p1 &&& (1 : Int32)) = (0 : Int32) then (0 : Int32) else (1 : Int32))), (.ref b1), (.ref b1)])) t
      refine XS.iconst X1.here hx rfl (hb hby at_25) ?_
      show Steps p.tables e below (T1.setTop (mkF m 26 #[.val (.int p1), .val (.int p2), .unset, .unset, .unset, .unset, .unset] [(.int (0 : Int32)), (.int (if (p1 &&& (1 : Int32)) = (0 : Int32) then (0 : Int32) else (1 : Int32))), (.ref b1), (.ref b1)])) t
      exact k
    · simp only [if_neg hc18_6] at k
      refine XS.ifNo X1.here hx rfl (hb hby at_18) rfl (XT.i0_eq_f hc18_6) ?_
      show Steps p.tables e below (T1.setTop (mkF m 21 #[.val (.int p1), .val (.int p2), .unset, .unset, .unset, .unset, .unset] [(.int (if (p1 &&& (1 : Int32)) = (0 : Int32) then (0 : Int32) else (1 : Int32))), (.ref b1), (.ref b1)])) t
      refine XS.iconst X1.here hx rfl (hb hby at_21) ?_
      show Steps p.tables e below (T1.setTop (mkF m 22 #[.val (.int p1), .val (.int p2), .unset, .unset, .unset, .unset, .unset] [(.int (1 : Int32)), (.int (if (p1 &&& (1 : Int32)) = (0 : Int32) then (0 : Int32) else (1 : Int32))), (.ref b1), (.ref b1)])) t
      refine XS.goto X1.here hx rfl (pc0 := 22) (pc' := 26) rfl (hb hby at_22) (by decide) (by decide) ?_
      show Steps p.tables e below (T1.setTop (mkF m 26 #[.val (.int p1), .val (.int p2), .unset, .unset, .unset, .unset, .unset] [(.int (1 : Int32)), (.int (if (p1 &&& (1 : Int32)) = (0 : Int32) then (0 : Int32) else (1 : Int32))), (.ref b1), (.ref b1)])) t
      exact k)
  obtain ⟨_, _, ⟨T9, L9, k9, n9⟩, -, X9, ⟨Lc9, hQ9, l9, y9, z9⟩, st9⟩ := X1.specialBack hx (y := (⟨"com/example/jarlens/jarlens/corpus/Breaks", "<init>", "(ZZ)V"⟩ : MethodName)) rfl hown (mvT hZ (hw _ (List.mem_of_getElem? (i := 3) rfl))) (mvT hZ (hw _ (List.mem_of_getElem? (i := 4) rfl))) (mvT hZ (hw _ (List.mem_of_getElem? (i := 5) rfl))) (by decide) (backOf (W := 1) (rm1 l Z a0 hw [] b1 (if (p1 &&& (1 : Int32)) = (0 : Int32) then (0 : Int32) else (1 : Int32)) (if (p1 &&& (2 : Int32)) = (0 : Int32) then (0 : Int32) else (1 : Int32)) (.int (0 : Int32)) (.int (0 : Int32)) h1 n0 sz1 A1 F_binary_b1 F_source_b1 g_b1) hZ (hw _ (List.mem_of_getElem? (i := 5) rfl)) (hw _ (List.mem_of_getElem? (i := 2) rfl)) (by decide) (by decide)) (g := (mkF m 26 #[.val (.int p1), .val (.int p2), .unset, .unset, .unset, .unset, .unset] [(.int (if (p1 &&& (2 : Int32)) = (0 : Int32) then (0 : Int32) else (1 : Int32))), (.int (if (p1 &&& (1 : Int32)) = (0 : Int32) then (0 : Int32) else (1 : Int32))), (.ref b1), (.ref b1)])) rfl (by rw [hml]; rfl) (Steps.refl _) (a := b1) (argsL := [(.int (if (p1 &&& (1 : Int32)) = (0 : Int32) then (0 : Int32) else (1 : Int32))), (.int (if (p1 &&& (2 : Int32)) = (0 : Int32) then (0 : Int32) else (1 : Int32)))]) (rest := [(.ref b1)]) (lenOf pd_oZZcV rfl) rfl (by show 2 * 0 + _ ≤ _; exact Nat.le_of_eq rfl) (hb hby at_26) (fun _ _ => ⟨rfl, eh1, (by decide : 1 + 0 ≤ _), (by decide : 2 + 0 ≤ _)⟩)
  dsimp only [Pt.U, Pt.locs, Pt.cells, Pt.slots] at X9 l9 y9 z9 st9 hQ9
  subst l9 y9 z9
  obtain ⟨rfl, N9q, Kq9, P9_1, P9_2, P9_3⟩ := hQ9
  have sz9 : n0 ≤ T9.heap.size := Nat.le_trans sz1 Kq9.1
  have N9 := Fr.app N0 N9q
  have pre10 : ∀ t, Steps p.tables e below (T9.setTop (mkF m 29 #[.val (.int p1), .val (.int p2), .unset, .unset, .unset, .unset, .unset] [(.ref b1)])) t → Steps p.tables e below (s₁.setTop (entryFrame m #[(.int p1), (.int p2)] maxLocals)) t := fun t k => pre8 t (st9.trans k)
  have pre11 : ∀ t, Steps p.tables e below (T9.setTop (mkF m 30 #[.val (.int p1), .val (.int p2), .val (.ref b1), .unset, .unset, .unset, .unset] [])) t → Steps p.tables e below (s₁.setTop (entryFrame m #[(.int p1), (.int p2)] maxLocals)) t := fun t k => pre10 t (by
    show Steps p.tables e below (T9.setTop (mkF m 29 #[.val (.int p1), .val (.int p2), .unset, .unset, .unset, .unset, .unset] [(.ref b1)])) t
    refine XS.astoreN X9.here hx rfl (hb hby at_29) rfl rfl (l' := #[.val (.int p1), .val (.int p2), .val (.ref b1), .unset, .unset, .unset, .unset]) rfl ?_
    show Steps p.tables e below (T9.setTop (mkF m 30 #[.val (.int p1), .val (.int p2), .val (.ref b1), .unset, .unset, .unset, .unset] [])) t
    exact k)
  obtain ⟨T12, h12, X12, eh12, E12, A12, D12, -, st12⟩ := newO X9 hx hZ hown (hw _ (List.mem_of_getElem? (i := 0) rfl)) (hw _ (List.mem_of_getElem? (i := 1) rfl)) (hw _ (List.mem_of_getElem? (i := 2) rfl)) rfl (g := (mkF m 30 #[.val (.int p1), .val (.int p2), .val (.ref b1), .unset, .unset, .unset, .unset] [])) rfl (hb hby at_30) (by decide) (by decide)
  obtain ⟨b12, gg12⟩ : ∃ z, z = T9.heap.size := ⟨_, rfl⟩
  rw [← gg12] at A12 D12 st12
  have P9_1__12 : Exa Z h12 b1 "com/example/jarlens/jarlens/corpus/Breaks" := P9_1.ext E12
  have P9_2__12 : Fld Z h12 b1 "com/example/jarlens/jarlens/corpus/Breaks" "binary" "Z" (.int (nar .boolean (if (p1 &&& (1 : Int32)) = (0 : Int32) then (0 : Int32) else (1 : Int32)))) := P9_2.ext E12
  have P9_3__12 : Fld Z h12 b1 "com/example/jarlens/jarlens/corpus/Breaks" "source" "Z" (.int (nar .boolean (if (p1 &&& (2 : Int32)) = (0 : Int32) then (0 : Int32) else (1 : Int32)))) := P9_3.ext E12
  have sz12 : n0 ≤ h12.size := Nat.le_trans sz9 E12.1
  have g_b12 : n0 ≤ b12 := Nat.le_trans sz9 (Nat.le_of_eq gg12.symm)
  have ne_b1_b12 : b1 ≠ b12 := Nat.ne_of_lt (Nat.lt_of_lt_of_le P9_1.lt (Nat.le_of_eq gg12.symm))
  have F_binary_b12 : Fld Z h12 b12 "com/example/jarlens/jarlens/corpus/Breaks" "binary" "Z" (.int (0 : Int32)) := D12 (Or.inr (hw _ (List.mem_of_getElem? (i := 15) rfl))) (ty := .boolean) (by decide)
  have F_source_b12 : Fld Z h12 b12 "com/example/jarlens/jarlens/corpus/Breaks" "source" "Z" (.int (0 : Int32)) := D12 (Or.inr (hw _ (List.mem_of_getElem? (i := 17) rfl))) (ty := .boolean) (by decide)
  have pre13 : ∀ t, Steps p.tables e below (T12.setTop (mkF m 33 #[.val (.int p1), .val (.int p2), .val (.ref b1), .unset, .unset, .unset, .unset] [(.ref b12)])) t → Steps p.tables e below (s₁.setTop (entryFrame m #[(.int p1), (.int p2)] maxLocals)) t := fun t k => pre11 t (st12 _ k)
  have pre15 : ∀ t, Steps p.tables e below (T12.setTop (mkF m 37 #[.val (.int p1), .val (.int p2), .val (.ref b1), .unset, .unset, .unset, .unset] [(.int (p2 &&& (1 : Int32))), (.ref b12), (.ref b12)])) t → Steps p.tables e below (s₁.setTop (entryFrame m #[(.int p1), (.int p2)] maxLocals)) t := fun t k => pre13 t (by
    show Steps p.tables e below (T12.setTop (mkF m 33 #[.val (.int p1), .val (.int p2), .val (.ref b1), .unset, .unset, .unset, .unset] [(.ref b12)])) t
    refine XS.dup X12.here hx rfl (hb hby at_33) rfl rfl ?_
    show Steps p.tables e below (T12.setTop (mkF m 34 #[.val (.int p1), .val (.int p2), .val (.ref b1), .unset, .unset, .unset, .unset] [(.ref b12), (.ref b12)])) t
    refine XS.iloadN X12.here hx rfl (hb hby at_34) rfl ?_
    show Steps p.tables e below (T12.setTop (mkF m 35 #[.val (.int p1), .val (.int p2), .val (.ref b1), .unset, .unset, .unset, .unset] [(.int p2), (.ref b12), (.ref b12)])) t
    refine XS.iconst X12.here hx rfl (hb hby at_35) ?_
    show Steps p.tables e below (T12.setTop (mkF m 36 #[.val (.int p1), .val (.int p2), .val (.ref b1), .unset, .unset, .unset, .unset] [(.int (1 : Int32)), (.int p2), (.ref b12), (.ref b12)])) t
    refine XS.iand X12.here hx rfl (hb hby at_36) rfl ?_
    show Steps p.tables e below (T12.setTop (mkF m 37 #[.val (.int p1), .val (.int p2), .val (.ref b1), .unset, .unset, .unset, .unset] [(.int (p2 &&& (1 : Int32))), (.ref b12), (.ref b12)])) t
    exact k)
  have pre16 : ∀ t, Steps p.tables e below (T12.setTop (mkF m 45 #[.val (.int p1), .val (.int p2), .val (.ref b1), .unset, .unset, .unset, .unset] [(.int (if (p2 &&& (1 : Int32)) = (0 : Int32) then (0 : Int32) else (1 : Int32))), (.ref b12), (.ref b12)])) t → Steps p.tables e below (s₁.setTop (entryFrame m #[(.int p1), (.int p2)] maxLocals)) t := fun t k => pre15 t (by
    show Steps p.tables e below (T12.setTop (mkF m 37 #[.val (.int p1), .val (.int p2), .val (.ref b1), .unset, .unset, .unset, .unset] [(.int (p2 &&& (1 : Int32))), (.ref b12), (.ref b12)])) t
    by_cases hc37_14 : (p2 &&& (1 : Int32)) = (0 : Int32)
    · simp only [if_pos hc37_14] at k
      refine XS.ifYes X12.here hx rfl (pc0 := 37) (pc' := 44) rfl (hb hby at_37) rfl (XT.i0_eq_t hc37_14) (by decide) (by decide) ?_
      show Steps p.tables e below (T12.setTop (mkF m 44 #[.val (.int p1), .val (.int p2), .val (.ref b1), .unset, .unset, .unset, .unset] [(.ref b12), (.ref b12)])) t
      refine XS.iconst X12.here hx rfl (hb hby at_44) ?_
      show Steps p.tables e below (T12.setTop (mkF m 45 #[.val (.int p1), .val (.int p2), .val (.ref b1), .unset, .unset, .unset, .unset] [(.int (0 : Int32)), (.ref b12), (.ref b12)])) t
      exact k
    · simp only [if_neg hc37_14] at k
      refine XS.ifNo X12.here hx rfl (hb hby at_37) rfl (XT.i0_eq_f hc37_14) ?_
      show Steps p.tables e below (T12.setTop (mkF m 40 #[.val (.int p1), .val (.int p2), .val (.ref b1), .unset, .unset, .unset, .unset] [(.ref b12), (.ref b12)])) t
      refine XS.iconst X12.here hx rfl (hb hby at_40) ?_
      show Steps p.tables e below (T12.setTop (mkF m 41 #[.val (.int p1), .val (.int p2), .val (.ref b1), .unset, .unset, .unset, .unset] [(.int (1 : Int32)), (.ref b12), (.ref b12)])) t
      refine XS.goto X12.here hx rfl (pc0 := 41) (pc' := 45) rfl (hb hby at_41) (by decide) (by decide) ?_
      show Steps p.tables e below (T12.setTop (mkF m 45 #[.val (.int p1), .val (.int p2), .val (.ref b1), .unset, .unset, .unset, .unset] [(.int (1 : Int32)), (.ref b12), (.ref b12)])) t
      exact k)
  have pre18 : ∀ t, Steps p.tables e below (T12.setTop (mkF m 48 #[.val (.int p1), .val (.int p2), .val (.ref b1), .unset, .unset, .unset, .unset] [(.int (p2 &&& (2 : Int32))), (.int (if (p2 &&& (1 : Int32)) = (0 : Int32) then (0 : Int32) else (1 : Int32))), (.ref b12), (.ref b12)])) t → Steps p.tables e below (s₁.setTop (entryFrame m #[(.int p1), (.int p2)] maxLocals)) t := fun t k => pre16 t (by
    show Steps p.tables e below (T12.setTop (mkF m 45 #[.val (.int p1), .val (.int p2), .val (.ref b1), .unset, .unset, .unset, .unset] [(.int (if (p2 &&& (1 : Int32)) = (0 : Int32) then (0 : Int32) else (1 : Int32))), (.ref b12), (.ref b12)])) t
    refine XS.iloadN X12.here hx rfl (hb hby at_45) rfl ?_
    show Steps p.tables e below (T12.setTop (mkF m 46 #[.val (.int p1), .val (.int p2), .val (.ref b1), .unset, .unset, .unset, .unset] [(.int p2), (.int (if (p2 &&& (1 : Int32)) = (0 : Int32) then (0 : Int32) else (1 : Int32))), (.ref b12), (.ref b12)])) t
    refine XS.iconst X12.here hx rfl (hb hby at_46) ?_
    show Steps p.tables e below (T12.setTop (mkF m 47 #[.val (.int p1), .val (.int p2), .val (.ref b1), .unset, .unset, .unset, .unset] [(.int (2 : Int32)), (.int p2), (.int (if (p2 &&& (1 : Int32)) = (0 : Int32) then (0 : Int32) else (1 : Int32))), (.ref b12), (.ref b12)])) t
    refine XS.iand X12.here hx rfl (hb hby at_47) rfl ?_
    show Steps p.tables e below (T12.setTop (mkF m 48 #[.val (.int p1), .val (.int p2), .val (.ref b1), .unset, .unset, .unset, .unset] [(.int (p2 &&& (2 : Int32))), (.int (if (p2 &&& (1 : Int32)) = (0 : Int32) then (0 : Int32) else (1 : Int32))), (.ref b12), (.ref b12)])) t
    exact k)
  have pre19 : ∀ t, Steps p.tables e below (T12.setTop (mkF m 56 #[.val (.int p1), .val (.int p2), .val (.ref b1), .unset, .unset, .unset, .unset] [(.int (if (p2 &&& (2 : Int32)) = (0 : Int32) then (0 : Int32) else (1 : Int32))), (.int (if (p2 &&& (1 : Int32)) = (0 : Int32) then (0 : Int32) else (1 : Int32))), (.ref b12), (.ref b12)])) t → Steps p.tables e below (s₁.setTop (entryFrame m #[(.int p1), (.int p2)] maxLocals)) t := fun t k => pre18 t (by
    show Steps p.tables e below (T12.setTop (mkF m 48 #[.val (.int p1), .val (.int p2), .val (.ref b1), .unset, .unset, .unset, .unset] [(.int (p2 &&& (2 : Int32))), (.int (if (p2 &&& (1 : Int32)) = (0 : Int32) then (0 : Int32) else (1 : Int32))), (.ref b12), (.ref b12)])) t
    by_cases hc48_17 : (p2 &&& (2 : Int32)) = (0 : Int32)
    · simp only [if_pos hc48_17] at k
      refine XS.ifYes X12.here hx rfl (pc0 := 48) (pc' := 55) rfl (hb hby at_48) rfl (XT.i0_eq_t hc48_17) (by decide) (by decide) ?_
      show Steps p.tables e below (T12.setTop (mkF m 55 #[.val (.int p1), .val (.int p2), .val (.ref b1), .unset, .unset, .unset, .unset] [(.int (if (p2 &&& (1 : Int32)) = (0 : Int32) then (0 : Int32) else (1 : Int32))), (.ref b12), (.ref b12)])) t
      refine XS.iconst X12.here hx rfl (hb hby at_55) ?_
      show Steps p.tables e below (T12.setTop (mkF m 56 #[.val (.int p1), .val (.int p2), .val (.ref b1), .unset, .unset, .unset, .unset] [(.int (0 : Int32)), (.int (if (p2 &&& (1 : Int32)) = (0 : Int32) then (0 : Int32) else (1 : Int32))), (.ref b12), (.ref b12)])) t
      exact k
    · simp only [if_neg hc48_17] at k
      refine XS.ifNo X12.here hx rfl (hb hby at_48) rfl (XT.i0_eq_f hc48_17) ?_
      show Steps p.tables e below (T12.setTop (mkF m 51 #[.val (.int p1), .val (.int p2), .val (.ref b1), .unset, .unset, .unset, .unset] [(.int (if (p2 &&& (1 : Int32)) = (0 : Int32) then (0 : Int32) else (1 : Int32))), (.ref b12), (.ref b12)])) t
      refine XS.iconst X12.here hx rfl (hb hby at_51) ?_
      show Steps p.tables e below (T12.setTop (mkF m 52 #[.val (.int p1), .val (.int p2), .val (.ref b1), .unset, .unset, .unset, .unset] [(.int (1 : Int32)), (.int (if (p2 &&& (1 : Int32)) = (0 : Int32) then (0 : Int32) else (1 : Int32))), (.ref b12), (.ref b12)])) t
      refine XS.goto X12.here hx rfl (pc0 := 52) (pc' := 56) rfl (hb hby at_52) (by decide) (by decide) ?_
      show Steps p.tables e below (T12.setTop (mkF m 56 #[.val (.int p1), .val (.int p2), .val (.ref b1), .unset, .unset, .unset, .unset] [(.int (1 : Int32)), (.int (if (p2 &&& (1 : Int32)) = (0 : Int32) then (0 : Int32) else (1 : Int32))), (.ref b12), (.ref b12)])) t
      exact k)
  obtain ⟨_, _, ⟨T20, L20, k20, n20⟩, -, X20, ⟨Lc20, hQ20, l20, y20, z20⟩, st20⟩ := X12.specialBack hx (y := (⟨"com/example/jarlens/jarlens/corpus/Breaks", "<init>", "(ZZ)V"⟩ : MethodName)) rfl hown (mvT hZ (hw _ (List.mem_of_getElem? (i := 3) rfl))) (mvT hZ (hw _ (List.mem_of_getElem? (i := 4) rfl))) (mvT hZ (hw _ (List.mem_of_getElem? (i := 5) rfl))) (by decide) (backOf (W := 1) (rm1 l Z a0 hw [] b12 (if (p2 &&& (1 : Int32)) = (0 : Int32) then (0 : Int32) else (1 : Int32)) (if (p2 &&& (2 : Int32)) = (0 : Int32) then (0 : Int32) else (1 : Int32)) (.int (0 : Int32)) (.int (0 : Int32)) h12 n0 sz12 A12 F_binary_b12 F_source_b12 g_b12) hZ (hw _ (List.mem_of_getElem? (i := 5) rfl)) (hw _ (List.mem_of_getElem? (i := 2) rfl)) (by decide) (by decide)) (g := (mkF m 56 #[.val (.int p1), .val (.int p2), .val (.ref b1), .unset, .unset, .unset, .unset] [(.int (if (p2 &&& (2 : Int32)) = (0 : Int32) then (0 : Int32) else (1 : Int32))), (.int (if (p2 &&& (1 : Int32)) = (0 : Int32) then (0 : Int32) else (1 : Int32))), (.ref b12), (.ref b12)])) rfl (by rw [hml]; rfl) (Steps.refl _) (a := b12) (argsL := [(.int (if (p2 &&& (1 : Int32)) = (0 : Int32) then (0 : Int32) else (1 : Int32))), (.int (if (p2 &&& (2 : Int32)) = (0 : Int32) then (0 : Int32) else (1 : Int32)))]) (rest := [(.ref b12)]) (lenOf pd_oZZcV rfl) rfl (by show 2 * 0 + _ ≤ _; exact Nat.le_of_eq rfl) (hb hby at_56) (fun _ _ => ⟨rfl, eh12, (by decide : 2 + 0 ≤ _), (by decide : 4 + 0 ≤ _)⟩)
  dsimp only [Pt.U, Pt.locs, Pt.cells, Pt.slots] at X20 l20 y20 z20 st20 hQ20
  subst l20 y20 z20
  obtain ⟨rfl, N20q, Kq20, P20_1, P20_2, P20_3⟩ := hQ20
  have P9_1__20 : Exa Z T20.heap b1 "com/example/jarlens/jarlens/corpus/Breaks" := P9_1__12.keep Kq20
  have P9_2__20 : Fld Z T20.heap b1 "com/example/jarlens/jarlens/corpus/Breaks" "binary" "Z" (.int (nar .boolean (if (p1 &&& (1 : Int32)) = (0 : Int32) then (0 : Int32) else (1 : Int32)))) := P9_2__12.keep Kq20 (ninS ne_b1_b12 nin0)
  have P9_3__20 : Fld Z T20.heap b1 "com/example/jarlens/jarlens/corpus/Breaks" "source" "Z" (.int (nar .boolean (if (p1 &&& (2 : Int32)) = (0 : Int32) then (0 : Int32) else (1 : Int32)))) := P9_3__12.keep Kq20 (ninS ne_b1_b12 nin0)
  have sz20 : n0 ≤ T20.heap.size := Nat.le_trans sz12 Kq20.1
  have N20 := Fr.app N9 N20q
  have pre21 : ∀ t, Steps p.tables e below (T20.setTop (mkF m 59 #[.val (.int p1), .val (.int p2), .val (.ref b1), .unset, .unset, .unset, .unset] [(.ref b12)])) t → Steps p.tables e below (s₁.setTop (entryFrame m #[(.int p1), (.int p2)] maxLocals)) t := fun t k => pre19 t (st20.trans k)
  have pre23 : ∀ t, Steps p.tables e below (T20.setTop (mkF m 65 #[.val (.int p1), .val (.int p2), .val (.ref b1), .val (.ref b12), .unset, .unset, .unset] [(.int ((p1 &&& p2) &&& (3 : Int32)))])) t → Steps p.tables e below (s₁.setTop (entryFrame m #[(.int p1), (.int p2)] maxLocals)) t := fun t k => pre21 t (by
    show Steps p.tables e below (T20.setTop (mkF m 59 #[.val (.int p1), .val (.int p2), .val (.ref b1), .unset, .unset, .unset, .unset] [(.ref b12)])) t
    refine XS.astoreN X20.here hx rfl (hb hby at_59) rfl rfl (l' := #[.val (.int p1), .val (.int p2), .val (.ref b1), .val (.ref b12), .unset, .unset, .unset]) rfl ?_
    show Steps p.tables e below (T20.setTop (mkF m 60 #[.val (.int p1), .val (.int p2), .val (.ref b1), .val (.ref b12), .unset, .unset, .unset] [])) t
    refine XS.iloadN X20.here hx rfl (hb hby at_60) rfl ?_
    show Steps p.tables e below (T20.setTop (mkF m 61 #[.val (.int p1), .val (.int p2), .val (.ref b1), .val (.ref b12), .unset, .unset, .unset] [(.int p1)])) t
    refine XS.iloadN X20.here hx rfl (hb hby at_61) rfl ?_
    show Steps p.tables e below (T20.setTop (mkF m 62 #[.val (.int p1), .val (.int p2), .val (.ref b1), .val (.ref b12), .unset, .unset, .unset] [(.int p2), (.int p1)])) t
    refine XS.iand X20.here hx rfl (hb hby at_62) rfl ?_
    show Steps p.tables e below (T20.setTop (mkF m 63 #[.val (.int p1), .val (.int p2), .val (.ref b1), .val (.ref b12), .unset, .unset, .unset] [(.int (p1 &&& p2))])) t
    refine XS.iconst X20.here hx rfl (hb hby at_63) ?_
    show Steps p.tables e below (T20.setTop (mkF m 64 #[.val (.int p1), .val (.int p2), .val (.ref b1), .val (.ref b12), .unset, .unset, .unset] [(.int (3 : Int32)), (.int (p1 &&& p2))])) t
    refine XS.iand X20.here hx rfl (hb hby at_64) rfl ?_
    show Steps p.tables e below (T20.setTop (mkF m 65 #[.val (.int p1), .val (.int p2), .val (.ref b1), .val (.ref b12), .unset, .unset, .unset] [(.int ((p1 &&& p2) &&& (3 : Int32)))])) t
    exact k)
  have pre24 : ∀ t, Steps p.tables e below (T20.setTop (mkF m 73 #[.val (.int p1), .val (.int p2), .val (.ref b1), .val (.ref b12), .unset, .unset, .unset] [(.int (if ((p1 &&& p2) &&& (3 : Int32)) = (0 : Int32) then (0 : Int32) else (1 : Int32)))])) t → Steps p.tables e below (s₁.setTop (entryFrame m #[(.int p1), (.int p2)] maxLocals)) t := fun t k => pre23 t (by
    show Steps p.tables e below (T20.setTop (mkF m 65 #[.val (.int p1), .val (.int p2), .val (.ref b1), .val (.ref b12), .unset, .unset, .unset] [(.int ((p1 &&& p2) &&& (3 : Int32)))])) t
    by_cases hc65_22 : ((p1 &&& p2) &&& (3 : Int32)) = (0 : Int32)
    · simp only [if_pos hc65_22] at k
      refine XS.ifYes X20.here hx rfl (pc0 := 65) (pc' := 72) rfl (hb hby at_65) rfl (XT.i0_eq_t hc65_22) (by decide) (by decide) ?_
      show Steps p.tables e below (T20.setTop (mkF m 72 #[.val (.int p1), .val (.int p2), .val (.ref b1), .val (.ref b12), .unset, .unset, .unset] [])) t
      refine XS.iconst X20.here hx rfl (hb hby at_72) ?_
      show Steps p.tables e below (T20.setTop (mkF m 73 #[.val (.int p1), .val (.int p2), .val (.ref b1), .val (.ref b12), .unset, .unset, .unset] [(.int (0 : Int32))])) t
      exact k
    · simp only [if_neg hc65_22] at k
      refine XS.ifNo X20.here hx rfl (hb hby at_65) rfl (XT.i0_eq_f hc65_22) ?_
      show Steps p.tables e below (T20.setTop (mkF m 68 #[.val (.int p1), .val (.int p2), .val (.ref b1), .val (.ref b12), .unset, .unset, .unset] [])) t
      refine XS.iconst X20.here hx rfl (hb hby at_68) ?_
      show Steps p.tables e below (T20.setTop (mkF m 69 #[.val (.int p1), .val (.int p2), .val (.ref b1), .val (.ref b12), .unset, .unset, .unset] [(.int (1 : Int32))])) t
      refine XS.goto X20.here hx rfl (pc0 := 69) (pc' := 73) rfl (hb hby at_69) (by decide) (by decide) ?_
      show Steps p.tables e below (T20.setTop (mkF m 73 #[.val (.int p1), .val (.int p2), .val (.ref b1), .val (.ref b12), .unset, .unset, .unset] [(.int (1 : Int32))])) t
      exact k)
  have pre25 : ∀ t, Steps p.tables e below (T20.setTop (mkF m 77 #[.val (.int p1), .val (.int p2), .val (.ref b1), .val (.ref b12), .val (.int (if ((p1 &&& p2) &&& (3 : Int32)) = (0 : Int32) then (0 : Int32) else (1 : Int32))), .unset, .unset] [(.ref b12), (.ref b1)])) t → Steps p.tables e below (s₁.setTop (entryFrame m #[(.int p1), (.int p2)] maxLocals)) t := fun t k => pre24 t (by
    show Steps p.tables e below (T20.setTop (mkF m 73 #[.val (.int p1), .val (.int p2), .val (.ref b1), .val (.ref b12), .unset, .unset, .unset] [(.int (if ((p1 &&& p2) &&& (3 : Int32)) = (0 : Int32) then (0 : Int32) else (1 : Int32)))])) t
    refine XS.istore X20.here hx rfl (hb hby at_73) rfl (l' := #[.val (.int p1), .val (.int p2), .val (.ref b1), .val (.ref b12), .val (.int (if ((p1 &&& p2) &&& (3 : Int32)) = (0 : Int32) then (0 : Int32) else (1 : Int32))), .unset, .unset]) rfl ?_
    show Steps p.tables e below (T20.setTop (mkF m 75 #[.val (.int p1), .val (.int p2), .val (.ref b1), .val (.ref b12), .val (.int (if ((p1 &&& p2) &&& (3 : Int32)) = (0 : Int32) then (0 : Int32) else (1 : Int32))), .unset, .unset] [])) t
    refine XS.aloadN X20.here hx rfl (hb hby at_75) rfl rfl ?_
    show Steps p.tables e below (T20.setTop (mkF m 76 #[.val (.int p1), .val (.int p2), .val (.ref b1), .val (.ref b12), .val (.int (if ((p1 &&& p2) &&& (3 : Int32)) = (0 : Int32) then (0 : Int32) else (1 : Int32))), .unset, .unset] [(.ref b1)])) t
    refine XS.aloadN X20.here hx rfl (hb hby at_76) rfl rfl ?_
    show Steps p.tables e below (T20.setTop (mkF m 77 #[.val (.int p1), .val (.int p2), .val (.ref b1), .val (.ref b12), .val (.int (if ((p1 &&& p2) &&& (3 : Int32)) = (0 : Int32) then (0 : Int32) else (1 : Int32))), .unset, .unset] [(.ref b12), (.ref b1)])) t
    exact k)
  obtain ⟨cq26, kq26, q26a, q26b, q26c⟩ := isOf hZ rfl P9_1__20
  obtain ⟨_, _, ⟨T26, L26, k26, n26⟩, -, X26, ⟨Lc26, hQ26, l26, y26, z26⟩, st26⟩ := X20.virtualBack hx (y := (⟨"com/example/jarlens/jarlens/corpus/Breaks", "overlaps", "(Lcom/example/jarlens/jarlens/corpus/Breaks;)Z"⟩ : MethodName)) (z := (⟨"com/example/jarlens/jarlens/corpus/Breaks", "overlaps", "(Lcom/example/jarlens/jarlens/corpus/Breaks;)Z"⟩ : MethodName)) hown (mvT hZ (hw _ (List.mem_of_getElem? (i := 18) rfl))) (mvT hZ (hw _ (List.mem_of_getElem? (i := 19) rfl))) (notFace_of_selects (args := #[]) (mvT hZ (hw _ (List.mem_of_getElem? (i := 21) rfl)))) (mvT hZ (hw _ (List.mem_of_getElem? (i := 21) rfl))) (mvT hZ (hw _ (List.mem_of_getElem? (i := 20) rfl))) (by decide) (backOf (W := 0) (rm4 l Z a0 hw [] b1 b12 (nar .boolean (if (p1 &&& (1 : Int32)) = (0 : Int32) then (0 : Int32) else (1 : Int32))) (nar .boolean (if (p1 &&& (2 : Int32)) = (0 : Int32) then (0 : Int32) else (1 : Int32))) (nar .boolean (if (p2 &&& (1 : Int32)) = (0 : Int32) then (0 : Int32) else (1 : Int32))) (nar .boolean (if (p2 &&& (2 : Int32)) = (0 : Int32) then (0 : Int32) else (1 : Int32))) T20.heap n0 sz20 P9_2__20 P9_3__20 P20_2 P20_3) hZ (hw _ (List.mem_of_getElem? (i := 22) rfl)) (hw _ (List.mem_of_getElem? (i := 2) rfl)) (by decide) (by decide)) q26a q26c (g := (mkF m 77 #[.val (.int p1), .val (.int p2), .val (.ref b1), .val (.ref b12), .val (.int (if ((p1 &&& p2) &&& (3 : Int32)) = (0 : Int32) then (0 : Int32) else (1 : Int32))), .unset, .unset] [(.ref b12), (.ref b1)])) rfl (by rw [hml]; rfl) (Steps.refl _) (argsL := [(.ref b12)]) (rest := []) (lenOf pd_oLcom_example_jarlens_jarlens_corpus_Breaks_cZ rfl) rfl (by show 2 * 0 + _ ≤ _; exact Nat.le_of_eq rfl) (hb hby at_77) (fun _ _ => ⟨rfl, rfl, (by decide : 2 + 0 ≤ _), (by decide : 4 + 0 ≤ _)⟩)
  dsimp only [Pt.U, Pt.locs, Pt.cells, Pt.slots] at X26 l26 y26 z26 st26 hQ26
  subst l26 y26 z26
  obtain ⟨rfl, N26q, eh26⟩ := hQ26
  have N26 := Fr.app N20 N26q
  have pre27 : ∀ t, Steps p.tables e below (T26.setTop (mkF m 80 #[.val (.int p1), .val (.int p2), .val (.ref b1), .val (.ref b12), .val (.int (if ((p1 &&& p2) &&& (3 : Int32)) = (0 : Int32) then (0 : Int32) else (1 : Int32))), .unset, .unset] [(.int (own_ov (nar .boolean (if (p1 &&& (1 : Int32)) = (0 : Int32) then (0 : Int32) else (1 : Int32))) (nar .boolean (if (p1 &&& (2 : Int32)) = (0 : Int32) then (0 : Int32) else (1 : Int32))) (nar .boolean (if (p2 &&& (1 : Int32)) = (0 : Int32) then (0 : Int32) else (1 : Int32))) (nar .boolean (if (p2 &&& (2 : Int32)) = (0 : Int32) then (0 : Int32) else (1 : Int32)))))])) t → Steps p.tables e below (s₁.setTop (entryFrame m #[(.int p1), (.int p2)] maxLocals)) t := fun t k => pre25 t (st26.trans k)
  have pre28 : ∀ t, Steps p.tables e below (T26.setTop (mkF m 84 #[.val (.int p1), .val (.int p2), .val (.ref b1), .val (.ref b12), .val (.int (if ((p1 &&& p2) &&& (3 : Int32)) = (0 : Int32) then (0 : Int32) else (1 : Int32))), .val (.int (own_ov (nar .boolean (if (p1 &&& (1 : Int32)) = (0 : Int32) then (0 : Int32) else (1 : Int32))) (nar .boolean (if (p1 &&& (2 : Int32)) = (0 : Int32) then (0 : Int32) else (1 : Int32))) (nar .boolean (if (p2 &&& (1 : Int32)) = (0 : Int32) then (0 : Int32) else (1 : Int32))) (nar .boolean (if (p2 &&& (2 : Int32)) = (0 : Int32) then (0 : Int32) else (1 : Int32))))), .unset] [(.ref b1), (.ref b12)])) t → Steps p.tables e below (s₁.setTop (entryFrame m #[(.int p1), (.int p2)] maxLocals)) t := fun t k => pre27 t (by
    show Steps p.tables e below (T26.setTop (mkF m 80 #[.val (.int p1), .val (.int p2), .val (.ref b1), .val (.ref b12), .val (.int (if ((p1 &&& p2) &&& (3 : Int32)) = (0 : Int32) then (0 : Int32) else (1 : Int32))), .unset, .unset] [(.int (own_ov (nar .boolean (if (p1 &&& (1 : Int32)) = (0 : Int32) then (0 : Int32) else (1 : Int32))) (nar .boolean (if (p1 &&& (2 : Int32)) = (0 : Int32) then (0 : Int32) else (1 : Int32))) (nar .boolean (if (p2 &&& (1 : Int32)) = (0 : Int32) then (0 : Int32) else (1 : Int32))) (nar .boolean (if (p2 &&& (2 : Int32)) = (0 : Int32) then (0 : Int32) else (1 : Int32)))))])) t
    refine XS.istore X26.here hx rfl (hb hby at_80) rfl (l' := #[.val (.int p1), .val (.int p2), .val (.ref b1), .val (.ref b12), .val (.int (if ((p1 &&& p2) &&& (3 : Int32)) = (0 : Int32) then (0 : Int32) else (1 : Int32))), .val (.int (own_ov (nar .boolean (if (p1 &&& (1 : Int32)) = (0 : Int32) then (0 : Int32) else (1 : Int32))) (nar .boolean (if (p1 &&& (2 : Int32)) = (0 : Int32) then (0 : Int32) else (1 : Int32))) (nar .boolean (if (p2 &&& (1 : Int32)) = (0 : Int32) then (0 : Int32) else (1 : Int32))) (nar .boolean (if (p2 &&& (2 : Int32)) = (0 : Int32) then (0 : Int32) else (1 : Int32))))), .unset]) rfl ?_
    show Steps p.tables e below (T26.setTop (mkF m 82 #[.val (.int p1), .val (.int p2), .val (.ref b1), .val (.ref b12), .val (.int (if ((p1 &&& p2) &&& (3 : Int32)) = (0 : Int32) then (0 : Int32) else (1 : Int32))), .val (.int (own_ov (nar .boolean (if (p1 &&& (1 : Int32)) = (0 : Int32) then (0 : Int32) else (1 : Int32))) (nar .boolean (if (p1 &&& (2 : Int32)) = (0 : Int32) then (0 : Int32) else (1 : Int32))) (nar .boolean (if (p2 &&& (1 : Int32)) = (0 : Int32) then (0 : Int32) else (1 : Int32))) (nar .boolean (if (p2 &&& (2 : Int32)) = (0 : Int32) then (0 : Int32) else (1 : Int32))))), .unset] [])) t
    refine XS.aloadN X26.here hx rfl (hb hby at_82) rfl rfl ?_
    show Steps p.tables e below (T26.setTop (mkF m 83 #[.val (.int p1), .val (.int p2), .val (.ref b1), .val (.ref b12), .val (.int (if ((p1 &&& p2) &&& (3 : Int32)) = (0 : Int32) then (0 : Int32) else (1 : Int32))), .val (.int (own_ov (nar .boolean (if (p1 &&& (1 : Int32)) = (0 : Int32) then (0 : Int32) else (1 : Int32))) (nar .boolean (if (p1 &&& (2 : Int32)) = (0 : Int32) then (0 : Int32) else (1 : Int32))) (nar .boolean (if (p2 &&& (1 : Int32)) = (0 : Int32) then (0 : Int32) else (1 : Int32))) (nar .boolean (if (p2 &&& (2 : Int32)) = (0 : Int32) then (0 : Int32) else (1 : Int32))))), .unset] [(.ref b12)])) t
    refine XS.aloadN X26.here hx rfl (hb hby at_83) rfl rfl ?_
    show Steps p.tables e below (T26.setTop (mkF m 84 #[.val (.int p1), .val (.int p2), .val (.ref b1), .val (.ref b12), .val (.int (if ((p1 &&& p2) &&& (3 : Int32)) = (0 : Int32) then (0 : Int32) else (1 : Int32))), .val (.int (own_ov (nar .boolean (if (p1 &&& (1 : Int32)) = (0 : Int32) then (0 : Int32) else (1 : Int32))) (nar .boolean (if (p1 &&& (2 : Int32)) = (0 : Int32) then (0 : Int32) else (1 : Int32))) (nar .boolean (if (p2 &&& (1 : Int32)) = (0 : Int32) then (0 : Int32) else (1 : Int32))) (nar .boolean (if (p2 &&& (2 : Int32)) = (0 : Int32) then (0 : Int32) else (1 : Int32))))), .unset] [(.ref b1), (.ref b12)])) t
    exact k)
  obtain ⟨cq29, kq29, q29a, q29b, q29c⟩ := isOf hZ eh26 P20_1
  obtain ⟨_, _, ⟨T29, L29, k29, n29⟩, -, X29, ⟨Lc29, hQ29, l29, y29, z29⟩, st29⟩ := X26.virtualBack hx (y := (⟨"com/example/jarlens/jarlens/corpus/Breaks", "overlaps", "(Lcom/example/jarlens/jarlens/corpus/Breaks;)Z"⟩ : MethodName)) (z := (⟨"com/example/jarlens/jarlens/corpus/Breaks", "overlaps", "(Lcom/example/jarlens/jarlens/corpus/Breaks;)Z"⟩ : MethodName)) hown (mvT hZ (hw _ (List.mem_of_getElem? (i := 18) rfl))) (mvT hZ (hw _ (List.mem_of_getElem? (i := 19) rfl))) (notFace_of_selects (args := #[]) (mvT hZ (hw _ (List.mem_of_getElem? (i := 21) rfl)))) (mvT hZ (hw _ (List.mem_of_getElem? (i := 21) rfl))) (mvT hZ (hw _ (List.mem_of_getElem? (i := 20) rfl))) (by decide) (backOf (W := 0) (rm4 l Z a0 hw [] b12 b1 (nar .boolean (if (p2 &&& (1 : Int32)) = (0 : Int32) then (0 : Int32) else (1 : Int32))) (nar .boolean (if (p2 &&& (2 : Int32)) = (0 : Int32) then (0 : Int32) else (1 : Int32))) (nar .boolean (if (p1 &&& (1 : Int32)) = (0 : Int32) then (0 : Int32) else (1 : Int32))) (nar .boolean (if (p1 &&& (2 : Int32)) = (0 : Int32) then (0 : Int32) else (1 : Int32))) T20.heap n0 sz20 P20_2 P20_3 P9_2__20 P9_3__20) hZ (hw _ (List.mem_of_getElem? (i := 22) rfl)) (hw _ (List.mem_of_getElem? (i := 2) rfl)) (by decide) (by decide)) q29a q29c (g := (mkF m 84 #[.val (.int p1), .val (.int p2), .val (.ref b1), .val (.ref b12), .val (.int (if ((p1 &&& p2) &&& (3 : Int32)) = (0 : Int32) then (0 : Int32) else (1 : Int32))), .val (.int (own_ov (nar .boolean (if (p1 &&& (1 : Int32)) = (0 : Int32) then (0 : Int32) else (1 : Int32))) (nar .boolean (if (p1 &&& (2 : Int32)) = (0 : Int32) then (0 : Int32) else (1 : Int32))) (nar .boolean (if (p2 &&& (1 : Int32)) = (0 : Int32) then (0 : Int32) else (1 : Int32))) (nar .boolean (if (p2 &&& (2 : Int32)) = (0 : Int32) then (0 : Int32) else (1 : Int32))))), .unset] [(.ref b1), (.ref b12)])) rfl (by rw [hml]; rfl) (Steps.refl _) (argsL := [(.ref b1)]) (rest := []) (lenOf pd_oLcom_example_jarlens_jarlens_corpus_Breaks_cZ rfl) rfl (by show 2 * 0 + _ ≤ _; exact Nat.le_of_eq rfl) (hb hby at_84) (fun _ _ => ⟨rfl, eh26, (by decide : 2 + 0 ≤ _), (by decide : 4 + 0 ≤ _)⟩)
  dsimp only [Pt.U, Pt.locs, Pt.cells, Pt.slots] at X29 l29 y29 z29 st29 hQ29
  subst l29 y29 z29
  obtain ⟨rfl, N29q, eh29⟩ := hQ29
  have N29 := Fr.app N26 N29q
  have pre30 : ∀ t, Steps p.tables e below (T29.setTop (mkF m 87 #[.val (.int p1), .val (.int p2), .val (.ref b1), .val (.ref b12), .val (.int (if ((p1 &&& p2) &&& (3 : Int32)) = (0 : Int32) then (0 : Int32) else (1 : Int32))), .val (.int (own_ov (nar .boolean (if (p1 &&& (1 : Int32)) = (0 : Int32) then (0 : Int32) else (1 : Int32))) (nar .boolean (if (p1 &&& (2 : Int32)) = (0 : Int32) then (0 : Int32) else (1 : Int32))) (nar .boolean (if (p2 &&& (1 : Int32)) = (0 : Int32) then (0 : Int32) else (1 : Int32))) (nar .boolean (if (p2 &&& (2 : Int32)) = (0 : Int32) then (0 : Int32) else (1 : Int32))))), .unset] [(.int (own_ov (nar .boolean (if (p2 &&& (1 : Int32)) = (0 : Int32) then (0 : Int32) else (1 : Int32))) (nar .boolean (if (p2 &&& (2 : Int32)) = (0 : Int32) then (0 : Int32) else (1 : Int32))) (nar .boolean (if (p1 &&& (1 : Int32)) = (0 : Int32) then (0 : Int32) else (1 : Int32))) (nar .boolean (if (p1 &&& (2 : Int32)) = (0 : Int32) then (0 : Int32) else (1 : Int32)))))])) t → Steps p.tables e below (s₁.setTop (entryFrame m #[(.int p1), (.int p2)] maxLocals)) t := fun t k => pre28 t (st29.trans k)
  have pre33 : ∀ t, Steps p.tables e below (T29.setTop (mkF m 108 #[.val (.int p1), .val (.int p2), .val (.ref b1), .val (.ref b12), .val (.int (if ((p1 &&& p2) &&& (3 : Int32)) = (0 : Int32) then (0 : Int32) else (1 : Int32))), .val (.int (own_ov (nar .boolean (if (p1 &&& (1 : Int32)) = (0 : Int32) then (0 : Int32) else (1 : Int32))) (nar .boolean (if (p1 &&& (2 : Int32)) = (0 : Int32) then (0 : Int32) else (1 : Int32))) (nar .boolean (if (p2 &&& (1 : Int32)) = (0 : Int32) then (0 : Int32) else (1 : Int32))) (nar .boolean (if (p2 &&& (2 : Int32)) = (0 : Int32) then (0 : Int32) else (1 : Int32))))), .val (.int (own_ov (nar .boolean (if (p2 &&& (1 : Int32)) = (0 : Int32) then (0 : Int32) else (1 : Int32))) (nar .boolean (if (p2 &&& (2 : Int32)) = (0 : Int32) then (0 : Int32) else (1 : Int32))) (nar .boolean (if (p1 &&& (1 : Int32)) = (0 : Int32) then (0 : Int32) else (1 : Int32))) (nar .boolean (if (p1 &&& (2 : Int32)) = (0 : Int32) then (0 : Int32) else (1 : Int32)))))] [(.int (1 : Int32))])) t → Steps p.tables e below (s₁.setTop (entryFrame m #[(.int p1), (.int p2)] maxLocals)) t := fun t k => pre30 t (by
    show Steps p.tables e below (T29.setTop (mkF m 87 #[.val (.int p1), .val (.int p2), .val (.ref b1), .val (.ref b12), .val (.int (if ((p1 &&& p2) &&& (3 : Int32)) = (0 : Int32) then (0 : Int32) else (1 : Int32))), .val (.int (own_ov (nar .boolean (if (p1 &&& (1 : Int32)) = (0 : Int32) then (0 : Int32) else (1 : Int32))) (nar .boolean (if (p1 &&& (2 : Int32)) = (0 : Int32) then (0 : Int32) else (1 : Int32))) (nar .boolean (if (p2 &&& (1 : Int32)) = (0 : Int32) then (0 : Int32) else (1 : Int32))) (nar .boolean (if (p2 &&& (2 : Int32)) = (0 : Int32) then (0 : Int32) else (1 : Int32))))), .unset] [(.int (own_ov (nar .boolean (if (p2 &&& (1 : Int32)) = (0 : Int32) then (0 : Int32) else (1 : Int32))) (nar .boolean (if (p2 &&& (2 : Int32)) = (0 : Int32) then (0 : Int32) else (1 : Int32))) (nar .boolean (if (p1 &&& (1 : Int32)) = (0 : Int32) then (0 : Int32) else (1 : Int32))) (nar .boolean (if (p1 &&& (2 : Int32)) = (0 : Int32) then (0 : Int32) else (1 : Int32)))))])) t
    refine XS.istore X29.here hx rfl (hb hby at_87) rfl (l' := #[.val (.int p1), .val (.int p2), .val (.ref b1), .val (.ref b12), .val (.int (if ((p1 &&& p2) &&& (3 : Int32)) = (0 : Int32) then (0 : Int32) else (1 : Int32))), .val (.int (own_ov (nar .boolean (if (p1 &&& (1 : Int32)) = (0 : Int32) then (0 : Int32) else (1 : Int32))) (nar .boolean (if (p1 &&& (2 : Int32)) = (0 : Int32) then (0 : Int32) else (1 : Int32))) (nar .boolean (if (p2 &&& (1 : Int32)) = (0 : Int32) then (0 : Int32) else (1 : Int32))) (nar .boolean (if (p2 &&& (2 : Int32)) = (0 : Int32) then (0 : Int32) else (1 : Int32))))), .val (.int (own_ov (nar .boolean (if (p2 &&& (1 : Int32)) = (0 : Int32) then (0 : Int32) else (1 : Int32))) (nar .boolean (if (p2 &&& (2 : Int32)) = (0 : Int32) then (0 : Int32) else (1 : Int32))) (nar .boolean (if (p1 &&& (1 : Int32)) = (0 : Int32) then (0 : Int32) else (1 : Int32))) (nar .boolean (if (p1 &&& (2 : Int32)) = (0 : Int32) then (0 : Int32) else (1 : Int32)))))]) rfl ?_
    show Steps p.tables e below (T29.setTop (mkF m 89 #[.val (.int p1), .val (.int p2), .val (.ref b1), .val (.ref b12), .val (.int (if ((p1 &&& p2) &&& (3 : Int32)) = (0 : Int32) then (0 : Int32) else (1 : Int32))), .val (.int (own_ov (nar .boolean (if (p1 &&& (1 : Int32)) = (0 : Int32) then (0 : Int32) else (1 : Int32))) (nar .boolean (if (p1 &&& (2 : Int32)) = (0 : Int32) then (0 : Int32) else (1 : Int32))) (nar .boolean (if (p2 &&& (1 : Int32)) = (0 : Int32) then (0 : Int32) else (1 : Int32))) (nar .boolean (if (p2 &&& (2 : Int32)) = (0 : Int32) then (0 : Int32) else (1 : Int32))))), .val (.int (own_ov (nar .boolean (if (p2 &&& (1 : Int32)) = (0 : Int32) then (0 : Int32) else (1 : Int32))) (nar .boolean (if (p2 &&& (2 : Int32)) = (0 : Int32) then (0 : Int32) else (1 : Int32))) (nar .boolean (if (p1 &&& (1 : Int32)) = (0 : Int32) then (0 : Int32) else (1 : Int32))) (nar .boolean (if (p1 &&& (2 : Int32)) = (0 : Int32) then (0 : Int32) else (1 : Int32)))))] [])) t
    refine XS.iload X29.here hx rfl (hb hby at_89) rfl ?_
    show Steps p.tables e below (T29.setTop (mkF m 91 #[.val (.int p1), .val (.int p2), .val (.ref b1), .val (.ref b12), .val (.int (if ((p1 &&& p2) &&& (3 : Int32)) = (0 : Int32) then (0 : Int32) else (1 : Int32))), .val (.int (own_ov (nar .boolean (if (p1 &&& (1 : Int32)) = (0 : Int32) then (0 : Int32) else (1 : Int32))) (nar .boolean (if (p1 &&& (2 : Int32)) = (0 : Int32) then (0 : Int32) else (1 : Int32))) (nar .boolean (if (p2 &&& (1 : Int32)) = (0 : Int32) then (0 : Int32) else (1 : Int32))) (nar .boolean (if (p2 &&& (2 : Int32)) = (0 : Int32) then (0 : Int32) else (1 : Int32))))), .val (.int (own_ov (nar .boolean (if (p2 &&& (1 : Int32)) = (0 : Int32) then (0 : Int32) else (1 : Int32))) (nar .boolean (if (p2 &&& (2 : Int32)) = (0 : Int32) then (0 : Int32) else (1 : Int32))) (nar .boolean (if (p1 &&& (1 : Int32)) = (0 : Int32) then (0 : Int32) else (1 : Int32))) (nar .boolean (if (p1 &&& (2 : Int32)) = (0 : Int32) then (0 : Int32) else (1 : Int32)))))] [(.int (own_ov (nar .boolean (if (p1 &&& (1 : Int32)) = (0 : Int32) then (0 : Int32) else (1 : Int32))) (nar .boolean (if (p1 &&& (2 : Int32)) = (0 : Int32) then (0 : Int32) else (1 : Int32))) (nar .boolean (if (p2 &&& (1 : Int32)) = (0 : Int32) then (0 : Int32) else (1 : Int32))) (nar .boolean (if (p2 &&& (2 : Int32)) = (0 : Int32) then (0 : Int32) else (1 : Int32)))))])) t
    refine XS.iload X29.here hx rfl (hb hby at_91) rfl ?_
    show Steps p.tables e below (T29.setTop (mkF m 93 #[.val (.int p1), .val (.int p2), .val (.ref b1), .val (.ref b12), .val (.int (if ((p1 &&& p2) &&& (3 : Int32)) = (0 : Int32) then (0 : Int32) else (1 : Int32))), .val (.int (own_ov (nar .boolean (if (p1 &&& (1 : Int32)) = (0 : Int32) then (0 : Int32) else (1 : Int32))) (nar .boolean (if (p1 &&& (2 : Int32)) = (0 : Int32) then (0 : Int32) else (1 : Int32))) (nar .boolean (if (p2 &&& (1 : Int32)) = (0 : Int32) then (0 : Int32) else (1 : Int32))) (nar .boolean (if (p2 &&& (2 : Int32)) = (0 : Int32) then (0 : Int32) else (1 : Int32))))), .val (.int (own_ov (nar .boolean (if (p2 &&& (1 : Int32)) = (0 : Int32) then (0 : Int32) else (1 : Int32))) (nar .boolean (if (p2 &&& (2 : Int32)) = (0 : Int32) then (0 : Int32) else (1 : Int32))) (nar .boolean (if (p1 &&& (1 : Int32)) = (0 : Int32) then (0 : Int32) else (1 : Int32))) (nar .boolean (if (p1 &&& (2 : Int32)) = (0 : Int32) then (0 : Int32) else (1 : Int32)))))] [(.int (if ((p1 &&& p2) &&& (3 : Int32)) = (0 : Int32) then (0 : Int32) else (1 : Int32))), (.int (own_ov (nar .boolean (if (p1 &&& (1 : Int32)) = (0 : Int32) then (0 : Int32) else (1 : Int32))) (nar .boolean (if (p1 &&& (2 : Int32)) = (0 : Int32) then (0 : Int32) else (1 : Int32))) (nar .boolean (if (p2 &&& (1 : Int32)) = (0 : Int32) then (0 : Int32) else (1 : Int32))) (nar .boolean (if (p2 &&& (2 : Int32)) = (0 : Int32) then (0 : Int32) else (1 : Int32)))))])) t
    refine XS.icmpNo X29.here hx rfl (hb hby at_93) rfl (XT.ii_ne_f (show (own_ov (nar .boolean (if (p1 &&& (1 : Int32)) = (0 : Int32) then (0 : Int32) else (1 : Int32))) (nar .boolean (if (p1 &&& (2 : Int32)) = (0 : Int32) then (0 : Int32) else (1 : Int32))) (nar .boolean (if (p2 &&& (1 : Int32)) = (0 : Int32) then (0 : Int32) else (1 : Int32))) (nar .boolean (if (p2 &&& (2 : Int32)) = (0 : Int32) then (0 : Int32) else (1 : Int32)))) = (if ((p1 &&& p2) &&& (3 : Int32)) = (0 : Int32) then (0 : Int32) else (1 : Int32)) from own_plain _ _)) ?_
    show Steps p.tables e below (T29.setTop (mkF m 96 #[.val (.int p1), .val (.int p2), .val (.ref b1), .val (.ref b12), .val (.int (if ((p1 &&& p2) &&& (3 : Int32)) = (0 : Int32) then (0 : Int32) else (1 : Int32))), .val (.int (own_ov (nar .boolean (if (p1 &&& (1 : Int32)) = (0 : Int32) then (0 : Int32) else (1 : Int32))) (nar .boolean (if (p1 &&& (2 : Int32)) = (0 : Int32) then (0 : Int32) else (1 : Int32))) (nar .boolean (if (p2 &&& (1 : Int32)) = (0 : Int32) then (0 : Int32) else (1 : Int32))) (nar .boolean (if (p2 &&& (2 : Int32)) = (0 : Int32) then (0 : Int32) else (1 : Int32))))), .val (.int (own_ov (nar .boolean (if (p2 &&& (1 : Int32)) = (0 : Int32) then (0 : Int32) else (1 : Int32))) (nar .boolean (if (p2 &&& (2 : Int32)) = (0 : Int32) then (0 : Int32) else (1 : Int32))) (nar .boolean (if (p1 &&& (1 : Int32)) = (0 : Int32) then (0 : Int32) else (1 : Int32))) (nar .boolean (if (p1 &&& (2 : Int32)) = (0 : Int32) then (0 : Int32) else (1 : Int32)))))] [])) t
    refine XS.iload X29.here hx rfl (hb hby at_96) rfl ?_
    show Steps p.tables e below (T29.setTop (mkF m 98 #[.val (.int p1), .val (.int p2), .val (.ref b1), .val (.ref b12), .val (.int (if ((p1 &&& p2) &&& (3 : Int32)) = (0 : Int32) then (0 : Int32) else (1 : Int32))), .val (.int (own_ov (nar .boolean (if (p1 &&& (1 : Int32)) = (0 : Int32) then (0 : Int32) else (1 : Int32))) (nar .boolean (if (p1 &&& (2 : Int32)) = (0 : Int32) then (0 : Int32) else (1 : Int32))) (nar .boolean (if (p2 &&& (1 : Int32)) = (0 : Int32) then (0 : Int32) else (1 : Int32))) (nar .boolean (if (p2 &&& (2 : Int32)) = (0 : Int32) then (0 : Int32) else (1 : Int32))))), .val (.int (own_ov (nar .boolean (if (p2 &&& (1 : Int32)) = (0 : Int32) then (0 : Int32) else (1 : Int32))) (nar .boolean (if (p2 &&& (2 : Int32)) = (0 : Int32) then (0 : Int32) else (1 : Int32))) (nar .boolean (if (p1 &&& (1 : Int32)) = (0 : Int32) then (0 : Int32) else (1 : Int32))) (nar .boolean (if (p1 &&& (2 : Int32)) = (0 : Int32) then (0 : Int32) else (1 : Int32)))))] [(.int (own_ov (nar .boolean (if (p2 &&& (1 : Int32)) = (0 : Int32) then (0 : Int32) else (1 : Int32))) (nar .boolean (if (p2 &&& (2 : Int32)) = (0 : Int32) then (0 : Int32) else (1 : Int32))) (nar .boolean (if (p1 &&& (1 : Int32)) = (0 : Int32) then (0 : Int32) else (1 : Int32))) (nar .boolean (if (p1 &&& (2 : Int32)) = (0 : Int32) then (0 : Int32) else (1 : Int32)))))])) t
    refine XS.iload X29.here hx rfl (hb hby at_98) rfl ?_
    show Steps p.tables e below (T29.setTop (mkF m 100 #[.val (.int p1), .val (.int p2), .val (.ref b1), .val (.ref b12), .val (.int (if ((p1 &&& p2) &&& (3 : Int32)) = (0 : Int32) then (0 : Int32) else (1 : Int32))), .val (.int (own_ov (nar .boolean (if (p1 &&& (1 : Int32)) = (0 : Int32) then (0 : Int32) else (1 : Int32))) (nar .boolean (if (p1 &&& (2 : Int32)) = (0 : Int32) then (0 : Int32) else (1 : Int32))) (nar .boolean (if (p2 &&& (1 : Int32)) = (0 : Int32) then (0 : Int32) else (1 : Int32))) (nar .boolean (if (p2 &&& (2 : Int32)) = (0 : Int32) then (0 : Int32) else (1 : Int32))))), .val (.int (own_ov (nar .boolean (if (p2 &&& (1 : Int32)) = (0 : Int32) then (0 : Int32) else (1 : Int32))) (nar .boolean (if (p2 &&& (2 : Int32)) = (0 : Int32) then (0 : Int32) else (1 : Int32))) (nar .boolean (if (p1 &&& (1 : Int32)) = (0 : Int32) then (0 : Int32) else (1 : Int32))) (nar .boolean (if (p1 &&& (2 : Int32)) = (0 : Int32) then (0 : Int32) else (1 : Int32)))))] [(.int (if ((p1 &&& p2) &&& (3 : Int32)) = (0 : Int32) then (0 : Int32) else (1 : Int32))), (.int (own_ov (nar .boolean (if (p2 &&& (1 : Int32)) = (0 : Int32) then (0 : Int32) else (1 : Int32))) (nar .boolean (if (p2 &&& (2 : Int32)) = (0 : Int32) then (0 : Int32) else (1 : Int32))) (nar .boolean (if (p1 &&& (1 : Int32)) = (0 : Int32) then (0 : Int32) else (1 : Int32))) (nar .boolean (if (p1 &&& (2 : Int32)) = (0 : Int32) then (0 : Int32) else (1 : Int32)))))])) t
    refine XS.icmpNo X29.here hx rfl (hb hby at_100) rfl (XT.ii_ne_f (show (own_ov (nar .boolean (if (p2 &&& (1 : Int32)) = (0 : Int32) then (0 : Int32) else (1 : Int32))) (nar .boolean (if (p2 &&& (2 : Int32)) = (0 : Int32) then (0 : Int32) else (1 : Int32))) (nar .boolean (if (p1 &&& (1 : Int32)) = (0 : Int32) then (0 : Int32) else (1 : Int32))) (nar .boolean (if (p1 &&& (2 : Int32)) = (0 : Int32) then (0 : Int32) else (1 : Int32)))) = (if ((p1 &&& p2) &&& (3 : Int32)) = (0 : Int32) then (0 : Int32) else (1 : Int32)) from own_plain' _ _)) ?_
    show Steps p.tables e below (T29.setTop (mkF m 103 #[.val (.int p1), .val (.int p2), .val (.ref b1), .val (.ref b12), .val (.int (if ((p1 &&& p2) &&& (3 : Int32)) = (0 : Int32) then (0 : Int32) else (1 : Int32))), .val (.int (own_ov (nar .boolean (if (p1 &&& (1 : Int32)) = (0 : Int32) then (0 : Int32) else (1 : Int32))) (nar .boolean (if (p1 &&& (2 : Int32)) = (0 : Int32) then (0 : Int32) else (1 : Int32))) (nar .boolean (if (p2 &&& (1 : Int32)) = (0 : Int32) then (0 : Int32) else (1 : Int32))) (nar .boolean (if (p2 &&& (2 : Int32)) = (0 : Int32) then (0 : Int32) else (1 : Int32))))), .val (.int (own_ov (nar .boolean (if (p2 &&& (1 : Int32)) = (0 : Int32) then (0 : Int32) else (1 : Int32))) (nar .boolean (if (p2 &&& (2 : Int32)) = (0 : Int32) then (0 : Int32) else (1 : Int32))) (nar .boolean (if (p1 &&& (1 : Int32)) = (0 : Int32) then (0 : Int32) else (1 : Int32))) (nar .boolean (if (p1 &&& (2 : Int32)) = (0 : Int32) then (0 : Int32) else (1 : Int32)))))] [])) t
    refine XS.iconst X29.here hx rfl (hb hby at_103) ?_
    show Steps p.tables e below (T29.setTop (mkF m 104 #[.val (.int p1), .val (.int p2), .val (.ref b1), .val (.ref b12), .val (.int (if ((p1 &&& p2) &&& (3 : Int32)) = (0 : Int32) then (0 : Int32) else (1 : Int32))), .val (.int (own_ov (nar .boolean (if (p1 &&& (1 : Int32)) = (0 : Int32) then (0 : Int32) else (1 : Int32))) (nar .boolean (if (p1 &&& (2 : Int32)) = (0 : Int32) then (0 : Int32) else (1 : Int32))) (nar .boolean (if (p2 &&& (1 : Int32)) = (0 : Int32) then (0 : Int32) else (1 : Int32))) (nar .boolean (if (p2 &&& (2 : Int32)) = (0 : Int32) then (0 : Int32) else (1 : Int32))))), .val (.int (own_ov (nar .boolean (if (p2 &&& (1 : Int32)) = (0 : Int32) then (0 : Int32) else (1 : Int32))) (nar .boolean (if (p2 &&& (2 : Int32)) = (0 : Int32) then (0 : Int32) else (1 : Int32))) (nar .boolean (if (p1 &&& (1 : Int32)) = (0 : Int32) then (0 : Int32) else (1 : Int32))) (nar .boolean (if (p1 &&& (2 : Int32)) = (0 : Int32) then (0 : Int32) else (1 : Int32)))))] [(.int (1 : Int32))])) t
    refine XS.goto X29.here hx rfl (pc0 := 104) (pc' := 108) rfl (hb hby at_104) (by decide) (by decide) ?_
    show Steps p.tables e below (T29.setTop (mkF m 108 #[.val (.int p1), .val (.int p2), .val (.ref b1), .val (.ref b12), .val (.int (if ((p1 &&& p2) &&& (3 : Int32)) = (0 : Int32) then (0 : Int32) else (1 : Int32))), .val (.int (own_ov (nar .boolean (if (p1 &&& (1 : Int32)) = (0 : Int32) then (0 : Int32) else (1 : Int32))) (nar .boolean (if (p1 &&& (2 : Int32)) = (0 : Int32) then (0 : Int32) else (1 : Int32))) (nar .boolean (if (p2 &&& (1 : Int32)) = (0 : Int32) then (0 : Int32) else (1 : Int32))) (nar .boolean (if (p2 &&& (2 : Int32)) = (0 : Int32) then (0 : Int32) else (1 : Int32))))), .val (.int (own_ov (nar .boolean (if (p2 &&& (1 : Int32)) = (0 : Int32) then (0 : Int32) else (1 : Int32))) (nar .boolean (if (p2 &&& (2 : Int32)) = (0 : Int32) then (0 : Int32) else (1 : Int32))) (nar .boolean (if (p1 &&& (1 : Int32)) = (0 : Int32) then (0 : Int32) else (1 : Int32))) (nar .boolean (if (p1 &&& (2 : Int32)) = (0 : Int32) then (0 : Int32) else (1 : Int32)))))] [(.int (1 : Int32))])) t
    exact k)
  obtain ⟨fs, hr, hrun, hended, hW, hsame⟩ := X29.leave (v := some (.int (1 : Int32))) (fun h => by rw [Bd.returns] at h; cases h)
  refine ⟨_, _, pre33 _ ?_, hrun, hended, _, _, rfl, ?_, ⟨_, rfl⟩, hW, hsame.mono (by decide) (by decide)⟩
  · show Steps p.tables e below (T29.setTop (mkF m 108 #[.val (.int p1), .val (.int p2), .val (.ref b1), .val (.ref b12), .val (.int (if ((p1 &&& p2) &&& (3 : Int32)) = (0 : Int32) then (0 : Int32) else (1 : Int32))), .val (.int (own_ov (nar .boolean (if (p1 &&& (1 : Int32)) = (0 : Int32) then (0 : Int32) else (1 : Int32))) (nar .boolean (if (p1 &&& (2 : Int32)) = (0 : Int32) then (0 : Int32) else (1 : Int32))) (nar .boolean (if (p2 &&& (1 : Int32)) = (0 : Int32) then (0 : Int32) else (1 : Int32))) (nar .boolean (if (p2 &&& (2 : Int32)) = (0 : Int32) then (0 : Int32) else (1 : Int32))))), .val (.int (own_ov (nar .boolean (if (p2 &&& (1 : Int32)) = (0 : Int32) then (0 : Int32) else (1 : Int32))) (nar .boolean (if (p2 &&& (2 : Int32)) = (0 : Int32) then (0 : Int32) else (1 : Int32))) (nar .boolean (if (p1 &&& (1 : Int32)) = (0 : Int32) then (0 : Int32) else (1 : Int32))) (nar .boolean (if (p1 &&& (2 : Int32)) = (0 : Int32) then (0 : Int32) else (1 : Int32)))))] [(.int (1 : Int32))])) _
    exact retN X29 hx (t := .boolean) Bd.returns (by simp) (hb hby at_108) hr
  · show Q0 Z p1 p2 h0 n0 _ T29.heap _
    rw [eh29]
    exact ⟨rfl, N29⟩
set_option maxRecDepth 65536 in
set_option maxHeartbeats 40000000 in
theorem comes_1 {Post : Tables → Env → Array Value → State → Outcome → State → Prop} (hpost : ∀ tb e args s v u, (limb_1_1.after args s (.returned v) u = true ∧ limb_1_2.after args s (.returned v) u = true ∧ True) → FrameEnd s (.returned v) u (Jvm.fieldLocs frame_1_writes args s ++ Jvm.arrayLocs frame_1_arrays args s ++ Jvm.staticLocs frame_1_statics s) 16 128 → Post tb e args s (.returned v) u) :
    ArmFor flags0 classFile x code maxLocals ret World_1 tables_1 room_1 Calls_1 rest_1 Pre_1 Post := by
  intro l hfl _ _ p e ha hc hk s m args below hf hA hF happ hP
  obtain ⟨hcalls, hrest, hpre⟩ := hP
  obtain ⟨-, -, -, hnamed, -, -, -, hat⟩ := (Spec.applies_iff hf).mp happ
  obtain ⟨hg, hn⟩ := and_e (Cond.before_iff.mp (show (Jvm.Cond.and given_1 narrow_1).before args s = true from hpre))
  obtain ⟨ga0, gb0⟩ := and_e hg
  obtain ⟨ga1, gb1⟩ := and_e gb0
  obtain ⟨w0, w1, rfl⟩ : ∃ w0 w1 : Value, args = #[w0, w1] := by
    have hs : args.size = 2 := by simpa [Cond.value, given_1] using ga0
    obtain ⟨L⟩ := args
    match L, hs with
    | [w0, w1], _ => exact ⟨w0, w1, rfl⟩
  have hw := fun d (hd : d ∈ tables_1) => atoms_spec (ws := Jvm.Cond.code x code maxLocals ret :: tables_1) hat d (List.mem_cons_of_mem _ hd)
  obtain ⟨i0, ei0⟩ := is_v ga1
  obtain rfl : w0 = (.int i0) := Option.some.inj ei0
  obtain ⟨i1, ei1⟩ := is_v gb1
  obtain rfl : w1 = (.int i1) := Option.some.inj ei1
  obtain ⟨n, o, h1, h2, h3, _, L, rfl, ⟨rfl, N⟩, hq⟩ := rm0 l s _ hw tables_1 i0 i1 s.heap s.heap.size (Nat.le_refl _) p e ha hc hk s m _ below hf ((Spec.applies_iff_loose hf).mp happ).1 ⟨rfl, State.Warmed39.refl s, rfl⟩ trivial
  refine ⟨n, _, h1, h2, h3, hpost _ _ _ _ _ _ ⟨Cond.after_iff.mpr rfl, Cond.after_iff.mpr (eq_i res_at (Term.int_eval (1)) rfl), trivial⟩ ⟨hq.1, hq.2.1, (hq.2.2.sift fun y hy => Or.inr (N y hy)).mono (by decide) (by decide)⟩⟩
theorem main_1_1 : Claimed_1_1 := comes_1 fun _ _ _ _ _ _ h hF => ⟨h.1, hF⟩
theorem main_1_2 : Claimed_1_2 := comes_1 fun _ _ _ _ _ _ h hF => ⟨h.2.1, hF⟩
end Jvm.Pilot.@@N@@
namespace Jvm.Pilot.@@N@@
open Jvm Jvm.ClassFile Sem Op Lib Jvm.Free Jvm.Stand Jvm.Pilot.@@N@@.Jvm.D
/-! MADE BY PROGRAM (witnessworld.py) out of the Statement's table words and the real class files: 10 classes; the members and pool entries that the words name. The judged class is class 1, her method 1. -/
namespace start1
open Jvm.ClassFile
def u (s : String) : CpInfo := .utf8 (stringToUtf16 s)
/-- a pool by its gaps: so many unusable entries, then the entry; so many at the end -/
def gap : Nat → List CpInfo → List CpInfo
  | 0, r => r
  | n + 1, r => .unusable :: gap n r
def poolList (es : List (Nat × CpInfo)) (last : Nat) : List CpInfo := es.foldr (fun e r => gap e.1 (e.2 :: r)) (gap last [])
def pool (es : List (Nat × CpInfo)) (last : Nat) : Array CpInfo := ⟨poolList es last⟩
def fileOf (pool : Array CpInfo) (this : Nat) (attrs : Array Attribute := #[]) (ms : Array MethodInfo := #[]) (fl : Nat := 33) (sup : Nat := 0) (ifs : Array Nat := #[]) (fds : Array FieldInfo := #[]) : ClassFile where
  minorVersion := 0
  majorVersion := 65
  constantPool := pool
  accessFlags := fl
  thisClass := this
  superClass := sup
  interfaces := ifs
  fields := fds
  methods := ms
  attributes := attrs
def plain (name : String) (sup : Option ClassId) : Class where
  name := name
  kind := .ordinary
  loader := none
  accessFlags := 33
  super := sup
  interfaces := #[]
  cf := none
  fields := #[]
  methods := #[]
  instanceTypes := #[]
  staticTypes := #[]
  resolved := #[]
  callSites := []
  init := .initialized
  statics := none
  mirror := none

def pool0 : Array CpInfo := pool [(5, u "<init>"), (0, u "()V"), (1, .class_ 10), (1, u "java/lang/Object")] 113

def k0c0 : Code := { maxStack := 0, maxLocals := 1, code := object_method_1_code, exceptionTable := #[], attributes := #[] }
def k0m0 : Method := { name := "<init>", desc := "()V", sig := { parameters := [], returnType := none }, accessFlags := 1, code := some k0c0 }
/-- java/lang/Object -/
def k0 : Class := { plain "java/lang/Object" none with
  accessFlags := 33
  interfaces := #[]
  cf := some (fileOf pool0 8 #[] #[{ accessFlags := 1, nameIndex := 5, descriptorIndex := 6, attributes := #[] }] 33 0 #[] #[])
  fields := #[]
  methods := #[k0m0]
  instanceTypes := #[]
  staticTypes := #[]
  resolved := Array.replicate 124 none
  statics := none }

def pool1 : Array CpInfo := pool [(2, .class_ 4), (1, u "java/lang/Object"), (0, u "<init>"), (0, u "()V"), (0, .class_ 8), (0, u "com/example/jarlens/jarlens/corpus/Breaks"), (0, .methodref 7 10), (0, .nameAndType 5 11), (0, u "(ZZ)V"), (0, .methodref 7 13), (0, .nameAndType 14 15), (0, u "overlaps"), (0, u "(Lcom/example/jarlens/jarlens/corpus/Breaks;)Z"), (0, .class_ 17), (0, u "com/example/jarlens/jarlens/corpus/BreaksOverlapsPinLaw"), (2, u "law"), (0, u "(II)Z")] 3

def k1m0 : Method := { name := "<init>", desc := "()V", sig := { parameters := [], returnType := none }, accessFlags := 1, code := none }
def k1c1 : Code := { maxStack := 5, maxLocals := 7, code := code, exceptionTable := #[], attributes := #[] }
def k1m1 : Method := { name := "law", desc := "(II)Z", sig := { parameters := [.int, .int], returnType := some .boolean }, accessFlags := 9, code := some k1c1 }
/-- com/example/jarlens/jarlens/corpus/BreaksOverlapsPinLaw -/
def k1 : Class := { plain "com/example/jarlens/jarlens/corpus/BreaksOverlapsPinLaw" (some 0) with
  accessFlags := 49
  interfaces := #[]
  cf := some (fileOf pool1 16 #[] #[{ accessFlags := 1, nameIndex := 5, descriptorIndex := 6, attributes := #[] }, { accessFlags := 9, nameIndex := 20, descriptorIndex := 21, attributes := #[] }] 49 2 #[] #[])
  fields := #[]
  methods := #[k1m0, k1m1]
  instanceTypes := #[]
  staticTypes := #[]
  resolved := Array.replicate 25 none
  statics := none }

def pool2 : Array CpInfo := pool [(1, .methodref 2 3), (0, .class_ 4), (0, .nameAndType 5 6), (0, u "java/lang/Object"), (0, u "<init>"), (0, u "()V"), (0, .class_ 8), (0, u "java/lang/Record")] 13

def k2c0 : Code := { maxStack := 1, maxLocals := 1, code := jdk_30_method_1_code, exceptionTable := #[], attributes := #[] }
def k2m0 : Method := { name := "<init>", desc := "()V", sig := { parameters := [], returnType := none }, accessFlags := 4, code := some k2c0 }
/-- java/lang/Record -/
def k2 : Class := { plain "java/lang/Record" (some 0) with
  accessFlags := 1057
  interfaces := #[]
  cf := some (fileOf pool2 7 #[] #[{ accessFlags := 4, nameIndex := 5, descriptorIndex := 6, attributes := #[] }] 1057 2 #[] #[])
  fields := #[]
  methods := #[k2m0]
  instanceTypes := #[]
  staticTypes := #[]
  resolved := Array.replicate 22 none
  statics := none }

def pool3 : Array CpInfo := pool [(1, .methodref 2 3), (0, .class_ 4), (0, .nameAndType 5 6), (0, u "java/lang/Record"), (0, u "<init>"), (0, u "()V"), (0, .fieldref 8 9), (0, .class_ 10), (0, .nameAndType 11 12), (0, u "com/example/jarlens/jarlens/corpus/Breaks"), (0, u "binary"), (0, u "Z"), (0, .fieldref 8 14), (0, .nameAndType 15 12), (0, u "source"), (18, u "(ZZ)V"), (2, u "NONE"), (0, u "Lcom/example/jarlens/jarlens/corpus/Breaks;"), (27, u "overlaps"), (0, u "(Lcom/example/jarlens/jarlens/corpus/Breaks;)Z")] 33

def k3c0 : Code := { maxStack := 2, maxLocals := 3, code := prog_12_method_1_code, exceptionTable := #[], attributes := #[] }
def k3m0 : Method := { name := "<init>", desc := "(ZZ)V", sig := { parameters := [.boolean, .boolean], returnType := none }, accessFlags := 0, code := some k3c0 }
def k3c1 : Code := { maxStack := 1, maxLocals := 2, code := prog_12_method_4_code, exceptionTable := #[], attributes := #[] }
def k3m1 : Method := { name := "overlaps", desc := "(Lcom/example/jarlens/jarlens/corpus/Breaks;)Z", sig := { parameters := [(.object "com/example/jarlens/jarlens/corpus/Breaks")], returnType := some .boolean }, accessFlags := 0, code := some k3c1 }
/-- com/example/jarlens/jarlens/corpus/Breaks -/
def k3 : Class := { plain "com/example/jarlens/jarlens/corpus/Breaks" (some 2) with
  accessFlags := 48
  interfaces := #[]
  cf := some (fileOf pool3 8 #[] #[{ accessFlags := 0, nameIndex := 5, descriptorIndex := 34, attributes := #[] }, { accessFlags := 0, nameIndex := 66, descriptorIndex := 67, attributes := #[] }] 48 2 #[] #[{ accessFlags := 18, nameIndex := 11, descriptorIndex := 12, attributes := #[] }, { accessFlags := 18, nameIndex := 15, descriptorIndex := 12, attributes := #[] }, { accessFlags := 24, nameIndex := 37, descriptorIndex := 38, attributes := #[] }])
  fields := #[{ name := "binary", type := .boolean, accessFlags := 18, slot := 0, constantValue := 0 }, { name := "source", type := .boolean, accessFlags := 18, slot := 1, constantValue := 0 }, { name := "NONE", type := (.object "com/example/jarlens/jarlens/corpus/Breaks"), accessFlags := 24, slot := 0, constantValue := 0 }]
  methods := #[k3m0, k3m1]
  instanceTypes := #[.boolean, .boolean]
  staticTypes := #[(.object "com/example/jarlens/jarlens/corpus/Breaks")]
  resolved := Array.replicate 101 none
  statics := none }

def pool4 : Array CpInfo := pool [(1, u "java/lang/Cloneable"), (0, .class_ 1), (0, u "java/lang/Object"), (0, .class_ 3)] 3

/-- java/lang/Cloneable -/
def k4 : Class := { plain "java/lang/Cloneable" (some 0) with
  accessFlags := 1537
  interfaces := #[]
  cf := some (fileOf pool4 2 #[] #[] 1537 4 #[] #[])
  fields := #[]
  methods := #[]
  instanceTypes := #[]
  staticTypes := #[]
  resolved := Array.replicate 8 none
  statics := none }

def pool5 : Array CpInfo := pool [(1, u "java/io/Serializable"), (0, .class_ 1), (0, u "java/lang/Object"), (0, .class_ 3)] 3

/-- java/io/Serializable -/
def k5 : Class := { plain "java/io/Serializable" (some 0) with
  accessFlags := 1537
  interfaces := #[]
  cf := some (fileOf pool5 2 #[] #[] 1537 4 #[] #[])
  fields := #[]
  methods := #[]
  instanceTypes := #[]
  staticTypes := #[]
  resolved := Array.replicate 8 none
  statics := none }

/-- the primitive byte -/
def k6 : Class := { plain "byte" none with kind := .primitive 'B', accessFlags := 0x411 }
/-- [B -/
def k7 : Class := { plain "[B" (some 0) with kind := .array 6 .byte, interfaces := #[4, 5], accessFlags := 1041 }

/-- the primitive int -/
def k8 : Class := { plain "int" none with kind := .primitive 'I', accessFlags := 0x411 }
/-- [I -/
def k9 : Class := { plain "[I" (some 0) with kind := .array 8 .int, interfaces := #[4, 5], accessFlags := 1041 }

def heap : Heap := #[]
def classes : Array Class := #[k0, k1, k2, k3, k4, k5, k6, k7, k8, k9]
def interned : List (Array UInt16 × Addr) := []
def slotsUsed : Nat := 0
def theMethod : MethodId := ⟨1, 1⟩
def args0 : Array Value := #[.int 5, .int 9]
def aboutOver (below : List Frame) : State where
  vm := { classes := classes, interned := interned.toArray }
  heap := heap
  slotsUsed := slotsUsed
  threads := #[{ frames := .invoking theMethod args0 :: below }]
def below0 : List Frame := [.native { method := ⟨0, 0⟩, args := #[] }]
def about1 : State := aboutOver below0
def p0 : Program := .bare "" "" ""
def e0 : Env := launch0.env 0 0 0
theorem w_frames : about1.frames = Frame.invoking theMethod args0 :: below0 := rfl
set_option maxRecDepth 65536 in
theorem w_args : argsFit about1.vm theMethod args0 = true := by decide +kernel
set_option maxRecDepth 65536 in
theorem w_heap : heapFits about1 = true := by decide +kernel
set_option maxRecDepth 65536 in
theorem w_runnable : about1.curStatus? = some .runnable := by decide +kernel
set_option maxRecDepth 65536 in
theorem w_alone : about1.alone = true := by decide +kernel
set_option maxRecDepth 65536 in
theorem w_named : about1.methodNamed? x = some theMethod := by decide +kernel
set_option maxRecDepth 65536 in
theorem w_hears : about1.hears theMethod below0 = true := by decide +kernel
set_option maxRecDepth 65536 in
theorem w_ripe : about1.ripe theMethod args0 below0 = true := by decide +kernel
theorem w_running : about1.status = .running := rfl
set_option maxRecDepth 65536 in
theorem w_room : about1.hasRoom e0.platform room_1 = true :=
  launch0.hasRoom_least _ room_1 (by decide +kernel) (by decide +kernel) (by decide +kernel) (by decide +kernel) (by decide +kernel) (by decide +kernel)
theorem allAtoms_all (ts : List Jvm.Cond) (a : Array Jvm.Value) (st : Jvm.State) : (allAtoms ts).before a st = ts.all (fun c => c.before a st) := by
  induction ts with
  | nil => rfl
  | cons c t ih =>
    show (Jvm.Cond.and c (allAtoms t)).before a st = _
    rw [Jvm.Cond.before_and, ih, List.all_cons]
def words1 : List Jvm.Cond := Jvm.Cond.code x code maxLocals ret :: tables_1
/-- a 'code' word, met by the world's own term for the bytes: nothing is compared byte by byte -/
theorem code_word {y : MethodName} {bytes : ByteArray} {mx : Nat} {rt : Option FieldType} {a : Array Value} {s : State} {m : MethodId} {meth : Method} {c : Code} (h1 : s.methodNamed? y = some m) (h2 : s.vm.method? m = some meth) (h3 : meth.code = some c) (h4 : c.code = bytes)
    (h5 : (c.maxLocals == mx && c.exceptionTable.isEmpty && decide (c.maxStack ≤ mostOperands) && decide (meth.sig.returnType = rt) && !meth.locks && decide (parseMethodDescriptor y.desc = some meth.sig)) = true) : (Jvm.Cond.code y bytes mx rt).before a s = true := by
  simp only [Bool.and_eq_true, beq_iff_eq, Bool.not_eq_true', decide_eq_true_eq] at h5
  obtain ⟨⟨⟨⟨⟨g1, g2⟩, g3⟩, g4⟩, g5⟩, g6⟩ := h5
  simp [Cond.before, Cond.holds, Cond.value, h1, h2, h3, h4, g1, g2, g3, g4, g5, g6]
def isCode : Jvm.Cond → Bool
  | .code _ _ _ _ => true
  | _ => false
theorem all_split {L : List Jvm.Cond} {P : Jvm.Cond → Bool} (h1 : L.all (fun c => isCode c || P c) = true) (h2 : ∀ c ∈ L.filter isCode, P c = true) : L.all P = true := by
  refine List.all_eq_true.mpr fun c hc => ?_
  have h := List.all_eq_true.mp h1 c hc
  rcases Bool.eq_false_or_eq_true (isCode c) with hi | hi
  · exact h2 c (List.mem_filter.mpr ⟨hc, hi⟩)
  · simpa [hi] using h
set_option maxRecDepth 65536 in
theorem w_c0 : (Jvm.Cond.code x code maxLocals ret).before args0 about1 = true := code_word (m := ⟨1, 1⟩) (meth := k1m1) (c := k1c1) (by decide +kernel) rfl rfl rfl (by decide +kernel)
set_option maxRecDepth 65536 in
theorem w_c1 : (Jvm.Cond.code ({ cls := "com/example/jarlens/jarlens/corpus/Breaks", name := "<init>", desc := "(ZZ)V" } : Jvm.MethodName) prog_12_method_1_code (3 : Nat) (Option.none : Option Jvm.ClassFile.FieldType)).before args0 about1 = true := code_word (m := ⟨3, 0⟩) (meth := k3m0) (c := k3c0) (by decide +kernel) rfl rfl rfl (by decide +kernel)
set_option maxRecDepth 65536 in
theorem w_c2 : (Jvm.Cond.code ({ cls := "java/lang/Record", name := "<init>", desc := "()V" } : Jvm.MethodName) jdk_30_method_1_code (1 : Nat) (Option.none : Option Jvm.ClassFile.FieldType)).before args0 about1 = true := code_word (m := ⟨2, 0⟩) (meth := k2m0) (c := k2c0) (by decide +kernel) rfl rfl rfl (by decide +kernel)
set_option maxRecDepth 65536 in
theorem w_c3 : (Jvm.Cond.code ({ cls := "java/lang/Object", name := "<init>", desc := "()V" } : Jvm.MethodName) object_method_1_code (1 : Nat) (Option.none : Option Jvm.ClassFile.FieldType)).before args0 about1 = true := code_word (m := ⟨0, 0⟩) (meth := k0m0) (c := k0c0) (by decide +kernel) rfl rfl rfl (by decide +kernel)
set_option maxRecDepth 65536 in
theorem w_c4 : (Jvm.Cond.code ({ cls := "com/example/jarlens/jarlens/corpus/Breaks", name := "overlaps", desc := "(Lcom/example/jarlens/jarlens/corpus/Breaks;)Z" } : Jvm.MethodName) prog_12_method_4_code (2 : Nat) (Option.some Jvm.ClassFile.FieldType.boolean)).before args0 about1 = true := code_word (m := ⟨3, 1⟩) (meth := k3m1) (c := k3c1) (by decide +kernel) rfl rfl rfl (by decide +kernel)
def codes1 : List Jvm.Cond := [Jvm.Cond.code x code maxLocals ret, Jvm.Cond.code ({ cls := "com/example/jarlens/jarlens/corpus/Breaks", name := "<init>", desc := "(ZZ)V" } : Jvm.MethodName) prog_12_method_1_code (3 : Nat) (Option.none : Option Jvm.ClassFile.FieldType), Jvm.Cond.code ({ cls := "java/lang/Record", name := "<init>", desc := "()V" } : Jvm.MethodName) jdk_30_method_1_code (1 : Nat) (Option.none : Option Jvm.ClassFile.FieldType), Jvm.Cond.code ({ cls := "java/lang/Object", name := "<init>", desc := "()V" } : Jvm.MethodName) object_method_1_code (1 : Nat) (Option.none : Option Jvm.ClassFile.FieldType), Jvm.Cond.code ({ cls := "com/example/jarlens/jarlens/corpus/Breaks", name := "overlaps", desc := "(Lcom/example/jarlens/jarlens/corpus/Breaks;)Z" } : Jvm.MethodName) prog_12_method_4_code (2 : Nat) (Option.some Jvm.ClassFile.FieldType.boolean)]
set_option maxRecDepth 65536 in
theorem codes_eq : words1.filter isCode = codes1 := rfl
theorem w_codes : ∀ c ∈ words1.filter isCode, c.before args0 about1 = true := by
  rw [codes_eq]
  intro c hc
  simp only [codes1, List.mem_cons, List.not_mem_nil, or_false] at hc
  rcases hc with rfl | rfl | rfl | rfl | rfl
  · exact w_c0
  · exact w_c1
  · exact w_c2
  · exact w_c3
  · exact w_c4
set_option maxRecDepth 65536 in
theorem w_t1 : words1.all (fun c => isCode c || c.before args0 about1) = true := by decide +kernel
theorem w_tables : (allAtoms (Jvm.Cond.code x code maxLocals ret :: tables_1)).before args0 about1 = true := by
  rw [allAtoms_all]
  show words1.all (fun c => c.before args0 about1) = true
  refine all_split ?_ w_codes
  rw [w_t1]
set_option maxRecDepth 65536 in
theorem w_case : (Jvm.Cond.and given_1 narrow_1).before args0 about1 = true := by decide +kernel
theorem w_applies : (headSpec (Jvm.Cond.code x code maxLocals ret :: tables_1) room_1).applies x e0.platform about1 = true :=
  (Spec.applies_iff w_frames).mpr ⟨w_running, w_runnable, w_alone, w_named, w_hears, w_ripe, w_room, w_tables⟩
theorem atStart : AtStart classFile x code maxLocals ret World_1 tables_1 room_1 Calls_1 rest_1 Pre_1 launch0 p0 e0 about1 theMethod args0 below0 :=
  ⟨lists_1, trivial, launch0.admits_env _ _ _, launch0.least_env, fairChoices_fair.cas, fairChoices_fair.clock, w_frames, w_args, w_heap, w_applies, trivial, trivial, w_case⟩
end start1
theorem witness_1 : WitnessClaimed_1 := ⟨start1.p0, start1.e0, start1.about1, start1.theMethod, start1.args0, start1.below0, start1.atStart⟩
end Jvm.Pilot.@@N@@
