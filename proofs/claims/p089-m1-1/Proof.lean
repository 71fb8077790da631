import JvmDerived
import JvmDerived.Pilot.@@N@@Statement
import JvmDerived.Pilot.@@N@@Code
set_option linter.unusedVariables false
set_option linter.unusedSimpArgs false
@@BLOCK:NumsL.lean.txt@@
namespace Jvm.RoadKit
open Sem ClassFile Op Lib Jvm.Stand Jvm.Free Jvm.LawKit
section New
variable {p : Program} {l : Launch} {e : Env} {R : Room} {s : State} {m : MethodId} {args : Array Value} {below : List Frame} {meth : Method} {c : Code} {T : State} {locs : List Loc} {cells slots : Nat}
theorem retI (X : Stand p l e R s m args below meth c T locs cells slots) (hx : p.tables.exec = Jvm.exec) {pc : Nat} {Ls : Array Slot} {z : Int32} {rest : List Value} (hret : meth.sig.returnType = some .int) (hd : decode c.code pc = .ok (.ireturn, 1)) {fs : List Frame}
    (hl : ∀ (f : JFrame) (acts : List Action), f.method = m → f.locked = none → f.entered = [] → (doReturn e (T.setTop f) acts (some (.int z))).1 = T.setFrames fs) : Steps p.tables e below (T.setTop (mkF m pc Ls (.int z :: rest))) (T.setFrames fs) := by
  have hm' : T.vm.method? m = some meth := X.method'
  have hn : narrow .int (.int z) = .int z := rfl
  show Steps p.tables e below (T.setTop { method := m, pc := pc, locals := Ls, stack := _ :: rest, locked := none }) _
  jvm_step X.here [X.here.top, hx, hd, hm', hret, hn]
  first | (intro acts; rw [hl _ acts rfl rfl rfl]) | rw [hl _ _ rfl rfl rfl]
  exact Steps.refl _
end New
end Jvm.RoadKit
namespace Jvm.Pilot.@@N@@
open Jvm Jvm.ClassFile Sem Op Lib Jvm.Free Jvm.Stand Jvm.LawKit Jvm.RoadKit Bundle Jvm.Pilot.@@N@@.Jvm.D
section Own
variable {p : Program} {l : Launch} {e : Env} {R : Room} {s : State} {m : MethodId} {args : Array Value} {below : List Frame} {meth : Method} {c : Code} {T : State} {locs : List Loc} {cells slots : Nat} {Z : State} {h : Heap} {a : Addr} {k : ClassId} {n : Int32} {vs : List Value} {dv : Value} {ty : FieldType}
theorem own_caload (X : Stand p l e R s m args below meth c T locs cells slots) (hx : p.tables.exec = Jvm.exec) (hZ : Z.Warmed39 s.vm) (eT : T.heap = h) (V : Arv Z h a k .char n vs dv) {j : Int32} {v : Value} (hj : ¬ j < 0 ∧ j < n) (hv : vs.getD j.toNatClampNeg dv = v) {g : JFrame} (hg : g.method = m) {rest : List Value} (hs : g.stack = .int j :: .ref a :: rest) (hd : decode c.code g.pc = .ok (.caload, 1)) :
    ∀ target, Steps p.tables e below (T.setTop { g with pc := g.pc + 1, stack := v :: rest }) target → Steps p.tables e below (T.setTop g) target := by
  obtain ⟨cl, Ar, -, S, -, H, -⟩ := V
  exact X.caload hx (j := j) (v := v) (by rw [eT]; exact Ar.1) (State.isArrayOf_alike hZ.alike Ar.2.1) Ar.2.2 (inb_of S hj) (H.at (inb_of S hj) hv) hg hs hd
theorem own_iaload (X : Stand p l e R s m args below meth c T locs cells slots) (hx : p.tables.exec = Jvm.exec) (hZ : Z.Warmed39 s.vm) (eT : T.heap = h) (V : Arv Z h a k .int n vs dv) {j : Int32} {v : Value} (hj : ¬ j < 0 ∧ j < n) (hv : vs.getD j.toNatClampNeg dv = v) {g : JFrame} (hg : g.method = m) {rest : List Value} (hs : g.stack = .int j :: .ref a :: rest) (hd : decode c.code g.pc = .ok (.iaload, 1)) :
    ∀ target, Steps p.tables e below (T.setTop { g with pc := g.pc + 1, stack := v :: rest }) target → Steps p.tables e below (T.setTop g) target := by
  obtain ⟨cl, Ar, -, S, -, H, -⟩ := V
  exact X.iaload hx (j := j) (v := v) (by rw [eT]; exact Ar.1) (State.isArrayOf_alike hZ.alike Ar.2.1) Ar.2.2 (inb_of S hj) (H.at (inb_of S hj) hv) hg hs hd
theorem own_baload (X : Stand p l e R s m args below meth c T locs cells slots) (hx : p.tables.exec = Jvm.exec) (hZ : Z.Warmed39 s.vm) (eT : T.heap = h) (V : Arv Z h a k .byte n vs dv) {j : Int32} {v : Value} (hj : ¬ j < 0 ∧ j < n) (hv : vs.getD j.toNatClampNeg dv = v) {g : JFrame} (hg : g.method = m) {rest : List Value} (hs : g.stack = .int j :: .ref a :: rest) (hd : decode c.code g.pc = .ok (.baload, 1)) :
    ∀ target, Steps p.tables e below (T.setTop { g with pc := g.pc + 1, stack := v :: rest }) target → Steps p.tables e below (T.setTop g) target := by
  obtain ⟨cl, Ar, -, S, -, H, -⟩ := V
  exact X.baloadBytes hx (j := j) (v := v) (by rw [eT]; exact Ar.1) (State.isArrayOf_alike hZ.alike Ar.2.1) Ar.2.2 (inb_of S hj) (H.at (inb_of S hj) hv) hg hs hd
theorem own_alen (X : Stand p l e R s m args below meth c T locs cells slots) (hx : p.tables.exec = Jvm.exec) (hZ : Z.Warmed39 s.vm) (eT : T.heap = h) (V : Arv Z h a k ty n vs dv) {g : JFrame} (hg : g.method = m) {rest : List Value} (hs : g.stack = .ref a :: rest) (hd : decode c.code g.pc = .ok (.arraylength, 1)) :
    ∀ target, Steps p.tables e below (T.setTop { g with pc := g.pc + 1, stack := .int n :: rest }) target → Steps p.tables e below (T.setTop g) target := by
  obtain ⟨cl, Ar, -, S, N, -, -⟩ := V
  intro target q
  refine X.arraylength hx (by rw [eT]; exact Ar.1) (State.isArrayOf_alike hZ.alike Ar.2.1) hg hs hd target ?_
  rw [len_of S N]; exact q
end Own

def own_b (c : Int32) : Int32 := if c < (768 : Int32) then (1 : Int32) else (0 : Int32)
theorem own_mono {x y : Int32} (h : ¬ y < x) (hy : ¬ own_b y = (0 : Int32)) : ¬ own_b x = (0 : Int32) := by
  unfold own_b at *
  by_cases h1 : y < (768 : Int32)
  · rw [Int32.lt_iff_toInt_lt] at h h1
    rw [if_pos (by rw [Int32.lt_iff_toInt_lt]; omega)]; decide
  · rw [if_neg h1] at hy; exact absurd rfl hy
theorem own_mono' {x y : Int32} (h : y < x) (hy : ¬ own_b x = (0 : Int32)) : ¬ own_b y = (0 : Int32) := own_mono (fun q => by rw [Int32.lt_iff_toInt_lt] at h q; omega) hy
theorem ef_1 (m : MethodId) (p1 : Int32) : entryFrame m #[(.int p1)] 1 = mkF m 0 #[.val (.int p1)] [] := by first | (simp [entryFrame, mkF, argsToLocals, Value.category]; done) | rfl
theorem pn_com_example_precis_precis_display_Nfc : plainName "com/example/precis/precis/display/Nfc" = true := by first | (simp [plainName, overriddenIn]; done) | decide +kernel
theorem d1_0 : decode prog_34_method_4_code 0 = .ok (.iload_n 0, 1) := by decide +kernel
theorem d1_1 : decode prog_34_method_4_code 1 = .ok (.sipush 768, 3) := by decide +kernel
theorem d1_4 : decode prog_34_method_4_code 4 = .ok (.if_icmp .ge 7, 3) := by decide +kernel
theorem d1_7 : decode prog_34_method_4_code 7 = .ok (.iconst 1, 1) := by decide +kernel
theorem d1_8 : decode prog_34_method_4_code 8 = .ok (.goto 4, 3) := by decide +kernel
theorem d1_12 : decode prog_34_method_4_code 12 = .ok (.ireturn, 1) := by decide +kernel
theorem d1_11 : decode prog_34_method_4_code 11 = .ok (.iconst 0, 1) := by decide +kernel
def Q1 (Z : State) (p1 : Int32) (h0 : Heap) (n0 : Nat) (v : Option Value) (h : Heap) (L : List Loc) : Prop := v = some (.int (own_b p1)) ∧ Fr n0 L ∧ h = h0
set_option maxRecDepth 65536 in
set_option maxHeartbeats 40000000 in
theorem rm1 (l : Launch) (Z : State) (a0 : Array Value) (hw : ∀ d ∈ tables_1, d.before a0 Z = true) (ws : List Jvm.Cond) (p1 : Int32) (h0 : Heap) (n0 : Nat) (Z0 : n0 ≤ h0.size) :
    MetFree l (⟨"com/example/precis/precis/display/Nfc", "isBelowCombiningMarks", "(C)Z"⟩ : MethodName) (head1 (Jvm.Cond.code (⟨"com/example/precis/precis/display/Nfc", "isBelowCombiningMarks", "(C)Z"⟩ : MethodName) prog_34_method_4_code 1 (some .boolean) :: ws) ({ frames := 0, cells := 0, slots := 0, locals := 0 } : Room)) (fun a U => a = #[(.int p1)] ∧ Z.Warmed39 U.vm ∧ U.heap = h0) (fun _ _ _ _ _ => True) (fun _ U o U' => ∃ v L, o = .returned v ∧ Q1 Z p1 h0 n0 v U'.heap L ∧ FrameEnd U o U' L ({ frames := 0, cells := 0, slots := 0, locals := 0 } : Room).cells ({ frames := 0, cells := 0, slots := 0, locals := 0 } : Room).slots) := by
  refine MetFree.of_bodySF (plainFor_of_name pn_com_example_precis_precis_display_Nfc) hisR ?_
  intro p e s m args below meth c s₁ Bd hml0 hP hK
  obtain ⟨rfl, hZ, hh⟩ := hP
  have hx := Bd.exec
  have hby := Bd.bytes
  have hml : c.maxLocals = 1 := hml0
  have hown : s.vm.findClass "com/example/precis/precis/display/Nfc" = some m.cls := findClass_of_methodNamed Bd.named
  have hnm := (name_of_methodNamed Bd.named Bd.method).1
  have X0 : Stand p l e ({ frames := 0, cells := 0, slots := 0, locals := 0 } : Room) s m #[(.int p1)] below meth c s₁ [] 0 0 := Stand.of_body Bd
  have eh0 : s₁.heap = h0 := by rw [← hh, Bd.state]; rfl
  have N0 := Fr.nil n0
  have pre0 : ∀ t, Steps p.tables e below (s₁.setTop (mkF m 0 #[.val (.int p1)] [])) t → Steps p.tables e below (s₁.setTop (entryFrame m #[(.int p1)] 1)) t := fun t k => castTop (ef_1 m p1) k
  have pre2 : ∀ t, Steps p.tables e below (s₁.setTop (mkF m 4 #[.val (.int p1)] [(.int (768 : Int32)), (.int p1)])) t → Steps p.tables e below (s₁.setTop (entryFrame m #[(.int p1)] 1)) t := fun t k => pre0 t (by
    show Steps p.tables e below (s₁.setTop (mkF m 0 #[.val (.int p1)] [])) t
    refine XS.iloadN X0.here hx rfl (hb hby d1_0) rfl ?_
    show Steps p.tables e below (s₁.setTop (mkF m 1 #[.val (.int p1)] [(.int p1)])) t
    refine XS.sipush X0.here hx rfl (hb hby d1_1) ?_
    show Steps p.tables e below (s₁.setTop (mkF m 4 #[.val (.int p1)] [(.int (768 : Int32)), (.int p1)])) t
    exact k)
  by_cases hc4_1 : p1 < (768 : Int32)
  · skip
    have pre3 : ∀ t, Steps p.tables e below (s₁.setTop (mkF m 12 #[.val (.int p1)] [(.int (1 : Int32))])) t → Steps p.tables e below (s₁.setTop (entryFrame m #[(.int p1)] 1)) t := fun t k => pre2 t (by
      show Steps p.tables e below (s₁.setTop (mkF m 4 #[.val (.int p1)] [(.int (768 : Int32)), (.int p1)])) t
      refine XS.icmpNo X0.here hx rfl (hb hby d1_4) rfl (XT.ii_ge_f hc4_1) ?_
      show Steps p.tables e below (s₁.setTop (mkF m 7 #[.val (.int p1)] [])) t
      refine XS.iconst X0.here hx rfl (hb hby d1_7) ?_
      show Steps p.tables e below (s₁.setTop (mkF m 8 #[.val (.int p1)] [(.int (1 : Int32))])) t
      refine XS.goto X0.here hx rfl (pc0 := 8) (pc' := 12) rfl (hb hby d1_8) (by decide) (by decide) ?_
      show Steps p.tables e below (s₁.setTop (mkF m 12 #[.val (.int p1)] [(.int (1 : Int32))])) t
      exact k)
    obtain ⟨fs, hr, hrun, hended, hW, hsame⟩ := X0.leave (v := some (.int (1 : Int32))) (fun h => by rw [Bd.returns] at h; cases h)
    refine ⟨_, _, pre3 _ ?_, hrun, hended, _, _, rfl, ?_, ⟨_, rfl⟩, hW, hsame.mono (by decide) (by decide)⟩
    · show Steps p.tables e below (s₁.setTop (mkF m 12 #[.val (.int p1)] [(.int (1 : Int32))])) _
      exact retN X0 hx (t := .boolean) Bd.returns (by simp) (hb hby d1_12) hr
    · show Q1 Z p1 h0 n0 _ s₁.heap _
      rw [eh0]
      exact ⟨(congrArg (fun z => some (Value.int z)) (show (1 : Int32) = (own_b p1) from (by simp only [own_b, if_pos hc4_1]))), N0, rfl⟩
  · skip
    have pre4 : ∀ t, Steps p.tables e below (s₁.setTop (mkF m 12 #[.val (.int p1)] [(.int (0 : Int32))])) t → Steps p.tables e below (s₁.setTop (entryFrame m #[(.int p1)] 1)) t := fun t k => pre2 t (by
      show Steps p.tables e below (s₁.setTop (mkF m 4 #[.val (.int p1)] [(.int (768 : Int32)), (.int p1)])) t
      refine XS.icmpYes X0.here hx rfl (pc0 := 4) (pc' := 11) rfl (hb hby d1_4) rfl (XT.ii_ge_t hc4_1) (by decide) (by decide) ?_
      show Steps p.tables e below (s₁.setTop (mkF m 11 #[.val (.int p1)] [])) t
      refine XS.iconst X0.here hx rfl (hb hby d1_11) ?_
      show Steps p.tables e below (s₁.setTop (mkF m 12 #[.val (.int p1)] [(.int (0 : Int32))])) t
      exact k)
    obtain ⟨fs, hr, hrun, hended, hW, hsame⟩ := X0.leave (v := some (.int (0 : Int32))) (fun h => by rw [Bd.returns] at h; cases h)
    refine ⟨_, _, pre4 _ ?_, hrun, hended, _, _, rfl, ?_, ⟨_, rfl⟩, hW, hsame.mono (by decide) (by decide)⟩
    · show Steps p.tables e below (s₁.setTop (mkF m 12 #[.val (.int p1)] [(.int (0 : Int32))])) _
      exact retN X0 hx (t := .boolean) Bd.returns (by simp) (hb hby d1_12) hr
    · show Q1 Z p1 h0 n0 _ s₁.heap _
      rw [eh0]
      exact ⟨(congrArg (fun z => some (Value.int z)) (show (0 : Int32) = (own_b p1) from (by simp only [own_b, if_neg hc4_1]))), N0, rfl⟩
theorem ef_0 (m : MethodId) (p1 : Int32) (p2 : Int32) : entryFrame m #[(.int p1), (.int p2)] maxLocals = mkF m 0 #[.val (.int p1), .val (.int p2), .unset, .unset, .unset, .unset, .unset, .unset, .unset, .unset, .unset] [] := by first | (simp [entryFrame, mkF, argsToLocals, Value.category, maxLocals]; done) | rfl
theorem pn_com_example_precis_precis_display_NfcIsBelowCombiningMarksPinLaw : plainName "com/example/precis/precis/display/NfcIsBelowCombiningMarksPinLaw" = true := by first | (simp [plainName, overriddenIn]; done) | decide +kernel
theorem pd_oCcZ : parseMethodDescriptor "(C)Z" = some ⟨[.char], some .boolean⟩ := by decide +kernel
def Q0 (Z : State) (p1 : Int32) (p2 : Int32) (h0 : Heap) (n0 : Nat) (v : Option Value) (h : Heap) (L : List Loc) : Prop := v = some (.int (1 : Int32)) ∧ Fr n0 L
set_option maxRecDepth 65536 in
set_option maxHeartbeats 40000000 in
theorem rm0 (l : Launch) (Z : State) (a0 : Array Value) (hw : ∀ d ∈ tables_1, d.before a0 Z = true) (ws : List Jvm.Cond) (p1 : Int32) (p2 : Int32) (h0 : Heap) (n0 : Nat) (Z0 : n0 ≤ h0.size) :
    MetFree l x (head1 (Jvm.Cond.code x code maxLocals ret :: ws) room_1) (fun a U => a = #[(.int p1), (.int p2)] ∧ Z.Warmed39 U.vm ∧ U.heap = h0) (fun _ _ _ _ _ => True) (fun _ U o U' => ∃ v L, o = .returned v ∧ Q0 Z p1 p2 h0 n0 v U'.heap L ∧ FrameEnd U o U' L room_1.cells room_1.slots) := by
  refine MetFree.of_bodySF (plainFor_of_name pn_com_example_precis_precis_display_NfcIsBelowCombiningMarksPinLaw) hisR ?_
  intro p e s m args below meth c s₁ Bd hml0 hP hK
  obtain ⟨rfl, hZ, hh⟩ := hP
  have hx := Bd.exec
  have hby := Bd.bytes
  have hml : c.maxLocals = 11 := hml0
  have hown : s.vm.findClass "com/example/precis/precis/display/NfcIsBelowCombiningMarksPinLaw" = some m.cls := findClass_of_methodNamed Bd.named
  have hnm := (name_of_methodNamed Bd.named Bd.method).1
  have X0 : Stand p l e room_1 s m #[(.int p1), (.int p2)] below meth c s₁ [] 0 0 := Stand.of_body Bd
  have eh0 : s₁.heap = h0 := by rw [← hh, Bd.state]; rfl
  have N0 := Fr.nil n0
  have pre0 : ∀ t, Steps p.tables e below (s₁.setTop (mkF m 0 #[.val (.int p1), .val (.int p2), .unset, .unset, .unset, .unset, .unset, .unset, .unset, .unset, .unset] [])) t → Steps p.tables e below (s₁.setTop (entryFrame m #[(.int p1), (.int p2)] maxLocals)) t := fun t k => castTop (ef_0 m p1 p2) k
  have pre2 : ∀ t, Steps p.tables e below (s₁.setTop (mkF m 14 #[.val (.int p1), .val (.int p2), .val (.int (p1 &&& (65535 : Int32)).toUInt32.toUInt16.toUInt32.toInt32), .val (.int (p2 &&& (65535 : Int32)).toUInt32.toUInt16.toUInt32.toInt32), .unset, .unset, .unset, .unset, .unset, .unset, .unset] [(.int (p2 &&& (65535 : Int32)).toUInt32.toUInt16.toUInt32.toInt32), (.int (p1 &&& (65535 : Int32)).toUInt32.toUInt16.toUInt32.toInt32)])) t → Steps p.tables e below (s₁.setTop (entryFrame m #[(.int p1), (.int p2)] maxLocals)) t := fun t k => pre0 t (by
    show Steps p.tables e below (s₁.setTop (mkF m 0 #[.val (.int p1), .val (.int p2), .unset, .unset, .unset, .unset, .unset, .unset, .unset, .unset, .unset] [])) t
    refine XS.iloadN X0.here hx rfl (hb hby at_0) rfl ?_
    show Steps p.tables e below (s₁.setTop (mkF m 1 #[.val (.int p1), .val (.int p2), .unset, .unset, .unset, .unset, .unset, .unset, .unset, .unset, .unset] [(.int p1)])) t
    refine X0.ldcInt hx hown (mvT hZ (hw _ (List.mem_of_getElem? (i := 0) rfl))) (g := (mkF m 1 #[.val (.int p1), .val (.int p2), .unset, .unset, .unset, .unset, .unset, .unset, .unset, .unset, .unset] [(.int p1)])) rfl (hb hby at_1) _ ?_
    show Steps p.tables e below (s₁.setTop (mkF m 3 #[.val (.int p1), .val (.int p2), .unset, .unset, .unset, .unset, .unset, .unset, .unset, .unset, .unset] [(.int (65535 : Int32)), (.int p1)])) t
    refine XS.iand X0.here hx rfl (hb hby at_3) rfl ?_
    show Steps p.tables e below (s₁.setTop (mkF m 4 #[.val (.int p1), .val (.int p2), .unset, .unset, .unset, .unset, .unset, .unset, .unset, .unset, .unset] [(.int (p1 &&& (65535 : Int32)))])) t
    refine XT.i2c X0.here hx rfl (hb hby at_4) rfl ?_
    show Steps p.tables e below (s₁.setTop (mkF m 5 #[.val (.int p1), .val (.int p2), .unset, .unset, .unset, .unset, .unset, .unset, .unset, .unset, .unset] [(.int (p1 &&& (65535 : Int32)).toUInt32.toUInt16.toUInt32.toInt32)])) t
    refine XS.istoreN X0.here hx rfl (hb hby at_5) rfl (l' := #[.val (.int p1), .val (.int p2), .val (.int (p1 &&& (65535 : Int32)).toUInt32.toUInt16.toUInt32.toInt32), .unset, .unset, .unset, .unset, .unset, .unset, .unset, .unset]) rfl ?_
    show Steps p.tables e below (s₁.setTop (mkF m 6 #[.val (.int p1), .val (.int p2), .val (.int (p1 &&& (65535 : Int32)).toUInt32.toUInt16.toUInt32.toInt32), .unset, .unset, .unset, .unset, .unset, .unset, .unset, .unset] [])) t
    refine XS.iloadN X0.here hx rfl (hb hby at_6) rfl ?_
    show Steps p.tables e below (s₁.setTop (mkF m 7 #[.val (.int p1), .val (.int p2), .val (.int (p1 &&& (65535 : Int32)).toUInt32.toUInt16.toUInt32.toInt32), .unset, .unset, .unset, .unset, .unset, .unset, .unset, .unset] [(.int p2)])) t
    refine X0.ldcInt hx hown (mvT hZ (hw _ (List.mem_of_getElem? (i := 0) rfl))) (g := (mkF m 7 #[.val (.int p1), .val (.int p2), .val (.int (p1 &&& (65535 : Int32)).toUInt32.toUInt16.toUInt32.toInt32), .unset, .unset, .unset, .unset, .unset, .unset, .unset, .unset] [(.int p2)])) rfl (hb hby at_7) _ ?_
    show Steps p.tables e below (s₁.setTop (mkF m 9 #[.val (.int p1), .val (.int p2), .val (.int (p1 &&& (65535 : Int32)).toUInt32.toUInt16.toUInt32.toInt32), .unset, .unset, .unset, .unset, .unset, .unset, .unset, .unset] [(.int (65535 : Int32)), (.int p2)])) t
    refine XS.iand X0.here hx rfl (hb hby at_9) rfl ?_
    show Steps p.tables e below (s₁.setTop (mkF m 10 #[.val (.int p1), .val (.int p2), .val (.int (p1 &&& (65535 : Int32)).toUInt32.toUInt16.toUInt32.toInt32), .unset, .unset, .unset, .unset, .unset, .unset, .unset, .unset] [(.int (p2 &&& (65535 : Int32)))])) t
    refine XT.i2c X0.here hx rfl (hb hby at_10) rfl ?_
    show Steps p.tables e below (s₁.setTop (mkF m 11 #[.val (.int p1), .val (.int p2), .val (.int (p1 &&& (65535 : Int32)).toUInt32.toUInt16.toUInt32.toInt32), .unset, .unset, .unset, .unset, .unset, .unset, .unset, .unset] [(.int (p2 &&& (65535 : Int32)).toUInt32.toUInt16.toUInt32.toInt32)])) t
    refine XS.istoreN X0.here hx rfl (hb hby at_11) rfl (l' := #[.val (.int p1), .val (.int p2), .val (.int (p1 &&& (65535 : Int32)).toUInt32.toUInt16.toUInt32.toInt32), .val (.int (p2 &&& (65535 : Int32)).toUInt32.toUInt16.toUInt32.toInt32), .unset, .unset, .unset, .unset, .unset, .unset, .unset]) rfl ?_
    show Steps p.tables e below (s₁.setTop (mkF m 12 #[.val (.int p1), .val (.int p2), .val (.int (p1 &&& (65535 : Int32)).toUInt32.toUInt16.toUInt32.toInt32), .val (.int (p2 &&& (65535 : Int32)).toUInt32.toUInt16.toUInt32.toInt32), .unset, .unset, .unset, .unset, .unset, .unset, .unset] [])) t
    refine XS.iloadN X0.here hx rfl (hb hby at_12) rfl ?_
    show Steps p.tables e below (s₁.setTop (mkF m 13 #[.val (.int p1), .val (.int p2), .val (.int (p1 &&& (65535 : Int32)).toUInt32.toUInt16.toUInt32.toInt32), .val (.int (p2 &&& (65535 : Int32)).toUInt32.toUInt16.toUInt32.toInt32), .unset, .unset, .unset, .unset, .unset, .unset, .unset] [(.int (p1 &&& (65535 : Int32)).toUInt32.toUInt16.toUInt32.toInt32)])) t
    refine XS.iloadN X0.here hx rfl (hb hby at_13) rfl ?_
    show Steps p.tables e below (s₁.setTop (mkF m 14 #[.val (.int p1), .val (.int p2), .val (.int (p1 &&& (65535 : Int32)).toUInt32.toUInt16.toUInt32.toInt32), .val (.int (p2 &&& (65535 : Int32)).toUInt32.toUInt16.toUInt32.toInt32), .unset, .unset, .unset, .unset, .unset, .unset, .unset] [(.int (p2 &&& (65535 : Int32)).toUInt32.toUInt16.toUInt32.toInt32), (.int (p1 &&& (65535 : Int32)).toUInt32.toUInt16.toUInt32.toInt32)])) t
    exact k)
  by_cases hc14_1 : (p2 &&& (65535 : Int32)).toUInt32.toUInt16.toUInt32.toInt32 < (p1 &&& (65535 : Int32)).toUInt32.toUInt16.toUInt32.toInt32
  · skip
    have pre4 : ∀ t, Steps p.tables e below (s₁.setTop (mkF m 39 #[.val (.int p1), .val (.int p2), .val (.int (p1 &&& (65535 : Int32)).toUInt32.toUInt16.toUInt32.toInt32), .val (.int (p2 &&& (65535 : Int32)).toUInt32.toUInt16.toUInt32.toInt32), .val (.int (p2 &&& (65535 : Int32)).toUInt32.toUInt16.toUInt32.toInt32), .val (.int (p1 &&& (65535 : Int32)).toUInt32.toUInt16.toUInt32.toInt32), .unset, .unset, .unset, .unset, .unset] [(.int (767 : Int32))])) t → Steps p.tables e below (s₁.setTop (entryFrame m #[(.int p1), (.int p2)] maxLocals)) t := fun t k => pre2 t (by
      show Steps p.tables e below (s₁.setTop (mkF m 14 #[.val (.int p1), .val (.int p2), .val (.int (p1 &&& (65535 : Int32)).toUInt32.toUInt16.toUInt32.toInt32), .val (.int (p2 &&& (65535 : Int32)).toUInt32.toUInt16.toUInt32.toInt32), .unset, .unset, .unset, .unset, .unset, .unset, .unset] [(.int (p2 &&& (65535 : Int32)).toUInt32.toUInt16.toUInt32.toInt32), (.int (p1 &&& (65535 : Int32)).toUInt32.toUInt16.toUInt32.toInt32)])) t
      refine XS.icmpYes X0.here hx rfl (pc0 := 14) (pc' := 21) rfl (hb hby at_14) rfl (XT.ii_gt_t hc14_1) (by decide) (by decide) ?_
      show Steps p.tables e below (s₁.setTop (mkF m 21 #[.val (.int p1), .val (.int p2), .val (.int (p1 &&& (65535 : Int32)).toUInt32.toUInt16.toUInt32.toInt32), .val (.int (p2 &&& (65535 : Int32)).toUInt32.toUInt16.toUInt32.toInt32), .unset, .unset, .unset, .unset, .unset, .unset, .unset] [])) t
      refine XS.iloadN X0.here hx rfl (hb hby at_21) rfl ?_
      show Steps p.tables e below (s₁.setTop (mkF m 22 #[.val (.int p1), .val (.int p2), .val (.int (p1 &&& (65535 : Int32)).toUInt32.toUInt16.toUInt32.toInt32), .val (.int (p2 &&& (65535 : Int32)).toUInt32.toUInt16.toUInt32.toInt32), .unset, .unset, .unset, .unset, .unset, .unset, .unset] [(.int (p2 &&& (65535 : Int32)).toUInt32.toUInt16.toUInt32.toInt32)])) t
      refine XS.istore X0.here hx rfl (hb hby at_22) rfl (l' := #[.val (.int p1), .val (.int p2), .val (.int (p1 &&& (65535 : Int32)).toUInt32.toUInt16.toUInt32.toInt32), .val (.int (p2 &&& (65535 : Int32)).toUInt32.toUInt16.toUInt32.toInt32), .val (.int (p2 &&& (65535 : Int32)).toUInt32.toUInt16.toUInt32.toInt32), .unset, .unset, .unset, .unset, .unset, .unset]) rfl ?_
      show Steps p.tables e below (s₁.setTop (mkF m 24 #[.val (.int p1), .val (.int p2), .val (.int (p1 &&& (65535 : Int32)).toUInt32.toUInt16.toUInt32.toInt32), .val (.int (p2 &&& (65535 : Int32)).toUInt32.toUInt16.toUInt32.toInt32), .val (.int (p2 &&& (65535 : Int32)).toUInt32.toUInt16.toUInt32.toInt32), .unset, .unset, .unset, .unset, .unset, .unset] [])) t
      refine XS.iloadN X0.here hx rfl (hb hby at_24) rfl ?_
      show Steps p.tables e below (s₁.setTop (mkF m 25 #[.val (.int p1), .val (.int p2), .val (.int (p1 &&& (65535 : Int32)).toUInt32.toUInt16.toUInt32.toInt32), .val (.int (p2 &&& (65535 : Int32)).toUInt32.toUInt16.toUInt32.toInt32), .val (.int (p2 &&& (65535 : Int32)).toUInt32.toUInt16.toUInt32.toInt32), .unset, .unset, .unset, .unset, .unset, .unset] [(.int (p1 &&& (65535 : Int32)).toUInt32.toUInt16.toUInt32.toInt32)])) t
      refine XS.iloadN X0.here hx rfl (hb hby at_25) rfl ?_
      show Steps p.tables e below (s₁.setTop (mkF m 26 #[.val (.int p1), .val (.int p2), .val (.int (p1 &&& (65535 : Int32)).toUInt32.toUInt16.toUInt32.toInt32), .val (.int (p2 &&& (65535 : Int32)).toUInt32.toUInt16.toUInt32.toInt32), .val (.int (p2 &&& (65535 : Int32)).toUInt32.toUInt16.toUInt32.toInt32), .unset, .unset, .unset, .unset, .unset, .unset] [(.int (p2 &&& (65535 : Int32)).toUInt32.toUInt16.toUInt32.toInt32), (.int (p1 &&& (65535 : Int32)).toUInt32.toUInt16.toUInt32.toInt32)])) t
      refine XS.icmpYes X0.here hx rfl (pc0 := 26) (pc' := 33) rfl (hb hby at_26) rfl (XT.ii_gt_t (show (p2 &&& (65535 : Int32)).toUInt32.toUInt16.toUInt32.toInt32 < (p1 &&& (65535 : Int32)).toUInt32.toUInt16.toUInt32.toInt32 from hc14_1)) (by decide) (by decide) ?_
      show Steps p.tables e below (s₁.setTop (mkF m 33 #[.val (.int p1), .val (.int p2), .val (.int (p1 &&& (65535 : Int32)).toUInt32.toUInt16.toUInt32.toInt32), .val (.int (p2 &&& (65535 : Int32)).toUInt32.toUInt16.toUInt32.toInt32), .val (.int (p2 &&& (65535 : Int32)).toUInt32.toUInt16.toUInt32.toInt32), .unset, .unset, .unset, .unset, .unset, .unset] [])) t
      refine XS.iloadN X0.here hx rfl (hb hby at_33) rfl ?_
      show Steps p.tables e below (s₁.setTop (mkF m 34 #[.val (.int p1), .val (.int p2), .val (.int (p1 &&& (65535 : Int32)).toUInt32.toUInt16.toUInt32.toInt32), .val (.int (p2 &&& (65535 : Int32)).toUInt32.toUInt16.toUInt32.toInt32), .val (.int (p2 &&& (65535 : Int32)).toUInt32.toUInt16.toUInt32.toInt32), .unset, .unset, .unset, .unset, .unset, .unset] [(.int (p1 &&& (65535 : Int32)).toUInt32.toUInt16.toUInt32.toInt32)])) t
      refine XS.istore X0.here hx rfl (hb hby at_34) rfl (l' := #[.val (.int p1), .val (.int p2), .val (.int (p1 &&& (65535 : Int32)).toUInt32.toUInt16.toUInt32.toInt32), .val (.int (p2 &&& (65535 : Int32)).toUInt32.toUInt16.toUInt32.toInt32), .val (.int (p2 &&& (65535 : Int32)).toUInt32.toUInt16.toUInt32.toInt32), .val (.int (p1 &&& (65535 : Int32)).toUInt32.toUInt16.toUInt32.toInt32), .unset, .unset, .unset, .unset, .unset]) rfl ?_
      show Steps p.tables e below (s₁.setTop (mkF m 36 #[.val (.int p1), .val (.int p2), .val (.int (p1 &&& (65535 : Int32)).toUInt32.toUInt16.toUInt32.toInt32), .val (.int (p2 &&& (65535 : Int32)).toUInt32.toUInt16.toUInt32.toInt32), .val (.int (p2 &&& (65535 : Int32)).toUInt32.toUInt16.toUInt32.toInt32), .val (.int (p1 &&& (65535 : Int32)).toUInt32.toUInt16.toUInt32.toInt32), .unset, .unset, .unset, .unset, .unset] [])) t
      refine XS.sipush X0.here hx rfl (hb hby at_36) ?_
      show Steps p.tables e below (s₁.setTop (mkF m 39 #[.val (.int p1), .val (.int p2), .val (.int (p1 &&& (65535 : Int32)).toUInt32.toUInt16.toUInt32.toInt32), .val (.int (p2 &&& (65535 : Int32)).toUInt32.toUInt16.toUInt32.toInt32), .val (.int (p2 &&& (65535 : Int32)).toUInt32.toUInt16.toUInt32.toInt32), .val (.int (p1 &&& (65535 : Int32)).toUInt32.toUInt16.toUInt32.toInt32), .unset, .unset, .unset, .unset, .unset] [(.int (767 : Int32))])) t
      exact k)
    obtain ⟨_, _, ⟨T5, L5, k5, n5⟩, -, X5, ⟨Lc5, hQ5, l5, y5, z5⟩, st5⟩ := Jvm.LawKit.callS X0 hx (y := (⟨"com/example/precis/precis/display/Nfc", "isBelowCombiningMarks", "(C)Z"⟩ : MethodName)) hown (mvT hZ (hw _ (List.mem_of_getElem? (i := 1) rfl))) (mvT hZ (hw _ (List.mem_of_getElem? (i := 2) rfl))) (mvT hZ (hw _ (List.mem_of_getElem? (i := 3) rfl))) (mvT hZ (hw _ (List.mem_of_getElem? (i := 4) rfl))) (by decide) (backOf (W := 0) (rm1 l Z a0 hw [] (767 : Int32) h0 n0 Z0 ) hZ (hw _ (List.mem_of_getElem? (i := 4) rfl)) (hw _ (List.mem_of_getElem? (i := 3) rfl)) (by decide) (by decide)) (g := (mkF m 39 #[.val (.int p1), .val (.int p2), .val (.int (p1 &&& (65535 : Int32)).toUInt32.toUInt16.toUInt32.toInt32), .val (.int (p2 &&& (65535 : Int32)).toUInt32.toUInt16.toUInt32.toInt32), .val (.int (p2 &&& (65535 : Int32)).toUInt32.toUInt16.toUInt32.toInt32), .val (.int (p1 &&& (65535 : Int32)).toUInt32.toUInt16.toUInt32.toInt32), .unset, .unset, .unset, .unset, .unset] [(.int (767 : Int32))])) rfl (by rw [hml]; rfl) (argsL := [(.int (767 : Int32))]) (rest := []) (lenOf pd_oCcZ rfl) rfl (by show 2 * 0 + _ ≤ _; exact Nat.le_of_eq rfl) (hb hby at_39) (fun _ _ => ⟨rfl, eh0, (by decide : 0 + 0 ≤ _), (by decide : 0 + 0 ≤ _)⟩)
    dsimp only [Pt.U, Pt.locs, Pt.cells, Pt.slots] at X5 l5 y5 z5 st5 hQ5
    subst l5 y5 z5
    obtain ⟨rfl, N5q, eh5⟩ := hQ5
    have N5 := Fr.app N0 N5q
    have pre6 : ∀ t, Steps p.tables e below (T5.setTop (mkF m 42 #[.val (.int p1), .val (.int p2), .val (.int (p1 &&& (65535 : Int32)).toUInt32.toUInt16.toUInt32.toInt32), .val (.int (p2 &&& (65535 : Int32)).toUInt32.toUInt16.toUInt32.toInt32), .val (.int (p2 &&& (65535 : Int32)).toUInt32.toUInt16.toUInt32.toInt32), .val (.int (p1 &&& (65535 : Int32)).toUInt32.toUInt16.toUInt32.toInt32), .unset, .unset, .unset, .unset, .unset] [(.int (own_b (767 : Int32)))])) t → Steps p.tables e below (s₁.setTop (entryFrame m #[(.int p1), (.int p2)] maxLocals)) t := fun t k => pre4 t (st5 _ k)
    have pre7 : ∀ t, Steps p.tables e below (T5.setTop (mkF m 47 #[.val (.int p1), .val (.int p2), .val (.int (p1 &&& (65535 : Int32)).toUInt32.toUInt16.toUInt32.toInt32), .val (.int (p2 &&& (65535 : Int32)).toUInt32.toUInt16.toUInt32.toInt32), .val (.int (p2 &&& (65535 : Int32)).toUInt32.toUInt16.toUInt32.toInt32), .val (.int (p1 &&& (65535 : Int32)).toUInt32.toUInt16.toUInt32.toInt32), .val (.int (own_b (767 : Int32))), .unset, .unset, .unset, .unset] [(.int (768 : Int32))])) t → Steps p.tables e below (s₁.setTop (entryFrame m #[(.int p1), (.int p2)] maxLocals)) t := fun t k => pre6 t (by
      show Steps p.tables e below (T5.setTop (mkF m 42 #[.val (.int p1), .val (.int p2), .val (.int (p1 &&& (65535 : Int32)).toUInt32.toUInt16.toUInt32.toInt32), .val (.int (p2 &&& (65535 : Int32)).toUInt32.toUInt16.toUInt32.toInt32), .val (.int (p2 &&& (65535 : Int32)).toUInt32.toUInt16.toUInt32.toInt32), .val (.int (p1 &&& (65535 : Int32)).toUInt32.toUInt16.toUInt32.toInt32), .unset, .unset, .unset, .unset, .unset] [(.int (own_b (767 : Int32)))])) t
      refine XS.istore X5.here hx rfl (hb hby at_42) rfl (l' := #[.val (.int p1), .val (.int p2), .val (.int (p1 &&& (65535 : Int32)).toUInt32.toUInt16.toUInt32.toInt32), .val (.int (p2 &&& (65535 : Int32)).toUInt32.toUInt16.toUInt32.toInt32), .val (.int (p2 &&& (65535 : Int32)).toUInt32.toUInt16.toUInt32.toInt32), .val (.int (p1 &&& (65535 : Int32)).toUInt32.toUInt16.toUInt32.toInt32), .val (.int (own_b (767 : Int32))), .unset, .unset, .unset, .unset]) rfl ?_
      show Steps p.tables e below (T5.setTop (mkF m 44 #[.val (.int p1), .val (.int p2), .val (.int (p1 &&& (65535 : Int32)).toUInt32.toUInt16.toUInt32.toInt32), .val (.int (p2 &&& (65535 : Int32)).toUInt32.toUInt16.toUInt32.toInt32), .val (.int (p2 &&& (65535 : Int32)).toUInt32.toUInt16.toUInt32.toInt32), .val (.int (p1 &&& (65535 : Int32)).toUInt32.toUInt16.toUInt32.toInt32), .val (.int (own_b (767 : Int32))), .unset, .unset, .unset, .unset] [])) t
      refine XS.sipush X5.here hx rfl (hb hby at_44) ?_
      show Steps p.tables e below (T5.setTop (mkF m 47 #[.val (.int p1), .val (.int p2), .val (.int (p1 &&& (65535 : Int32)).toUInt32.toUInt16.toUInt32.toInt32), .val (.int (p2 &&& (65535 : Int32)).toUInt32.toUInt16.toUInt32.toInt32), .val (.int (p2 &&& (65535 : Int32)).toUInt32.toUInt16.toUInt32.toInt32), .val (.int (p1 &&& (65535 : Int32)).toUInt32.toUInt16.toUInt32.toInt32), .val (.int (own_b (767 : Int32))), .unset, .unset, .unset, .unset] [(.int (768 : Int32))])) t
      exact k)
    obtain ⟨_, _, ⟨T8, L8, k8, n8⟩, -, X8, ⟨Lc8, hQ8, l8, y8, z8⟩, st8⟩ := Jvm.LawKit.callS X5 hx (y := (⟨"com/example/precis/precis/display/Nfc", "isBelowCombiningMarks", "(C)Z"⟩ : MethodName)) hown (mvT hZ (hw _ (List.mem_of_getElem? (i := 1) rfl))) (mvT hZ (hw _ (List.mem_of_getElem? (i := 2) rfl))) (mvT hZ (hw _ (List.mem_of_getElem? (i := 3) rfl))) (mvT hZ (hw _ (List.mem_of_getElem? (i := 4) rfl))) (by decide) (backOf (W := 0) (rm1 l Z a0 hw [] (768 : Int32) h0 n0 Z0 ) hZ (hw _ (List.mem_of_getElem? (i := 4) rfl)) (hw _ (List.mem_of_getElem? (i := 3) rfl)) (by decide) (by decide)) (g := (mkF m 47 #[.val (.int p1), .val (.int p2), .val (.int (p1 &&& (65535 : Int32)).toUInt32.toUInt16.toUInt32.toInt32), .val (.int (p2 &&& (65535 : Int32)).toUInt32.toUInt16.toUInt32.toInt32), .val (.int (p2 &&& (65535 : Int32)).toUInt32.toUInt16.toUInt32.toInt32), .val (.int (p1 &&& (65535 : Int32)).toUInt32.toUInt16.toUInt32.toInt32), .val (.int (own_b (767 : Int32))), .unset, .unset, .unset, .unset] [(.int (768 : Int32))])) rfl (by rw [hml]; rfl) (argsL := [(.int (768 : Int32))]) (rest := []) (lenOf pd_oCcZ rfl) rfl (by show 2 * 0 + _ ≤ _; exact Nat.le_of_eq rfl) (hb hby at_47) (fun _ _ => ⟨rfl, eh5, (by decide : 0 + 0 ≤ _), (by decide : 0 + 0 ≤ _)⟩)
    dsimp only [Pt.U, Pt.locs, Pt.cells, Pt.slots] at X8 l8 y8 z8 st8 hQ8
    subst l8 y8 z8
    obtain ⟨rfl, N8q, eh8⟩ := hQ8
    have N8 := Fr.app N5 N8q
    have pre9 : ∀ t, Steps p.tables e below (T8.setTop (mkF m 50 #[.val (.int p1), .val (.int p2), .val (.int (p1 &&& (65535 : Int32)).toUInt32.toUInt16.toUInt32.toInt32), .val (.int (p2 &&& (65535 : Int32)).toUInt32.toUInt16.toUInt32.toInt32), .val (.int (p2 &&& (65535 : Int32)).toUInt32.toUInt16.toUInt32.toInt32), .val (.int (p1 &&& (65535 : Int32)).toUInt32.toUInt16.toUInt32.toInt32), .val (.int (own_b (767 : Int32))), .unset, .unset, .unset, .unset] [(.int (own_b (768 : Int32)))])) t → Steps p.tables e below (s₁.setTop (entryFrame m #[(.int p1), (.int p2)] maxLocals)) t := fun t k => pre7 t (st8 _ k)
    have pre10 : ∀ t, Steps p.tables e below (T8.setTop (mkF m 54 #[.val (.int p1), .val (.int p2), .val (.int (p1 &&& (65535 : Int32)).toUInt32.toUInt16.toUInt32.toInt32), .val (.int (p2 &&& (65535 : Int32)).toUInt32.toUInt16.toUInt32.toInt32), .val (.int (p2 &&& (65535 : Int32)).toUInt32.toUInt16.toUInt32.toInt32), .val (.int (p1 &&& (65535 : Int32)).toUInt32.toUInt16.toUInt32.toInt32), .val (.int (own_b (767 : Int32))), .val (.int (own_b (768 : Int32))), .unset, .unset, .unset] [(.int (p1 &&& (65535 : Int32)).toUInt32.toUInt16.toUInt32.toInt32)])) t → Steps p.tables e below (s₁.setTop (entryFrame m #[(.int p1), (.int p2)] maxLocals)) t := fun t k => pre9 t (by
      show Steps p.tables e below (T8.setTop (mkF m 50 #[.val (.int p1), .val (.int p2), .val (.int (p1 &&& (65535 : Int32)).toUInt32.toUInt16.toUInt32.toInt32), .val (.int (p2 &&& (65535 : Int32)).toUInt32.toUInt16.toUInt32.toInt32), .val (.int (p2 &&& (65535 : Int32)).toUInt32.toUInt16.toUInt32.toInt32), .val (.int (p1 &&& (65535 : Int32)).toUInt32.toUInt16.toUInt32.toInt32), .val (.int (own_b (767 : Int32))), .unset, .unset, .unset, .unset] [(.int (own_b (768 : Int32)))])) t
      refine XS.istore X8.here hx rfl (hb hby at_50) rfl (l' := #[.val (.int p1), .val (.int p2), .val (.int (p1 &&& (65535 : Int32)).toUInt32.toUInt16.toUInt32.toInt32), .val (.int (p2 &&& (65535 : Int32)).toUInt32.toUInt16.toUInt32.toInt32), .val (.int (p2 &&& (65535 : Int32)).toUInt32.toUInt16.toUInt32.toInt32), .val (.int (p1 &&& (65535 : Int32)).toUInt32.toUInt16.toUInt32.toInt32), .val (.int (own_b (767 : Int32))), .val (.int (own_b (768 : Int32))), .unset, .unset, .unset]) rfl ?_
      show Steps p.tables e below (T8.setTop (mkF m 52 #[.val (.int p1), .val (.int p2), .val (.int (p1 &&& (65535 : Int32)).toUInt32.toUInt16.toUInt32.toInt32), .val (.int (p2 &&& (65535 : Int32)).toUInt32.toUInt16.toUInt32.toInt32), .val (.int (p2 &&& (65535 : Int32)).toUInt32.toUInt16.toUInt32.toInt32), .val (.int (p1 &&& (65535 : Int32)).toUInt32.toUInt16.toUInt32.toInt32), .val (.int (own_b (767 : Int32))), .val (.int (own_b (768 : Int32))), .unset, .unset, .unset] [])) t
      refine XS.iload X8.here hx rfl (hb hby at_52) rfl ?_
      show Steps p.tables e below (T8.setTop (mkF m 54 #[.val (.int p1), .val (.int p2), .val (.int (p1 &&& (65535 : Int32)).toUInt32.toUInt16.toUInt32.toInt32), .val (.int (p2 &&& (65535 : Int32)).toUInt32.toUInt16.toUInt32.toInt32), .val (.int (p2 &&& (65535 : Int32)).toUInt32.toUInt16.toUInt32.toInt32), .val (.int (p1 &&& (65535 : Int32)).toUInt32.toUInt16.toUInt32.toInt32), .val (.int (own_b (767 : Int32))), .val (.int (own_b (768 : Int32))), .unset, .unset, .unset] [(.int (p1 &&& (65535 : Int32)).toUInt32.toUInt16.toUInt32.toInt32)])) t
      exact k)
    obtain ⟨_, _, ⟨T11, L11, k11, n11⟩, -, X11, ⟨Lc11, hQ11, l11, y11, z11⟩, st11⟩ := Jvm.LawKit.callS X8 hx (y := (⟨"com/example/precis/precis/display/Nfc", "isBelowCombiningMarks", "(C)Z"⟩ : MethodName)) hown (mvT hZ (hw _ (List.mem_of_getElem? (i := 1) rfl))) (mvT hZ (hw _ (List.mem_of_getElem? (i := 2) rfl))) (mvT hZ (hw _ (List.mem_of_getElem? (i := 3) rfl))) (mvT hZ (hw _ (List.mem_of_getElem? (i := 4) rfl))) (by decide) (backOf (W := 0) (rm1 l Z a0 hw [] ((p1 &&& (65535 : Int32)).toUInt32.toUInt16.toUInt32.toInt32) h0 n0 Z0 ) hZ (hw _ (List.mem_of_getElem? (i := 4) rfl)) (hw _ (List.mem_of_getElem? (i := 3) rfl)) (by decide) (by decide)) (g := (mkF m 54 #[.val (.int p1), .val (.int p2), .val (.int (p1 &&& (65535 : Int32)).toUInt32.toUInt16.toUInt32.toInt32), .val (.int (p2 &&& (65535 : Int32)).toUInt32.toUInt16.toUInt32.toInt32), .val (.int (p2 &&& (65535 : Int32)).toUInt32.toUInt16.toUInt32.toInt32), .val (.int (p1 &&& (65535 : Int32)).toUInt32.toUInt16.toUInt32.toInt32), .val (.int (own_b (767 : Int32))), .val (.int (own_b (768 : Int32))), .unset, .unset, .unset] [(.int (p1 &&& (65535 : Int32)).toUInt32.toUInt16.toUInt32.toInt32)])) rfl (by rw [hml]; rfl) (argsL := [(.int (p1 &&& (65535 : Int32)).toUInt32.toUInt16.toUInt32.toInt32)]) (rest := []) (lenOf pd_oCcZ rfl) rfl (by show 2 * 0 + _ ≤ _; exact Nat.le_of_eq rfl) (hb hby at_54) (fun _ _ => ⟨rfl, eh8, (by decide : 0 + 0 ≤ _), (by decide : 0 + 0 ≤ _)⟩)
    dsimp only [Pt.U, Pt.locs, Pt.cells, Pt.slots] at X11 l11 y11 z11 st11 hQ11
    subst l11 y11 z11
    obtain ⟨rfl, N11q, eh11⟩ := hQ11
    have N11 := Fr.app N8 N11q
    have pre12 : ∀ t, Steps p.tables e below (T11.setTop (mkF m 57 #[.val (.int p1), .val (.int p2), .val (.int (p1 &&& (65535 : Int32)).toUInt32.toUInt16.toUInt32.toInt32), .val (.int (p2 &&& (65535 : Int32)).toUInt32.toUInt16.toUInt32.toInt32), .val (.int (p2 &&& (65535 : Int32)).toUInt32.toUInt16.toUInt32.toInt32), .val (.int (p1 &&& (65535 : Int32)).toUInt32.toUInt16.toUInt32.toInt32), .val (.int (own_b (767 : Int32))), .val (.int (own_b (768 : Int32))), .unset, .unset, .unset] [(.int (own_b (p1 &&& (65535 : Int32)).toUInt32.toUInt16.toUInt32.toInt32))])) t → Steps p.tables e below (s₁.setTop (entryFrame m #[(.int p1), (.int p2)] maxLocals)) t := fun t k => pre10 t (st11 _ k)
    have pre13 : ∀ t, Steps p.tables e below (T11.setTop (mkF m 61 #[.val (.int p1), .val (.int p2), .val (.int (p1 &&& (65535 : Int32)).toUInt32.toUInt16.toUInt32.toInt32), .val (.int (p2 &&& (65535 : Int32)).toUInt32.toUInt16.toUInt32.toInt32), .val (.int (p2 &&& (65535 : Int32)).toUInt32.toUInt16.toUInt32.toInt32), .val (.int (p1 &&& (65535 : Int32)).toUInt32.toUInt16.toUInt32.toInt32), .val (.int (own_b (767 : Int32))), .val (.int (own_b (768 : Int32))), .val (.int (own_b (p1 &&& (65535 : Int32)).toUInt32.toUInt16.toUInt32.toInt32)), .unset, .unset] [(.int (p2 &&& (65535 : Int32)).toUInt32.toUInt16.toUInt32.toInt32)])) t → Steps p.tables e below (s₁.setTop (entryFrame m #[(.int p1), (.int p2)] maxLocals)) t := fun t k => pre12 t (by
      show Steps p.tables e below (T11.setTop (mkF m 57 #[.val (.int p1), .val (.int p2), .val (.int (p1 &&& (65535 : Int32)).toUInt32.toUInt16.toUInt32.toInt32), .val (.int (p2 &&& (65535 : Int32)).toUInt32.toUInt16.toUInt32.toInt32), .val (.int (p2 &&& (65535 : Int32)).toUInt32.toUInt16.toUInt32.toInt32), .val (.int (p1 &&& (65535 : Int32)).toUInt32.toUInt16.toUInt32.toInt32), .val (.int (own_b (767 : Int32))), .val (.int (own_b (768 : Int32))), .unset, .unset, .unset] [(.int (own_b (p1 &&& (65535 : Int32)).toUInt32.toUInt16.toUInt32.toInt32))])) t
      refine XS.istore X11.here hx rfl (hb hby at_57) rfl (l' := #[.val (.int p1), .val (.int p2), .val (.int (p1 &&& (65535 : Int32)).toUInt32.toUInt16.toUInt32.toInt32), .val (.int (p2 &&& (65535 : Int32)).toUInt32.toUInt16.toUInt32.toInt32), .val (.int (p2 &&& (65535 : Int32)).toUInt32.toUInt16.toUInt32.toInt32), .val (.int (p1 &&& (65535 : Int32)).toUInt32.toUInt16.toUInt32.toInt32), .val (.int (own_b (767 : Int32))), .val (.int (own_b (768 : Int32))), .val (.int (own_b (p1 &&& (65535 : Int32)).toUInt32.toUInt16.toUInt32.toInt32)), .unset, .unset]) rfl ?_
      show Steps p.tables e below (T11.setTop (mkF m 59 #[.val (.int p1), .val (.int p2), .val (.int (p1 &&& (65535 : Int32)).toUInt32.toUInt16.toUInt32.toInt32), .val (.int (p2 &&& (65535 : Int32)).toUInt32.toUInt16.toUInt32.toInt32), .val (.int (p2 &&& (65535 : Int32)).toUInt32.toUInt16.toUInt32.toInt32), .val (.int (p1 &&& (65535 : Int32)).toUInt32.toUInt16.toUInt32.toInt32), .val (.int (own_b (767 : Int32))), .val (.int (own_b (768 : Int32))), .val (.int (own_b (p1 &&& (65535 : Int32)).toUInt32.toUInt16.toUInt32.toInt32)), .unset, .unset] [])) t
      refine XS.iload X11.here hx rfl (hb hby at_59) rfl ?_
      show Steps p.tables e below (T11.setTop (mkF m 61 #[.val (.int p1), .val (.int p2), .val (.int (p1 &&& (65535 : Int32)).toUInt32.toUInt16.toUInt32.toInt32), .val (.int (p2 &&& (65535 : Int32)).toUInt32.toUInt16.toUInt32.toInt32), .val (.int (p2 &&& (65535 : Int32)).toUInt32.toUInt16.toUInt32.toInt32), .val (.int (p1 &&& (65535 : Int32)).toUInt32.toUInt16.toUInt32.toInt32), .val (.int (own_b (767 : Int32))), .val (.int (own_b (768 : Int32))), .val (.int (own_b (p1 &&& (65535 : Int32)).toUInt32.toUInt16.toUInt32.toInt32)), .unset, .unset] [(.int (p2 &&& (65535 : Int32)).toUInt32.toUInt16.toUInt32.toInt32)])) t
      exact k)
    obtain ⟨_, _, ⟨T14, L14, k14, n14⟩, -, X14, ⟨Lc14, hQ14, l14, y14, z14⟩, st14⟩ := Jvm.LawKit.callS X11 hx (y := (⟨"com/example/precis/precis/display/Nfc", "isBelowCombiningMarks", "(C)Z"⟩ : MethodName)) hown (mvT hZ (hw _ (List.mem_of_getElem? (i := 1) rfl))) (mvT hZ (hw _ (List.mem_of_getElem? (i := 2) rfl))) (mvT hZ (hw _ (List.mem_of_getElem? (i := 3) rfl))) (mvT hZ (hw _ (List.mem_of_getElem? (i := 4) rfl))) (by decide) (backOf (W := 0) (rm1 l Z a0 hw [] ((p2 &&& (65535 : Int32)).toUInt32.toUInt16.toUInt32.toInt32) h0 n0 Z0 ) hZ (hw _ (List.mem_of_getElem? (i := 4) rfl)) (hw _ (List.mem_of_getElem? (i := 3) rfl)) (by decide) (by decide)) (g := (mkF m 61 #[.val (.int p1), .val (.int p2), .val (.int (p1 &&& (65535 : Int32)).toUInt32.toUInt16.toUInt32.toInt32), .val (.int (p2 &&& (65535 : Int32)).toUInt32.toUInt16.toUInt32.toInt32), .val (.int (p2 &&& (65535 : Int32)).toUInt32.toUInt16.toUInt32.toInt32), .val (.int (p1 &&& (65535 : Int32)).toUInt32.toUInt16.toUInt32.toInt32), .val (.int (own_b (767 : Int32))), .val (.int (own_b (768 : Int32))), .val (.int (own_b (p1 &&& (65535 : Int32)).toUInt32.toUInt16.toUInt32.toInt32)), .unset, .unset] [(.int (p2 &&& (65535 : Int32)).toUInt32.toUInt16.toUInt32.toInt32)])) rfl (by rw [hml]; rfl) (argsL := [(.int (p2 &&& (65535 : Int32)).toUInt32.toUInt16.toUInt32.toInt32)]) (rest := []) (lenOf pd_oCcZ rfl) rfl (by show 2 * 0 + _ ≤ _; exact Nat.le_of_eq rfl) (hb hby at_61) (fun _ _ => ⟨rfl, eh11, (by decide : 0 + 0 ≤ _), (by decide : 0 + 0 ≤ _)⟩)
    dsimp only [Pt.U, Pt.locs, Pt.cells, Pt.slots] at X14 l14 y14 z14 st14 hQ14
    subst l14 y14 z14
    obtain ⟨rfl, N14q, eh14⟩ := hQ14
    have N14 := Fr.app N11 N14q
    have pre15 : ∀ t, Steps p.tables e below (T14.setTop (mkF m 64 #[.val (.int p1), .val (.int p2), .val (.int (p1 &&& (65535 : Int32)).toUInt32.toUInt16.toUInt32.toInt32), .val (.int (p2 &&& (65535 : Int32)).toUInt32.toUInt16.toUInt32.toInt32), .val (.int (p2 &&& (65535 : Int32)).toUInt32.toUInt16.toUInt32.toInt32), .val (.int (p1 &&& (65535 : Int32)).toUInt32.toUInt16.toUInt32.toInt32), .val (.int (own_b (767 : Int32))), .val (.int (own_b (768 : Int32))), .val (.int (own_b (p1 &&& (65535 : Int32)).toUInt32.toUInt16.toUInt32.toInt32)), .unset, .unset] [(.int (own_b (p2 &&& (65535 : Int32)).toUInt32.toUInt16.toUInt32.toInt32))])) t → Steps p.tables e below (s₁.setTop (entryFrame m #[(.int p1), (.int p2)] maxLocals)) t := fun t k => pre13 t (st14 _ k)
    have pre17 : ∀ t, Steps p.tables e below (T14.setTop (mkF m 68 #[.val (.int p1), .val (.int p2), .val (.int (p1 &&& (65535 : Int32)).toUInt32.toUInt16.toUInt32.toInt32), .val (.int (p2 &&& (65535 : Int32)).toUInt32.toUInt16.toUInt32.toInt32), .val (.int (p2 &&& (65535 : Int32)).toUInt32.toUInt16.toUInt32.toInt32), .val (.int (p1 &&& (65535 : Int32)).toUInt32.toUInt16.toUInt32.toInt32), .val (.int (own_b (767 : Int32))), .val (.int (own_b (768 : Int32))), .val (.int (own_b (p1 &&& (65535 : Int32)).toUInt32.toUInt16.toUInt32.toInt32)), .val (.int (own_b (p2 &&& (65535 : Int32)).toUInt32.toUInt16.toUInt32.toInt32)), .unset] [(.int (own_b (p1 &&& (65535 : Int32)).toUInt32.toUInt16.toUInt32.toInt32))])) t → Steps p.tables e below (s₁.setTop (entryFrame m #[(.int p1), (.int p2)] maxLocals)) t := fun t k => pre15 t (by
      show Steps p.tables e below (T14.setTop (mkF m 64 #[.val (.int p1), .val (.int p2), .val (.int (p1 &&& (65535 : Int32)).toUInt32.toUInt16.toUInt32.toInt32), .val (.int (p2 &&& (65535 : Int32)).toUInt32.toUInt16.toUInt32.toInt32), .val (.int (p2 &&& (65535 : Int32)).toUInt32.toUInt16.toUInt32.toInt32), .val (.int (p1 &&& (65535 : Int32)).toUInt32.toUInt16.toUInt32.toInt32), .val (.int (own_b (767 : Int32))), .val (.int (own_b (768 : Int32))), .val (.int (own_b (p1 &&& (65535 : Int32)).toUInt32.toUInt16.toUInt32.toInt32)), .unset, .unset] [(.int (own_b (p2 &&& (65535 : Int32)).toUInt32.toUInt16.toUInt32.toInt32))])) t
      refine XS.istore X14.here hx rfl (hb hby at_64) rfl (l' := #[.val (.int p1), .val (.int p2), .val (.int (p1 &&& (65535 : Int32)).toUInt32.toUInt16.toUInt32.toInt32), .val (.int (p2 &&& (65535 : Int32)).toUInt32.toUInt16.toUInt32.toInt32), .val (.int (p2 &&& (65535 : Int32)).toUInt32.toUInt16.toUInt32.toInt32), .val (.int (p1 &&& (65535 : Int32)).toUInt32.toUInt16.toUInt32.toInt32), .val (.int (own_b (767 : Int32))), .val (.int (own_b (768 : Int32))), .val (.int (own_b (p1 &&& (65535 : Int32)).toUInt32.toUInt16.toUInt32.toInt32)), .val (.int (own_b (p2 &&& (65535 : Int32)).toUInt32.toUInt16.toUInt32.toInt32)), .unset]) rfl ?_
      show Steps p.tables e below (T14.setTop (mkF m 66 #[.val (.int p1), .val (.int p2), .val (.int (p1 &&& (65535 : Int32)).toUInt32.toUInt16.toUInt32.toInt32), .val (.int (p2 &&& (65535 : Int32)).toUInt32.toUInt16.toUInt32.toInt32), .val (.int (p2 &&& (65535 : Int32)).toUInt32.toUInt16.toUInt32.toInt32), .val (.int (p1 &&& (65535 : Int32)).toUInt32.toUInt16.toUInt32.toInt32), .val (.int (own_b (767 : Int32))), .val (.int (own_b (768 : Int32))), .val (.int (own_b (p1 &&& (65535 : Int32)).toUInt32.toUInt16.toUInt32.toInt32)), .val (.int (own_b (p2 &&& (65535 : Int32)).toUInt32.toUInt16.toUInt32.toInt32)), .unset] [])) t
      refine XS.iload X14.here hx rfl (hb hby at_66) rfl ?_
      show Steps p.tables e below (T14.setTop (mkF m 68 #[.val (.int p1), .val (.int p2), .val (.int (p1 &&& (65535 : Int32)).toUInt32.toUInt16.toUInt32.toInt32), .val (.int (p2 &&& (65535 : Int32)).toUInt32.toUInt16.toUInt32.toInt32), .val (.int (p2 &&& (65535 : Int32)).toUInt32.toUInt16.toUInt32.toInt32), .val (.int (p1 &&& (65535 : Int32)).toUInt32.toUInt16.toUInt32.toInt32), .val (.int (own_b (767 : Int32))), .val (.int (own_b (768 : Int32))), .val (.int (own_b (p1 &&& (65535 : Int32)).toUInt32.toUInt16.toUInt32.toInt32)), .val (.int (own_b (p2 &&& (65535 : Int32)).toUInt32.toUInt16.toUInt32.toInt32)), .unset] [(.int (own_b (p1 &&& (65535 : Int32)).toUInt32.toUInt16.toUInt32.toInt32))])) t
      exact k)
    by_cases hc68_16 : (own_b (p1 &&& (65535 : Int32)).toUInt32.toUInt16.toUInt32.toInt32) = (0 : Int32)
    · skip
      have pre21 : ∀ t, Steps p.tables e below (T14.setTop (mkF m 103 #[.val (.int p1), .val (.int p2), .val (.int (p1 &&& (65535 : Int32)).toUInt32.toUInt16.toUInt32.toInt32), .val (.int (p2 &&& (65535 : Int32)).toUInt32.toUInt16.toUInt32.toInt32), .val (.int (p2 &&& (65535 : Int32)).toUInt32.toUInt16.toUInt32.toInt32), .val (.int (p1 &&& (65535 : Int32)).toUInt32.toUInt16.toUInt32.toInt32), .val (.int (own_b (767 : Int32))), .val (.int (own_b (768 : Int32))), .val (.int (own_b (p1 &&& (65535 : Int32)).toUInt32.toUInt16.toUInt32.toInt32)), .val (.int (own_b (p2 &&& (65535 : Int32)).toUInt32.toUInt16.toUInt32.toInt32)), .val (.int (1 : Int32))] [(.int (1 : Int32))])) t → Steps p.tables e below (s₁.setTop (entryFrame m #[(.int p1), (.int p2)] maxLocals)) t := fun t k => pre17 t (by
        show Steps p.tables e below (T14.setTop (mkF m 68 #[.val (.int p1), .val (.int p2), .val (.int (p1 &&& (65535 : Int32)).toUInt32.toUInt16.toUInt32.toInt32), .val (.int (p2 &&& (65535 : Int32)).toUInt32.toUInt16.toUInt32.toInt32), .val (.int (p2 &&& (65535 : Int32)).toUInt32.toUInt16.toUInt32.toInt32), .val (.int (p1 &&& (65535 : Int32)).toUInt32.toUInt16.toUInt32.toInt32), .val (.int (own_b (767 : Int32))), .val (.int (own_b (768 : Int32))), .val (.int (own_b (p1 &&& (65535 : Int32)).toUInt32.toUInt16.toUInt32.toInt32)), .val (.int (own_b (p2 &&& (65535 : Int32)).toUInt32.toUInt16.toUInt32.toInt32)), .unset] [(.int (own_b (p1 &&& (65535 : Int32)).toUInt32.toUInt16.toUInt32.toInt32))])) t
        refine XS.ifYes X14.here hx rfl (pc0 := 68) (pc' := 76) rfl (hb hby at_68) rfl (XT.i0_eq_t hc68_16) (by decide) (by decide) ?_
        show Steps p.tables e below (T14.setTop (mkF m 76 #[.val (.int p1), .val (.int p2), .val (.int (p1 &&& (65535 : Int32)).toUInt32.toUInt16.toUInt32.toInt32), .val (.int (p2 &&& (65535 : Int32)).toUInt32.toUInt16.toUInt32.toInt32), .val (.int (p2 &&& (65535 : Int32)).toUInt32.toUInt16.toUInt32.toInt32), .val (.int (p1 &&& (65535 : Int32)).toUInt32.toUInt16.toUInt32.toInt32), .val (.int (own_b (767 : Int32))), .val (.int (own_b (768 : Int32))), .val (.int (own_b (p1 &&& (65535 : Int32)).toUInt32.toUInt16.toUInt32.toInt32)), .val (.int (own_b (p2 &&& (65535 : Int32)).toUInt32.toUInt16.toUInt32.toInt32)), .unset] [])) t
        refine XS.iconst X14.here hx rfl (hb hby at_76) ?_
        show Steps p.tables e below (T14.setTop (mkF m 77 #[.val (.int p1), .val (.int p2), .val (.int (p1 &&& (65535 : Int32)).toUInt32.toUInt16.toUInt32.toInt32), .val (.int (p2 &&& (65535 : Int32)).toUInt32.toUInt16.toUInt32.toInt32), .val (.int (p2 &&& (65535 : Int32)).toUInt32.toUInt16.toUInt32.toInt32), .val (.int (p1 &&& (65535 : Int32)).toUInt32.toUInt16.toUInt32.toInt32), .val (.int (own_b (767 : Int32))), .val (.int (own_b (768 : Int32))), .val (.int (own_b (p1 &&& (65535 : Int32)).toUInt32.toUInt16.toUInt32.toInt32)), .val (.int (own_b (p2 &&& (65535 : Int32)).toUInt32.toUInt16.toUInt32.toInt32)), .unset] [(.int (1 : Int32))])) t
        refine XS.goto X14.here hx rfl (pc0 := 77) (pc' := 81) rfl (hb hby at_77) (by decide) (by decide) ?_
        show Steps p.tables e below (T14.setTop (mkF m 81 #[.val (.int p1), .val (.int p2), .val (.int (p1 &&& (65535 : Int32)).toUInt32.toUInt16.toUInt32.toInt32), .val (.int (p2 &&& (65535 : Int32)).toUInt32.toUInt16.toUInt32.toInt32), .val (.int (p2 &&& (65535 : Int32)).toUInt32.toUInt16.toUInt32.toInt32), .val (.int (p1 &&& (65535 : Int32)).toUInt32.toUInt16.toUInt32.toInt32), .val (.int (own_b (767 : Int32))), .val (.int (own_b (768 : Int32))), .val (.int (own_b (p1 &&& (65535 : Int32)).toUInt32.toUInt16.toUInt32.toInt32)), .val (.int (own_b (p2 &&& (65535 : Int32)).toUInt32.toUInt16.toUInt32.toInt32)), .unset] [(.int (1 : Int32))])) t
        refine XS.istore X14.here hx rfl (hb hby at_81) rfl (l' := #[.val (.int p1), .val (.int p2), .val (.int (p1 &&& (65535 : Int32)).toUInt32.toUInt16.toUInt32.toInt32), .val (.int (p2 &&& (65535 : Int32)).toUInt32.toUInt16.toUInt32.toInt32), .val (.int (p2 &&& (65535 : Int32)).toUInt32.toUInt16.toUInt32.toInt32), .val (.int (p1 &&& (65535 : Int32)).toUInt32.toUInt16.toUInt32.toInt32), .val (.int (own_b (767 : Int32))), .val (.int (own_b (768 : Int32))), .val (.int (own_b (p1 &&& (65535 : Int32)).toUInt32.toUInt16.toUInt32.toInt32)), .val (.int (own_b (p2 &&& (65535 : Int32)).toUInt32.toUInt16.toUInt32.toInt32)), .val (.int (1 : Int32))]) rfl ?_
        show Steps p.tables e below (T14.setTop (mkF m 83 #[.val (.int p1), .val (.int p2), .val (.int (p1 &&& (65535 : Int32)).toUInt32.toUInt16.toUInt32.toInt32), .val (.int (p2 &&& (65535 : Int32)).toUInt32.toUInt16.toUInt32.toInt32), .val (.int (p2 &&& (65535 : Int32)).toUInt32.toUInt16.toUInt32.toInt32), .val (.int (p1 &&& (65535 : Int32)).toUInt32.toUInt16.toUInt32.toInt32), .val (.int (own_b (767 : Int32))), .val (.int (own_b (768 : Int32))), .val (.int (own_b (p1 &&& (65535 : Int32)).toUInt32.toUInt16.toUInt32.toInt32)), .val (.int (own_b (p2 &&& (65535 : Int32)).toUInt32.toUInt16.toUInt32.toInt32)), .val (.int (1 : Int32))] [])) t
        refine XS.iload X14.here hx rfl (hb hby at_83) rfl ?_
        show Steps p.tables e below (T14.setTop (mkF m 85 #[.val (.int p1), .val (.int p2), .val (.int (p1 &&& (65535 : Int32)).toUInt32.toUInt16.toUInt32.toInt32), .val (.int (p2 &&& (65535 : Int32)).toUInt32.toUInt16.toUInt32.toInt32), .val (.int (p2 &&& (65535 : Int32)).toUInt32.toUInt16.toUInt32.toInt32), .val (.int (p1 &&& (65535 : Int32)).toUInt32.toUInt16.toUInt32.toInt32), .val (.int (own_b (767 : Int32))), .val (.int (own_b (768 : Int32))), .val (.int (own_b (p1 &&& (65535 : Int32)).toUInt32.toUInt16.toUInt32.toInt32)), .val (.int (own_b (p2 &&& (65535 : Int32)).toUInt32.toUInt16.toUInt32.toInt32)), .val (.int (1 : Int32))] [(.int (own_b (767 : Int32)))])) t
        refine XS.ifNo X14.here hx rfl (hb hby at_85) rfl (XT.i0_eq_f (show ¬ ((own_b (767 : Int32)) = (0 : Int32)) from by decide)) ?_
        show Steps p.tables e below (T14.setTop (mkF m 88 #[.val (.int p1), .val (.int p2), .val (.int (p1 &&& (65535 : Int32)).toUInt32.toUInt16.toUInt32.toInt32), .val (.int (p2 &&& (65535 : Int32)).toUInt32.toUInt16.toUInt32.toInt32), .val (.int (p2 &&& (65535 : Int32)).toUInt32.toUInt16.toUInt32.toInt32), .val (.int (p1 &&& (65535 : Int32)).toUInt32.toUInt16.toUInt32.toInt32), .val (.int (own_b (767 : Int32))), .val (.int (own_b (768 : Int32))), .val (.int (own_b (p1 &&& (65535 : Int32)).toUInt32.toUInt16.toUInt32.toInt32)), .val (.int (own_b (p2 &&& (65535 : Int32)).toUInt32.toUInt16.toUInt32.toInt32)), .val (.int (1 : Int32))] [])) t
        refine XS.iload X14.here hx rfl (hb hby at_88) rfl ?_
        show Steps p.tables e below (T14.setTop (mkF m 90 #[.val (.int p1), .val (.int p2), .val (.int (p1 &&& (65535 : Int32)).toUInt32.toUInt16.toUInt32.toInt32), .val (.int (p2 &&& (65535 : Int32)).toUInt32.toUInt16.toUInt32.toInt32), .val (.int (p2 &&& (65535 : Int32)).toUInt32.toUInt16.toUInt32.toInt32), .val (.int (p1 &&& (65535 : Int32)).toUInt32.toUInt16.toUInt32.toInt32), .val (.int (own_b (767 : Int32))), .val (.int (own_b (768 : Int32))), .val (.int (own_b (p1 &&& (65535 : Int32)).toUInt32.toUInt16.toUInt32.toInt32)), .val (.int (own_b (p2 &&& (65535 : Int32)).toUInt32.toUInt16.toUInt32.toInt32)), .val (.int (1 : Int32))] [(.int (own_b (768 : Int32)))])) t
        refine XS.ifNo X14.here hx rfl (hb hby at_90) rfl (XT.i0_ne_f (show (own_b (768 : Int32)) = (0 : Int32) from by decide)) ?_
        show Steps p.tables e below (T14.setTop (mkF m 93 #[.val (.int p1), .val (.int p2), .val (.int (p1 &&& (65535 : Int32)).toUInt32.toUInt16.toUInt32.toInt32), .val (.int (p2 &&& (65535 : Int32)).toUInt32.toUInt16.toUInt32.toInt32), .val (.int (p2 &&& (65535 : Int32)).toUInt32.toUInt16.toUInt32.toInt32), .val (.int (p1 &&& (65535 : Int32)).toUInt32.toUInt16.toUInt32.toInt32), .val (.int (own_b (767 : Int32))), .val (.int (own_b (768 : Int32))), .val (.int (own_b (p1 &&& (65535 : Int32)).toUInt32.toUInt16.toUInt32.toInt32)), .val (.int (own_b (p2 &&& (65535 : Int32)).toUInt32.toUInt16.toUInt32.toInt32)), .val (.int (1 : Int32))] [])) t
        refine XS.iload X14.here hx rfl (hb hby at_93) rfl ?_
        show Steps p.tables e below (T14.setTop (mkF m 95 #[.val (.int p1), .val (.int p2), .val (.int (p1 &&& (65535 : Int32)).toUInt32.toUInt16.toUInt32.toInt32), .val (.int (p2 &&& (65535 : Int32)).toUInt32.toUInt16.toUInt32.toInt32), .val (.int (p2 &&& (65535 : Int32)).toUInt32.toUInt16.toUInt32.toInt32), .val (.int (p1 &&& (65535 : Int32)).toUInt32.toUInt16.toUInt32.toInt32), .val (.int (own_b (767 : Int32))), .val (.int (own_b (768 : Int32))), .val (.int (own_b (p1 &&& (65535 : Int32)).toUInt32.toUInt16.toUInt32.toInt32)), .val (.int (own_b (p2 &&& (65535 : Int32)).toUInt32.toUInt16.toUInt32.toInt32)), .val (.int (1 : Int32))] [(.int (1 : Int32))])) t
        refine XS.ifNo X14.here hx rfl (hb hby at_95) rfl (XT.i0_eq_f (show ¬ ((1 : Int32) = (0 : Int32)) from by decide)) ?_
        show Steps p.tables e below (T14.setTop (mkF m 98 #[.val (.int p1), .val (.int p2), .val (.int (p1 &&& (65535 : Int32)).toUInt32.toUInt16.toUInt32.toInt32), .val (.int (p2 &&& (65535 : Int32)).toUInt32.toUInt16.toUInt32.toInt32), .val (.int (p2 &&& (65535 : Int32)).toUInt32.toUInt16.toUInt32.toInt32), .val (.int (p1 &&& (65535 : Int32)).toUInt32.toUInt16.toUInt32.toInt32), .val (.int (own_b (767 : Int32))), .val (.int (own_b (768 : Int32))), .val (.int (own_b (p1 &&& (65535 : Int32)).toUInt32.toUInt16.toUInt32.toInt32)), .val (.int (own_b (p2 &&& (65535 : Int32)).toUInt32.toUInt16.toUInt32.toInt32)), .val (.int (1 : Int32))] [])) t
        refine XS.iconst X14.here hx rfl (hb hby at_98) ?_
        show Steps p.tables e below (T14.setTop (mkF m 99 #[.val (.int p1), .val (.int p2), .val (.int (p1 &&& (65535 : Int32)).toUInt32.toUInt16.toUInt32.toInt32), .val (.int (p2 &&& (65535 : Int32)).toUInt32.toUInt16.toUInt32.toInt32), .val (.int (p2 &&& (65535 : Int32)).toUInt32.toUInt16.toUInt32.toInt32), .val (.int (p1 &&& (65535 : Int32)).toUInt32.toUInt16.toUInt32.toInt32), .val (.int (own_b (767 : Int32))), .val (.int (own_b (768 : Int32))), .val (.int (own_b (p1 &&& (65535 : Int32)).toUInt32.toUInt16.toUInt32.toInt32)), .val (.int (own_b (p2 &&& (65535 : Int32)).toUInt32.toUInt16.toUInt32.toInt32)), .val (.int (1 : Int32))] [(.int (1 : Int32))])) t
        refine XS.goto X14.here hx rfl (pc0 := 99) (pc' := 103) rfl (hb hby at_99) (by decide) (by decide) ?_
        show Steps p.tables e below (T14.setTop (mkF m 103 #[.val (.int p1), .val (.int p2), .val (.int (p1 &&& (65535 : Int32)).toUInt32.toUInt16.toUInt32.toInt32), .val (.int (p2 &&& (65535 : Int32)).toUInt32.toUInt16.toUInt32.toInt32), .val (.int (p2 &&& (65535 : Int32)).toUInt32.toUInt16.toUInt32.toInt32), .val (.int (p1 &&& (65535 : Int32)).toUInt32.toUInt16.toUInt32.toInt32), .val (.int (own_b (767 : Int32))), .val (.int (own_b (768 : Int32))), .val (.int (own_b (p1 &&& (65535 : Int32)).toUInt32.toUInt16.toUInt32.toInt32)), .val (.int (own_b (p2 &&& (65535 : Int32)).toUInt32.toUInt16.toUInt32.toInt32)), .val (.int (1 : Int32))] [(.int (1 : Int32))])) t
        exact k)
      obtain ⟨fs, hr, hrun, hended, hW, hsame⟩ := X14.leave (v := some (.int (1 : Int32))) (fun h => by rw [Bd.returns] at h; cases h)
      refine ⟨_, _, pre21 _ ?_, hrun, hended, _, _, rfl, ?_, ⟨_, rfl⟩, hW, hsame.mono (by decide) (by decide)⟩
      · show Steps p.tables e below (T14.setTop (mkF m 103 #[.val (.int p1), .val (.int p2), .val (.int (p1 &&& (65535 : Int32)).toUInt32.toUInt16.toUInt32.toInt32), .val (.int (p2 &&& (65535 : Int32)).toUInt32.toUInt16.toUInt32.toInt32), .val (.int (p2 &&& (65535 : Int32)).toUInt32.toUInt16.toUInt32.toInt32), .val (.int (p1 &&& (65535 : Int32)).toUInt32.toUInt16.toUInt32.toInt32), .val (.int (own_b (767 : Int32))), .val (.int (own_b (768 : Int32))), .val (.int (own_b (p1 &&& (65535 : Int32)).toUInt32.toUInt16.toUInt32.toInt32)), .val (.int (own_b (p2 &&& (65535 : Int32)).toUInt32.toUInt16.toUInt32.toInt32)), .val (.int (1 : Int32))] [(.int (1 : Int32))])) _
        exact retN X14 hx (t := .boolean) Bd.returns (by simp) (hb hby at_103) hr
      · show Q0 Z p1 p2 h0 n0 _ T14.heap _
        rw [eh14]
        exact ⟨rfl, N14⟩
    · skip
      have pre26 : ∀ t, Steps p.tables e below (T14.setTop (mkF m 103 #[.val (.int p1), .val (.int p2), .val (.int (p1 &&& (65535 : Int32)).toUInt32.toUInt16.toUInt32.toInt32), .val (.int (p2 &&& (65535 : Int32)).toUInt32.toUInt16.toUInt32.toInt32), .val (.int (p2 &&& (65535 : Int32)).toUInt32.toUInt16.toUInt32.toInt32), .val (.int (p1 &&& (65535 : Int32)).toUInt32.toUInt16.toUInt32.toInt32), .val (.int (own_b (767 : Int32))), .val (.int (own_b (768 : Int32))), .val (.int (own_b (p1 &&& (65535 : Int32)).toUInt32.toUInt16.toUInt32.toInt32)), .val (.int (own_b (p2 &&& (65535 : Int32)).toUInt32.toUInt16.toUInt32.toInt32)), .val (.int (1 : Int32))] [(.int (1 : Int32))])) t → Steps p.tables e below (s₁.setTop (entryFrame m #[(.int p1), (.int p2)] maxLocals)) t := fun t k => pre17 t (by
        show Steps p.tables e below (T14.setTop (mkF m 68 #[.val (.int p1), .val (.int p2), .val (.int (p1 &&& (65535 : Int32)).toUInt32.toUInt16.toUInt32.toInt32), .val (.int (p2 &&& (65535 : Int32)).toUInt32.toUInt16.toUInt32.toInt32), .val (.int (p2 &&& (65535 : Int32)).toUInt32.toUInt16.toUInt32.toInt32), .val (.int (p1 &&& (65535 : Int32)).toUInt32.toUInt16.toUInt32.toInt32), .val (.int (own_b (767 : Int32))), .val (.int (own_b (768 : Int32))), .val (.int (own_b (p1 &&& (65535 : Int32)).toUInt32.toUInt16.toUInt32.toInt32)), .val (.int (own_b (p2 &&& (65535 : Int32)).toUInt32.toUInt16.toUInt32.toInt32)), .unset] [(.int (own_b (p1 &&& (65535 : Int32)).toUInt32.toUInt16.toUInt32.toInt32))])) t
        refine XS.ifNo X14.here hx rfl (hb hby at_68) rfl (XT.i0_eq_f hc68_16) ?_
        show Steps p.tables e below (T14.setTop (mkF m 71 #[.val (.int p1), .val (.int p2), .val (.int (p1 &&& (65535 : Int32)).toUInt32.toUInt16.toUInt32.toInt32), .val (.int (p2 &&& (65535 : Int32)).toUInt32.toUInt16.toUInt32.toInt32), .val (.int (p2 &&& (65535 : Int32)).toUInt32.toUInt16.toUInt32.toInt32), .val (.int (p1 &&& (65535 : Int32)).toUInt32.toUInt16.toUInt32.toInt32), .val (.int (own_b (767 : Int32))), .val (.int (own_b (768 : Int32))), .val (.int (own_b (p1 &&& (65535 : Int32)).toUInt32.toUInt16.toUInt32.toInt32)), .val (.int (own_b (p2 &&& (65535 : Int32)).toUInt32.toUInt16.toUInt32.toInt32)), .unset] [])) t
        refine XS.iload X14.here hx rfl (hb hby at_71) rfl ?_
        show Steps p.tables e below (T14.setTop (mkF m 73 #[.val (.int p1), .val (.int p2), .val (.int (p1 &&& (65535 : Int32)).toUInt32.toUInt16.toUInt32.toInt32), .val (.int (p2 &&& (65535 : Int32)).toUInt32.toUInt16.toUInt32.toInt32), .val (.int (p2 &&& (65535 : Int32)).toUInt32.toUInt16.toUInt32.toInt32), .val (.int (p1 &&& (65535 : Int32)).toUInt32.toUInt16.toUInt32.toInt32), .val (.int (own_b (767 : Int32))), .val (.int (own_b (768 : Int32))), .val (.int (own_b (p1 &&& (65535 : Int32)).toUInt32.toUInt16.toUInt32.toInt32)), .val (.int (own_b (p2 &&& (65535 : Int32)).toUInt32.toUInt16.toUInt32.toInt32)), .unset] [(.int (own_b (p2 &&& (65535 : Int32)).toUInt32.toUInt16.toUInt32.toInt32))])) t
        refine XS.ifNo X14.here hx rfl (hb hby at_73) rfl (XT.i0_eq_f (show ¬ ((own_b (p2 &&& (65535 : Int32)).toUInt32.toUInt16.toUInt32.toInt32) = (0 : Int32)) from by first | exact own_mono (by assumption) (by assumption) | exact own_mono' (by assumption) (by assumption))) ?_
        show Steps p.tables e below (T14.setTop (mkF m 76 #[.val (.int p1), .val (.int p2), .val (.int (p1 &&& (65535 : Int32)).toUInt32.toUInt16.toUInt32.toInt32), .val (.int (p2 &&& (65535 : Int32)).toUInt32.toUInt16.toUInt32.toInt32), .val (.int (p2 &&& (65535 : Int32)).toUInt32.toUInt16.toUInt32.toInt32), .val (.int (p1 &&& (65535 : Int32)).toUInt32.toUInt16.toUInt32.toInt32), .val (.int (own_b (767 : Int32))), .val (.int (own_b (768 : Int32))), .val (.int (own_b (p1 &&& (65535 : Int32)).toUInt32.toUInt16.toUInt32.toInt32)), .val (.int (own_b (p2 &&& (65535 : Int32)).toUInt32.toUInt16.toUInt32.toInt32)), .unset] [])) t
        refine XS.iconst X14.here hx rfl (hb hby at_76) ?_
        show Steps p.tables e below (T14.setTop (mkF m 77 #[.val (.int p1), .val (.int p2), .val (.int (p1 &&& (65535 : Int32)).toUInt32.toUInt16.toUInt32.toInt32), .val (.int (p2 &&& (65535 : Int32)).toUInt32.toUInt16.toUInt32.toInt32), .val (.int (p2 &&& (65535 : Int32)).toUInt32.toUInt16.toUInt32.toInt32), .val (.int (p1 &&& (65535 : Int32)).toUInt32.toUInt16.toUInt32.toInt32), .val (.int (own_b (767 : Int32))), .val (.int (own_b (768 : Int32))), .val (.int (own_b (p1 &&& (65535 : Int32)).toUInt32.toUInt16.toUInt32.toInt32)), .val (.int (own_b (p2 &&& (65535 : Int32)).toUInt32.toUInt16.toUInt32.toInt32)), .unset] [(.int (1 : Int32))])) t
        refine XS.goto X14.here hx rfl (pc0 := 77) (pc' := 81) rfl (hb hby at_77) (by decide) (by decide) ?_
        show Steps p.tables e below (T14.setTop (mkF m 81 #[.val (.int p1), .val (.int p2), .val (.int (p1 &&& (65535 : Int32)).toUInt32.toUInt16.toUInt32.toInt32), .val (.int (p2 &&& (65535 : Int32)).toUInt32.toUInt16.toUInt32.toInt32), .val (.int (p2 &&& (65535 : Int32)).toUInt32.toUInt16.toUInt32.toInt32), .val (.int (p1 &&& (65535 : Int32)).toUInt32.toUInt16.toUInt32.toInt32), .val (.int (own_b (767 : Int32))), .val (.int (own_b (768 : Int32))), .val (.int (own_b (p1 &&& (65535 : Int32)).toUInt32.toUInt16.toUInt32.toInt32)), .val (.int (own_b (p2 &&& (65535 : Int32)).toUInt32.toUInt16.toUInt32.toInt32)), .unset] [(.int (1 : Int32))])) t
        refine XS.istore X14.here hx rfl (hb hby at_81) rfl (l' := #[.val (.int p1), .val (.int p2), .val (.int (p1 &&& (65535 : Int32)).toUInt32.toUInt16.toUInt32.toInt32), .val (.int (p2 &&& (65535 : Int32)).toUInt32.toUInt16.toUInt32.toInt32), .val (.int (p2 &&& (65535 : Int32)).toUInt32.toUInt16.toUInt32.toInt32), .val (.int (p1 &&& (65535 : Int32)).toUInt32.toUInt16.toUInt32.toInt32), .val (.int (own_b (767 : Int32))), .val (.int (own_b (768 : Int32))), .val (.int (own_b (p1 &&& (65535 : Int32)).toUInt32.toUInt16.toUInt32.toInt32)), .val (.int (own_b (p2 &&& (65535 : Int32)).toUInt32.toUInt16.toUInt32.toInt32)), .val (.int (1 : Int32))]) rfl ?_
        show Steps p.tables e below (T14.setTop (mkF m 83 #[.val (.int p1), .val (.int p2), .val (.int (p1 &&& (65535 : Int32)).toUInt32.toUInt16.toUInt32.toInt32), .val (.int (p2 &&& (65535 : Int32)).toUInt32.toUInt16.toUInt32.toInt32), .val (.int (p2 &&& (65535 : Int32)).toUInt32.toUInt16.toUInt32.toInt32), .val (.int (p1 &&& (65535 : Int32)).toUInt32.toUInt16.toUInt32.toInt32), .val (.int (own_b (767 : Int32))), .val (.int (own_b (768 : Int32))), .val (.int (own_b (p1 &&& (65535 : Int32)).toUInt32.toUInt16.toUInt32.toInt32)), .val (.int (own_b (p2 &&& (65535 : Int32)).toUInt32.toUInt16.toUInt32.toInt32)), .val (.int (1 : Int32))] [])) t
        refine XS.iload X14.here hx rfl (hb hby at_83) rfl ?_
        show Steps p.tables e below (T14.setTop (mkF m 85 #[.val (.int p1), .val (.int p2), .val (.int (p1 &&& (65535 : Int32)).toUInt32.toUInt16.toUInt32.toInt32), .val (.int (p2 &&& (65535 : Int32)).toUInt32.toUInt16.toUInt32.toInt32), .val (.int (p2 &&& (65535 : Int32)).toUInt32.toUInt16.toUInt32.toInt32), .val (.int (p1 &&& (65535 : Int32)).toUInt32.toUInt16.toUInt32.toInt32), .val (.int (own_b (767 : Int32))), .val (.int (own_b (768 : Int32))), .val (.int (own_b (p1 &&& (65535 : Int32)).toUInt32.toUInt16.toUInt32.toInt32)), .val (.int (own_b (p2 &&& (65535 : Int32)).toUInt32.toUInt16.toUInt32.toInt32)), .val (.int (1 : Int32))] [(.int (own_b (767 : Int32)))])) t
        refine XS.ifNo X14.here hx rfl (hb hby at_85) rfl (XT.i0_eq_f (show ¬ ((own_b (767 : Int32)) = (0 : Int32)) from by decide)) ?_
        show Steps p.tables e below (T14.setTop (mkF m 88 #[.val (.int p1), .val (.int p2), .val (.int (p1 &&& (65535 : Int32)).toUInt32.toUInt16.toUInt32.toInt32), .val (.int (p2 &&& (65535 : Int32)).toUInt32.toUInt16.toUInt32.toInt32), .val (.int (p2 &&& (65535 : Int32)).toUInt32.toUInt16.toUInt32.toInt32), .val (.int (p1 &&& (65535 : Int32)).toUInt32.toUInt16.toUInt32.toInt32), .val (.int (own_b (767 : Int32))), .val (.int (own_b (768 : Int32))), .val (.int (own_b (p1 &&& (65535 : Int32)).toUInt32.toUInt16.toUInt32.toInt32)), .val (.int (own_b (p2 &&& (65535 : Int32)).toUInt32.toUInt16.toUInt32.toInt32)), .val (.int (1 : Int32))] [])) t
        refine XS.iload X14.here hx rfl (hb hby at_88) rfl ?_
        show Steps p.tables e below (T14.setTop (mkF m 90 #[.val (.int p1), .val (.int p2), .val (.int (p1 &&& (65535 : Int32)).toUInt32.toUInt16.toUInt32.toInt32), .val (.int (p2 &&& (65535 : Int32)).toUInt32.toUInt16.toUInt32.toInt32), .val (.int (p2 &&& (65535 : Int32)).toUInt32.toUInt16.toUInt32.toInt32), .val (.int (p1 &&& (65535 : Int32)).toUInt32.toUInt16.toUInt32.toInt32), .val (.int (own_b (767 : Int32))), .val (.int (own_b (768 : Int32))), .val (.int (own_b (p1 &&& (65535 : Int32)).toUInt32.toUInt16.toUInt32.toInt32)), .val (.int (own_b (p2 &&& (65535 : Int32)).toUInt32.toUInt16.toUInt32.toInt32)), .val (.int (1 : Int32))] [(.int (own_b (768 : Int32)))])) t
        refine XS.ifNo X14.here hx rfl (hb hby at_90) rfl (XT.i0_ne_f (show (own_b (768 : Int32)) = (0 : Int32) from by decide)) ?_
        show Steps p.tables e below (T14.setTop (mkF m 93 #[.val (.int p1), .val (.int p2), .val (.int (p1 &&& (65535 : Int32)).toUInt32.toUInt16.toUInt32.toInt32), .val (.int (p2 &&& (65535 : Int32)).toUInt32.toUInt16.toUInt32.toInt32), .val (.int (p2 &&& (65535 : Int32)).toUInt32.toUInt16.toUInt32.toInt32), .val (.int (p1 &&& (65535 : Int32)).toUInt32.toUInt16.toUInt32.toInt32), .val (.int (own_b (767 : Int32))), .val (.int (own_b (768 : Int32))), .val (.int (own_b (p1 &&& (65535 : Int32)).toUInt32.toUInt16.toUInt32.toInt32)), .val (.int (own_b (p2 &&& (65535 : Int32)).toUInt32.toUInt16.toUInt32.toInt32)), .val (.int (1 : Int32))] [])) t
        refine XS.iload X14.here hx rfl (hb hby at_93) rfl ?_
        show Steps p.tables e below (T14.setTop (mkF m 95 #[.val (.int p1), .val (.int p2), .val (.int (p1 &&& (65535 : Int32)).toUInt32.toUInt16.toUInt32.toInt32), .val (.int (p2 &&& (65535 : Int32)).toUInt32.toUInt16.toUInt32.toInt32), .val (.int (p2 &&& (65535 : Int32)).toUInt32.toUInt16.toUInt32.toInt32), .val (.int (p1 &&& (65535 : Int32)).toUInt32.toUInt16.toUInt32.toInt32), .val (.int (own_b (767 : Int32))), .val (.int (own_b (768 : Int32))), .val (.int (own_b (p1 &&& (65535 : Int32)).toUInt32.toUInt16.toUInt32.toInt32)), .val (.int (own_b (p2 &&& (65535 : Int32)).toUInt32.toUInt16.toUInt32.toInt32)), .val (.int (1 : Int32))] [(.int (1 : Int32))])) t
        refine XS.ifNo X14.here hx rfl (hb hby at_95) rfl (XT.i0_eq_f (show ¬ ((1 : Int32) = (0 : Int32)) from by decide)) ?_
        show Steps p.tables e below (T14.setTop (mkF m 98 #[.val (.int p1), .val (.int p2), .val (.int (p1 &&& (65535 : Int32)).toUInt32.toUInt16.toUInt32.toInt32), .val (.int (p2 &&& (65535 : Int32)).toUInt32.toUInt16.toUInt32.toInt32), .val (.int (p2 &&& (65535 : Int32)).toUInt32.toUInt16.toUInt32.toInt32), .val (.int (p1 &&& (65535 : Int32)).toUInt32.toUInt16.toUInt32.toInt32), .val (.int (own_b (767 : Int32))), .val (.int (own_b (768 : Int32))), .val (.int (own_b (p1 &&& (65535 : Int32)).toUInt32.toUInt16.toUInt32.toInt32)), .val (.int (own_b (p2 &&& (65535 : Int32)).toUInt32.toUInt16.toUInt32.toInt32)), .val (.int (1 : Int32))] [])) t
        refine XS.iconst X14.here hx rfl (hb hby at_98) ?_
        show Steps p.tables e below (T14.setTop (mkF m 99 #[.val (.int p1), .val (.int p2), .val (.int (p1 &&& (65535 : Int32)).toUInt32.toUInt16.toUInt32.toInt32), .val (.int (p2 &&& (65535 : Int32)).toUInt32.toUInt16.toUInt32.toInt32), .val (.int (p2 &&& (65535 : Int32)).toUInt32.toUInt16.toUInt32.toInt32), .val (.int (p1 &&& (65535 : Int32)).toUInt32.toUInt16.toUInt32.toInt32), .val (.int (own_b (767 : Int32))), .val (.int (own_b (768 : Int32))), .val (.int (own_b (p1 &&& (65535 : Int32)).toUInt32.toUInt16.toUInt32.toInt32)), .val (.int (own_b (p2 &&& (65535 : Int32)).toUInt32.toUInt16.toUInt32.toInt32)), .val (.int (1 : Int32))] [(.int (1 : Int32))])) t
        refine XS.goto X14.here hx rfl (pc0 := 99) (pc' := 103) rfl (hb hby at_99) (by decide) (by decide) ?_
        show Steps p.tables e below (T14.setTop (mkF m 103 #[.val (.int p1), .val (.int p2), .val (.int (p1 &&& (65535 : Int32)).toUInt32.toUInt16.toUInt32.toInt32), .val (.int (p2 &&& (65535 : Int32)).toUInt32.toUInt16.toUInt32.toInt32), .val (.int (p2 &&& (65535 : Int32)).toUInt32.toUInt16.toUInt32.toInt32), .val (.int (p1 &&& (65535 : Int32)).toUInt32.toUInt16.toUInt32.toInt32), .val (.int (own_b (767 : Int32))), .val (.int (own_b (768 : Int32))), .val (.int (own_b (p1 &&& (65535 : Int32)).toUInt32.toUInt16.toUInt32.toInt32)), .val (.int (own_b (p2 &&& (65535 : Int32)).toUInt32.toUInt16.toUInt32.toInt32)), .val (.int (1 : Int32))] [(.int (1 : Int32))])) t
        exact k)
      obtain ⟨fs, hr, hrun, hended, hW, hsame⟩ := X14.leave (v := some (.int (1 : Int32))) (fun h => by rw [Bd.returns] at h; cases h)
      refine ⟨_, _, pre26 _ ?_, hrun, hended, _, _, rfl, ?_, ⟨_, rfl⟩, hW, hsame.mono (by decide) (by decide)⟩
      · show Steps p.tables e below (T14.setTop (mkF m 103 #[.val (.int p1), .val (.int p2), .val (.int (p1 &&& (65535 : Int32)).toUInt32.toUInt16.toUInt32.toInt32), .val (.int (p2 &&& (65535 : Int32)).toUInt32.toUInt16.toUInt32.toInt32), .val (.int (p2 &&& (65535 : Int32)).toUInt32.toUInt16.toUInt32.toInt32), .val (.int (p1 &&& (65535 : Int32)).toUInt32.toUInt16.toUInt32.toInt32), .val (.int (own_b (767 : Int32))), .val (.int (own_b (768 : Int32))), .val (.int (own_b (p1 &&& (65535 : Int32)).toUInt32.toUInt16.toUInt32.toInt32)), .val (.int (own_b (p2 &&& (65535 : Int32)).toUInt32.toUInt16.toUInt32.toInt32)), .val (.int (1 : Int32))] [(.int (1 : Int32))])) _
        exact retN X14 hx (t := .boolean) Bd.returns (by simp) (hb hby at_103) hr
      · show Q0 Z p1 p2 h0 n0 _ T14.heap _
        rw [eh14]
        exact ⟨rfl, N14⟩
  · skip
    have pre28 : ∀ t, Steps p.tables e below (s₁.setTop (mkF m 39 #[.val (.int p1), .val (.int p2), .val (.int (p1 &&& (65535 : Int32)).toUInt32.toUInt16.toUInt32.toInt32), .val (.int (p2 &&& (65535 : Int32)).toUInt32.toUInt16.toUInt32.toInt32), .val (.int (p1 &&& (65535 : Int32)).toUInt32.toUInt16.toUInt32.toInt32), .val (.int (p2 &&& (65535 : Int32)).toUInt32.toUInt16.toUInt32.toInt32), .unset, .unset, .unset, .unset, .unset] [(.int (767 : Int32))])) t → Steps p.tables e below (s₁.setTop (entryFrame m #[(.int p1), (.int p2)] maxLocals)) t := fun t k => pre2 t (by
      show Steps p.tables e below (s₁.setTop (mkF m 14 #[.val (.int p1), .val (.int p2), .val (.int (p1 &&& (65535 : Int32)).toUInt32.toUInt16.toUInt32.toInt32), .val (.int (p2 &&& (65535 : Int32)).toUInt32.toUInt16.toUInt32.toInt32), .unset, .unset, .unset, .unset, .unset, .unset, .unset] [(.int (p2 &&& (65535 : Int32)).toUInt32.toUInt16.toUInt32.toInt32), (.int (p1 &&& (65535 : Int32)).toUInt32.toUInt16.toUInt32.toInt32)])) t
      refine XS.icmpNo X0.here hx rfl (hb hby at_14) rfl (XT.ii_gt_f hc14_1) ?_
      show Steps p.tables e below (s₁.setTop (mkF m 17 #[.val (.int p1), .val (.int p2), .val (.int (p1 &&& (65535 : Int32)).toUInt32.toUInt16.toUInt32.toInt32), .val (.int (p2 &&& (65535 : Int32)).toUInt32.toUInt16.toUInt32.toInt32), .unset, .unset, .unset, .unset, .unset, .unset, .unset] [])) t
      refine XS.iloadN X0.here hx rfl (hb hby at_17) rfl ?_
      show Steps p.tables e below (s₁.setTop (mkF m 18 #[.val (.int p1), .val (.int p2), .val (.int (p1 &&& (65535 : Int32)).toUInt32.toUInt16.toUInt32.toInt32), .val (.int (p2 &&& (65535 : Int32)).toUInt32.toUInt16.toUInt32.toInt32), .unset, .unset, .unset, .unset, .unset, .unset, .unset] [(.int (p1 &&& (65535 : Int32)).toUInt32.toUInt16.toUInt32.toInt32)])) t
      refine XS.goto X0.here hx rfl (pc0 := 18) (pc' := 22) rfl (hb hby at_18) (by decide) (by decide) ?_
      show Steps p.tables e below (s₁.setTop (mkF m 22 #[.val (.int p1), .val (.int p2), .val (.int (p1 &&& (65535 : Int32)).toUInt32.toUInt16.toUInt32.toInt32), .val (.int (p2 &&& (65535 : Int32)).toUInt32.toUInt16.toUInt32.toInt32), .unset, .unset, .unset, .unset, .unset, .unset, .unset] [(.int (p1 &&& (65535 : Int32)).toUInt32.toUInt16.toUInt32.toInt32)])) t
      refine XS.istore X0.here hx rfl (hb hby at_22) rfl (l' := #[.val (.int p1), .val (.int p2), .val (.int (p1 &&& (65535 : Int32)).toUInt32.toUInt16.toUInt32.toInt32), .val (.int (p2 &&& (65535 : Int32)).toUInt32.toUInt16.toUInt32.toInt32), .val (.int (p1 &&& (65535 : Int32)).toUInt32.toUInt16.toUInt32.toInt32), .unset, .unset, .unset, .unset, .unset, .unset]) rfl ?_
      show Steps p.tables e below (s₁.setTop (mkF m 24 #[.val (.int p1), .val (.int p2), .val (.int (p1 &&& (65535 : Int32)).toUInt32.toUInt16.toUInt32.toInt32), .val (.int (p2 &&& (65535 : Int32)).toUInt32.toUInt16.toUInt32.toInt32), .val (.int (p1 &&& (65535 : Int32)).toUInt32.toUInt16.toUInt32.toInt32), .unset, .unset, .unset, .unset, .unset, .unset] [])) t
      refine XS.iloadN X0.here hx rfl (hb hby at_24) rfl ?_
      show Steps p.tables e below (s₁.setTop (mkF m 25 #[.val (.int p1), .val (.int p2), .val (.int (p1 &&& (65535 : Int32)).toUInt32.toUInt16.toUInt32.toInt32), .val (.int (p2 &&& (65535 : Int32)).toUInt32.toUInt16.toUInt32.toInt32), .val (.int (p1 &&& (65535 : Int32)).toUInt32.toUInt16.toUInt32.toInt32), .unset, .unset, .unset, .unset, .unset, .unset] [(.int (p1 &&& (65535 : Int32)).toUInt32.toUInt16.toUInt32.toInt32)])) t
      refine XS.iloadN X0.here hx rfl (hb hby at_25) rfl ?_
      show Steps p.tables e below (s₁.setTop (mkF m 26 #[.val (.int p1), .val (.int p2), .val (.int (p1 &&& (65535 : Int32)).toUInt32.toUInt16.toUInt32.toInt32), .val (.int (p2 &&& (65535 : Int32)).toUInt32.toUInt16.toUInt32.toInt32), .val (.int (p1 &&& (65535 : Int32)).toUInt32.toUInt16.toUInt32.toInt32), .unset, .unset, .unset, .unset, .unset, .unset] [(.int (p2 &&& (65535 : Int32)).toUInt32.toUInt16.toUInt32.toInt32), (.int (p1 &&& (65535 : Int32)).toUInt32.toUInt16.toUInt32.toInt32)])) t
      refine XS.icmpNo X0.here hx rfl (hb hby at_26) rfl (XT.ii_gt_f (show ¬ ((p2 &&& (65535 : Int32)).toUInt32.toUInt16.toUInt32.toInt32 < (p1 &&& (65535 : Int32)).toUInt32.toUInt16.toUInt32.toInt32) from hc14_1)) ?_
      show Steps p.tables e below (s₁.setTop (mkF m 29 #[.val (.int p1), .val (.int p2), .val (.int (p1 &&& (65535 : Int32)).toUInt32.toUInt16.toUInt32.toInt32), .val (.int (p2 &&& (65535 : Int32)).toUInt32.toUInt16.toUInt32.toInt32), .val (.int (p1 &&& (65535 : Int32)).toUInt32.toUInt16.toUInt32.toInt32), .unset, .unset, .unset, .unset, .unset, .unset] [])) t
      refine XS.iloadN X0.here hx rfl (hb hby at_29) rfl ?_
      show Steps p.tables e below (s₁.setTop (mkF m 30 #[.val (.int p1), .val (.int p2), .val (.int (p1 &&& (65535 : Int32)).toUInt32.toUInt16.toUInt32.toInt32), .val (.int (p2 &&& (65535 : Int32)).toUInt32.toUInt16.toUInt32.toInt32), .val (.int (p1 &&& (65535 : Int32)).toUInt32.toUInt16.toUInt32.toInt32), .unset, .unset, .unset, .unset, .unset, .unset] [(.int (p2 &&& (65535 : Int32)).toUInt32.toUInt16.toUInt32.toInt32)])) t
      refine XS.goto X0.here hx rfl (pc0 := 30) (pc' := 34) rfl (hb hby at_30) (by decide) (by decide) ?_
      show Steps p.tables e below (s₁.setTop (mkF m 34 #[.val (.int p1), .val (.int p2), .val (.int (p1 &&& (65535 : Int32)).toUInt32.toUInt16.toUInt32.toInt32), .val (.int (p2 &&& (65535 : Int32)).toUInt32.toUInt16.toUInt32.toInt32), .val (.int (p1 &&& (65535 : Int32)).toUInt32.toUInt16.toUInt32.toInt32), .unset, .unset, .unset, .unset, .unset, .unset] [(.int (p2 &&& (65535 : Int32)).toUInt32.toUInt16.toUInt32.toInt32)])) t
      refine XS.istore X0.here hx rfl (hb hby at_34) rfl (l' := #[.val (.int p1), .val (.int p2), .val (.int (p1 &&& (65535 : Int32)).toUInt32.toUInt16.toUInt32.toInt32), .val (.int (p2 &&& (65535 : Int32)).toUInt32.toUInt16.toUInt32.toInt32), .val (.int (p1 &&& (65535 : Int32)).toUInt32.toUInt16.toUInt32.toInt32), .val (.int (p2 &&& (65535 : Int32)).toUInt32.toUInt16.toUInt32.toInt32), .unset, .unset, .unset, .unset, .unset]) rfl ?_
      show Steps p.tables e below (s₁.setTop (mkF m 36 #[.val (.int p1), .val (.int p2), .val (.int (p1 &&& (65535 : Int32)).toUInt32.toUInt16.toUInt32.toInt32), .val (.int (p2 &&& (65535 : Int32)).toUInt32.toUInt16.toUInt32.toInt32), .val (.int (p1 &&& (65535 : Int32)).toUInt32.toUInt16.toUInt32.toInt32), .val (.int (p2 &&& (65535 : Int32)).toUInt32.toUInt16.toUInt32.toInt32), .unset, .unset, .unset, .unset, .unset] [])) t
      refine XS.sipush X0.here hx rfl (hb hby at_36) ?_
      show Steps p.tables e below (s₁.setTop (mkF m 39 #[.val (.int p1), .val (.int p2), .val (.int (p1 &&& (65535 : Int32)).toUInt32.toUInt16.toUInt32.toInt32), .val (.int (p2 &&& (65535 : Int32)).toUInt32.toUInt16.toUInt32.toInt32), .val (.int (p1 &&& (65535 : Int32)).toUInt32.toUInt16.toUInt32.toInt32), .val (.int (p2 &&& (65535 : Int32)).toUInt32.toUInt16.toUInt32.toInt32), .unset, .unset, .unset, .unset, .unset] [(.int (767 : Int32))])) t
      exact k)
    obtain ⟨_, _, ⟨T29, L29, k29, n29⟩, -, X29, ⟨Lc29, hQ29, l29, y29, z29⟩, st29⟩ := Jvm.LawKit.callS X0 hx (y := (⟨"com/example/precis/precis/display/Nfc", "isBelowCombiningMarks", "(C)Z"⟩ : MethodName)) hown (mvT hZ (hw _ (List.mem_of_getElem? (i := 1) rfl))) (mvT hZ (hw _ (List.mem_of_getElem? (i := 2) rfl))) (mvT hZ (hw _ (List.mem_of_getElem? (i := 3) rfl))) (mvT hZ (hw _ (List.mem_of_getElem? (i := 4) rfl))) (by decide) (backOf (W := 0) (rm1 l Z a0 hw [] (767 : Int32) h0 n0 Z0 ) hZ (hw _ (List.mem_of_getElem? (i := 4) rfl)) (hw _ (List.mem_of_getElem? (i := 3) rfl)) (by decide) (by decide)) (g := (mkF m 39 #[.val (.int p1), .val (.int p2), .val (.int (p1 &&& (65535 : Int32)).toUInt32.toUInt16.toUInt32.toInt32), .val (.int (p2 &&& (65535 : Int32)).toUInt32.toUInt16.toUInt32.toInt32), .val (.int (p1 &&& (65535 : Int32)).toUInt32.toUInt16.toUInt32.toInt32), .val (.int (p2 &&& (65535 : Int32)).toUInt32.toUInt16.toUInt32.toInt32), .unset, .unset, .unset, .unset, .unset] [(.int (767 : Int32))])) rfl (by rw [hml]; rfl) (argsL := [(.int (767 : Int32))]) (rest := []) (lenOf pd_oCcZ rfl) rfl (by show 2 * 0 + _ ≤ _; exact Nat.le_of_eq rfl) (hb hby at_39) (fun _ _ => ⟨rfl, eh0, (by decide : 0 + 0 ≤ _), (by decide : 0 + 0 ≤ _)⟩)
    dsimp only [Pt.U, Pt.locs, Pt.cells, Pt.slots] at X29 l29 y29 z29 st29 hQ29
    subst l29 y29 z29
    obtain ⟨rfl, N29q, eh29⟩ := hQ29
    have N29 := Fr.app N0 N29q
    have pre30 : ∀ t, Steps p.tables e below (T29.setTop (mkF m 42 #[.val (.int p1), .val (.int p2), .val (.int (p1 &&& (65535 : Int32)).toUInt32.toUInt16.toUInt32.toInt32), .val (.int (p2 &&& (65535 : Int32)).toUInt32.toUInt16.toUInt32.toInt32), .val (.int (p1 &&& (65535 : Int32)).toUInt32.toUInt16.toUInt32.toInt32), .val (.int (p2 &&& (65535 : Int32)).toUInt32.toUInt16.toUInt32.toInt32), .unset, .unset, .unset, .unset, .unset] [(.int (own_b (767 : Int32)))])) t → Steps p.tables e below (s₁.setTop (entryFrame m #[(.int p1), (.int p2)] maxLocals)) t := fun t k => pre28 t (st29 _ k)
    have pre31 : ∀ t, Steps p.tables e below (T29.setTop (mkF m 47 #[.val (.int p1), .val (.int p2), .val (.int (p1 &&& (65535 : Int32)).toUInt32.toUInt16.toUInt32.toInt32), .val (.int (p2 &&& (65535 : Int32)).toUInt32.toUInt16.toUInt32.toInt32), .val (.int (p1 &&& (65535 : Int32)).toUInt32.toUInt16.toUInt32.toInt32), .val (.int (p2 &&& (65535 : Int32)).toUInt32.toUInt16.toUInt32.toInt32), .val (.int (own_b (767 : Int32))), .unset, .unset, .unset, .unset] [(.int (768 : Int32))])) t → Steps p.tables e below (s₁.setTop (entryFrame m #[(.int p1), (.int p2)] maxLocals)) t := fun t k => pre30 t (by
      show Steps p.tables e below (T29.setTop (mkF m 42 #[.val (.int p1), .val (.int p2), .val (.int (p1 &&& (65535 : Int32)).toUInt32.toUInt16.toUInt32.toInt32), .val (.int (p2 &&& (65535 : Int32)).toUInt32.toUInt16.toUInt32.toInt32), .val (.int (p1 &&& (65535 : Int32)).toUInt32.toUInt16.toUInt32.toInt32), .val (.int (p2 &&& (65535 : Int32)).toUInt32.toUInt16.toUInt32.toInt32), .unset, .unset, .unset, .unset, .unset] [(.int (own_b (767 : Int32)))])) t
      refine XS.istore X29.here hx rfl (hb hby at_42) rfl (l' := #[.val (.int p1), .val (.int p2), .val (.int (p1 &&& (65535 : Int32)).toUInt32.toUInt16.toUInt32.toInt32), .val (.int (p2 &&& (65535 : Int32)).toUInt32.toUInt16.toUInt32.toInt32), .val (.int (p1 &&& (65535 : Int32)).toUInt32.toUInt16.toUInt32.toInt32), .val (.int (p2 &&& (65535 : Int32)).toUInt32.toUInt16.toUInt32.toInt32), .val (.int (own_b (767 : Int32))), .unset, .unset, .unset, .unset]) rfl ?_
      show Steps p.tables e below (T29.setTop (mkF m 44 #[.val (.int p1), .val (.int p2), .val (.int (p1 &&& (65535 : Int32)).toUInt32.toUInt16.toUInt32.toInt32), .val (.int (p2 &&& (65535 : Int32)).toUInt32.toUInt16.toUInt32.toInt32), .val (.int (p1 &&& (65535 : Int32)).toUInt32.toUInt16.toUInt32.toInt32), .val (.int (p2 &&& (65535 : Int32)).toUInt32.toUInt16.toUInt32.toInt32), .val (.int (own_b (767 : Int32))), .unset, .unset, .unset, .unset] [])) t
      refine XS.sipush X29.here hx rfl (hb hby at_44) ?_
      show Steps p.tables e below (T29.setTop (mkF m 47 #[.val (.int p1), .val (.int p2), .val (.int (p1 &&& (65535 : Int32)).toUInt32.toUInt16.toUInt32.toInt32), .val (.int (p2 &&& (65535 : Int32)).toUInt32.toUInt16.toUInt32.toInt32), .val (.int (p1 &&& (65535 : Int32)).toUInt32.toUInt16.toUInt32.toInt32), .val (.int (p2 &&& (65535 : Int32)).toUInt32.toUInt16.toUInt32.toInt32), .val (.int (own_b (767 : Int32))), .unset, .unset, .unset, .unset] [(.int (768 : Int32))])) t
      exact k)
    obtain ⟨_, _, ⟨T32, L32, k32, n32⟩, -, X32, ⟨Lc32, hQ32, l32, y32, z32⟩, st32⟩ := Jvm.LawKit.callS X29 hx (y := (⟨"com/example/precis/precis/display/Nfc", "isBelowCombiningMarks", "(C)Z"⟩ : MethodName)) hown (mvT hZ (hw _ (List.mem_of_getElem? (i := 1) rfl))) (mvT hZ (hw _ (List.mem_of_getElem? (i := 2) rfl))) (mvT hZ (hw _ (List.mem_of_getElem? (i := 3) rfl))) (mvT hZ (hw _ (List.mem_of_getElem? (i := 4) rfl))) (by decide) (backOf (W := 0) (rm1 l Z a0 hw [] (768 : Int32) h0 n0 Z0 ) hZ (hw _ (List.mem_of_getElem? (i := 4) rfl)) (hw _ (List.mem_of_getElem? (i := 3) rfl)) (by decide) (by decide)) (g := (mkF m 47 #[.val (.int p1), .val (.int p2), .val (.int (p1 &&& (65535 : Int32)).toUInt32.toUInt16.toUInt32.toInt32), .val (.int (p2 &&& (65535 : Int32)).toUInt32.toUInt16.toUInt32.toInt32), .val (.int (p1 &&& (65535 : Int32)).toUInt32.toUInt16.toUInt32.toInt32), .val (.int (p2 &&& (65535 : Int32)).toUInt32.toUInt16.toUInt32.toInt32), .val (.int (own_b (767 : Int32))), .unset, .unset, .unset, .unset] [(.int (768 : Int32))])) rfl (by rw [hml]; rfl) (argsL := [(.int (768 : Int32))]) (rest := []) (lenOf pd_oCcZ rfl) rfl (by show 2 * 0 + _ ≤ _; exact Nat.le_of_eq rfl) (hb hby at_47) (fun _ _ => ⟨rfl, eh29, (by decide : 0 + 0 ≤ _), (by decide : 0 + 0 ≤ _)⟩)
    dsimp only [Pt.U, Pt.locs, Pt.cells, Pt.slots] at X32 l32 y32 z32 st32 hQ32
    subst l32 y32 z32
    obtain ⟨rfl, N32q, eh32⟩ := hQ32
    have N32 := Fr.app N29 N32q
    have pre33 : ∀ t, Steps p.tables e below (T32.setTop (mkF m 50 #[.val (.int p1), .val (.int p2), .val (.int (p1 &&& (65535 : Int32)).toUInt32.toUInt16.toUInt32.toInt32), .val (.int (p2 &&& (65535 : Int32)).toUInt32.toUInt16.toUInt32.toInt32), .val (.int (p1 &&& (65535 : Int32)).toUInt32.toUInt16.toUInt32.toInt32), .val (.int (p2 &&& (65535 : Int32)).toUInt32.toUInt16.toUInt32.toInt32), .val (.int (own_b (767 : Int32))), .unset, .unset, .unset, .unset] [(.int (own_b (768 : Int32)))])) t → Steps p.tables e below (s₁.setTop (entryFrame m #[(.int p1), (.int p2)] maxLocals)) t := fun t k => pre31 t (st32 _ k)
    have pre34 : ∀ t, Steps p.tables e below (T32.setTop (mkF m 54 #[.val (.int p1), .val (.int p2), .val (.int (p1 &&& (65535 : Int32)).toUInt32.toUInt16.toUInt32.toInt32), .val (.int (p2 &&& (65535 : Int32)).toUInt32.toUInt16.toUInt32.toInt32), .val (.int (p1 &&& (65535 : Int32)).toUInt32.toUInt16.toUInt32.toInt32), .val (.int (p2 &&& (65535 : Int32)).toUInt32.toUInt16.toUInt32.toInt32), .val (.int (own_b (767 : Int32))), .val (.int (own_b (768 : Int32))), .unset, .unset, .unset] [(.int (p2 &&& (65535 : Int32)).toUInt32.toUInt16.toUInt32.toInt32)])) t → Steps p.tables e below (s₁.setTop (entryFrame m #[(.int p1), (.int p2)] maxLocals)) t := fun t k => pre33 t (by
      show Steps p.tables e below (T32.setTop (mkF m 50 #[.val (.int p1), .val (.int p2), .val (.int (p1 &&& (65535 : Int32)).toUInt32.toUInt16.toUInt32.toInt32), .val (.int (p2 &&& (65535 : Int32)).toUInt32.toUInt16.toUInt32.toInt32), .val (.int (p1 &&& (65535 : Int32)).toUInt32.toUInt16.toUInt32.toInt32), .val (.int (p2 &&& (65535 : Int32)).toUInt32.toUInt16.toUInt32.toInt32), .val (.int (own_b (767 : Int32))), .unset, .unset, .unset, .unset] [(.int (own_b (768 : Int32)))])) t
      refine XS.istore X32.here hx rfl (hb hby at_50) rfl (l' := #[.val (.int p1), .val (.int p2), .val (.int (p1 &&& (65535 : Int32)).toUInt32.toUInt16.toUInt32.toInt32), .val (.int (p2 &&& (65535 : Int32)).toUInt32.toUInt16.toUInt32.toInt32), .val (.int (p1 &&& (65535 : Int32)).toUInt32.toUInt16.toUInt32.toInt32), .val (.int (p2 &&& (65535 : Int32)).toUInt32.toUInt16.toUInt32.toInt32), .val (.int (own_b (767 : Int32))), .val (.int (own_b (768 : Int32))), .unset, .unset, .unset]) rfl ?_
      show Steps p.tables e below (T32.setTop (mkF m 52 #[.val (.int p1), .val (.int p2), .val (.int (p1 &&& (65535 : Int32)).toUInt32.toUInt16.toUInt32.toInt32), .val (.int (p2 &&& (65535 : Int32)).toUInt32.toUInt16.toUInt32.toInt32), .val (.int (p1 &&& (65535 : Int32)).toUInt32.toUInt16.toUInt32.toInt32), .val (.int (p2 &&& (65535 : Int32)).toUInt32.toUInt16.toUInt32.toInt32), .val (.int (own_b (767 : Int32))), .val (.int (own_b (768 : Int32))), .unset, .unset, .unset] [])) t
      refine XS.iload X32.here hx rfl (hb hby at_52) rfl ?_
      show Steps p.tables e below (T32.setTop (mkF m 54 #[.val (.int p1), .val (.int p2), .val (.int (p1 &&& (65535 : Int32)).toUInt32.toUInt16.toUInt32.toInt32), .val (.int (p2 &&& (65535 : Int32)).toUInt32.toUInt16.toUInt32.toInt32), .val (.int (p1 &&& (65535 : Int32)).toUInt32.toUInt16.toUInt32.toInt32), .val (.int (p2 &&& (65535 : Int32)).toUInt32.toUInt16.toUInt32.toInt32), .val (.int (own_b (767 : Int32))), .val (.int (own_b (768 : Int32))), .unset, .unset, .unset] [(.int (p2 &&& (65535 : Int32)).toUInt32.toUInt16.toUInt32.toInt32)])) t
      exact k)
    obtain ⟨_, _, ⟨T35, L35, k35, n35⟩, -, X35, ⟨Lc35, hQ35, l35, y35, z35⟩, st35⟩ := Jvm.LawKit.callS X32 hx (y := (⟨"com/example/precis/precis/display/Nfc", "isBelowCombiningMarks", "(C)Z"⟩ : MethodName)) hown (mvT hZ (hw _ (List.mem_of_getElem? (i := 1) rfl))) (mvT hZ (hw _ (List.mem_of_getElem? (i := 2) rfl))) (mvT hZ (hw _ (List.mem_of_getElem? (i := 3) rfl))) (mvT hZ (hw _ (List.mem_of_getElem? (i := 4) rfl))) (by decide) (backOf (W := 0) (rm1 l Z a0 hw [] ((p2 &&& (65535 : Int32)).toUInt32.toUInt16.toUInt32.toInt32) h0 n0 Z0 ) hZ (hw _ (List.mem_of_getElem? (i := 4) rfl)) (hw _ (List.mem_of_getElem? (i := 3) rfl)) (by decide) (by decide)) (g := (mkF m 54 #[.val (.int p1), .val (.int p2), .val (.int (p1 &&& (65535 : Int32)).toUInt32.toUInt16.toUInt32.toInt32), .val (.int (p2 &&& (65535 : Int32)).toUInt32.toUInt16.toUInt32.toInt32), .val (.int (p1 &&& (65535 : Int32)).toUInt32.toUInt16.toUInt32.toInt32), .val (.int (p2 &&& (65535 : Int32)).toUInt32.toUInt16.toUInt32.toInt32), .val (.int (own_b (767 : Int32))), .val (.int (own_b (768 : Int32))), .unset, .unset, .unset] [(.int (p2 &&& (65535 : Int32)).toUInt32.toUInt16.toUInt32.toInt32)])) rfl (by rw [hml]; rfl) (argsL := [(.int (p2 &&& (65535 : Int32)).toUInt32.toUInt16.toUInt32.toInt32)]) (rest := []) (lenOf pd_oCcZ rfl) rfl (by show 2 * 0 + _ ≤ _; exact Nat.le_of_eq rfl) (hb hby at_54) (fun _ _ => ⟨rfl, eh32, (by decide : 0 + 0 ≤ _), (by decide : 0 + 0 ≤ _)⟩)
    dsimp only [Pt.U, Pt.locs, Pt.cells, Pt.slots] at X35 l35 y35 z35 st35 hQ35
    subst l35 y35 z35
    obtain ⟨rfl, N35q, eh35⟩ := hQ35
    have N35 := Fr.app N32 N35q
    have pre36 : ∀ t, Steps p.tables e below (T35.setTop (mkF m 57 #[.val (.int p1), .val (.int p2), .val (.int (p1 &&& (65535 : Int32)).toUInt32.toUInt16.toUInt32.toInt32), .val (.int (p2 &&& (65535 : Int32)).toUInt32.toUInt16.toUInt32.toInt32), .val (.int (p1 &&& (65535 : Int32)).toUInt32.toUInt16.toUInt32.toInt32), .val (.int (p2 &&& (65535 : Int32)).toUInt32.toUInt16.toUInt32.toInt32), .val (.int (own_b (767 : Int32))), .val (.int (own_b (768 : Int32))), .unset, .unset, .unset] [(.int (own_b (p2 &&& (65535 : Int32)).toUInt32.toUInt16.toUInt32.toInt32))])) t → Steps p.tables e below (s₁.setTop (entryFrame m #[(.int p1), (.int p2)] maxLocals)) t := fun t k => pre34 t (st35 _ k)
    have pre37 : ∀ t, Steps p.tables e below (T35.setTop (mkF m 61 #[.val (.int p1), .val (.int p2), .val (.int (p1 &&& (65535 : Int32)).toUInt32.toUInt16.toUInt32.toInt32), .val (.int (p2 &&& (65535 : Int32)).toUInt32.toUInt16.toUInt32.toInt32), .val (.int (p1 &&& (65535 : Int32)).toUInt32.toUInt16.toUInt32.toInt32), .val (.int (p2 &&& (65535 : Int32)).toUInt32.toUInt16.toUInt32.toInt32), .val (.int (own_b (767 : Int32))), .val (.int (own_b (768 : Int32))), .val (.int (own_b (p2 &&& (65535 : Int32)).toUInt32.toUInt16.toUInt32.toInt32)), .unset, .unset] [(.int (p1 &&& (65535 : Int32)).toUInt32.toUInt16.toUInt32.toInt32)])) t → Steps p.tables e below (s₁.setTop (entryFrame m #[(.int p1), (.int p2)] maxLocals)) t := fun t k => pre36 t (by
      show Steps p.tables e below (T35.setTop (mkF m 57 #[.val (.int p1), .val (.int p2), .val (.int (p1 &&& (65535 : Int32)).toUInt32.toUInt16.toUInt32.toInt32), .val (.int (p2 &&& (65535 : Int32)).toUInt32.toUInt16.toUInt32.toInt32), .val (.int (p1 &&& (65535 : Int32)).toUInt32.toUInt16.toUInt32.toInt32), .val (.int (p2 &&& (65535 : Int32)).toUInt32.toUInt16.toUInt32.toInt32), .val (.int (own_b (767 : Int32))), .val (.int (own_b (768 : Int32))), .unset, .unset, .unset] [(.int (own_b (p2 &&& (65535 : Int32)).toUInt32.toUInt16.toUInt32.toInt32))])) t
      refine XS.istore X35.here hx rfl (hb hby at_57) rfl (l' := #[.val (.int p1), .val (.int p2), .val (.int (p1 &&& (65535 : Int32)).toUInt32.toUInt16.toUInt32.toInt32), .val (.int (p2 &&& (65535 : Int32)).toUInt32.toUInt16.toUInt32.toInt32), .val (.int (p1 &&& (65535 : Int32)).toUInt32.toUInt16.toUInt32.toInt32), .val (.int (p2 &&& (65535 : Int32)).toUInt32.toUInt16.toUInt32.toInt32), .val (.int (own_b (767 : Int32))), .val (.int (own_b (768 : Int32))), .val (.int (own_b (p2 &&& (65535 : Int32)).toUInt32.toUInt16.toUInt32.toInt32)), .unset, .unset]) rfl ?_
      show Steps p.tables e below (T35.setTop (mkF m 59 #[.val (.int p1), .val (.int p2), .val (.int (p1 &&& (65535 : Int32)).toUInt32.toUInt16.toUInt32.toInt32), .val (.int (p2 &&& (65535 : Int32)).toUInt32.toUInt16.toUInt32.toInt32), .val (.int (p1 &&& (65535 : Int32)).toUInt32.toUInt16.toUInt32.toInt32), .val (.int (p2 &&& (65535 : Int32)).toUInt32.toUInt16.toUInt32.toInt32), .val (.int (own_b (767 : Int32))), .val (.int (own_b (768 : Int32))), .val (.int (own_b (p2 &&& (65535 : Int32)).toUInt32.toUInt16.toUInt32.toInt32)), .unset, .unset] [])) t
      refine XS.iload X35.here hx rfl (hb hby at_59) rfl ?_
      show Steps p.tables e below (T35.setTop (mkF m 61 #[.val (.int p1), .val (.int p2), .val (.int (p1 &&& (65535 : Int32)).toUInt32.toUInt16.toUInt32.toInt32), .val (.int (p2 &&& (65535 : Int32)).toUInt32.toUInt16.toUInt32.toInt32), .val (.int (p1 &&& (65535 : Int32)).toUInt32.toUInt16.toUInt32.toInt32), .val (.int (p2 &&& (65535 : Int32)).toUInt32.toUInt16.toUInt32.toInt32), .val (.int (own_b (767 : Int32))), .val (.int (own_b (768 : Int32))), .val (.int (own_b (p2 &&& (65535 : Int32)).toUInt32.toUInt16.toUInt32.toInt32)), .unset, .unset] [(.int (p1 &&& (65535 : Int32)).toUInt32.toUInt16.toUInt32.toInt32)])) t
      exact k)
    obtain ⟨_, _, ⟨T38, L38, k38, n38⟩, -, X38, ⟨Lc38, hQ38, l38, y38, z38⟩, st38⟩ := Jvm.LawKit.callS X35 hx (y := (⟨"com/example/precis/precis/display/Nfc", "isBelowCombiningMarks", "(C)Z"⟩ : MethodName)) hown (mvT hZ (hw _ (List.mem_of_getElem? (i := 1) rfl))) (mvT hZ (hw _ (List.mem_of_getElem? (i := 2) rfl))) (mvT hZ (hw _ (List.mem_of_getElem? (i := 3) rfl))) (mvT hZ (hw _ (List.mem_of_getElem? (i := 4) rfl))) (by decide) (backOf (W := 0) (rm1 l Z a0 hw [] ((p1 &&& (65535 : Int32)).toUInt32.toUInt16.toUInt32.toInt32) h0 n0 Z0 ) hZ (hw _ (List.mem_of_getElem? (i := 4) rfl)) (hw _ (List.mem_of_getElem? (i := 3) rfl)) (by decide) (by decide)) (g := (mkF m 61 #[.val (.int p1), .val (.int p2), .val (.int (p1 &&& (65535 : Int32)).toUInt32.toUInt16.toUInt32.toInt32), .val (.int (p2 &&& (65535 : Int32)).toUInt32.toUInt16.toUInt32.toInt32), .val (.int (p1 &&& (65535 : Int32)).toUInt32.toUInt16.toUInt32.toInt32), .val (.int (p2 &&& (65535 : Int32)).toUInt32.toUInt16.toUInt32.toInt32), .val (.int (own_b (767 : Int32))), .val (.int (own_b (768 : Int32))), .val (.int (own_b (p2 &&& (65535 : Int32)).toUInt32.toUInt16.toUInt32.toInt32)), .unset, .unset] [(.int (p1 &&& (65535 : Int32)).toUInt32.toUInt16.toUInt32.toInt32)])) rfl (by rw [hml]; rfl) (argsL := [(.int (p1 &&& (65535 : Int32)).toUInt32.toUInt16.toUInt32.toInt32)]) (rest := []) (lenOf pd_oCcZ rfl) rfl (by show 2 * 0 + _ ≤ _; exact Nat.le_of_eq rfl) (hb hby at_61) (fun _ _ => ⟨rfl, eh35, (by decide : 0 + 0 ≤ _), (by decide : 0 + 0 ≤ _)⟩)
    dsimp only [Pt.U, Pt.locs, Pt.cells, Pt.slots] at X38 l38 y38 z38 st38 hQ38
    subst l38 y38 z38
    obtain ⟨rfl, N38q, eh38⟩ := hQ38
    have N38 := Fr.app N35 N38q
    have pre39 : ∀ t, Steps p.tables e below (T38.setTop (mkF m 64 #[.val (.int p1), .val (.int p2), .val (.int (p1 &&& (65535 : Int32)).toUInt32.toUInt16.toUInt32.toInt32), .val (.int (p2 &&& (65535 : Int32)).toUInt32.toUInt16.toUInt32.toInt32), .val (.int (p1 &&& (65535 : Int32)).toUInt32.toUInt16.toUInt32.toInt32), .val (.int (p2 &&& (65535 : Int32)).toUInt32.toUInt16.toUInt32.toInt32), .val (.int (own_b (767 : Int32))), .val (.int (own_b (768 : Int32))), .val (.int (own_b (p2 &&& (65535 : Int32)).toUInt32.toUInt16.toUInt32.toInt32)), .unset, .unset] [(.int (own_b (p1 &&& (65535 : Int32)).toUInt32.toUInt16.toUInt32.toInt32))])) t → Steps p.tables e below (s₁.setTop (entryFrame m #[(.int p1), (.int p2)] maxLocals)) t := fun t k => pre37 t (st38 _ k)
    have pre41 : ∀ t, Steps p.tables e below (T38.setTop (mkF m 68 #[.val (.int p1), .val (.int p2), .val (.int (p1 &&& (65535 : Int32)).toUInt32.toUInt16.toUInt32.toInt32), .val (.int (p2 &&& (65535 : Int32)).toUInt32.toUInt16.toUInt32.toInt32), .val (.int (p1 &&& (65535 : Int32)).toUInt32.toUInt16.toUInt32.toInt32), .val (.int (p2 &&& (65535 : Int32)).toUInt32.toUInt16.toUInt32.toInt32), .val (.int (own_b (767 : Int32))), .val (.int (own_b (768 : Int32))), .val (.int (own_b (p2 &&& (65535 : Int32)).toUInt32.toUInt16.toUInt32.toInt32)), .val (.int (own_b (p1 &&& (65535 : Int32)).toUInt32.toUInt16.toUInt32.toInt32)), .unset] [(.int (own_b (p2 &&& (65535 : Int32)).toUInt32.toUInt16.toUInt32.toInt32))])) t → Steps p.tables e below (s₁.setTop (entryFrame m #[(.int p1), (.int p2)] maxLocals)) t := fun t k => pre39 t (by
      show Steps p.tables e below (T38.setTop (mkF m 64 #[.val (.int p1), .val (.int p2), .val (.int (p1 &&& (65535 : Int32)).toUInt32.toUInt16.toUInt32.toInt32), .val (.int (p2 &&& (65535 : Int32)).toUInt32.toUInt16.toUInt32.toInt32), .val (.int (p1 &&& (65535 : Int32)).toUInt32.toUInt16.toUInt32.toInt32), .val (.int (p2 &&& (65535 : Int32)).toUInt32.toUInt16.toUInt32.toInt32), .val (.int (own_b (767 : Int32))), .val (.int (own_b (768 : Int32))), .val (.int (own_b (p2 &&& (65535 : Int32)).toUInt32.toUInt16.toUInt32.toInt32)), .unset, .unset] [(.int (own_b (p1 &&& (65535 : Int32)).toUInt32.toUInt16.toUInt32.toInt32))])) t
      refine XS.istore X38.here hx rfl (hb hby at_64) rfl (l' := #[.val (.int p1), .val (.int p2), .val (.int (p1 &&& (65535 : Int32)).toUInt32.toUInt16.toUInt32.toInt32), .val (.int (p2 &&& (65535 : Int32)).toUInt32.toUInt16.toUInt32.toInt32), .val (.int (p1 &&& (65535 : Int32)).toUInt32.toUInt16.toUInt32.toInt32), .val (.int (p2 &&& (65535 : Int32)).toUInt32.toUInt16.toUInt32.toInt32), .val (.int (own_b (767 : Int32))), .val (.int (own_b (768 : Int32))), .val (.int (own_b (p2 &&& (65535 : Int32)).toUInt32.toUInt16.toUInt32.toInt32)), .val (.int (own_b (p1 &&& (65535 : Int32)).toUInt32.toUInt16.toUInt32.toInt32)), .unset]) rfl ?_
      show Steps p.tables e below (T38.setTop (mkF m 66 #[.val (.int p1), .val (.int p2), .val (.int (p1 &&& (65535 : Int32)).toUInt32.toUInt16.toUInt32.toInt32), .val (.int (p2 &&& (65535 : Int32)).toUInt32.toUInt16.toUInt32.toInt32), .val (.int (p1 &&& (65535 : Int32)).toUInt32.toUInt16.toUInt32.toInt32), .val (.int (p2 &&& (65535 : Int32)).toUInt32.toUInt16.toUInt32.toInt32), .val (.int (own_b (767 : Int32))), .val (.int (own_b (768 : Int32))), .val (.int (own_b (p2 &&& (65535 : Int32)).toUInt32.toUInt16.toUInt32.toInt32)), .val (.int (own_b (p1 &&& (65535 : Int32)).toUInt32.toUInt16.toUInt32.toInt32)), .unset] [])) t
      refine XS.iload X38.here hx rfl (hb hby at_66) rfl ?_
      show Steps p.tables e below (T38.setTop (mkF m 68 #[.val (.int p1), .val (.int p2), .val (.int (p1 &&& (65535 : Int32)).toUInt32.toUInt16.toUInt32.toInt32), .val (.int (p2 &&& (65535 : Int32)).toUInt32.toUInt16.toUInt32.toInt32), .val (.int (p1 &&& (65535 : Int32)).toUInt32.toUInt16.toUInt32.toInt32), .val (.int (p2 &&& (65535 : Int32)).toUInt32.toUInt16.toUInt32.toInt32), .val (.int (own_b (767 : Int32))), .val (.int (own_b (768 : Int32))), .val (.int (own_b (p2 &&& (65535 : Int32)).toUInt32.toUInt16.toUInt32.toInt32)), .val (.int (own_b (p1 &&& (65535 : Int32)).toUInt32.toUInt16.toUInt32.toInt32)), .unset] [(.int (own_b (p2 &&& (65535 : Int32)).toUInt32.toUInt16.toUInt32.toInt32))])) t
      exact k)
    by_cases hc68_40 : (own_b (p2 &&& (65535 : Int32)).toUInt32.toUInt16.toUInt32.toInt32) = (0 : Int32)
    · skip
      have pre45 : ∀ t, Steps p.tables e below (T38.setTop (mkF m 103 #[.val (.int p1), .val (.int p2), .val (.int (p1 &&& (65535 : Int32)).toUInt32.toUInt16.toUInt32.toInt32), .val (.int (p2 &&& (65535 : Int32)).toUInt32.toUInt16.toUInt32.toInt32), .val (.int (p1 &&& (65535 : Int32)).toUInt32.toUInt16.toUInt32.toInt32), .val (.int (p2 &&& (65535 : Int32)).toUInt32.toUInt16.toUInt32.toInt32), .val (.int (own_b (767 : Int32))), .val (.int (own_b (768 : Int32))), .val (.int (own_b (p2 &&& (65535 : Int32)).toUInt32.toUInt16.toUInt32.toInt32)), .val (.int (own_b (p1 &&& (65535 : Int32)).toUInt32.toUInt16.toUInt32.toInt32)), .val (.int (1 : Int32))] [(.int (1 : Int32))])) t → Steps p.tables e below (s₁.setTop (entryFrame m #[(.int p1), (.int p2)] maxLocals)) t := fun t k => pre41 t (by
        show Steps p.tables e below (T38.setTop (mkF m 68 #[.val (.int p1), .val (.int p2), .val (.int (p1 &&& (65535 : Int32)).toUInt32.toUInt16.toUInt32.toInt32), .val (.int (p2 &&& (65535 : Int32)).toUInt32.toUInt16.toUInt32.toInt32), .val (.int (p1 &&& (65535 : Int32)).toUInt32.toUInt16.toUInt32.toInt32), .val (.int (p2 &&& (65535 : Int32)).toUInt32.toUInt16.toUInt32.toInt32), .val (.int (own_b (767 : Int32))), .val (.int (own_b (768 : Int32))), .val (.int (own_b (p2 &&& (65535 : Int32)).toUInt32.toUInt16.toUInt32.toInt32)), .val (.int (own_b (p1 &&& (65535 : Int32)).toUInt32.toUInt16.toUInt32.toInt32)), .unset] [(.int (own_b (p2 &&& (65535 : Int32)).toUInt32.toUInt16.toUInt32.toInt32))])) t
        refine XS.ifYes X38.here hx rfl (pc0 := 68) (pc' := 76) rfl (hb hby at_68) rfl (XT.i0_eq_t hc68_40) (by decide) (by decide) ?_
        show Steps p.tables e below (T38.setTop (mkF m 76 #[.val (.int p1), .val (.int p2), .val (.int (p1 &&& (65535 : Int32)).toUInt32.toUInt16.toUInt32.toInt32), .val (.int (p2 &&& (65535 : Int32)).toUInt32.toUInt16.toUInt32.toInt32), .val (.int (p1 &&& (65535 : Int32)).toUInt32.toUInt16.toUInt32.toInt32), .val (.int (p2 &&& (65535 : Int32)).toUInt32.toUInt16.toUInt32.toInt32), .val (.int (own_b (767 : Int32))), .val (.int (own_b (768 : Int32))), .val (.int (own_b (p2 &&& (65535 : Int32)).toUInt32.toUInt16.toUInt32.toInt32)), .val (.int (own_b (p1 &&& (65535 : Int32)).toUInt32.toUInt16.toUInt32.toInt32)), .unset] [])) t
        refine XS.iconst X38.here hx rfl (hb hby at_76) ?_
        show Steps p.tables e below (T38.setTop (mkF m 77 #[.val (.int p1), .val (.int p2), .val (.int (p1 &&& (65535 : Int32)).toUInt32.toUInt16.toUInt32.toInt32), .val (.int (p2 &&& (65535 : Int32)).toUInt32.toUInt16.toUInt32.toInt32), .val (.int (p1 &&& (65535 : Int32)).toUInt32.toUInt16.toUInt32.toInt32), .val (.int (p2 &&& (65535 : Int32)).toUInt32.toUInt16.toUInt32.toInt32), .val (.int (own_b (767 : Int32))), .val (.int (own_b (768 : Int32))), .val (.int (own_b (p2 &&& (65535 : Int32)).toUInt32.toUInt16.toUInt32.toInt32)), .val (.int (own_b (p1 &&& (65535 : Int32)).toUInt32.toUInt16.toUInt32.toInt32)), .unset] [(.int (1 : Int32))])) t
        refine XS.goto X38.here hx rfl (pc0 := 77) (pc' := 81) rfl (hb hby at_77) (by decide) (by decide) ?_
        show Steps p.tables e below (T38.setTop (mkF m 81 #[.val (.int p1), .val (.int p2), .val (.int (p1 &&& (65535 : Int32)).toUInt32.toUInt16.toUInt32.toInt32), .val (.int (p2 &&& (65535 : Int32)).toUInt32.toUInt16.toUInt32.toInt32), .val (.int (p1 &&& (65535 : Int32)).toUInt32.toUInt16.toUInt32.toInt32), .val (.int (p2 &&& (65535 : Int32)).toUInt32.toUInt16.toUInt32.toInt32), .val (.int (own_b (767 : Int32))), .val (.int (own_b (768 : Int32))), .val (.int (own_b (p2 &&& (65535 : Int32)).toUInt32.toUInt16.toUInt32.toInt32)), .val (.int (own_b (p1 &&& (65535 : Int32)).toUInt32.toUInt16.toUInt32.toInt32)), .unset] [(.int (1 : Int32))])) t
        refine XS.istore X38.here hx rfl (hb hby at_81) rfl (l' := #[.val (.int p1), .val (.int p2), .val (.int (p1 &&& (65535 : Int32)).toUInt32.toUInt16.toUInt32.toInt32), .val (.int (p2 &&& (65535 : Int32)).toUInt32.toUInt16.toUInt32.toInt32), .val (.int (p1 &&& (65535 : Int32)).toUInt32.toUInt16.toUInt32.toInt32), .val (.int (p2 &&& (65535 : Int32)).toUInt32.toUInt16.toUInt32.toInt32), .val (.int (own_b (767 : Int32))), .val (.int (own_b (768 : Int32))), .val (.int (own_b (p2 &&& (65535 : Int32)).toUInt32.toUInt16.toUInt32.toInt32)), .val (.int (own_b (p1 &&& (65535 : Int32)).toUInt32.toUInt16.toUInt32.toInt32)), .val (.int (1 : Int32))]) rfl ?_
        show Steps p.tables e below (T38.setTop (mkF m 83 #[.val (.int p1), .val (.int p2), .val (.int (p1 &&& (65535 : Int32)).toUInt32.toUInt16.toUInt32.toInt32), .val (.int (p2 &&& (65535 : Int32)).toUInt32.toUInt16.toUInt32.toInt32), .val (.int (p1 &&& (65535 : Int32)).toUInt32.toUInt16.toUInt32.toInt32), .val (.int (p2 &&& (65535 : Int32)).toUInt32.toUInt16.toUInt32.toInt32), .val (.int (own_b (767 : Int32))), .val (.int (own_b (768 : Int32))), .val (.int (own_b (p2 &&& (65535 : Int32)).toUInt32.toUInt16.toUInt32.toInt32)), .val (.int (own_b (p1 &&& (65535 : Int32)).toUInt32.toUInt16.toUInt32.toInt32)), .val (.int (1 : Int32))] [])) t
        refine XS.iload X38.here hx rfl (hb hby at_83) rfl ?_
        show Steps p.tables e below (T38.setTop (mkF m 85 #[.val (.int p1), .val (.int p2), .val (.int (p1 &&& (65535 : Int32)).toUInt32.toUInt16.toUInt32.toInt32), .val (.int (p2 &&& (65535 : Int32)).toUInt32.toUInt16.toUInt32.toInt32), .val (.int (p1 &&& (65535 : Int32)).toUInt32.toUInt16.toUInt32.toInt32), .val (.int (p2 &&& (65535 : Int32)).toUInt32.toUInt16.toUInt32.toInt32), .val (.int (own_b (767 : Int32))), .val (.int (own_b (768 : Int32))), .val (.int (own_b (p2 &&& (65535 : Int32)).toUInt32.toUInt16.toUInt32.toInt32)), .val (.int (own_b (p1 &&& (65535 : Int32)).toUInt32.toUInt16.toUInt32.toInt32)), .val (.int (1 : Int32))] [(.int (own_b (767 : Int32)))])) t
        refine XS.ifNo X38.here hx rfl (hb hby at_85) rfl (XT.i0_eq_f (show ¬ ((own_b (767 : Int32)) = (0 : Int32)) from by decide)) ?_
        show Steps p.tables e below (T38.setTop (mkF m 88 #[.val (.int p1), .val (.int p2), .val (.int (p1 &&& (65535 : Int32)).toUInt32.toUInt16.toUInt32.toInt32), .val (.int (p2 &&& (65535 : Int32)).toUInt32.toUInt16.toUInt32.toInt32), .val (.int (p1 &&& (65535 : Int32)).toUInt32.toUInt16.toUInt32.toInt32), .val (.int (p2 &&& (65535 : Int32)).toUInt32.toUInt16.toUInt32.toInt32), .val (.int (own_b (767 : Int32))), .val (.int (own_b (768 : Int32))), .val (.int (own_b (p2 &&& (65535 : Int32)).toUInt32.toUInt16.toUInt32.toInt32)), .val (.int (own_b (p1 &&& (65535 : Int32)).toUInt32.toUInt16.toUInt32.toInt32)), .val (.int (1 : Int32))] [])) t
        refine XS.iload X38.here hx rfl (hb hby at_88) rfl ?_
        show Steps p.tables e below (T38.setTop (mkF m 90 #[.val (.int p1), .val (.int p2), .val (.int (p1 &&& (65535 : Int32)).toUInt32.toUInt16.toUInt32.toInt32), .val (.int (p2 &&& (65535 : Int32)).toUInt32.toUInt16.toUInt32.toInt32), .val (.int (p1 &&& (65535 : Int32)).toUInt32.toUInt16.toUInt32.toInt32), .val (.int (p2 &&& (65535 : Int32)).toUInt32.toUInt16.toUInt32.toInt32), .val (.int (own_b (767 : Int32))), .val (.int (own_b (768 : Int32))), .val (.int (own_b (p2 &&& (65535 : Int32)).toUInt32.toUInt16.toUInt32.toInt32)), .val (.int (own_b (p1 &&& (65535 : Int32)).toUInt32.toUInt16.toUInt32.toInt32)), .val (.int (1 : Int32))] [(.int (own_b (768 : Int32)))])) t
        refine XS.ifNo X38.here hx rfl (hb hby at_90) rfl (XT.i0_ne_f (show (own_b (768 : Int32)) = (0 : Int32) from by decide)) ?_
        show Steps p.tables e below (T38.setTop (mkF m 93 #[.val (.int p1), .val (.int p2), .val (.int (p1 &&& (65535 : Int32)).toUInt32.toUInt16.toUInt32.toInt32), .val (.int (p2 &&& (65535 : Int32)).toUInt32.toUInt16.toUInt32.toInt32), .val (.int (p1 &&& (65535 : Int32)).toUInt32.toUInt16.toUInt32.toInt32), .val (.int (p2 &&& (65535 : Int32)).toUInt32.toUInt16.toUInt32.toInt32), .val (.int (own_b (767 : Int32))), .val (.int (own_b (768 : Int32))), .val (.int (own_b (p2 &&& (65535 : Int32)).toUInt32.toUInt16.toUInt32.toInt32)), .val (.int (own_b (p1 &&& (65535 : Int32)).toUInt32.toUInt16.toUInt32.toInt32)), .val (.int (1 : Int32))] [])) t
        refine XS.iload X38.here hx rfl (hb hby at_93) rfl ?_
        show Steps p.tables e below (T38.setTop (mkF m 95 #[.val (.int p1), .val (.int p2), .val (.int (p1 &&& (65535 : Int32)).toUInt32.toUInt16.toUInt32.toInt32), .val (.int (p2 &&& (65535 : Int32)).toUInt32.toUInt16.toUInt32.toInt32), .val (.int (p1 &&& (65535 : Int32)).toUInt32.toUInt16.toUInt32.toInt32), .val (.int (p2 &&& (65535 : Int32)).toUInt32.toUInt16.toUInt32.toInt32), .val (.int (own_b (767 : Int32))), .val (.int (own_b (768 : Int32))), .val (.int (own_b (p2 &&& (65535 : Int32)).toUInt32.toUInt16.toUInt32.toInt32)), .val (.int (own_b (p1 &&& (65535 : Int32)).toUInt32.toUInt16.toUInt32.toInt32)), .val (.int (1 : Int32))] [(.int (1 : Int32))])) t
        refine XS.ifNo X38.here hx rfl (hb hby at_95) rfl (XT.i0_eq_f (show ¬ ((1 : Int32) = (0 : Int32)) from by decide)) ?_
        show Steps p.tables e below (T38.setTop (mkF m 98 #[.val (.int p1), .val (.int p2), .val (.int (p1 &&& (65535 : Int32)).toUInt32.toUInt16.toUInt32.toInt32), .val (.int (p2 &&& (65535 : Int32)).toUInt32.toUInt16.toUInt32.toInt32), .val (.int (p1 &&& (65535 : Int32)).toUInt32.toUInt16.toUInt32.toInt32), .val (.int (p2 &&& (65535 : Int32)).toUInt32.toUInt16.toUInt32.toInt32), .val (.int (own_b (767 : Int32))), .val (.int (own_b (768 : Int32))), .val (.int (own_b (p2 &&& (65535 : Int32)).toUInt32.toUInt16.toUInt32.toInt32)), .val (.int (own_b (p1 &&& (65535 : Int32)).toUInt32.toUInt16.toUInt32.toInt32)), .val (.int (1 : Int32))] [])) t
        refine XS.iconst X38.here hx rfl (hb hby at_98) ?_
        show Steps p.tables e below (T38.setTop (mkF m 99 #[.val (.int p1), .val (.int p2), .val (.int (p1 &&& (65535 : Int32)).toUInt32.toUInt16.toUInt32.toInt32), .val (.int (p2 &&& (65535 : Int32)).toUInt32.toUInt16.toUInt32.toInt32), .val (.int (p1 &&& (65535 : Int32)).toUInt32.toUInt16.toUInt32.toInt32), .val (.int (p2 &&& (65535 : Int32)).toUInt32.toUInt16.toUInt32.toInt32), .val (.int (own_b (767 : Int32))), .val (.int (own_b (768 : Int32))), .val (.int (own_b (p2 &&& (65535 : Int32)).toUInt32.toUInt16.toUInt32.toInt32)), .val (.int (own_b (p1 &&& (65535 : Int32)).toUInt32.toUInt16.toUInt32.toInt32)), .val (.int (1 : Int32))] [(.int (1 : Int32))])) t
        refine XS.goto X38.here hx rfl (pc0 := 99) (pc' := 103) rfl (hb hby at_99) (by decide) (by decide) ?_
        show Steps p.tables e below (T38.setTop (mkF m 103 #[.val (.int p1), .val (.int p2), .val (.int (p1 &&& (65535 : Int32)).toUInt32.toUInt16.toUInt32.toInt32), .val (.int (p2 &&& (65535 : Int32)).toUInt32.toUInt16.toUInt32.toInt32), .val (.int (p1 &&& (65535 : Int32)).toUInt32.toUInt16.toUInt32.toInt32), .val (.int (p2 &&& (65535 : Int32)).toUInt32.toUInt16.toUInt32.toInt32), .val (.int (own_b (767 : Int32))), .val (.int (own_b (768 : Int32))), .val (.int (own_b (p2 &&& (65535 : Int32)).toUInt32.toUInt16.toUInt32.toInt32)), .val (.int (own_b (p1 &&& (65535 : Int32)).toUInt32.toUInt16.toUInt32.toInt32)), .val (.int (1 : Int32))] [(.int (1 : Int32))])) t
        exact k)
      obtain ⟨fs, hr, hrun, hended, hW, hsame⟩ := X38.leave (v := some (.int (1 : Int32))) (fun h => by rw [Bd.returns] at h; cases h)
      refine ⟨_, _, pre45 _ ?_, hrun, hended, _, _, rfl, ?_, ⟨_, rfl⟩, hW, hsame.mono (by decide) (by decide)⟩
      · show Steps p.tables e below (T38.setTop (mkF m 103 #[.val (.int p1), .val (.int p2), .val (.int (p1 &&& (65535 : Int32)).toUInt32.toUInt16.toUInt32.toInt32), .val (.int (p2 &&& (65535 : Int32)).toUInt32.toUInt16.toUInt32.toInt32), .val (.int (p1 &&& (65535 : Int32)).toUInt32.toUInt16.toUInt32.toInt32), .val (.int (p2 &&& (65535 : Int32)).toUInt32.toUInt16.toUInt32.toInt32), .val (.int (own_b (767 : Int32))), .val (.int (own_b (768 : Int32))), .val (.int (own_b (p2 &&& (65535 : Int32)).toUInt32.toUInt16.toUInt32.toInt32)), .val (.int (own_b (p1 &&& (65535 : Int32)).toUInt32.toUInt16.toUInt32.toInt32)), .val (.int (1 : Int32))] [(.int (1 : Int32))])) _
        exact retN X38 hx (t := .boolean) Bd.returns (by simp) (hb hby at_103) hr
      · show Q0 Z p1 p2 h0 n0 _ T38.heap _
        rw [eh38]
        exact ⟨rfl, N38⟩
    · skip
      have pre50 : ∀ t, Steps p.tables e below (T38.setTop (mkF m 103 #[.val (.int p1), .val (.int p2), .val (.int (p1 &&& (65535 : Int32)).toUInt32.toUInt16.toUInt32.toInt32), .val (.int (p2 &&& (65535 : Int32)).toUInt32.toUInt16.toUInt32.toInt32), .val (.int (p1 &&& (65535 : Int32)).toUInt32.toUInt16.toUInt32.toInt32), .val (.int (p2 &&& (65535 : Int32)).toUInt32.toUInt16.toUInt32.toInt32), .val (.int (own_b (767 : Int32))), .val (.int (own_b (768 : Int32))), .val (.int (own_b (p2 &&& (65535 : Int32)).toUInt32.toUInt16.toUInt32.toInt32)), .val (.int (own_b (p1 &&& (65535 : Int32)).toUInt32.toUInt16.toUInt32.toInt32)), .val (.int (1 : Int32))] [(.int (1 : Int32))])) t → Steps p.tables e below (s₁.setTop (entryFrame m #[(.int p1), (.int p2)] maxLocals)) t := fun t k => pre41 t (by
        show Steps p.tables e below (T38.setTop (mkF m 68 #[.val (.int p1), .val (.int p2), .val (.int (p1 &&& (65535 : Int32)).toUInt32.toUInt16.toUInt32.toInt32), .val (.int (p2 &&& (65535 : Int32)).toUInt32.toUInt16.toUInt32.toInt32), .val (.int (p1 &&& (65535 : Int32)).toUInt32.toUInt16.toUInt32.toInt32), .val (.int (p2 &&& (65535 : Int32)).toUInt32.toUInt16.toUInt32.toInt32), .val (.int (own_b (767 : Int32))), .val (.int (own_b (768 : Int32))), .val (.int (own_b (p2 &&& (65535 : Int32)).toUInt32.toUInt16.toUInt32.toInt32)), .val (.int (own_b (p1 &&& (65535 : Int32)).toUInt32.toUInt16.toUInt32.toInt32)), .unset] [(.int (own_b (p2 &&& (65535 : Int32)).toUInt32.toUInt16.toUInt32.toInt32))])) t
        refine XS.ifNo X38.here hx rfl (hb hby at_68) rfl (XT.i0_eq_f hc68_40) ?_
        show Steps p.tables e below (T38.setTop (mkF m 71 #[.val (.int p1), .val (.int p2), .val (.int (p1 &&& (65535 : Int32)).toUInt32.toUInt16.toUInt32.toInt32), .val (.int (p2 &&& (65535 : Int32)).toUInt32.toUInt16.toUInt32.toInt32), .val (.int (p1 &&& (65535 : Int32)).toUInt32.toUInt16.toUInt32.toInt32), .val (.int (p2 &&& (65535 : Int32)).toUInt32.toUInt16.toUInt32.toInt32), .val (.int (own_b (767 : Int32))), .val (.int (own_b (768 : Int32))), .val (.int (own_b (p2 &&& (65535 : Int32)).toUInt32.toUInt16.toUInt32.toInt32)), .val (.int (own_b (p1 &&& (65535 : Int32)).toUInt32.toUInt16.toUInt32.toInt32)), .unset] [])) t
        refine XS.iload X38.here hx rfl (hb hby at_71) rfl ?_
        show Steps p.tables e below (T38.setTop (mkF m 73 #[.val (.int p1), .val (.int p2), .val (.int (p1 &&& (65535 : Int32)).toUInt32.toUInt16.toUInt32.toInt32), .val (.int (p2 &&& (65535 : Int32)).toUInt32.toUInt16.toUInt32.toInt32), .val (.int (p1 &&& (65535 : Int32)).toUInt32.toUInt16.toUInt32.toInt32), .val (.int (p2 &&& (65535 : Int32)).toUInt32.toUInt16.toUInt32.toInt32), .val (.int (own_b (767 : Int32))), .val (.int (own_b (768 : Int32))), .val (.int (own_b (p2 &&& (65535 : Int32)).toUInt32.toUInt16.toUInt32.toInt32)), .val (.int (own_b (p1 &&& (65535 : Int32)).toUInt32.toUInt16.toUInt32.toInt32)), .unset] [(.int (own_b (p1 &&& (65535 : Int32)).toUInt32.toUInt16.toUInt32.toInt32))])) t
        refine XS.ifNo X38.here hx rfl (hb hby at_73) rfl (XT.i0_eq_f (show ¬ ((own_b (p1 &&& (65535 : Int32)).toUInt32.toUInt16.toUInt32.toInt32) = (0 : Int32)) from by first | exact own_mono (by assumption) (by assumption) | exact own_mono' (by assumption) (by assumption))) ?_
        show Steps p.tables e below (T38.setTop (mkF m 76 #[.val (.int p1), .val (.int p2), .val (.int (p1 &&& (65535 : Int32)).toUInt32.toUInt16.toUInt32.toInt32), .val (.int (p2 &&& (65535 : Int32)).toUInt32.toUInt16.toUInt32.toInt32), .val (.int (p1 &&& (65535 : Int32)).toUInt32.toUInt16.toUInt32.toInt32), .val (.int (p2 &&& (65535 : Int32)).toUInt32.toUInt16.toUInt32.toInt32), .val (.int (own_b (767 : Int32))), .val (.int (own_b (768 : Int32))), .val (.int (own_b (p2 &&& (65535 : Int32)).toUInt32.toUInt16.toUInt32.toInt32)), .val (.int (own_b (p1 &&& (65535 : Int32)).toUInt32.toUInt16.toUInt32.toInt32)), .unset] [])) t
        refine XS.iconst X38.here hx rfl (hb hby at_76) ?_
        show Steps p.tables e below (T38.setTop (mkF m 77 #[.val (.int p1), .val (.int p2), .val (.int (p1 &&& (65535 : Int32)).toUInt32.toUInt16.toUInt32.toInt32), .val (.int (p2 &&& (65535 : Int32)).toUInt32.toUInt16.toUInt32.toInt32), .val (.int (p1 &&& (65535 : Int32)).toUInt32.toUInt16.toUInt32.toInt32), .val (.int (p2 &&& (65535 : Int32)).toUInt32.toUInt16.toUInt32.toInt32), .val (.int (own_b (767 : Int32))), .val (.int (own_b (768 : Int32))), .val (.int (own_b (p2 &&& (65535 : Int32)).toUInt32.toUInt16.toUInt32.toInt32)), .val (.int (own_b (p1 &&& (65535 : Int32)).toUInt32.toUInt16.toUInt32.toInt32)), .unset] [(.int (1 : Int32))])) t
        refine XS.goto X38.here hx rfl (pc0 := 77) (pc' := 81) rfl (hb hby at_77) (by decide) (by decide) ?_
        show Steps p.tables e below (T38.setTop (mkF m 81 #[.val (.int p1), .val (.int p2), .val (.int (p1 &&& (65535 : Int32)).toUInt32.toUInt16.toUInt32.toInt32), .val (.int (p2 &&& (65535 : Int32)).toUInt32.toUInt16.toUInt32.toInt32), .val (.int (p1 &&& (65535 : Int32)).toUInt32.toUInt16.toUInt32.toInt32), .val (.int (p2 &&& (65535 : Int32)).toUInt32.toUInt16.toUInt32.toInt32), .val (.int (own_b (767 : Int32))), .val (.int (own_b (768 : Int32))), .val (.int (own_b (p2 &&& (65535 : Int32)).toUInt32.toUInt16.toUInt32.toInt32)), .val (.int (own_b (p1 &&& (65535 : Int32)).toUInt32.toUInt16.toUInt32.toInt32)), .unset] [(.int (1 : Int32))])) t
        refine XS.istore X38.here hx rfl (hb hby at_81) rfl (l' := #[.val (.int p1), .val (.int p2), .val (.int (p1 &&& (65535 : Int32)).toUInt32.toUInt16.toUInt32.toInt32), .val (.int (p2 &&& (65535 : Int32)).toUInt32.toUInt16.toUInt32.toInt32), .val (.int (p1 &&& (65535 : Int32)).toUInt32.toUInt16.toUInt32.toInt32), .val (.int (p2 &&& (65535 : Int32)).toUInt32.toUInt16.toUInt32.toInt32), .val (.int (own_b (767 : Int32))), .val (.int (own_b (768 : Int32))), .val (.int (own_b (p2 &&& (65535 : Int32)).toUInt32.toUInt16.toUInt32.toInt32)), .val (.int (own_b (p1 &&& (65535 : Int32)).toUInt32.toUInt16.toUInt32.toInt32)), .val (.int (1 : Int32))]) rfl ?_
        show Steps p.tables e below (T38.setTop (mkF m 83 #[.val (.int p1), .val (.int p2), .val (.int (p1 &&& (65535 : Int32)).toUInt32.toUInt16.toUInt32.toInt32), .val (.int (p2 &&& (65535 : Int32)).toUInt32.toUInt16.toUInt32.toInt32), .val (.int (p1 &&& (65535 : Int32)).toUInt32.toUInt16.toUInt32.toInt32), .val (.int (p2 &&& (65535 : Int32)).toUInt32.toUInt16.toUInt32.toInt32), .val (.int (own_b (767 : Int32))), .val (.int (own_b (768 : Int32))), .val (.int (own_b (p2 &&& (65535 : Int32)).toUInt32.toUInt16.toUInt32.toInt32)), .val (.int (own_b (p1 &&& (65535 : Int32)).toUInt32.toUInt16.toUInt32.toInt32)), .val (.int (1 : Int32))] [])) t
        refine XS.iload X38.here hx rfl (hb hby at_83) rfl ?_
        show Steps p.tables e below (T38.setTop (mkF m 85 #[.val (.int p1), .val (.int p2), .val (.int (p1 &&& (65535 : Int32)).toUInt32.toUInt16.toUInt32.toInt32), .val (.int (p2 &&& (65535 : Int32)).toUInt32.toUInt16.toUInt32.toInt32), .val (.int (p1 &&& (65535 : Int32)).toUInt32.toUInt16.toUInt32.toInt32), .val (.int (p2 &&& (65535 : Int32)).toUInt32.toUInt16.toUInt32.toInt32), .val (.int (own_b (767 : Int32))), .val (.int (own_b (768 : Int32))), .val (.int (own_b (p2 &&& (65535 : Int32)).toUInt32.toUInt16.toUInt32.toInt32)), .val (.int (own_b (p1 &&& (65535 : Int32)).toUInt32.toUInt16.toUInt32.toInt32)), .val (.int (1 : Int32))] [(.int (own_b (767 : Int32)))])) t
        refine XS.ifNo X38.here hx rfl (hb hby at_85) rfl (XT.i0_eq_f (show ¬ ((own_b (767 : Int32)) = (0 : Int32)) from by decide)) ?_
        show Steps p.tables e below (T38.setTop (mkF m 88 #[.val (.int p1), .val (.int p2), .val (.int (p1 &&& (65535 : Int32)).toUInt32.toUInt16.toUInt32.toInt32), .val (.int (p2 &&& (65535 : Int32)).toUInt32.toUInt16.toUInt32.toInt32), .val (.int (p1 &&& (65535 : Int32)).toUInt32.toUInt16.toUInt32.toInt32), .val (.int (p2 &&& (65535 : Int32)).toUInt32.toUInt16.toUInt32.toInt32), .val (.int (own_b (767 : Int32))), .val (.int (own_b (768 : Int32))), .val (.int (own_b (p2 &&& (65535 : Int32)).toUInt32.toUInt16.toUInt32.toInt32)), .val (.int (own_b (p1 &&& (65535 : Int32)).toUInt32.toUInt16.toUInt32.toInt32)), .val (.int (1 : Int32))] [])) t
        refine XS.iload X38.here hx rfl (hb hby at_88) rfl ?_
        show Steps p.tables e below (T38.setTop (mkF m 90 #[.val (.int p1), .val (.int p2), .val (.int (p1 &&& (65535 : Int32)).toUInt32.toUInt16.toUInt32.toInt32), .val (.int (p2 &&& (65535 : Int32)).toUInt32.toUInt16.toUInt32.toInt32), .val (.int (p1 &&& (65535 : Int32)).toUInt32.toUInt16.toUInt32.toInt32), .val (.int (p2 &&& (65535 : Int32)).toUInt32.toUInt16.toUInt32.toInt32), .val (.int (own_b (767 : Int32))), .val (.int (own_b (768 : Int32))), .val (.int (own_b (p2 &&& (65535 : Int32)).toUInt32.toUInt16.toUInt32.toInt32)), .val (.int (own_b (p1 &&& (65535 : Int32)).toUInt32.toUInt16.toUInt32.toInt32)), .val (.int (1 : Int32))] [(.int (own_b (768 : Int32)))])) t
        refine XS.ifNo X38.here hx rfl (hb hby at_90) rfl (XT.i0_ne_f (show (own_b (768 : Int32)) = (0 : Int32) from by decide)) ?_
        show Steps p.tables e below (T38.setTop (mkF m 93 #[.val (.int p1), .val (.int p2), .val (.int (p1 &&& (65535 : Int32)).toUInt32.toUInt16.toUInt32.toInt32), .val (.int (p2 &&& (65535 : Int32)).toUInt32.toUInt16.toUInt32.toInt32), .val (.int (p1 &&& (65535 : Int32)).toUInt32.toUInt16.toUInt32.toInt32), .val (.int (p2 &&& (65535 : Int32)).toUInt32.toUInt16.toUInt32.toInt32), .val (.int (own_b (767 : Int32))), .val (.int (own_b (768 : Int32))), .val (.int (own_b (p2 &&& (65535 : Int32)).toUInt32.toUInt16.toUInt32.toInt32)), .val (.int (own_b (p1 &&& (65535 : Int32)).toUInt32.toUInt16.toUInt32.toInt32)), .val (.int (1 : Int32))] [])) t
        refine XS.iload X38.here hx rfl (hb hby at_93) rfl ?_
        show Steps p.tables e below (T38.setTop (mkF m 95 #[.val (.int p1), .val (.int p2), .val (.int (p1 &&& (65535 : Int32)).toUInt32.toUInt16.toUInt32.toInt32), .val (.int (p2 &&& (65535 : Int32)).toUInt32.toUInt16.toUInt32.toInt32), .val (.int (p1 &&& (65535 : Int32)).toUInt32.toUInt16.toUInt32.toInt32), .val (.int (p2 &&& (65535 : Int32)).toUInt32.toUInt16.toUInt32.toInt32), .val (.int (own_b (767 : Int32))), .val (.int (own_b (768 : Int32))), .val (.int (own_b (p2 &&& (65535 : Int32)).toUInt32.toUInt16.toUInt32.toInt32)), .val (.int (own_b (p1 &&& (65535 : Int32)).toUInt32.toUInt16.toUInt32.toInt32)), .val (.int (1 : Int32))] [(.int (1 : Int32))])) t
        refine XS.ifNo X38.here hx rfl (hb hby at_95) rfl (XT.i0_eq_f (show ¬ ((1 : Int32) = (0 : Int32)) from by decide)) ?_
        show Steps p.tables e below (T38.setTop (mkF m 98 #[.val (.int p1), .val (.int p2), .val (.int (p1 &&& (65535 : Int32)).toUInt32.toUInt16.toUInt32.toInt32), .val (.int (p2 &&& (65535 : Int32)).toUInt32.toUInt16.toUInt32.toInt32), .val (.int (p1 &&& (65535 : Int32)).toUInt32.toUInt16.toUInt32.toInt32), .val (.int (p2 &&& (65535 : Int32)).toUInt32.toUInt16.toUInt32.toInt32), .val (.int (own_b (767 : Int32))), .val (.int (own_b (768 : Int32))), .val (.int (own_b (p2 &&& (65535 : Int32)).toUInt32.toUInt16.toUInt32.toInt32)), .val (.int (own_b (p1 &&& (65535 : Int32)).toUInt32.toUInt16.toUInt32.toInt32)), .val (.int (1 : Int32))] [])) t
        refine XS.iconst X38.here hx rfl (hb hby at_98) ?_
        show Steps p.tables e below (T38.setTop (mkF m 99 #[.val (.int p1), .val (.int p2), .val (.int (p1 &&& (65535 : Int32)).toUInt32.toUInt16.toUInt32.toInt32), .val (.int (p2 &&& (65535 : Int32)).toUInt32.toUInt16.toUInt32.toInt32), .val (.int (p1 &&& (65535 : Int32)).toUInt32.toUInt16.toUInt32.toInt32), .val (.int (p2 &&& (65535 : Int32)).toUInt32.toUInt16.toUInt32.toInt32), .val (.int (own_b (767 : Int32))), .val (.int (own_b (768 : Int32))), .val (.int (own_b (p2 &&& (65535 : Int32)).toUInt32.toUInt16.toUInt32.toInt32)), .val (.int (own_b (p1 &&& (65535 : Int32)).toUInt32.toUInt16.toUInt32.toInt32)), .val (.int (1 : Int32))] [(.int (1 : Int32))])) t
        refine XS.goto X38.here hx rfl (pc0 := 99) (pc' := 103) rfl (hb hby at_99) (by decide) (by decide) ?_
        show Steps p.tables e below (T38.setTop (mkF m 103 #[.val (.int p1), .val (.int p2), .val (.int (p1 &&& (65535 : Int32)).toUInt32.toUInt16.toUInt32.toInt32), .val (.int (p2 &&& (65535 : Int32)).toUInt32.toUInt16.toUInt32.toInt32), .val (.int (p1 &&& (65535 : Int32)).toUInt32.toUInt16.toUInt32.toInt32), .val (.int (p2 &&& (65535 : Int32)).toUInt32.toUInt16.toUInt32.toInt32), .val (.int (own_b (767 : Int32))), .val (.int (own_b (768 : Int32))), .val (.int (own_b (p2 &&& (65535 : Int32)).toUInt32.toUInt16.toUInt32.toInt32)), .val (.int (own_b (p1 &&& (65535 : Int32)).toUInt32.toUInt16.toUInt32.toInt32)), .val (.int (1 : Int32))] [(.int (1 : Int32))])) t
        exact k)
      obtain ⟨fs, hr, hrun, hended, hW, hsame⟩ := X38.leave (v := some (.int (1 : Int32))) (fun h => by rw [Bd.returns] at h; cases h)
      refine ⟨_, _, pre50 _ ?_, hrun, hended, _, _, rfl, ?_, ⟨_, rfl⟩, hW, hsame.mono (by decide) (by decide)⟩
      · show Steps p.tables e below (T38.setTop (mkF m 103 #[.val (.int p1), .val (.int p2), .val (.int (p1 &&& (65535 : Int32)).toUInt32.toUInt16.toUInt32.toInt32), .val (.int (p2 &&& (65535 : Int32)).toUInt32.toUInt16.toUInt32.toInt32), .val (.int (p1 &&& (65535 : Int32)).toUInt32.toUInt16.toUInt32.toInt32), .val (.int (p2 &&& (65535 : Int32)).toUInt32.toUInt16.toUInt32.toInt32), .val (.int (own_b (767 : Int32))), .val (.int (own_b (768 : Int32))), .val (.int (own_b (p2 &&& (65535 : Int32)).toUInt32.toUInt16.toUInt32.toInt32)), .val (.int (own_b (p1 &&& (65535 : Int32)).toUInt32.toUInt16.toUInt32.toInt32)), .val (.int (1 : Int32))] [(.int (1 : Int32))])) _
        exact retN X38 hx (t := .boolean) Bd.returns (by simp) (hb hby at_103) hr
      · show Q0 Z p1 p2 h0 n0 _ T38.heap _
        rw [eh38]
        exact ⟨rfl, N38⟩
set_option maxRecDepth 65536 in
set_option maxHeartbeats 40000000 in
theorem comes_1 {Post : Tables → Env → Array Value → State → Outcome → State → Prop} (hpost : ∀ tb e args s v u, (limb_1_1.after args s (.returned v) u = true ∧ limb_1_2.after args s (.returned v) u = true ∧ True) → FrameEnd s (.returned v) u (Jvm.fieldLocs frame_1_writes args s ++ Jvm.arrayLocs frame_1_arrays args s ++ Jvm.staticLocs frame_1_statics s) 0 0 → Post tb e args s (.returned v) u) :
    ArmFor flags0 classFile x code maxLocals ret World_1 tables_1 room_1 Calls_1 rest_1 Pre_1 Post := by
  intro l hfl _ _ p e ha hc hk s m args below hf hA hF happ hP
  obtain ⟨hcalls, hrest, hpre⟩ := hP
  obtain ⟨-, -, -, hnamed, -, -, -, hat⟩ := (Spec.applies_iff hf).mp happ
  obtain ⟨hg, hn⟩ := and_e (Cond.before_iff.mp (show (Jvm.Cond.and given_1 narrow_1).before args s = true from hpre))
  obtain ⟨ga0, gb0⟩ := and_e hg
  obtain ⟨ga1, gb1⟩ := and_e gb0
  obtain ⟨w0, w1, rfl⟩ : ∃ w0 w1 : Value, args = #[w0, w1] := by
    have hs : args.size = 2 := by simpa [Cond.value, given_1] using ga0
    obtain ⟨L⟩ := args
    match L, hs with
    | [w0, w1], _ => exact ⟨w0, w1, rfl⟩
  have hw := fun d (hd : d ∈ tables_1) => atoms_spec (ws := Jvm.Cond.code x code maxLocals ret :: tables_1) hat d (List.mem_cons_of_mem _ hd)
  obtain ⟨i0, ei0⟩ := is_v ga1
  obtain rfl : w0 = (.int i0) := Option.some.inj ei0
  obtain ⟨i1, ei1⟩ := is_v gb1
  obtain rfl : w1 = (.int i1) := Option.some.inj ei1
  obtain ⟨n, o, h1, h2, h3, _, L, rfl, ⟨rfl, N⟩, hq⟩ := rm0 l s _ hw tables_1 i0 i1 s.heap s.heap.size (Nat.le_refl _) p e ha hc hk s m _ below hf ((Spec.applies_iff_loose hf).mp happ).1 ⟨rfl, State.Warmed39.refl s, rfl⟩ trivial
  refine ⟨n, _, h1, h2, h3, hpost _ _ _ _ _ _ ⟨Cond.after_iff.mpr rfl, Cond.after_iff.mpr (eq_i res_at (Term.int_eval (1)) rfl), trivial⟩ ⟨hq.1, hq.2.1, (hq.2.2.sift fun y hy => Or.inr (N y hy)).mono (by decide) (by decide)⟩⟩
theorem main_1_1 : Claimed_1_1 := comes_1 fun _ _ _ _ _ _ h hF => ⟨h.1, hF⟩
theorem main_1_2 : Claimed_1_2 := comes_1 fun _ _ _ _ _ _ h hF => ⟨h.2.1, hF⟩
end Jvm.Pilot.@@N@@
namespace Jvm.Pilot.@@N@@
open Jvm Jvm.ClassFile Sem Op Lib Jvm.Free Jvm.Stand Jvm.Pilot.@@N@@.Jvm.D
/-! MADE BY PROGRAM (witnessworld.py) out of the Statement's table words and the real class files: 9 classes; the members and pool entries that the words name. The judged class is class 1, her method 1. -/
namespace start1
open Jvm.ClassFile
def u (s : String) : CpInfo := .utf8 (stringToUtf16 s)
/-- a pool by its gaps: so many unusable entries, then the entry; so many at the end -/
def gap : Nat → List CpInfo → List CpInfo
  | 0, r => r
  | n + 1, r => .unusable :: gap n r
def poolList (es : List (Nat × CpInfo)) (last : Nat) : List CpInfo := es.foldr (fun e r => gap e.1 (e.2 :: r)) (gap last [])
def pool (es : List (Nat × CpInfo)) (last : Nat) : Array CpInfo := ⟨poolList es last⟩
def fileOf (pool : Array CpInfo) (this : Nat) (attrs : Array Attribute := #[]) (ms : Array MethodInfo := #[]) (fl : Nat := 33) (sup : Nat := 0) (ifs : Array Nat := #[]) (fds : Array FieldInfo := #[]) : ClassFile where
  minorVersion := 0
  majorVersion := 65
  constantPool := pool
  accessFlags := fl
  thisClass := this
  superClass := sup
  interfaces := ifs
  fields := fds
  methods := ms
  attributes := attrs
def plain (name : String) (sup : Option ClassId) : Class where
  name := name
  kind := .ordinary
  loader := none
  accessFlags := 33
  super := sup
  interfaces := #[]
  cf := none
  fields := #[]
  methods := #[]
  instanceTypes := #[]
  staticTypes := #[]
  resolved := #[]
  callSites := []
  init := .initialized
  statics := none
  mirror := none

def pool0 : Array CpInfo := pool [(5, u "<init>"), (0, u "()V"), (1, .class_ 10), (1, u "java/lang/Object")] 113

def k0m0 : Method := { name := "<init>", desc := "()V", sig := { parameters := [], returnType := none }, accessFlags := 1, code := none }
/-- java/lang/Object -/
def k0 : Class := { plain "java/lang/Object" none with
  accessFlags := 33
  interfaces := #[]
  cf := some (fileOf pool0 8 #[] #[{ accessFlags := 1, nameIndex := 5, descriptorIndex := 6, attributes := #[] }] 33 0 #[] #[])
  fields := #[]
  methods := #[k0m0]
  instanceTypes := #[]
  staticTypes := #[]
  resolved := Array.replicate 124 none
  statics := none }

def pool1 : Array CpInfo := pool [(2, .class_ 4), (1, u "java/lang/Object"), (0, u "<init>"), (0, u "()V"), (0, .integer 65535), (0, .methodref 9 10), (0, .class_ 11), (0, .nameAndType 12 13), (0, u "com/example/precis/precis/display/Nfc"), (0, u "isBelowCombiningMarks"), (0, u "(C)Z"), (0, .class_ 15), (0, u "com/example/precis/precis/display/NfcIsBelowCombiningMarksPinLaw"), (2, u "law"), (0, u "(II)Z")] 3

def k1m0 : Method := { name := "<init>", desc := "()V", sig := { parameters := [], returnType := none }, accessFlags := 2, code := none }
def k1c1 : Code := { maxStack := 2, maxLocals := 11, code := code, exceptionTable := #[], attributes := #[] }
def k1m1 : Method := { name := "law", desc := "(II)Z", sig := { parameters := [.int, .int], returnType := some .boolean }, accessFlags := 9, code := some k1c1 }
/-- com/example/precis/precis/display/NfcIsBelowCombiningMarksPinLaw -/
def k1 : Class := { plain "com/example/precis/precis/display/NfcIsBelowCombiningMarksPinLaw" (some 0) with
  accessFlags := 49
  interfaces := #[]
  cf := some (fileOf pool1 14 #[] #[{ accessFlags := 2, nameIndex := 5, descriptorIndex := 6, attributes := #[] }, { accessFlags := 9, nameIndex := 18, descriptorIndex := 19, attributes := #[] }] 49 2 #[] #[])
  fields := #[]
  methods := #[k1m0, k1m1]
  instanceTypes := #[]
  staticTypes := #[]
  resolved := Array.replicate 23 none
  statics := none }

def pool2 : Array CpInfo := pool [(2, .class_ 4), (1, u "java/lang/Object"), (0, u "<init>"), (0, u "()V"), (1, .class_ 10), (1, u "com/example/precis/precis/display/Nfc"), (0, u "isBelowCombiningMarks"), (68, u "(C)Z"), (31, .class_ 114), (1, u "com/example/precis/precis/display/Nfc$Classes"), (12, u "I"), (24, u "SHORT_RUN"), (2, u "FIRST_COMBINING_MARK")] 31

def k2m0 : Method := { name := "<init>", desc := "()V", sig := { parameters := [], returnType := none }, accessFlags := 2, code := none }
def k2c1 : Code := { maxStack := 2, maxLocals := 1, code := prog_34_method_4_code, exceptionTable := #[], attributes := #[] }
def k2m1 : Method := { name := "isBelowCombiningMarks", desc := "(C)Z", sig := { parameters := [.char], returnType := some .boolean }, accessFlags := 8, code := some k2c1 }
/-- com/example/precis/precis/display/Nfc -/
def k2 : Class := { plain "com/example/precis/precis/display/Nfc" (some 0) with
  accessFlags := 49
  interfaces := #[]
  cf := some (fileOf pool2 8 #[.nestMembers #[112]] #[{ accessFlags := 2, nameIndex := 5, descriptorIndex := 6, attributes := #[] }, { accessFlags := 8, nameIndex := 11, descriptorIndex := 80, attributes := #[] }] 49 2 #[] #[{ accessFlags := 26, nameIndex := 152, descriptorIndex := 127, attributes := #[] }, { accessFlags := 26, nameIndex := 155, descriptorIndex := 127, attributes := #[] }])
  fields := #[{ name := "SHORT_RUN", type := .int, accessFlags := 26, slot := 0, constantValue := 0 }, { name := "FIRST_COMBINING_MARK", type := .int, accessFlags := 26, slot := 1, constantValue := 0 }]
  methods := #[k2m0, k2m1]
  instanceTypes := #[]
  staticTypes := #[.int, .int]
  resolved := Array.replicate 187 none
  statics := none }

def pool3 : Array CpInfo := pool [(1, u "java/lang/Cloneable"), (0, .class_ 1), (0, u "java/lang/Object"), (0, .class_ 3)] 3

/-- java/lang/Cloneable -/
def k3 : Class := { plain "java/lang/Cloneable" (some 0) with
  accessFlags := 1537
  interfaces := #[]
  cf := some (fileOf pool3 2 #[] #[] 1537 4 #[] #[])
  fields := #[]
  methods := #[]
  instanceTypes := #[]
  staticTypes := #[]
  resolved := Array.replicate 8 none
  statics := none }

def pool4 : Array CpInfo := pool [(1, u "java/io/Serializable"), (0, .class_ 1), (0, u "java/lang/Object"), (0, .class_ 3)] 3

/-- java/io/Serializable -/
def k4 : Class := { plain "java/io/Serializable" (some 0) with
  accessFlags := 1537
  interfaces := #[]
  cf := some (fileOf pool4 2 #[] #[] 1537 4 #[] #[])
  fields := #[]
  methods := #[]
  instanceTypes := #[]
  staticTypes := #[]
  resolved := Array.replicate 8 none
  statics := none }

/-- the primitive byte -/
def k5 : Class := { plain "byte" none with kind := .primitive 'B', accessFlags := 0x411 }
/-- [B -/
def k6 : Class := { plain "[B" (some 0) with kind := .array 5 .byte, interfaces := #[3, 4], accessFlags := 1041 }

/-- the primitive int -/
def k7 : Class := { plain "int" none with kind := .primitive 'I', accessFlags := 0x411 }
/-- [I -/
def k8 : Class := { plain "[I" (some 0) with kind := .array 7 .int, interfaces := #[3, 4], accessFlags := 1041 }

def heap : Heap := #[]
def classes : Array Class := #[k0, k1, k2, k3, k4, k5, k6, k7, k8]
def interned : List (Array UInt16 × Addr) := []
def slotsUsed : Nat := 0
def theMethod : MethodId := ⟨1, 1⟩
def args0 : Array Value := #[.int 5, .int 9]
def aboutOver (below : List Frame) : State where
  vm := { classes := classes, interned := interned.toArray }
  heap := heap
  slotsUsed := slotsUsed
  threads := #[{ frames := .invoking theMethod args0 :: below }]
def below0 : List Frame := [.native { method := ⟨0, 0⟩, args := #[] }]
def about1 : State := aboutOver below0
def p0 : Program := .bare "" "" ""
def e0 : Env := launch0.env 0 0 0
theorem w_frames : about1.frames = Frame.invoking theMethod args0 :: below0 := rfl
set_option maxRecDepth 65536 in
theorem w_args : argsFit about1.vm theMethod args0 = true := by decide +kernel
set_option maxRecDepth 65536 in
theorem w_heap : heapFits about1 = true := by decide +kernel
set_option maxRecDepth 65536 in
theorem w_runnable : about1.curStatus? = some .runnable := by decide +kernel
set_option maxRecDepth 65536 in
theorem w_alone : about1.alone = true := by decide +kernel
set_option maxRecDepth 65536 in
theorem w_named : about1.methodNamed? x = some theMethod := by decide +kernel
set_option maxRecDepth 65536 in
theorem w_hears : about1.hears theMethod below0 = true := by decide +kernel
set_option maxRecDepth 65536 in
theorem w_ripe : about1.ripe theMethod args0 below0 = true := by decide +kernel
theorem w_running : about1.status = .running := rfl
set_option maxRecDepth 65536 in
theorem w_room : about1.hasRoom e0.platform room_1 = true :=
  launch0.hasRoom_least _ room_1 (by decide +kernel) (by decide +kernel) (by decide +kernel) (by decide +kernel) (by decide +kernel) (by decide +kernel)
theorem allAtoms_all (ts : List Jvm.Cond) (a : Array Jvm.Value) (st : Jvm.State) : (allAtoms ts).before a st = ts.all (fun c => c.before a st) := by
  induction ts with
  | nil => rfl
  | cons c t ih =>
    show (Jvm.Cond.and c (allAtoms t)).before a st = _
    rw [Jvm.Cond.before_and, ih, List.all_cons]
def words1 : List Jvm.Cond := Jvm.Cond.code x code maxLocals ret :: tables_1
/-- a 'code' word, met by the world's own term for the bytes: nothing is compared byte by byte -/
theorem code_word {y : MethodName} {bytes : ByteArray} {mx : Nat} {rt : Option FieldType} {a : Array Value} {s : State} {m : MethodId} {meth : Method} {c : Code} (h1 : s.methodNamed? y = some m) (h2 : s.vm.method? m = some meth) (h3 : meth.code = some c) (h4 : c.code = bytes)
    (h5 : (c.maxLocals == mx && c.exceptionTable.isEmpty && decide (c.maxStack ≤ mostOperands) && decide (meth.sig.returnType = rt) && !meth.locks && decide (parseMethodDescriptor y.desc = some meth.sig)) = true) : (Jvm.Cond.code y bytes mx rt).before a s = true := by
  simp only [Bool.and_eq_true, beq_iff_eq, Bool.not_eq_true', decide_eq_true_eq] at h5
  obtain ⟨⟨⟨⟨⟨g1, g2⟩, g3⟩, g4⟩, g5⟩, g6⟩ := h5
  simp [Cond.before, Cond.holds, Cond.value, h1, h2, h3, h4, g1, g2, g3, g4, g5, g6]
def isCode : Jvm.Cond → Bool
  | .code _ _ _ _ => true
  | _ => false
theorem all_split {L : List Jvm.Cond} {P : Jvm.Cond → Bool} (h1 : L.all (fun c => isCode c || P c) = true) (h2 : ∀ c ∈ L.filter isCode, P c = true) : L.all P = true := by
  refine List.all_eq_true.mpr fun c hc => ?_
  have h := List.all_eq_true.mp h1 c hc
  rcases Bool.eq_false_or_eq_true (isCode c) with hi | hi
  · exact h2 c (List.mem_filter.mpr ⟨hc, hi⟩)
  · simpa [hi] using h
set_option maxRecDepth 65536 in
theorem w_c0 : (Jvm.Cond.code x code maxLocals ret).before args0 about1 = true := code_word (m := ⟨1, 1⟩) (meth := k1m1) (c := k1c1) (by decide +kernel) rfl rfl rfl (by decide +kernel)
set_option maxRecDepth 65536 in
theorem w_c1 : (Jvm.Cond.code ({ cls := "com/example/precis/precis/display/Nfc", name := "isBelowCombiningMarks", desc := "(C)Z" } : Jvm.MethodName) prog_34_method_4_code (1 : Nat) (Option.some Jvm.ClassFile.FieldType.boolean)).before args0 about1 = true := code_word (m := ⟨2, 1⟩) (meth := k2m1) (c := k2c1) (by decide +kernel) rfl rfl rfl (by decide +kernel)
def codes1 : List Jvm.Cond := [Jvm.Cond.code x code maxLocals ret, Jvm.Cond.code ({ cls := "com/example/precis/precis/display/Nfc", name := "isBelowCombiningMarks", desc := "(C)Z" } : Jvm.MethodName) prog_34_method_4_code (1 : Nat) (Option.some Jvm.ClassFile.FieldType.boolean)]
set_option maxRecDepth 65536 in
theorem codes_eq : words1.filter isCode = codes1 := rfl
theorem w_codes : ∀ c ∈ words1.filter isCode, c.before args0 about1 = true := by
  rw [codes_eq]
  intro c hc
  simp only [codes1, List.mem_cons, List.not_mem_nil, or_false] at hc
  rcases hc with rfl | rfl
  · exact w_c0
  · exact w_c1
set_option maxRecDepth 65536 in
theorem w_t1 : words1.all (fun c => isCode c || c.before args0 about1) = true := by decide +kernel
theorem w_tables : (allAtoms (Jvm.Cond.code x code maxLocals ret :: tables_1)).before args0 about1 = true := by
  rw [allAtoms_all]
  show words1.all (fun c => c.before args0 about1) = true
  refine all_split ?_ w_codes
  rw [w_t1]
set_option maxRecDepth 65536 in
theorem w_case : (Jvm.Cond.and given_1 narrow_1).before args0 about1 = true := by decide +kernel
theorem w_applies : (headSpec (Jvm.Cond.code x code maxLocals ret :: tables_1) room_1).applies x e0.platform about1 = true :=
  (Spec.applies_iff w_frames).mpr ⟨w_running, w_runnable, w_alone, w_named, w_hears, w_ripe, w_room, w_tables⟩
theorem atStart : AtStart classFile x code maxLocals ret World_1 tables_1 room_1 Calls_1 rest_1 Pre_1 launch0 p0 e0 about1 theMethod args0 below0 :=
  ⟨lists_1, trivial, launch0.admits_env _ _ _, launch0.least_env, fairChoices_fair.cas, fairChoices_fair.clock, w_frames, w_args, w_heap, w_applies, trivial, trivial, w_case⟩
end start1
theorem witness_1 : WitnessClaimed_1 := ⟨start1.p0, start1.e0, start1.about1, start1.theMethod, start1.args0, start1.below0, start1.atStart⟩
end Jvm.Pilot.@@N@@
