import JvmDerived
import JvmDerived.Pilot.@@N@@Statement
import JvmDerived.Pilot.@@N@@Code
set_option linter.unusedVariables false
set_option linter.unusedSimpArgs false
@@BLOCK:NumsL.lean.txt@@
namespace Jvm.RoadKit
open Sem ClassFile Op Lib Jvm.Stand Jvm.Free Jvm.LawKit
section New
variable {p : Program} {l : Launch} {e : Env} {R : Room} {s : State} {m : MethodId} {args : Array Value} {below : List Frame} {meth : Method} {c : Code} {T : State} {locs : List Loc} {cells slots : Nat}
theorem retI (X : Stand p l e R s m args below meth c T locs cells slots) (hx : p.tables.exec = Jvm.exec) {pc : Nat} {Ls : Array Slot} {z : Int32} {rest : List Value} (hret : meth.sig.returnType = some .int) (hd : decode c.code pc = .ok (.ireturn, 1)) {fs : List Frame}
    (hl : ∀ (f : JFrame) (acts : List Action), f.method = m → f.locked = none → f.entered = [] → (doReturn e (T.setTop f) acts (some (.int z))).1 = T.setFrames fs) : Steps p.tables e below (T.setTop (mkF m pc Ls (.int z :: rest))) (T.setFrames fs) := by
  have hm' : T.vm.method? m = some meth := X.method'
  have hn : narrow .int (.int z) = .int z := rfl
  show Steps p.tables e below (T.setTop { method := m, pc := pc, locals := Ls, stack := _ :: rest, locked := none }) _
  jvm_step X.here [X.here.top, hx, hd, hm', hret, hn]
  first | (intro acts; rw [hl _ acts rfl rfl rfl]) | rw [hl _ _ rfl rfl rfl]
  exact Steps.refl _
end New
end Jvm.RoadKit
namespace Jvm.Pilot.@@N@@
open Jvm Jvm.ClassFile Sem Op Lib Jvm.Free Jvm.Stand Jvm.LawKit Jvm.RoadKit Bundle Jvm.Pilot.@@N@@.Jvm.D
section Own
variable {p : Program} {l : Launch} {e : Env} {R : Room} {s : State} {m : MethodId} {args : Array Value} {below : List Frame} {meth : Method} {c : Code} {T : State} {locs : List Loc} {cells slots : Nat} {Z : State} {h : Heap} {a : Addr} {k : ClassId} {n : Int32} {vs : List Value} {dv : Value} {ty : FieldType}
theorem own_caload (X : Stand p l e R s m args below meth c T locs cells slots) (hx : p.tables.exec = Jvm.exec) (hZ : Z.Warmed39 s.vm) (eT : T.heap = h) (V : Arv Z h a k .char n vs dv) {j : Int32} {v : Value} (hj : ¬ j < 0 ∧ j < n) (hv : vs.getD j.toNatClampNeg dv = v) {g : JFrame} (hg : g.method = m) {rest : List Value} (hs : g.stack = .int j :: .ref a :: rest) (hd : decode c.code g.pc = .ok (.caload, 1)) :
    ∀ target, Steps p.tables e below (T.setTop { g with pc := g.pc + 1, stack := v :: rest }) target → Steps p.tables e below (T.setTop g) target := by
  obtain ⟨cl, Ar, -, S, -, H, -⟩ := V
  exact X.caload hx (j := j) (v := v) (by rw [eT]; exact Ar.1) (State.isArrayOf_alike hZ.alike Ar.2.1) Ar.2.2 (inb_of S hj) (H.at (inb_of S hj) hv) hg hs hd
theorem own_iaload (X : Stand p l e R s m args below meth c T locs cells slots) (hx : p.tables.exec = Jvm.exec) (hZ : Z.Warmed39 s.vm) (eT : T.heap = h) (V : Arv Z h a k .int n vs dv) {j : Int32} {v : Value} (hj : ¬ j < 0 ∧ j < n) (hv : vs.getD j.toNatClampNeg dv = v) {g : JFrame} (hg : g.method = m) {rest : List Value} (hs : g.stack = .int j :: .ref a :: rest) (hd : decode c.code g.pc = .ok (.iaload, 1)) :
    ∀ target, Steps p.tables e below (T.setTop { g with pc := g.pc + 1, stack := v :: rest }) target → Steps p.tables e below (T.setTop g) target := by
  obtain ⟨cl, Ar, -, S, -, H, -⟩ := V
  exact X.iaload hx (j := j) (v := v) (by rw [eT]; exact Ar.1) (State.isArrayOf_alike hZ.alike Ar.2.1) Ar.2.2 (inb_of S hj) (H.at (inb_of S hj) hv) hg hs hd
theorem own_baload (X : Stand p l e R s m args below meth c T locs cells slots) (hx : p.tables.exec = Jvm.exec) (hZ : Z.Warmed39 s.vm) (eT : T.heap = h) (V : Arv Z h a k .byte n vs dv) {j : Int32} {v : Value} (hj : ¬ j < 0 ∧ j < n) (hv : vs.getD j.toNatClampNeg dv = v) {g : JFrame} (hg : g.method = m) {rest : List Value} (hs : g.stack = .int j :: .ref a :: rest) (hd : decode c.code g.pc = .ok (.baload, 1)) :
    ∀ target, Steps p.tables e below (T.setTop { g with pc := g.pc + 1, stack := v :: rest }) target → Steps p.tables e below (T.setTop g) target := by
  obtain ⟨cl, Ar, -, S, -, H, -⟩ := V
  exact X.baloadBytes hx (j := j) (v := v) (by rw [eT]; exact Ar.1) (State.isArrayOf_alike hZ.alike Ar.2.1) Ar.2.2 (inb_of S hj) (H.at (inb_of S hj) hv) hg hs hd
theorem own_alen (X : Stand p l e R s m args below meth c T locs cells slots) (hx : p.tables.exec = Jvm.exec) (hZ : Z.Warmed39 s.vm) (eT : T.heap = h) (V : Arv Z h a k ty n vs dv) {g : JFrame} (hg : g.method = m) {rest : List Value} (hs : g.stack = .ref a :: rest) (hd : decode c.code g.pc = .ok (.arraylength, 1)) :
    ∀ target, Steps p.tables e below (T.setTop { g with pc := g.pc + 1, stack := .int n :: rest }) target → Steps p.tables e below (T.setTop g) target := by
  obtain ⟨cl, Ar, -, S, N, -, -⟩ := V
  intro target q
  refine X.arraylength hx (by rw [eT]; exact Ar.1) (State.isArrayOf_alike hZ.alike Ar.2.1) hg hs hd target ?_
  rw [len_of S N]; exact q
end Own

theorem own_end (n : Int64) : ((n + (1000 : Int64)) * (1000000 : Int64)) = ((n * (1000000 : Int64)) + (1000000000 : Int64)) := by
  rw [Int64.add_mul]; rfl
theorem ef_4 (m : MethodId) (a1 : Addr) : entryFrame m #[(.ref a1)] 1 = mkF m 0 #[.val (.ref a1)] [] := by first | (simp [entryFrame, mkF, argsToLocals, Value.category]; done) | rfl
theorem pn_com_example_obturo_obturo_stats_internal_LeadingPadding : plainName "com/example/obturo/obturo/stats/internal/LeadingPadding" = true := by first | (simp [plainName, overriddenIn]; done) | decide +kernel
theorem d4_0 : decode prog_75_method_1_code 0 = .ok (.aload_n 0, 1) := by decide +kernel
theorem d4_1 : decode prog_75_method_1_code 1 = .ok (.invokespecial 1, 3) := by decide +kernel
theorem d4_4 : decode prog_75_method_1_code 4 = .ok (.return_, 1) := by decide +kernel
def Q4 (Z : State) (a1 : Addr) (h0 : Heap) (n0 : Nat) (v : Option Value) (h : Heap) (L : List Loc) : Prop := v = none ∧ Fr n0 L ∧ h = h0
set_option maxRecDepth 65536 in
set_option maxHeartbeats 40000000 in
theorem rm4 (l : Launch) (Z : State) (a0 : Array Value) (hw : ∀ d ∈ tables_1, d.before a0 Z = true) (ws : List Jvm.Cond) (a1 : Addr) (h0 : Heap) (n0 : Nat) (Z0 : n0 ≤ h0.size) :
    MetFree l (⟨"com/example/obturo/obturo/stats/internal/LeadingPadding", "<init>", "()V"⟩ : MethodName) (head1 (Jvm.Cond.code (⟨"com/example/obturo/obturo/stats/internal/LeadingPadding", "<init>", "()V"⟩ : MethodName) prog_75_method_1_code 1 none :: ws) ({ frames := 1, cells := 0, slots := 0, locals := 12 } : Room)) (fun a U => a = #[(.ref a1)] ∧ Z.Warmed39 U.vm ∧ U.heap = h0) (fun _ _ _ _ _ => True) (fun _ U o U' => ∃ v L, o = .returned v ∧ Q4 Z a1 h0 n0 v U'.heap L ∧ FrameEnd U o U' L ({ frames := 1, cells := 0, slots := 0, locals := 12 } : Room).cells ({ frames := 1, cells := 0, slots := 0, locals := 12 } : Room).slots) := by
  refine MetFree.of_bodySF (plainFor_of_name pn_com_example_obturo_obturo_stats_internal_LeadingPadding) hisR ?_
  intro p e s m args below meth c s₁ Bd hml0 hP hK
  obtain ⟨rfl, hZ, hh⟩ := hP
  have hx := Bd.exec
  have hby := Bd.bytes
  have hml : c.maxLocals = 1 := hml0
  have hown : s.vm.findClass "com/example/obturo/obturo/stats/internal/LeadingPadding" = some m.cls := findClass_of_methodNamed Bd.named
  have hnm := (name_of_methodNamed Bd.named Bd.method).1
  have X0 : Stand p l e ({ frames := 1, cells := 0, slots := 0, locals := 12 } : Room) s m #[(.ref a1)] below meth c s₁ [] 0 0 := Stand.of_body Bd
  have eh0 : s₁.heap = h0 := by rw [← hh, Bd.state]; rfl
  have N0 := Fr.nil n0
  have pre0 : ∀ t, Steps p.tables e below (s₁.setTop (mkF m 0 #[.val (.ref a1)] [])) t → Steps p.tables e below (s₁.setTop (entryFrame m #[(.ref a1)] 1)) t := fun t k => castTop (ef_4 m a1) k
  have pre1 : ∀ t, Steps p.tables e below (s₁.setTop (mkF m 1 #[.val (.ref a1)] [(.ref a1)])) t → Steps p.tables e below (s₁.setTop (entryFrame m #[(.ref a1)] 1)) t := fun t k => pre0 t (by
    show Steps p.tables e below (s₁.setTop (mkF m 0 #[.val (.ref a1)] [])) t
    refine XS.aloadN X0.here hx rfl (hb hby d4_0) rfl rfl ?_
    show Steps p.tables e below (s₁.setTop (mkF m 1 #[.val (.ref a1)] [(.ref a1)])) t
    exact k)
  obtain ⟨T2, X2, eh2, st2⟩ := initO X0 hx hZ hown (hw _ (List.mem_of_getElem? (i := 21) rfl)) (hw _ (List.mem_of_getElem? (i := 22) rfl)) (hw _ (List.mem_of_getElem? (i := 23) rfl)) eh0 (g := (mkF m 1 #[.val (.ref a1)] [(.ref a1)])) rfl (by rw [hml]; rfl) rfl (hb hby d4_1) (by decide) (W := 0) (by show 2 * 0 + _ ≤ _; exact Nat.le_of_eq rfl) (by decide)
  have pre3 : ∀ t, Steps p.tables e below (T2.setTop (mkF m 4 #[.val (.ref a1)] [])) t → Steps p.tables e below (s₁.setTop (entryFrame m #[(.ref a1)] 1)) t := fun t k => pre1 t (st2 _ k)
  obtain ⟨fs, hr, hrun, hended, hW, hsame⟩ := X2.leave (v := none) (fun _ => rfl)
  refine ⟨_, _, pre3 _ ?_, hrun, hended, _, _, rfl, ?_, ⟨_, rfl⟩, hW, hsame.mono (by decide) (by decide)⟩
  · show Steps p.tables e below (T2.setTop (mkF m 4 #[.val (.ref a1)] [])) _
    exact X2.returnOut hx Bd.returns (hb hby d4_4) hr
  · show Q4 Z a1 h0 n0 _ T2.heap _
    rw [eh2]
    exact ⟨rfl, N0, rfl⟩
theorem ef_3 (m : MethodId) (a1 : Addr) : entryFrame m #[(.ref a1)] 1 = mkF m 0 #[.val (.ref a1)] [] := by first | (simp [entryFrame, mkF, argsToLocals, Value.category]; done) | rfl
theorem pn_com_example_obturo_obturo_stats_internal_SpinLock : plainName "com/example/obturo/obturo/stats/internal/SpinLock" = true := by first | (simp [plainName, overriddenIn]; done) | decide +kernel
theorem d3_0 : decode prog_83_method_1_code 0 = .ok (.aload_n 0, 1) := by decide +kernel
theorem d3_1 : decode prog_83_method_1_code 1 = .ok (.invokespecial 1, 3) := by decide +kernel
theorem pd_ocV : parseMethodDescriptor "()V" = some ⟨[], none⟩ := by decide +kernel
theorem d3_4 : decode prog_83_method_1_code 4 = .ok (.return_, 1) := by decide +kernel
def Q3 (Z : State) (a1 : Addr) (h0 : Heap) (n0 : Nat) (v : Option Value) (h : Heap) (L : List Loc) : Prop := v = none ∧ Fr n0 L ∧ h = h0
set_option maxRecDepth 65536 in
set_option maxHeartbeats 40000000 in
theorem rm3 (l : Launch) (Z : State) (a0 : Array Value) (hw : ∀ d ∈ tables_1, d.before a0 Z = true) (ws : List Jvm.Cond) (a1 : Addr) (h0 : Heap) (n0 : Nat) (Z0 : n0 ≤ h0.size) :
    MetFree l (⟨"com/example/obturo/obturo/stats/internal/SpinLock", "<init>", "()V"⟩ : MethodName) (head1 (Jvm.Cond.code (⟨"com/example/obturo/obturo/stats/internal/SpinLock", "<init>", "()V"⟩ : MethodName) prog_83_method_1_code 1 none :: ws) ({ frames := 2, cells := 0, slots := 0, locals := 24 } : Room)) (fun a U => a = #[(.ref a1)] ∧ Z.Warmed39 U.vm ∧ U.heap = h0) (fun _ _ _ _ _ => True) (fun _ U o U' => ∃ v L, o = .returned v ∧ Q3 Z a1 h0 n0 v U'.heap L ∧ FrameEnd U o U' L ({ frames := 2, cells := 0, slots := 0, locals := 24 } : Room).cells ({ frames := 2, cells := 0, slots := 0, locals := 24 } : Room).slots) := by
  refine MetFree.of_bodySF (plainFor_of_name pn_com_example_obturo_obturo_stats_internal_SpinLock) hisR ?_
  intro p e s m args below meth c s₁ Bd hml0 hP hK
  obtain ⟨rfl, hZ, hh⟩ := hP
  have hx := Bd.exec
  have hby := Bd.bytes
  have hml : c.maxLocals = 1 := hml0
  have hown : s.vm.findClass "com/example/obturo/obturo/stats/internal/SpinLock" = some m.cls := findClass_of_methodNamed Bd.named
  have hnm := (name_of_methodNamed Bd.named Bd.method).1
  have X0 : Stand p l e ({ frames := 2, cells := 0, slots := 0, locals := 24 } : Room) s m #[(.ref a1)] below meth c s₁ [] 0 0 := Stand.of_body Bd
  have eh0 : s₁.heap = h0 := by rw [← hh, Bd.state]; rfl
  have N0 := Fr.nil n0
  have pre0 : ∀ t, Steps p.tables e below (s₁.setTop (mkF m 0 #[.val (.ref a1)] [])) t → Steps p.tables e below (s₁.setTop (entryFrame m #[(.ref a1)] 1)) t := fun t k => castTop (ef_3 m a1) k
  have pre1 : ∀ t, Steps p.tables e below (s₁.setTop (mkF m 1 #[.val (.ref a1)] [(.ref a1)])) t → Steps p.tables e below (s₁.setTop (entryFrame m #[(.ref a1)] 1)) t := fun t k => pre0 t (by
    show Steps p.tables e below (s₁.setTop (mkF m 0 #[.val (.ref a1)] [])) t
    refine XS.aloadN X0.here hx rfl (hb hby d3_0) rfl rfl ?_
    show Steps p.tables e below (s₁.setTop (mkF m 1 #[.val (.ref a1)] [(.ref a1)])) t
    exact k)
  obtain ⟨_, _, ⟨T2, L2, k2, n2⟩, -, X2, ⟨Lc2, hQ2, l2, y2, z2⟩, st2⟩ := X0.specialBack hx (y := (⟨"com/example/obturo/obturo/stats/internal/LeadingPadding", "<init>", "()V"⟩ : MethodName)) rfl hown (mvT hZ (hw _ (List.mem_of_getElem? (i := 16) rfl))) (mvT hZ (hw _ (List.mem_of_getElem? (i := 17) rfl))) (mvT hZ (hw _ (List.mem_of_getElem? (i := 20) rfl))) (by decide) (backOf (W := 0) (rm4 l Z a0 hw [] a1 h0 n0 Z0 ) hZ (hw _ (List.mem_of_getElem? (i := 20) rfl)) (hw _ (List.mem_of_getElem? (i := 19) rfl)) (by decide) (by decide)) (g := (mkF m 1 #[.val (.ref a1)] [(.ref a1)])) rfl (by rw [hml]; rfl) (Steps.refl _) (a := a1) (argsL := []) (rest := []) (lenOf pd_ocV rfl) rfl (by show 2 * 0 + _ ≤ _; exact Nat.le_of_eq rfl) (hb hby d3_1) (fun _ _ => ⟨rfl, eh0, (by decide : 0 + 0 ≤ _), (by decide : 0 + 0 ≤ _)⟩)
  dsimp only [Pt.U, Pt.locs, Pt.cells, Pt.slots] at X2 l2 y2 z2 st2 hQ2
  subst l2 y2 z2
  obtain ⟨rfl, N2q, eh2⟩ := hQ2
  have N2 := Fr.app N0 N2q
  have pre3 : ∀ t, Steps p.tables e below (T2.setTop (mkF m 4 #[.val (.ref a1)] [])) t → Steps p.tables e below (s₁.setTop (entryFrame m #[(.ref a1)] 1)) t := fun t k => pre1 t (st2.trans k)
  obtain ⟨fs, hr, hrun, hended, hW, hsame⟩ := X2.leave (v := none) (fun _ => rfl)
  refine ⟨_, _, pre3 _ ?_, hrun, hended, _, _, rfl, ?_, ⟨_, rfl⟩, hW, hsame.mono (by decide) (by decide)⟩
  · show Steps p.tables e below (T2.setTop (mkF m 4 #[.val (.ref a1)] [])) _
    exact X2.returnOut hx Bd.returns (hb hby d3_4) hr
  · show Q3 Z a1 h0 n0 _ T2.heap _
    rw [eh2]
    exact ⟨rfl, N2, rfl⟩
theorem ef_2 (m : MethodId) (a1 : Addr) : entryFrame m #[(.ref a1)] 1 = mkF m 0 #[.val (.ref a1)] [] := by first | (simp [entryFrame, mkF, argsToLocals, Value.category]; done) | rfl
theorem pn_com_example_obturo_obturo_stats_internal_LatestSecond : plainName "com/example/obturo/obturo/stats/internal/LatestSecond" = true := by first | (simp [plainName, overriddenIn]; done) | decide +kernel
theorem d2_0 : decode prog_73_method_1_code 0 = .ok (.aload_n 0, 1) := by decide +kernel
theorem d2_1 : decode prog_73_method_1_code 1 = .ok (.invokespecial 3, 3) := by decide +kernel
theorem d2_4 : decode prog_73_method_1_code 4 = .ok (.aload_n 0, 1) := by decide +kernel
theorem d2_5 : decode prog_73_method_1_code 5 = .ok (.ldc2_w 11, 3) := by decide +kernel
theorem d2_8 : decode prog_73_method_1_code 8 = .ok (.putfield 13, 3) := by decide +kernel
theorem d2_11 : decode prog_73_method_1_code 11 = .ok (.aload_n 0, 1) := by decide +kernel
theorem d2_12 : decode prog_73_method_1_code 12 = .ok (.ldc2_w 11, 3) := by decide +kernel
theorem d2_15 : decode prog_73_method_1_code 15 = .ok (.putfield 17, 3) := by decide +kernel
theorem d2_18 : decode prog_73_method_1_code 18 = .ok (.return_, 1) := by decide +kernel
def Q2 (Z : State) (a1 : Addr) (u0 : Value) (u1 : Value) (u2 : Value) (u3 : Value) (u4 : Value) (u5 : Value) (u6 : Value) (h0 : Heap) (n0 : Nat) (v : Option Value) (h : Heap) (L : List Loc) : Prop := v = none ∧ Fr n0 L ∧ Keep h0 h [a1] ∧ Exa Z h a1 "com/example/obturo/obturo/stats/internal/LatestSecondMoveToPinLaw" ∧ Fld Z h a1 "com/example/obturo/obturo/stats/internal/LatestSecond" "start" "J" (.long (-9223372036854775808 : Int64)) ∧ Fld Z h a1 "com/example/obturo/obturo/stats/internal/LatestSecond" "endNanos" "J" (.long (-9223372036854775808 : Int64)) ∧ Fld Z h a1 "com/example/obturo/obturo/stats/internal/LatestSecond" "block" "J" u2 ∧ Fld Z h a1 "com/example/obturo/obturo/stats/internal/LatestSecond" "completed" "J" u3 ∧ Fld Z h a1 "com/example/obturo/obturo/stats/internal/LatestSecond" "errors" "J" u4 ∧ Fld Z h a1 "com/example/obturo/obturo/stats/internal/LatestSecond" "totalRtMillis" "J" u5 ∧ Fld Z h a1 "com/example/obturo/obturo/stats/internal/LatestSecond" "minRtMillis" "J" u6
set_option maxRecDepth 65536 in
set_option maxHeartbeats 40000000 in
theorem rm2 (l : Launch) (Z : State) (a0 : Array Value) (hw : ∀ d ∈ tables_1, d.before a0 Z = true) (ws : List Jvm.Cond) (a1 : Addr) (u0 : Value) (u1 : Value) (u2 : Value) (u3 : Value) (u4 : Value) (u5 : Value) (u6 : Value) (h0 : Heap) (n0 : Nat) (Z0 : n0 ≤ h0.size) (E_a1 : Exa Z h0 a1 "com/example/obturo/obturo/stats/internal/LatestSecondMoveToPinLaw") (F_start_a1 : Fld Z h0 a1 "com/example/obturo/obturo/stats/internal/LatestSecond" "start" "J" u0) (F_endNanos_a1 : Fld Z h0 a1 "com/example/obturo/obturo/stats/internal/LatestSecond" "endNanos" "J" u1) (F_block_a1 : Fld Z h0 a1 "com/example/obturo/obturo/stats/internal/LatestSecond" "block" "J" u2) (F_completed_a1 : Fld Z h0 a1 "com/example/obturo/obturo/stats/internal/LatestSecond" "completed" "J" u3) (F_errors_a1 : Fld Z h0 a1 "com/example/obturo/obturo/stats/internal/LatestSecond" "errors" "J" u4) (F_totalRtMillis_a1 : Fld Z h0 a1 "com/example/obturo/obturo/stats/internal/LatestSecond" "totalRtMillis" "J" u5) (F_minRtMillis_a1 : Fld Z h0 a1 "com/example/obturo/obturo/stats/internal/LatestSecond" "minRtMillis" "J" u6) (g_a1 : n0 ≤ a1) :
    MetFree l (⟨"com/example/obturo/obturo/stats/internal/LatestSecond", "<init>", "()V"⟩ : MethodName) (head1 (Jvm.Cond.code (⟨"com/example/obturo/obturo/stats/internal/LatestSecond", "<init>", "()V"⟩ : MethodName) prog_73_method_1_code 1 none :: ws) ({ frames := 3, cells := 0, slots := 0, locals := 36 } : Room)) (fun a U => a = #[(.ref a1)] ∧ Z.Warmed39 U.vm ∧ U.heap = h0) (fun _ _ _ _ _ => True) (fun _ U o U' => ∃ v L, o = .returned v ∧ Q2 Z a1 u0 u1 u2 u3 u4 u5 u6 h0 n0 v U'.heap L ∧ FrameEnd U o U' L ({ frames := 3, cells := 0, slots := 0, locals := 36 } : Room).cells ({ frames := 3, cells := 0, slots := 0, locals := 36 } : Room).slots) := by
  refine MetFree.of_bodySF (plainFor_of_name pn_com_example_obturo_obturo_stats_internal_LatestSecond) hisR ?_
  intro p e s m args below meth c s₁ Bd hml0 hP hK
  obtain ⟨rfl, hZ, hh⟩ := hP
  have hx := Bd.exec
  have hby := Bd.bytes
  have hml : c.maxLocals = 1 := hml0
  have hown : s.vm.findClass "com/example/obturo/obturo/stats/internal/LatestSecond" = some m.cls := findClass_of_methodNamed Bd.named
  have hnm := (name_of_methodNamed Bd.named Bd.method).1
  have X0 : Stand p l e ({ frames := 3, cells := 0, slots := 0, locals := 36 } : Room) s m #[(.ref a1)] below meth c s₁ [] 0 0 := Stand.of_body Bd
  have eh0 : s₁.heap = h0 := by rw [← hh, Bd.state]; rfl
  have N0 := Fr.nil n0
  have pre0 : ∀ t, Steps p.tables e below (s₁.setTop (mkF m 0 #[.val (.ref a1)] [])) t → Steps p.tables e below (s₁.setTop (entryFrame m #[(.ref a1)] 1)) t := fun t k => castTop (ef_2 m a1) k
  have K0 : Keep h0 h0 [a1] := Keep.refl _ _
  have pre1 : ∀ t, Steps p.tables e below (s₁.setTop (mkF m 1 #[.val (.ref a1)] [(.ref a1)])) t → Steps p.tables e below (s₁.setTop (entryFrame m #[(.ref a1)] 1)) t := fun t k => pre0 t (by
    show Steps p.tables e below (s₁.setTop (mkF m 0 #[.val (.ref a1)] [])) t
    refine XS.aloadN X0.here hx rfl (hb hby d2_0) rfl rfl ?_
    show Steps p.tables e below (s₁.setTop (mkF m 1 #[.val (.ref a1)] [(.ref a1)])) t
    exact k)
  obtain ⟨_, _, ⟨T2, L2, k2, n2⟩, -, X2, ⟨Lc2, hQ2, l2, y2, z2⟩, st2⟩ := X0.specialBack hx (y := (⟨"com/example/obturo/obturo/stats/internal/SpinLock", "<init>", "()V"⟩ : MethodName)) rfl hown (mvT hZ (hw _ (List.mem_of_getElem? (i := 11) rfl))) (mvT hZ (hw _ (List.mem_of_getElem? (i := 12) rfl))) (mvT hZ (hw _ (List.mem_of_getElem? (i := 15) rfl))) (by decide) (backOf (W := 0) (rm3 l Z a0 hw [] a1 h0 n0 Z0 ) hZ (hw _ (List.mem_of_getElem? (i := 15) rfl)) (hw _ (List.mem_of_getElem? (i := 14) rfl)) (by decide) (by decide)) (g := (mkF m 1 #[.val (.ref a1)] [(.ref a1)])) rfl (by rw [hml]; rfl) (Steps.refl _) (a := a1) (argsL := []) (rest := []) (lenOf pd_ocV rfl) rfl (by show 2 * 0 + _ ≤ _; exact Nat.le_of_eq rfl) (hb hby d2_1) (fun _ _ => ⟨rfl, eh0, (by decide : 0 + 0 ≤ _), (by decide : 0 + 0 ≤ _)⟩)
  dsimp only [Pt.U, Pt.locs, Pt.cells, Pt.slots] at X2 l2 y2 z2 st2 hQ2
  subst l2 y2 z2
  obtain ⟨rfl, N2q, eh2⟩ := hQ2
  have N2 := Fr.app N0 N2q
  have pre3 : ∀ t, Steps p.tables e below (T2.setTop (mkF m 4 #[.val (.ref a1)] [])) t → Steps p.tables e below (s₁.setTop (entryFrame m #[(.ref a1)] 1)) t := fun t k => pre1 t (st2.trans k)
  have pre4 : ∀ t, Steps p.tables e below (T2.setTop (mkF m 8 #[.val (.ref a1)] [(.long (-9223372036854775808 : Int64)), (.ref a1)])) t → Steps p.tables e below (s₁.setTop (entryFrame m #[(.ref a1)] 1)) t := fun t k => pre3 t (by
    show Steps p.tables e below (T2.setTop (mkF m 4 #[.val (.ref a1)] [])) t
    refine XS.aloadN X2.here hx rfl (hb hby d2_4) rfl rfl ?_
    show Steps p.tables e below (T2.setTop (mkF m 5 #[.val (.ref a1)] [(.ref a1)])) t
    refine X2.ldc2Long hx hown (mvT hZ (hw _ (List.mem_of_getElem? (i := 24) rfl))) (g := (mkF m 5 #[.val (.ref a1)] [(.ref a1)])) rfl (hb hby d2_5) _ ?_
    show Steps p.tables e below (T2.setTop (mkF m 8 #[.val (.ref a1)] [(.long (-9223372036854775808 : Int64)), (.ref a1)])) t
    exact k)
  obtain ⟨T5, h5, X5, eh5, W5, st5⟩ := putF X2 hx hZ hown (host := "") (Or.inl (hw _ (List.mem_of_getElem? (i := 25) rfl))) Via.refl eh2 F_start_a1 E_a1 (Or.inl (hw _ (List.mem_of_getElem? (i := 26) rfl))) (hw _ (List.mem_of_getElem? (i := 1) rfl)) (ty := .long) (by decide) rfl rfl (g := (mkF m 8 #[.val (.ref a1)] [(.long (-9223372036854775808 : Int64)), (.ref a1)])) rfl rfl (hb hby d2_8)
  have E_a1__5 : Exa Z h5 a1 "com/example/obturo/obturo/stats/internal/LatestSecondMoveToPinLaw" := E_a1.wr W5
  have F_endNanos_a1__5 : Fld Z h5 a1 "com/example/obturo/obturo/stats/internal/LatestSecond" "endNanos" "J" u1 := F_endNanos_a1.other W5 (Or.inr (slot_ne (Or.inl (hw _ (List.mem_of_getElem? (i := 28) rfl))) (Or.inl (hw _ (List.mem_of_getElem? (i := 26) rfl))) (by decide) (t := .long) (t' := .long) (by decide) (by decide)))
  have F_block_a1__5 : Fld Z h5 a1 "com/example/obturo/obturo/stats/internal/LatestSecond" "block" "J" u2 := F_block_a1.other W5 (Or.inr (slot_ne (Or.inl (hw _ (List.mem_of_getElem? (i := 35) rfl))) (Or.inl (hw _ (List.mem_of_getElem? (i := 26) rfl))) (by decide) (t := .long) (t' := .long) (by decide) (by decide)))
  have F_completed_a1__5 : Fld Z h5 a1 "com/example/obturo/obturo/stats/internal/LatestSecond" "completed" "J" u3 := F_completed_a1.other W5 (Or.inr (slot_ne (Or.inl (hw _ (List.mem_of_getElem? (i := 38) rfl))) (Or.inl (hw _ (List.mem_of_getElem? (i := 26) rfl))) (by decide) (t := .long) (t' := .long) (by decide) (by decide)))
  have F_errors_a1__5 : Fld Z h5 a1 "com/example/obturo/obturo/stats/internal/LatestSecond" "errors" "J" u4 := F_errors_a1.other W5 (Or.inr (slot_ne (Or.inl (hw _ (List.mem_of_getElem? (i := 41) rfl))) (Or.inl (hw _ (List.mem_of_getElem? (i := 26) rfl))) (by decide) (t := .long) (t' := .long) (by decide) (by decide)))
  have F_totalRtMillis_a1__5 : Fld Z h5 a1 "com/example/obturo/obturo/stats/internal/LatestSecond" "totalRtMillis" "J" u5 := F_totalRtMillis_a1.other W5 (Or.inr (slot_ne (Or.inl (hw _ (List.mem_of_getElem? (i := 44) rfl))) (Or.inl (hw _ (List.mem_of_getElem? (i := 26) rfl))) (by decide) (t := .long) (t' := .long) (by decide) (by decide)))
  have F_minRtMillis_a1__5 : Fld Z h5 a1 "com/example/obturo/obturo/stats/internal/LatestSecond" "minRtMillis" "J" u6 := F_minRtMillis_a1.other W5 (Or.inr (slot_ne (Or.inl (hw _ (List.mem_of_getElem? (i := 47) rfl))) (Or.inl (hw _ (List.mem_of_getElem? (i := 26) rfl))) (by decide) (t := .long) (t' := .long) (by decide) (by decide)))
  have sz5 : n0 ≤ h5.size := Nat.le_trans Z0 (Keep.of_wr W5).1
  have K5 : Keep h0 h5 [a1] := K0.wr W5 (Or.inl (List.mem_of_getElem? (i := 0) rfl))
  have N5 := Fr.snoc X5 N2 g_a1
  have F_start_a1__5 : Fld Z h5 a1 "com/example/obturo/obturo/stats/internal/LatestSecond" "start" "J" (.long (-9223372036854775808 : Int64)) := F_start_a1.same W5
  have pre6 : ∀ t, Steps p.tables e below (T5.setTop (mkF m 11 #[.val (.ref a1)] [])) t → Steps p.tables e below (s₁.setTop (entryFrame m #[(.ref a1)] 1)) t := fun t k => pre4 t (st5 _ k)
  have pre7 : ∀ t, Steps p.tables e below (T5.setTop (mkF m 15 #[.val (.ref a1)] [(.long (-9223372036854775808 : Int64)), (.ref a1)])) t → Steps p.tables e below (s₁.setTop (entryFrame m #[(.ref a1)] 1)) t := fun t k => pre6 t (by
    show Steps p.tables e below (T5.setTop (mkF m 11 #[.val (.ref a1)] [])) t
    refine XS.aloadN X5.here hx rfl (hb hby d2_11) rfl rfl ?_
    show Steps p.tables e below (T5.setTop (mkF m 12 #[.val (.ref a1)] [(.ref a1)])) t
    refine X5.ldc2Long hx hown (mvT hZ (hw _ (List.mem_of_getElem? (i := 24) rfl))) (g := (mkF m 12 #[.val (.ref a1)] [(.ref a1)])) rfl (hb hby d2_12) _ ?_
    show Steps p.tables e below (T5.setTop (mkF m 15 #[.val (.ref a1)] [(.long (-9223372036854775808 : Int64)), (.ref a1)])) t
    exact k)
  obtain ⟨T8, h8, X8, eh8, W8, st8⟩ := putF X5 hx hZ hown (host := "") (Or.inl (hw _ (List.mem_of_getElem? (i := 27) rfl))) Via.refl eh5 F_endNanos_a1__5 E_a1__5 (Or.inl (hw _ (List.mem_of_getElem? (i := 28) rfl))) (hw _ (List.mem_of_getElem? (i := 1) rfl)) (ty := .long) (by decide) rfl rfl (g := (mkF m 15 #[.val (.ref a1)] [(.long (-9223372036854775808 : Int64)), (.ref a1)])) rfl rfl (hb hby d2_15)
  have E_a1__8 : Exa Z h8 a1 "com/example/obturo/obturo/stats/internal/LatestSecondMoveToPinLaw" := E_a1__5.wr W8
  have F_start_a1__8 : Fld Z h8 a1 "com/example/obturo/obturo/stats/internal/LatestSecond" "start" "J" (.long (-9223372036854775808 : Int64)) := F_start_a1__5.other W8 (Or.inr (slot_ne (Or.inl (hw _ (List.mem_of_getElem? (i := 26) rfl))) (Or.inl (hw _ (List.mem_of_getElem? (i := 28) rfl))) (by decide) (t := .long) (t' := .long) (by decide) (by decide)))
  have F_block_a1__8 : Fld Z h8 a1 "com/example/obturo/obturo/stats/internal/LatestSecond" "block" "J" u2 := F_block_a1__5.other W8 (Or.inr (slot_ne (Or.inl (hw _ (List.mem_of_getElem? (i := 35) rfl))) (Or.inl (hw _ (List.mem_of_getElem? (i := 28) rfl))) (by decide) (t := .long) (t' := .long) (by decide) (by decide)))
  have F_completed_a1__8 : Fld Z h8 a1 "com/example/obturo/obturo/stats/internal/LatestSecond" "completed" "J" u3 := F_completed_a1__5.other W8 (Or.inr (slot_ne (Or.inl (hw _ (List.mem_of_getElem? (i := 38) rfl))) (Or.inl (hw _ (List.mem_of_getElem? (i := 28) rfl))) (by decide) (t := .long) (t' := .long) (by decide) (by decide)))
  have F_errors_a1__8 : Fld Z h8 a1 "com/example/obturo/obturo/stats/internal/LatestSecond" "errors" "J" u4 := F_errors_a1__5.other W8 (Or.inr (slot_ne (Or.inl (hw _ (List.mem_of_getElem? (i := 41) rfl))) (Or.inl (hw _ (List.mem_of_getElem? (i := 28) rfl))) (by decide) (t := .long) (t' := .long) (by decide) (by decide)))
  have F_totalRtMillis_a1__8 : Fld Z h8 a1 "com/example/obturo/obturo/stats/internal/LatestSecond" "totalRtMillis" "J" u5 := F_totalRtMillis_a1__5.other W8 (Or.inr (slot_ne (Or.inl (hw _ (List.mem_of_getElem? (i := 44) rfl))) (Or.inl (hw _ (List.mem_of_getElem? (i := 28) rfl))) (by decide) (t := .long) (t' := .long) (by decide) (by decide)))
  have F_minRtMillis_a1__8 : Fld Z h8 a1 "com/example/obturo/obturo/stats/internal/LatestSecond" "minRtMillis" "J" u6 := F_minRtMillis_a1__5.other W8 (Or.inr (slot_ne (Or.inl (hw _ (List.mem_of_getElem? (i := 47) rfl))) (Or.inl (hw _ (List.mem_of_getElem? (i := 28) rfl))) (by decide) (t := .long) (t' := .long) (by decide) (by decide)))
  have sz8 : n0 ≤ h8.size := Nat.le_trans sz5 (Keep.of_wr W8).1
  have K8 : Keep h0 h8 [a1] := K5.wr W8 (Or.inl (List.mem_of_getElem? (i := 0) rfl))
  have N8 := Fr.snoc X8 N5 g_a1
  have F_endNanos_a1__8 : Fld Z h8 a1 "com/example/obturo/obturo/stats/internal/LatestSecond" "endNanos" "J" (.long (-9223372036854775808 : Int64)) := F_endNanos_a1__5.same W8
  have pre9 : ∀ t, Steps p.tables e below (T8.setTop (mkF m 18 #[.val (.ref a1)] [])) t → Steps p.tables e below (s₁.setTop (entryFrame m #[(.ref a1)] 1)) t := fun t k => pre7 t (st8 _ k)
  obtain ⟨fs, hr, hrun, hended, hW, hsame⟩ := X8.leave (v := none) (fun _ => rfl)
  refine ⟨_, _, pre9 _ ?_, hrun, hended, _, _, rfl, ?_, ⟨_, rfl⟩, hW, hsame.mono (by decide) (by decide)⟩
  · show Steps p.tables e below (T8.setTop (mkF m 18 #[.val (.ref a1)] [])) _
    exact X8.returnOut hx Bd.returns (hb hby d2_18) hr
  · show Q2 Z a1 u0 u1 u2 u3 u4 u5 u6 h0 n0 _ T8.heap _
    rw [eh8]
    exact ⟨rfl, N8, K8, E_a1__8, F_start_a1__8, F_endNanos_a1__8, F_block_a1__8, F_completed_a1__8, F_errors_a1__8, F_totalRtMillis_a1__8, F_minRtMillis_a1__8⟩
theorem ef_1 (m : MethodId) (a1 : Addr) : entryFrame m #[(.ref a1)] 1 = mkF m 0 #[.val (.ref a1)] [] := by first | (simp [entryFrame, mkF, argsToLocals, Value.category]; done) | rfl
theorem pn_com_example_obturo_obturo_stats_internal_LatestSecondMoveToPinLaw : plainName "com/example/obturo/obturo/stats/internal/LatestSecondMoveToPinLaw" = true := by first | (simp [plainName, overriddenIn]; done) | decide +kernel
theorem d1_0 : decode method_1_code 0 = .ok (.aload_n 0, 1) := by decide +kernel
theorem d1_1 : decode method_1_code 1 = .ok (.invokespecial 1, 3) := by decide +kernel
theorem d1_4 : decode method_1_code 4 = .ok (.return_, 1) := by decide +kernel
def Q1 (Z : State) (a1 : Addr) (u0 : Value) (u1 : Value) (u2 : Value) (u3 : Value) (u4 : Value) (u5 : Value) (u6 : Value) (h0 : Heap) (n0 : Nat) (v : Option Value) (h : Heap) (L : List Loc) : Prop := v = none ∧ Fr n0 L ∧ Keep h0 h [a1] ∧ Exa Z h a1 "com/example/obturo/obturo/stats/internal/LatestSecondMoveToPinLaw" ∧ Fld Z h a1 "com/example/obturo/obturo/stats/internal/LatestSecond" "start" "J" (.long (-9223372036854775808 : Int64)) ∧ Fld Z h a1 "com/example/obturo/obturo/stats/internal/LatestSecond" "endNanos" "J" (.long (-9223372036854775808 : Int64)) ∧ Fld Z h a1 "com/example/obturo/obturo/stats/internal/LatestSecond" "block" "J" u2 ∧ Fld Z h a1 "com/example/obturo/obturo/stats/internal/LatestSecond" "completed" "J" u3 ∧ Fld Z h a1 "com/example/obturo/obturo/stats/internal/LatestSecond" "errors" "J" u4 ∧ Fld Z h a1 "com/example/obturo/obturo/stats/internal/LatestSecond" "totalRtMillis" "J" u5 ∧ Fld Z h a1 "com/example/obturo/obturo/stats/internal/LatestSecond" "minRtMillis" "J" u6
set_option maxRecDepth 65536 in
set_option maxHeartbeats 40000000 in
theorem rm1 (l : Launch) (Z : State) (a0 : Array Value) (hw : ∀ d ∈ tables_1, d.before a0 Z = true) (ws : List Jvm.Cond) (a1 : Addr) (u0 : Value) (u1 : Value) (u2 : Value) (u3 : Value) (u4 : Value) (u5 : Value) (u6 : Value) (h0 : Heap) (n0 : Nat) (Z0 : n0 ≤ h0.size) (E_a1 : Exa Z h0 a1 "com/example/obturo/obturo/stats/internal/LatestSecondMoveToPinLaw") (F_start_a1 : Fld Z h0 a1 "com/example/obturo/obturo/stats/internal/LatestSecond" "start" "J" u0) (F_endNanos_a1 : Fld Z h0 a1 "com/example/obturo/obturo/stats/internal/LatestSecond" "endNanos" "J" u1) (F_block_a1 : Fld Z h0 a1 "com/example/obturo/obturo/stats/internal/LatestSecond" "block" "J" u2) (F_completed_a1 : Fld Z h0 a1 "com/example/obturo/obturo/stats/internal/LatestSecond" "completed" "J" u3) (F_errors_a1 : Fld Z h0 a1 "com/example/obturo/obturo/stats/internal/LatestSecond" "errors" "J" u4) (F_totalRtMillis_a1 : Fld Z h0 a1 "com/example/obturo/obturo/stats/internal/LatestSecond" "totalRtMillis" "J" u5) (F_minRtMillis_a1 : Fld Z h0 a1 "com/example/obturo/obturo/stats/internal/LatestSecond" "minRtMillis" "J" u6) (g_a1 : n0 ≤ a1) :
    MetFree l (⟨"com/example/obturo/obturo/stats/internal/LatestSecondMoveToPinLaw", "<init>", "()V"⟩ : MethodName) (head1 (Jvm.Cond.code (⟨"com/example/obturo/obturo/stats/internal/LatestSecondMoveToPinLaw", "<init>", "()V"⟩ : MethodName) method_1_code 1 none :: ws) ({ frames := 4, cells := 0, slots := 0, locals := 48 } : Room)) (fun a U => a = #[(.ref a1)] ∧ Z.Warmed39 U.vm ∧ U.heap = h0) (fun _ _ _ _ _ => True) (fun _ U o U' => ∃ v L, o = .returned v ∧ Q1 Z a1 u0 u1 u2 u3 u4 u5 u6 h0 n0 v U'.heap L ∧ FrameEnd U o U' L ({ frames := 4, cells := 0, slots := 0, locals := 48 } : Room).cells ({ frames := 4, cells := 0, slots := 0, locals := 48 } : Room).slots) := by
  refine MetFree.of_bodySF (plainFor_of_name pn_com_example_obturo_obturo_stats_internal_LatestSecondMoveToPinLaw) hisR ?_
  intro p e s m args below meth c s₁ Bd hml0 hP hK
  obtain ⟨rfl, hZ, hh⟩ := hP
  have hx := Bd.exec
  have hby := Bd.bytes
  have hml : c.maxLocals = 1 := hml0
  have hown : s.vm.findClass "com/example/obturo/obturo/stats/internal/LatestSecondMoveToPinLaw" = some m.cls := findClass_of_methodNamed Bd.named
  have hnm := (name_of_methodNamed Bd.named Bd.method).1
  have X0 : Stand p l e ({ frames := 4, cells := 0, slots := 0, locals := 48 } : Room) s m #[(.ref a1)] below meth c s₁ [] 0 0 := Stand.of_body Bd
  have eh0 : s₁.heap = h0 := by rw [← hh, Bd.state]; rfl
  have N0 := Fr.nil n0
  have pre0 : ∀ t, Steps p.tables e below (s₁.setTop (mkF m 0 #[.val (.ref a1)] [])) t → Steps p.tables e below (s₁.setTop (entryFrame m #[(.ref a1)] 1)) t := fun t k => castTop (ef_1 m a1) k
  have K0 : Keep h0 h0 [a1] := Keep.refl _ _
  have pre1 : ∀ t, Steps p.tables e below (s₁.setTop (mkF m 1 #[.val (.ref a1)] [(.ref a1)])) t → Steps p.tables e below (s₁.setTop (entryFrame m #[(.ref a1)] 1)) t := fun t k => pre0 t (by
    show Steps p.tables e below (s₁.setTop (mkF m 0 #[.val (.ref a1)] [])) t
    refine XS.aloadN X0.here hx rfl (hb hby d1_0) rfl rfl ?_
    show Steps p.tables e below (s₁.setTop (mkF m 1 #[.val (.ref a1)] [(.ref a1)])) t
    exact k)
  obtain ⟨_, _, ⟨T2, L2, k2, n2⟩, -, X2, ⟨Lc2, hQ2, l2, y2, z2⟩, st2⟩ := X0.specialBack hx (y := (⟨"com/example/obturo/obturo/stats/internal/LatestSecond", "<init>", "()V"⟩ : MethodName)) rfl hown (mvT hZ (hw _ (List.mem_of_getElem? (i := 6) rfl))) (mvT hZ (hw _ (List.mem_of_getElem? (i := 7) rfl))) (mvT hZ (hw _ (List.mem_of_getElem? (i := 10) rfl))) (by decide) (backOf (W := 0) (rm2 l Z a0 hw [] a1 u0 u1 u2 u3 u4 u5 u6 h0 n0 Z0 E_a1 F_start_a1 F_endNanos_a1 F_block_a1 F_completed_a1 F_errors_a1 F_totalRtMillis_a1 F_minRtMillis_a1 g_a1) hZ (hw _ (List.mem_of_getElem? (i := 10) rfl)) (hw _ (List.mem_of_getElem? (i := 9) rfl)) (by decide) (by decide)) (g := (mkF m 1 #[.val (.ref a1)] [(.ref a1)])) rfl (by rw [hml]; rfl) (Steps.refl _) (a := a1) (argsL := []) (rest := []) (lenOf pd_ocV rfl) rfl (by show 2 * 0 + _ ≤ _; exact Nat.le_of_eq rfl) (hb hby d1_1) (fun _ _ => ⟨rfl, eh0, (by decide : 0 + 0 ≤ _), (by decide : 0 + 0 ≤ _)⟩)
  dsimp only [Pt.U, Pt.locs, Pt.cells, Pt.slots] at X2 l2 y2 z2 st2 hQ2
  subst l2 y2 z2
  obtain ⟨rfl, N2q, Kq2, P2_1, P2_2, P2_3, P2_4, P2_5, P2_6, P2_7, P2_8⟩ := hQ2
  have sz2 : n0 ≤ T2.heap.size := Nat.le_trans Z0 Kq2.1
  have K2 : Keep h0 T2.heap [a1] := K0.trans Kq2 (allS (Or.inl (List.mem_of_getElem? (i := 0) rfl)) all0)
  have N2 := Fr.app N0 N2q
  have pre3 : ∀ t, Steps p.tables e below (T2.setTop (mkF m 4 #[.val (.ref a1)] [])) t → Steps p.tables e below (s₁.setTop (entryFrame m #[(.ref a1)] 1)) t := fun t k => pre1 t (st2.trans k)
  obtain ⟨fs, hr, hrun, hended, hW, hsame⟩ := X2.leave (v := none) (fun _ => rfl)
  refine ⟨_, _, pre3 _ ?_, hrun, hended, _, _, rfl, ?_, ⟨_, rfl⟩, hW, hsame.mono (by decide) (by decide)⟩
  · show Steps p.tables e below (T2.setTop (mkF m 4 #[.val (.ref a1)] [])) _
    exact X2.returnOut hx Bd.returns (hb hby d1_4) hr
  · show Q1 Z a1 u0 u1 u2 u3 u4 u5 u6 h0 n0 _ T2.heap _
    exact ⟨rfl, N2, K2, P2_1, P2_2, P2_3, P2_4, P2_5, P2_6, P2_7, P2_8⟩
theorem ef_6 (m : MethodId) (a1 : Addr) (q2 : Int64) : entryFrame m #[(.ref a1), (.long q2)] 3 = mkF m 0 #[.val (.ref a1), .val (.long q2), .second] [] := by first | (simp [entryFrame, mkF, argsToLocals, Value.category]; done) | rfl
theorem d6_0 : decode prog_73_method_4_code 0 = .ok (.aload_n 0, 1) := by decide +kernel
theorem d6_1 : decode prog_73_method_4_code 1 = .ok (.lload_n 1, 1) := by decide +kernel
theorem d6_2 : decode prog_73_method_4_code 2 = .ok (.putfield 13, 3) := by decide +kernel
theorem d6_5 : decode prog_73_method_4_code 5 = .ok (.aload_n 0, 1) := by decide +kernel
theorem d6_6 : decode prog_73_method_4_code 6 = .ok (.lload_n 1, 1) := by decide +kernel
theorem d6_7 : decode prog_73_method_4_code 7 = .ok (.ldc2_w 28, 3) := by decide +kernel
theorem d6_10 : decode prog_73_method_4_code 10 = .ok (.ladd, 1) := by decide +kernel
theorem d6_11 : decode prog_73_method_4_code 11 = .ok (.ldc2_w 37, 3) := by decide +kernel
theorem d6_14 : decode prog_73_method_4_code 14 = .ok (.lmul, 1) := by decide +kernel
theorem d6_15 : decode prog_73_method_4_code 15 = .ok (.putfield 17, 3) := by decide +kernel
theorem d6_18 : decode prog_73_method_4_code 18 = .ok (.aload_n 0, 1) := by decide +kernel
theorem d6_19 : decode prog_73_method_4_code 19 = .ok (.lconst 0, 1) := by decide +kernel
theorem d6_20 : decode prog_73_method_4_code 20 = .ok (.putfield 39, 3) := by decide +kernel
theorem d6_23 : decode prog_73_method_4_code 23 = .ok (.aload_n 0, 1) := by decide +kernel
theorem d6_24 : decode prog_73_method_4_code 24 = .ok (.lconst 0, 1) := by decide +kernel
theorem d6_25 : decode prog_73_method_4_code 25 = .ok (.putfield 42, 3) := by decide +kernel
theorem d6_28 : decode prog_73_method_4_code 28 = .ok (.aload_n 0, 1) := by decide +kernel
theorem d6_29 : decode prog_73_method_4_code 29 = .ok (.lconst 0, 1) := by decide +kernel
theorem d6_30 : decode prog_73_method_4_code 30 = .ok (.putfield 45, 3) := by decide +kernel
theorem d6_33 : decode prog_73_method_4_code 33 = .ok (.aload_n 0, 1) := by decide +kernel
theorem d6_34 : decode prog_73_method_4_code 34 = .ok (.lconst 0, 1) := by decide +kernel
theorem d6_35 : decode prog_73_method_4_code 35 = .ok (.putfield 48, 3) := by decide +kernel
theorem d6_38 : decode prog_73_method_4_code 38 = .ok (.aload_n 0, 1) := by decide +kernel
theorem d6_39 : decode prog_73_method_4_code 39 = .ok (.ldc2_w 51, 3) := by decide +kernel
theorem d6_42 : decode prog_73_method_4_code 42 = .ok (.putfield 53, 3) := by decide +kernel
theorem d6_45 : decode prog_73_method_4_code 45 = .ok (.return_, 1) := by decide +kernel
def Q6 (Z : State) (a1 : Addr) (q2 : Int64) (u0 : Value) (u1 : Value) (u2 : Value) (u3 : Value) (u4 : Value) (u5 : Value) (u6 : Value) (h0 : Heap) (n0 : Nat) (v : Option Value) (h : Heap) (L : List Loc) : Prop := v = none ∧ Fr n0 L ∧ Keep h0 h [a1] ∧ Exa Z h a1 "com/example/obturo/obturo/stats/internal/LatestSecondMoveToPinLaw" ∧ Fld Z h a1 "com/example/obturo/obturo/stats/internal/LatestSecond" "start" "J" (.long q2) ∧ Fld Z h a1 "com/example/obturo/obturo/stats/internal/LatestSecond" "endNanos" "J" (.long ((q2 + (1000 : Int64)) * (1000000 : Int64))) ∧ Fld Z h a1 "com/example/obturo/obturo/stats/internal/LatestSecond" "block" "J" (.long (0 : Int64)) ∧ Fld Z h a1 "com/example/obturo/obturo/stats/internal/LatestSecond" "completed" "J" (.long (0 : Int64)) ∧ Fld Z h a1 "com/example/obturo/obturo/stats/internal/LatestSecond" "errors" "J" (.long (0 : Int64)) ∧ Fld Z h a1 "com/example/obturo/obturo/stats/internal/LatestSecond" "totalRtMillis" "J" (.long (0 : Int64)) ∧ Fld Z h a1 "com/example/obturo/obturo/stats/internal/LatestSecond" "minRtMillis" "J" (.long (9223372036854775807 : Int64))
set_option maxRecDepth 65536 in
set_option maxHeartbeats 40000000 in
theorem rm6 (l : Launch) (Z : State) (a0 : Array Value) (hw : ∀ d ∈ tables_1, d.before a0 Z = true) (ws : List Jvm.Cond) (a1 : Addr) (q2 : Int64) (u0 : Value) (u1 : Value) (u2 : Value) (u3 : Value) (u4 : Value) (u5 : Value) (u6 : Value) (h0 : Heap) (n0 : Nat) (Z0 : n0 ≤ h0.size) (E_a1 : Exa Z h0 a1 "com/example/obturo/obturo/stats/internal/LatestSecondMoveToPinLaw") (F_start_a1 : Fld Z h0 a1 "com/example/obturo/obturo/stats/internal/LatestSecond" "start" "J" u0) (F_endNanos_a1 : Fld Z h0 a1 "com/example/obturo/obturo/stats/internal/LatestSecond" "endNanos" "J" u1) (F_block_a1 : Fld Z h0 a1 "com/example/obturo/obturo/stats/internal/LatestSecond" "block" "J" u2) (F_completed_a1 : Fld Z h0 a1 "com/example/obturo/obturo/stats/internal/LatestSecond" "completed" "J" u3) (F_errors_a1 : Fld Z h0 a1 "com/example/obturo/obturo/stats/internal/LatestSecond" "errors" "J" u4) (F_totalRtMillis_a1 : Fld Z h0 a1 "com/example/obturo/obturo/stats/internal/LatestSecond" "totalRtMillis" "J" u5) (F_minRtMillis_a1 : Fld Z h0 a1 "com/example/obturo/obturo/stats/internal/LatestSecond" "minRtMillis" "J" u6) (g_a1 : n0 ≤ a1) :
    MetFree l (⟨"com/example/obturo/obturo/stats/internal/LatestSecond", "moveTo", "(J)V"⟩ : MethodName) (head1 (Jvm.Cond.code (⟨"com/example/obturo/obturo/stats/internal/LatestSecond", "moveTo", "(J)V"⟩ : MethodName) prog_73_method_4_code 3 none :: ws) ({ frames := 0, cells := 0, slots := 0, locals := 0 } : Room)) (fun a U => a = #[(.ref a1), (.long q2)] ∧ Z.Warmed39 U.vm ∧ U.heap = h0) (fun _ _ _ _ _ => True) (fun _ U o U' => ∃ v L, o = .returned v ∧ Q6 Z a1 q2 u0 u1 u2 u3 u4 u5 u6 h0 n0 v U'.heap L ∧ FrameEnd U o U' L ({ frames := 0, cells := 0, slots := 0, locals := 0 } : Room).cells ({ frames := 0, cells := 0, slots := 0, locals := 0 } : Room).slots) := by
  refine MetFree.of_bodySF (plainFor_of_name pn_com_example_obturo_obturo_stats_internal_LatestSecond) hisR ?_
  intro p e s m args below meth c s₁ Bd hml0 hP hK
  obtain ⟨rfl, hZ, hh⟩ := hP
  have hx := Bd.exec
  have hby := Bd.bytes
  have hml : c.maxLocals = 3 := hml0
  have hown : s.vm.findClass "com/example/obturo/obturo/stats/internal/LatestSecond" = some m.cls := findClass_of_methodNamed Bd.named
  have hnm := (name_of_methodNamed Bd.named Bd.method).1
  have X0 : Stand p l e ({ frames := 0, cells := 0, slots := 0, locals := 0 } : Room) s m #[(.ref a1), (.long q2)] below meth c s₁ [] 0 0 := Stand.of_body Bd
  have eh0 : s₁.heap = h0 := by rw [← hh, Bd.state]; rfl
  have N0 := Fr.nil n0
  have pre0 : ∀ t, Steps p.tables e below (s₁.setTop (mkF m 0 #[.val (.ref a1), .val (.long q2), .second] [])) t → Steps p.tables e below (s₁.setTop (entryFrame m #[(.ref a1), (.long q2)] 3)) t := fun t k => castTop (ef_6 m a1 q2) k
  have K0 : Keep h0 h0 [a1] := Keep.refl _ _
  have pre1 : ∀ t, Steps p.tables e below (s₁.setTop (mkF m 2 #[.val (.ref a1), .val (.long q2), .second] [(.long q2), (.ref a1)])) t → Steps p.tables e below (s₁.setTop (entryFrame m #[(.ref a1), (.long q2)] 3)) t := fun t k => pre0 t (by
    show Steps p.tables e below (s₁.setTop (mkF m 0 #[.val (.ref a1), .val (.long q2), .second] [])) t
    refine XS.aloadN X0.here hx rfl (hb hby d6_0) rfl rfl ?_
    show Steps p.tables e below (s₁.setTop (mkF m 1 #[.val (.ref a1), .val (.long q2), .second] [(.ref a1)])) t
    refine XT.lloadN X0.here hx rfl (hb hby d6_1) rfl ?_
    show Steps p.tables e below (s₁.setTop (mkF m 2 #[.val (.ref a1), .val (.long q2), .second] [(.long q2), (.ref a1)])) t
    exact k)
  obtain ⟨T2, h2, X2, eh2, W2, st2⟩ := putF X0 hx hZ hown (host := "") (Or.inl (hw _ (List.mem_of_getElem? (i := 25) rfl))) Via.refl eh0 F_start_a1 E_a1 (Or.inl (hw _ (List.mem_of_getElem? (i := 26) rfl))) (hw _ (List.mem_of_getElem? (i := 1) rfl)) (ty := .long) (by decide) rfl rfl (g := (mkF m 2 #[.val (.ref a1), .val (.long q2), .second] [(.long q2), (.ref a1)])) rfl rfl (hb hby d6_2)
  have E_a1__2 : Exa Z h2 a1 "com/example/obturo/obturo/stats/internal/LatestSecondMoveToPinLaw" := E_a1.wr W2
  have F_endNanos_a1__2 : Fld Z h2 a1 "com/example/obturo/obturo/stats/internal/LatestSecond" "endNanos" "J" u1 := F_endNanos_a1.other W2 (Or.inr (slot_ne (Or.inl (hw _ (List.mem_of_getElem? (i := 28) rfl))) (Or.inl (hw _ (List.mem_of_getElem? (i := 26) rfl))) (by decide) (t := .long) (t' := .long) (by decide) (by decide)))
  have F_block_a1__2 : Fld Z h2 a1 "com/example/obturo/obturo/stats/internal/LatestSecond" "block" "J" u2 := F_block_a1.other W2 (Or.inr (slot_ne (Or.inl (hw _ (List.mem_of_getElem? (i := 35) rfl))) (Or.inl (hw _ (List.mem_of_getElem? (i := 26) rfl))) (by decide) (t := .long) (t' := .long) (by decide) (by decide)))
  have F_completed_a1__2 : Fld Z h2 a1 "com/example/obturo/obturo/stats/internal/LatestSecond" "completed" "J" u3 := F_completed_a1.other W2 (Or.inr (slot_ne (Or.inl (hw _ (List.mem_of_getElem? (i := 38) rfl))) (Or.inl (hw _ (List.mem_of_getElem? (i := 26) rfl))) (by decide) (t := .long) (t' := .long) (by decide) (by decide)))
  have F_errors_a1__2 : Fld Z h2 a1 "com/example/obturo/obturo/stats/internal/LatestSecond" "errors" "J" u4 := F_errors_a1.other W2 (Or.inr (slot_ne (Or.inl (hw _ (List.mem_of_getElem? (i := 41) rfl))) (Or.inl (hw _ (List.mem_of_getElem? (i := 26) rfl))) (by decide) (t := .long) (t' := .long) (by decide) (by decide)))
  have F_totalRtMillis_a1__2 : Fld Z h2 a1 "com/example/obturo/obturo/stats/internal/LatestSecond" "totalRtMillis" "J" u5 := F_totalRtMillis_a1.other W2 (Or.inr (slot_ne (Or.inl (hw _ (List.mem_of_getElem? (i := 44) rfl))) (Or.inl (hw _ (List.mem_of_getElem? (i := 26) rfl))) (by decide) (t := .long) (t' := .long) (by decide) (by decide)))
  have F_minRtMillis_a1__2 : Fld Z h2 a1 "com/example/obturo/obturo/stats/internal/LatestSecond" "minRtMillis" "J" u6 := F_minRtMillis_a1.other W2 (Or.inr (slot_ne (Or.inl (hw _ (List.mem_of_getElem? (i := 47) rfl))) (Or.inl (hw _ (List.mem_of_getElem? (i := 26) rfl))) (by decide) (t := .long) (t' := .long) (by decide) (by decide)))
  have sz2 : n0 ≤ h2.size := Nat.le_trans Z0 (Keep.of_wr W2).1
  have K2 : Keep h0 h2 [a1] := K0.wr W2 (Or.inl (List.mem_of_getElem? (i := 0) rfl))
  have N2 := Fr.snoc X2 N0 g_a1
  have F_start_a1__2 : Fld Z h2 a1 "com/example/obturo/obturo/stats/internal/LatestSecond" "start" "J" (.long q2) := F_start_a1.same W2
  have pre3 : ∀ t, Steps p.tables e below (T2.setTop (mkF m 5 #[.val (.ref a1), .val (.long q2), .second] [])) t → Steps p.tables e below (s₁.setTop (entryFrame m #[(.ref a1), (.long q2)] 3)) t := fun t k => pre1 t (st2 _ k)
  have pre4 : ∀ t, Steps p.tables e below (T2.setTop (mkF m 15 #[.val (.ref a1), .val (.long q2), .second] [(.long ((q2 + (1000 : Int64)) * (1000000 : Int64))), (.ref a1)])) t → Steps p.tables e below (s₁.setTop (entryFrame m #[(.ref a1), (.long q2)] 3)) t := fun t k => pre3 t (by
    show Steps p.tables e below (T2.setTop (mkF m 5 #[.val (.ref a1), .val (.long q2), .second] [])) t
    refine XS.aloadN X2.here hx rfl (hb hby d6_5) rfl rfl ?_
    show Steps p.tables e below (T2.setTop (mkF m 6 #[.val (.ref a1), .val (.long q2), .second] [(.ref a1)])) t
    refine XT.lloadN X2.here hx rfl (hb hby d6_6) rfl ?_
    show Steps p.tables e below (T2.setTop (mkF m 7 #[.val (.ref a1), .val (.long q2), .second] [(.long q2), (.ref a1)])) t
    refine X2.ldc2Long hx hown (mvT hZ (hw _ (List.mem_of_getElem? (i := 54) rfl))) (g := (mkF m 7 #[.val (.ref a1), .val (.long q2), .second] [(.long q2), (.ref a1)])) rfl (hb hby d6_7) _ ?_
    show Steps p.tables e below (T2.setTop (mkF m 10 #[.val (.ref a1), .val (.long q2), .second] [(.long (1000 : Int64)), (.long q2), (.ref a1)])) t
    refine XT.ladd X2.here hx rfl (hb hby d6_10) rfl ?_
    show Steps p.tables e below (T2.setTop (mkF m 11 #[.val (.ref a1), .val (.long q2), .second] [(.long (q2 + (1000 : Int64))), (.ref a1)])) t
    refine X2.ldc2Long hx hown (mvT hZ (hw _ (List.mem_of_getElem? (i := 55) rfl))) (g := (mkF m 11 #[.val (.ref a1), .val (.long q2), .second] [(.long (q2 + (1000 : Int64))), (.ref a1)])) rfl (hb hby d6_11) _ ?_
    show Steps p.tables e below (T2.setTop (mkF m 14 #[.val (.ref a1), .val (.long q2), .second] [(.long (1000000 : Int64)), (.long (q2 + (1000 : Int64))), (.ref a1)])) t
    refine XT.lmul X2.here hx rfl (hb hby d6_14) rfl ?_
    show Steps p.tables e below (T2.setTop (mkF m 15 #[.val (.ref a1), .val (.long q2), .second] [(.long ((q2 + (1000 : Int64)) * (1000000 : Int64))), (.ref a1)])) t
    exact k)
  obtain ⟨T5, h5, X5, eh5, W5, st5⟩ := putF X2 hx hZ hown (host := "") (Or.inl (hw _ (List.mem_of_getElem? (i := 27) rfl))) Via.refl eh2 F_endNanos_a1__2 E_a1__2 (Or.inl (hw _ (List.mem_of_getElem? (i := 28) rfl))) (hw _ (List.mem_of_getElem? (i := 1) rfl)) (ty := .long) (by decide) rfl rfl (g := (mkF m 15 #[.val (.ref a1), .val (.long q2), .second] [(.long ((q2 + (1000 : Int64)) * (1000000 : Int64))), (.ref a1)])) rfl rfl (hb hby d6_15)
  have E_a1__5 : Exa Z h5 a1 "com/example/obturo/obturo/stats/internal/LatestSecondMoveToPinLaw" := E_a1__2.wr W5
  have F_start_a1__5 : Fld Z h5 a1 "com/example/obturo/obturo/stats/internal/LatestSecond" "start" "J" (.long q2) := F_start_a1__2.other W5 (Or.inr (slot_ne (Or.inl (hw _ (List.mem_of_getElem? (i := 26) rfl))) (Or.inl (hw _ (List.mem_of_getElem? (i := 28) rfl))) (by decide) (t := .long) (t' := .long) (by decide) (by decide)))
  have F_block_a1__5 : Fld Z h5 a1 "com/example/obturo/obturo/stats/internal/LatestSecond" "block" "J" u2 := F_block_a1__2.other W5 (Or.inr (slot_ne (Or.inl (hw _ (List.mem_of_getElem? (i := 35) rfl))) (Or.inl (hw _ (List.mem_of_getElem? (i := 28) rfl))) (by decide) (t := .long) (t' := .long) (by decide) (by decide)))
  have F_completed_a1__5 : Fld Z h5 a1 "com/example/obturo/obturo/stats/internal/LatestSecond" "completed" "J" u3 := F_completed_a1__2.other W5 (Or.inr (slot_ne (Or.inl (hw _ (List.mem_of_getElem? (i := 38) rfl))) (Or.inl (hw _ (List.mem_of_getElem? (i := 28) rfl))) (by decide) (t := .long) (t' := .long) (by decide) (by decide)))
  have F_errors_a1__5 : Fld Z h5 a1 "com/example/obturo/obturo/stats/internal/LatestSecond" "errors" "J" u4 := F_errors_a1__2.other W5 (Or.inr (slot_ne (Or.inl (hw _ (List.mem_of_getElem? (i := 41) rfl))) (Or.inl (hw _ (List.mem_of_getElem? (i := 28) rfl))) (by decide) (t := .long) (t' := .long) (by decide) (by decide)))
  have F_totalRtMillis_a1__5 : Fld Z h5 a1 "com/example/obturo/obturo/stats/internal/LatestSecond" "totalRtMillis" "J" u5 := F_totalRtMillis_a1__2.other W5 (Or.inr (slot_ne (Or.inl (hw _ (List.mem_of_getElem? (i := 44) rfl))) (Or.inl (hw _ (List.mem_of_getElem? (i := 28) rfl))) (by decide) (t := .long) (t' := .long) (by decide) (by decide)))
  have F_minRtMillis_a1__5 : Fld Z h5 a1 "com/example/obturo/obturo/stats/internal/LatestSecond" "minRtMillis" "J" u6 := F_minRtMillis_a1__2.other W5 (Or.inr (slot_ne (Or.inl (hw _ (List.mem_of_getElem? (i := 47) rfl))) (Or.inl (hw _ (List.mem_of_getElem? (i := 28) rfl))) (by decide) (t := .long) (t' := .long) (by decide) (by decide)))
  have sz5 : n0 ≤ h5.size := Nat.le_trans sz2 (Keep.of_wr W5).1
  have K5 : Keep h0 h5 [a1] := K2.wr W5 (Or.inl (List.mem_of_getElem? (i := 0) rfl))
  have N5 := Fr.snoc X5 N2 g_a1
  have F_endNanos_a1__5 : Fld Z h5 a1 "com/example/obturo/obturo/stats/internal/LatestSecond" "endNanos" "J" (.long ((q2 + (1000 : Int64)) * (1000000 : Int64))) := F_endNanos_a1__2.same W5
  have pre6 : ∀ t, Steps p.tables e below (T5.setTop (mkF m 18 #[.val (.ref a1), .val (.long q2), .second] [])) t → Steps p.tables e below (s₁.setTop (entryFrame m #[(.ref a1), (.long q2)] 3)) t := fun t k => pre4 t (st5 _ k)
  have pre7 : ∀ t, Steps p.tables e below (T5.setTop (mkF m 20 #[.val (.ref a1), .val (.long q2), .second] [(.long (0 : Int64)), (.ref a1)])) t → Steps p.tables e below (s₁.setTop (entryFrame m #[(.ref a1), (.long q2)] 3)) t := fun t k => pre6 t (by
    show Steps p.tables e below (T5.setTop (mkF m 18 #[.val (.ref a1), .val (.long q2), .second] [])) t
    refine XS.aloadN X5.here hx rfl (hb hby d6_18) rfl rfl ?_
    show Steps p.tables e below (T5.setTop (mkF m 19 #[.val (.ref a1), .val (.long q2), .second] [(.ref a1)])) t
    refine XT.lconstV X5.here hx rfl (0 : Int64) (hb hby d6_19) (by decide) ?_
    show Steps p.tables e below (T5.setTop (mkF m 20 #[.val (.ref a1), .val (.long q2), .second] [(.long (0 : Int64)), (.ref a1)])) t
    exact k)
  obtain ⟨T8, h8, X8, eh8, W8, st8⟩ := putF X5 hx hZ hown (host := "") (Or.inl (hw _ (List.mem_of_getElem? (i := 56) rfl))) Via.refl eh5 F_block_a1__5 E_a1__5 (Or.inl (hw _ (List.mem_of_getElem? (i := 35) rfl))) (hw _ (List.mem_of_getElem? (i := 1) rfl)) (ty := .long) (by decide) rfl rfl (g := (mkF m 20 #[.val (.ref a1), .val (.long q2), .second] [(.long (0 : Int64)), (.ref a1)])) rfl rfl (hb hby d6_20)
  have E_a1__8 : Exa Z h8 a1 "com/example/obturo/obturo/stats/internal/LatestSecondMoveToPinLaw" := E_a1__5.wr W8
  have F_start_a1__8 : Fld Z h8 a1 "com/example/obturo/obturo/stats/internal/LatestSecond" "start" "J" (.long q2) := F_start_a1__5.other W8 (Or.inr (slot_ne (Or.inl (hw _ (List.mem_of_getElem? (i := 26) rfl))) (Or.inl (hw _ (List.mem_of_getElem? (i := 35) rfl))) (by decide) (t := .long) (t' := .long) (by decide) (by decide)))
  have F_endNanos_a1__8 : Fld Z h8 a1 "com/example/obturo/obturo/stats/internal/LatestSecond" "endNanos" "J" (.long ((q2 + (1000 : Int64)) * (1000000 : Int64))) := F_endNanos_a1__5.other W8 (Or.inr (slot_ne (Or.inl (hw _ (List.mem_of_getElem? (i := 28) rfl))) (Or.inl (hw _ (List.mem_of_getElem? (i := 35) rfl))) (by decide) (t := .long) (t' := .long) (by decide) (by decide)))
  have F_completed_a1__8 : Fld Z h8 a1 "com/example/obturo/obturo/stats/internal/LatestSecond" "completed" "J" u3 := F_completed_a1__5.other W8 (Or.inr (slot_ne (Or.inl (hw _ (List.mem_of_getElem? (i := 38) rfl))) (Or.inl (hw _ (List.mem_of_getElem? (i := 35) rfl))) (by decide) (t := .long) (t' := .long) (by decide) (by decide)))
  have F_errors_a1__8 : Fld Z h8 a1 "com/example/obturo/obturo/stats/internal/LatestSecond" "errors" "J" u4 := F_errors_a1__5.other W8 (Or.inr (slot_ne (Or.inl (hw _ (List.mem_of_getElem? (i := 41) rfl))) (Or.inl (hw _ (List.mem_of_getElem? (i := 35) rfl))) (by decide) (t := .long) (t' := .long) (by decide) (by decide)))
  have F_totalRtMillis_a1__8 : Fld Z h8 a1 "com/example/obturo/obturo/stats/internal/LatestSecond" "totalRtMillis" "J" u5 := F_totalRtMillis_a1__5.other W8 (Or.inr (slot_ne (Or.inl (hw _ (List.mem_of_getElem? (i := 44) rfl))) (Or.inl (hw _ (List.mem_of_getElem? (i := 35) rfl))) (by decide) (t := .long) (t' := .long) (by decide) (by decide)))
  have F_minRtMillis_a1__8 : Fld Z h8 a1 "com/example/obturo/obturo/stats/internal/LatestSecond" "minRtMillis" "J" u6 := F_minRtMillis_a1__5.other W8 (Or.inr (slot_ne (Or.inl (hw _ (List.mem_of_getElem? (i := 47) rfl))) (Or.inl (hw _ (List.mem_of_getElem? (i := 35) rfl))) (by decide) (t := .long) (t' := .long) (by decide) (by decide)))
  have sz8 : n0 ≤ h8.size := Nat.le_trans sz5 (Keep.of_wr W8).1
  have K8 : Keep h0 h8 [a1] := K5.wr W8 (Or.inl (List.mem_of_getElem? (i := 0) rfl))
  have N8 := Fr.snoc X8 N5 g_a1
  have F_block_a1__8 : Fld Z h8 a1 "com/example/obturo/obturo/stats/internal/LatestSecond" "block" "J" (.long (0 : Int64)) := F_block_a1__5.same W8
  have pre9 : ∀ t, Steps p.tables e below (T8.setTop (mkF m 23 #[.val (.ref a1), .val (.long q2), .second] [])) t → Steps p.tables e below (s₁.setTop (entryFrame m #[(.ref a1), (.long q2)] 3)) t := fun t k => pre7 t (st8 _ k)
  have pre10 : ∀ t, Steps p.tables e below (T8.setTop (mkF m 25 #[.val (.ref a1), .val (.long q2), .second] [(.long (0 : Int64)), (.ref a1)])) t → Steps p.tables e below (s₁.setTop (entryFrame m #[(.ref a1), (.long q2)] 3)) t := fun t k => pre9 t (by
    show Steps p.tables e below (T8.setTop (mkF m 23 #[.val (.ref a1), .val (.long q2), .second] [])) t
    refine XS.aloadN X8.here hx rfl (hb hby d6_23) rfl rfl ?_
    show Steps p.tables e below (T8.setTop (mkF m 24 #[.val (.ref a1), .val (.long q2), .second] [(.ref a1)])) t
    refine XT.lconstV X8.here hx rfl (0 : Int64) (hb hby d6_24) (by decide) ?_
    show Steps p.tables e below (T8.setTop (mkF m 25 #[.val (.ref a1), .val (.long q2), .second] [(.long (0 : Int64)), (.ref a1)])) t
    exact k)
  obtain ⟨T11, h11, X11, eh11, W11, st11⟩ := putF X8 hx hZ hown (host := "") (Or.inl (hw _ (List.mem_of_getElem? (i := 57) rfl))) Via.refl eh8 F_completed_a1__8 E_a1__8 (Or.inl (hw _ (List.mem_of_getElem? (i := 38) rfl))) (hw _ (List.mem_of_getElem? (i := 1) rfl)) (ty := .long) (by decide) rfl rfl (g := (mkF m 25 #[.val (.ref a1), .val (.long q2), .second] [(.long (0 : Int64)), (.ref a1)])) rfl rfl (hb hby d6_25)
  have E_a1__11 : Exa Z h11 a1 "com/example/obturo/obturo/stats/internal/LatestSecondMoveToPinLaw" := E_a1__8.wr W11
  have F_start_a1__11 : Fld Z h11 a1 "com/example/obturo/obturo/stats/internal/LatestSecond" "start" "J" (.long q2) := F_start_a1__8.other W11 (Or.inr (slot_ne (Or.inl (hw _ (List.mem_of_getElem? (i := 26) rfl))) (Or.inl (hw _ (List.mem_of_getElem? (i := 38) rfl))) (by decide) (t := .long) (t' := .long) (by decide) (by decide)))
  have F_endNanos_a1__11 : Fld Z h11 a1 "com/example/obturo/obturo/stats/internal/LatestSecond" "endNanos" "J" (.long ((q2 + (1000 : Int64)) * (1000000 : Int64))) := F_endNanos_a1__8.other W11 (Or.inr (slot_ne (Or.inl (hw _ (List.mem_of_getElem? (i := 28) rfl))) (Or.inl (hw _ (List.mem_of_getElem? (i := 38) rfl))) (by decide) (t := .long) (t' := .long) (by decide) (by decide)))
  have F_block_a1__11 : Fld Z h11 a1 "com/example/obturo/obturo/stats/internal/LatestSecond" "block" "J" (.long (0 : Int64)) := F_block_a1__8.other W11 (Or.inr (slot_ne (Or.inl (hw _ (List.mem_of_getElem? (i := 35) rfl))) (Or.inl (hw _ (List.mem_of_getElem? (i := 38) rfl))) (by decide) (t := .long) (t' := .long) (by decide) (by decide)))
  have F_errors_a1__11 : Fld Z h11 a1 "com/example/obturo/obturo/stats/internal/LatestSecond" "errors" "J" u4 := F_errors_a1__8.other W11 (Or.inr (slot_ne (Or.inl (hw _ (List.mem_of_getElem? (i := 41) rfl))) (Or.inl (hw _ (List.mem_of_getElem? (i := 38) rfl))) (by decide) (t := .long) (t' := .long) (by decide) (by decide)))
  have F_totalRtMillis_a1__11 : Fld Z h11 a1 "com/example/obturo/obturo/stats/internal/LatestSecond" "totalRtMillis" "J" u5 := F_totalRtMillis_a1__8.other W11 (Or.inr (slot_ne (Or.inl (hw _ (List.mem_of_getElem? (i := 44) rfl))) (Or.inl (hw _ (List.mem_of_getElem? (i := 38) rfl))) (by decide) (t := .long) (t' := .long) (by decide) (by decide)))
  have F_minRtMillis_a1__11 : Fld Z h11 a1 "com/example/obturo/obturo/stats/internal/LatestSecond" "minRtMillis" "J" u6 := F_minRtMillis_a1__8.other W11 (Or.inr (slot_ne (Or.inl (hw _ (List.mem_of_getElem? (i := 47) rfl))) (Or.inl (hw _ (List.mem_of_getElem? (i := 38) rfl))) (by decide) (t := .long) (t' := .long) (by decide) (by decide)))
  have sz11 : n0 ≤ h11.size := Nat.le_trans sz8 (Keep.of_wr W11).1
  have K11 : Keep h0 h11 [a1] := K8.wr W11 (Or.inl (List.mem_of_getElem? (i := 0) rfl))
  have N11 := Fr.snoc X11 N8 g_a1
  have F_completed_a1__11 : Fld Z h11 a1 "com/example/obturo/obturo/stats/internal/LatestSecond" "completed" "J" (.long (0 : Int64)) := F_completed_a1__8.same W11
  have pre12 : ∀ t, Steps p.tables e below (T11.setTop (mkF m 28 #[.val (.ref a1), .val (.long q2), .second] [])) t → Steps p.tables e below (s₁.setTop (entryFrame m #[(.ref a1), (.long q2)] 3)) t := fun t k => pre10 t (st11 _ k)
  have pre13 : ∀ t, Steps p.tables e below (T11.setTop (mkF m 30 #[.val (.ref a1), .val (.long q2), .second] [(.long (0 : Int64)), (.ref a1)])) t → Steps p.tables e below (s₁.setTop (entryFrame m #[(.ref a1), (.long q2)] 3)) t := fun t k => pre12 t (by
    show Steps p.tables e below (T11.setTop (mkF m 28 #[.val (.ref a1), .val (.long q2), .second] [])) t
    refine XS.aloadN X11.here hx rfl (hb hby d6_28) rfl rfl ?_
    show Steps p.tables e below (T11.setTop (mkF m 29 #[.val (.ref a1), .val (.long q2), .second] [(.ref a1)])) t
    refine XT.lconstV X11.here hx rfl (0 : Int64) (hb hby d6_29) (by decide) ?_
    show Steps p.tables e below (T11.setTop (mkF m 30 #[.val (.ref a1), .val (.long q2), .second] [(.long (0 : Int64)), (.ref a1)])) t
    exact k)
  obtain ⟨T14, h14, X14, eh14, W14, st14⟩ := putF X11 hx hZ hown (host := "") (Or.inl (hw _ (List.mem_of_getElem? (i := 58) rfl))) Via.refl eh11 F_errors_a1__11 E_a1__11 (Or.inl (hw _ (List.mem_of_getElem? (i := 41) rfl))) (hw _ (List.mem_of_getElem? (i := 1) rfl)) (ty := .long) (by decide) rfl rfl (g := (mkF m 30 #[.val (.ref a1), .val (.long q2), .second] [(.long (0 : Int64)), (.ref a1)])) rfl rfl (hb hby d6_30)
  have E_a1__14 : Exa Z h14 a1 "com/example/obturo/obturo/stats/internal/LatestSecondMoveToPinLaw" := E_a1__11.wr W14
  have F_start_a1__14 : Fld Z h14 a1 "com/example/obturo/obturo/stats/internal/LatestSecond" "start" "J" (.long q2) := F_start_a1__11.other W14 (Or.inr (slot_ne (Or.inl (hw _ (List.mem_of_getElem? (i := 26) rfl))) (Or.inl (hw _ (List.mem_of_getElem? (i := 41) rfl))) (by decide) (t := .long) (t' := .long) (by decide) (by decide)))
  have F_endNanos_a1__14 : Fld Z h14 a1 "com/example/obturo/obturo/stats/internal/LatestSecond" "endNanos" "J" (.long ((q2 + (1000 : Int64)) * (1000000 : Int64))) := F_endNanos_a1__11.other W14 (Or.inr (slot_ne (Or.inl (hw _ (List.mem_of_getElem? (i := 28) rfl))) (Or.inl (hw _ (List.mem_of_getElem? (i := 41) rfl))) (by decide) (t := .long) (t' := .long) (by decide) (by decide)))
  have F_block_a1__14 : Fld Z h14 a1 "com/example/obturo/obturo/stats/internal/LatestSecond" "block" "J" (.long (0 : Int64)) := F_block_a1__11.other W14 (Or.inr (slot_ne (Or.inl (hw _ (List.mem_of_getElem? (i := 35) rfl))) (Or.inl (hw _ (List.mem_of_getElem? (i := 41) rfl))) (by decide) (t := .long) (t' := .long) (by decide) (by decide)))
  have F_completed_a1__14 : Fld Z h14 a1 "com/example/obturo/obturo/stats/internal/LatestSecond" "completed" "J" (.long (0 : Int64)) := F_completed_a1__11.other W14 (Or.inr (slot_ne (Or.inl (hw _ (List.mem_of_getElem? (i := 38) rfl))) (Or.inl (hw _ (List.mem_of_getElem? (i := 41) rfl))) (by decide) (t := .long) (t' := .long) (by decide) (by decide)))
  have F_totalRtMillis_a1__14 : Fld Z h14 a1 "com/example/obturo/obturo/stats/internal/LatestSecond" "totalRtMillis" "J" u5 := F_totalRtMillis_a1__11.other W14 (Or.inr (slot_ne (Or.inl (hw _ (List.mem_of_getElem? (i := 44) rfl))) (Or.inl (hw _ (List.mem_of_getElem? (i := 41) rfl))) (by decide) (t := .long) (t' := .long) (by decide) (by decide)))
  have F_minRtMillis_a1__14 : Fld Z h14 a1 "com/example/obturo/obturo/stats/internal/LatestSecond" "minRtMillis" "J" u6 := F_minRtMillis_a1__11.other W14 (Or.inr (slot_ne (Or.inl (hw _ (List.mem_of_getElem? (i := 47) rfl))) (Or.inl (hw _ (List.mem_of_getElem? (i := 41) rfl))) (by decide) (t := .long) (t' := .long) (by decide) (by decide)))
  have sz14 : n0 ≤ h14.size := Nat.le_trans sz11 (Keep.of_wr W14).1
  have K14 : Keep h0 h14 [a1] := K11.wr W14 (Or.inl (List.mem_of_getElem? (i := 0) rfl))
  have N14 := Fr.snoc X14 N11 g_a1
  have F_errors_a1__14 : Fld Z h14 a1 "com/example/obturo/obturo/stats/internal/LatestSecond" "errors" "J" (.long (0 : Int64)) := F_errors_a1__11.same W14
  have pre15 : ∀ t, Steps p.tables e below (T14.setTop (mkF m 33 #[.val (.ref a1), .val (.long q2), .second] [])) t → Steps p.tables e below (s₁.setTop (entryFrame m #[(.ref a1), (.long q2)] 3)) t := fun t k => pre13 t (st14 _ k)
  have pre16 : ∀ t, Steps p.tables e below (T14.setTop (mkF m 35 #[.val (.ref a1), .val (.long q2), .second] [(.long (0 : Int64)), (.ref a1)])) t → Steps p.tables e below (s₁.setTop (entryFrame m #[(.ref a1), (.long q2)] 3)) t := fun t k => pre15 t (by
    show Steps p.tables e below (T14.setTop (mkF m 33 #[.val (.ref a1), .val (.long q2), .second] [])) t
    refine XS.aloadN X14.here hx rfl (hb hby d6_33) rfl rfl ?_
    show Steps p.tables e below (T14.setTop (mkF m 34 #[.val (.ref a1), .val (.long q2), .second] [(.ref a1)])) t
    refine XT.lconstV X14.here hx rfl (0 : Int64) (hb hby d6_34) (by decide) ?_
    show Steps p.tables e below (T14.setTop (mkF m 35 #[.val (.ref a1), .val (.long q2), .second] [(.long (0 : Int64)), (.ref a1)])) t
    exact k)
  obtain ⟨T17, h17, X17, eh17, W17, st17⟩ := putF X14 hx hZ hown (host := "") (Or.inl (hw _ (List.mem_of_getElem? (i := 59) rfl))) Via.refl eh14 F_totalRtMillis_a1__14 E_a1__14 (Or.inl (hw _ (List.mem_of_getElem? (i := 44) rfl))) (hw _ (List.mem_of_getElem? (i := 1) rfl)) (ty := .long) (by decide) rfl rfl (g := (mkF m 35 #[.val (.ref a1), .val (.long q2), .second] [(.long (0 : Int64)), (.ref a1)])) rfl rfl (hb hby d6_35)
  have E_a1__17 : Exa Z h17 a1 "com/example/obturo/obturo/stats/internal/LatestSecondMoveToPinLaw" := E_a1__14.wr W17
  have F_start_a1__17 : Fld Z h17 a1 "com/example/obturo/obturo/stats/internal/LatestSecond" "start" "J" (.long q2) := F_start_a1__14.other W17 (Or.inr (slot_ne (Or.inl (hw _ (List.mem_of_getElem? (i := 26) rfl))) (Or.inl (hw _ (List.mem_of_getElem? (i := 44) rfl))) (by decide) (t := .long) (t' := .long) (by decide) (by decide)))
  have F_endNanos_a1__17 : Fld Z h17 a1 "com/example/obturo/obturo/stats/internal/LatestSecond" "endNanos" "J" (.long ((q2 + (1000 : Int64)) * (1000000 : Int64))) := F_endNanos_a1__14.other W17 (Or.inr (slot_ne (Or.inl (hw _ (List.mem_of_getElem? (i := 28) rfl))) (Or.inl (hw _ (List.mem_of_getElem? (i := 44) rfl))) (by decide) (t := .long) (t' := .long) (by decide) (by decide)))
  have F_block_a1__17 : Fld Z h17 a1 "com/example/obturo/obturo/stats/internal/LatestSecond" "block" "J" (.long (0 : Int64)) := F_block_a1__14.other W17 (Or.inr (slot_ne (Or.inl (hw _ (List.mem_of_getElem? (i := 35) rfl))) (Or.inl (hw _ (List.mem_of_getElem? (i := 44) rfl))) (by decide) (t := .long) (t' := .long) (by decide) (by decide)))
  have F_completed_a1__17 : Fld Z h17 a1 "com/example/obturo/obturo/stats/internal/LatestSecond" "completed" "J" (.long (0 : Int64)) := F_completed_a1__14.other W17 (Or.inr (slot_ne (Or.inl (hw _ (List.mem_of_getElem? (i := 38) rfl))) (Or.inl (hw _ (List.mem_of_getElem? (i := 44) rfl))) (by decide) (t := .long) (t' := .long) (by decide) (by decide)))
  have F_errors_a1__17 : Fld Z h17 a1 "com/example/obturo/obturo/stats/internal/LatestSecond" "errors" "J" (.long (0 : Int64)) := F_errors_a1__14.other W17 (Or.inr (slot_ne (Or.inl (hw _ (List.mem_of_getElem? (i := 41) rfl))) (Or.inl (hw _ (List.mem_of_getElem? (i := 44) rfl))) (by decide) (t := .long) (t' := .long) (by decide) (by decide)))
  have F_minRtMillis_a1__17 : Fld Z h17 a1 "com/example/obturo/obturo/stats/internal/LatestSecond" "minRtMillis" "J" u6 := F_minRtMillis_a1__14.other W17 (Or.inr (slot_ne (Or.inl (hw _ (List.mem_of_getElem? (i := 47) rfl))) (Or.inl (hw _ (List.mem_of_getElem? (i := 44) rfl))) (by decide) (t := .long) (t' := .long) (by decide) (by decide)))
  have sz17 : n0 ≤ h17.size := Nat.le_trans sz14 (Keep.of_wr W17).1
  have K17 : Keep h0 h17 [a1] := K14.wr W17 (Or.inl (List.mem_of_getElem? (i := 0) rfl))
  have N17 := Fr.snoc X17 N14 g_a1
  have F_totalRtMillis_a1__17 : Fld Z h17 a1 "com/example/obturo/obturo/stats/internal/LatestSecond" "totalRtMillis" "J" (.long (0 : Int64)) := F_totalRtMillis_a1__14.same W17
  have pre18 : ∀ t, Steps p.tables e below (T17.setTop (mkF m 38 #[.val (.ref a1), .val (.long q2), .second] [])) t → Steps p.tables e below (s₁.setTop (entryFrame m #[(.ref a1), (.long q2)] 3)) t := fun t k => pre16 t (st17 _ k)
  have pre19 : ∀ t, Steps p.tables e below (T17.setTop (mkF m 42 #[.val (.ref a1), .val (.long q2), .second] [(.long (9223372036854775807 : Int64)), (.ref a1)])) t → Steps p.tables e below (s₁.setTop (entryFrame m #[(.ref a1), (.long q2)] 3)) t := fun t k => pre18 t (by
    show Steps p.tables e below (T17.setTop (mkF m 38 #[.val (.ref a1), .val (.long q2), .second] [])) t
    refine XS.aloadN X17.here hx rfl (hb hby d6_38) rfl rfl ?_
    show Steps p.tables e below (T17.setTop (mkF m 39 #[.val (.ref a1), .val (.long q2), .second] [(.ref a1)])) t
    refine X17.ldc2Long hx hown (mvT hZ (hw _ (List.mem_of_getElem? (i := 60) rfl))) (g := (mkF m 39 #[.val (.ref a1), .val (.long q2), .second] [(.ref a1)])) rfl (hb hby d6_39) _ ?_
    show Steps p.tables e below (T17.setTop (mkF m 42 #[.val (.ref a1), .val (.long q2), .second] [(.long (9223372036854775807 : Int64)), (.ref a1)])) t
    exact k)
  obtain ⟨T20, h20, X20, eh20, W20, st20⟩ := putF X17 hx hZ hown (host := "") (Or.inl (hw _ (List.mem_of_getElem? (i := 61) rfl))) Via.refl eh17 F_minRtMillis_a1__17 E_a1__17 (Or.inl (hw _ (List.mem_of_getElem? (i := 47) rfl))) (hw _ (List.mem_of_getElem? (i := 1) rfl)) (ty := .long) (by decide) rfl rfl (g := (mkF m 42 #[.val (.ref a1), .val (.long q2), .second] [(.long (9223372036854775807 : Int64)), (.ref a1)])) rfl rfl (hb hby d6_42)
  have E_a1__20 : Exa Z h20 a1 "com/example/obturo/obturo/stats/internal/LatestSecondMoveToPinLaw" := E_a1__17.wr W20
  have F_start_a1__20 : Fld Z h20 a1 "com/example/obturo/obturo/stats/internal/LatestSecond" "start" "J" (.long q2) := F_start_a1__17.other W20 (Or.inr (slot_ne (Or.inl (hw _ (List.mem_of_getElem? (i := 26) rfl))) (Or.inl (hw _ (List.mem_of_getElem? (i := 47) rfl))) (by decide) (t := .long) (t' := .long) (by decide) (by decide)))
  have F_endNanos_a1__20 : Fld Z h20 a1 "com/example/obturo/obturo/stats/internal/LatestSecond" "endNanos" "J" (.long ((q2 + (1000 : Int64)) * (1000000 : Int64))) := F_endNanos_a1__17.other W20 (Or.inr (slot_ne (Or.inl (hw _ (List.mem_of_getElem? (i := 28) rfl))) (Or.inl (hw _ (List.mem_of_getElem? (i := 47) rfl))) (by decide) (t := .long) (t' := .long) (by decide) (by decide)))
  have F_block_a1__20 : Fld Z h20 a1 "com/example/obturo/obturo/stats/internal/LatestSecond" "block" "J" (.long (0 : Int64)) := F_block_a1__17.other W20 (Or.inr (slot_ne (Or.inl (hw _ (List.mem_of_getElem? (i := 35) rfl))) (Or.inl (hw _ (List.mem_of_getElem? (i := 47) rfl))) (by decide) (t := .long) (t' := .long) (by decide) (by decide)))
  have F_completed_a1__20 : Fld Z h20 a1 "com/example/obturo/obturo/stats/internal/LatestSecond" "completed" "J" (.long (0 : Int64)) := F_completed_a1__17.other W20 (Or.inr (slot_ne (Or.inl (hw _ (List.mem_of_getElem? (i := 38) rfl))) (Or.inl (hw _ (List.mem_of_getElem? (i := 47) rfl))) (by decide) (t := .long) (t' := .long) (by decide) (by decide)))
  have F_errors_a1__20 : Fld Z h20 a1 "com/example/obturo/obturo/stats/internal/LatestSecond" "errors" "J" (.long (0 : Int64)) := F_errors_a1__17.other W20 (Or.inr (slot_ne (Or.inl (hw _ (List.mem_of_getElem? (i := 41) rfl))) (Or.inl (hw _ (List.mem_of_getElem? (i := 47) rfl))) (by decide) (t := .long) (t' := .long) (by decide) (by decide)))
  have F_totalRtMillis_a1__20 : Fld Z h20 a1 "com/example/obturo/obturo/stats/internal/LatestSecond" "totalRtMillis" "J" (.long (0 : Int64)) := F_totalRtMillis_a1__17.other W20 (Or.inr (slot_ne (Or.inl (hw _ (List.mem_of_getElem? (i := 44) rfl))) (Or.inl (hw _ (List.mem_of_getElem? (i := 47) rfl))) (by decide) (t := .long) (t' := .long) (by decide) (by decide)))
  have sz20 : n0 ≤ h20.size := Nat.le_trans sz17 (Keep.of_wr W20).1
  have K20 : Keep h0 h20 [a1] := K17.wr W20 (Or.inl (List.mem_of_getElem? (i := 0) rfl))
  have N20 := Fr.snoc X20 N17 g_a1
  have F_minRtMillis_a1__20 : Fld Z h20 a1 "com/example/obturo/obturo/stats/internal/LatestSecond" "minRtMillis" "J" (.long (9223372036854775807 : Int64)) := F_minRtMillis_a1__17.same W20
  have pre21 : ∀ t, Steps p.tables e below (T20.setTop (mkF m 45 #[.val (.ref a1), .val (.long q2), .second] [])) t → Steps p.tables e below (s₁.setTop (entryFrame m #[(.ref a1), (.long q2)] 3)) t := fun t k => pre19 t (st20 _ k)
  obtain ⟨fs, hr, hrun, hended, hW, hsame⟩ := X20.leave (v := none) (fun _ => rfl)
  refine ⟨_, _, pre21 _ ?_, hrun, hended, _, _, rfl, ?_, ⟨_, rfl⟩, hW, hsame.mono (by decide) (by decide)⟩
  · show Steps p.tables e below (T20.setTop (mkF m 45 #[.val (.ref a1), .val (.long q2), .second] [])) _
    exact X20.returnOut hx Bd.returns (hb hby d6_45) hr
  · show Q6 Z a1 q2 u0 u1 u2 u3 u4 u5 u6 h0 n0 _ T20.heap _
    rw [eh20]
    exact ⟨rfl, N20, K20, E_a1__20, F_start_a1__20, F_endNanos_a1__20, F_block_a1__20, F_completed_a1__20, F_errors_a1__20, F_totalRtMillis_a1__20, F_minRtMillis_a1__20⟩
theorem ef_0 (m : MethodId) (q1 : Int64) (q2 : Int64) (q3 : Int64) (q4 : Int64) (q5 : Int64) (q6 : Int64) : entryFrame m #[(.long q1), (.long q2), (.long q3), (.long q4), (.long q5), (.long q6)] maxLocals = mkF m 0 #[.val (.long q1), .second, .val (.long q2), .second, .val (.long q3), .second, .val (.long q4), .second, .val (.long q5), .second, .val (.long q6), .second, .unset, .unset, .unset] [] := by first | (simp [entryFrame, mkF, argsToLocals, Value.category, maxLocals]; done) | rfl
theorem pd_oJcV : parseMethodDescriptor "(J)V" = some ⟨[.long], none⟩ := by decide +kernel
def Q0 (Z : State) (q1 : Int64) (q2 : Int64) (q3 : Int64) (q4 : Int64) (q5 : Int64) (q6 : Int64) (h0 : Heap) (n0 : Nat) (v : Option Value) (h : Heap) (L : List Loc) : Prop := v = some (.int (1 : Int32)) ∧ Fr n0 L
set_option maxRecDepth 65536 in
set_option maxHeartbeats 40000000 in
theorem rm0 (l : Launch) (Z : State) (a0 : Array Value) (hw : ∀ d ∈ tables_1, d.before a0 Z = true) (ws : List Jvm.Cond) (q1 : Int64) (q2 : Int64) (q3 : Int64) (q4 : Int64) (q5 : Int64) (q6 : Int64) (h0 : Heap) (n0 : Nat) (Z0 : n0 ≤ h0.size) :
    MetFree l x (head1 (Jvm.Cond.code x code maxLocals ret :: ws) room_1) (fun a U => a = #[(.long q1), (.long q2), (.long q3), (.long q4), (.long q5), (.long q6)] ∧ Z.Warmed39 U.vm ∧ U.heap = h0) (fun _ _ _ _ _ => True) (fun _ U o U' => ∃ v L, o = .returned v ∧ Q0 Z q1 q2 q3 q4 q5 q6 h0 n0 v U'.heap L ∧ FrameEnd U o U' L room_1.cells room_1.slots) := by
  refine MetFree.of_bodySF (plainFor_of_name pn_com_example_obturo_obturo_stats_internal_LatestSecondMoveToPinLaw) hisR ?_
  intro p e s m args below meth c s₁ Bd hml0 hP hK
  obtain ⟨rfl, hZ, hh⟩ := hP
  have hx := Bd.exec
  have hby := Bd.bytes
  have hml : c.maxLocals = 15 := hml0
  have hown : s.vm.findClass "com/example/obturo/obturo/stats/internal/LatestSecondMoveToPinLaw" = some m.cls := findClass_of_methodNamed Bd.named
  have hnm := (name_of_methodNamed Bd.named Bd.method).1
  have X0 : Stand p l e room_1 s m #[(.long q1), (.long q2), (.long q3), (.long q4), (.long q5), (.long q6)] below meth c s₁ [] 0 0 := Stand.of_body Bd
  have eh0 : s₁.heap = h0 := by rw [← hh, Bd.state]; rfl
  have N0 := Fr.nil n0
  have pre0 : ∀ t, Steps p.tables e below (s₁.setTop (mkF m 0 #[.val (.long q1), .second, .val (.long q2), .second, .val (.long q3), .second, .val (.long q4), .second, .val (.long q5), .second, .val (.long q6), .second, .unset, .unset, .unset] [])) t → Steps p.tables e below (s₁.setTop (entryFrame m #[(.long q1), (.long q2), (.long q3), (.long q4), (.long q5), (.long q6)] maxLocals)) t := fun t k => castTop (ef_0 m q1 q2 q3 q4 q5 q6) k
  obtain ⟨T1, h1, X1, eh1, E1, A1, D1, -, st1⟩ := newO X0 hx hZ hown (hw _ (List.mem_of_getElem? (i := 0) rfl)) (hw _ (List.mem_of_getElem? (i := 1) rfl)) (hw _ (List.mem_of_getElem? (i := 2) rfl)) eh0 (g := (mkF m 0 #[.val (.long q1), .second, .val (.long q2), .second, .val (.long q3), .second, .val (.long q4), .second, .val (.long q5), .second, .val (.long q6), .second, .unset, .unset, .unset] [])) rfl (hb hby at_0) (by decide) (by decide)
  obtain ⟨b1, gg1⟩ : ∃ z, z = h0.size := ⟨_, rfl⟩
  rw [← gg1] at A1 D1 st1
  have sz1 : n0 ≤ h1.size := Nat.le_trans Z0 E1.1
  have g_b1 : n0 ≤ b1 := Nat.le_trans Z0 (Nat.le_of_eq gg1.symm)
  have F_start_b1 : Fld Z h1 b1 "com/example/obturo/obturo/stats/internal/LatestSecond" "start" "J" (.long (0 : Int64)) := D1 (Or.inl (hw _ (List.mem_of_getElem? (i := 26) rfl))) (ty := .long) (by decide)
  have F_endNanos_b1 : Fld Z h1 b1 "com/example/obturo/obturo/stats/internal/LatestSecond" "endNanos" "J" (.long (0 : Int64)) := D1 (Or.inl (hw _ (List.mem_of_getElem? (i := 28) rfl))) (ty := .long) (by decide)
  have F_block_b1 : Fld Z h1 b1 "com/example/obturo/obturo/stats/internal/LatestSecond" "block" "J" (.long (0 : Int64)) := D1 (Or.inl (hw _ (List.mem_of_getElem? (i := 35) rfl))) (ty := .long) (by decide)
  have F_completed_b1 : Fld Z h1 b1 "com/example/obturo/obturo/stats/internal/LatestSecond" "completed" "J" (.long (0 : Int64)) := D1 (Or.inl (hw _ (List.mem_of_getElem? (i := 38) rfl))) (ty := .long) (by decide)
  have F_errors_b1 : Fld Z h1 b1 "com/example/obturo/obturo/stats/internal/LatestSecond" "errors" "J" (.long (0 : Int64)) := D1 (Or.inl (hw _ (List.mem_of_getElem? (i := 41) rfl))) (ty := .long) (by decide)
  have F_totalRtMillis_b1 : Fld Z h1 b1 "com/example/obturo/obturo/stats/internal/LatestSecond" "totalRtMillis" "J" (.long (0 : Int64)) := D1 (Or.inl (hw _ (List.mem_of_getElem? (i := 44) rfl))) (ty := .long) (by decide)
  have F_minRtMillis_b1 : Fld Z h1 b1 "com/example/obturo/obturo/stats/internal/LatestSecond" "minRtMillis" "J" (.long (0 : Int64)) := D1 (Or.inl (hw _ (List.mem_of_getElem? (i := 47) rfl))) (ty := .long) (by decide)
  have pre2 : ∀ t, Steps p.tables e below (T1.setTop (mkF m 3 #[.val (.long q1), .second, .val (.long q2), .second, .val (.long q3), .second, .val (.long q4), .second, .val (.long q5), .second, .val (.long q6), .second, .unset, .unset, .unset] [(.ref b1)])) t → Steps p.tables e below (s₁.setTop (entryFrame m #[(.long q1), (.long q2), (.long q3), (.long q4), (.long q5), (.long q6)] maxLocals)) t := fun t k => pre0 t (st1 _ k)
  have pre3 : ∀ t, Steps p.tables e below (T1.setTop (mkF m 4 #[.val (.long q1), .second, .val (.long q2), .second, .val (.long q3), .second, .val (.long q4), .second, .val (.long q5), .second, .val (.long q6), .second, .unset, .unset, .unset] [(.ref b1), (.ref b1)])) t → Steps p.tables e below (s₁.setTop (entryFrame m #[(.long q1), (.long q2), (.long q3), (.long q4), (.long q5), (.long q6)] maxLocals)) t := fun t k => pre2 t (by
    show Steps p.tables e below (T1.setTop (mkF m 3 #[.val (.long q1), .second, .val (.long q2), .second, .val (.long q3), .second, .val (.long q4), .second, .val (.long q5), .second, .val (.long q6), .second, .unset, .unset, .unset] [(.ref b1)])) t
    refine XS.dup X1.here hx rfl (hb hby at_3) rfl rfl ?_
    show Steps p.tables e below (T1.setTop (mkF m 4 #[.val (.long q1), .second, .val (.long q2), .second, .val (.long q3), .second, .val (.long q4), .second, .val (.long q5), .second, .val (.long q6), .second, .unset, .unset, .unset] [(.ref b1), (.ref b1)])) t
    exact k)
  obtain ⟨_, _, ⟨T4, L4, k4, n4⟩, -, X4, ⟨Lc4, hQ4, l4, y4, z4⟩, st4⟩ := X1.specialBack hx (y := (⟨"com/example/obturo/obturo/stats/internal/LatestSecondMoveToPinLaw", "<init>", "()V"⟩ : MethodName)) rfl hown (mvT hZ (hw _ (List.mem_of_getElem? (i := 3) rfl))) (mvT hZ (hw _ (List.mem_of_getElem? (i := 4) rfl))) (mvT hZ (hw _ (List.mem_of_getElem? (i := 5) rfl))) (by decide) (backOf (W := 1) (rm1 l Z a0 hw [] b1 (.long (0 : Int64)) (.long (0 : Int64)) (.long (0 : Int64)) (.long (0 : Int64)) (.long (0 : Int64)) (.long (0 : Int64)) (.long (0 : Int64)) h1 n0 sz1 A1 F_start_b1 F_endNanos_b1 F_block_b1 F_completed_b1 F_errors_b1 F_totalRtMillis_b1 F_minRtMillis_b1 g_b1) hZ (hw _ (List.mem_of_getElem? (i := 5) rfl)) (hw _ (List.mem_of_getElem? (i := 2) rfl)) (by decide) (by decide)) (g := (mkF m 4 #[.val (.long q1), .second, .val (.long q2), .second, .val (.long q3), .second, .val (.long q4), .second, .val (.long q5), .second, .val (.long q6), .second, .unset, .unset, .unset] [(.ref b1), (.ref b1)])) rfl (by rw [hml]; rfl) (Steps.refl _) (a := b1) (argsL := []) (rest := [(.ref b1)]) (lenOf pd_ocV rfl) rfl (by show 2 * 0 + _ ≤ _; exact Nat.le_of_eq rfl) (hb hby at_4) (fun _ _ => ⟨rfl, eh1, (by decide : 1 + 0 ≤ _), (by decide : 16 + 0 ≤ _)⟩)
  dsimp only [Pt.U, Pt.locs, Pt.cells, Pt.slots] at X4 l4 y4 z4 st4 hQ4
  subst l4 y4 z4
  obtain ⟨rfl, N4q, Kq4, P4_1, P4_2, P4_3, P4_4, P4_5, P4_6, P4_7, P4_8⟩ := hQ4
  have sz4 : n0 ≤ T4.heap.size := Nat.le_trans sz1 Kq4.1
  have N4 := Fr.app N0 N4q
  have pre5 : ∀ t, Steps p.tables e below (T4.setTop (mkF m 7 #[.val (.long q1), .second, .val (.long q2), .second, .val (.long q3), .second, .val (.long q4), .second, .val (.long q5), .second, .val (.long q6), .second, .unset, .unset, .unset] [(.ref b1)])) t → Steps p.tables e below (s₁.setTop (entryFrame m #[(.long q1), (.long q2), (.long q3), (.long q4), (.long q5), (.long q6)] maxLocals)) t := fun t k => pre3 t (st4.trans k)
  have pre6 : ∀ t, Steps p.tables e below (T4.setTop (mkF m 12 #[.val (.long q1), .second, .val (.long q2), .second, .val (.long q3), .second, .val (.long q4), .second, .val (.long q5), .second, .val (.long q6), .second, .val (.ref b1), .unset, .unset] [(.long q2), (.ref b1)])) t → Steps p.tables e below (s₁.setTop (entryFrame m #[(.long q1), (.long q2), (.long q3), (.long q4), (.long q5), (.long q6)] maxLocals)) t := fun t k => pre5 t (by
    show Steps p.tables e below (T4.setTop (mkF m 7 #[.val (.long q1), .second, .val (.long q2), .second, .val (.long q3), .second, .val (.long q4), .second, .val (.long q5), .second, .val (.long q6), .second, .unset, .unset, .unset] [(.ref b1)])) t
    refine XS.astore X4.here hx rfl (hb hby at_7) rfl rfl (l' := #[.val (.long q1), .second, .val (.long q2), .second, .val (.long q3), .second, .val (.long q4), .second, .val (.long q5), .second, .val (.long q6), .second, .val (.ref b1), .unset, .unset]) rfl ?_
    show Steps p.tables e below (T4.setTop (mkF m 9 #[.val (.long q1), .second, .val (.long q2), .second, .val (.long q3), .second, .val (.long q4), .second, .val (.long q5), .second, .val (.long q6), .second, .val (.ref b1), .unset, .unset] [])) t
    refine XS.aload X4.here hx rfl (hb hby at_9) rfl rfl ?_
    show Steps p.tables e below (T4.setTop (mkF m 11 #[.val (.long q1), .second, .val (.long q2), .second, .val (.long q3), .second, .val (.long q4), .second, .val (.long q5), .second, .val (.long q6), .second, .val (.ref b1), .unset, .unset] [(.ref b1)])) t
    refine XT.lloadN X4.here hx rfl (hb hby at_11) rfl ?_
    show Steps p.tables e below (T4.setTop (mkF m 12 #[.val (.long q1), .second, .val (.long q2), .second, .val (.long q3), .second, .val (.long q4), .second, .val (.long q5), .second, .val (.long q6), .second, .val (.ref b1), .unset, .unset] [(.long q2), (.ref b1)])) t
    exact k)
  obtain ⟨T7, h7, X7, eh7, W7, st7⟩ := putF X4 hx hZ hown (host := "") (Or.inl (hw _ (List.mem_of_getElem? (i := 29) rfl))) (Via.of (hw _ (List.mem_of_getElem? (i := 30) rfl))) rfl P4_2 P4_1 (Or.inl (hw _ (List.mem_of_getElem? (i := 26) rfl))) (hw _ (List.mem_of_getElem? (i := 1) rfl)) (ty := .long) (by decide) rfl rfl (g := (mkF m 12 #[.val (.long q1), .second, .val (.long q2), .second, .val (.long q3), .second, .val (.long q4), .second, .val (.long q5), .second, .val (.long q6), .second, .val (.ref b1), .unset, .unset] [(.long q2), (.ref b1)])) rfl rfl (hb hby at_12)
  have P4_1__7 : Exa Z h7 b1 "com/example/obturo/obturo/stats/internal/LatestSecondMoveToPinLaw" := P4_1.wr W7
  have P4_3__7 : Fld Z h7 b1 "com/example/obturo/obturo/stats/internal/LatestSecond" "endNanos" "J" (.long (-9223372036854775808 : Int64)) := P4_3.other W7 (Or.inr (slot_ne (Or.inl (hw _ (List.mem_of_getElem? (i := 28) rfl))) (Or.inl (hw _ (List.mem_of_getElem? (i := 26) rfl))) (by decide) (t := .long) (t' := .long) (by decide) (by decide)))
  have P4_4__7 : Fld Z h7 b1 "com/example/obturo/obturo/stats/internal/LatestSecond" "block" "J" (.long (0 : Int64)) := P4_4.other W7 (Or.inr (slot_ne (Or.inl (hw _ (List.mem_of_getElem? (i := 35) rfl))) (Or.inl (hw _ (List.mem_of_getElem? (i := 26) rfl))) (by decide) (t := .long) (t' := .long) (by decide) (by decide)))
  have P4_5__7 : Fld Z h7 b1 "com/example/obturo/obturo/stats/internal/LatestSecond" "completed" "J" (.long (0 : Int64)) := P4_5.other W7 (Or.inr (slot_ne (Or.inl (hw _ (List.mem_of_getElem? (i := 38) rfl))) (Or.inl (hw _ (List.mem_of_getElem? (i := 26) rfl))) (by decide) (t := .long) (t' := .long) (by decide) (by decide)))
  have P4_6__7 : Fld Z h7 b1 "com/example/obturo/obturo/stats/internal/LatestSecond" "errors" "J" (.long (0 : Int64)) := P4_6.other W7 (Or.inr (slot_ne (Or.inl (hw _ (List.mem_of_getElem? (i := 41) rfl))) (Or.inl (hw _ (List.mem_of_getElem? (i := 26) rfl))) (by decide) (t := .long) (t' := .long) (by decide) (by decide)))
  have P4_7__7 : Fld Z h7 b1 "com/example/obturo/obturo/stats/internal/LatestSecond" "totalRtMillis" "J" (.long (0 : Int64)) := P4_7.other W7 (Or.inr (slot_ne (Or.inl (hw _ (List.mem_of_getElem? (i := 44) rfl))) (Or.inl (hw _ (List.mem_of_getElem? (i := 26) rfl))) (by decide) (t := .long) (t' := .long) (by decide) (by decide)))
  have P4_8__7 : Fld Z h7 b1 "com/example/obturo/obturo/stats/internal/LatestSecond" "minRtMillis" "J" (.long (0 : Int64)) := P4_8.other W7 (Or.inr (slot_ne (Or.inl (hw _ (List.mem_of_getElem? (i := 47) rfl))) (Or.inl (hw _ (List.mem_of_getElem? (i := 26) rfl))) (by decide) (t := .long) (t' := .long) (by decide) (by decide)))
  have sz7 : n0 ≤ h7.size := Nat.le_trans sz4 (Keep.of_wr W7).1
  have N7 := Fr.snoc X7 N4 g_b1
  have F_start_b1__7 : Fld Z h7 b1 "com/example/obturo/obturo/stats/internal/LatestSecond" "start" "J" (.long q2) := P4_2.same W7
  have pre8 : ∀ t, Steps p.tables e below (T7.setTop (mkF m 15 #[.val (.long q1), .second, .val (.long q2), .second, .val (.long q3), .second, .val (.long q4), .second, .val (.long q5), .second, .val (.long q6), .second, .val (.ref b1), .unset, .unset] [])) t → Steps p.tables e below (s₁.setTop (entryFrame m #[(.long q1), (.long q2), (.long q3), (.long q4), (.long q5), (.long q6)] maxLocals)) t := fun t k => pre6 t (st7 _ k)
  have pre9 : ∀ t, Steps p.tables e below (T7.setTop (mkF m 19 #[.val (.long q1), .second, .val (.long q2), .second, .val (.long q3), .second, .val (.long q4), .second, .val (.long q5), .second, .val (.long q6), .second, .val (.ref b1), .unset, .unset] [(.long q3), (.ref b1)])) t → Steps p.tables e below (s₁.setTop (entryFrame m #[(.long q1), (.long q2), (.long q3), (.long q4), (.long q5), (.long q6)] maxLocals)) t := fun t k => pre8 t (by
    show Steps p.tables e below (T7.setTop (mkF m 15 #[.val (.long q1), .second, .val (.long q2), .second, .val (.long q3), .second, .val (.long q4), .second, .val (.long q5), .second, .val (.long q6), .second, .val (.ref b1), .unset, .unset] [])) t
    refine XS.aload X7.here hx rfl (hb hby at_15) rfl rfl ?_
    show Steps p.tables e below (T7.setTop (mkF m 17 #[.val (.long q1), .second, .val (.long q2), .second, .val (.long q3), .second, .val (.long q4), .second, .val (.long q5), .second, .val (.long q6), .second, .val (.ref b1), .unset, .unset] [(.ref b1)])) t
    refine XT.lload X7.here hx rfl (hb hby at_17) rfl ?_
    show Steps p.tables e below (T7.setTop (mkF m 19 #[.val (.long q1), .second, .val (.long q2), .second, .val (.long q3), .second, .val (.long q4), .second, .val (.long q5), .second, .val (.long q6), .second, .val (.ref b1), .unset, .unset] [(.long q3), (.ref b1)])) t
    exact k)
  obtain ⟨T10, h10, X10, eh10, W10, st10⟩ := putF X7 hx hZ hown (host := "") (Or.inl (hw _ (List.mem_of_getElem? (i := 31) rfl))) (Via.of (hw _ (List.mem_of_getElem? (i := 32) rfl))) eh7 P4_3__7 P4_1__7 (Or.inl (hw _ (List.mem_of_getElem? (i := 28) rfl))) (hw _ (List.mem_of_getElem? (i := 1) rfl)) (ty := .long) (by decide) rfl rfl (g := (mkF m 19 #[.val (.long q1), .second, .val (.long q2), .second, .val (.long q3), .second, .val (.long q4), .second, .val (.long q5), .second, .val (.long q6), .second, .val (.ref b1), .unset, .unset] [(.long q3), (.ref b1)])) rfl rfl (hb hby at_19)
  have P4_1__10 : Exa Z h10 b1 "com/example/obturo/obturo/stats/internal/LatestSecondMoveToPinLaw" := P4_1__7.wr W10
  have F_start_b1__10 : Fld Z h10 b1 "com/example/obturo/obturo/stats/internal/LatestSecond" "start" "J" (.long q2) := F_start_b1__7.other W10 (Or.inr (slot_ne (Or.inl (hw _ (List.mem_of_getElem? (i := 26) rfl))) (Or.inl (hw _ (List.mem_of_getElem? (i := 28) rfl))) (by decide) (t := .long) (t' := .long) (by decide) (by decide)))
  have P4_4__10 : Fld Z h10 b1 "com/example/obturo/obturo/stats/internal/LatestSecond" "block" "J" (.long (0 : Int64)) := P4_4__7.other W10 (Or.inr (slot_ne (Or.inl (hw _ (List.mem_of_getElem? (i := 35) rfl))) (Or.inl (hw _ (List.mem_of_getElem? (i := 28) rfl))) (by decide) (t := .long) (t' := .long) (by decide) (by decide)))
  have P4_5__10 : Fld Z h10 b1 "com/example/obturo/obturo/stats/internal/LatestSecond" "completed" "J" (.long (0 : Int64)) := P4_5__7.other W10 (Or.inr (slot_ne (Or.inl (hw _ (List.mem_of_getElem? (i := 38) rfl))) (Or.inl (hw _ (List.mem_of_getElem? (i := 28) rfl))) (by decide) (t := .long) (t' := .long) (by decide) (by decide)))
  have P4_6__10 : Fld Z h10 b1 "com/example/obturo/obturo/stats/internal/LatestSecond" "errors" "J" (.long (0 : Int64)) := P4_6__7.other W10 (Or.inr (slot_ne (Or.inl (hw _ (List.mem_of_getElem? (i := 41) rfl))) (Or.inl (hw _ (List.mem_of_getElem? (i := 28) rfl))) (by decide) (t := .long) (t' := .long) (by decide) (by decide)))
  have P4_7__10 : Fld Z h10 b1 "com/example/obturo/obturo/stats/internal/LatestSecond" "totalRtMillis" "J" (.long (0 : Int64)) := P4_7__7.other W10 (Or.inr (slot_ne (Or.inl (hw _ (List.mem_of_getElem? (i := 44) rfl))) (Or.inl (hw _ (List.mem_of_getElem? (i := 28) rfl))) (by decide) (t := .long) (t' := .long) (by decide) (by decide)))
  have P4_8__10 : Fld Z h10 b1 "com/example/obturo/obturo/stats/internal/LatestSecond" "minRtMillis" "J" (.long (0 : Int64)) := P4_8__7.other W10 (Or.inr (slot_ne (Or.inl (hw _ (List.mem_of_getElem? (i := 47) rfl))) (Or.inl (hw _ (List.mem_of_getElem? (i := 28) rfl))) (by decide) (t := .long) (t' := .long) (by decide) (by decide)))
  have sz10 : n0 ≤ h10.size := Nat.le_trans sz7 (Keep.of_wr W10).1
  have N10 := Fr.snoc X10 N7 g_b1
  have F_endNanos_b1__10 : Fld Z h10 b1 "com/example/obturo/obturo/stats/internal/LatestSecond" "endNanos" "J" (.long q3) := P4_3__7.same W10
  have pre11 : ∀ t, Steps p.tables e below (T10.setTop (mkF m 22 #[.val (.long q1), .second, .val (.long q2), .second, .val (.long q3), .second, .val (.long q4), .second, .val (.long q5), .second, .val (.long q6), .second, .val (.ref b1), .unset, .unset] [])) t → Steps p.tables e below (s₁.setTop (entryFrame m #[(.long q1), (.long q2), (.long q3), (.long q4), (.long q5), (.long q6)] maxLocals)) t := fun t k => pre9 t (st10 _ k)
  have pre12 : ∀ t, Steps p.tables e below (T10.setTop (mkF m 25 #[.val (.long q1), .second, .val (.long q2), .second, .val (.long q3), .second, .val (.long q4), .second, .val (.long q5), .second, .val (.long q6), .second, .val (.ref b1), .unset, .unset] [(.long q2), (.ref b1)])) t → Steps p.tables e below (s₁.setTop (entryFrame m #[(.long q1), (.long q2), (.long q3), (.long q4), (.long q5), (.long q6)] maxLocals)) t := fun t k => pre11 t (by
    show Steps p.tables e below (T10.setTop (mkF m 22 #[.val (.long q1), .second, .val (.long q2), .second, .val (.long q3), .second, .val (.long q4), .second, .val (.long q5), .second, .val (.long q6), .second, .val (.ref b1), .unset, .unset] [])) t
    refine XS.aload X10.here hx rfl (hb hby at_22) rfl rfl ?_
    show Steps p.tables e below (T10.setTop (mkF m 24 #[.val (.long q1), .second, .val (.long q2), .second, .val (.long q3), .second, .val (.long q4), .second, .val (.long q5), .second, .val (.long q6), .second, .val (.ref b1), .unset, .unset] [(.ref b1)])) t
    refine XT.lloadN X10.here hx rfl (hb hby at_24) rfl ?_
    show Steps p.tables e below (T10.setTop (mkF m 25 #[.val (.long q1), .second, .val (.long q2), .second, .val (.long q3), .second, .val (.long q4), .second, .val (.long q5), .second, .val (.long q6), .second, .val (.ref b1), .unset, .unset] [(.long q2), (.ref b1)])) t
    exact k)
  obtain ⟨T13, h13, X13, eh13, W13, st13⟩ := putF X10 hx hZ hown (host := "") (Or.inl (hw _ (List.mem_of_getElem? (i := 33) rfl))) (Via.of (hw _ (List.mem_of_getElem? (i := 34) rfl))) eh10 P4_4__10 P4_1__10 (Or.inl (hw _ (List.mem_of_getElem? (i := 35) rfl))) (hw _ (List.mem_of_getElem? (i := 1) rfl)) (ty := .long) (by decide) rfl rfl (g := (mkF m 25 #[.val (.long q1), .second, .val (.long q2), .second, .val (.long q3), .second, .val (.long q4), .second, .val (.long q5), .second, .val (.long q6), .second, .val (.ref b1), .unset, .unset] [(.long q2), (.ref b1)])) rfl rfl (hb hby at_25)
  have P4_1__13 : Exa Z h13 b1 "com/example/obturo/obturo/stats/internal/LatestSecondMoveToPinLaw" := P4_1__10.wr W13
  have F_start_b1__13 : Fld Z h13 b1 "com/example/obturo/obturo/stats/internal/LatestSecond" "start" "J" (.long q2) := F_start_b1__10.other W13 (Or.inr (slot_ne (Or.inl (hw _ (List.mem_of_getElem? (i := 26) rfl))) (Or.inl (hw _ (List.mem_of_getElem? (i := 35) rfl))) (by decide) (t := .long) (t' := .long) (by decide) (by decide)))
  have F_endNanos_b1__13 : Fld Z h13 b1 "com/example/obturo/obturo/stats/internal/LatestSecond" "endNanos" "J" (.long q3) := F_endNanos_b1__10.other W13 (Or.inr (slot_ne (Or.inl (hw _ (List.mem_of_getElem? (i := 28) rfl))) (Or.inl (hw _ (List.mem_of_getElem? (i := 35) rfl))) (by decide) (t := .long) (t' := .long) (by decide) (by decide)))
  have P4_5__13 : Fld Z h13 b1 "com/example/obturo/obturo/stats/internal/LatestSecond" "completed" "J" (.long (0 : Int64)) := P4_5__10.other W13 (Or.inr (slot_ne (Or.inl (hw _ (List.mem_of_getElem? (i := 38) rfl))) (Or.inl (hw _ (List.mem_of_getElem? (i := 35) rfl))) (by decide) (t := .long) (t' := .long) (by decide) (by decide)))
  have P4_6__13 : Fld Z h13 b1 "com/example/obturo/obturo/stats/internal/LatestSecond" "errors" "J" (.long (0 : Int64)) := P4_6__10.other W13 (Or.inr (slot_ne (Or.inl (hw _ (List.mem_of_getElem? (i := 41) rfl))) (Or.inl (hw _ (List.mem_of_getElem? (i := 35) rfl))) (by decide) (t := .long) (t' := .long) (by decide) (by decide)))
  have P4_7__13 : Fld Z h13 b1 "com/example/obturo/obturo/stats/internal/LatestSecond" "totalRtMillis" "J" (.long (0 : Int64)) := P4_7__10.other W13 (Or.inr (slot_ne (Or.inl (hw _ (List.mem_of_getElem? (i := 44) rfl))) (Or.inl (hw _ (List.mem_of_getElem? (i := 35) rfl))) (by decide) (t := .long) (t' := .long) (by decide) (by decide)))
  have P4_8__13 : Fld Z h13 b1 "com/example/obturo/obturo/stats/internal/LatestSecond" "minRtMillis" "J" (.long (0 : Int64)) := P4_8__10.other W13 (Or.inr (slot_ne (Or.inl (hw _ (List.mem_of_getElem? (i := 47) rfl))) (Or.inl (hw _ (List.mem_of_getElem? (i := 35) rfl))) (by decide) (t := .long) (t' := .long) (by decide) (by decide)))
  have sz13 : n0 ≤ h13.size := Nat.le_trans sz10 (Keep.of_wr W13).1
  have N13 := Fr.snoc X13 N10 g_b1
  have F_block_b1__13 : Fld Z h13 b1 "com/example/obturo/obturo/stats/internal/LatestSecond" "block" "J" (.long q2) := P4_4__10.same W13
  have pre14 : ∀ t, Steps p.tables e below (T13.setTop (mkF m 28 #[.val (.long q1), .second, .val (.long q2), .second, .val (.long q3), .second, .val (.long q4), .second, .val (.long q5), .second, .val (.long q6), .second, .val (.ref b1), .unset, .unset] [])) t → Steps p.tables e below (s₁.setTop (entryFrame m #[(.long q1), (.long q2), (.long q3), (.long q4), (.long q5), (.long q6)] maxLocals)) t := fun t k => pre12 t (st13 _ k)
  have pre15 : ∀ t, Steps p.tables e below (T13.setTop (mkF m 32 #[.val (.long q1), .second, .val (.long q2), .second, .val (.long q3), .second, .val (.long q4), .second, .val (.long q5), .second, .val (.long q6), .second, .val (.ref b1), .unset, .unset] [(.long q3), (.ref b1)])) t → Steps p.tables e below (s₁.setTop (entryFrame m #[(.long q1), (.long q2), (.long q3), (.long q4), (.long q5), (.long q6)] maxLocals)) t := fun t k => pre14 t (by
    show Steps p.tables e below (T13.setTop (mkF m 28 #[.val (.long q1), .second, .val (.long q2), .second, .val (.long q3), .second, .val (.long q4), .second, .val (.long q5), .second, .val (.long q6), .second, .val (.ref b1), .unset, .unset] [])) t
    refine XS.aload X13.here hx rfl (hb hby at_28) rfl rfl ?_
    show Steps p.tables e below (T13.setTop (mkF m 30 #[.val (.long q1), .second, .val (.long q2), .second, .val (.long q3), .second, .val (.long q4), .second, .val (.long q5), .second, .val (.long q6), .second, .val (.ref b1), .unset, .unset] [(.ref b1)])) t
    refine XT.lload X13.here hx rfl (hb hby at_30) rfl ?_
    show Steps p.tables e below (T13.setTop (mkF m 32 #[.val (.long q1), .second, .val (.long q2), .second, .val (.long q3), .second, .val (.long q4), .second, .val (.long q5), .second, .val (.long q6), .second, .val (.ref b1), .unset, .unset] [(.long q3), (.ref b1)])) t
    exact k)
  obtain ⟨T16, h16, X16, eh16, W16, st16⟩ := putF X13 hx hZ hown (host := "") (Or.inl (hw _ (List.mem_of_getElem? (i := 36) rfl))) (Via.of (hw _ (List.mem_of_getElem? (i := 37) rfl))) eh13 P4_5__13 P4_1__13 (Or.inl (hw _ (List.mem_of_getElem? (i := 38) rfl))) (hw _ (List.mem_of_getElem? (i := 1) rfl)) (ty := .long) (by decide) rfl rfl (g := (mkF m 32 #[.val (.long q1), .second, .val (.long q2), .second, .val (.long q3), .second, .val (.long q4), .second, .val (.long q5), .second, .val (.long q6), .second, .val (.ref b1), .unset, .unset] [(.long q3), (.ref b1)])) rfl rfl (hb hby at_32)
  have P4_1__16 : Exa Z h16 b1 "com/example/obturo/obturo/stats/internal/LatestSecondMoveToPinLaw" := P4_1__13.wr W16
  have F_start_b1__16 : Fld Z h16 b1 "com/example/obturo/obturo/stats/internal/LatestSecond" "start" "J" (.long q2) := F_start_b1__13.other W16 (Or.inr (slot_ne (Or.inl (hw _ (List.mem_of_getElem? (i := 26) rfl))) (Or.inl (hw _ (List.mem_of_getElem? (i := 38) rfl))) (by decide) (t := .long) (t' := .long) (by decide) (by decide)))
  have F_endNanos_b1__16 : Fld Z h16 b1 "com/example/obturo/obturo/stats/internal/LatestSecond" "endNanos" "J" (.long q3) := F_endNanos_b1__13.other W16 (Or.inr (slot_ne (Or.inl (hw _ (List.mem_of_getElem? (i := 28) rfl))) (Or.inl (hw _ (List.mem_of_getElem? (i := 38) rfl))) (by decide) (t := .long) (t' := .long) (by decide) (by decide)))
  have F_block_b1__16 : Fld Z h16 b1 "com/example/obturo/obturo/stats/internal/LatestSecond" "block" "J" (.long q2) := F_block_b1__13.other W16 (Or.inr (slot_ne (Or.inl (hw _ (List.mem_of_getElem? (i := 35) rfl))) (Or.inl (hw _ (List.mem_of_getElem? (i := 38) rfl))) (by decide) (t := .long) (t' := .long) (by decide) (by decide)))
  have P4_6__16 : Fld Z h16 b1 "com/example/obturo/obturo/stats/internal/LatestSecond" "errors" "J" (.long (0 : Int64)) := P4_6__13.other W16 (Or.inr (slot_ne (Or.inl (hw _ (List.mem_of_getElem? (i := 41) rfl))) (Or.inl (hw _ (List.mem_of_getElem? (i := 38) rfl))) (by decide) (t := .long) (t' := .long) (by decide) (by decide)))
  have P4_7__16 : Fld Z h16 b1 "com/example/obturo/obturo/stats/internal/LatestSecond" "totalRtMillis" "J" (.long (0 : Int64)) := P4_7__13.other W16 (Or.inr (slot_ne (Or.inl (hw _ (List.mem_of_getElem? (i := 44) rfl))) (Or.inl (hw _ (List.mem_of_getElem? (i := 38) rfl))) (by decide) (t := .long) (t' := .long) (by decide) (by decide)))
  have P4_8__16 : Fld Z h16 b1 "com/example/obturo/obturo/stats/internal/LatestSecond" "minRtMillis" "J" (.long (0 : Int64)) := P4_8__13.other W16 (Or.inr (slot_ne (Or.inl (hw _ (List.mem_of_getElem? (i := 47) rfl))) (Or.inl (hw _ (List.mem_of_getElem? (i := 38) rfl))) (by decide) (t := .long) (t' := .long) (by decide) (by decide)))
  have sz16 : n0 ≤ h16.size := Nat.le_trans sz13 (Keep.of_wr W16).1
  have N16 := Fr.snoc X16 N13 g_b1
  have F_completed_b1__16 : Fld Z h16 b1 "com/example/obturo/obturo/stats/internal/LatestSecond" "completed" "J" (.long q3) := P4_5__13.same W16
  have pre17 : ∀ t, Steps p.tables e below (T16.setTop (mkF m 35 #[.val (.long q1), .second, .val (.long q2), .second, .val (.long q3), .second, .val (.long q4), .second, .val (.long q5), .second, .val (.long q6), .second, .val (.ref b1), .unset, .unset] [])) t → Steps p.tables e below (s₁.setTop (entryFrame m #[(.long q1), (.long q2), (.long q3), (.long q4), (.long q5), (.long q6)] maxLocals)) t := fun t k => pre15 t (st16 _ k)
  have pre18 : ∀ t, Steps p.tables e below (T16.setTop (mkF m 39 #[.val (.long q1), .second, .val (.long q2), .second, .val (.long q3), .second, .val (.long q4), .second, .val (.long q5), .second, .val (.long q6), .second, .val (.ref b1), .unset, .unset] [(.long q4), (.ref b1)])) t → Steps p.tables e below (s₁.setTop (entryFrame m #[(.long q1), (.long q2), (.long q3), (.long q4), (.long q5), (.long q6)] maxLocals)) t := fun t k => pre17 t (by
    show Steps p.tables e below (T16.setTop (mkF m 35 #[.val (.long q1), .second, .val (.long q2), .second, .val (.long q3), .second, .val (.long q4), .second, .val (.long q5), .second, .val (.long q6), .second, .val (.ref b1), .unset, .unset] [])) t
    refine XS.aload X16.here hx rfl (hb hby at_35) rfl rfl ?_
    show Steps p.tables e below (T16.setTop (mkF m 37 #[.val (.long q1), .second, .val (.long q2), .second, .val (.long q3), .second, .val (.long q4), .second, .val (.long q5), .second, .val (.long q6), .second, .val (.ref b1), .unset, .unset] [(.ref b1)])) t
    refine XT.lload X16.here hx rfl (hb hby at_37) rfl ?_
    show Steps p.tables e below (T16.setTop (mkF m 39 #[.val (.long q1), .second, .val (.long q2), .second, .val (.long q3), .second, .val (.long q4), .second, .val (.long q5), .second, .val (.long q6), .second, .val (.ref b1), .unset, .unset] [(.long q4), (.ref b1)])) t
    exact k)
  obtain ⟨T19, h19, X19, eh19, W19, st19⟩ := putF X16 hx hZ hown (host := "") (Or.inl (hw _ (List.mem_of_getElem? (i := 39) rfl))) (Via.of (hw _ (List.mem_of_getElem? (i := 40) rfl))) eh16 P4_6__16 P4_1__16 (Or.inl (hw _ (List.mem_of_getElem? (i := 41) rfl))) (hw _ (List.mem_of_getElem? (i := 1) rfl)) (ty := .long) (by decide) rfl rfl (g := (mkF m 39 #[.val (.long q1), .second, .val (.long q2), .second, .val (.long q3), .second, .val (.long q4), .second, .val (.long q5), .second, .val (.long q6), .second, .val (.ref b1), .unset, .unset] [(.long q4), (.ref b1)])) rfl rfl (hb hby at_39)
  have P4_1__19 : Exa Z h19 b1 "com/example/obturo/obturo/stats/internal/LatestSecondMoveToPinLaw" := P4_1__16.wr W19
  have F_start_b1__19 : Fld Z h19 b1 "com/example/obturo/obturo/stats/internal/LatestSecond" "start" "J" (.long q2) := F_start_b1__16.other W19 (Or.inr (slot_ne (Or.inl (hw _ (List.mem_of_getElem? (i := 26) rfl))) (Or.inl (hw _ (List.mem_of_getElem? (i := 41) rfl))) (by decide) (t := .long) (t' := .long) (by decide) (by decide)))
  have F_endNanos_b1__19 : Fld Z h19 b1 "com/example/obturo/obturo/stats/internal/LatestSecond" "endNanos" "J" (.long q3) := F_endNanos_b1__16.other W19 (Or.inr (slot_ne (Or.inl (hw _ (List.mem_of_getElem? (i := 28) rfl))) (Or.inl (hw _ (List.mem_of_getElem? (i := 41) rfl))) (by decide) (t := .long) (t' := .long) (by decide) (by decide)))
  have F_block_b1__19 : Fld Z h19 b1 "com/example/obturo/obturo/stats/internal/LatestSecond" "block" "J" (.long q2) := F_block_b1__16.other W19 (Or.inr (slot_ne (Or.inl (hw _ (List.mem_of_getElem? (i := 35) rfl))) (Or.inl (hw _ (List.mem_of_getElem? (i := 41) rfl))) (by decide) (t := .long) (t' := .long) (by decide) (by decide)))
  have F_completed_b1__19 : Fld Z h19 b1 "com/example/obturo/obturo/stats/internal/LatestSecond" "completed" "J" (.long q3) := F_completed_b1__16.other W19 (Or.inr (slot_ne (Or.inl (hw _ (List.mem_of_getElem? (i := 38) rfl))) (Or.inl (hw _ (List.mem_of_getElem? (i := 41) rfl))) (by decide) (t := .long) (t' := .long) (by decide) (by decide)))
  have P4_7__19 : Fld Z h19 b1 "com/example/obturo/obturo/stats/internal/LatestSecond" "totalRtMillis" "J" (.long (0 : Int64)) := P4_7__16.other W19 (Or.inr (slot_ne (Or.inl (hw _ (List.mem_of_getElem? (i := 44) rfl))) (Or.inl (hw _ (List.mem_of_getElem? (i := 41) rfl))) (by decide) (t := .long) (t' := .long) (by decide) (by decide)))
  have P4_8__19 : Fld Z h19 b1 "com/example/obturo/obturo/stats/internal/LatestSecond" "minRtMillis" "J" (.long (0 : Int64)) := P4_8__16.other W19 (Or.inr (slot_ne (Or.inl (hw _ (List.mem_of_getElem? (i := 47) rfl))) (Or.inl (hw _ (List.mem_of_getElem? (i := 41) rfl))) (by decide) (t := .long) (t' := .long) (by decide) (by decide)))
  have sz19 : n0 ≤ h19.size := Nat.le_trans sz16 (Keep.of_wr W19).1
  have N19 := Fr.snoc X19 N16 g_b1
  have F_errors_b1__19 : Fld Z h19 b1 "com/example/obturo/obturo/stats/internal/LatestSecond" "errors" "J" (.long q4) := P4_6__16.same W19
  have pre20 : ∀ t, Steps p.tables e below (T19.setTop (mkF m 42 #[.val (.long q1), .second, .val (.long q2), .second, .val (.long q3), .second, .val (.long q4), .second, .val (.long q5), .second, .val (.long q6), .second, .val (.ref b1), .unset, .unset] [])) t → Steps p.tables e below (s₁.setTop (entryFrame m #[(.long q1), (.long q2), (.long q3), (.long q4), (.long q5), (.long q6)] maxLocals)) t := fun t k => pre18 t (st19 _ k)
  have pre21 : ∀ t, Steps p.tables e below (T19.setTop (mkF m 46 #[.val (.long q1), .second, .val (.long q2), .second, .val (.long q3), .second, .val (.long q4), .second, .val (.long q5), .second, .val (.long q6), .second, .val (.ref b1), .unset, .unset] [(.long q5), (.ref b1)])) t → Steps p.tables e below (s₁.setTop (entryFrame m #[(.long q1), (.long q2), (.long q3), (.long q4), (.long q5), (.long q6)] maxLocals)) t := fun t k => pre20 t (by
    show Steps p.tables e below (T19.setTop (mkF m 42 #[.val (.long q1), .second, .val (.long q2), .second, .val (.long q3), .second, .val (.long q4), .second, .val (.long q5), .second, .val (.long q6), .second, .val (.ref b1), .unset, .unset] [])) t
    refine XS.aload X19.here hx rfl (hb hby at_42) rfl rfl ?_
    show Steps p.tables e below (T19.setTop (mkF m 44 #[.val (.long q1), .second, .val (.long q2), .second, .val (.long q3), .second, .val (.long q4), .second, .val (.long q5), .second, .val (.long q6), .second, .val (.ref b1), .unset, .unset] [(.ref b1)])) t
    refine XT.lload X19.here hx rfl (hb hby at_44) rfl ?_
    show Steps p.tables e below (T19.setTop (mkF m 46 #[.val (.long q1), .second, .val (.long q2), .second, .val (.long q3), .second, .val (.long q4), .second, .val (.long q5), .second, .val (.long q6), .second, .val (.ref b1), .unset, .unset] [(.long q5), (.ref b1)])) t
    exact k)
  obtain ⟨T22, h22, X22, eh22, W22, st22⟩ := putF X19 hx hZ hown (host := "") (Or.inl (hw _ (List.mem_of_getElem? (i := 42) rfl))) (Via.of (hw _ (List.mem_of_getElem? (i := 43) rfl))) eh19 P4_7__19 P4_1__19 (Or.inl (hw _ (List.mem_of_getElem? (i := 44) rfl))) (hw _ (List.mem_of_getElem? (i := 1) rfl)) (ty := .long) (by decide) rfl rfl (g := (mkF m 46 #[.val (.long q1), .second, .val (.long q2), .second, .val (.long q3), .second, .val (.long q4), .second, .val (.long q5), .second, .val (.long q6), .second, .val (.ref b1), .unset, .unset] [(.long q5), (.ref b1)])) rfl rfl (hb hby at_46)
  have P4_1__22 : Exa Z h22 b1 "com/example/obturo/obturo/stats/internal/LatestSecondMoveToPinLaw" := P4_1__19.wr W22
  have F_start_b1__22 : Fld Z h22 b1 "com/example/obturo/obturo/stats/internal/LatestSecond" "start" "J" (.long q2) := F_start_b1__19.other W22 (Or.inr (slot_ne (Or.inl (hw _ (List.mem_of_getElem? (i := 26) rfl))) (Or.inl (hw _ (List.mem_of_getElem? (i := 44) rfl))) (by decide) (t := .long) (t' := .long) (by decide) (by decide)))
  have F_endNanos_b1__22 : Fld Z h22 b1 "com/example/obturo/obturo/stats/internal/LatestSecond" "endNanos" "J" (.long q3) := F_endNanos_b1__19.other W22 (Or.inr (slot_ne (Or.inl (hw _ (List.mem_of_getElem? (i := 28) rfl))) (Or.inl (hw _ (List.mem_of_getElem? (i := 44) rfl))) (by decide) (t := .long) (t' := .long) (by decide) (by decide)))
  have F_block_b1__22 : Fld Z h22 b1 "com/example/obturo/obturo/stats/internal/LatestSecond" "block" "J" (.long q2) := F_block_b1__19.other W22 (Or.inr (slot_ne (Or.inl (hw _ (List.mem_of_getElem? (i := 35) rfl))) (Or.inl (hw _ (List.mem_of_getElem? (i := 44) rfl))) (by decide) (t := .long) (t' := .long) (by decide) (by decide)))
  have F_completed_b1__22 : Fld Z h22 b1 "com/example/obturo/obturo/stats/internal/LatestSecond" "completed" "J" (.long q3) := F_completed_b1__19.other W22 (Or.inr (slot_ne (Or.inl (hw _ (List.mem_of_getElem? (i := 38) rfl))) (Or.inl (hw _ (List.mem_of_getElem? (i := 44) rfl))) (by decide) (t := .long) (t' := .long) (by decide) (by decide)))
  have F_errors_b1__22 : Fld Z h22 b1 "com/example/obturo/obturo/stats/internal/LatestSecond" "errors" "J" (.long q4) := F_errors_b1__19.other W22 (Or.inr (slot_ne (Or.inl (hw _ (List.mem_of_getElem? (i := 41) rfl))) (Or.inl (hw _ (List.mem_of_getElem? (i := 44) rfl))) (by decide) (t := .long) (t' := .long) (by decide) (by decide)))
  have P4_8__22 : Fld Z h22 b1 "com/example/obturo/obturo/stats/internal/LatestSecond" "minRtMillis" "J" (.long (0 : Int64)) := P4_8__19.other W22 (Or.inr (slot_ne (Or.inl (hw _ (List.mem_of_getElem? (i := 47) rfl))) (Or.inl (hw _ (List.mem_of_getElem? (i := 44) rfl))) (by decide) (t := .long) (t' := .long) (by decide) (by decide)))
  have sz22 : n0 ≤ h22.size := Nat.le_trans sz19 (Keep.of_wr W22).1
  have N22 := Fr.snoc X22 N19 g_b1
  have F_totalRtMillis_b1__22 : Fld Z h22 b1 "com/example/obturo/obturo/stats/internal/LatestSecond" "totalRtMillis" "J" (.long q5) := P4_7__19.same W22
  have pre23 : ∀ t, Steps p.tables e below (T22.setTop (mkF m 49 #[.val (.long q1), .second, .val (.long q2), .second, .val (.long q3), .second, .val (.long q4), .second, .val (.long q5), .second, .val (.long q6), .second, .val (.ref b1), .unset, .unset] [])) t → Steps p.tables e below (s₁.setTop (entryFrame m #[(.long q1), (.long q2), (.long q3), (.long q4), (.long q5), (.long q6)] maxLocals)) t := fun t k => pre21 t (st22 _ k)
  have pre24 : ∀ t, Steps p.tables e below (T22.setTop (mkF m 53 #[.val (.long q1), .second, .val (.long q2), .second, .val (.long q3), .second, .val (.long q4), .second, .val (.long q5), .second, .val (.long q6), .second, .val (.ref b1), .unset, .unset] [(.long q6), (.ref b1)])) t → Steps p.tables e below (s₁.setTop (entryFrame m #[(.long q1), (.long q2), (.long q3), (.long q4), (.long q5), (.long q6)] maxLocals)) t := fun t k => pre23 t (by
    show Steps p.tables e below (T22.setTop (mkF m 49 #[.val (.long q1), .second, .val (.long q2), .second, .val (.long q3), .second, .val (.long q4), .second, .val (.long q5), .second, .val (.long q6), .second, .val (.ref b1), .unset, .unset] [])) t
    refine XS.aload X22.here hx rfl (hb hby at_49) rfl rfl ?_
    show Steps p.tables e below (T22.setTop (mkF m 51 #[.val (.long q1), .second, .val (.long q2), .second, .val (.long q3), .second, .val (.long q4), .second, .val (.long q5), .second, .val (.long q6), .second, .val (.ref b1), .unset, .unset] [(.ref b1)])) t
    refine XT.lload X22.here hx rfl (hb hby at_51) rfl ?_
    show Steps p.tables e below (T22.setTop (mkF m 53 #[.val (.long q1), .second, .val (.long q2), .second, .val (.long q3), .second, .val (.long q4), .second, .val (.long q5), .second, .val (.long q6), .second, .val (.ref b1), .unset, .unset] [(.long q6), (.ref b1)])) t
    exact k)
  obtain ⟨T25, h25, X25, eh25, W25, st25⟩ := putF X22 hx hZ hown (host := "") (Or.inl (hw _ (List.mem_of_getElem? (i := 45) rfl))) (Via.of (hw _ (List.mem_of_getElem? (i := 46) rfl))) eh22 P4_8__22 P4_1__22 (Or.inl (hw _ (List.mem_of_getElem? (i := 47) rfl))) (hw _ (List.mem_of_getElem? (i := 1) rfl)) (ty := .long) (by decide) rfl rfl (g := (mkF m 53 #[.val (.long q1), .second, .val (.long q2), .second, .val (.long q3), .second, .val (.long q4), .second, .val (.long q5), .second, .val (.long q6), .second, .val (.ref b1), .unset, .unset] [(.long q6), (.ref b1)])) rfl rfl (hb hby at_53)
  have P4_1__25 : Exa Z h25 b1 "com/example/obturo/obturo/stats/internal/LatestSecondMoveToPinLaw" := P4_1__22.wr W25
  have F_start_b1__25 : Fld Z h25 b1 "com/example/obturo/obturo/stats/internal/LatestSecond" "start" "J" (.long q2) := F_start_b1__22.other W25 (Or.inr (slot_ne (Or.inl (hw _ (List.mem_of_getElem? (i := 26) rfl))) (Or.inl (hw _ (List.mem_of_getElem? (i := 47) rfl))) (by decide) (t := .long) (t' := .long) (by decide) (by decide)))
  have F_endNanos_b1__25 : Fld Z h25 b1 "com/example/obturo/obturo/stats/internal/LatestSecond" "endNanos" "J" (.long q3) := F_endNanos_b1__22.other W25 (Or.inr (slot_ne (Or.inl (hw _ (List.mem_of_getElem? (i := 28) rfl))) (Or.inl (hw _ (List.mem_of_getElem? (i := 47) rfl))) (by decide) (t := .long) (t' := .long) (by decide) (by decide)))
  have F_block_b1__25 : Fld Z h25 b1 "com/example/obturo/obturo/stats/internal/LatestSecond" "block" "J" (.long q2) := F_block_b1__22.other W25 (Or.inr (slot_ne (Or.inl (hw _ (List.mem_of_getElem? (i := 35) rfl))) (Or.inl (hw _ (List.mem_of_getElem? (i := 47) rfl))) (by decide) (t := .long) (t' := .long) (by decide) (by decide)))
  have F_completed_b1__25 : Fld Z h25 b1 "com/example/obturo/obturo/stats/internal/LatestSecond" "completed" "J" (.long q3) := F_completed_b1__22.other W25 (Or.inr (slot_ne (Or.inl (hw _ (List.mem_of_getElem? (i := 38) rfl))) (Or.inl (hw _ (List.mem_of_getElem? (i := 47) rfl))) (by decide) (t := .long) (t' := .long) (by decide) (by decide)))
  have F_errors_b1__25 : Fld Z h25 b1 "com/example/obturo/obturo/stats/internal/LatestSecond" "errors" "J" (.long q4) := F_errors_b1__22.other W25 (Or.inr (slot_ne (Or.inl (hw _ (List.mem_of_getElem? (i := 41) rfl))) (Or.inl (hw _ (List.mem_of_getElem? (i := 47) rfl))) (by decide) (t := .long) (t' := .long) (by decide) (by decide)))
  have F_totalRtMillis_b1__25 : Fld Z h25 b1 "com/example/obturo/obturo/stats/internal/LatestSecond" "totalRtMillis" "J" (.long q5) := F_totalRtMillis_b1__22.other W25 (Or.inr (slot_ne (Or.inl (hw _ (List.mem_of_getElem? (i := 44) rfl))) (Or.inl (hw _ (List.mem_of_getElem? (i := 47) rfl))) (by decide) (t := .long) (t' := .long) (by decide) (by decide)))
  have sz25 : n0 ≤ h25.size := Nat.le_trans sz22 (Keep.of_wr W25).1
  have N25 := Fr.snoc X25 N22 g_b1
  have F_minRtMillis_b1__25 : Fld Z h25 b1 "com/example/obturo/obturo/stats/internal/LatestSecond" "minRtMillis" "J" (.long q6) := P4_8__22.same W25
  have pre26 : ∀ t, Steps p.tables e below (T25.setTop (mkF m 56 #[.val (.long q1), .second, .val (.long q2), .second, .val (.long q3), .second, .val (.long q4), .second, .val (.long q5), .second, .val (.long q6), .second, .val (.ref b1), .unset, .unset] [])) t → Steps p.tables e below (s₁.setTop (entryFrame m #[(.long q1), (.long q2), (.long q3), (.long q4), (.long q5), (.long q6)] maxLocals)) t := fun t k => pre24 t (st25 _ k)
  have pre27 : ∀ t, Steps p.tables e below (T25.setTop (mkF m 59 #[.val (.long q1), .second, .val (.long q2), .second, .val (.long q3), .second, .val (.long q4), .second, .val (.long q5), .second, .val (.long q6), .second, .val (.ref b1), .unset, .unset] [(.long q1), (.ref b1)])) t → Steps p.tables e below (s₁.setTop (entryFrame m #[(.long q1), (.long q2), (.long q3), (.long q4), (.long q5), (.long q6)] maxLocals)) t := fun t k => pre26 t (by
    show Steps p.tables e below (T25.setTop (mkF m 56 #[.val (.long q1), .second, .val (.long q2), .second, .val (.long q3), .second, .val (.long q4), .second, .val (.long q5), .second, .val (.long q6), .second, .val (.ref b1), .unset, .unset] [])) t
    refine XS.aload X25.here hx rfl (hb hby at_56) rfl rfl ?_
    show Steps p.tables e below (T25.setTop (mkF m 58 #[.val (.long q1), .second, .val (.long q2), .second, .val (.long q3), .second, .val (.long q4), .second, .val (.long q5), .second, .val (.long q6), .second, .val (.ref b1), .unset, .unset] [(.ref b1)])) t
    refine XT.lloadN X25.here hx rfl (hb hby at_58) rfl ?_
    show Steps p.tables e below (T25.setTop (mkF m 59 #[.val (.long q1), .second, .val (.long q2), .second, .val (.long q3), .second, .val (.long q4), .second, .val (.long q5), .second, .val (.long q6), .second, .val (.ref b1), .unset, .unset] [(.long q1), (.ref b1)])) t
    exact k)
  obtain ⟨cq28, kq28, q28a, q28b, q28c⟩ := isOf hZ eh25 P4_1__25
  obtain ⟨_, _, ⟨T28, L28, k28, n28⟩, -, X28, ⟨Lc28, hQ28, l28, y28, z28⟩, st28⟩ := X25.virtualBackUp hx (C := "com/example/obturo/obturo/stats/internal/LatestSecondMoveToPinLaw") (owner := "com/example/obturo/obturo/stats/internal/LatestSecond") (x := (⟨"com/example/obturo/obturo/stats/internal/LatestSecondMoveToPinLaw", "moveTo", "(J)V"⟩ : MethodName)) (y := (⟨"com/example/obturo/obturo/stats/internal/LatestSecond", "moveTo", "(J)V"⟩ : MethodName)) hown (mvT hZ (hw _ (List.mem_of_getElem? (i := 48) rfl))) (mvT hZ (hw _ (List.mem_of_getElem? (i := 49) rfl))) (mvT hZ (hw _ (List.mem_of_getElem? (i := 50) rfl))) (by decide) (mvT hZ (hw _ (List.mem_of_getElem? (i := 52) rfl))) (mvT hZ (hw _ (List.mem_of_getElem? (i := 51) rfl))) (backOf (W := 0) (rm6 l Z a0 hw [] b1 q1 (.long q2) (.long q3) (.long q2) (.long q3) (.long q4) (.long q5) (.long q6) h25 n0 sz25 P4_1__25 F_start_b1__25 F_endNanos_b1__25 F_block_b1__25 F_completed_b1__25 F_errors_b1__25 F_totalRtMillis_b1__25 F_minRtMillis_b1__25 g_b1) hZ (hw _ (List.mem_of_getElem? (i := 53) rfl)) (hw _ (List.mem_of_getElem? (i := 9) rfl)) (by decide) (by decide)) q28a q28c (g := (mkF m 59 #[.val (.long q1), .second, .val (.long q2), .second, .val (.long q3), .second, .val (.long q4), .second, .val (.long q5), .second, .val (.long q6), .second, .val (.ref b1), .unset, .unset] [(.long q1), (.ref b1)])) rfl (by rw [hml]; rfl) (Steps.refl _) (argsL := [(.long q1)]) (rest := []) (lenOf pd_oJcV rfl) rfl (by show 2 * 0 + _ ≤ _; exact Nat.le_of_eq rfl) (hb hby at_59) (fun _ _ => ⟨rfl, eh25, (by decide : 1 + 0 ≤ _), (by decide : 16 + 0 ≤ _)⟩)
  dsimp only [Pt.U, Pt.locs, Pt.cells, Pt.slots] at X28 l28 y28 z28 st28 hQ28
  subst l28 y28 z28
  obtain ⟨rfl, N28q, Kq28, P28_1, P28_2, P28_3, P28_4, P28_5, P28_6, P28_7, P28_8⟩ := hQ28
  have sz28 : n0 ≤ T28.heap.size := Nat.le_trans sz25 Kq28.1
  have N28 := Fr.app N25 N28q
  have pre29 : ∀ t, Steps p.tables e below (T28.setTop (mkF m 62 #[.val (.long q1), .second, .val (.long q2), .second, .val (.long q3), .second, .val (.long q4), .second, .val (.long q5), .second, .val (.long q6), .second, .val (.ref b1), .unset, .unset] [])) t → Steps p.tables e below (s₁.setTop (entryFrame m #[(.long q1), (.long q2), (.long q3), (.long q4), (.long q5), (.long q6)] maxLocals)) t := fun t k => pre27 t (st28.trans k)
  have pre30 : ∀ t, Steps p.tables e below (T28.setTop (mkF m 75 #[.val (.long q1), .second, .val (.long q2), .second, .val (.long q3), .second, .val (.long q4), .second, .val (.long q5), .second, .val (.long q6), .second, .val (.ref b1), .val (.long ((q1 * (1000000 : Int64)) + (1000000000 : Int64))), .second] [(.ref b1)])) t → Steps p.tables e below (s₁.setTop (entryFrame m #[(.long q1), (.long q2), (.long q3), (.long q4), (.long q5), (.long q6)] maxLocals)) t := fun t k => pre29 t (by
    show Steps p.tables e below (T28.setTop (mkF m 62 #[.val (.long q1), .second, .val (.long q2), .second, .val (.long q3), .second, .val (.long q4), .second, .val (.long q5), .second, .val (.long q6), .second, .val (.ref b1), .unset, .unset] [])) t
    refine XT.lloadN X28.here hx rfl (hb hby at_62) rfl ?_
    show Steps p.tables e below (T28.setTop (mkF m 63 #[.val (.long q1), .second, .val (.long q2), .second, .val (.long q3), .second, .val (.long q4), .second, .val (.long q5), .second, .val (.long q6), .second, .val (.ref b1), .unset, .unset] [(.long q1)])) t
    refine X28.ldc2Long hx hown (mvT hZ (hw _ (List.mem_of_getElem? (i := 62) rfl))) (g := (mkF m 63 #[.val (.long q1), .second, .val (.long q2), .second, .val (.long q3), .second, .val (.long q4), .second, .val (.long q5), .second, .val (.long q6), .second, .val (.ref b1), .unset, .unset] [(.long q1)])) rfl (hb hby at_63) _ ?_
    show Steps p.tables e below (T28.setTop (mkF m 66 #[.val (.long q1), .second, .val (.long q2), .second, .val (.long q3), .second, .val (.long q4), .second, .val (.long q5), .second, .val (.long q6), .second, .val (.ref b1), .unset, .unset] [(.long (1000000 : Int64)), (.long q1)])) t
    refine XT.lmul X28.here hx rfl (hb hby at_66) rfl ?_
    show Steps p.tables e below (T28.setTop (mkF m 67 #[.val (.long q1), .second, .val (.long q2), .second, .val (.long q3), .second, .val (.long q4), .second, .val (.long q5), .second, .val (.long q6), .second, .val (.ref b1), .unset, .unset] [(.long (q1 * (1000000 : Int64)))])) t
    refine X28.ldc2Long hx hown (mvT hZ (hw _ (List.mem_of_getElem? (i := 63) rfl))) (g := (mkF m 67 #[.val (.long q1), .second, .val (.long q2), .second, .val (.long q3), .second, .val (.long q4), .second, .val (.long q5), .second, .val (.long q6), .second, .val (.ref b1), .unset, .unset] [(.long (q1 * (1000000 : Int64)))])) rfl (hb hby at_67) _ ?_
    show Steps p.tables e below (T28.setTop (mkF m 70 #[.val (.long q1), .second, .val (.long q2), .second, .val (.long q3), .second, .val (.long q4), .second, .val (.long q5), .second, .val (.long q6), .second, .val (.ref b1), .unset, .unset] [(.long (1000000000 : Int64)), (.long (q1 * (1000000 : Int64)))])) t
    refine XT.ladd X28.here hx rfl (hb hby at_70) rfl ?_
    show Steps p.tables e below (T28.setTop (mkF m 71 #[.val (.long q1), .second, .val (.long q2), .second, .val (.long q3), .second, .val (.long q4), .second, .val (.long q5), .second, .val (.long q6), .second, .val (.ref b1), .unset, .unset] [(.long ((q1 * (1000000 : Int64)) + (1000000000 : Int64)))])) t
    refine XT.lstore X28.here hx rfl (hb hby at_71) rfl (l' := #[.val (.long q1), .second, .val (.long q2), .second, .val (.long q3), .second, .val (.long q4), .second, .val (.long q5), .second, .val (.long q6), .second, .val (.ref b1), .val (.long ((q1 * (1000000 : Int64)) + (1000000000 : Int64))), .second]) rfl ?_
    show Steps p.tables e below (T28.setTop (mkF m 73 #[.val (.long q1), .second, .val (.long q2), .second, .val (.long q3), .second, .val (.long q4), .second, .val (.long q5), .second, .val (.long q6), .second, .val (.ref b1), .val (.long ((q1 * (1000000 : Int64)) + (1000000000 : Int64))), .second] [])) t
    refine XS.aload X28.here hx rfl (hb hby at_73) rfl rfl ?_
    show Steps p.tables e below (T28.setTop (mkF m 75 #[.val (.long q1), .second, .val (.long q2), .second, .val (.long q3), .second, .val (.long q4), .second, .val (.long q5), .second, .val (.long q6), .second, .val (.ref b1), .val (.long ((q1 * (1000000 : Int64)) + (1000000000 : Int64))), .second] [(.ref b1)])) t
    exact k)
  obtain ⟨T31, X31, eh31, st31⟩ := getF X28 hx hZ hown (host := "") (Or.inl (hw _ (List.mem_of_getElem? (i := 29) rfl))) (Via.of (hw _ (List.mem_of_getElem? (i := 30) rfl))) rfl P28_2 (g := (mkF m 75 #[.val (.long q1), .second, .val (.long q2), .second, .val (.long q3), .second, .val (.long q4), .second, .val (.long q5), .second, .val (.long q6), .second, .val (.ref b1), .val (.long ((q1 * (1000000 : Int64)) + (1000000000 : Int64))), .second] [(.ref b1)])) rfl rfl (hb hby at_75)
  have pre32 : ∀ t, Steps p.tables e below (T31.setTop (mkF m 78 #[.val (.long q1), .second, .val (.long q2), .second, .val (.long q3), .second, .val (.long q4), .second, .val (.long q5), .second, .val (.long q6), .second, .val (.ref b1), .val (.long ((q1 * (1000000 : Int64)) + (1000000000 : Int64))), .second] [(.long q1)])) t → Steps p.tables e below (s₁.setTop (entryFrame m #[(.long q1), (.long q2), (.long q3), (.long q4), (.long q5), (.long q6)] maxLocals)) t := fun t k => pre30 t (st31 _ k)
  have pre34 : ∀ t, Steps p.tables e below (T31.setTop (mkF m 85 #[.val (.long q1), .second, .val (.long q2), .second, .val (.long q3), .second, .val (.long q4), .second, .val (.long q5), .second, .val (.long q6), .second, .val (.ref b1), .val (.long ((q1 * (1000000 : Int64)) + (1000000000 : Int64))), .second] [(.ref b1)])) t → Steps p.tables e below (s₁.setTop (entryFrame m #[(.long q1), (.long q2), (.long q3), (.long q4), (.long q5), (.long q6)] maxLocals)) t := fun t k => pre32 t (by
    show Steps p.tables e below (T31.setTop (mkF m 78 #[.val (.long q1), .second, .val (.long q2), .second, .val (.long q3), .second, .val (.long q4), .second, .val (.long q5), .second, .val (.long q6), .second, .val (.ref b1), .val (.long ((q1 * (1000000 : Int64)) + (1000000000 : Int64))), .second] [(.long q1)])) t
    refine XT.lloadN X31.here hx rfl (hb hby at_78) rfl ?_
    show Steps p.tables e below (T31.setTop (mkF m 79 #[.val (.long q1), .second, .val (.long q2), .second, .val (.long q3), .second, .val (.long q4), .second, .val (.long q5), .second, .val (.long q6), .second, .val (.ref b1), .val (.long ((q1 * (1000000 : Int64)) + (1000000000 : Int64))), .second] [(.long q1), (.long q1)])) t
    refine XT.lcmp X31.here hx rfl (hb hby at_79) rfl ?_
    show Steps p.tables e below (T31.setTop (mkF m 80 #[.val (.long q1), .second, .val (.long q2), .second, .val (.long q3), .second, .val (.long q4), .second, .val (.long q5), .second, .val (.long q6), .second, .val (.ref b1), .val (.long ((q1 * (1000000 : Int64)) + (1000000000 : Int64))), .second] [(.int (XT.cmpL q1 q1))])) t
    refine XS.ifNo X31.here hx rfl (hb hby at_80) rfl (XT.ll_ne_f (show q1 = q1 from rfl)) ?_
    show Steps p.tables e below (T31.setTop (mkF m 83 #[.val (.long q1), .second, .val (.long q2), .second, .val (.long q3), .second, .val (.long q4), .second, .val (.long q5), .second, .val (.long q6), .second, .val (.ref b1), .val (.long ((q1 * (1000000 : Int64)) + (1000000000 : Int64))), .second] [])) t
    refine XS.aload X31.here hx rfl (hb hby at_83) rfl rfl ?_
    show Steps p.tables e below (T31.setTop (mkF m 85 #[.val (.long q1), .second, .val (.long q2), .second, .val (.long q3), .second, .val (.long q4), .second, .val (.long q5), .second, .val (.long q6), .second, .val (.ref b1), .val (.long ((q1 * (1000000 : Int64)) + (1000000000 : Int64))), .second] [(.ref b1)])) t
    exact k)
  obtain ⟨T35, X35, eh35, st35⟩ := getF X31 hx hZ hown (host := "") (Or.inl (hw _ (List.mem_of_getElem? (i := 31) rfl))) (Via.of (hw _ (List.mem_of_getElem? (i := 32) rfl))) eh31 P28_3 (g := (mkF m 85 #[.val (.long q1), .second, .val (.long q2), .second, .val (.long q3), .second, .val (.long q4), .second, .val (.long q5), .second, .val (.long q6), .second, .val (.ref b1), .val (.long ((q1 * (1000000 : Int64)) + (1000000000 : Int64))), .second] [(.ref b1)])) rfl rfl (hb hby at_85)
  have pre36 : ∀ t, Steps p.tables e below (T35.setTop (mkF m 88 #[.val (.long q1), .second, .val (.long q2), .second, .val (.long q3), .second, .val (.long q4), .second, .val (.long q5), .second, .val (.long q6), .second, .val (.ref b1), .val (.long ((q1 * (1000000 : Int64)) + (1000000000 : Int64))), .second] [(.long ((q1 + (1000 : Int64)) * (1000000 : Int64)))])) t → Steps p.tables e below (s₁.setTop (entryFrame m #[(.long q1), (.long q2), (.long q3), (.long q4), (.long q5), (.long q6)] maxLocals)) t := fun t k => pre34 t (st35 _ k)
  have pre38 : ∀ t, Steps p.tables e below (T35.setTop (mkF m 96 #[.val (.long q1), .second, .val (.long q2), .second, .val (.long q3), .second, .val (.long q4), .second, .val (.long q5), .second, .val (.long q6), .second, .val (.ref b1), .val (.long ((q1 * (1000000 : Int64)) + (1000000000 : Int64))), .second] [(.ref b1)])) t → Steps p.tables e below (s₁.setTop (entryFrame m #[(.long q1), (.long q2), (.long q3), (.long q4), (.long q5), (.long q6)] maxLocals)) t := fun t k => pre36 t (by
    show Steps p.tables e below (T35.setTop (mkF m 88 #[.val (.long q1), .second, .val (.long q2), .second, .val (.long q3), .second, .val (.long q4), .second, .val (.long q5), .second, .val (.long q6), .second, .val (.ref b1), .val (.long ((q1 * (1000000 : Int64)) + (1000000000 : Int64))), .second] [(.long ((q1 + (1000 : Int64)) * (1000000 : Int64)))])) t
    refine XT.lload X35.here hx rfl (hb hby at_88) rfl ?_
    show Steps p.tables e below (T35.setTop (mkF m 90 #[.val (.long q1), .second, .val (.long q2), .second, .val (.long q3), .second, .val (.long q4), .second, .val (.long q5), .second, .val (.long q6), .second, .val (.ref b1), .val (.long ((q1 * (1000000 : Int64)) + (1000000000 : Int64))), .second] [(.long ((q1 * (1000000 : Int64)) + (1000000000 : Int64))), (.long ((q1 + (1000 : Int64)) * (1000000 : Int64)))])) t
    refine XT.lcmp X35.here hx rfl (hb hby at_90) rfl ?_
    show Steps p.tables e below (T35.setTop (mkF m 91 #[.val (.long q1), .second, .val (.long q2), .second, .val (.long q3), .second, .val (.long q4), .second, .val (.long q5), .second, .val (.long q6), .second, .val (.ref b1), .val (.long ((q1 * (1000000 : Int64)) + (1000000000 : Int64))), .second] [(.int (XT.cmpL ((q1 + (1000 : Int64)) * (1000000 : Int64)) ((q1 * (1000000 : Int64)) + (1000000000 : Int64))))])) t
    refine XS.ifNo X35.here hx rfl (hb hby at_91) rfl (XT.ll_ne_f (show ((q1 + (1000 : Int64)) * (1000000 : Int64)) = ((q1 * (1000000 : Int64)) + (1000000000 : Int64)) from own_end _)) ?_
    show Steps p.tables e below (T35.setTop (mkF m 94 #[.val (.long q1), .second, .val (.long q2), .second, .val (.long q3), .second, .val (.long q4), .second, .val (.long q5), .second, .val (.long q6), .second, .val (.ref b1), .val (.long ((q1 * (1000000 : Int64)) + (1000000000 : Int64))), .second] [])) t
    refine XS.aload X35.here hx rfl (hb hby at_94) rfl rfl ?_
    show Steps p.tables e below (T35.setTop (mkF m 96 #[.val (.long q1), .second, .val (.long q2), .second, .val (.long q3), .second, .val (.long q4), .second, .val (.long q5), .second, .val (.long q6), .second, .val (.ref b1), .val (.long ((q1 * (1000000 : Int64)) + (1000000000 : Int64))), .second] [(.ref b1)])) t
    exact k)
  obtain ⟨T39, X39, eh39, st39⟩ := getF X35 hx hZ hown (host := "") (Or.inl (hw _ (List.mem_of_getElem? (i := 33) rfl))) (Via.of (hw _ (List.mem_of_getElem? (i := 34) rfl))) eh35 P28_4 (g := (mkF m 96 #[.val (.long q1), .second, .val (.long q2), .second, .val (.long q3), .second, .val (.long q4), .second, .val (.long q5), .second, .val (.long q6), .second, .val (.ref b1), .val (.long ((q1 * (1000000 : Int64)) + (1000000000 : Int64))), .second] [(.ref b1)])) rfl rfl (hb hby at_96)
  have pre40 : ∀ t, Steps p.tables e below (T39.setTop (mkF m 99 #[.val (.long q1), .second, .val (.long q2), .second, .val (.long q3), .second, .val (.long q4), .second, .val (.long q5), .second, .val (.long q6), .second, .val (.ref b1), .val (.long ((q1 * (1000000 : Int64)) + (1000000000 : Int64))), .second] [(.long (0 : Int64))])) t → Steps p.tables e below (s₁.setTop (entryFrame m #[(.long q1), (.long q2), (.long q3), (.long q4), (.long q5), (.long q6)] maxLocals)) t := fun t k => pre38 t (st39 _ k)
  have pre42 : ∀ t, Steps p.tables e below (T39.setTop (mkF m 106 #[.val (.long q1), .second, .val (.long q2), .second, .val (.long q3), .second, .val (.long q4), .second, .val (.long q5), .second, .val (.long q6), .second, .val (.ref b1), .val (.long ((q1 * (1000000 : Int64)) + (1000000000 : Int64))), .second] [(.ref b1)])) t → Steps p.tables e below (s₁.setTop (entryFrame m #[(.long q1), (.long q2), (.long q3), (.long q4), (.long q5), (.long q6)] maxLocals)) t := fun t k => pre40 t (by
    show Steps p.tables e below (T39.setTop (mkF m 99 #[.val (.long q1), .second, .val (.long q2), .second, .val (.long q3), .second, .val (.long q4), .second, .val (.long q5), .second, .val (.long q6), .second, .val (.ref b1), .val (.long ((q1 * (1000000 : Int64)) + (1000000000 : Int64))), .second] [(.long (0 : Int64))])) t
    refine XT.lconstV X39.here hx rfl (0 : Int64) (hb hby at_99) (by decide) ?_
    show Steps p.tables e below (T39.setTop (mkF m 100 #[.val (.long q1), .second, .val (.long q2), .second, .val (.long q3), .second, .val (.long q4), .second, .val (.long q5), .second, .val (.long q6), .second, .val (.ref b1), .val (.long ((q1 * (1000000 : Int64)) + (1000000000 : Int64))), .second] [(.long (0 : Int64)), (.long (0 : Int64))])) t
    refine XT.lcmp X39.here hx rfl (hb hby at_100) rfl ?_
    show Steps p.tables e below (T39.setTop (mkF m 101 #[.val (.long q1), .second, .val (.long q2), .second, .val (.long q3), .second, .val (.long q4), .second, .val (.long q5), .second, .val (.long q6), .second, .val (.ref b1), .val (.long ((q1 * (1000000 : Int64)) + (1000000000 : Int64))), .second] [(.int (XT.cmpL (0 : Int64) (0 : Int64)))])) t
    refine XS.ifNo X39.here hx rfl (hb hby at_101) rfl (XT.ll_ne_f (show (0 : Int64) = (0 : Int64) from rfl)) ?_
    show Steps p.tables e below (T39.setTop (mkF m 104 #[.val (.long q1), .second, .val (.long q2), .second, .val (.long q3), .second, .val (.long q4), .second, .val (.long q5), .second, .val (.long q6), .second, .val (.ref b1), .val (.long ((q1 * (1000000 : Int64)) + (1000000000 : Int64))), .second] [])) t
    refine XS.aload X39.here hx rfl (hb hby at_104) rfl rfl ?_
    show Steps p.tables e below (T39.setTop (mkF m 106 #[.val (.long q1), .second, .val (.long q2), .second, .val (.long q3), .second, .val (.long q4), .second, .val (.long q5), .second, .val (.long q6), .second, .val (.ref b1), .val (.long ((q1 * (1000000 : Int64)) + (1000000000 : Int64))), .second] [(.ref b1)])) t
    exact k)
  obtain ⟨T43, X43, eh43, st43⟩ := getF X39 hx hZ hown (host := "") (Or.inl (hw _ (List.mem_of_getElem? (i := 36) rfl))) (Via.of (hw _ (List.mem_of_getElem? (i := 37) rfl))) eh39 P28_5 (g := (mkF m 106 #[.val (.long q1), .second, .val (.long q2), .second, .val (.long q3), .second, .val (.long q4), .second, .val (.long q5), .second, .val (.long q6), .second, .val (.ref b1), .val (.long ((q1 * (1000000 : Int64)) + (1000000000 : Int64))), .second] [(.ref b1)])) rfl rfl (hb hby at_106)
  have pre44 : ∀ t, Steps p.tables e below (T43.setTop (mkF m 109 #[.val (.long q1), .second, .val (.long q2), .second, .val (.long q3), .second, .val (.long q4), .second, .val (.long q5), .second, .val (.long q6), .second, .val (.ref b1), .val (.long ((q1 * (1000000 : Int64)) + (1000000000 : Int64))), .second] [(.long (0 : Int64))])) t → Steps p.tables e below (s₁.setTop (entryFrame m #[(.long q1), (.long q2), (.long q3), (.long q4), (.long q5), (.long q6)] maxLocals)) t := fun t k => pre42 t (st43 _ k)
  have pre46 : ∀ t, Steps p.tables e below (T43.setTop (mkF m 116 #[.val (.long q1), .second, .val (.long q2), .second, .val (.long q3), .second, .val (.long q4), .second, .val (.long q5), .second, .val (.long q6), .second, .val (.ref b1), .val (.long ((q1 * (1000000 : Int64)) + (1000000000 : Int64))), .second] [(.ref b1)])) t → Steps p.tables e below (s₁.setTop (entryFrame m #[(.long q1), (.long q2), (.long q3), (.long q4), (.long q5), (.long q6)] maxLocals)) t := fun t k => pre44 t (by
    show Steps p.tables e below (T43.setTop (mkF m 109 #[.val (.long q1), .second, .val (.long q2), .second, .val (.long q3), .second, .val (.long q4), .second, .val (.long q5), .second, .val (.long q6), .second, .val (.ref b1), .val (.long ((q1 * (1000000 : Int64)) + (1000000000 : Int64))), .second] [(.long (0 : Int64))])) t
    refine XT.lconstV X43.here hx rfl (0 : Int64) (hb hby at_109) (by decide) ?_
    show Steps p.tables e below (T43.setTop (mkF m 110 #[.val (.long q1), .second, .val (.long q2), .second, .val (.long q3), .second, .val (.long q4), .second, .val (.long q5), .second, .val (.long q6), .second, .val (.ref b1), .val (.long ((q1 * (1000000 : Int64)) + (1000000000 : Int64))), .second] [(.long (0 : Int64)), (.long (0 : Int64))])) t
    refine XT.lcmp X43.here hx rfl (hb hby at_110) rfl ?_
    show Steps p.tables e below (T43.setTop (mkF m 111 #[.val (.long q1), .second, .val (.long q2), .second, .val (.long q3), .second, .val (.long q4), .second, .val (.long q5), .second, .val (.long q6), .second, .val (.ref b1), .val (.long ((q1 * (1000000 : Int64)) + (1000000000 : Int64))), .second] [(.int (XT.cmpL (0 : Int64) (0 : Int64)))])) t
    refine XS.ifNo X43.here hx rfl (hb hby at_111) rfl (XT.ll_ne_f (show (0 : Int64) = (0 : Int64) from rfl)) ?_
    show Steps p.tables e below (T43.setTop (mkF m 114 #[.val (.long q1), .second, .val (.long q2), .second, .val (.long q3), .second, .val (.long q4), .second, .val (.long q5), .second, .val (.long q6), .second, .val (.ref b1), .val (.long ((q1 * (1000000 : Int64)) + (1000000000 : Int64))), .second] [])) t
    refine XS.aload X43.here hx rfl (hb hby at_114) rfl rfl ?_
    show Steps p.tables e below (T43.setTop (mkF m 116 #[.val (.long q1), .second, .val (.long q2), .second, .val (.long q3), .second, .val (.long q4), .second, .val (.long q5), .second, .val (.long q6), .second, .val (.ref b1), .val (.long ((q1 * (1000000 : Int64)) + (1000000000 : Int64))), .second] [(.ref b1)])) t
    exact k)
  obtain ⟨T47, X47, eh47, st47⟩ := getF X43 hx hZ hown (host := "") (Or.inl (hw _ (List.mem_of_getElem? (i := 39) rfl))) (Via.of (hw _ (List.mem_of_getElem? (i := 40) rfl))) eh43 P28_6 (g := (mkF m 116 #[.val (.long q1), .second, .val (.long q2), .second, .val (.long q3), .second, .val (.long q4), .second, .val (.long q5), .second, .val (.long q6), .second, .val (.ref b1), .val (.long ((q1 * (1000000 : Int64)) + (1000000000 : Int64))), .second] [(.ref b1)])) rfl rfl (hb hby at_116)
  have pre48 : ∀ t, Steps p.tables e below (T47.setTop (mkF m 119 #[.val (.long q1), .second, .val (.long q2), .second, .val (.long q3), .second, .val (.long q4), .second, .val (.long q5), .second, .val (.long q6), .second, .val (.ref b1), .val (.long ((q1 * (1000000 : Int64)) + (1000000000 : Int64))), .second] [(.long (0 : Int64))])) t → Steps p.tables e below (s₁.setTop (entryFrame m #[(.long q1), (.long q2), (.long q3), (.long q4), (.long q5), (.long q6)] maxLocals)) t := fun t k => pre46 t (st47 _ k)
  have pre50 : ∀ t, Steps p.tables e below (T47.setTop (mkF m 126 #[.val (.long q1), .second, .val (.long q2), .second, .val (.long q3), .second, .val (.long q4), .second, .val (.long q5), .second, .val (.long q6), .second, .val (.ref b1), .val (.long ((q1 * (1000000 : Int64)) + (1000000000 : Int64))), .second] [(.ref b1)])) t → Steps p.tables e below (s₁.setTop (entryFrame m #[(.long q1), (.long q2), (.long q3), (.long q4), (.long q5), (.long q6)] maxLocals)) t := fun t k => pre48 t (by
    show Steps p.tables e below (T47.setTop (mkF m 119 #[.val (.long q1), .second, .val (.long q2), .second, .val (.long q3), .second, .val (.long q4), .second, .val (.long q5), .second, .val (.long q6), .second, .val (.ref b1), .val (.long ((q1 * (1000000 : Int64)) + (1000000000 : Int64))), .second] [(.long (0 : Int64))])) t
    refine XT.lconstV X47.here hx rfl (0 : Int64) (hb hby at_119) (by decide) ?_
    show Steps p.tables e below (T47.setTop (mkF m 120 #[.val (.long q1), .second, .val (.long q2), .second, .val (.long q3), .second, .val (.long q4), .second, .val (.long q5), .second, .val (.long q6), .second, .val (.ref b1), .val (.long ((q1 * (1000000 : Int64)) + (1000000000 : Int64))), .second] [(.long (0 : Int64)), (.long (0 : Int64))])) t
    refine XT.lcmp X47.here hx rfl (hb hby at_120) rfl ?_
    show Steps p.tables e below (T47.setTop (mkF m 121 #[.val (.long q1), .second, .val (.long q2), .second, .val (.long q3), .second, .val (.long q4), .second, .val (.long q5), .second, .val (.long q6), .second, .val (.ref b1), .val (.long ((q1 * (1000000 : Int64)) + (1000000000 : Int64))), .second] [(.int (XT.cmpL (0 : Int64) (0 : Int64)))])) t
    refine XS.ifNo X47.here hx rfl (hb hby at_121) rfl (XT.ll_ne_f (show (0 : Int64) = (0 : Int64) from rfl)) ?_
    show Steps p.tables e below (T47.setTop (mkF m 124 #[.val (.long q1), .second, .val (.long q2), .second, .val (.long q3), .second, .val (.long q4), .second, .val (.long q5), .second, .val (.long q6), .second, .val (.ref b1), .val (.long ((q1 * (1000000 : Int64)) + (1000000000 : Int64))), .second] [])) t
    refine XS.aload X47.here hx rfl (hb hby at_124) rfl rfl ?_
    show Steps p.tables e below (T47.setTop (mkF m 126 #[.val (.long q1), .second, .val (.long q2), .second, .val (.long q3), .second, .val (.long q4), .second, .val (.long q5), .second, .val (.long q6), .second, .val (.ref b1), .val (.long ((q1 * (1000000 : Int64)) + (1000000000 : Int64))), .second] [(.ref b1)])) t
    exact k)
  obtain ⟨T51, X51, eh51, st51⟩ := getF X47 hx hZ hown (host := "") (Or.inl (hw _ (List.mem_of_getElem? (i := 42) rfl))) (Via.of (hw _ (List.mem_of_getElem? (i := 43) rfl))) eh47 P28_7 (g := (mkF m 126 #[.val (.long q1), .second, .val (.long q2), .second, .val (.long q3), .second, .val (.long q4), .second, .val (.long q5), .second, .val (.long q6), .second, .val (.ref b1), .val (.long ((q1 * (1000000 : Int64)) + (1000000000 : Int64))), .second] [(.ref b1)])) rfl rfl (hb hby at_126)
  have pre52 : ∀ t, Steps p.tables e below (T51.setTop (mkF m 129 #[.val (.long q1), .second, .val (.long q2), .second, .val (.long q3), .second, .val (.long q4), .second, .val (.long q5), .second, .val (.long q6), .second, .val (.ref b1), .val (.long ((q1 * (1000000 : Int64)) + (1000000000 : Int64))), .second] [(.long (0 : Int64))])) t → Steps p.tables e below (s₁.setTop (entryFrame m #[(.long q1), (.long q2), (.long q3), (.long q4), (.long q5), (.long q6)] maxLocals)) t := fun t k => pre50 t (st51 _ k)
  have pre54 : ∀ t, Steps p.tables e below (T51.setTop (mkF m 136 #[.val (.long q1), .second, .val (.long q2), .second, .val (.long q3), .second, .val (.long q4), .second, .val (.long q5), .second, .val (.long q6), .second, .val (.ref b1), .val (.long ((q1 * (1000000 : Int64)) + (1000000000 : Int64))), .second] [(.ref b1)])) t → Steps p.tables e below (s₁.setTop (entryFrame m #[(.long q1), (.long q2), (.long q3), (.long q4), (.long q5), (.long q6)] maxLocals)) t := fun t k => pre52 t (by
    show Steps p.tables e below (T51.setTop (mkF m 129 #[.val (.long q1), .second, .val (.long q2), .second, .val (.long q3), .second, .val (.long q4), .second, .val (.long q5), .second, .val (.long q6), .second, .val (.ref b1), .val (.long ((q1 * (1000000 : Int64)) + (1000000000 : Int64))), .second] [(.long (0 : Int64))])) t
    refine XT.lconstV X51.here hx rfl (0 : Int64) (hb hby at_129) (by decide) ?_
    show Steps p.tables e below (T51.setTop (mkF m 130 #[.val (.long q1), .second, .val (.long q2), .second, .val (.long q3), .second, .val (.long q4), .second, .val (.long q5), .second, .val (.long q6), .second, .val (.ref b1), .val (.long ((q1 * (1000000 : Int64)) + (1000000000 : Int64))), .second] [(.long (0 : Int64)), (.long (0 : Int64))])) t
    refine XT.lcmp X51.here hx rfl (hb hby at_130) rfl ?_
    show Steps p.tables e below (T51.setTop (mkF m 131 #[.val (.long q1), .second, .val (.long q2), .second, .val (.long q3), .second, .val (.long q4), .second, .val (.long q5), .second, .val (.long q6), .second, .val (.ref b1), .val (.long ((q1 * (1000000 : Int64)) + (1000000000 : Int64))), .second] [(.int (XT.cmpL (0 : Int64) (0 : Int64)))])) t
    refine XS.ifNo X51.here hx rfl (hb hby at_131) rfl (XT.ll_ne_f (show (0 : Int64) = (0 : Int64) from rfl)) ?_
    show Steps p.tables e below (T51.setTop (mkF m 134 #[.val (.long q1), .second, .val (.long q2), .second, .val (.long q3), .second, .val (.long q4), .second, .val (.long q5), .second, .val (.long q6), .second, .val (.ref b1), .val (.long ((q1 * (1000000 : Int64)) + (1000000000 : Int64))), .second] [])) t
    refine XS.aload X51.here hx rfl (hb hby at_134) rfl rfl ?_
    show Steps p.tables e below (T51.setTop (mkF m 136 #[.val (.long q1), .second, .val (.long q2), .second, .val (.long q3), .second, .val (.long q4), .second, .val (.long q5), .second, .val (.long q6), .second, .val (.ref b1), .val (.long ((q1 * (1000000 : Int64)) + (1000000000 : Int64))), .second] [(.ref b1)])) t
    exact k)
  obtain ⟨T55, X55, eh55, st55⟩ := getF X51 hx hZ hown (host := "") (Or.inl (hw _ (List.mem_of_getElem? (i := 45) rfl))) (Via.of (hw _ (List.mem_of_getElem? (i := 46) rfl))) eh51 P28_8 (g := (mkF m 136 #[.val (.long q1), .second, .val (.long q2), .second, .val (.long q3), .second, .val (.long q4), .second, .val (.long q5), .second, .val (.long q6), .second, .val (.ref b1), .val (.long ((q1 * (1000000 : Int64)) + (1000000000 : Int64))), .second] [(.ref b1)])) rfl rfl (hb hby at_136)
  have pre56 : ∀ t, Steps p.tables e below (T55.setTop (mkF m 139 #[.val (.long q1), .second, .val (.long q2), .second, .val (.long q3), .second, .val (.long q4), .second, .val (.long q5), .second, .val (.long q6), .second, .val (.ref b1), .val (.long ((q1 * (1000000 : Int64)) + (1000000000 : Int64))), .second] [(.long (9223372036854775807 : Int64))])) t → Steps p.tables e below (s₁.setTop (entryFrame m #[(.long q1), (.long q2), (.long q3), (.long q4), (.long q5), (.long q6)] maxLocals)) t := fun t k => pre54 t (st55 _ k)
  have pre58 : ∀ t, Steps p.tables e below (T55.setTop (mkF m 151 #[.val (.long q1), .second, .val (.long q2), .second, .val (.long q3), .second, .val (.long q4), .second, .val (.long q5), .second, .val (.long q6), .second, .val (.ref b1), .val (.long ((q1 * (1000000 : Int64)) + (1000000000 : Int64))), .second] [(.int (1 : Int32))])) t → Steps p.tables e below (s₁.setTop (entryFrame m #[(.long q1), (.long q2), (.long q3), (.long q4), (.long q5), (.long q6)] maxLocals)) t := fun t k => pre56 t (by
    show Steps p.tables e below (T55.setTop (mkF m 139 #[.val (.long q1), .second, .val (.long q2), .second, .val (.long q3), .second, .val (.long q4), .second, .val (.long q5), .second, .val (.long q6), .second, .val (.ref b1), .val (.long ((q1 * (1000000 : Int64)) + (1000000000 : Int64))), .second] [(.long (9223372036854775807 : Int64))])) t
    refine X55.ldc2Long hx hown (mvT hZ (hw _ (List.mem_of_getElem? (i := 64) rfl))) (g := (mkF m 139 #[.val (.long q1), .second, .val (.long q2), .second, .val (.long q3), .second, .val (.long q4), .second, .val (.long q5), .second, .val (.long q6), .second, .val (.ref b1), .val (.long ((q1 * (1000000 : Int64)) + (1000000000 : Int64))), .second] [(.long (9223372036854775807 : Int64))])) rfl (hb hby at_139) _ ?_
    show Steps p.tables e below (T55.setTop (mkF m 142 #[.val (.long q1), .second, .val (.long q2), .second, .val (.long q3), .second, .val (.long q4), .second, .val (.long q5), .second, .val (.long q6), .second, .val (.ref b1), .val (.long ((q1 * (1000000 : Int64)) + (1000000000 : Int64))), .second] [(.long (9223372036854775807 : Int64)), (.long (9223372036854775807 : Int64))])) t
    refine XT.lcmp X55.here hx rfl (hb hby at_142) rfl ?_
    show Steps p.tables e below (T55.setTop (mkF m 143 #[.val (.long q1), .second, .val (.long q2), .second, .val (.long q3), .second, .val (.long q4), .second, .val (.long q5), .second, .val (.long q6), .second, .val (.ref b1), .val (.long ((q1 * (1000000 : Int64)) + (1000000000 : Int64))), .second] [(.int (XT.cmpL (9223372036854775807 : Int64) (9223372036854775807 : Int64)))])) t
    refine XS.ifNo X55.here hx rfl (hb hby at_143) rfl (XT.ll_ne_f (show (9223372036854775807 : Int64) = (9223372036854775807 : Int64) from rfl)) ?_
    show Steps p.tables e below (T55.setTop (mkF m 146 #[.val (.long q1), .second, .val (.long q2), .second, .val (.long q3), .second, .val (.long q4), .second, .val (.long q5), .second, .val (.long q6), .second, .val (.ref b1), .val (.long ((q1 * (1000000 : Int64)) + (1000000000 : Int64))), .second] [])) t
    refine XS.iconst X55.here hx rfl (hb hby at_146) ?_
    show Steps p.tables e below (T55.setTop (mkF m 147 #[.val (.long q1), .second, .val (.long q2), .second, .val (.long q3), .second, .val (.long q4), .second, .val (.long q5), .second, .val (.long q6), .second, .val (.ref b1), .val (.long ((q1 * (1000000 : Int64)) + (1000000000 : Int64))), .second] [(.int (1 : Int32))])) t
    refine XS.goto X55.here hx rfl (pc0 := 147) (pc' := 151) rfl (hb hby at_147) (by decide) (by decide) ?_
    show Steps p.tables e below (T55.setTop (mkF m 151 #[.val (.long q1), .second, .val (.long q2), .second, .val (.long q3), .second, .val (.long q4), .second, .val (.long q5), .second, .val (.long q6), .second, .val (.ref b1), .val (.long ((q1 * (1000000 : Int64)) + (1000000000 : Int64))), .second] [(.int (1 : Int32))])) t
    exact k)
  obtain ⟨fs, hr, hrun, hended, hW, hsame⟩ := X55.leave (v := some (.int (1 : Int32))) (fun h => by rw [Bd.returns] at h; cases h)
  refine ⟨_, _, pre58 _ ?_, hrun, hended, _, _, rfl, ?_, ⟨_, rfl⟩, hW, hsame.mono (by decide) (by decide)⟩
  · show Steps p.tables e below (T55.setTop (mkF m 151 #[.val (.long q1), .second, .val (.long q2), .second, .val (.long q3), .second, .val (.long q4), .second, .val (.long q5), .second, .val (.long q6), .second, .val (.ref b1), .val (.long ((q1 * (1000000 : Int64)) + (1000000000 : Int64))), .second] [(.int (1 : Int32))])) _
    exact retN X55 hx (t := .boolean) Bd.returns (by simp) (hb hby at_151) hr
  · show Q0 Z q1 q2 q3 q4 q5 q6 h0 n0 _ T55.heap _
    rw [eh55]
    exact ⟨rfl, N28⟩
set_option maxRecDepth 65536 in
set_option maxHeartbeats 40000000 in
theorem comes_1 {Post : Tables → Env → Array Value → State → Outcome → State → Prop} (hpost : ∀ tb e args s v u, (limb_1_1.after args s (.returned v) u = true ∧ limb_1_2.after args s (.returned v) u = true ∧ True) → FrameEnd s (.returned v) u (Jvm.fieldLocs frame_1_writes args s ++ Jvm.arrayLocs frame_1_arrays args s ++ Jvm.staticLocs frame_1_statics s) 16 128 → Post tb e args s (.returned v) u) :
    ArmFor flags0 classFile x code maxLocals ret World_1 tables_1 room_1 Calls_1 rest_1 Pre_1 Post := by
  intro l hfl _ _ p e ha hc hk s m args below hf hA hF happ hP
  obtain ⟨hcalls, hrest, hpre⟩ := hP
  obtain ⟨-, -, -, hnamed, -, -, -, hat⟩ := (Spec.applies_iff hf).mp happ
  obtain ⟨hg, hn⟩ := and_e (Cond.before_iff.mp (show (Jvm.Cond.and given_1 narrow_1).before args s = true from hpre))
  obtain ⟨ga0, gb0⟩ := and_e hg
  obtain ⟨ga1, gb1⟩ := and_e gb0
  obtain ⟨ga2, gb2⟩ := and_e gb1
  obtain ⟨ga3, gb3⟩ := and_e gb2
  obtain ⟨ga4, gb4⟩ := and_e gb3
  obtain ⟨ga5, gb5⟩ := and_e gb4
  obtain ⟨w0, w1, w2, w3, w4, w5, rfl⟩ : ∃ w0 w1 w2 w3 w4 w5 : Value, args = #[w0, w1, w2, w3, w4, w5] := by
    have hs : args.size = 6 := by simpa [Cond.value, given_1] using ga0
    obtain ⟨L⟩ := args
    match L, hs with
    | [w0, w1, w2, w3, w4, w5], _ => exact ⟨w0, w1, w2, w3, w4, w5, rfl⟩
  have hw := fun d (hd : d ∈ tables_1) => atoms_spec (ws := Jvm.Cond.code x code maxLocals ret :: tables_1) hat d (List.mem_cons_of_mem _ hd)
  obtain ⟨i0, ei0⟩ := isL_v ga1
  obtain rfl : w0 = (.long i0) := Option.some.inj ei0
  obtain ⟨i1, ei1⟩ := isL_v ga2
  obtain rfl : w1 = (.long i1) := Option.some.inj ei1
  obtain ⟨i2, ei2⟩ := isL_v ga3
  obtain rfl : w2 = (.long i2) := Option.some.inj ei2
  obtain ⟨i3, ei3⟩ := isL_v ga4
  obtain rfl : w3 = (.long i3) := Option.some.inj ei3
  obtain ⟨i4, ei4⟩ := isL_v ga5
  obtain rfl : w4 = (.long i4) := Option.some.inj ei4
  obtain ⟨i5, ei5⟩ := isL_v gb5
  obtain rfl : w5 = (.long i5) := Option.some.inj ei5
  obtain ⟨n, o, h1, h2, h3, _, L, rfl, ⟨rfl, N⟩, hq⟩ := rm0 l s _ hw tables_1 i0 i1 i2 i3 i4 i5 s.heap s.heap.size (Nat.le_refl _) p e ha hc hk s m _ below hf ((Spec.applies_iff_loose hf).mp happ).1 ⟨rfl, State.Warmed39.refl s, rfl⟩ trivial
  refine ⟨n, _, h1, h2, h3, hpost _ _ _ _ _ _ ⟨Cond.after_iff.mpr rfl, Cond.after_iff.mpr (eq_i res_at (Term.int_eval (1)) rfl), trivial⟩ ⟨hq.1, hq.2.1, (hq.2.2.sift fun y hy => Or.inr (N y hy)).mono (by decide) (by decide)⟩⟩
theorem main_1_1 : Claimed_1_1 := comes_1 fun _ _ _ _ _ _ h hF => ⟨h.1, hF⟩
theorem main_1_2 : Claimed_1_2 := comes_1 fun _ _ _ _ _ _ h hF => ⟨h.2.1, hF⟩
end Jvm.Pilot.@@N@@
namespace Jvm.Pilot.@@N@@
open Jvm Jvm.ClassFile Sem Op Lib Jvm.Free Jvm.Stand Jvm.Pilot.@@N@@.Jvm.D
/-! MADE BY PROGRAM (witnessworld.py) out of the Statement's table words and the real class files: 11 classes; the members and pool entries that the words name. The judged class is class 4, her method 1. -/
namespace start1
open Jvm.ClassFile
def u (s : String) : CpInfo := .utf8 (stringToUtf16 s)
/-- a pool by its gaps: so many unusable entries, then the entry; so many at the end -/
def gap : Nat → List CpInfo → List CpInfo
  | 0, r => r
  | n + 1, r => .unusable :: gap n r
def poolList (es : List (Nat × CpInfo)) (last : Nat) : List CpInfo := es.foldr (fun e r => gap e.1 (e.2 :: r)) (gap last [])
def pool (es : List (Nat × CpInfo)) (last : Nat) : Array CpInfo := ⟨poolList es last⟩
def fileOf (pool : Array CpInfo) (this : Nat) (attrs : Array Attribute := #[]) (ms : Array MethodInfo := #[]) (fl : Nat := 33) (sup : Nat := 0) (ifs : Array Nat := #[]) (fds : Array FieldInfo := #[]) : ClassFile where
  minorVersion := 0
  majorVersion := 65
  constantPool := pool
  accessFlags := fl
  thisClass := this
  superClass := sup
  interfaces := ifs
  fields := fds
  methods := ms
  attributes := attrs
def plain (name : String) (sup : Option ClassId) : Class where
  name := name
  kind := .ordinary
  loader := none
  accessFlags := 33
  super := sup
  interfaces := #[]
  cf := none
  fields := #[]
  methods := #[]
  instanceTypes := #[]
  staticTypes := #[]
  resolved := #[]
  callSites := []
  init := .initialized
  statics := none
  mirror := none

def pool0 : Array CpInfo := pool [(5, u "<init>"), (0, u "()V"), (1, .class_ 10), (1, u "java/lang/Object")] 113

def k0c0 : Code := { maxStack := 0, maxLocals := 1, code := object_method_1_code, exceptionTable := #[], attributes := #[] }
def k0m0 : Method := { name := "<init>", desc := "()V", sig := { parameters := [], returnType := none }, accessFlags := 1, code := some k0c0 }
/-- java/lang/Object -/
def k0 : Class := { plain "java/lang/Object" none with
  accessFlags := 33
  interfaces := #[]
  cf := some (fileOf pool0 8 #[] #[{ accessFlags := 1, nameIndex := 5, descriptorIndex := 6, attributes := #[] }] 33 0 #[] #[])
  fields := #[]
  methods := #[k0m0]
  instanceTypes := #[]
  staticTypes := #[]
  resolved := Array.replicate 124 none
  statics := none }

def pool1 : Array CpInfo := pool [(1, .methodref 2 3), (0, .class_ 4), (0, .nameAndType 5 6), (0, u "java/lang/Object"), (0, u "<init>"), (0, u "()V"), (0, .class_ 8), (0, u "com/example/obturo/obturo/stats/internal/LeadingPadding"), (0, u "p01"), (0, u "J"), (0, u "p02"), (0, u "p03"), (0, u "p04"), (0, u "p05"), (0, u "p06"), (0, u "p07"), (0, u "p08")] 4

def k1c0 : Code := { maxStack := 1, maxLocals := 1, code := prog_75_method_1_code, exceptionTable := #[], attributes := #[] }
def k1m0 : Method := { name := "<init>", desc := "()V", sig := { parameters := [], returnType := none }, accessFlags := 0, code := some k1c0 }
/-- com/example/obturo/obturo/stats/internal/LeadingPadding -/
def k1 : Class := { plain "com/example/obturo/obturo/stats/internal/LeadingPadding" (some 0) with
  accessFlags := 1056
  interfaces := #[]
  cf := some (fileOf pool1 7 #[] #[{ accessFlags := 0, nameIndex := 5, descriptorIndex := 6, attributes := #[] }] 1056 2 #[] #[{ accessFlags := 0, nameIndex := 9, descriptorIndex := 10, attributes := #[] }, { accessFlags := 0, nameIndex := 11, descriptorIndex := 10, attributes := #[] }, { accessFlags := 0, nameIndex := 12, descriptorIndex := 10, attributes := #[] }, { accessFlags := 0, nameIndex := 13, descriptorIndex := 10, attributes := #[] }, { accessFlags := 0, nameIndex := 14, descriptorIndex := 10, attributes := #[] }, { accessFlags := 0, nameIndex := 15, descriptorIndex := 10, attributes := #[] }, { accessFlags := 0, nameIndex := 16, descriptorIndex := 10, attributes := #[] }, { accessFlags := 0, nameIndex := 17, descriptorIndex := 10, attributes := #[] }])
  fields := #[{ name := "p01", type := .long, accessFlags := 0, slot := 0, constantValue := 0 }, { name := "p02", type := .long, accessFlags := 0, slot := 1, constantValue := 0 }, { name := "p03", type := .long, accessFlags := 0, slot := 2, constantValue := 0 }, { name := "p04", type := .long, accessFlags := 0, slot := 3, constantValue := 0 }, { name := "p05", type := .long, accessFlags := 0, slot := 4, constantValue := 0 }, { name := "p06", type := .long, accessFlags := 0, slot := 5, constantValue := 0 }, { name := "p07", type := .long, accessFlags := 0, slot := 6, constantValue := 0 }, { name := "p08", type := .long, accessFlags := 0, slot := 7, constantValue := 0 }]
  methods := #[k1m0]
  instanceTypes := #[.long, .long, .long, .long, .long, .long, .long, .long]
  staticTypes := #[]
  resolved := Array.replicate 22 none
  statics := none }

def pool2 : Array CpInfo := pool [(1, .methodref 2 3), (0, .class_ 4), (0, .nameAndType 5 6), (0, u "com/example/obturo/obturo/stats/internal/LeadingPadding"), (0, u "<init>"), (0, u "()V"), (1, .class_ 10), (1, u "com/example/obturo/obturo/stats/internal/SpinLock"), (0, u "held"), (0, u "J"), (2, u "HELD"), (0, u "Ljava/lang/invoke/VarHandle;")] 53

def k2c0 : Code := { maxStack := 1, maxLocals := 1, code := prog_83_method_1_code, exceptionTable := #[], attributes := #[] }
def k2m0 : Method := { name := "<init>", desc := "()V", sig := { parameters := [], returnType := none }, accessFlags := 0, code := some k2c0 }
/-- com/example/obturo/obturo/stats/internal/SpinLock -/
def k2 : Class := { plain "com/example/obturo/obturo/stats/internal/SpinLock" (some 1) with
  accessFlags := 1056
  interfaces := #[]
  cf := some (fileOf pool2 8 #[] #[{ accessFlags := 0, nameIndex := 5, descriptorIndex := 6, attributes := #[] }] 1056 2 #[] #[{ accessFlags := 24, nameIndex := 15, descriptorIndex := 16, attributes := #[] }, { accessFlags := 64, nameIndex := 11, descriptorIndex := 12, attributes := #[] }])
  fields := #[{ name := "HELD", type := (.object "java/lang/invoke/VarHandle"), accessFlags := 24, slot := 0, constantValue := 0 }, { name := "held", type := .long, accessFlags := 64, slot := 8, constantValue := 0 }]
  methods := #[k2m0]
  instanceTypes := #[.long, .long, .long, .long, .long, .long, .long, .long, .long]
  staticTypes := #[(.object "java/lang/invoke/VarHandle")]
  resolved := Array.replicate 70 none
  statics := none }

def pool3 : Array CpInfo := pool [(3, .methodref 4 5), (0, .class_ 6), (0, .nameAndType 7 8), (0, u "com/example/obturo/obturo/stats/internal/SpinLock"), (0, u "<init>"), (0, u "()V"), (0, .class_ 10), (0, u "com/example/obturo/obturo/stats/internal/LatestSecond"), (0, .long 9223372036854775808), (1, .fieldref 9 14), (0, .nameAndType 15 16), (0, u "start"), (0, u "J"), (0, .fieldref 9 18), (0, .nameAndType 19 16), (0, u "endNanos"), (8, .long 1000), (8, .long 1000000), (1, .fieldref 9 40), (0, .nameAndType 41 16), (0, u "block"), (0, .fieldref 9 43), (0, .nameAndType 44 16), (0, u "completed"), (0, .fieldref 9 46), (0, .nameAndType 47 16), (0, u "errors"), (0, .fieldref 9 49), (0, .nameAndType 50 16), (0, u "totalRtMillis"), (0, .long 9223372036854775807), (1, .fieldref 9 54), (0, .nameAndType 55 16), (0, u "minRtMillis"), (17, u "NONE"), (1, u "NANOS_PER_SECOND"), (0, u "NANOS_PER_MILLI"), (0, u "SECOND_MILLIS"), (3, u "moveTo"), (0, u "(J)V")] 14

def k3c0 : Code := { maxStack := 3, maxLocals := 1, code := prog_73_method_1_code, exceptionTable := #[], attributes := #[] }
def k3m0 : Method := { name := "<init>", desc := "()V", sig := { parameters := [], returnType := none }, accessFlags := 0, code := some k3c0 }
def k3c1 : Code := { maxStack := 5, maxLocals := 3, code := prog_73_method_4_code, exceptionTable := #[], attributes := #[] }
def k3m1 : Method := { name := "moveTo", desc := "(J)V", sig := { parameters := [.long], returnType := none }, accessFlags := 0, code := some k3c1 }
/-- com/example/obturo/obturo/stats/internal/LatestSecond -/
def k3 : Class := { plain "com/example/obturo/obturo/stats/internal/LatestSecond" (some 2) with
  accessFlags := 1056
  interfaces := #[]
  cf := some (fileOf pool3 9 #[] #[{ accessFlags := 0, nameIndex := 7, descriptorIndex := 8, attributes := #[] }, { accessFlags := 0, nameIndex := 81, descriptorIndex := 82, attributes := #[] }] 1056 4 #[] #[{ accessFlags := 26, nameIndex := 73, descriptorIndex := 16, attributes := #[] }, { accessFlags := 26, nameIndex := 75, descriptorIndex := 16, attributes := #[] }, { accessFlags := 26, nameIndex := 76, descriptorIndex := 16, attributes := #[] }, { accessFlags := 26, nameIndex := 77, descriptorIndex := 16, attributes := #[] }, { accessFlags := 0, nameIndex := 15, descriptorIndex := 16, attributes := #[] }, { accessFlags := 0, nameIndex := 19, descriptorIndex := 16, attributes := #[] }, { accessFlags := 0, nameIndex := 41, descriptorIndex := 16, attributes := #[] }, { accessFlags := 0, nameIndex := 44, descriptorIndex := 16, attributes := #[] }, { accessFlags := 0, nameIndex := 47, descriptorIndex := 16, attributes := #[] }, { accessFlags := 0, nameIndex := 50, descriptorIndex := 16, attributes := #[] }, { accessFlags := 0, nameIndex := 55, descriptorIndex := 16, attributes := #[] }])
  fields := #[{ name := "NONE", type := .long, accessFlags := 26, slot := 0, constantValue := 0 }, { name := "NANOS_PER_SECOND", type := .long, accessFlags := 26, slot := 1, constantValue := 0 }, { name := "NANOS_PER_MILLI", type := .long, accessFlags := 26, slot := 2, constantValue := 0 }, { name := "SECOND_MILLIS", type := .long, accessFlags := 26, slot := 3, constantValue := 0 }, { name := "start", type := .long, accessFlags := 0, slot := 9, constantValue := 0 }, { name := "endNanos", type := .long, accessFlags := 0, slot := 10, constantValue := 0 }, { name := "block", type := .long, accessFlags := 0, slot := 11, constantValue := 0 }, { name := "completed", type := .long, accessFlags := 0, slot := 12, constantValue := 0 }, { name := "errors", type := .long, accessFlags := 0, slot := 13, constantValue := 0 }, { name := "totalRtMillis", type := .long, accessFlags := 0, slot := 14, constantValue := 0 }, { name := "minRtMillis", type := .long, accessFlags := 0, slot := 15, constantValue := 0 }]
  methods := #[k3m0, k3m1]
  instanceTypes := #[.long, .long, .long, .long, .long, .long, .long, .long, .long, .long, .long, .long, .long, .long, .long, .long]
  staticTypes := #[.long, .long, .long, .long]
  resolved := Array.replicate 97 none
  statics := none }

def pool4 : Array CpInfo := pool [(1, .methodref 2 3), (0, .class_ 4), (0, .nameAndType 5 6), (0, u "com/example/obturo/obturo/stats/internal/LatestSecond"), (0, u "<init>"), (0, u "()V"), (0, .class_ 8), (0, u "com/example/obturo/obturo/stats/internal/LatestSecondMoveToPinLaw"), (0, .methodref 7 3), (0, .fieldref 7 11), (0, .nameAndType 12 13), (0, u "start"), (0, u "J"), (0, .fieldref 7 15), (0, .nameAndType 16 13), (0, u "endNanos"), (0, .fieldref 7 18), (0, .nameAndType 19 13), (0, u "block"), (0, .fieldref 7 21), (0, .nameAndType 22 13), (0, u "completed"), (0, .fieldref 7 24), (0, .nameAndType 25 13), (0, u "errors"), (0, .fieldref 7 27), (0, .nameAndType 28 13), (0, u "totalRtMillis"), (0, .fieldref 7 30), (0, .nameAndType 31 13), (0, u "minRtMillis"), (0, .methodref 7 33), (0, .nameAndType 34 35), (0, u "moveTo"), (0, u "(J)V"), (0, .long 1000000), (1, .long 1000000000), (3, .long 9223372036854775807), (3, u "law"), (0, u "(JJJJJJ)Z")] 3

def k4c0 : Code := { maxStack := 1, maxLocals := 1, code := method_1_code, exceptionTable := #[], attributes := #[] }
def k4m0 : Method := { name := "<init>", desc := "()V", sig := { parameters := [], returnType := none }, accessFlags := 1, code := some k4c0 }
def k4c1 : Code := { maxStack := 4, maxLocals := 15, code := code, exceptionTable := #[], attributes := #[] }
def k4m1 : Method := { name := "law", desc := "(JJJJJJ)Z", sig := { parameters := [.long, .long, .long, .long, .long, .long], returnType := some .boolean }, accessFlags := 9, code := some k4c1 }
/-- com/example/obturo/obturo/stats/internal/LatestSecondMoveToPinLaw -/
def k4 : Class := { plain "com/example/obturo/obturo/stats/internal/LatestSecondMoveToPinLaw" (some 3) with
  accessFlags := 49
  interfaces := #[]
  cf := some (fileOf pool4 7 #[] #[{ accessFlags := 1, nameIndex := 5, descriptorIndex := 6, attributes := #[] }, { accessFlags := 9, nameIndex := 46, descriptorIndex := 47, attributes := #[] }] 49 2 #[] #[])
  fields := #[]
  methods := #[k4m0, k4m1]
  instanceTypes := #[.long, .long, .long, .long, .long, .long, .long, .long, .long, .long, .long, .long, .long, .long, .long, .long]
  staticTypes := #[]
  resolved := Array.replicate 51 none
  statics := none }

def pool5 : Array CpInfo := pool [(1, u "java/lang/Cloneable"), (0, .class_ 1), (0, u "java/lang/Object"), (0, .class_ 3)] 3

/-- java/lang/Cloneable -/
def k5 : Class := { plain "java/lang/Cloneable" (some 0) with
  accessFlags := 1537
  interfaces := #[]
  cf := some (fileOf pool5 2 #[] #[] 1537 4 #[] #[])
  fields := #[]
  methods := #[]
  instanceTypes := #[]
  staticTypes := #[]
  resolved := Array.replicate 8 none
  statics := none }

def pool6 : Array CpInfo := pool [(1, u "java/io/Serializable"), (0, .class_ 1), (0, u "java/lang/Object"), (0, .class_ 3)] 3

/-- java/io/Serializable -/
def k6 : Class := { plain "java/io/Serializable" (some 0) with
  accessFlags := 1537
  interfaces := #[]
  cf := some (fileOf pool6 2 #[] #[] 1537 4 #[] #[])
  fields := #[]
  methods := #[]
  instanceTypes := #[]
  staticTypes := #[]
  resolved := Array.replicate 8 none
  statics := none }

/-- the primitive byte -/
def k7 : Class := { plain "byte" none with kind := .primitive 'B', accessFlags := 0x411 }
/-- [B -/
def k8 : Class := { plain "[B" (some 0) with kind := .array 7 .byte, interfaces := #[5, 6], accessFlags := 1041 }

/-- the primitive int -/
def k9 : Class := { plain "int" none with kind := .primitive 'I', accessFlags := 0x411 }
/-- [I -/
def k10 : Class := { plain "[I" (some 0) with kind := .array 9 .int, interfaces := #[5, 6], accessFlags := 1041 }

def heap : Heap := #[]
def classes : Array Class := #[k0, k1, k2, k3, k4, k5, k6, k7, k8, k9, k10]
def interned : List (Array UInt16 × Addr) := []
def slotsUsed : Nat := 0
def theMethod : MethodId := ⟨4, 1⟩
def args0 : Array Value := #[.long 1, .long 2, .long 3, .long 4, .long 5, .long 6]
def aboutOver (below : List Frame) : State where
  vm := { classes := classes, interned := interned.toArray }
  heap := heap
  slotsUsed := slotsUsed
  threads := #[{ frames := .invoking theMethod args0 :: below }]
def below0 : List Frame := [.native { method := ⟨0, 0⟩, args := #[] }]
def about1 : State := aboutOver below0
def p0 : Program := .bare "" "" ""
def e0 : Env := launch0.env 0 0 0
theorem w_frames : about1.frames = Frame.invoking theMethod args0 :: below0 := rfl
set_option maxRecDepth 65536 in
theorem w_args : argsFit about1.vm theMethod args0 = true := by decide +kernel
set_option maxRecDepth 65536 in
theorem w_heap : heapFits about1 = true := by decide +kernel
set_option maxRecDepth 65536 in
theorem w_runnable : about1.curStatus? = some .runnable := by decide +kernel
set_option maxRecDepth 65536 in
theorem w_alone : about1.alone = true := by decide +kernel
set_option maxRecDepth 65536 in
theorem w_named : about1.methodNamed? x = some theMethod := by decide +kernel
set_option maxRecDepth 65536 in
theorem w_hears : about1.hears theMethod below0 = true := by decide +kernel
set_option maxRecDepth 65536 in
theorem w_ripe : about1.ripe theMethod args0 below0 = true := by decide +kernel
theorem w_running : about1.status = .running := rfl
set_option maxRecDepth 65536 in
theorem w_room : about1.hasRoom e0.platform room_1 = true :=
  launch0.hasRoom_least _ room_1 (by decide +kernel) (by decide +kernel) (by decide +kernel) (by decide +kernel) (by decide +kernel) (by decide +kernel)
theorem allAtoms_all (ts : List Jvm.Cond) (a : Array Jvm.Value) (st : Jvm.State) : (allAtoms ts).before a st = ts.all (fun c => c.before a st) := by
  induction ts with
  | nil => rfl
  | cons c t ih =>
    show (Jvm.Cond.and c (allAtoms t)).before a st = _
    rw [Jvm.Cond.before_and, ih, List.all_cons]
def words1 : List Jvm.Cond := Jvm.Cond.code x code maxLocals ret :: tables_1
/-- a 'code' word, met by the world's own term for the bytes: nothing is compared byte by byte -/
theorem code_word {y : MethodName} {bytes : ByteArray} {mx : Nat} {rt : Option FieldType} {a : Array Value} {s : State} {m : MethodId} {meth : Method} {c : Code} (h1 : s.methodNamed? y = some m) (h2 : s.vm.method? m = some meth) (h3 : meth.code = some c) (h4 : c.code = bytes)
    (h5 : (c.maxLocals == mx && c.exceptionTable.isEmpty && decide (c.maxStack ≤ mostOperands) && decide (meth.sig.returnType = rt) && !meth.locks && decide (parseMethodDescriptor y.desc = some meth.sig)) = true) : (Jvm.Cond.code y bytes mx rt).before a s = true := by
  simp only [Bool.and_eq_true, beq_iff_eq, Bool.not_eq_true', decide_eq_true_eq] at h5
  obtain ⟨⟨⟨⟨⟨g1, g2⟩, g3⟩, g4⟩, g5⟩, g6⟩ := h5
  simp [Cond.before, Cond.holds, Cond.value, h1, h2, h3, h4, g1, g2, g3, g4, g5, g6]
def isCode : Jvm.Cond → Bool
  | .code _ _ _ _ => true
  | _ => false
theorem all_split {L : List Jvm.Cond} {P : Jvm.Cond → Bool} (h1 : L.all (fun c => isCode c || P c) = true) (h2 : ∀ c ∈ L.filter isCode, P c = true) : L.all P = true := by
  refine List.all_eq_true.mpr fun c hc => ?_
  have h := List.all_eq_true.mp h1 c hc
  rcases Bool.eq_false_or_eq_true (isCode c) with hi | hi
  · exact h2 c (List.mem_filter.mpr ⟨hc, hi⟩)
  · simpa [hi] using h
set_option maxRecDepth 65536 in
theorem w_c0 : (Jvm.Cond.code x code maxLocals ret).before args0 about1 = true := code_word (m := ⟨4, 1⟩) (meth := k4m1) (c := k4c1) (by decide +kernel) rfl rfl rfl (by decide +kernel)
set_option maxRecDepth 65536 in
theorem w_c1 : (Jvm.Cond.code ({ cls := "com/example/obturo/obturo/stats/internal/LatestSecondMoveToPinLaw", name := "<init>", desc := "()V" } : Jvm.MethodName) method_1_code (1 : Nat) (Option.none : Option Jvm.ClassFile.FieldType)).before args0 about1 = true := code_word (m := ⟨4, 0⟩) (meth := k4m0) (c := k4c0) (by decide +kernel) rfl rfl rfl (by decide +kernel)
set_option maxRecDepth 65536 in
theorem w_c2 : (Jvm.Cond.code ({ cls := "com/example/obturo/obturo/stats/internal/LatestSecond", name := "<init>", desc := "()V" } : Jvm.MethodName) prog_73_method_1_code (1 : Nat) (Option.none : Option Jvm.ClassFile.FieldType)).before args0 about1 = true := code_word (m := ⟨3, 0⟩) (meth := k3m0) (c := k3c0) (by decide +kernel) rfl rfl rfl (by decide +kernel)
set_option maxRecDepth 65536 in
theorem w_c3 : (Jvm.Cond.code ({ cls := "com/example/obturo/obturo/stats/internal/SpinLock", name := "<init>", desc := "()V" } : Jvm.MethodName) prog_83_method_1_code (1 : Nat) (Option.none : Option Jvm.ClassFile.FieldType)).before args0 about1 = true := code_word (m := ⟨2, 0⟩) (meth := k2m0) (c := k2c0) (by decide +kernel) rfl rfl rfl (by decide +kernel)
set_option maxRecDepth 65536 in
theorem w_c4 : (Jvm.Cond.code ({ cls := "com/example/obturo/obturo/stats/internal/LeadingPadding", name := "<init>", desc := "()V" } : Jvm.MethodName) prog_75_method_1_code (1 : Nat) (Option.none : Option Jvm.ClassFile.FieldType)).before args0 about1 = true := code_word (m := ⟨1, 0⟩) (meth := k1m0) (c := k1c0) (by decide +kernel) rfl rfl rfl (by decide +kernel)
set_option maxRecDepth 65536 in
theorem w_c5 : (Jvm.Cond.code ({ cls := "java/lang/Object", name := "<init>", desc := "()V" } : Jvm.MethodName) object_method_1_code (1 : Nat) (Option.none : Option Jvm.ClassFile.FieldType)).before args0 about1 = true := code_word (m := ⟨0, 0⟩) (meth := k0m0) (c := k0c0) (by decide +kernel) rfl rfl rfl (by decide +kernel)
set_option maxRecDepth 65536 in
theorem w_c6 : (Jvm.Cond.code ({ cls := "com/example/obturo/obturo/stats/internal/LatestSecond", name := "moveTo", desc := "(J)V" } : Jvm.MethodName) prog_73_method_4_code (3 : Nat) (Option.none : Option Jvm.ClassFile.FieldType)).before args0 about1 = true := code_word (m := ⟨3, 1⟩) (meth := k3m1) (c := k3c1) (by decide +kernel) rfl rfl rfl (by decide +kernel)
def codes1 : List Jvm.Cond := [Jvm.Cond.code x code maxLocals ret, Jvm.Cond.code ({ cls := "com/example/obturo/obturo/stats/internal/LatestSecondMoveToPinLaw", name := "<init>", desc := "()V" } : Jvm.MethodName) method_1_code (1 : Nat) (Option.none : Option Jvm.ClassFile.FieldType), Jvm.Cond.code ({ cls := "com/example/obturo/obturo/stats/internal/LatestSecond", name := "<init>", desc := "()V" } : Jvm.MethodName) prog_73_method_1_code (1 : Nat) (Option.none : Option Jvm.ClassFile.FieldType), Jvm.Cond.code ({ cls := "com/example/obturo/obturo/stats/internal/SpinLock", name := "<init>", desc := "()V" } : Jvm.MethodName) prog_83_method_1_code (1 : Nat) (Option.none : Option Jvm.ClassFile.FieldType), Jvm.Cond.code ({ cls := "com/example/obturo/obturo/stats/internal/LeadingPadding", name := "<init>", desc := "()V" } : Jvm.MethodName) prog_75_method_1_code (1 : Nat) (Option.none : Option Jvm.ClassFile.FieldType), Jvm.Cond.code ({ cls := "java/lang/Object", name := "<init>", desc := "()V" } : Jvm.MethodName) object_method_1_code (1 : Nat) (Option.none : Option Jvm.ClassFile.FieldType), Jvm.Cond.code ({ cls := "com/example/obturo/obturo/stats/internal/LatestSecond", name := "moveTo", desc := "(J)V" } : Jvm.MethodName) prog_73_method_4_code (3 : Nat) (Option.none : Option Jvm.ClassFile.FieldType)]
set_option maxRecDepth 65536 in
theorem codes_eq : words1.filter isCode = codes1 := rfl
theorem w_codes : ∀ c ∈ words1.filter isCode, c.before args0 about1 = true := by
  rw [codes_eq]
  intro c hc
  simp only [codes1, List.mem_cons, List.not_mem_nil, or_false] at hc
  rcases hc with rfl | rfl | rfl | rfl | rfl | rfl | rfl
  · exact w_c0
  · exact w_c1
  · exact w_c2
  · exact w_c3
  · exact w_c4
  · exact w_c5
  · exact w_c6
set_option maxRecDepth 65536 in
theorem w_t1 : (words1.take 24).all (fun c => isCode c || c.before args0 about1) = true := by decide +kernel
set_option maxRecDepth 65536 in
theorem w_t2 : ((words1.drop 24).take 24).all (fun c => isCode c || c.before args0 about1) = true := by decide +kernel
set_option maxRecDepth 65536 in
theorem w_t3 : ((words1.drop 24).drop 24).all (fun c => isCode c || c.before args0 about1) = true := by decide +kernel
theorem w_tables : (allAtoms (Jvm.Cond.code x code maxLocals ret :: tables_1)).before args0 about1 = true := by
  rw [allAtoms_all]
  show words1.all (fun c => c.before args0 about1) = true
  refine all_split ?_ w_codes
  rw [← List.take_append_drop 24 words1, List.all_append, w_t1, ← List.take_append_drop 24 (words1.drop 24), List.all_append, w_t2, w_t3]
  rfl
set_option maxRecDepth 65536 in
theorem w_case : (Jvm.Cond.and given_1 narrow_1).before args0 about1 = true := by decide +kernel
theorem w_applies : (headSpec (Jvm.Cond.code x code maxLocals ret :: tables_1) room_1).applies x e0.platform about1 = true :=
  (Spec.applies_iff w_frames).mpr ⟨w_running, w_runnable, w_alone, w_named, w_hears, w_ripe, w_room, w_tables⟩
theorem atStart : AtStart classFile x code maxLocals ret World_1 tables_1 room_1 Calls_1 rest_1 Pre_1 launch0 p0 e0 about1 theMethod args0 below0 :=
  ⟨lists_1, trivial, launch0.admits_env _ _ _, launch0.least_env, fairChoices_fair.cas, fairChoices_fair.clock, w_frames, w_args, w_heap, w_applies, trivial, trivial, w_case⟩
end start1
theorem witness_1 : WitnessClaimed_1 := ⟨start1.p0, start1.e0, start1.about1, start1.theMethod, start1.args0, start1.below0, start1.atStart⟩
end Jvm.Pilot.@@N@@
