import JvmDerived
import JvmDerived.Pilot.@@N@@Statement
import JvmDerived.Pilot.@@N@@Code
set_option linter.unusedVariables false
set_option linter.unusedSimpArgs false
@@BLOCK:NumsL.lean.txt@@
namespace Jvm.RoadKit
open Sem ClassFile Op Lib Jvm.Stand Jvm.Free Jvm.LawKit
section New
variable {p : Program} {l : Launch} {e : Env} {R : Room} {s : State} {m : MethodId} {args : Array Value} {below : List Frame} {meth : Method} {c : Code} {T : State} {locs : List Loc} {cells slots : Nat}
theorem retI (X : Stand p l e R s m args below meth c T locs cells slots) (hx : p.tables.exec = Jvm.exec) {pc : Nat} {Ls : Array Slot} {z : Int32} {rest : List Value} (hret : meth.sig.returnType = some .int) (hd : decode c.code pc = .ok (.ireturn, 1)) {fs : List Frame}
    (hl : ∀ (f : JFrame) (acts : List Action), f.method = m → f.locked = none → f.entered = [] → (doReturn e (T.setTop f) acts (some (.int z))).1 = T.setFrames fs) : Steps p.tables e below (T.setTop (mkF m pc Ls (.int z :: rest))) (T.setFrames fs) := by
  have hm' : T.vm.method? m = some meth := X.method'
  have hn : narrow .int (.int z) = .int z := rfl
  show Steps p.tables e below (T.setTop { method := m, pc := pc, locals := Ls, stack := _ :: rest, locked := none }) _
  jvm_step X.here [X.here.top, hx, hd, hm', hret, hn]
  first | (intro acts; rw [hl _ acts rfl rfl rfl]) | rw [hl _ _ rfl rfl rfl]
  exact Steps.refl _
end New
end Jvm.RoadKit
namespace Jvm.Pilot.@@N@@
open Jvm Jvm.ClassFile Sem Op Lib Jvm.Free Jvm.Stand Jvm.LawKit Jvm.RoadKit Bundle Jvm.Pilot.@@N@@.Jvm.D
section Own
variable {p : Program} {l : Launch} {e : Env} {R : Room} {s : State} {m : MethodId} {args : Array Value} {below : List Frame} {meth : Method} {c : Code} {T : State} {locs : List Loc} {cells slots : Nat} {Z : State} {h : Heap} {a : Addr} {k : ClassId} {n : Int32} {vs : List Value} {dv : Value} {ty : FieldType}
theorem own_caload (X : Stand p l e R s m args below meth c T locs cells slots) (hx : p.tables.exec = Jvm.exec) (hZ : Z.Warmed39 s.vm) (eT : T.heap = h) (V : Arv Z h a k .char n vs dv) {j : Int32} {v : Value} (hj : ¬ j < 0 ∧ j < n) (hv : vs.getD j.toNatClampNeg dv = v) {g : JFrame} (hg : g.method = m) {rest : List Value} (hs : g.stack = .int j :: .ref a :: rest) (hd : decode c.code g.pc = .ok (.caload, 1)) :
    ∀ target, Steps p.tables e below (T.setTop { g with pc := g.pc + 1, stack := v :: rest }) target → Steps p.tables e below (T.setTop g) target := by
  obtain ⟨cl, Ar, -, S, -, H, -⟩ := V
  exact X.caload hx (j := j) (v := v) (by rw [eT]; exact Ar.1) (State.isArrayOf_alike hZ.alike Ar.2.1) Ar.2.2 (inb_of S hj) (H.at (inb_of S hj) hv) hg hs hd
theorem own_iaload (X : Stand p l e R s m args below meth c T locs cells slots) (hx : p.tables.exec = Jvm.exec) (hZ : Z.Warmed39 s.vm) (eT : T.heap = h) (V : Arv Z h a k .int n vs dv) {j : Int32} {v : Value} (hj : ¬ j < 0 ∧ j < n) (hv : vs.getD j.toNatClampNeg dv = v) {g : JFrame} (hg : g.method = m) {rest : List Value} (hs : g.stack = .int j :: .ref a :: rest) (hd : decode c.code g.pc = .ok (.iaload, 1)) :
    ∀ target, Steps p.tables e below (T.setTop { g with pc := g.pc + 1, stack := v :: rest }) target → Steps p.tables e below (T.setTop g) target := by
  obtain ⟨cl, Ar, -, S, -, H, -⟩ := V
  exact X.iaload hx (j := j) (v := v) (by rw [eT]; exact Ar.1) (State.isArrayOf_alike hZ.alike Ar.2.1) Ar.2.2 (inb_of S hj) (H.at (inb_of S hj) hv) hg hs hd
theorem own_baload (X : Stand p l e R s m args below meth c T locs cells slots) (hx : p.tables.exec = Jvm.exec) (hZ : Z.Warmed39 s.vm) (eT : T.heap = h) (V : Arv Z h a k .byte n vs dv) {j : Int32} {v : Value} (hj : ¬ j < 0 ∧ j < n) (hv : vs.getD j.toNatClampNeg dv = v) {g : JFrame} (hg : g.method = m) {rest : List Value} (hs : g.stack = .int j :: .ref a :: rest) (hd : decode c.code g.pc = .ok (.baload, 1)) :
    ∀ target, Steps p.tables e below (T.setTop { g with pc := g.pc + 1, stack := v :: rest }) target → Steps p.tables e below (T.setTop g) target := by
  obtain ⟨cl, Ar, -, S, -, H, -⟩ := V
  exact X.baloadBytes hx (j := j) (v := v) (by rw [eT]; exact Ar.1) (State.isArrayOf_alike hZ.alike Ar.2.1) Ar.2.2 (inb_of S hj) (H.at (inb_of S hj) hv) hg hs hd
theorem own_alen (X : Stand p l e R s m args below meth c T locs cells slots) (hx : p.tables.exec = Jvm.exec) (hZ : Z.Warmed39 s.vm) (eT : T.heap = h) (V : Arv Z h a k ty n vs dv) {g : JFrame} (hg : g.method = m) {rest : List Value} (hs : g.stack = .ref a :: rest) (hd : decode c.code g.pc = .ok (.arraylength, 1)) :
    ∀ target, Steps p.tables e below (T.setTop { g with pc := g.pc + 1, stack := .int n :: rest }) target → Steps p.tables e below (T.setTop g) target := by
  obtain ⟨cl, Ar, -, S, N, -, -⟩ := V
  intro target q
  refine X.arraylength hx (by rw [eT]; exact Ar.1) (State.isArrayOf_alike hZ.alike Ar.2.1) hg hs hd target ?_
  rw [len_of S N]; exact q
end Own

def own_min (a b : Int64) : Int64 := if b < a then b else a
def own_empty (a b c : Int64) : Int32 := if a = (0 : Int64) then (if b = (0 : Int64) then (if c = (0 : Int64) then (1 : Int32) else (0 : Int32)) else (0 : Int32)) else (0 : Int32)
theorem own_fresh : ¬ own_empty (0 : Int64) (0 : Int64) (0 : Int64) = (0 : Int32) := by decide
theorem own_e1 (a b c : Int64) : own_empty ((0 : Int64) + a) ((0 : Int64) + b) ((0 : Int64) + c) = (if a = (0 : Int64) then (if b = (0 : Int64) then (if c = (0 : Int64) then (1 : Int32) else (0 : Int32)) else (0 : Int32)) else (0 : Int32)) := by
  unfold own_empty; rw [Int64.zero_add, Int64.zero_add, Int64.zero_add]
theorem own_e2 (a d b c : Int64) : own_empty (((0 : Int64) + a) + d) ((0 : Int64) + b) ((0 : Int64) + c) = (if (a + d) = (0 : Int64) then (if b = (0 : Int64) then (if c = (0 : Int64) then (1 : Int32) else (0 : Int32)) else (0 : Int32)) else (0 : Int32)) := by
  unfold own_empty; rw [Int64.zero_add, Int64.zero_add, Int64.zero_add]
theorem ef_1 (m : MethodId) (a1 : Addr) : entryFrame m #[(.ref a1)] 1 = mkF m 0 #[.val (.ref a1)] [] := by first | (simp [entryFrame, mkF, argsToLocals, Value.category]; done) | rfl
theorem pn_com_example_obturo_obturo_stats_internal_WindowTally : plainName "com/example/obturo/obturo/stats/internal/WindowTally" = true := by first | (simp [plainName, overriddenIn]; done) | decide +kernel
theorem d1_0 : decode prog_84_method_1_code 0 = .ok (.aload_n 0, 1) := by decide +kernel
theorem d1_1 : decode prog_84_method_1_code 1 = .ok (.invokespecial 1, 3) := by decide +kernel
theorem d1_4 : decode prog_84_method_1_code 4 = .ok (.aload_n 0, 1) := by decide +kernel
theorem d1_5 : decode prog_84_method_1_code 5 = .ok (.ldc2_w 9, 3) := by decide +kernel
theorem d1_8 : decode prog_84_method_1_code 8 = .ok (.putfield 11, 3) := by decide +kernel
theorem d1_11 : decode prog_84_method_1_code 11 = .ok (.return_, 1) := by decide +kernel
def Q1 (Z : State) (a1 : Addr) (u0 : Int64) (u1 : Int64) (u2 : Int64) (u3 : Int64) (u4 : Int64) (u5 : Int64) (h0 : Heap) (n0 : Nat) (v : Option Value) (h : Heap) (L : List Loc) : Prop := v = none ∧ Fr n0 L ∧ Keep h0 h [a1] ∧ Exa Z h a1 "com/example/obturo/obturo/stats/internal/WindowTally" ∧ Fld Z h a1 "com/example/obturo/obturo/stats/internal/WindowTally" "pass" "J" (.long u0) ∧ Fld Z h a1 "com/example/obturo/obturo/stats/internal/WindowTally" "block" "J" (.long u1) ∧ Fld Z h a1 "com/example/obturo/obturo/stats/internal/WindowTally" "completed" "J" (.long u2) ∧ Fld Z h a1 "com/example/obturo/obturo/stats/internal/WindowTally" "errors" "J" (.long u3) ∧ Fld Z h a1 "com/example/obturo/obturo/stats/internal/WindowTally" "totalRtMillis" "J" (.long u4) ∧ Fld Z h a1 "com/example/obturo/obturo/stats/internal/WindowTally" "minRtMillis" "J" (.long (9223372036854775807 : Int64))
set_option maxRecDepth 65536 in
set_option maxHeartbeats 40000000 in
theorem rm1 (l : Launch) (Z : State) (a0 : Array Value) (hw : ∀ d ∈ tables_1, d.before a0 Z = true) (ws : List Jvm.Cond) (a1 : Addr) (u0 : Int64) (u1 : Int64) (u2 : Int64) (u3 : Int64) (u4 : Int64) (u5 : Int64) (h0 : Heap) (n0 : Nat) (Z0 : n0 ≤ h0.size) (E_a1 : Exa Z h0 a1 "com/example/obturo/obturo/stats/internal/WindowTally") (F_pass_a1 : Fld Z h0 a1 "com/example/obturo/obturo/stats/internal/WindowTally" "pass" "J" (.long u0)) (F_block_a1 : Fld Z h0 a1 "com/example/obturo/obturo/stats/internal/WindowTally" "block" "J" (.long u1)) (F_completed_a1 : Fld Z h0 a1 "com/example/obturo/obturo/stats/internal/WindowTally" "completed" "J" (.long u2)) (F_errors_a1 : Fld Z h0 a1 "com/example/obturo/obturo/stats/internal/WindowTally" "errors" "J" (.long u3)) (F_totalRtMillis_a1 : Fld Z h0 a1 "com/example/obturo/obturo/stats/internal/WindowTally" "totalRtMillis" "J" (.long u4)) (F_minRtMillis_a1 : Fld Z h0 a1 "com/example/obturo/obturo/stats/internal/WindowTally" "minRtMillis" "J" (.long u5)) (g_a1 : n0 ≤ a1) :
    MetFree l (⟨"com/example/obturo/obturo/stats/internal/WindowTally", "<init>", "()V"⟩ : MethodName) (head1 (Jvm.Cond.code (⟨"com/example/obturo/obturo/stats/internal/WindowTally", "<init>", "()V"⟩ : MethodName) prog_84_method_1_code 1 none :: ws) ({ frames := 1, cells := 0, slots := 0, locals := 12 } : Room)) (fun a U => a = #[(.ref a1)] ∧ Z.Warmed39 U.vm ∧ U.heap = h0) (fun _ _ _ _ _ => True) (fun _ U o U' => ∃ v L, o = .returned v ∧ Q1 Z a1 u0 u1 u2 u3 u4 u5 h0 n0 v U'.heap L ∧ FrameEnd U o U' L ({ frames := 1, cells := 0, slots := 0, locals := 12 } : Room).cells ({ frames := 1, cells := 0, slots := 0, locals := 12 } : Room).slots) := by
  refine MetFree.of_bodySF (plainFor_of_name pn_com_example_obturo_obturo_stats_internal_WindowTally) hisR ?_
  intro p e s m args below meth c s₁ Bd hml0 hP hK
  obtain ⟨rfl, hZ, hh⟩ := hP
  have hx := Bd.exec
  have hby := Bd.bytes
  have hml : c.maxLocals = 1 := hml0
  have hown : s.vm.findClass "com/example/obturo/obturo/stats/internal/WindowTally" = some m.cls := findClass_of_methodNamed Bd.named
  have hnm := (name_of_methodNamed Bd.named Bd.method).1
  have X0 : Stand p l e ({ frames := 1, cells := 0, slots := 0, locals := 12 } : Room) s m #[(.ref a1)] below meth c s₁ [] 0 0 := Stand.of_body Bd
  have eh0 : s₁.heap = h0 := by rw [← hh, Bd.state]; rfl
  have N0 := Fr.nil n0
  have pre0 : ∀ t, Steps p.tables e below (s₁.setTop (mkF m 0 #[.val (.ref a1)] [])) t → Steps p.tables e below (s₁.setTop (entryFrame m #[(.ref a1)] 1)) t := fun t k => castTop (ef_1 m a1) k
  have K0 : Keep h0 h0 [a1] := Keep.refl _ _
  have pre1 : ∀ t, Steps p.tables e below (s₁.setTop (mkF m 1 #[.val (.ref a1)] [(.ref a1)])) t → Steps p.tables e below (s₁.setTop (entryFrame m #[(.ref a1)] 1)) t := fun t k => pre0 t (by
    show Steps p.tables e below (s₁.setTop (mkF m 0 #[.val (.ref a1)] [])) t
    refine XS.aloadN X0.here hx rfl (hb hby d1_0) rfl rfl ?_
    show Steps p.tables e below (s₁.setTop (mkF m 1 #[.val (.ref a1)] [(.ref a1)])) t
    exact k)
  obtain ⟨T2, X2, eh2, st2⟩ := initO X0 hx hZ hown (hw _ (List.mem_of_getElem? (i := 6) rfl)) (hw _ (List.mem_of_getElem? (i := 7) rfl)) (hw _ (List.mem_of_getElem? (i := 8) rfl)) eh0 (g := (mkF m 1 #[.val (.ref a1)] [(.ref a1)])) rfl (by rw [hml]; rfl) rfl (hb hby d1_1) (by decide) (W := 0) (by show 2 * 0 + _ ≤ _; exact Nat.le_of_eq rfl) (by decide)
  have pre3 : ∀ t, Steps p.tables e below (T2.setTop (mkF m 4 #[.val (.ref a1)] [])) t → Steps p.tables e below (s₁.setTop (entryFrame m #[(.ref a1)] 1)) t := fun t k => pre1 t (st2 _ k)
  have pre4 : ∀ t, Steps p.tables e below (T2.setTop (mkF m 8 #[.val (.ref a1)] [(.long (9223372036854775807 : Int64)), (.ref a1)])) t → Steps p.tables e below (s₁.setTop (entryFrame m #[(.ref a1)] 1)) t := fun t k => pre3 t (by
    show Steps p.tables e below (T2.setTop (mkF m 4 #[.val (.ref a1)] [])) t
    refine XS.aloadN X2.here hx rfl (hb hby d1_4) rfl rfl ?_
    show Steps p.tables e below (T2.setTop (mkF m 5 #[.val (.ref a1)] [(.ref a1)])) t
    refine X2.ldc2Long hx hown (mvT hZ (hw _ (List.mem_of_getElem? (i := 9) rfl))) (g := (mkF m 5 #[.val (.ref a1)] [(.ref a1)])) rfl (hb hby d1_5) _ ?_
    show Steps p.tables e below (T2.setTop (mkF m 8 #[.val (.ref a1)] [(.long (9223372036854775807 : Int64)), (.ref a1)])) t
    exact k)
  obtain ⟨T5, h5, X5, eh5, W5, st5⟩ := putF X2 hx hZ hown (host := "") (Or.inl (hw _ (List.mem_of_getElem? (i := 10) rfl))) Via.refl eh2 F_minRtMillis_a1 E_a1 (Or.inl (hw _ (List.mem_of_getElem? (i := 11) rfl))) (hw _ (List.mem_of_getElem? (i := 1) rfl)) (ty := .long) (by decide) rfl rfl (g := (mkF m 8 #[.val (.ref a1)] [(.long (9223372036854775807 : Int64)), (.ref a1)])) rfl rfl (hb hby d1_8)
  have E_a1__5 : Exa Z h5 a1 "com/example/obturo/obturo/stats/internal/WindowTally" := E_a1.wr W5
  have F_pass_a1__5 : Fld Z h5 a1 "com/example/obturo/obturo/stats/internal/WindowTally" "pass" "J" (.long u0) := F_pass_a1.other W5 (Or.inr (slot_ne (Or.inl (hw _ (List.mem_of_getElem? (i := 18) rfl))) (Or.inl (hw _ (List.mem_of_getElem? (i := 11) rfl))) (by decide) (t := .long) (t' := .long) (by decide) (by decide)))
  have F_block_a1__5 : Fld Z h5 a1 "com/example/obturo/obturo/stats/internal/WindowTally" "block" "J" (.long u1) := F_block_a1.other W5 (Or.inr (slot_ne (Or.inl (hw _ (List.mem_of_getElem? (i := 20) rfl))) (Or.inl (hw _ (List.mem_of_getElem? (i := 11) rfl))) (by decide) (t := .long) (t' := .long) (by decide) (by decide)))
  have F_completed_a1__5 : Fld Z h5 a1 "com/example/obturo/obturo/stats/internal/WindowTally" "completed" "J" (.long u2) := F_completed_a1.other W5 (Or.inr (slot_ne (Or.inl (hw _ (List.mem_of_getElem? (i := 22) rfl))) (Or.inl (hw _ (List.mem_of_getElem? (i := 11) rfl))) (by decide) (t := .long) (t' := .long) (by decide) (by decide)))
  have F_errors_a1__5 : Fld Z h5 a1 "com/example/obturo/obturo/stats/internal/WindowTally" "errors" "J" (.long u3) := F_errors_a1.other W5 (Or.inr (slot_ne (Or.inl (hw _ (List.mem_of_getElem? (i := 30) rfl))) (Or.inl (hw _ (List.mem_of_getElem? (i := 11) rfl))) (by decide) (t := .long) (t' := .long) (by decide) (by decide)))
  have F_totalRtMillis_a1__5 : Fld Z h5 a1 "com/example/obturo/obturo/stats/internal/WindowTally" "totalRtMillis" "J" (.long u4) := F_totalRtMillis_a1.other W5 (Or.inr (slot_ne (Or.inl (hw _ (List.mem_of_getElem? (i := 32) rfl))) (Or.inl (hw _ (List.mem_of_getElem? (i := 11) rfl))) (by decide) (t := .long) (t' := .long) (by decide) (by decide)))
  have sz5 : n0 ≤ h5.size := Nat.le_trans Z0 (Keep.of_wr W5).1
  have K5 : Keep h0 h5 [a1] := K0.wr W5 (Or.inl (List.mem_of_getElem? (i := 0) rfl))
  have N5 := Fr.snoc X5 N0 g_a1
  have F_minRtMillis_a1__5 : Fld Z h5 a1 "com/example/obturo/obturo/stats/internal/WindowTally" "minRtMillis" "J" (.long (9223372036854775807 : Int64)) := F_minRtMillis_a1.same W5
  have pre6 : ∀ t, Steps p.tables e below (T5.setTop (mkF m 11 #[.val (.ref a1)] [])) t → Steps p.tables e below (s₁.setTop (entryFrame m #[(.ref a1)] 1)) t := fun t k => pre4 t (st5 _ k)
  obtain ⟨fs, hr, hrun, hended, hW, hsame⟩ := X5.leave (v := none) (fun _ => rfl)
  refine ⟨_, _, pre6 _ ?_, hrun, hended, _, _, rfl, ?_, ⟨_, rfl⟩, hW, hsame.mono (by decide) (by decide)⟩
  · show Steps p.tables e below (T5.setTop (mkF m 11 #[.val (.ref a1)] [])) _
    exact X5.returnOut hx Bd.returns (hb hby d1_11) hr
  · show Q1 Z a1 u0 u1 u2 u3 u4 u5 h0 n0 _ T5.heap _
    rw [eh5]
    exact ⟨rfl, N5, K5, E_a1__5, F_pass_a1__5, F_block_a1__5, F_completed_a1__5, F_errors_a1__5, F_totalRtMillis_a1__5, F_minRtMillis_a1__5⟩
theorem ef_3 (m : MethodId) (a1 : Addr) : entryFrame m #[(.ref a1)] 1 = mkF m 0 #[.val (.ref a1)] [] := by first | (simp [entryFrame, mkF, argsToLocals, Value.category]; done) | rfl
theorem d3_0 : decode prog_84_method_4_code 0 = .ok (.aload_n 0, 1) := by decide +kernel
theorem d3_1 : decode prog_84_method_4_code 1 = .ok (.getfield 17, 3) := by decide +kernel
theorem d3_4 : decode prog_84_method_4_code 4 = .ok (.lconst 0, 1) := by decide +kernel
theorem d3_5 : decode prog_84_method_4_code 5 = .ok (.lcmp, 1) := by decide +kernel
theorem d3_6 : decode prog_84_method_4_code 6 = .ok (.ifCond .ne 25, 3) := by decide +kernel
theorem d3_9 : decode prog_84_method_4_code 9 = .ok (.aload_n 0, 1) := by decide +kernel
theorem d3_10 : decode prog_84_method_4_code 10 = .ok (.getfield 20, 3) := by decide +kernel
theorem d3_13 : decode prog_84_method_4_code 13 = .ok (.lconst 0, 1) := by decide +kernel
theorem d3_14 : decode prog_84_method_4_code 14 = .ok (.lcmp, 1) := by decide +kernel
theorem d3_15 : decode prog_84_method_4_code 15 = .ok (.ifCond .ne 16, 3) := by decide +kernel
theorem d3_18 : decode prog_84_method_4_code 18 = .ok (.aload_n 0, 1) := by decide +kernel
theorem d3_19 : decode prog_84_method_4_code 19 = .ok (.getfield 23, 3) := by decide +kernel
theorem d3_22 : decode prog_84_method_4_code 22 = .ok (.lconst 0, 1) := by decide +kernel
theorem d3_23 : decode prog_84_method_4_code 23 = .ok (.lcmp, 1) := by decide +kernel
theorem d3_24 : decode prog_84_method_4_code 24 = .ok (.ifCond .ne 7, 3) := by decide +kernel
theorem d3_27 : decode prog_84_method_4_code 27 = .ok (.iconst 1, 1) := by decide +kernel
theorem d3_28 : decode prog_84_method_4_code 28 = .ok (.goto 4, 3) := by decide +kernel
theorem d3_32 : decode prog_84_method_4_code 32 = .ok (.ireturn, 1) := by decide +kernel
theorem d3_31 : decode prog_84_method_4_code 31 = .ok (.iconst 0, 1) := by decide +kernel
def Q3 (Z : State) (a1 : Addr) (u0 : Int64) (u1 : Int64) (u2 : Int64) (h0 : Heap) (n0 : Nat) (v : Option Value) (h : Heap) (L : List Loc) : Prop := v = some (.int (own_empty u0 u1 u2)) ∧ Fr n0 L ∧ h = h0
set_option maxRecDepth 65536 in
set_option maxHeartbeats 40000000 in
theorem rm3 (l : Launch) (Z : State) (a0 : Array Value) (hw : ∀ d ∈ tables_1, d.before a0 Z = true) (ws : List Jvm.Cond) (a1 : Addr) (u0 : Int64) (u1 : Int64) (u2 : Int64) (h0 : Heap) (n0 : Nat) (Z0 : n0 ≤ h0.size) (F_pass_a1 : Fld Z h0 a1 "com/example/obturo/obturo/stats/internal/WindowTally" "pass" "J" (.long u0)) (F_block_a1 : Fld Z h0 a1 "com/example/obturo/obturo/stats/internal/WindowTally" "block" "J" (.long u1)) (F_completed_a1 : Fld Z h0 a1 "com/example/obturo/obturo/stats/internal/WindowTally" "completed" "J" (.long u2)) :
    MetFree l (⟨"com/example/obturo/obturo/stats/internal/WindowTally", "empty", "()Z"⟩ : MethodName) (head1 (Jvm.Cond.code (⟨"com/example/obturo/obturo/stats/internal/WindowTally", "empty", "()Z"⟩ : MethodName) prog_84_method_4_code 1 (some .boolean) :: ws) ({ frames := 0, cells := 0, slots := 0, locals := 0 } : Room)) (fun a U => a = #[(.ref a1)] ∧ Z.Warmed39 U.vm ∧ U.heap = h0) (fun _ _ _ _ _ => True) (fun _ U o U' => ∃ v L, o = .returned v ∧ Q3 Z a1 u0 u1 u2 h0 n0 v U'.heap L ∧ FrameEnd U o U' L ({ frames := 0, cells := 0, slots := 0, locals := 0 } : Room).cells ({ frames := 0, cells := 0, slots := 0, locals := 0 } : Room).slots) := by
  refine MetFree.of_bodySF (plainFor_of_name pn_com_example_obturo_obturo_stats_internal_WindowTally) hisR ?_
  intro p e s m args below meth c s₁ Bd hml0 hP hK
  obtain ⟨rfl, hZ, hh⟩ := hP
  have hx := Bd.exec
  have hby := Bd.bytes
  have hml : c.maxLocals = 1 := hml0
  have hown : s.vm.findClass "com/example/obturo/obturo/stats/internal/WindowTally" = some m.cls := findClass_of_methodNamed Bd.named
  have hnm := (name_of_methodNamed Bd.named Bd.method).1
  have X0 : Stand p l e ({ frames := 0, cells := 0, slots := 0, locals := 0 } : Room) s m #[(.ref a1)] below meth c s₁ [] 0 0 := Stand.of_body Bd
  have eh0 : s₁.heap = h0 := by rw [← hh, Bd.state]; rfl
  have N0 := Fr.nil n0
  have pre0 : ∀ t, Steps p.tables e below (s₁.setTop (mkF m 0 #[.val (.ref a1)] [])) t → Steps p.tables e below (s₁.setTop (entryFrame m #[(.ref a1)] 1)) t := fun t k => castTop (ef_3 m a1) k
  have pre1 : ∀ t, Steps p.tables e below (s₁.setTop (mkF m 1 #[.val (.ref a1)] [(.ref a1)])) t → Steps p.tables e below (s₁.setTop (entryFrame m #[(.ref a1)] 1)) t := fun t k => pre0 t (by
    show Steps p.tables e below (s₁.setTop (mkF m 0 #[.val (.ref a1)] [])) t
    refine XS.aloadN X0.here hx rfl (hb hby d3_0) rfl rfl ?_
    show Steps p.tables e below (s₁.setTop (mkF m 1 #[.val (.ref a1)] [(.ref a1)])) t
    exact k)
  obtain ⟨T2, X2, eh2, st2⟩ := getF X0 hx hZ hown (host := "") (Or.inl (hw _ (List.mem_of_getElem? (i := 17) rfl))) Via.refl eh0 F_pass_a1 (g := (mkF m 1 #[.val (.ref a1)] [(.ref a1)])) rfl rfl (hb hby d3_1)
  have pre3 : ∀ t, Steps p.tables e below (T2.setTop (mkF m 4 #[.val (.ref a1)] [(.long u0)])) t → Steps p.tables e below (s₁.setTop (entryFrame m #[(.ref a1)] 1)) t := fun t k => pre1 t (st2 _ k)
  have pre5 : ∀ t, Steps p.tables e below (T2.setTop (mkF m 6 #[.val (.ref a1)] [(.int (XT.cmpL u0 (0 : Int64)))])) t → Steps p.tables e below (s₁.setTop (entryFrame m #[(.ref a1)] 1)) t := fun t k => pre3 t (by
    show Steps p.tables e below (T2.setTop (mkF m 4 #[.val (.ref a1)] [(.long u0)])) t
    refine XT.lconstV X2.here hx rfl (0 : Int64) (hb hby d3_4) (by decide) ?_
    show Steps p.tables e below (T2.setTop (mkF m 5 #[.val (.ref a1)] [(.long (0 : Int64)), (.long u0)])) t
    refine XT.lcmp X2.here hx rfl (hb hby d3_5) rfl ?_
    show Steps p.tables e below (T2.setTop (mkF m 6 #[.val (.ref a1)] [(.int (XT.cmpL u0 (0 : Int64)))])) t
    exact k)
  by_cases hc6_4 : u0 = (0 : Int64)
  · skip
    have pre6 : ∀ t, Steps p.tables e below (T2.setTop (mkF m 10 #[.val (.ref a1)] [(.ref a1)])) t → Steps p.tables e below (s₁.setTop (entryFrame m #[(.ref a1)] 1)) t := fun t k => pre5 t (by
      show Steps p.tables e below (T2.setTop (mkF m 6 #[.val (.ref a1)] [(.int (XT.cmpL u0 (0 : Int64)))])) t
      refine XS.ifNo X2.here hx rfl (hb hby d3_6) rfl (XT.ll_ne_f hc6_4) ?_
      show Steps p.tables e below (T2.setTop (mkF m 9 #[.val (.ref a1)] [])) t
      refine XS.aloadN X2.here hx rfl (hb hby d3_9) rfl rfl ?_
      show Steps p.tables e below (T2.setTop (mkF m 10 #[.val (.ref a1)] [(.ref a1)])) t
      exact k)
    obtain ⟨T7, X7, eh7, st7⟩ := getF X2 hx hZ hown (host := "") (Or.inl (hw _ (List.mem_of_getElem? (i := 19) rfl))) Via.refl eh2 F_block_a1 (g := (mkF m 10 #[.val (.ref a1)] [(.ref a1)])) rfl rfl (hb hby d3_10)
    have pre8 : ∀ t, Steps p.tables e below (T7.setTop (mkF m 13 #[.val (.ref a1)] [(.long u1)])) t → Steps p.tables e below (s₁.setTop (entryFrame m #[(.ref a1)] 1)) t := fun t k => pre6 t (st7 _ k)
    have pre10 : ∀ t, Steps p.tables e below (T7.setTop (mkF m 15 #[.val (.ref a1)] [(.int (XT.cmpL u1 (0 : Int64)))])) t → Steps p.tables e below (s₁.setTop (entryFrame m #[(.ref a1)] 1)) t := fun t k => pre8 t (by
      show Steps p.tables e below (T7.setTop (mkF m 13 #[.val (.ref a1)] [(.long u1)])) t
      refine XT.lconstV X7.here hx rfl (0 : Int64) (hb hby d3_13) (by decide) ?_
      show Steps p.tables e below (T7.setTop (mkF m 14 #[.val (.ref a1)] [(.long (0 : Int64)), (.long u1)])) t
      refine XT.lcmp X7.here hx rfl (hb hby d3_14) rfl ?_
      show Steps p.tables e below (T7.setTop (mkF m 15 #[.val (.ref a1)] [(.int (XT.cmpL u1 (0 : Int64)))])) t
      exact k)
    by_cases hc15_9 : u1 = (0 : Int64)
    · skip
      have pre11 : ∀ t, Steps p.tables e below (T7.setTop (mkF m 19 #[.val (.ref a1)] [(.ref a1)])) t → Steps p.tables e below (s₁.setTop (entryFrame m #[(.ref a1)] 1)) t := fun t k => pre10 t (by
        show Steps p.tables e below (T7.setTop (mkF m 15 #[.val (.ref a1)] [(.int (XT.cmpL u1 (0 : Int64)))])) t
        refine XS.ifNo X7.here hx rfl (hb hby d3_15) rfl (XT.ll_ne_f hc15_9) ?_
        show Steps p.tables e below (T7.setTop (mkF m 18 #[.val (.ref a1)] [])) t
        refine XS.aloadN X7.here hx rfl (hb hby d3_18) rfl rfl ?_
        show Steps p.tables e below (T7.setTop (mkF m 19 #[.val (.ref a1)] [(.ref a1)])) t
        exact k)
      obtain ⟨T12, X12, eh12, st12⟩ := getF X7 hx hZ hown (host := "") (Or.inl (hw _ (List.mem_of_getElem? (i := 21) rfl))) Via.refl eh7 F_completed_a1 (g := (mkF m 19 #[.val (.ref a1)] [(.ref a1)])) rfl rfl (hb hby d3_19)
      have pre13 : ∀ t, Steps p.tables e below (T12.setTop (mkF m 22 #[.val (.ref a1)] [(.long u2)])) t → Steps p.tables e below (s₁.setTop (entryFrame m #[(.ref a1)] 1)) t := fun t k => pre11 t (st12 _ k)
      have pre15 : ∀ t, Steps p.tables e below (T12.setTop (mkF m 24 #[.val (.ref a1)] [(.int (XT.cmpL u2 (0 : Int64)))])) t → Steps p.tables e below (s₁.setTop (entryFrame m #[(.ref a1)] 1)) t := fun t k => pre13 t (by
        show Steps p.tables e below (T12.setTop (mkF m 22 #[.val (.ref a1)] [(.long u2)])) t
        refine XT.lconstV X12.here hx rfl (0 : Int64) (hb hby d3_22) (by decide) ?_
        show Steps p.tables e below (T12.setTop (mkF m 23 #[.val (.ref a1)] [(.long (0 : Int64)), (.long u2)])) t
        refine XT.lcmp X12.here hx rfl (hb hby d3_23) rfl ?_
        show Steps p.tables e below (T12.setTop (mkF m 24 #[.val (.ref a1)] [(.int (XT.cmpL u2 (0 : Int64)))])) t
        exact k)
      by_cases hc24_14 : u2 = (0 : Int64)
      · skip
        have pre16 : ∀ t, Steps p.tables e below (T12.setTop (mkF m 32 #[.val (.ref a1)] [(.int (1 : Int32))])) t → Steps p.tables e below (s₁.setTop (entryFrame m #[(.ref a1)] 1)) t := fun t k => pre15 t (by
          show Steps p.tables e below (T12.setTop (mkF m 24 #[.val (.ref a1)] [(.int (XT.cmpL u2 (0 : Int64)))])) t
          refine XS.ifNo X12.here hx rfl (hb hby d3_24) rfl (XT.ll_ne_f hc24_14) ?_
          show Steps p.tables e below (T12.setTop (mkF m 27 #[.val (.ref a1)] [])) t
          refine XS.iconst X12.here hx rfl (hb hby d3_27) ?_
          show Steps p.tables e below (T12.setTop (mkF m 28 #[.val (.ref a1)] [(.int (1 : Int32))])) t
          refine XS.goto X12.here hx rfl (pc0 := 28) (pc' := 32) rfl (hb hby d3_28) (by decide) (by decide) ?_
          show Steps p.tables e below (T12.setTop (mkF m 32 #[.val (.ref a1)] [(.int (1 : Int32))])) t
          exact k)
        obtain ⟨fs, hr, hrun, hended, hW, hsame⟩ := X12.leave (v := some (.int (1 : Int32))) (fun h => by rw [Bd.returns] at h; cases h)
        refine ⟨_, _, pre16 _ ?_, hrun, hended, _, _, rfl, ?_, ⟨_, rfl⟩, hW, hsame.mono (by decide) (by decide)⟩
        · show Steps p.tables e below (T12.setTop (mkF m 32 #[.val (.ref a1)] [(.int (1 : Int32))])) _
          exact retN X12 hx (t := .boolean) Bd.returns (by simp) (hb hby d3_32) hr
        · show Q3 Z a1 u0 u1 u2 h0 n0 _ T12.heap _
          rw [eh12]
          exact ⟨(congrArg (fun z => some (Value.int z)) (show (1 : Int32) = (own_empty u0 u1 u2) from (by simp only [own_empty, if_pos hc6_4, if_pos hc15_9, if_pos hc24_14]))), N0, rfl⟩
      · skip
        have pre17 : ∀ t, Steps p.tables e below (T12.setTop (mkF m 32 #[.val (.ref a1)] [(.int (0 : Int32))])) t → Steps p.tables e below (s₁.setTop (entryFrame m #[(.ref a1)] 1)) t := fun t k => pre15 t (by
          show Steps p.tables e below (T12.setTop (mkF m 24 #[.val (.ref a1)] [(.int (XT.cmpL u2 (0 : Int64)))])) t
          refine XS.ifYes X12.here hx rfl (pc0 := 24) (pc' := 31) rfl (hb hby d3_24) rfl (XT.ll_ne_t hc24_14) (by decide) (by decide) ?_
          show Steps p.tables e below (T12.setTop (mkF m 31 #[.val (.ref a1)] [])) t
          refine XS.iconst X12.here hx rfl (hb hby d3_31) ?_
          show Steps p.tables e below (T12.setTop (mkF m 32 #[.val (.ref a1)] [(.int (0 : Int32))])) t
          exact k)
        obtain ⟨fs, hr, hrun, hended, hW, hsame⟩ := X12.leave (v := some (.int (0 : Int32))) (fun h => by rw [Bd.returns] at h; cases h)
        refine ⟨_, _, pre17 _ ?_, hrun, hended, _, _, rfl, ?_, ⟨_, rfl⟩, hW, hsame.mono (by decide) (by decide)⟩
        · show Steps p.tables e below (T12.setTop (mkF m 32 #[.val (.ref a1)] [(.int (0 : Int32))])) _
          exact retN X12 hx (t := .boolean) Bd.returns (by simp) (hb hby d3_32) hr
        · show Q3 Z a1 u0 u1 u2 h0 n0 _ T12.heap _
          rw [eh12]
          exact ⟨(congrArg (fun z => some (Value.int z)) (show (0 : Int32) = (own_empty u0 u1 u2) from (by simp only [own_empty, if_pos hc6_4, if_pos hc15_9, if_neg hc24_14]))), N0, rfl⟩
    · skip
      have pre18 : ∀ t, Steps p.tables e below (T7.setTop (mkF m 32 #[.val (.ref a1)] [(.int (0 : Int32))])) t → Steps p.tables e below (s₁.setTop (entryFrame m #[(.ref a1)] 1)) t := fun t k => pre10 t (by
        show Steps p.tables e below (T7.setTop (mkF m 15 #[.val (.ref a1)] [(.int (XT.cmpL u1 (0 : Int64)))])) t
        refine XS.ifYes X7.here hx rfl (pc0 := 15) (pc' := 31) rfl (hb hby d3_15) rfl (XT.ll_ne_t hc15_9) (by decide) (by decide) ?_
        show Steps p.tables e below (T7.setTop (mkF m 31 #[.val (.ref a1)] [])) t
        refine XS.iconst X7.here hx rfl (hb hby d3_31) ?_
        show Steps p.tables e below (T7.setTop (mkF m 32 #[.val (.ref a1)] [(.int (0 : Int32))])) t
        exact k)
      obtain ⟨fs, hr, hrun, hended, hW, hsame⟩ := X7.leave (v := some (.int (0 : Int32))) (fun h => by rw [Bd.returns] at h; cases h)
      refine ⟨_, _, pre18 _ ?_, hrun, hended, _, _, rfl, ?_, ⟨_, rfl⟩, hW, hsame.mono (by decide) (by decide)⟩
      · show Steps p.tables e below (T7.setTop (mkF m 32 #[.val (.ref a1)] [(.int (0 : Int32))])) _
        exact retN X7 hx (t := .boolean) Bd.returns (by simp) (hb hby d3_32) hr
      · show Q3 Z a1 u0 u1 u2 h0 n0 _ T7.heap _
        rw [eh7]
        exact ⟨(congrArg (fun z => some (Value.int z)) (show (0 : Int32) = (own_empty u0 u1 u2) from (by simp only [own_empty, if_pos hc6_4, if_neg hc15_9]))), N0, rfl⟩
  · skip
    have pre19 : ∀ t, Steps p.tables e below (T2.setTop (mkF m 32 #[.val (.ref a1)] [(.int (0 : Int32))])) t → Steps p.tables e below (s₁.setTop (entryFrame m #[(.ref a1)] 1)) t := fun t k => pre5 t (by
      show Steps p.tables e below (T2.setTop (mkF m 6 #[.val (.ref a1)] [(.int (XT.cmpL u0 (0 : Int64)))])) t
      refine XS.ifYes X2.here hx rfl (pc0 := 6) (pc' := 31) rfl (hb hby d3_6) rfl (XT.ll_ne_t hc6_4) (by decide) (by decide) ?_
      show Steps p.tables e below (T2.setTop (mkF m 31 #[.val (.ref a1)] [])) t
      refine XS.iconst X2.here hx rfl (hb hby d3_31) ?_
      show Steps p.tables e below (T2.setTop (mkF m 32 #[.val (.ref a1)] [(.int (0 : Int32))])) t
      exact k)
    obtain ⟨fs, hr, hrun, hended, hW, hsame⟩ := X2.leave (v := some (.int (0 : Int32))) (fun h => by rw [Bd.returns] at h; cases h)
    refine ⟨_, _, pre19 _ ?_, hrun, hended, _, _, rfl, ?_, ⟨_, rfl⟩, hW, hsame.mono (by decide) (by decide)⟩
    · show Steps p.tables e below (T2.setTop (mkF m 32 #[.val (.ref a1)] [(.int (0 : Int32))])) _
      exact retN X2 hx (t := .boolean) Bd.returns (by simp) (hb hby d3_32) hr
    · show Q3 Z a1 u0 u1 u2 h0 n0 _ T2.heap _
      rw [eh2]
      exact ⟨(congrArg (fun z => some (Value.int z)) (show (0 : Int32) = (own_empty u0 u1 u2) from (by simp only [own_empty, if_neg hc6_4]))), N0, rfl⟩
theorem ef_5 (m : MethodId) (q1 : Int64) (q2 : Int64) : entryFrame m #[(.long q1), (.long q2)] 4 = mkF m 0 #[.val (.long q1), .second, .val (.long q2), .second] [] := by first | (simp [entryFrame, mkF, argsToLocals, Value.category]; done) | rfl
theorem d5_0 : decode jdk_29_method_70_code 0 = .ok (.lload_n 0, 1) := by decide +kernel
theorem d5_1 : decode jdk_29_method_70_code 1 = .ok (.lload_n 2, 1) := by decide +kernel
theorem d5_2 : decode jdk_29_method_70_code 2 = .ok (.lcmp, 1) := by decide +kernel
theorem d5_3 : decode jdk_29_method_70_code 3 = .ok (.ifCond .gt 7, 3) := by decide +kernel
theorem d5_10 : decode jdk_29_method_70_code 10 = .ok (.lload_n 2, 1) := by decide +kernel
theorem d5_11 : decode jdk_29_method_70_code 11 = .ok (.lreturn, 1) := by decide +kernel
theorem d5_6 : decode jdk_29_method_70_code 6 = .ok (.lload_n 0, 1) := by decide +kernel
theorem d5_7 : decode jdk_29_method_70_code 7 = .ok (.goto 4, 3) := by decide +kernel
def Q5 (Z : State) (q1 : Int64) (q2 : Int64) (h0 : Heap) (n0 : Nat) (v : Option Value) (h : Heap) (L : List Loc) : Prop := v = some (.long (own_min q1 q2)) ∧ Fr n0 L ∧ h = h0
set_option maxRecDepth 65536 in
set_option maxHeartbeats 40000000 in
theorem rm5 (l : Launch) (Z : State) (a0 : Array Value) (hw : ∀ d ∈ tables_1, d.before a0 Z = true) (ws : List Jvm.Cond) (q1 : Int64) (q2 : Int64) (h0 : Heap) (n0 : Nat) (Z0 : n0 ≤ h0.size) :
    MetFree l (⟨"java/lang/Math", "min", "(JJ)J"⟩ : MethodName) (head1 (Jvm.Cond.code (⟨"java/lang/Math", "min", "(JJ)J"⟩ : MethodName) jdk_29_method_70_code 4 (some .long) :: ws) ({ frames := 0, cells := 0, slots := 0, locals := 0 } : Room)) (fun a U => a = #[(.long q1), (.long q2)] ∧ Z.Warmed39 U.vm ∧ U.heap = h0) (fun _ _ _ _ _ => True) (fun _ U o U' => ∃ v L, o = .returned v ∧ Q5 Z q1 q2 h0 n0 v U'.heap L ∧ FrameEnd U o U' L ({ frames := 0, cells := 0, slots := 0, locals := 0 } : Room).cells ({ frames := 0, cells := 0, slots := 0, locals := 0 } : Room).slots) := by
  refine MetFree.of_bodySF (Jvm.Free.JP.mathPlain rfl (by decide +kernel)) hisR ?_
  intro p e s m args below meth c s₁ Bd hml0 hP hK
  obtain ⟨rfl, hZ, hh⟩ := hP
  have hx := Bd.exec
  have hby := Bd.bytes
  have hml : c.maxLocals = 4 := hml0
  have hown : s.vm.findClass "java/lang/Math" = some m.cls := findClass_of_methodNamed Bd.named
  have hnm := (name_of_methodNamed Bd.named Bd.method).1
  have X0 : Stand p l e ({ frames := 0, cells := 0, slots := 0, locals := 0 } : Room) s m #[(.long q1), (.long q2)] below meth c s₁ [] 0 0 := Stand.of_body Bd
  have eh0 : s₁.heap = h0 := by rw [← hh, Bd.state]; rfl
  have N0 := Fr.nil n0
  have pre0 : ∀ t, Steps p.tables e below (s₁.setTop (mkF m 0 #[.val (.long q1), .second, .val (.long q2), .second] [])) t → Steps p.tables e below (s₁.setTop (entryFrame m #[(.long q1), (.long q2)] 4)) t := fun t k => castTop (ef_5 m q1 q2) k
  have pre2 : ∀ t, Steps p.tables e below (s₁.setTop (mkF m 3 #[.val (.long q1), .second, .val (.long q2), .second] [(.int (XT.cmpL q1 q2))])) t → Steps p.tables e below (s₁.setTop (entryFrame m #[(.long q1), (.long q2)] 4)) t := fun t k => pre0 t (by
    show Steps p.tables e below (s₁.setTop (mkF m 0 #[.val (.long q1), .second, .val (.long q2), .second] [])) t
    refine XT.lloadN X0.here hx rfl (hb hby d5_0) rfl ?_
    show Steps p.tables e below (s₁.setTop (mkF m 1 #[.val (.long q1), .second, .val (.long q2), .second] [(.long q1)])) t
    refine XT.lloadN X0.here hx rfl (hb hby d5_1) rfl ?_
    show Steps p.tables e below (s₁.setTop (mkF m 2 #[.val (.long q1), .second, .val (.long q2), .second] [(.long q2), (.long q1)])) t
    refine XT.lcmp X0.here hx rfl (hb hby d5_2) rfl ?_
    show Steps p.tables e below (s₁.setTop (mkF m 3 #[.val (.long q1), .second, .val (.long q2), .second] [(.int (XT.cmpL q1 q2))])) t
    exact k)
  by_cases hc3_1 : q2 < q1
  · skip
    have pre3 : ∀ t, Steps p.tables e below (s₁.setTop (mkF m 11 #[.val (.long q1), .second, .val (.long q2), .second] [(.long q2)])) t → Steps p.tables e below (s₁.setTop (entryFrame m #[(.long q1), (.long q2)] 4)) t := fun t k => pre2 t (by
      show Steps p.tables e below (s₁.setTop (mkF m 3 #[.val (.long q1), .second, .val (.long q2), .second] [(.int (XT.cmpL q1 q2))])) t
      refine XS.ifYes X0.here hx rfl (pc0 := 3) (pc' := 10) rfl (hb hby d5_3) rfl (XT.ll_gt_t hc3_1) (by decide) (by decide) ?_
      show Steps p.tables e below (s₁.setTop (mkF m 10 #[.val (.long q1), .second, .val (.long q2), .second] [])) t
      refine XT.lloadN X0.here hx rfl (hb hby d5_10) rfl ?_
      show Steps p.tables e below (s₁.setTop (mkF m 11 #[.val (.long q1), .second, .val (.long q2), .second] [(.long q2)])) t
      exact k)
    obtain ⟨fs, hr, hrun, hended, hW, hsame⟩ := X0.leave (v := some (.long q2)) (fun h => by rw [Bd.returns] at h; cases h)
    refine ⟨_, _, pre3 _ ?_, hrun, hended, _, _, rfl, ?_, ⟨_, rfl⟩, hW, hsame.mono (by decide) (by decide)⟩
    · show Steps p.tables e below (s₁.setTop (mkF m 11 #[.val (.long q1), .second, .val (.long q2), .second] [(.long q2)])) _
      jvm_step X0.here [X0.here.top, hx, (hb hby d5_11), X0.method', Bd.returns, narrow]
      first | (intro acts; rw [hr _ acts rfl rfl rfl]) | rw [hr _ _ rfl rfl rfl]
      exact Steps.refl _
    · show Q5 Z q1 q2 h0 n0 _ s₁.heap _
      rw [eh0]
      exact ⟨(congrArg (fun z => some (Value.long z)) (show q2 = (own_min q1 q2) from (by simp only [own_min, if_pos hc3_1]))), N0, rfl⟩
  · skip
    have pre4 : ∀ t, Steps p.tables e below (s₁.setTop (mkF m 11 #[.val (.long q1), .second, .val (.long q2), .second] [(.long q1)])) t → Steps p.tables e below (s₁.setTop (entryFrame m #[(.long q1), (.long q2)] 4)) t := fun t k => pre2 t (by
      show Steps p.tables e below (s₁.setTop (mkF m 3 #[.val (.long q1), .second, .val (.long q2), .second] [(.int (XT.cmpL q1 q2))])) t
      refine XS.ifNo X0.here hx rfl (hb hby d5_3) rfl (XT.ll_gt_f hc3_1) ?_
      show Steps p.tables e below (s₁.setTop (mkF m 6 #[.val (.long q1), .second, .val (.long q2), .second] [])) t
      refine XT.lloadN X0.here hx rfl (hb hby d5_6) rfl ?_
      show Steps p.tables e below (s₁.setTop (mkF m 7 #[.val (.long q1), .second, .val (.long q2), .second] [(.long q1)])) t
      refine XS.goto X0.here hx rfl (pc0 := 7) (pc' := 11) rfl (hb hby d5_7) (by decide) (by decide) ?_
      show Steps p.tables e below (s₁.setTop (mkF m 11 #[.val (.long q1), .second, .val (.long q2), .second] [(.long q1)])) t
      exact k)
    obtain ⟨fs, hr, hrun, hended, hW, hsame⟩ := X0.leave (v := some (.long q1)) (fun h => by rw [Bd.returns] at h; cases h)
    refine ⟨_, _, pre4 _ ?_, hrun, hended, _, _, rfl, ?_, ⟨_, rfl⟩, hW, hsame.mono (by decide) (by decide)⟩
    · show Steps p.tables e below (s₁.setTop (mkF m 11 #[.val (.long q1), .second, .val (.long q2), .second] [(.long q1)])) _
      jvm_step X0.here [X0.here.top, hx, (hb hby d5_11), X0.method', Bd.returns, narrow]
      first | (intro acts; rw [hr _ acts rfl rfl rfl]) | rw [hr _ _ rfl rfl rfl]
      exact Steps.refl _
    · show Q5 Z q1 q2 h0 n0 _ s₁.heap _
      rw [eh0]
      exact ⟨(congrArg (fun z => some (Value.long z)) (show q1 = (own_min q1 q2) from (by simp only [own_min, if_neg hc3_1]))), N0, rfl⟩
theorem ef_4 (m : MethodId) (a1 : Addr) (q2 : Int64) (q3 : Int64) (q4 : Int64) (q5 : Int64) (q6 : Int64) (q7 : Int64) : entryFrame m #[(.ref a1), (.long q2), (.long q3), (.long q4), (.long q5), (.long q6), (.long q7)] 13 = mkF m 0 #[.val (.ref a1), .val (.long q2), .second, .val (.long q3), .second, .val (.long q4), .second, .val (.long q5), .second, .val (.long q6), .second, .val (.long q7), .second] [] := by first | (simp [entryFrame, mkF, argsToLocals, Value.category]; done) | rfl
theorem d4_0 : decode prog_84_method_2_code 0 = .ok (.aload_n 0, 1) := by decide +kernel
theorem d4_1 : decode prog_84_method_2_code 1 = .ok (.dup, 1) := by decide +kernel
theorem d4_2 : decode prog_84_method_2_code 2 = .ok (.getfield 17, 3) := by decide +kernel
theorem d4_5 : decode prog_84_method_2_code 5 = .ok (.lload_n 1, 1) := by decide +kernel
theorem d4_6 : decode prog_84_method_2_code 6 = .ok (.ladd, 1) := by decide +kernel
theorem d4_7 : decode prog_84_method_2_code 7 = .ok (.putfield 17, 3) := by decide +kernel
theorem d4_10 : decode prog_84_method_2_code 10 = .ok (.aload_n 0, 1) := by decide +kernel
theorem d4_11 : decode prog_84_method_2_code 11 = .ok (.dup, 1) := by decide +kernel
theorem d4_12 : decode prog_84_method_2_code 12 = .ok (.getfield 20, 3) := by decide +kernel
theorem d4_15 : decode prog_84_method_2_code 15 = .ok (.lload_n 3, 1) := by decide +kernel
theorem d4_16 : decode prog_84_method_2_code 16 = .ok (.ladd, 1) := by decide +kernel
theorem d4_17 : decode prog_84_method_2_code 17 = .ok (.putfield 20, 3) := by decide +kernel
theorem d4_20 : decode prog_84_method_2_code 20 = .ok (.aload_n 0, 1) := by decide +kernel
theorem d4_21 : decode prog_84_method_2_code 21 = .ok (.dup, 1) := by decide +kernel
theorem d4_22 : decode prog_84_method_2_code 22 = .ok (.getfield 23, 3) := by decide +kernel
theorem d4_25 : decode prog_84_method_2_code 25 = .ok (.lload 5, 2) := by decide +kernel
theorem d4_27 : decode prog_84_method_2_code 27 = .ok (.ladd, 1) := by decide +kernel
theorem d4_28 : decode prog_84_method_2_code 28 = .ok (.putfield 23, 3) := by decide +kernel
theorem d4_31 : decode prog_84_method_2_code 31 = .ok (.aload_n 0, 1) := by decide +kernel
theorem d4_32 : decode prog_84_method_2_code 32 = .ok (.dup, 1) := by decide +kernel
theorem d4_33 : decode prog_84_method_2_code 33 = .ok (.getfield 26, 3) := by decide +kernel
theorem d4_36 : decode prog_84_method_2_code 36 = .ok (.lload 7, 2) := by decide +kernel
theorem d4_38 : decode prog_84_method_2_code 38 = .ok (.ladd, 1) := by decide +kernel
theorem d4_39 : decode prog_84_method_2_code 39 = .ok (.putfield 26, 3) := by decide +kernel
theorem d4_42 : decode prog_84_method_2_code 42 = .ok (.aload_n 0, 1) := by decide +kernel
theorem d4_43 : decode prog_84_method_2_code 43 = .ok (.dup, 1) := by decide +kernel
theorem d4_44 : decode prog_84_method_2_code 44 = .ok (.getfield 29, 3) := by decide +kernel
theorem d4_47 : decode prog_84_method_2_code 47 = .ok (.lload 9, 2) := by decide +kernel
theorem d4_49 : decode prog_84_method_2_code 49 = .ok (.ladd, 1) := by decide +kernel
theorem d4_50 : decode prog_84_method_2_code 50 = .ok (.putfield 29, 3) := by decide +kernel
theorem d4_53 : decode prog_84_method_2_code 53 = .ok (.aload_n 0, 1) := by decide +kernel
theorem d4_54 : decode prog_84_method_2_code 54 = .ok (.aload_n 0, 1) := by decide +kernel
theorem d4_55 : decode prog_84_method_2_code 55 = .ok (.getfield 11, 3) := by decide +kernel
theorem d4_58 : decode prog_84_method_2_code 58 = .ok (.lload 11, 2) := by decide +kernel
theorem d4_60 : decode prog_84_method_2_code 60 = .ok (.invokestatic 32, 3) := by decide +kernel
theorem pd_oJJcJ : parseMethodDescriptor "(JJ)J" = some ⟨[.long, .long], some .long⟩ := by decide +kernel
theorem d4_63 : decode prog_84_method_2_code 63 = .ok (.putfield 11, 3) := by decide +kernel
theorem d4_66 : decode prog_84_method_2_code 66 = .ok (.return_, 1) := by decide +kernel
def Q4 (Z : State) (a1 : Addr) (q2 : Int64) (q3 : Int64) (q4 : Int64) (q5 : Int64) (q6 : Int64) (q7 : Int64) (u0 : Int64) (u1 : Int64) (u2 : Int64) (u3 : Int64) (u4 : Int64) (u5 : Int64) (h0 : Heap) (n0 : Nat) (v : Option Value) (h : Heap) (L : List Loc) : Prop := v = none ∧ Fr n0 L ∧ Keep h0 h [a1] ∧ Exa Z h a1 "com/example/obturo/obturo/stats/internal/WindowTally" ∧ Fld Z h a1 "com/example/obturo/obturo/stats/internal/WindowTally" "pass" "J" (.long (u0 + q2)) ∧ Fld Z h a1 "com/example/obturo/obturo/stats/internal/WindowTally" "block" "J" (.long (u1 + q3)) ∧ Fld Z h a1 "com/example/obturo/obturo/stats/internal/WindowTally" "completed" "J" (.long (u2 + q4)) ∧ Fld Z h a1 "com/example/obturo/obturo/stats/internal/WindowTally" "errors" "J" (.long (u3 + q5)) ∧ Fld Z h a1 "com/example/obturo/obturo/stats/internal/WindowTally" "totalRtMillis" "J" (.long (u4 + q6)) ∧ Fld Z h a1 "com/example/obturo/obturo/stats/internal/WindowTally" "minRtMillis" "J" (.long (own_min u5 q7))
set_option maxRecDepth 65536 in
set_option maxHeartbeats 40000000 in
theorem rm4 (l : Launch) (Z : State) (a0 : Array Value) (hw : ∀ d ∈ tables_1, d.before a0 Z = true) (ws : List Jvm.Cond) (a1 : Addr) (q2 : Int64) (q3 : Int64) (q4 : Int64) (q5 : Int64) (q6 : Int64) (q7 : Int64) (u0 : Int64) (u1 : Int64) (u2 : Int64) (u3 : Int64) (u4 : Int64) (u5 : Int64) (h0 : Heap) (n0 : Nat) (Z0 : n0 ≤ h0.size) (E_a1 : Exa Z h0 a1 "com/example/obturo/obturo/stats/internal/WindowTally") (F_pass_a1 : Fld Z h0 a1 "com/example/obturo/obturo/stats/internal/WindowTally" "pass" "J" (.long u0)) (F_block_a1 : Fld Z h0 a1 "com/example/obturo/obturo/stats/internal/WindowTally" "block" "J" (.long u1)) (F_completed_a1 : Fld Z h0 a1 "com/example/obturo/obturo/stats/internal/WindowTally" "completed" "J" (.long u2)) (F_errors_a1 : Fld Z h0 a1 "com/example/obturo/obturo/stats/internal/WindowTally" "errors" "J" (.long u3)) (F_totalRtMillis_a1 : Fld Z h0 a1 "com/example/obturo/obturo/stats/internal/WindowTally" "totalRtMillis" "J" (.long u4)) (F_minRtMillis_a1 : Fld Z h0 a1 "com/example/obturo/obturo/stats/internal/WindowTally" "minRtMillis" "J" (.long u5)) (g_a1 : n0 ≤ a1) :
    MetFree l (⟨"com/example/obturo/obturo/stats/internal/WindowTally", "add", "(JJJJJJ)V"⟩ : MethodName) (head1 (Jvm.Cond.code (⟨"com/example/obturo/obturo/stats/internal/WindowTally", "add", "(JJJJJJ)V"⟩ : MethodName) prog_84_method_2_code 13 none :: ws) ({ frames := 1, cells := 0, slots := 0, locals := 16 } : Room)) (fun a U => a = #[(.ref a1), (.long q2), (.long q3), (.long q4), (.long q5), (.long q6), (.long q7)] ∧ Z.Warmed39 U.vm ∧ U.heap = h0) (fun _ _ _ _ _ => True) (fun _ U o U' => ∃ v L, o = .returned v ∧ Q4 Z a1 q2 q3 q4 q5 q6 q7 u0 u1 u2 u3 u4 u5 h0 n0 v U'.heap L ∧ FrameEnd U o U' L ({ frames := 1, cells := 0, slots := 0, locals := 16 } : Room).cells ({ frames := 1, cells := 0, slots := 0, locals := 16 } : Room).slots) := by
  refine MetFree.of_bodySF (plainFor_of_name pn_com_example_obturo_obturo_stats_internal_WindowTally) hisR ?_
  intro p e s m args below meth c s₁ Bd hml0 hP hK
  obtain ⟨rfl, hZ, hh⟩ := hP
  have hx := Bd.exec
  have hby := Bd.bytes
  have hml : c.maxLocals = 13 := hml0
  have hown : s.vm.findClass "com/example/obturo/obturo/stats/internal/WindowTally" = some m.cls := findClass_of_methodNamed Bd.named
  have hnm := (name_of_methodNamed Bd.named Bd.method).1
  have X0 : Stand p l e ({ frames := 1, cells := 0, slots := 0, locals := 16 } : Room) s m #[(.ref a1), (.long q2), (.long q3), (.long q4), (.long q5), (.long q6), (.long q7)] below meth c s₁ [] 0 0 := Stand.of_body Bd
  have eh0 : s₁.heap = h0 := by rw [← hh, Bd.state]; rfl
  have N0 := Fr.nil n0
  have pre0 : ∀ t, Steps p.tables e below (s₁.setTop (mkF m 0 #[.val (.ref a1), .val (.long q2), .second, .val (.long q3), .second, .val (.long q4), .second, .val (.long q5), .second, .val (.long q6), .second, .val (.long q7), .second] [])) t → Steps p.tables e below (s₁.setTop (entryFrame m #[(.ref a1), (.long q2), (.long q3), (.long q4), (.long q5), (.long q6), (.long q7)] 13)) t := fun t k => castTop (ef_4 m a1 q2 q3 q4 q5 q6 q7) k
  have K0 : Keep h0 h0 [a1] := Keep.refl _ _
  have pre1 : ∀ t, Steps p.tables e below (s₁.setTop (mkF m 2 #[.val (.ref a1), .val (.long q2), .second, .val (.long q3), .second, .val (.long q4), .second, .val (.long q5), .second, .val (.long q6), .second, .val (.long q7), .second] [(.ref a1), (.ref a1)])) t → Steps p.tables e below (s₁.setTop (entryFrame m #[(.ref a1), (.long q2), (.long q3), (.long q4), (.long q5), (.long q6), (.long q7)] 13)) t := fun t k => pre0 t (by
    show Steps p.tables e below (s₁.setTop (mkF m 0 #[.val (.ref a1), .val (.long q2), .second, .val (.long q3), .second, .val (.long q4), .second, .val (.long q5), .second, .val (.long q6), .second, .val (.long q7), .second] [])) t
    refine XS.aloadN X0.here hx rfl (hb hby d4_0) rfl rfl ?_
    show Steps p.tables e below (s₁.setTop (mkF m 1 #[.val (.ref a1), .val (.long q2), .second, .val (.long q3), .second, .val (.long q4), .second, .val (.long q5), .second, .val (.long q6), .second, .val (.long q7), .second] [(.ref a1)])) t
    refine XS.dup X0.here hx rfl (hb hby d4_1) rfl rfl ?_
    show Steps p.tables e below (s₁.setTop (mkF m 2 #[.val (.ref a1), .val (.long q2), .second, .val (.long q3), .second, .val (.long q4), .second, .val (.long q5), .second, .val (.long q6), .second, .val (.long q7), .second] [(.ref a1), (.ref a1)])) t
    exact k)
  obtain ⟨T2, X2, eh2, st2⟩ := getF X0 hx hZ hown (host := "") (Or.inl (hw _ (List.mem_of_getElem? (i := 17) rfl))) Via.refl eh0 F_pass_a1 (g := (mkF m 2 #[.val (.ref a1), .val (.long q2), .second, .val (.long q3), .second, .val (.long q4), .second, .val (.long q5), .second, .val (.long q6), .second, .val (.long q7), .second] [(.ref a1), (.ref a1)])) rfl rfl (hb hby d4_2)
  have pre3 : ∀ t, Steps p.tables e below (T2.setTop (mkF m 5 #[.val (.ref a1), .val (.long q2), .second, .val (.long q3), .second, .val (.long q4), .second, .val (.long q5), .second, .val (.long q6), .second, .val (.long q7), .second] [(.long u0), (.ref a1)])) t → Steps p.tables e below (s₁.setTop (entryFrame m #[(.ref a1), (.long q2), (.long q3), (.long q4), (.long q5), (.long q6), (.long q7)] 13)) t := fun t k => pre1 t (st2 _ k)
  have pre4 : ∀ t, Steps p.tables e below (T2.setTop (mkF m 7 #[.val (.ref a1), .val (.long q2), .second, .val (.long q3), .second, .val (.long q4), .second, .val (.long q5), .second, .val (.long q6), .second, .val (.long q7), .second] [(.long (u0 + q2)), (.ref a1)])) t → Steps p.tables e below (s₁.setTop (entryFrame m #[(.ref a1), (.long q2), (.long q3), (.long q4), (.long q5), (.long q6), (.long q7)] 13)) t := fun t k => pre3 t (by
    show Steps p.tables e below (T2.setTop (mkF m 5 #[.val (.ref a1), .val (.long q2), .second, .val (.long q3), .second, .val (.long q4), .second, .val (.long q5), .second, .val (.long q6), .second, .val (.long q7), .second] [(.long u0), (.ref a1)])) t
    refine XT.lloadN X2.here hx rfl (hb hby d4_5) rfl ?_
    show Steps p.tables e below (T2.setTop (mkF m 6 #[.val (.ref a1), .val (.long q2), .second, .val (.long q3), .second, .val (.long q4), .second, .val (.long q5), .second, .val (.long q6), .second, .val (.long q7), .second] [(.long q2), (.long u0), (.ref a1)])) t
    refine XT.ladd X2.here hx rfl (hb hby d4_6) rfl ?_
    show Steps p.tables e below (T2.setTop (mkF m 7 #[.val (.ref a1), .val (.long q2), .second, .val (.long q3), .second, .val (.long q4), .second, .val (.long q5), .second, .val (.long q6), .second, .val (.long q7), .second] [(.long (u0 + q2)), (.ref a1)])) t
    exact k)
  obtain ⟨T5, h5, X5, eh5, W5, st5⟩ := putF X2 hx hZ hown (host := "") (Or.inl (hw _ (List.mem_of_getElem? (i := 17) rfl))) Via.refl eh2 F_pass_a1 E_a1 (Or.inl (hw _ (List.mem_of_getElem? (i := 18) rfl))) (hw _ (List.mem_of_getElem? (i := 1) rfl)) (ty := .long) (by decide) rfl rfl (g := (mkF m 7 #[.val (.ref a1), .val (.long q2), .second, .val (.long q3), .second, .val (.long q4), .second, .val (.long q5), .second, .val (.long q6), .second, .val (.long q7), .second] [(.long (u0 + q2)), (.ref a1)])) rfl rfl (hb hby d4_7)
  have E_a1__5 : Exa Z h5 a1 "com/example/obturo/obturo/stats/internal/WindowTally" := E_a1.wr W5
  have F_block_a1__5 : Fld Z h5 a1 "com/example/obturo/obturo/stats/internal/WindowTally" "block" "J" (.long u1) := F_block_a1.other W5 (Or.inr (slot_ne (Or.inl (hw _ (List.mem_of_getElem? (i := 20) rfl))) (Or.inl (hw _ (List.mem_of_getElem? (i := 18) rfl))) (by decide) (t := .long) (t' := .long) (by decide) (by decide)))
  have F_completed_a1__5 : Fld Z h5 a1 "com/example/obturo/obturo/stats/internal/WindowTally" "completed" "J" (.long u2) := F_completed_a1.other W5 (Or.inr (slot_ne (Or.inl (hw _ (List.mem_of_getElem? (i := 22) rfl))) (Or.inl (hw _ (List.mem_of_getElem? (i := 18) rfl))) (by decide) (t := .long) (t' := .long) (by decide) (by decide)))
  have F_errors_a1__5 : Fld Z h5 a1 "com/example/obturo/obturo/stats/internal/WindowTally" "errors" "J" (.long u3) := F_errors_a1.other W5 (Or.inr (slot_ne (Or.inl (hw _ (List.mem_of_getElem? (i := 30) rfl))) (Or.inl (hw _ (List.mem_of_getElem? (i := 18) rfl))) (by decide) (t := .long) (t' := .long) (by decide) (by decide)))
  have F_totalRtMillis_a1__5 : Fld Z h5 a1 "com/example/obturo/obturo/stats/internal/WindowTally" "totalRtMillis" "J" (.long u4) := F_totalRtMillis_a1.other W5 (Or.inr (slot_ne (Or.inl (hw _ (List.mem_of_getElem? (i := 32) rfl))) (Or.inl (hw _ (List.mem_of_getElem? (i := 18) rfl))) (by decide) (t := .long) (t' := .long) (by decide) (by decide)))
  have F_minRtMillis_a1__5 : Fld Z h5 a1 "com/example/obturo/obturo/stats/internal/WindowTally" "minRtMillis" "J" (.long u5) := F_minRtMillis_a1.other W5 (Or.inr (slot_ne (Or.inl (hw _ (List.mem_of_getElem? (i := 11) rfl))) (Or.inl (hw _ (List.mem_of_getElem? (i := 18) rfl))) (by decide) (t := .long) (t' := .long) (by decide) (by decide)))
  have sz5 : n0 ≤ h5.size := Nat.le_trans Z0 (Keep.of_wr W5).1
  have K5 : Keep h0 h5 [a1] := K0.wr W5 (Or.inl (List.mem_of_getElem? (i := 0) rfl))
  have N5 := Fr.snoc X5 N0 g_a1
  have F_pass_a1__5 : Fld Z h5 a1 "com/example/obturo/obturo/stats/internal/WindowTally" "pass" "J" (.long (u0 + q2)) := F_pass_a1.same W5
  have pre6 : ∀ t, Steps p.tables e below (T5.setTop (mkF m 10 #[.val (.ref a1), .val (.long q2), .second, .val (.long q3), .second, .val (.long q4), .second, .val (.long q5), .second, .val (.long q6), .second, .val (.long q7), .second] [])) t → Steps p.tables e below (s₁.setTop (entryFrame m #[(.ref a1), (.long q2), (.long q3), (.long q4), (.long q5), (.long q6), (.long q7)] 13)) t := fun t k => pre4 t (st5 _ k)
  have pre7 : ∀ t, Steps p.tables e below (T5.setTop (mkF m 12 #[.val (.ref a1), .val (.long q2), .second, .val (.long q3), .second, .val (.long q4), .second, .val (.long q5), .second, .val (.long q6), .second, .val (.long q7), .second] [(.ref a1), (.ref a1)])) t → Steps p.tables e below (s₁.setTop (entryFrame m #[(.ref a1), (.long q2), (.long q3), (.long q4), (.long q5), (.long q6), (.long q7)] 13)) t := fun t k => pre6 t (by
    show Steps p.tables e below (T5.setTop (mkF m 10 #[.val (.ref a1), .val (.long q2), .second, .val (.long q3), .second, .val (.long q4), .second, .val (.long q5), .second, .val (.long q6), .second, .val (.long q7), .second] [])) t
    refine XS.aloadN X5.here hx rfl (hb hby d4_10) rfl rfl ?_
    show Steps p.tables e below (T5.setTop (mkF m 11 #[.val (.ref a1), .val (.long q2), .second, .val (.long q3), .second, .val (.long q4), .second, .val (.long q5), .second, .val (.long q6), .second, .val (.long q7), .second] [(.ref a1)])) t
    refine XS.dup X5.here hx rfl (hb hby d4_11) rfl rfl ?_
    show Steps p.tables e below (T5.setTop (mkF m 12 #[.val (.ref a1), .val (.long q2), .second, .val (.long q3), .second, .val (.long q4), .second, .val (.long q5), .second, .val (.long q6), .second, .val (.long q7), .second] [(.ref a1), (.ref a1)])) t
    exact k)
  obtain ⟨T8, X8, eh8, st8⟩ := getF X5 hx hZ hown (host := "") (Or.inl (hw _ (List.mem_of_getElem? (i := 19) rfl))) Via.refl eh5 F_block_a1__5 (g := (mkF m 12 #[.val (.ref a1), .val (.long q2), .second, .val (.long q3), .second, .val (.long q4), .second, .val (.long q5), .second, .val (.long q6), .second, .val (.long q7), .second] [(.ref a1), (.ref a1)])) rfl rfl (hb hby d4_12)
  have pre9 : ∀ t, Steps p.tables e below (T8.setTop (mkF m 15 #[.val (.ref a1), .val (.long q2), .second, .val (.long q3), .second, .val (.long q4), .second, .val (.long q5), .second, .val (.long q6), .second, .val (.long q7), .second] [(.long u1), (.ref a1)])) t → Steps p.tables e below (s₁.setTop (entryFrame m #[(.ref a1), (.long q2), (.long q3), (.long q4), (.long q5), (.long q6), (.long q7)] 13)) t := fun t k => pre7 t (st8 _ k)
  have pre10 : ∀ t, Steps p.tables e below (T8.setTop (mkF m 17 #[.val (.ref a1), .val (.long q2), .second, .val (.long q3), .second, .val (.long q4), .second, .val (.long q5), .second, .val (.long q6), .second, .val (.long q7), .second] [(.long (u1 + q3)), (.ref a1)])) t → Steps p.tables e below (s₁.setTop (entryFrame m #[(.ref a1), (.long q2), (.long q3), (.long q4), (.long q5), (.long q6), (.long q7)] 13)) t := fun t k => pre9 t (by
    show Steps p.tables e below (T8.setTop (mkF m 15 #[.val (.ref a1), .val (.long q2), .second, .val (.long q3), .second, .val (.long q4), .second, .val (.long q5), .second, .val (.long q6), .second, .val (.long q7), .second] [(.long u1), (.ref a1)])) t
    refine XT.lloadN X8.here hx rfl (hb hby d4_15) rfl ?_
    show Steps p.tables e below (T8.setTop (mkF m 16 #[.val (.ref a1), .val (.long q2), .second, .val (.long q3), .second, .val (.long q4), .second, .val (.long q5), .second, .val (.long q6), .second, .val (.long q7), .second] [(.long q3), (.long u1), (.ref a1)])) t
    refine XT.ladd X8.here hx rfl (hb hby d4_16) rfl ?_
    show Steps p.tables e below (T8.setTop (mkF m 17 #[.val (.ref a1), .val (.long q2), .second, .val (.long q3), .second, .val (.long q4), .second, .val (.long q5), .second, .val (.long q6), .second, .val (.long q7), .second] [(.long (u1 + q3)), (.ref a1)])) t
    exact k)
  obtain ⟨T11, h11, X11, eh11, W11, st11⟩ := putF X8 hx hZ hown (host := "") (Or.inl (hw _ (List.mem_of_getElem? (i := 19) rfl))) Via.refl eh8 F_block_a1__5 E_a1__5 (Or.inl (hw _ (List.mem_of_getElem? (i := 20) rfl))) (hw _ (List.mem_of_getElem? (i := 1) rfl)) (ty := .long) (by decide) rfl rfl (g := (mkF m 17 #[.val (.ref a1), .val (.long q2), .second, .val (.long q3), .second, .val (.long q4), .second, .val (.long q5), .second, .val (.long q6), .second, .val (.long q7), .second] [(.long (u1 + q3)), (.ref a1)])) rfl rfl (hb hby d4_17)
  have E_a1__11 : Exa Z h11 a1 "com/example/obturo/obturo/stats/internal/WindowTally" := E_a1__5.wr W11
  have F_pass_a1__11 : Fld Z h11 a1 "com/example/obturo/obturo/stats/internal/WindowTally" "pass" "J" (.long (u0 + q2)) := F_pass_a1__5.other W11 (Or.inr (slot_ne (Or.inl (hw _ (List.mem_of_getElem? (i := 18) rfl))) (Or.inl (hw _ (List.mem_of_getElem? (i := 20) rfl))) (by decide) (t := .long) (t' := .long) (by decide) (by decide)))
  have F_completed_a1__11 : Fld Z h11 a1 "com/example/obturo/obturo/stats/internal/WindowTally" "completed" "J" (.long u2) := F_completed_a1__5.other W11 (Or.inr (slot_ne (Or.inl (hw _ (List.mem_of_getElem? (i := 22) rfl))) (Or.inl (hw _ (List.mem_of_getElem? (i := 20) rfl))) (by decide) (t := .long) (t' := .long) (by decide) (by decide)))
  have F_errors_a1__11 : Fld Z h11 a1 "com/example/obturo/obturo/stats/internal/WindowTally" "errors" "J" (.long u3) := F_errors_a1__5.other W11 (Or.inr (slot_ne (Or.inl (hw _ (List.mem_of_getElem? (i := 30) rfl))) (Or.inl (hw _ (List.mem_of_getElem? (i := 20) rfl))) (by decide) (t := .long) (t' := .long) (by decide) (by decide)))
  have F_totalRtMillis_a1__11 : Fld Z h11 a1 "com/example/obturo/obturo/stats/internal/WindowTally" "totalRtMillis" "J" (.long u4) := F_totalRtMillis_a1__5.other W11 (Or.inr (slot_ne (Or.inl (hw _ (List.mem_of_getElem? (i := 32) rfl))) (Or.inl (hw _ (List.mem_of_getElem? (i := 20) rfl))) (by decide) (t := .long) (t' := .long) (by decide) (by decide)))
  have F_minRtMillis_a1__11 : Fld Z h11 a1 "com/example/obturo/obturo/stats/internal/WindowTally" "minRtMillis" "J" (.long u5) := F_minRtMillis_a1__5.other W11 (Or.inr (slot_ne (Or.inl (hw _ (List.mem_of_getElem? (i := 11) rfl))) (Or.inl (hw _ (List.mem_of_getElem? (i := 20) rfl))) (by decide) (t := .long) (t' := .long) (by decide) (by decide)))
  have sz11 : n0 ≤ h11.size := Nat.le_trans sz5 (Keep.of_wr W11).1
  have K11 : Keep h0 h11 [a1] := K5.wr W11 (Or.inl (List.mem_of_getElem? (i := 0) rfl))
  have N11 := Fr.snoc X11 N5 g_a1
  have F_block_a1__11 : Fld Z h11 a1 "com/example/obturo/obturo/stats/internal/WindowTally" "block" "J" (.long (u1 + q3)) := F_block_a1__5.same W11
  have pre12 : ∀ t, Steps p.tables e below (T11.setTop (mkF m 20 #[.val (.ref a1), .val (.long q2), .second, .val (.long q3), .second, .val (.long q4), .second, .val (.long q5), .second, .val (.long q6), .second, .val (.long q7), .second] [])) t → Steps p.tables e below (s₁.setTop (entryFrame m #[(.ref a1), (.long q2), (.long q3), (.long q4), (.long q5), (.long q6), (.long q7)] 13)) t := fun t k => pre10 t (st11 _ k)
  have pre13 : ∀ t, Steps p.tables e below (T11.setTop (mkF m 22 #[.val (.ref a1), .val (.long q2), .second, .val (.long q3), .second, .val (.long q4), .second, .val (.long q5), .second, .val (.long q6), .second, .val (.long q7), .second] [(.ref a1), (.ref a1)])) t → Steps p.tables e below (s₁.setTop (entryFrame m #[(.ref a1), (.long q2), (.long q3), (.long q4), (.long q5), (.long q6), (.long q7)] 13)) t := fun t k => pre12 t (by
    show Steps p.tables e below (T11.setTop (mkF m 20 #[.val (.ref a1), .val (.long q2), .second, .val (.long q3), .second, .val (.long q4), .second, .val (.long q5), .second, .val (.long q6), .second, .val (.long q7), .second] [])) t
    refine XS.aloadN X11.here hx rfl (hb hby d4_20) rfl rfl ?_
    show Steps p.tables e below (T11.setTop (mkF m 21 #[.val (.ref a1), .val (.long q2), .second, .val (.long q3), .second, .val (.long q4), .second, .val (.long q5), .second, .val (.long q6), .second, .val (.long q7), .second] [(.ref a1)])) t
    refine XS.dup X11.here hx rfl (hb hby d4_21) rfl rfl ?_
    show Steps p.tables e below (T11.setTop (mkF m 22 #[.val (.ref a1), .val (.long q2), .second, .val (.long q3), .second, .val (.long q4), .second, .val (.long q5), .second, .val (.long q6), .second, .val (.long q7), .second] [(.ref a1), (.ref a1)])) t
    exact k)
  obtain ⟨T14, X14, eh14, st14⟩ := getF X11 hx hZ hown (host := "") (Or.inl (hw _ (List.mem_of_getElem? (i := 21) rfl))) Via.refl eh11 F_completed_a1__11 (g := (mkF m 22 #[.val (.ref a1), .val (.long q2), .second, .val (.long q3), .second, .val (.long q4), .second, .val (.long q5), .second, .val (.long q6), .second, .val (.long q7), .second] [(.ref a1), (.ref a1)])) rfl rfl (hb hby d4_22)
  have pre15 : ∀ t, Steps p.tables e below (T14.setTop (mkF m 25 #[.val (.ref a1), .val (.long q2), .second, .val (.long q3), .second, .val (.long q4), .second, .val (.long q5), .second, .val (.long q6), .second, .val (.long q7), .second] [(.long u2), (.ref a1)])) t → Steps p.tables e below (s₁.setTop (entryFrame m #[(.ref a1), (.long q2), (.long q3), (.long q4), (.long q5), (.long q6), (.long q7)] 13)) t := fun t k => pre13 t (st14 _ k)
  have pre16 : ∀ t, Steps p.tables e below (T14.setTop (mkF m 28 #[.val (.ref a1), .val (.long q2), .second, .val (.long q3), .second, .val (.long q4), .second, .val (.long q5), .second, .val (.long q6), .second, .val (.long q7), .second] [(.long (u2 + q4)), (.ref a1)])) t → Steps p.tables e below (s₁.setTop (entryFrame m #[(.ref a1), (.long q2), (.long q3), (.long q4), (.long q5), (.long q6), (.long q7)] 13)) t := fun t k => pre15 t (by
    show Steps p.tables e below (T14.setTop (mkF m 25 #[.val (.ref a1), .val (.long q2), .second, .val (.long q3), .second, .val (.long q4), .second, .val (.long q5), .second, .val (.long q6), .second, .val (.long q7), .second] [(.long u2), (.ref a1)])) t
    refine XT.lload X14.here hx rfl (hb hby d4_25) rfl ?_
    show Steps p.tables e below (T14.setTop (mkF m 27 #[.val (.ref a1), .val (.long q2), .second, .val (.long q3), .second, .val (.long q4), .second, .val (.long q5), .second, .val (.long q6), .second, .val (.long q7), .second] [(.long q4), (.long u2), (.ref a1)])) t
    refine XT.ladd X14.here hx rfl (hb hby d4_27) rfl ?_
    show Steps p.tables e below (T14.setTop (mkF m 28 #[.val (.ref a1), .val (.long q2), .second, .val (.long q3), .second, .val (.long q4), .second, .val (.long q5), .second, .val (.long q6), .second, .val (.long q7), .second] [(.long (u2 + q4)), (.ref a1)])) t
    exact k)
  obtain ⟨T17, h17, X17, eh17, W17, st17⟩ := putF X14 hx hZ hown (host := "") (Or.inl (hw _ (List.mem_of_getElem? (i := 21) rfl))) Via.refl eh14 F_completed_a1__11 E_a1__11 (Or.inl (hw _ (List.mem_of_getElem? (i := 22) rfl))) (hw _ (List.mem_of_getElem? (i := 1) rfl)) (ty := .long) (by decide) rfl rfl (g := (mkF m 28 #[.val (.ref a1), .val (.long q2), .second, .val (.long q3), .second, .val (.long q4), .second, .val (.long q5), .second, .val (.long q6), .second, .val (.long q7), .second] [(.long (u2 + q4)), (.ref a1)])) rfl rfl (hb hby d4_28)
  have E_a1__17 : Exa Z h17 a1 "com/example/obturo/obturo/stats/internal/WindowTally" := E_a1__11.wr W17
  have F_pass_a1__17 : Fld Z h17 a1 "com/example/obturo/obturo/stats/internal/WindowTally" "pass" "J" (.long (u0 + q2)) := F_pass_a1__11.other W17 (Or.inr (slot_ne (Or.inl (hw _ (List.mem_of_getElem? (i := 18) rfl))) (Or.inl (hw _ (List.mem_of_getElem? (i := 22) rfl))) (by decide) (t := .long) (t' := .long) (by decide) (by decide)))
  have F_block_a1__17 : Fld Z h17 a1 "com/example/obturo/obturo/stats/internal/WindowTally" "block" "J" (.long (u1 + q3)) := F_block_a1__11.other W17 (Or.inr (slot_ne (Or.inl (hw _ (List.mem_of_getElem? (i := 20) rfl))) (Or.inl (hw _ (List.mem_of_getElem? (i := 22) rfl))) (by decide) (t := .long) (t' := .long) (by decide) (by decide)))
  have F_errors_a1__17 : Fld Z h17 a1 "com/example/obturo/obturo/stats/internal/WindowTally" "errors" "J" (.long u3) := F_errors_a1__11.other W17 (Or.inr (slot_ne (Or.inl (hw _ (List.mem_of_getElem? (i := 30) rfl))) (Or.inl (hw _ (List.mem_of_getElem? (i := 22) rfl))) (by decide) (t := .long) (t' := .long) (by decide) (by decide)))
  have F_totalRtMillis_a1__17 : Fld Z h17 a1 "com/example/obturo/obturo/stats/internal/WindowTally" "totalRtMillis" "J" (.long u4) := F_totalRtMillis_a1__11.other W17 (Or.inr (slot_ne (Or.inl (hw _ (List.mem_of_getElem? (i := 32) rfl))) (Or.inl (hw _ (List.mem_of_getElem? (i := 22) rfl))) (by decide) (t := .long) (t' := .long) (by decide) (by decide)))
  have F_minRtMillis_a1__17 : Fld Z h17 a1 "com/example/obturo/obturo/stats/internal/WindowTally" "minRtMillis" "J" (.long u5) := F_minRtMillis_a1__11.other W17 (Or.inr (slot_ne (Or.inl (hw _ (List.mem_of_getElem? (i := 11) rfl))) (Or.inl (hw _ (List.mem_of_getElem? (i := 22) rfl))) (by decide) (t := .long) (t' := .long) (by decide) (by decide)))
  have sz17 : n0 ≤ h17.size := Nat.le_trans sz11 (Keep.of_wr W17).1
  have K17 : Keep h0 h17 [a1] := K11.wr W17 (Or.inl (List.mem_of_getElem? (i := 0) rfl))
  have N17 := Fr.snoc X17 N11 g_a1
  have F_completed_a1__17 : Fld Z h17 a1 "com/example/obturo/obturo/stats/internal/WindowTally" "completed" "J" (.long (u2 + q4)) := F_completed_a1__11.same W17
  have pre18 : ∀ t, Steps p.tables e below (T17.setTop (mkF m 31 #[.val (.ref a1), .val (.long q2), .second, .val (.long q3), .second, .val (.long q4), .second, .val (.long q5), .second, .val (.long q6), .second, .val (.long q7), .second] [])) t → Steps p.tables e below (s₁.setTop (entryFrame m #[(.ref a1), (.long q2), (.long q3), (.long q4), (.long q5), (.long q6), (.long q7)] 13)) t := fun t k => pre16 t (st17 _ k)
  have pre19 : ∀ t, Steps p.tables e below (T17.setTop (mkF m 33 #[.val (.ref a1), .val (.long q2), .second, .val (.long q3), .second, .val (.long q4), .second, .val (.long q5), .second, .val (.long q6), .second, .val (.long q7), .second] [(.ref a1), (.ref a1)])) t → Steps p.tables e below (s₁.setTop (entryFrame m #[(.ref a1), (.long q2), (.long q3), (.long q4), (.long q5), (.long q6), (.long q7)] 13)) t := fun t k => pre18 t (by
    show Steps p.tables e below (T17.setTop (mkF m 31 #[.val (.ref a1), .val (.long q2), .second, .val (.long q3), .second, .val (.long q4), .second, .val (.long q5), .second, .val (.long q6), .second, .val (.long q7), .second] [])) t
    refine XS.aloadN X17.here hx rfl (hb hby d4_31) rfl rfl ?_
    show Steps p.tables e below (T17.setTop (mkF m 32 #[.val (.ref a1), .val (.long q2), .second, .val (.long q3), .second, .val (.long q4), .second, .val (.long q5), .second, .val (.long q6), .second, .val (.long q7), .second] [(.ref a1)])) t
    refine XS.dup X17.here hx rfl (hb hby d4_32) rfl rfl ?_
    show Steps p.tables e below (T17.setTop (mkF m 33 #[.val (.ref a1), .val (.long q2), .second, .val (.long q3), .second, .val (.long q4), .second, .val (.long q5), .second, .val (.long q6), .second, .val (.long q7), .second] [(.ref a1), (.ref a1)])) t
    exact k)
  obtain ⟨T20, X20, eh20, st20⟩ := getF X17 hx hZ hown (host := "") (Or.inl (hw _ (List.mem_of_getElem? (i := 29) rfl))) Via.refl eh17 F_errors_a1__17 (g := (mkF m 33 #[.val (.ref a1), .val (.long q2), .second, .val (.long q3), .second, .val (.long q4), .second, .val (.long q5), .second, .val (.long q6), .second, .val (.long q7), .second] [(.ref a1), (.ref a1)])) rfl rfl (hb hby d4_33)
  have pre21 : ∀ t, Steps p.tables e below (T20.setTop (mkF m 36 #[.val (.ref a1), .val (.long q2), .second, .val (.long q3), .second, .val (.long q4), .second, .val (.long q5), .second, .val (.long q6), .second, .val (.long q7), .second] [(.long u3), (.ref a1)])) t → Steps p.tables e below (s₁.setTop (entryFrame m #[(.ref a1), (.long q2), (.long q3), (.long q4), (.long q5), (.long q6), (.long q7)] 13)) t := fun t k => pre19 t (st20 _ k)
  have pre22 : ∀ t, Steps p.tables e below (T20.setTop (mkF m 39 #[.val (.ref a1), .val (.long q2), .second, .val (.long q3), .second, .val (.long q4), .second, .val (.long q5), .second, .val (.long q6), .second, .val (.long q7), .second] [(.long (u3 + q5)), (.ref a1)])) t → Steps p.tables e below (s₁.setTop (entryFrame m #[(.ref a1), (.long q2), (.long q3), (.long q4), (.long q5), (.long q6), (.long q7)] 13)) t := fun t k => pre21 t (by
    show Steps p.tables e below (T20.setTop (mkF m 36 #[.val (.ref a1), .val (.long q2), .second, .val (.long q3), .second, .val (.long q4), .second, .val (.long q5), .second, .val (.long q6), .second, .val (.long q7), .second] [(.long u3), (.ref a1)])) t
    refine XT.lload X20.here hx rfl (hb hby d4_36) rfl ?_
    show Steps p.tables e below (T20.setTop (mkF m 38 #[.val (.ref a1), .val (.long q2), .second, .val (.long q3), .second, .val (.long q4), .second, .val (.long q5), .second, .val (.long q6), .second, .val (.long q7), .second] [(.long q5), (.long u3), (.ref a1)])) t
    refine XT.ladd X20.here hx rfl (hb hby d4_38) rfl ?_
    show Steps p.tables e below (T20.setTop (mkF m 39 #[.val (.ref a1), .val (.long q2), .second, .val (.long q3), .second, .val (.long q4), .second, .val (.long q5), .second, .val (.long q6), .second, .val (.long q7), .second] [(.long (u3 + q5)), (.ref a1)])) t
    exact k)
  obtain ⟨T23, h23, X23, eh23, W23, st23⟩ := putF X20 hx hZ hown (host := "") (Or.inl (hw _ (List.mem_of_getElem? (i := 29) rfl))) Via.refl eh20 F_errors_a1__17 E_a1__17 (Or.inl (hw _ (List.mem_of_getElem? (i := 30) rfl))) (hw _ (List.mem_of_getElem? (i := 1) rfl)) (ty := .long) (by decide) rfl rfl (g := (mkF m 39 #[.val (.ref a1), .val (.long q2), .second, .val (.long q3), .second, .val (.long q4), .second, .val (.long q5), .second, .val (.long q6), .second, .val (.long q7), .second] [(.long (u3 + q5)), (.ref a1)])) rfl rfl (hb hby d4_39)
  have E_a1__23 : Exa Z h23 a1 "com/example/obturo/obturo/stats/internal/WindowTally" := E_a1__17.wr W23
  have F_pass_a1__23 : Fld Z h23 a1 "com/example/obturo/obturo/stats/internal/WindowTally" "pass" "J" (.long (u0 + q2)) := F_pass_a1__17.other W23 (Or.inr (slot_ne (Or.inl (hw _ (List.mem_of_getElem? (i := 18) rfl))) (Or.inl (hw _ (List.mem_of_getElem? (i := 30) rfl))) (by decide) (t := .long) (t' := .long) (by decide) (by decide)))
  have F_block_a1__23 : Fld Z h23 a1 "com/example/obturo/obturo/stats/internal/WindowTally" "block" "J" (.long (u1 + q3)) := F_block_a1__17.other W23 (Or.inr (slot_ne (Or.inl (hw _ (List.mem_of_getElem? (i := 20) rfl))) (Or.inl (hw _ (List.mem_of_getElem? (i := 30) rfl))) (by decide) (t := .long) (t' := .long) (by decide) (by decide)))
  have F_completed_a1__23 : Fld Z h23 a1 "com/example/obturo/obturo/stats/internal/WindowTally" "completed" "J" (.long (u2 + q4)) := F_completed_a1__17.other W23 (Or.inr (slot_ne (Or.inl (hw _ (List.mem_of_getElem? (i := 22) rfl))) (Or.inl (hw _ (List.mem_of_getElem? (i := 30) rfl))) (by decide) (t := .long) (t' := .long) (by decide) (by decide)))
  have F_totalRtMillis_a1__23 : Fld Z h23 a1 "com/example/obturo/obturo/stats/internal/WindowTally" "totalRtMillis" "J" (.long u4) := F_totalRtMillis_a1__17.other W23 (Or.inr (slot_ne (Or.inl (hw _ (List.mem_of_getElem? (i := 32) rfl))) (Or.inl (hw _ (List.mem_of_getElem? (i := 30) rfl))) (by decide) (t := .long) (t' := .long) (by decide) (by decide)))
  have F_minRtMillis_a1__23 : Fld Z h23 a1 "com/example/obturo/obturo/stats/internal/WindowTally" "minRtMillis" "J" (.long u5) := F_minRtMillis_a1__17.other W23 (Or.inr (slot_ne (Or.inl (hw _ (List.mem_of_getElem? (i := 11) rfl))) (Or.inl (hw _ (List.mem_of_getElem? (i := 30) rfl))) (by decide) (t := .long) (t' := .long) (by decide) (by decide)))
  have sz23 : n0 ≤ h23.size := Nat.le_trans sz17 (Keep.of_wr W23).1
  have K23 : Keep h0 h23 [a1] := K17.wr W23 (Or.inl (List.mem_of_getElem? (i := 0) rfl))
  have N23 := Fr.snoc X23 N17 g_a1
  have F_errors_a1__23 : Fld Z h23 a1 "com/example/obturo/obturo/stats/internal/WindowTally" "errors" "J" (.long (u3 + q5)) := F_errors_a1__17.same W23
  have pre24 : ∀ t, Steps p.tables e below (T23.setTop (mkF m 42 #[.val (.ref a1), .val (.long q2), .second, .val (.long q3), .second, .val (.long q4), .second, .val (.long q5), .second, .val (.long q6), .second, .val (.long q7), .second] [])) t → Steps p.tables e below (s₁.setTop (entryFrame m #[(.ref a1), (.long q2), (.long q3), (.long q4), (.long q5), (.long q6), (.long q7)] 13)) t := fun t k => pre22 t (st23 _ k)
  have pre25 : ∀ t, Steps p.tables e below (T23.setTop (mkF m 44 #[.val (.ref a1), .val (.long q2), .second, .val (.long q3), .second, .val (.long q4), .second, .val (.long q5), .second, .val (.long q6), .second, .val (.long q7), .second] [(.ref a1), (.ref a1)])) t → Steps p.tables e below (s₁.setTop (entryFrame m #[(.ref a1), (.long q2), (.long q3), (.long q4), (.long q5), (.long q6), (.long q7)] 13)) t := fun t k => pre24 t (by
    show Steps p.tables e below (T23.setTop (mkF m 42 #[.val (.ref a1), .val (.long q2), .second, .val (.long q3), .second, .val (.long q4), .second, .val (.long q5), .second, .val (.long q6), .second, .val (.long q7), .second] [])) t
    refine XS.aloadN X23.here hx rfl (hb hby d4_42) rfl rfl ?_
    show Steps p.tables e below (T23.setTop (mkF m 43 #[.val (.ref a1), .val (.long q2), .second, .val (.long q3), .second, .val (.long q4), .second, .val (.long q5), .second, .val (.long q6), .second, .val (.long q7), .second] [(.ref a1)])) t
    refine XS.dup X23.here hx rfl (hb hby d4_43) rfl rfl ?_
    show Steps p.tables e below (T23.setTop (mkF m 44 #[.val (.ref a1), .val (.long q2), .second, .val (.long q3), .second, .val (.long q4), .second, .val (.long q5), .second, .val (.long q6), .second, .val (.long q7), .second] [(.ref a1), (.ref a1)])) t
    exact k)
  obtain ⟨T26, X26, eh26, st26⟩ := getF X23 hx hZ hown (host := "") (Or.inl (hw _ (List.mem_of_getElem? (i := 31) rfl))) Via.refl eh23 F_totalRtMillis_a1__23 (g := (mkF m 44 #[.val (.ref a1), .val (.long q2), .second, .val (.long q3), .second, .val (.long q4), .second, .val (.long q5), .second, .val (.long q6), .second, .val (.long q7), .second] [(.ref a1), (.ref a1)])) rfl rfl (hb hby d4_44)
  have pre27 : ∀ t, Steps p.tables e below (T26.setTop (mkF m 47 #[.val (.ref a1), .val (.long q2), .second, .val (.long q3), .second, .val (.long q4), .second, .val (.long q5), .second, .val (.long q6), .second, .val (.long q7), .second] [(.long u4), (.ref a1)])) t → Steps p.tables e below (s₁.setTop (entryFrame m #[(.ref a1), (.long q2), (.long q3), (.long q4), (.long q5), (.long q6), (.long q7)] 13)) t := fun t k => pre25 t (st26 _ k)
  have pre28 : ∀ t, Steps p.tables e below (T26.setTop (mkF m 50 #[.val (.ref a1), .val (.long q2), .second, .val (.long q3), .second, .val (.long q4), .second, .val (.long q5), .second, .val (.long q6), .second, .val (.long q7), .second] [(.long (u4 + q6)), (.ref a1)])) t → Steps p.tables e below (s₁.setTop (entryFrame m #[(.ref a1), (.long q2), (.long q3), (.long q4), (.long q5), (.long q6), (.long q7)] 13)) t := fun t k => pre27 t (by
    show Steps p.tables e below (T26.setTop (mkF m 47 #[.val (.ref a1), .val (.long q2), .second, .val (.long q3), .second, .val (.long q4), .second, .val (.long q5), .second, .val (.long q6), .second, .val (.long q7), .second] [(.long u4), (.ref a1)])) t
    refine XT.lload X26.here hx rfl (hb hby d4_47) rfl ?_
    show Steps p.tables e below (T26.setTop (mkF m 49 #[.val (.ref a1), .val (.long q2), .second, .val (.long q3), .second, .val (.long q4), .second, .val (.long q5), .second, .val (.long q6), .second, .val (.long q7), .second] [(.long q6), (.long u4), (.ref a1)])) t
    refine XT.ladd X26.here hx rfl (hb hby d4_49) rfl ?_
    show Steps p.tables e below (T26.setTop (mkF m 50 #[.val (.ref a1), .val (.long q2), .second, .val (.long q3), .second, .val (.long q4), .second, .val (.long q5), .second, .val (.long q6), .second, .val (.long q7), .second] [(.long (u4 + q6)), (.ref a1)])) t
    exact k)
  obtain ⟨T29, h29, X29, eh29, W29, st29⟩ := putF X26 hx hZ hown (host := "") (Or.inl (hw _ (List.mem_of_getElem? (i := 31) rfl))) Via.refl eh26 F_totalRtMillis_a1__23 E_a1__23 (Or.inl (hw _ (List.mem_of_getElem? (i := 32) rfl))) (hw _ (List.mem_of_getElem? (i := 1) rfl)) (ty := .long) (by decide) rfl rfl (g := (mkF m 50 #[.val (.ref a1), .val (.long q2), .second, .val (.long q3), .second, .val (.long q4), .second, .val (.long q5), .second, .val (.long q6), .second, .val (.long q7), .second] [(.long (u4 + q6)), (.ref a1)])) rfl rfl (hb hby d4_50)
  have E_a1__29 : Exa Z h29 a1 "com/example/obturo/obturo/stats/internal/WindowTally" := E_a1__23.wr W29
  have F_pass_a1__29 : Fld Z h29 a1 "com/example/obturo/obturo/stats/internal/WindowTally" "pass" "J" (.long (u0 + q2)) := F_pass_a1__23.other W29 (Or.inr (slot_ne (Or.inl (hw _ (List.mem_of_getElem? (i := 18) rfl))) (Or.inl (hw _ (List.mem_of_getElem? (i := 32) rfl))) (by decide) (t := .long) (t' := .long) (by decide) (by decide)))
  have F_block_a1__29 : Fld Z h29 a1 "com/example/obturo/obturo/stats/internal/WindowTally" "block" "J" (.long (u1 + q3)) := F_block_a1__23.other W29 (Or.inr (slot_ne (Or.inl (hw _ (List.mem_of_getElem? (i := 20) rfl))) (Or.inl (hw _ (List.mem_of_getElem? (i := 32) rfl))) (by decide) (t := .long) (t' := .long) (by decide) (by decide)))
  have F_completed_a1__29 : Fld Z h29 a1 "com/example/obturo/obturo/stats/internal/WindowTally" "completed" "J" (.long (u2 + q4)) := F_completed_a1__23.other W29 (Or.inr (slot_ne (Or.inl (hw _ (List.mem_of_getElem? (i := 22) rfl))) (Or.inl (hw _ (List.mem_of_getElem? (i := 32) rfl))) (by decide) (t := .long) (t' := .long) (by decide) (by decide)))
  have F_errors_a1__29 : Fld Z h29 a1 "com/example/obturo/obturo/stats/internal/WindowTally" "errors" "J" (.long (u3 + q5)) := F_errors_a1__23.other W29 (Or.inr (slot_ne (Or.inl (hw _ (List.mem_of_getElem? (i := 30) rfl))) (Or.inl (hw _ (List.mem_of_getElem? (i := 32) rfl))) (by decide) (t := .long) (t' := .long) (by decide) (by decide)))
  have F_minRtMillis_a1__29 : Fld Z h29 a1 "com/example/obturo/obturo/stats/internal/WindowTally" "minRtMillis" "J" (.long u5) := F_minRtMillis_a1__23.other W29 (Or.inr (slot_ne (Or.inl (hw _ (List.mem_of_getElem? (i := 11) rfl))) (Or.inl (hw _ (List.mem_of_getElem? (i := 32) rfl))) (by decide) (t := .long) (t' := .long) (by decide) (by decide)))
  have sz29 : n0 ≤ h29.size := Nat.le_trans sz23 (Keep.of_wr W29).1
  have K29 : Keep h0 h29 [a1] := K23.wr W29 (Or.inl (List.mem_of_getElem? (i := 0) rfl))
  have N29 := Fr.snoc X29 N23 g_a1
  have F_totalRtMillis_a1__29 : Fld Z h29 a1 "com/example/obturo/obturo/stats/internal/WindowTally" "totalRtMillis" "J" (.long (u4 + q6)) := F_totalRtMillis_a1__23.same W29
  have pre30 : ∀ t, Steps p.tables e below (T29.setTop (mkF m 53 #[.val (.ref a1), .val (.long q2), .second, .val (.long q3), .second, .val (.long q4), .second, .val (.long q5), .second, .val (.long q6), .second, .val (.long q7), .second] [])) t → Steps p.tables e below (s₁.setTop (entryFrame m #[(.ref a1), (.long q2), (.long q3), (.long q4), (.long q5), (.long q6), (.long q7)] 13)) t := fun t k => pre28 t (st29 _ k)
  have pre31 : ∀ t, Steps p.tables e below (T29.setTop (mkF m 55 #[.val (.ref a1), .val (.long q2), .second, .val (.long q3), .second, .val (.long q4), .second, .val (.long q5), .second, .val (.long q6), .second, .val (.long q7), .second] [(.ref a1), (.ref a1)])) t → Steps p.tables e below (s₁.setTop (entryFrame m #[(.ref a1), (.long q2), (.long q3), (.long q4), (.long q5), (.long q6), (.long q7)] 13)) t := fun t k => pre30 t (by
    show Steps p.tables e below (T29.setTop (mkF m 53 #[.val (.ref a1), .val (.long q2), .second, .val (.long q3), .second, .val (.long q4), .second, .val (.long q5), .second, .val (.long q6), .second, .val (.long q7), .second] [])) t
    refine XS.aloadN X29.here hx rfl (hb hby d4_53) rfl rfl ?_
    show Steps p.tables e below (T29.setTop (mkF m 54 #[.val (.ref a1), .val (.long q2), .second, .val (.long q3), .second, .val (.long q4), .second, .val (.long q5), .second, .val (.long q6), .second, .val (.long q7), .second] [(.ref a1)])) t
    refine XS.aloadN X29.here hx rfl (hb hby d4_54) rfl rfl ?_
    show Steps p.tables e below (T29.setTop (mkF m 55 #[.val (.ref a1), .val (.long q2), .second, .val (.long q3), .second, .val (.long q4), .second, .val (.long q5), .second, .val (.long q6), .second, .val (.long q7), .second] [(.ref a1), (.ref a1)])) t
    exact k)
  obtain ⟨T32, X32, eh32, st32⟩ := getF X29 hx hZ hown (host := "") (Or.inl (hw _ (List.mem_of_getElem? (i := 10) rfl))) Via.refl eh29 F_minRtMillis_a1__29 (g := (mkF m 55 #[.val (.ref a1), .val (.long q2), .second, .val (.long q3), .second, .val (.long q4), .second, .val (.long q5), .second, .val (.long q6), .second, .val (.long q7), .second] [(.ref a1), (.ref a1)])) rfl rfl (hb hby d4_55)
  have pre33 : ∀ t, Steps p.tables e below (T32.setTop (mkF m 58 #[.val (.ref a1), .val (.long q2), .second, .val (.long q3), .second, .val (.long q4), .second, .val (.long q5), .second, .val (.long q6), .second, .val (.long q7), .second] [(.long u5), (.ref a1)])) t → Steps p.tables e below (s₁.setTop (entryFrame m #[(.ref a1), (.long q2), (.long q3), (.long q4), (.long q5), (.long q6), (.long q7)] 13)) t := fun t k => pre31 t (st32 _ k)
  have pre34 : ∀ t, Steps p.tables e below (T32.setTop (mkF m 60 #[.val (.ref a1), .val (.long q2), .second, .val (.long q3), .second, .val (.long q4), .second, .val (.long q5), .second, .val (.long q6), .second, .val (.long q7), .second] [(.long q7), (.long u5), (.ref a1)])) t → Steps p.tables e below (s₁.setTop (entryFrame m #[(.ref a1), (.long q2), (.long q3), (.long q4), (.long q5), (.long q6), (.long q7)] 13)) t := fun t k => pre33 t (by
    show Steps p.tables e below (T32.setTop (mkF m 58 #[.val (.ref a1), .val (.long q2), .second, .val (.long q3), .second, .val (.long q4), .second, .val (.long q5), .second, .val (.long q6), .second, .val (.long q7), .second] [(.long u5), (.ref a1)])) t
    refine XT.lload X32.here hx rfl (hb hby d4_58) rfl ?_
    show Steps p.tables e below (T32.setTop (mkF m 60 #[.val (.ref a1), .val (.long q2), .second, .val (.long q3), .second, .val (.long q4), .second, .val (.long q5), .second, .val (.long q6), .second, .val (.long q7), .second] [(.long q7), (.long u5), (.ref a1)])) t
    exact k)
  obtain ⟨_, _, ⟨T35, L35, k35, n35⟩, -, X35, ⟨Lc35, hQ35, l35, y35, z35⟩, st35⟩ := Jvm.LawKit.callS X32 hx (y := (⟨"java/lang/Math", "min", "(JJ)J"⟩ : MethodName)) hown (mvT hZ (hw _ (List.mem_of_getElem? (i := 33) rfl))) (mvT hZ (hw _ (List.mem_of_getElem? (i := 34) rfl))) (mvT hZ (hw _ (List.mem_of_getElem? (i := 35) rfl))) (mvT hZ (hw _ (List.mem_of_getElem? (i := 36) rfl))) (by decide) (backOf (W := 1) (rm5 l Z a0 hw [] u5 q7 h29 n0 sz29 ) hZ (hw _ (List.mem_of_getElem? (i := 36) rfl)) (hw _ (List.mem_of_getElem? (i := 35) rfl)) (by decide) (by decide)) (g := (mkF m 60 #[.val (.ref a1), .val (.long q2), .second, .val (.long q3), .second, .val (.long q4), .second, .val (.long q5), .second, .val (.long q6), .second, .val (.long q7), .second] [(.long q7), (.long u5), (.ref a1)])) rfl (by rw [hml]; rfl) (argsL := [(.long u5), (.long q7)]) (rest := [(.ref a1)]) (lenOf pd_oJJcJ rfl) rfl (by show 2 * 0 + _ ≤ _; exact Nat.le_of_eq rfl) (hb hby d4_60) (fun _ _ => ⟨rfl, eh32, (by decide : 0 + 0 ≤ _), (by decide : 0 + 0 ≤ _)⟩)
  dsimp only [Pt.U, Pt.locs, Pt.cells, Pt.slots] at X35 l35 y35 z35 st35 hQ35
  subst l35 y35 z35
  obtain ⟨rfl, N35q, eh35⟩ := hQ35
  have N35 := Fr.app N29 N35q
  have pre36 : ∀ t, Steps p.tables e below (T35.setTop (mkF m 63 #[.val (.ref a1), .val (.long q2), .second, .val (.long q3), .second, .val (.long q4), .second, .val (.long q5), .second, .val (.long q6), .second, .val (.long q7), .second] [(.long (own_min u5 q7)), (.ref a1)])) t → Steps p.tables e below (s₁.setTop (entryFrame m #[(.ref a1), (.long q2), (.long q3), (.long q4), (.long q5), (.long q6), (.long q7)] 13)) t := fun t k => pre34 t (st35 _ k)
  obtain ⟨T37, h37, X37, eh37, W37, st37⟩ := putF X35 hx hZ hown (host := "") (Or.inl (hw _ (List.mem_of_getElem? (i := 10) rfl))) Via.refl eh35 F_minRtMillis_a1__29 E_a1__29 (Or.inl (hw _ (List.mem_of_getElem? (i := 11) rfl))) (hw _ (List.mem_of_getElem? (i := 1) rfl)) (ty := .long) (by decide) rfl rfl (g := (mkF m 63 #[.val (.ref a1), .val (.long q2), .second, .val (.long q3), .second, .val (.long q4), .second, .val (.long q5), .second, .val (.long q6), .second, .val (.long q7), .second] [(.long (own_min u5 q7)), (.ref a1)])) rfl rfl (hb hby d4_63)
  have E_a1__37 : Exa Z h37 a1 "com/example/obturo/obturo/stats/internal/WindowTally" := E_a1__29.wr W37
  have F_pass_a1__37 : Fld Z h37 a1 "com/example/obturo/obturo/stats/internal/WindowTally" "pass" "J" (.long (u0 + q2)) := F_pass_a1__29.other W37 (Or.inr (slot_ne (Or.inl (hw _ (List.mem_of_getElem? (i := 18) rfl))) (Or.inl (hw _ (List.mem_of_getElem? (i := 11) rfl))) (by decide) (t := .long) (t' := .long) (by decide) (by decide)))
  have F_block_a1__37 : Fld Z h37 a1 "com/example/obturo/obturo/stats/internal/WindowTally" "block" "J" (.long (u1 + q3)) := F_block_a1__29.other W37 (Or.inr (slot_ne (Or.inl (hw _ (List.mem_of_getElem? (i := 20) rfl))) (Or.inl (hw _ (List.mem_of_getElem? (i := 11) rfl))) (by decide) (t := .long) (t' := .long) (by decide) (by decide)))
  have F_completed_a1__37 : Fld Z h37 a1 "com/example/obturo/obturo/stats/internal/WindowTally" "completed" "J" (.long (u2 + q4)) := F_completed_a1__29.other W37 (Or.inr (slot_ne (Or.inl (hw _ (List.mem_of_getElem? (i := 22) rfl))) (Or.inl (hw _ (List.mem_of_getElem? (i := 11) rfl))) (by decide) (t := .long) (t' := .long) (by decide) (by decide)))
  have F_errors_a1__37 : Fld Z h37 a1 "com/example/obturo/obturo/stats/internal/WindowTally" "errors" "J" (.long (u3 + q5)) := F_errors_a1__29.other W37 (Or.inr (slot_ne (Or.inl (hw _ (List.mem_of_getElem? (i := 30) rfl))) (Or.inl (hw _ (List.mem_of_getElem? (i := 11) rfl))) (by decide) (t := .long) (t' := .long) (by decide) (by decide)))
  have F_totalRtMillis_a1__37 : Fld Z h37 a1 "com/example/obturo/obturo/stats/internal/WindowTally" "totalRtMillis" "J" (.long (u4 + q6)) := F_totalRtMillis_a1__29.other W37 (Or.inr (slot_ne (Or.inl (hw _ (List.mem_of_getElem? (i := 32) rfl))) (Or.inl (hw _ (List.mem_of_getElem? (i := 11) rfl))) (by decide) (t := .long) (t' := .long) (by decide) (by decide)))
  have sz37 : n0 ≤ h37.size := Nat.le_trans sz29 (Keep.of_wr W37).1
  have K37 : Keep h0 h37 [a1] := K29.wr W37 (Or.inl (List.mem_of_getElem? (i := 0) rfl))
  have N37 := Fr.snoc X37 N35 g_a1
  have F_minRtMillis_a1__37 : Fld Z h37 a1 "com/example/obturo/obturo/stats/internal/WindowTally" "minRtMillis" "J" (.long (own_min u5 q7)) := F_minRtMillis_a1__29.same W37
  have pre38 : ∀ t, Steps p.tables e below (T37.setTop (mkF m 66 #[.val (.ref a1), .val (.long q2), .second, .val (.long q3), .second, .val (.long q4), .second, .val (.long q5), .second, .val (.long q6), .second, .val (.long q7), .second] [])) t → Steps p.tables e below (s₁.setTop (entryFrame m #[(.ref a1), (.long q2), (.long q3), (.long q4), (.long q5), (.long q6), (.long q7)] 13)) t := fun t k => pre36 t (st37 _ k)
  obtain ⟨fs, hr, hrun, hended, hW, hsame⟩ := X37.leave (v := none) (fun _ => rfl)
  refine ⟨_, _, pre38 _ ?_, hrun, hended, _, _, rfl, ?_, ⟨_, rfl⟩, hW, hsame.mono (by decide) (by decide)⟩
  · show Steps p.tables e below (T37.setTop (mkF m 66 #[.val (.ref a1), .val (.long q2), .second, .val (.long q3), .second, .val (.long q4), .second, .val (.long q5), .second, .val (.long q6), .second, .val (.long q7), .second] [])) _
    exact X37.returnOut hx Bd.returns (hb hby d4_66) hr
  · show Q4 Z a1 q2 q3 q4 q5 q6 q7 u0 u1 u2 u3 u4 u5 h0 n0 _ T37.heap _
    rw [eh37]
    exact ⟨rfl, N37, K37, E_a1__37, F_pass_a1__37, F_block_a1__37, F_completed_a1__37, F_errors_a1__37, F_totalRtMillis_a1__37, F_minRtMillis_a1__37⟩
theorem ef_6 (m : MethodId) (a1 : Addr) (q2 : Int64) : entryFrame m #[(.ref a1), (.long q2)] 3 = mkF m 0 #[.val (.ref a1), .val (.long q2), .second] [] := by first | (simp [entryFrame, mkF, argsToLocals, Value.category]; done) | rfl
theorem d6_0 : decode prog_84_method_3_code 0 = .ok (.aload_n 0, 1) := by decide +kernel
theorem d6_1 : decode prog_84_method_3_code 1 = .ok (.dup, 1) := by decide +kernel
theorem d6_2 : decode prog_84_method_3_code 2 = .ok (.getfield 17, 3) := by decide +kernel
theorem d6_5 : decode prog_84_method_3_code 5 = .ok (.lload_n 1, 1) := by decide +kernel
theorem d6_6 : decode prog_84_method_3_code 6 = .ok (.ladd, 1) := by decide +kernel
theorem d6_7 : decode prog_84_method_3_code 7 = .ok (.putfield 17, 3) := by decide +kernel
theorem d6_10 : decode prog_84_method_3_code 10 = .ok (.return_, 1) := by decide +kernel
def Q6 (Z : State) (a1 : Addr) (q2 : Int64) (u0 : Int64) (u1 : Int64) (u2 : Int64) (u3 : Int64) (u4 : Int64) (u5 : Int64) (h0 : Heap) (n0 : Nat) (v : Option Value) (h : Heap) (L : List Loc) : Prop := v = none ∧ Fr n0 L ∧ Keep h0 h [a1] ∧ Exa Z h a1 "com/example/obturo/obturo/stats/internal/WindowTally" ∧ Fld Z h a1 "com/example/obturo/obturo/stats/internal/WindowTally" "pass" "J" (.long (u0 + q2)) ∧ Fld Z h a1 "com/example/obturo/obturo/stats/internal/WindowTally" "block" "J" (.long u1) ∧ Fld Z h a1 "com/example/obturo/obturo/stats/internal/WindowTally" "completed" "J" (.long u2) ∧ Fld Z h a1 "com/example/obturo/obturo/stats/internal/WindowTally" "errors" "J" (.long u3) ∧ Fld Z h a1 "com/example/obturo/obturo/stats/internal/WindowTally" "totalRtMillis" "J" (.long u4) ∧ Fld Z h a1 "com/example/obturo/obturo/stats/internal/WindowTally" "minRtMillis" "J" (.long u5)
set_option maxRecDepth 65536 in
set_option maxHeartbeats 40000000 in
theorem rm6 (l : Launch) (Z : State) (a0 : Array Value) (hw : ∀ d ∈ tables_1, d.before a0 Z = true) (ws : List Jvm.Cond) (a1 : Addr) (q2 : Int64) (u0 : Int64) (u1 : Int64) (u2 : Int64) (u3 : Int64) (u4 : Int64) (u5 : Int64) (h0 : Heap) (n0 : Nat) (Z0 : n0 ≤ h0.size) (E_a1 : Exa Z h0 a1 "com/example/obturo/obturo/stats/internal/WindowTally") (F_pass_a1 : Fld Z h0 a1 "com/example/obturo/obturo/stats/internal/WindowTally" "pass" "J" (.long u0)) (F_block_a1 : Fld Z h0 a1 "com/example/obturo/obturo/stats/internal/WindowTally" "block" "J" (.long u1)) (F_completed_a1 : Fld Z h0 a1 "com/example/obturo/obturo/stats/internal/WindowTally" "completed" "J" (.long u2)) (F_errors_a1 : Fld Z h0 a1 "com/example/obturo/obturo/stats/internal/WindowTally" "errors" "J" (.long u3)) (F_totalRtMillis_a1 : Fld Z h0 a1 "com/example/obturo/obturo/stats/internal/WindowTally" "totalRtMillis" "J" (.long u4)) (F_minRtMillis_a1 : Fld Z h0 a1 "com/example/obturo/obturo/stats/internal/WindowTally" "minRtMillis" "J" (.long u5)) (g_a1 : n0 ≤ a1) :
    MetFree l (⟨"com/example/obturo/obturo/stats/internal/WindowTally", "addPass", "(J)V"⟩ : MethodName) (head1 (Jvm.Cond.code (⟨"com/example/obturo/obturo/stats/internal/WindowTally", "addPass", "(J)V"⟩ : MethodName) prog_84_method_3_code 3 none :: ws) ({ frames := 0, cells := 0, slots := 0, locals := 0 } : Room)) (fun a U => a = #[(.ref a1), (.long q2)] ∧ Z.Warmed39 U.vm ∧ U.heap = h0) (fun _ _ _ _ _ => True) (fun _ U o U' => ∃ v L, o = .returned v ∧ Q6 Z a1 q2 u0 u1 u2 u3 u4 u5 h0 n0 v U'.heap L ∧ FrameEnd U o U' L ({ frames := 0, cells := 0, slots := 0, locals := 0 } : Room).cells ({ frames := 0, cells := 0, slots := 0, locals := 0 } : Room).slots) := by
  refine MetFree.of_bodySF (plainFor_of_name pn_com_example_obturo_obturo_stats_internal_WindowTally) hisR ?_
  intro p e s m args below meth c s₁ Bd hml0 hP hK
  obtain ⟨rfl, hZ, hh⟩ := hP
  have hx := Bd.exec
  have hby := Bd.bytes
  have hml : c.maxLocals = 3 := hml0
  have hown : s.vm.findClass "com/example/obturo/obturo/stats/internal/WindowTally" = some m.cls := findClass_of_methodNamed Bd.named
  have hnm := (name_of_methodNamed Bd.named Bd.method).1
  have X0 : Stand p l e ({ frames := 0, cells := 0, slots := 0, locals := 0 } : Room) s m #[(.ref a1), (.long q2)] below meth c s₁ [] 0 0 := Stand.of_body Bd
  have eh0 : s₁.heap = h0 := by rw [← hh, Bd.state]; rfl
  have N0 := Fr.nil n0
  have pre0 : ∀ t, Steps p.tables e below (s₁.setTop (mkF m 0 #[.val (.ref a1), .val (.long q2), .second] [])) t → Steps p.tables e below (s₁.setTop (entryFrame m #[(.ref a1), (.long q2)] 3)) t := fun t k => castTop (ef_6 m a1 q2) k
  have K0 : Keep h0 h0 [a1] := Keep.refl _ _
  have pre1 : ∀ t, Steps p.tables e below (s₁.setTop (mkF m 2 #[.val (.ref a1), .val (.long q2), .second] [(.ref a1), (.ref a1)])) t → Steps p.tables e below (s₁.setTop (entryFrame m #[(.ref a1), (.long q2)] 3)) t := fun t k => pre0 t (by
    show Steps p.tables e below (s₁.setTop (mkF m 0 #[.val (.ref a1), .val (.long q2), .second] [])) t
    refine XS.aloadN X0.here hx rfl (hb hby d6_0) rfl rfl ?_
    show Steps p.tables e below (s₁.setTop (mkF m 1 #[.val (.ref a1), .val (.long q2), .second] [(.ref a1)])) t
    refine XS.dup X0.here hx rfl (hb hby d6_1) rfl rfl ?_
    show Steps p.tables e below (s₁.setTop (mkF m 2 #[.val (.ref a1), .val (.long q2), .second] [(.ref a1), (.ref a1)])) t
    exact k)
  obtain ⟨T2, X2, eh2, st2⟩ := getF X0 hx hZ hown (host := "") (Or.inl (hw _ (List.mem_of_getElem? (i := 17) rfl))) Via.refl eh0 F_pass_a1 (g := (mkF m 2 #[.val (.ref a1), .val (.long q2), .second] [(.ref a1), (.ref a1)])) rfl rfl (hb hby d6_2)
  have pre3 : ∀ t, Steps p.tables e below (T2.setTop (mkF m 5 #[.val (.ref a1), .val (.long q2), .second] [(.long u0), (.ref a1)])) t → Steps p.tables e below (s₁.setTop (entryFrame m #[(.ref a1), (.long q2)] 3)) t := fun t k => pre1 t (st2 _ k)
  have pre4 : ∀ t, Steps p.tables e below (T2.setTop (mkF m 7 #[.val (.ref a1), .val (.long q2), .second] [(.long (u0 + q2)), (.ref a1)])) t → Steps p.tables e below (s₁.setTop (entryFrame m #[(.ref a1), (.long q2)] 3)) t := fun t k => pre3 t (by
    show Steps p.tables e below (T2.setTop (mkF m 5 #[.val (.ref a1), .val (.long q2), .second] [(.long u0), (.ref a1)])) t
    refine XT.lloadN X2.here hx rfl (hb hby d6_5) rfl ?_
    show Steps p.tables e below (T2.setTop (mkF m 6 #[.val (.ref a1), .val (.long q2), .second] [(.long q2), (.long u0), (.ref a1)])) t
    refine XT.ladd X2.here hx rfl (hb hby d6_6) rfl ?_
    show Steps p.tables e below (T2.setTop (mkF m 7 #[.val (.ref a1), .val (.long q2), .second] [(.long (u0 + q2)), (.ref a1)])) t
    exact k)
  obtain ⟨T5, h5, X5, eh5, W5, st5⟩ := putF X2 hx hZ hown (host := "") (Or.inl (hw _ (List.mem_of_getElem? (i := 17) rfl))) Via.refl eh2 F_pass_a1 E_a1 (Or.inl (hw _ (List.mem_of_getElem? (i := 18) rfl))) (hw _ (List.mem_of_getElem? (i := 1) rfl)) (ty := .long) (by decide) rfl rfl (g := (mkF m 7 #[.val (.ref a1), .val (.long q2), .second] [(.long (u0 + q2)), (.ref a1)])) rfl rfl (hb hby d6_7)
  have E_a1__5 : Exa Z h5 a1 "com/example/obturo/obturo/stats/internal/WindowTally" := E_a1.wr W5
  have F_block_a1__5 : Fld Z h5 a1 "com/example/obturo/obturo/stats/internal/WindowTally" "block" "J" (.long u1) := F_block_a1.other W5 (Or.inr (slot_ne (Or.inl (hw _ (List.mem_of_getElem? (i := 20) rfl))) (Or.inl (hw _ (List.mem_of_getElem? (i := 18) rfl))) (by decide) (t := .long) (t' := .long) (by decide) (by decide)))
  have F_completed_a1__5 : Fld Z h5 a1 "com/example/obturo/obturo/stats/internal/WindowTally" "completed" "J" (.long u2) := F_completed_a1.other W5 (Or.inr (slot_ne (Or.inl (hw _ (List.mem_of_getElem? (i := 22) rfl))) (Or.inl (hw _ (List.mem_of_getElem? (i := 18) rfl))) (by decide) (t := .long) (t' := .long) (by decide) (by decide)))
  have F_errors_a1__5 : Fld Z h5 a1 "com/example/obturo/obturo/stats/internal/WindowTally" "errors" "J" (.long u3) := F_errors_a1.other W5 (Or.inr (slot_ne (Or.inl (hw _ (List.mem_of_getElem? (i := 30) rfl))) (Or.inl (hw _ (List.mem_of_getElem? (i := 18) rfl))) (by decide) (t := .long) (t' := .long) (by decide) (by decide)))
  have F_totalRtMillis_a1__5 : Fld Z h5 a1 "com/example/obturo/obturo/stats/internal/WindowTally" "totalRtMillis" "J" (.long u4) := F_totalRtMillis_a1.other W5 (Or.inr (slot_ne (Or.inl (hw _ (List.mem_of_getElem? (i := 32) rfl))) (Or.inl (hw _ (List.mem_of_getElem? (i := 18) rfl))) (by decide) (t := .long) (t' := .long) (by decide) (by decide)))
  have F_minRtMillis_a1__5 : Fld Z h5 a1 "com/example/obturo/obturo/stats/internal/WindowTally" "minRtMillis" "J" (.long u5) := F_minRtMillis_a1.other W5 (Or.inr (slot_ne (Or.inl (hw _ (List.mem_of_getElem? (i := 11) rfl))) (Or.inl (hw _ (List.mem_of_getElem? (i := 18) rfl))) (by decide) (t := .long) (t' := .long) (by decide) (by decide)))
  have sz5 : n0 ≤ h5.size := Nat.le_trans Z0 (Keep.of_wr W5).1
  have K5 : Keep h0 h5 [a1] := K0.wr W5 (Or.inl (List.mem_of_getElem? (i := 0) rfl))
  have N5 := Fr.snoc X5 N0 g_a1
  have F_pass_a1__5 : Fld Z h5 a1 "com/example/obturo/obturo/stats/internal/WindowTally" "pass" "J" (.long (u0 + q2)) := F_pass_a1.same W5
  have pre6 : ∀ t, Steps p.tables e below (T5.setTop (mkF m 10 #[.val (.ref a1), .val (.long q2), .second] [])) t → Steps p.tables e below (s₁.setTop (entryFrame m #[(.ref a1), (.long q2)] 3)) t := fun t k => pre4 t (st5 _ k)
  obtain ⟨fs, hr, hrun, hended, hW, hsame⟩ := X5.leave (v := none) (fun _ => rfl)
  refine ⟨_, _, pre6 _ ?_, hrun, hended, _, _, rfl, ?_, ⟨_, rfl⟩, hW, hsame.mono (by decide) (by decide)⟩
  · show Steps p.tables e below (T5.setTop (mkF m 10 #[.val (.ref a1), .val (.long q2), .second] [])) _
    exact X5.returnOut hx Bd.returns (hb hby d6_10) hr
  · show Q6 Z a1 q2 u0 u1 u2 u3 u4 u5 h0 n0 _ T5.heap _
    rw [eh5]
    exact ⟨rfl, N5, K5, E_a1__5, F_pass_a1__5, F_block_a1__5, F_completed_a1__5, F_errors_a1__5, F_totalRtMillis_a1__5, F_minRtMillis_a1__5⟩
theorem ef_0 (m : MethodId) (q1 : Int64) (q2 : Int64) (q3 : Int64) (q4 : Int64) (q5 : Int64) (p6 : Int32) : entryFrame m #[(.long q1), (.long q2), (.long q3), (.long q4), (.long q5), (.int p6)] maxLocals = mkF m 0 #[.val (.long q1), .second, .val (.long q2), .second, .val (.long q3), .second, .val (.long q4), .second, .val (.long q5), .second, .val (.int p6), .unset, .unset, .unset, .unset, .unset, .unset, .unset, .unset, .unset, .unset, .unset, .unset, .unset, .unset] [] := by first | (simp [entryFrame, mkF, argsToLocals, Value.category, maxLocals]; done) | rfl
theorem pn_com_example_obturo_obturo_stats_internal_WindowTallyEmptyPinLaw : plainName "com/example/obturo/obturo/stats/internal/WindowTallyEmptyPinLaw" = true := by first | (simp [plainName, overriddenIn]; done) | decide +kernel
theorem pd_ocV : parseMethodDescriptor "()V" = some ⟨[], none⟩ := by decide +kernel
theorem pd_ocZ : parseMethodDescriptor "()Z" = some ⟨[], some .boolean⟩ := by decide +kernel
theorem pd_oJJJJJJcV : parseMethodDescriptor "(JJJJJJ)V" = some ⟨[.long, .long, .long, .long, .long, .long], none⟩ := by decide +kernel
theorem pd_oJcV : parseMethodDescriptor "(J)V" = some ⟨[.long], none⟩ := by decide +kernel
def Q0 (Z : State) (q1 : Int64) (q2 : Int64) (q3 : Int64) (q4 : Int64) (q5 : Int64) (p6 : Int32) (h0 : Heap) (n0 : Nat) (v : Option Value) (h : Heap) (L : List Loc) : Prop := v = some (.int (1 : Int32)) ∧ Fr n0 L
set_option maxRecDepth 65536 in
set_option maxHeartbeats 40000000 in
theorem rm0 (l : Launch) (Z : State) (a0 : Array Value) (hw : ∀ d ∈ tables_1, d.before a0 Z = true) (ws : List Jvm.Cond) (q1 : Int64) (q2 : Int64) (q3 : Int64) (q4 : Int64) (q5 : Int64) (p6 : Int32) (h0 : Heap) (n0 : Nat) (Z0 : n0 ≤ h0.size) :
    MetFree l x (head1 (Jvm.Cond.code x code maxLocals ret :: ws) room_1) (fun a U => a = #[(.long q1), (.long q2), (.long q3), (.long q4), (.long q5), (.int p6)] ∧ Z.Warmed39 U.vm ∧ U.heap = h0) (fun _ _ _ _ _ => True) (fun _ U o U' => ∃ v L, o = .returned v ∧ Q0 Z q1 q2 q3 q4 q5 p6 h0 n0 v U'.heap L ∧ FrameEnd U o U' L room_1.cells room_1.slots) := by
  refine MetFree.of_bodySF (plainFor_of_name pn_com_example_obturo_obturo_stats_internal_WindowTallyEmptyPinLaw) hisR ?_
  intro p e s m args below meth c s₁ Bd hml0 hP hK
  obtain ⟨rfl, hZ, hh⟩ := hP
  have hx := Bd.exec
  have hby := Bd.bytes
  have hml : c.maxLocals = 25 := hml0
  have hown : s.vm.findClass "com/example/obturo/obturo/stats/internal/WindowTallyEmptyPinLaw" = some m.cls := findClass_of_methodNamed Bd.named
  have hnm := (name_of_methodNamed Bd.named Bd.method).1
  have X0 : Stand p l e room_1 s m #[(.long q1), (.long q2), (.long q3), (.long q4), (.long q5), (.int p6)] below meth c s₁ [] 0 0 := Stand.of_body Bd
  have eh0 : s₁.heap = h0 := by rw [← hh, Bd.state]; rfl
  have N0 := Fr.nil n0
  have pre0 : ∀ t, Steps p.tables e below (s₁.setTop (mkF m 0 #[.val (.long q1), .second, .val (.long q2), .second, .val (.long q3), .second, .val (.long q4), .second, .val (.long q5), .second, .val (.int p6), .unset, .unset, .unset, .unset, .unset, .unset, .unset, .unset, .unset, .unset, .unset, .unset, .unset, .unset] [])) t → Steps p.tables e below (s₁.setTop (entryFrame m #[(.long q1), (.long q2), (.long q3), (.long q4), (.long q5), (.int p6)] maxLocals)) t := fun t k => castTop (ef_0 m q1 q2 q3 q4 q5 p6) k
  have pre2 : ∀ t, Steps p.tables e below (s₁.setTop (mkF m 4 #[.val (.long q1), .second, .val (.long q2), .second, .val (.long q3), .second, .val (.long q4), .second, .val (.long q5), .second, .val (.int p6), .unset, .unset, .unset, .unset, .unset, .unset, .unset, .unset, .unset, .unset, .unset, .unset, .unset, .unset] [(.int (p6 &&& (1 : Int32)))])) t → Steps p.tables e below (s₁.setTop (entryFrame m #[(.long q1), (.long q2), (.long q3), (.long q4), (.long q5), (.int p6)] maxLocals)) t := fun t k => pre0 t (by
    show Steps p.tables e below (s₁.setTop (mkF m 0 #[.val (.long q1), .second, .val (.long q2), .second, .val (.long q3), .second, .val (.long q4), .second, .val (.long q5), .second, .val (.int p6), .unset, .unset, .unset, .unset, .unset, .unset, .unset, .unset, .unset, .unset, .unset, .unset, .unset, .unset] [])) t
    refine XS.iload X0.here hx rfl (hb hby at_0) rfl ?_
    show Steps p.tables e below (s₁.setTop (mkF m 2 #[.val (.long q1), .second, .val (.long q2), .second, .val (.long q3), .second, .val (.long q4), .second, .val (.long q5), .second, .val (.int p6), .unset, .unset, .unset, .unset, .unset, .unset, .unset, .unset, .unset, .unset, .unset, .unset, .unset, .unset] [(.int p6)])) t
    refine XS.iconst X0.here hx rfl (hb hby at_2) ?_
    show Steps p.tables e below (s₁.setTop (mkF m 3 #[.val (.long q1), .second, .val (.long q2), .second, .val (.long q3), .second, .val (.long q4), .second, .val (.long q5), .second, .val (.int p6), .unset, .unset, .unset, .unset, .unset, .unset, .unset, .unset, .unset, .unset, .unset, .unset, .unset, .unset] [(.int (1 : Int32)), (.int p6)])) t
    refine XS.iand X0.here hx rfl (hb hby at_3) rfl ?_
    show Steps p.tables e below (s₁.setTop (mkF m 4 #[.val (.long q1), .second, .val (.long q2), .second, .val (.long q3), .second, .val (.long q4), .second, .val (.long q5), .second, .val (.int p6), .unset, .unset, .unset, .unset, .unset, .unset, .unset, .unset, .unset, .unset, .unset, .unset, .unset, .unset] [(.int (p6 &&& (1 : Int32)))])) t
    exact k)
  have pre3 : ∀ t, Steps p.tables e below (s₁.setTop (mkF m 12 #[.val (.long q1), .second, .val (.long q2), .second, .val (.long q3), .second, .val (.long q4), .second, .val (.long q5), .second, .val (.int p6), .unset, .unset, .unset, .unset, .unset, .unset, .unset, .unset, .unset, .unset, .unset, .unset, .unset, .unset] [(.long (if (p6 &&& (1 : Int32)) = (0 : Int32) then q1 else (0 : Int64)))])) t → Steps p.tables e below (s₁.setTop (entryFrame m #[(.long q1), (.long q2), (.long q3), (.long q4), (.long q5), (.int p6)] maxLocals)) t := fun t k => pre2 t (by
    show Steps p.tables e below (s₁.setTop (mkF m 4 #[.val (.long q1), .second, .val (.long q2), .second, .val (.long q3), .second, .val (.long q4), .second, .val (.long q5), .second, .val (.int p6), .unset, .unset, .unset, .unset, .unset, .unset, .unset, .unset, .unset, .unset, .unset, .unset, .unset, .unset] [(.int (p6 &&& (1 : Int32)))])) t
    by_cases hc4_1 : (p6 &&& (1 : Int32)) = (0 : Int32)
    · simp only [if_pos hc4_1] at k
      refine XS.ifYes X0.here hx rfl (pc0 := 4) (pc' := 11) rfl (hb hby at_4) rfl (XT.i0_eq_t hc4_1) (by decide) (by decide) ?_
      show Steps p.tables e below (s₁.setTop (mkF m 11 #[.val (.long q1), .second, .val (.long q2), .second, .val (.long q3), .second, .val (.long q4), .second, .val (.long q5), .second, .val (.int p6), .unset, .unset, .unset, .unset, .unset, .unset, .unset, .unset, .unset, .unset, .unset, .unset, .unset, .unset] [])) t
      refine XT.lloadN X0.here hx rfl (hb hby at_11) rfl ?_
      show Steps p.tables e below (s₁.setTop (mkF m 12 #[.val (.long q1), .second, .val (.long q2), .second, .val (.long q3), .second, .val (.long q4), .second, .val (.long q5), .second, .val (.int p6), .unset, .unset, .unset, .unset, .unset, .unset, .unset, .unset, .unset, .unset, .unset, .unset, .unset, .unset] [(.long q1)])) t
      exact k
    · simp only [if_neg hc4_1] at k
      refine XS.ifNo X0.here hx rfl (hb hby at_4) rfl (XT.i0_eq_f hc4_1) ?_
      show Steps p.tables e below (s₁.setTop (mkF m 7 #[.val (.long q1), .second, .val (.long q2), .second, .val (.long q3), .second, .val (.long q4), .second, .val (.long q5), .second, .val (.int p6), .unset, .unset, .unset, .unset, .unset, .unset, .unset, .unset, .unset, .unset, .unset, .unset, .unset, .unset] [])) t
      refine XT.lconstV X0.here hx rfl (0 : Int64) (hb hby at_7) (by decide) ?_
      show Steps p.tables e below (s₁.setTop (mkF m 8 #[.val (.long q1), .second, .val (.long q2), .second, .val (.long q3), .second, .val (.long q4), .second, .val (.long q5), .second, .val (.int p6), .unset, .unset, .unset, .unset, .unset, .unset, .unset, .unset, .unset, .unset, .unset, .unset, .unset, .unset] [(.long (0 : Int64))])) t
      refine XS.goto X0.here hx rfl (pc0 := 8) (pc' := 12) rfl (hb hby at_8) (by decide) (by decide) ?_
      show Steps p.tables e below (s₁.setTop (mkF m 12 #[.val (.long q1), .second, .val (.long q2), .second, .val (.long q3), .second, .val (.long q4), .second, .val (.long q5), .second, .val (.int p6), .unset, .unset, .unset, .unset, .unset, .unset, .unset, .unset, .unset, .unset, .unset, .unset, .unset, .unset] [(.long (0 : Int64))])) t
      exact k)
  obtain ⟨pp, h_pp⟩ : ∃ z : Int64, z = (if (p6 &&& (1 : Int32)) = (0 : Int32) then q1 else (0 : Int64)) := ⟨_, rfl⟩
  rw [← h_pp] at pre3
  have pre5 : ∀ t, Steps p.tables e below (s₁.setTop (mkF m 18 #[.val (.long q1), .second, .val (.long q2), .second, .val (.long q3), .second, .val (.long q4), .second, .val (.long q5), .second, .val (.int p6), .val (.long pp), .second, .unset, .unset, .unset, .unset, .unset, .unset, .unset, .unset, .unset, .unset, .unset, .unset] [(.int (p6 &&& (2 : Int32)))])) t → Steps p.tables e below (s₁.setTop (entryFrame m #[(.long q1), (.long q2), (.long q3), (.long q4), (.long q5), (.int p6)] maxLocals)) t := fun t k => pre3 t (by
    show Steps p.tables e below (s₁.setTop (mkF m 12 #[.val (.long q1), .second, .val (.long q2), .second, .val (.long q3), .second, .val (.long q4), .second, .val (.long q5), .second, .val (.int p6), .unset, .unset, .unset, .unset, .unset, .unset, .unset, .unset, .unset, .unset, .unset, .unset, .unset, .unset] [(.long pp)])) t
    refine XT.lstore X0.here hx rfl (hb hby at_12) rfl (l' := #[.val (.long q1), .second, .val (.long q2), .second, .val (.long q3), .second, .val (.long q4), .second, .val (.long q5), .second, .val (.int p6), .val (.long pp), .second, .unset, .unset, .unset, .unset, .unset, .unset, .unset, .unset, .unset, .unset, .unset, .unset]) rfl ?_
    show Steps p.tables e below (s₁.setTop (mkF m 14 #[.val (.long q1), .second, .val (.long q2), .second, .val (.long q3), .second, .val (.long q4), .second, .val (.long q5), .second, .val (.int p6), .val (.long pp), .second, .unset, .unset, .unset, .unset, .unset, .unset, .unset, .unset, .unset, .unset, .unset, .unset] [])) t
    refine XS.iload X0.here hx rfl (hb hby at_14) rfl ?_
    show Steps p.tables e below (s₁.setTop (mkF m 16 #[.val (.long q1), .second, .val (.long q2), .second, .val (.long q3), .second, .val (.long q4), .second, .val (.long q5), .second, .val (.int p6), .val (.long pp), .second, .unset, .unset, .unset, .unset, .unset, .unset, .unset, .unset, .unset, .unset, .unset, .unset] [(.int p6)])) t
    refine XS.iconst X0.here hx rfl (hb hby at_16) ?_
    show Steps p.tables e below (s₁.setTop (mkF m 17 #[.val (.long q1), .second, .val (.long q2), .second, .val (.long q3), .second, .val (.long q4), .second, .val (.long q5), .second, .val (.int p6), .val (.long pp), .second, .unset, .unset, .unset, .unset, .unset, .unset, .unset, .unset, .unset, .unset, .unset, .unset] [(.int (2 : Int32)), (.int p6)])) t
    refine XS.iand X0.here hx rfl (hb hby at_17) rfl ?_
    show Steps p.tables e below (s₁.setTop (mkF m 18 #[.val (.long q1), .second, .val (.long q2), .second, .val (.long q3), .second, .val (.long q4), .second, .val (.long q5), .second, .val (.int p6), .val (.long pp), .second, .unset, .unset, .unset, .unset, .unset, .unset, .unset, .unset, .unset, .unset, .unset, .unset] [(.int (p6 &&& (2 : Int32)))])) t
    exact k)
  have pre6 : ∀ t, Steps p.tables e below (s₁.setTop (mkF m 26 #[.val (.long q1), .second, .val (.long q2), .second, .val (.long q3), .second, .val (.long q4), .second, .val (.long q5), .second, .val (.int p6), .val (.long pp), .second, .unset, .unset, .unset, .unset, .unset, .unset, .unset, .unset, .unset, .unset, .unset, .unset] [(.long (if (p6 &&& (2 : Int32)) = (0 : Int32) then q2 else (0 : Int64)))])) t → Steps p.tables e below (s₁.setTop (entryFrame m #[(.long q1), (.long q2), (.long q3), (.long q4), (.long q5), (.int p6)] maxLocals)) t := fun t k => pre5 t (by
    show Steps p.tables e below (s₁.setTop (mkF m 18 #[.val (.long q1), .second, .val (.long q2), .second, .val (.long q3), .second, .val (.long q4), .second, .val (.long q5), .second, .val (.int p6), .val (.long pp), .second, .unset, .unset, .unset, .unset, .unset, .unset, .unset, .unset, .unset, .unset, .unset, .unset] [(.int (p6 &&& (2 : Int32)))])) t
    by_cases hc18_4 : (p6 &&& (2 : Int32)) = (0 : Int32)
    · simp only [if_pos hc18_4] at k
      refine XS.ifYes X0.here hx rfl (pc0 := 18) (pc' := 25) rfl (hb hby at_18) rfl (XT.i0_eq_t hc18_4) (by decide) (by decide) ?_
      show Steps p.tables e below (s₁.setTop (mkF m 25 #[.val (.long q1), .second, .val (.long q2), .second, .val (.long q3), .second, .val (.long q4), .second, .val (.long q5), .second, .val (.int p6), .val (.long pp), .second, .unset, .unset, .unset, .unset, .unset, .unset, .unset, .unset, .unset, .unset, .unset, .unset] [])) t
      refine XT.lloadN X0.here hx rfl (hb hby at_25) rfl ?_
      show Steps p.tables e below (s₁.setTop (mkF m 26 #[.val (.long q1), .second, .val (.long q2), .second, .val (.long q3), .second, .val (.long q4), .second, .val (.long q5), .second, .val (.int p6), .val (.long pp), .second, .unset, .unset, .unset, .unset, .unset, .unset, .unset, .unset, .unset, .unset, .unset, .unset] [(.long q2)])) t
      exact k
    · simp only [if_neg hc18_4] at k
      refine XS.ifNo X0.here hx rfl (hb hby at_18) rfl (XT.i0_eq_f hc18_4) ?_
      show Steps p.tables e below (s₁.setTop (mkF m 21 #[.val (.long q1), .second, .val (.long q2), .second, .val (.long q3), .second, .val (.long q4), .second, .val (.long q5), .second, .val (.int p6), .val (.long pp), .second, .unset, .unset, .unset, .unset, .unset, .unset, .unset, .unset, .unset, .unset, .unset, .unset] [])) t
      refine XT.lconstV X0.here hx rfl (0 : Int64) (hb hby at_21) (by decide) ?_
      show Steps p.tables e below (s₁.setTop (mkF m 22 #[.val (.long q1), .second, .val (.long q2), .second, .val (.long q3), .second, .val (.long q4), .second, .val (.long q5), .second, .val (.int p6), .val (.long pp), .second, .unset, .unset, .unset, .unset, .unset, .unset, .unset, .unset, .unset, .unset, .unset, .unset] [(.long (0 : Int64))])) t
      refine XS.goto X0.here hx rfl (pc0 := 22) (pc' := 26) rfl (hb hby at_22) (by decide) (by decide) ?_
      show Steps p.tables e below (s₁.setTop (mkF m 26 #[.val (.long q1), .second, .val (.long q2), .second, .val (.long q3), .second, .val (.long q4), .second, .val (.long q5), .second, .val (.int p6), .val (.long pp), .second, .unset, .unset, .unset, .unset, .unset, .unset, .unset, .unset, .unset, .unset, .unset, .unset] [(.long (0 : Int64))])) t
      exact k)
  obtain ⟨bb, h_bb⟩ : ∃ z : Int64, z = (if (p6 &&& (2 : Int32)) = (0 : Int32) then q2 else (0 : Int64)) := ⟨_, rfl⟩
  rw [← h_bb] at pre6
  have pre8 : ∀ t, Steps p.tables e below (s₁.setTop (mkF m 32 #[.val (.long q1), .second, .val (.long q2), .second, .val (.long q3), .second, .val (.long q4), .second, .val (.long q5), .second, .val (.int p6), .val (.long pp), .second, .val (.long bb), .second, .unset, .unset, .unset, .unset, .unset, .unset, .unset, .unset, .unset, .unset] [(.int (p6 &&& (4 : Int32)))])) t → Steps p.tables e below (s₁.setTop (entryFrame m #[(.long q1), (.long q2), (.long q3), (.long q4), (.long q5), (.int p6)] maxLocals)) t := fun t k => pre6 t (by
    show Steps p.tables e below (s₁.setTop (mkF m 26 #[.val (.long q1), .second, .val (.long q2), .second, .val (.long q3), .second, .val (.long q4), .second, .val (.long q5), .second, .val (.int p6), .val (.long pp), .second, .unset, .unset, .unset, .unset, .unset, .unset, .unset, .unset, .unset, .unset, .unset, .unset] [(.long bb)])) t
    refine XT.lstore X0.here hx rfl (hb hby at_26) rfl (l' := #[.val (.long q1), .second, .val (.long q2), .second, .val (.long q3), .second, .val (.long q4), .second, .val (.long q5), .second, .val (.int p6), .val (.long pp), .second, .val (.long bb), .second, .unset, .unset, .unset, .unset, .unset, .unset, .unset, .unset, .unset, .unset]) rfl ?_
    show Steps p.tables e below (s₁.setTop (mkF m 28 #[.val (.long q1), .second, .val (.long q2), .second, .val (.long q3), .second, .val (.long q4), .second, .val (.long q5), .second, .val (.int p6), .val (.long pp), .second, .val (.long bb), .second, .unset, .unset, .unset, .unset, .unset, .unset, .unset, .unset, .unset, .unset] [])) t
    refine XS.iload X0.here hx rfl (hb hby at_28) rfl ?_
    show Steps p.tables e below (s₁.setTop (mkF m 30 #[.val (.long q1), .second, .val (.long q2), .second, .val (.long q3), .second, .val (.long q4), .second, .val (.long q5), .second, .val (.int p6), .val (.long pp), .second, .val (.long bb), .second, .unset, .unset, .unset, .unset, .unset, .unset, .unset, .unset, .unset, .unset] [(.int p6)])) t
    refine XS.iconst X0.here hx rfl (hb hby at_30) ?_
    show Steps p.tables e below (s₁.setTop (mkF m 31 #[.val (.long q1), .second, .val (.long q2), .second, .val (.long q3), .second, .val (.long q4), .second, .val (.long q5), .second, .val (.int p6), .val (.long pp), .second, .val (.long bb), .second, .unset, .unset, .unset, .unset, .unset, .unset, .unset, .unset, .unset, .unset] [(.int (4 : Int32)), (.int p6)])) t
    refine XS.iand X0.here hx rfl (hb hby at_31) rfl ?_
    show Steps p.tables e below (s₁.setTop (mkF m 32 #[.val (.long q1), .second, .val (.long q2), .second, .val (.long q3), .second, .val (.long q4), .second, .val (.long q5), .second, .val (.int p6), .val (.long pp), .second, .val (.long bb), .second, .unset, .unset, .unset, .unset, .unset, .unset, .unset, .unset, .unset, .unset] [(.int (p6 &&& (4 : Int32)))])) t
    exact k)
  have pre9 : ∀ t, Steps p.tables e below (s₁.setTop (mkF m 41 #[.val (.long q1), .second, .val (.long q2), .second, .val (.long q3), .second, .val (.long q4), .second, .val (.long q5), .second, .val (.int p6), .val (.long pp), .second, .val (.long bb), .second, .unset, .unset, .unset, .unset, .unset, .unset, .unset, .unset, .unset, .unset] [(.long (if (p6 &&& (4 : Int32)) = (0 : Int32) then q3 else (0 : Int64)))])) t → Steps p.tables e below (s₁.setTop (entryFrame m #[(.long q1), (.long q2), (.long q3), (.long q4), (.long q5), (.int p6)] maxLocals)) t := fun t k => pre8 t (by
    show Steps p.tables e below (s₁.setTop (mkF m 32 #[.val (.long q1), .second, .val (.long q2), .second, .val (.long q3), .second, .val (.long q4), .second, .val (.long q5), .second, .val (.int p6), .val (.long pp), .second, .val (.long bb), .second, .unset, .unset, .unset, .unset, .unset, .unset, .unset, .unset, .unset, .unset] [(.int (p6 &&& (4 : Int32)))])) t
    by_cases hc32_7 : (p6 &&& (4 : Int32)) = (0 : Int32)
    · simp only [if_pos hc32_7] at k
      refine XS.ifYes X0.here hx rfl (pc0 := 32) (pc' := 39) rfl (hb hby at_32) rfl (XT.i0_eq_t hc32_7) (by decide) (by decide) ?_
      show Steps p.tables e below (s₁.setTop (mkF m 39 #[.val (.long q1), .second, .val (.long q2), .second, .val (.long q3), .second, .val (.long q4), .second, .val (.long q5), .second, .val (.int p6), .val (.long pp), .second, .val (.long bb), .second, .unset, .unset, .unset, .unset, .unset, .unset, .unset, .unset, .unset, .unset] [])) t
      refine XT.lload X0.here hx rfl (hb hby at_39) rfl ?_
      show Steps p.tables e below (s₁.setTop (mkF m 41 #[.val (.long q1), .second, .val (.long q2), .second, .val (.long q3), .second, .val (.long q4), .second, .val (.long q5), .second, .val (.int p6), .val (.long pp), .second, .val (.long bb), .second, .unset, .unset, .unset, .unset, .unset, .unset, .unset, .unset, .unset, .unset] [(.long q3)])) t
      exact k
    · simp only [if_neg hc32_7] at k
      refine XS.ifNo X0.here hx rfl (hb hby at_32) rfl (XT.i0_eq_f hc32_7) ?_
      show Steps p.tables e below (s₁.setTop (mkF m 35 #[.val (.long q1), .second, .val (.long q2), .second, .val (.long q3), .second, .val (.long q4), .second, .val (.long q5), .second, .val (.int p6), .val (.long pp), .second, .val (.long bb), .second, .unset, .unset, .unset, .unset, .unset, .unset, .unset, .unset, .unset, .unset] [])) t
      refine XT.lconstV X0.here hx rfl (0 : Int64) (hb hby at_35) (by decide) ?_
      show Steps p.tables e below (s₁.setTop (mkF m 36 #[.val (.long q1), .second, .val (.long q2), .second, .val (.long q3), .second, .val (.long q4), .second, .val (.long q5), .second, .val (.int p6), .val (.long pp), .second, .val (.long bb), .second, .unset, .unset, .unset, .unset, .unset, .unset, .unset, .unset, .unset, .unset] [(.long (0 : Int64))])) t
      refine XS.goto X0.here hx rfl (pc0 := 36) (pc' := 41) rfl (hb hby at_36) (by decide) (by decide) ?_
      show Steps p.tables e below (s₁.setTop (mkF m 41 #[.val (.long q1), .second, .val (.long q2), .second, .val (.long q3), .second, .val (.long q4), .second, .val (.long q5), .second, .val (.int p6), .val (.long pp), .second, .val (.long bb), .second, .unset, .unset, .unset, .unset, .unset, .unset, .unset, .unset, .unset, .unset] [(.long (0 : Int64))])) t
      exact k)
  obtain ⟨cc, h_cc⟩ : ∃ z : Int64, z = (if (p6 &&& (4 : Int32)) = (0 : Int32) then q3 else (0 : Int64)) := ⟨_, rfl⟩
  rw [← h_cc] at pre9
  have pre11 : ∀ t, Steps p.tables e below (s₁.setTop (mkF m 48 #[.val (.long q1), .second, .val (.long q2), .second, .val (.long q3), .second, .val (.long q4), .second, .val (.long q5), .second, .val (.int p6), .val (.long pp), .second, .val (.long bb), .second, .val (.long cc), .second, .unset, .unset, .unset, .unset, .unset, .unset, .unset, .unset] [(.int (p6 &&& (8 : Int32)))])) t → Steps p.tables e below (s₁.setTop (entryFrame m #[(.long q1), (.long q2), (.long q3), (.long q4), (.long q5), (.int p6)] maxLocals)) t := fun t k => pre9 t (by
    show Steps p.tables e below (s₁.setTop (mkF m 41 #[.val (.long q1), .second, .val (.long q2), .second, .val (.long q3), .second, .val (.long q4), .second, .val (.long q5), .second, .val (.int p6), .val (.long pp), .second, .val (.long bb), .second, .unset, .unset, .unset, .unset, .unset, .unset, .unset, .unset, .unset, .unset] [(.long cc)])) t
    refine XT.lstore X0.here hx rfl (hb hby at_41) rfl (l' := #[.val (.long q1), .second, .val (.long q2), .second, .val (.long q3), .second, .val (.long q4), .second, .val (.long q5), .second, .val (.int p6), .val (.long pp), .second, .val (.long bb), .second, .val (.long cc), .second, .unset, .unset, .unset, .unset, .unset, .unset, .unset, .unset]) rfl ?_
    show Steps p.tables e below (s₁.setTop (mkF m 43 #[.val (.long q1), .second, .val (.long q2), .second, .val (.long q3), .second, .val (.long q4), .second, .val (.long q5), .second, .val (.int p6), .val (.long pp), .second, .val (.long bb), .second, .val (.long cc), .second, .unset, .unset, .unset, .unset, .unset, .unset, .unset, .unset] [])) t
    refine XS.iload X0.here hx rfl (hb hby at_43) rfl ?_
    show Steps p.tables e below (s₁.setTop (mkF m 45 #[.val (.long q1), .second, .val (.long q2), .second, .val (.long q3), .second, .val (.long q4), .second, .val (.long q5), .second, .val (.int p6), .val (.long pp), .second, .val (.long bb), .second, .val (.long cc), .second, .unset, .unset, .unset, .unset, .unset, .unset, .unset, .unset] [(.int p6)])) t
    refine XS.bipush X0.here hx rfl (hb hby at_45) ?_
    show Steps p.tables e below (s₁.setTop (mkF m 47 #[.val (.long q1), .second, .val (.long q2), .second, .val (.long q3), .second, .val (.long q4), .second, .val (.long q5), .second, .val (.int p6), .val (.long pp), .second, .val (.long bb), .second, .val (.long cc), .second, .unset, .unset, .unset, .unset, .unset, .unset, .unset, .unset] [(.int (8 : Int32)), (.int p6)])) t
    refine XS.iand X0.here hx rfl (hb hby at_47) rfl ?_
    show Steps p.tables e below (s₁.setTop (mkF m 48 #[.val (.long q1), .second, .val (.long q2), .second, .val (.long q3), .second, .val (.long q4), .second, .val (.long q5), .second, .val (.int p6), .val (.long pp), .second, .val (.long bb), .second, .val (.long cc), .second, .unset, .unset, .unset, .unset, .unset, .unset, .unset, .unset] [(.int (p6 &&& (8 : Int32)))])) t
    exact k)
  by_cases hc48_10 : (p6 &&& (8 : Int32)) = (0 : Int32)
  · skip
    have pre13 : ∀ t, Steps p.tables e below (s₁.setTop (mkF m 63 #[.val (.long q1), .second, .val (.long q2), .second, .val (.long q3), .second, .val (.long q4), .second, .val (.long q5), .second, .val (.int p6), .val (.long pp), .second, .val (.long bb), .second, .val (.long cc), .second, .val (.int (0 : Int32)), .unset, .unset, .unset, .unset, .unset, .unset, .unset] [(.int (p6 &&& (16 : Int32)))])) t → Steps p.tables e below (s₁.setTop (entryFrame m #[(.long q1), (.long q2), (.long q3), (.long q4), (.long q5), (.int p6)] maxLocals)) t := fun t k => pre11 t (by
      show Steps p.tables e below (s₁.setTop (mkF m 48 #[.val (.long q1), .second, .val (.long q2), .second, .val (.long q3), .second, .val (.long q4), .second, .val (.long q5), .second, .val (.int p6), .val (.long pp), .second, .val (.long bb), .second, .val (.long cc), .second, .unset, .unset, .unset, .unset, .unset, .unset, .unset, .unset] [(.int (p6 &&& (8 : Int32)))])) t
      refine XS.ifYes X0.here hx rfl (pc0 := 48) (pc' := 55) rfl (hb hby at_48) rfl (XT.i0_eq_t hc48_10) (by decide) (by decide) ?_
      show Steps p.tables e below (s₁.setTop (mkF m 55 #[.val (.long q1), .second, .val (.long q2), .second, .val (.long q3), .second, .val (.long q4), .second, .val (.long q5), .second, .val (.int p6), .val (.long pp), .second, .val (.long bb), .second, .val (.long cc), .second, .unset, .unset, .unset, .unset, .unset, .unset, .unset, .unset] [])) t
      refine XS.iconst X0.here hx rfl (hb hby at_55) ?_
      show Steps p.tables e below (s₁.setTop (mkF m 56 #[.val (.long q1), .second, .val (.long q2), .second, .val (.long q3), .second, .val (.long q4), .second, .val (.long q5), .second, .val (.int p6), .val (.long pp), .second, .val (.long bb), .second, .val (.long cc), .second, .unset, .unset, .unset, .unset, .unset, .unset, .unset, .unset] [(.int (0 : Int32))])) t
      refine XS.istore X0.here hx rfl (hb hby at_56) rfl (l' := #[.val (.long q1), .second, .val (.long q2), .second, .val (.long q3), .second, .val (.long q4), .second, .val (.long q5), .second, .val (.int p6), .val (.long pp), .second, .val (.long bb), .second, .val (.long cc), .second, .val (.int (0 : Int32)), .unset, .unset, .unset, .unset, .unset, .unset, .unset]) rfl ?_
      show Steps p.tables e below (s₁.setTop (mkF m 58 #[.val (.long q1), .second, .val (.long q2), .second, .val (.long q3), .second, .val (.long q4), .second, .val (.long q5), .second, .val (.int p6), .val (.long pp), .second, .val (.long bb), .second, .val (.long cc), .second, .val (.int (0 : Int32)), .unset, .unset, .unset, .unset, .unset, .unset, .unset] [])) t
      refine XS.iload X0.here hx rfl (hb hby at_58) rfl ?_
      show Steps p.tables e below (s₁.setTop (mkF m 60 #[.val (.long q1), .second, .val (.long q2), .second, .val (.long q3), .second, .val (.long q4), .second, .val (.long q5), .second, .val (.int p6), .val (.long pp), .second, .val (.long bb), .second, .val (.long cc), .second, .val (.int (0 : Int32)), .unset, .unset, .unset, .unset, .unset, .unset, .unset] [(.int p6)])) t
      refine XS.bipush X0.here hx rfl (hb hby at_60) ?_
      show Steps p.tables e below (s₁.setTop (mkF m 62 #[.val (.long q1), .second, .val (.long q2), .second, .val (.long q3), .second, .val (.long q4), .second, .val (.long q5), .second, .val (.int p6), .val (.long pp), .second, .val (.long bb), .second, .val (.long cc), .second, .val (.int (0 : Int32)), .unset, .unset, .unset, .unset, .unset, .unset, .unset] [(.int (16 : Int32)), (.int p6)])) t
      refine XS.iand X0.here hx rfl (hb hby at_62) rfl ?_
      show Steps p.tables e below (s₁.setTop (mkF m 63 #[.val (.long q1), .second, .val (.long q2), .second, .val (.long q3), .second, .val (.long q4), .second, .val (.long q5), .second, .val (.int p6), .val (.long pp), .second, .val (.long bb), .second, .val (.long cc), .second, .val (.int (0 : Int32)), .unset, .unset, .unset, .unset, .unset, .unset, .unset] [(.int (p6 &&& (16 : Int32)))])) t
      exact k)
    have pre14 : ∀ t, Steps p.tables e below (s₁.setTop (mkF m 74 #[.val (.long q1), .second, .val (.long q2), .second, .val (.long q3), .second, .val (.long q4), .second, .val (.long q5), .second, .val (.int p6), .val (.long pp), .second, .val (.long bb), .second, .val (.long cc), .second, .val (.int (0 : Int32)), .unset, .unset, .unset, .unset, .unset, .unset, .unset] [(.long (if (p6 &&& (16 : Int32)) = (0 : Int32) then q5 else (-pp)))])) t → Steps p.tables e below (s₁.setTop (entryFrame m #[(.long q1), (.long q2), (.long q3), (.long q4), (.long q5), (.int p6)] maxLocals)) t := fun t k => pre13 t (by
      show Steps p.tables e below (s₁.setTop (mkF m 63 #[.val (.long q1), .second, .val (.long q2), .second, .val (.long q3), .second, .val (.long q4), .second, .val (.long q5), .second, .val (.int p6), .val (.long pp), .second, .val (.long bb), .second, .val (.long cc), .second, .val (.int (0 : Int32)), .unset, .unset, .unset, .unset, .unset, .unset, .unset] [(.int (p6 &&& (16 : Int32)))])) t
      by_cases hc63_12 : (p6 &&& (16 : Int32)) = (0 : Int32)
      · simp only [if_pos hc63_12] at k
        refine XS.ifYes X0.here hx rfl (pc0 := 63) (pc' := 72) rfl (hb hby at_63) rfl (XT.i0_eq_t hc63_12) (by decide) (by decide) ?_
        show Steps p.tables e below (s₁.setTop (mkF m 72 #[.val (.long q1), .second, .val (.long q2), .second, .val (.long q3), .second, .val (.long q4), .second, .val (.long q5), .second, .val (.int p6), .val (.long pp), .second, .val (.long bb), .second, .val (.long cc), .second, .val (.int (0 : Int32)), .unset, .unset, .unset, .unset, .unset, .unset, .unset] [])) t
        refine XT.lload X0.here hx rfl (hb hby at_72) rfl ?_
        show Steps p.tables e below (s₁.setTop (mkF m 74 #[.val (.long q1), .second, .val (.long q2), .second, .val (.long q3), .second, .val (.long q4), .second, .val (.long q5), .second, .val (.int p6), .val (.long pp), .second, .val (.long bb), .second, .val (.long cc), .second, .val (.int (0 : Int32)), .unset, .unset, .unset, .unset, .unset, .unset, .unset] [(.long q5)])) t
        exact k
      · simp only [if_neg hc63_12] at k
        refine XS.ifNo X0.here hx rfl (hb hby at_63) rfl (XT.i0_eq_f hc63_12) ?_
        show Steps p.tables e below (s₁.setTop (mkF m 66 #[.val (.long q1), .second, .val (.long q2), .second, .val (.long q3), .second, .val (.long q4), .second, .val (.long q5), .second, .val (.int p6), .val (.long pp), .second, .val (.long bb), .second, .val (.long cc), .second, .val (.int (0 : Int32)), .unset, .unset, .unset, .unset, .unset, .unset, .unset] [])) t
        refine XT.lload X0.here hx rfl (hb hby at_66) rfl ?_
        show Steps p.tables e below (s₁.setTop (mkF m 68 #[.val (.long q1), .second, .val (.long q2), .second, .val (.long q3), .second, .val (.long q4), .second, .val (.long q5), .second, .val (.int p6), .val (.long pp), .second, .val (.long bb), .second, .val (.long cc), .second, .val (.int (0 : Int32)), .unset, .unset, .unset, .unset, .unset, .unset, .unset] [(.long pp)])) t
        refine XT.lneg X0.here hx rfl (hb hby at_68) rfl ?_
        show Steps p.tables e below (s₁.setTop (mkF m 69 #[.val (.long q1), .second, .val (.long q2), .second, .val (.long q3), .second, .val (.long q4), .second, .val (.long q5), .second, .val (.int p6), .val (.long pp), .second, .val (.long bb), .second, .val (.long cc), .second, .val (.int (0 : Int32)), .unset, .unset, .unset, .unset, .unset, .unset, .unset] [(.long (-pp))])) t
        refine XS.goto X0.here hx rfl (pc0 := 69) (pc' := 74) rfl (hb hby at_69) (by decide) (by decide) ?_
        show Steps p.tables e below (s₁.setTop (mkF m 74 #[.val (.long q1), .second, .val (.long q2), .second, .val (.long q3), .second, .val (.long q4), .second, .val (.long q5), .second, .val (.int p6), .val (.long pp), .second, .val (.long bb), .second, .val (.long cc), .second, .val (.int (0 : Int32)), .unset, .unset, .unset, .unset, .unset, .unset, .unset] [(.long (-pp))])) t
        exact k)
    obtain ⟨qq, h_qq⟩ : ∃ z : Int64, z = (if (p6 &&& (16 : Int32)) = (0 : Int32) then q5 else (-pp)) := ⟨_, rfl⟩
    rw [← h_qq] at pre14
    have pre15 : ∀ t, Steps p.tables e below (s₁.setTop (mkF m 76 #[.val (.long q1), .second, .val (.long q2), .second, .val (.long q3), .second, .val (.long q4), .second, .val (.long q5), .second, .val (.int p6), .val (.long pp), .second, .val (.long bb), .second, .val (.long cc), .second, .val (.int (0 : Int32)), .val (.long qq), .second, .unset, .unset, .unset, .unset, .unset] [])) t → Steps p.tables e below (s₁.setTop (entryFrame m #[(.long q1), (.long q2), (.long q3), (.long q4), (.long q5), (.int p6)] maxLocals)) t := fun t k => pre14 t (by
      show Steps p.tables e below (s₁.setTop (mkF m 74 #[.val (.long q1), .second, .val (.long q2), .second, .val (.long q3), .second, .val (.long q4), .second, .val (.long q5), .second, .val (.int p6), .val (.long pp), .second, .val (.long bb), .second, .val (.long cc), .second, .val (.int (0 : Int32)), .unset, .unset, .unset, .unset, .unset, .unset, .unset] [(.long qq)])) t
      refine XT.lstore X0.here hx rfl (hb hby at_74) rfl (l' := #[.val (.long q1), .second, .val (.long q2), .second, .val (.long q3), .second, .val (.long q4), .second, .val (.long q5), .second, .val (.int p6), .val (.long pp), .second, .val (.long bb), .second, .val (.long cc), .second, .val (.int (0 : Int32)), .val (.long qq), .second, .unset, .unset, .unset, .unset, .unset]) rfl ?_
      show Steps p.tables e below (s₁.setTop (mkF m 76 #[.val (.long q1), .second, .val (.long q2), .second, .val (.long q3), .second, .val (.long q4), .second, .val (.long q5), .second, .val (.int p6), .val (.long pp), .second, .val (.long bb), .second, .val (.long cc), .second, .val (.int (0 : Int32)), .val (.long qq), .second, .unset, .unset, .unset, .unset, .unset] [])) t
      exact k)
    obtain ⟨T16, h16, X16, eh16, E16, A16, D16, -, st16⟩ := newO X0 hx hZ hown (hw _ (List.mem_of_getElem? (i := 0) rfl)) (hw _ (List.mem_of_getElem? (i := 1) rfl)) (hw _ (List.mem_of_getElem? (i := 2) rfl)) eh0 (g := (mkF m 76 #[.val (.long q1), .second, .val (.long q2), .second, .val (.long q3), .second, .val (.long q4), .second, .val (.long q5), .second, .val (.int p6), .val (.long pp), .second, .val (.long bb), .second, .val (.long cc), .second, .val (.int (0 : Int32)), .val (.long qq), .second, .unset, .unset, .unset, .unset, .unset] [])) rfl (hb hby at_76) (by decide) (by decide)
    obtain ⟨b16, gg16⟩ : ∃ z, z = h0.size := ⟨_, rfl⟩
    rw [← gg16] at A16 D16 st16
    have sz16 : n0 ≤ h16.size := Nat.le_trans Z0 E16.1
    have g_b16 : n0 ≤ b16 := Nat.le_trans Z0 (Nat.le_of_eq gg16.symm)
    have F_minRtMillis_b16 : Fld Z h16 b16 "com/example/obturo/obturo/stats/internal/WindowTally" "minRtMillis" "J" (.long (0 : Int64)) := D16 (Or.inl (hw _ (List.mem_of_getElem? (i := 11) rfl))) (ty := .long) (by decide)
    have F_pass_b16 : Fld Z h16 b16 "com/example/obturo/obturo/stats/internal/WindowTally" "pass" "J" (.long (0 : Int64)) := D16 (Or.inl (hw _ (List.mem_of_getElem? (i := 18) rfl))) (ty := .long) (by decide)
    have F_block_b16 : Fld Z h16 b16 "com/example/obturo/obturo/stats/internal/WindowTally" "block" "J" (.long (0 : Int64)) := D16 (Or.inl (hw _ (List.mem_of_getElem? (i := 20) rfl))) (ty := .long) (by decide)
    have F_completed_b16 : Fld Z h16 b16 "com/example/obturo/obturo/stats/internal/WindowTally" "completed" "J" (.long (0 : Int64)) := D16 (Or.inl (hw _ (List.mem_of_getElem? (i := 22) rfl))) (ty := .long) (by decide)
    have F_errors_b16 : Fld Z h16 b16 "com/example/obturo/obturo/stats/internal/WindowTally" "errors" "J" (.long (0 : Int64)) := D16 (Or.inl (hw _ (List.mem_of_getElem? (i := 30) rfl))) (ty := .long) (by decide)
    have F_totalRtMillis_b16 : Fld Z h16 b16 "com/example/obturo/obturo/stats/internal/WindowTally" "totalRtMillis" "J" (.long (0 : Int64)) := D16 (Or.inl (hw _ (List.mem_of_getElem? (i := 32) rfl))) (ty := .long) (by decide)
    have pre17 : ∀ t, Steps p.tables e below (T16.setTop (mkF m 79 #[.val (.long q1), .second, .val (.long q2), .second, .val (.long q3), .second, .val (.long q4), .second, .val (.long q5), .second, .val (.int p6), .val (.long pp), .second, .val (.long bb), .second, .val (.long cc), .second, .val (.int (0 : Int32)), .val (.long qq), .second, .unset, .unset, .unset, .unset, .unset] [(.ref b16)])) t → Steps p.tables e below (s₁.setTop (entryFrame m #[(.long q1), (.long q2), (.long q3), (.long q4), (.long q5), (.int p6)] maxLocals)) t := fun t k => pre15 t (st16 _ k)
    have pre18 : ∀ t, Steps p.tables e below (T16.setTop (mkF m 80 #[.val (.long q1), .second, .val (.long q2), .second, .val (.long q3), .second, .val (.long q4), .second, .val (.long q5), .second, .val (.int p6), .val (.long pp), .second, .val (.long bb), .second, .val (.long cc), .second, .val (.int (0 : Int32)), .val (.long qq), .second, .unset, .unset, .unset, .unset, .unset] [(.ref b16), (.ref b16)])) t → Steps p.tables e below (s₁.setTop (entryFrame m #[(.long q1), (.long q2), (.long q3), (.long q4), (.long q5), (.int p6)] maxLocals)) t := fun t k => pre17 t (by
      show Steps p.tables e below (T16.setTop (mkF m 79 #[.val (.long q1), .second, .val (.long q2), .second, .val (.long q3), .second, .val (.long q4), .second, .val (.long q5), .second, .val (.int p6), .val (.long pp), .second, .val (.long bb), .second, .val (.long cc), .second, .val (.int (0 : Int32)), .val (.long qq), .second, .unset, .unset, .unset, .unset, .unset] [(.ref b16)])) t
      refine XS.dup X16.here hx rfl (hb hby at_79) rfl rfl ?_
      show Steps p.tables e below (T16.setTop (mkF m 80 #[.val (.long q1), .second, .val (.long q2), .second, .val (.long q3), .second, .val (.long q4), .second, .val (.long q5), .second, .val (.int p6), .val (.long pp), .second, .val (.long bb), .second, .val (.long cc), .second, .val (.int (0 : Int32)), .val (.long qq), .second, .unset, .unset, .unset, .unset, .unset] [(.ref b16), (.ref b16)])) t
      exact k)
    obtain ⟨_, _, ⟨T19, L19, k19, n19⟩, -, X19, ⟨Lc19, hQ19, l19, y19, z19⟩, st19⟩ := X16.specialBack hx (y := (⟨"com/example/obturo/obturo/stats/internal/WindowTally", "<init>", "()V"⟩ : MethodName)) rfl hown (mvT hZ (hw _ (List.mem_of_getElem? (i := 3) rfl))) (mvT hZ (hw _ (List.mem_of_getElem? (i := 4) rfl))) (mvT hZ (hw _ (List.mem_of_getElem? (i := 5) rfl))) (by decide) (backOf (W := 1) (rm1 l Z a0 hw [] b16 (0 : Int64) (0 : Int64) (0 : Int64) (0 : Int64) (0 : Int64) (0 : Int64) h16 n0 sz16 A16 F_pass_b16 F_block_b16 F_completed_b16 F_errors_b16 F_totalRtMillis_b16 F_minRtMillis_b16 g_b16) hZ (hw _ (List.mem_of_getElem? (i := 5) rfl)) (hw _ (List.mem_of_getElem? (i := 2) rfl)) (by decide) (by decide)) (g := (mkF m 80 #[.val (.long q1), .second, .val (.long q2), .second, .val (.long q3), .second, .val (.long q4), .second, .val (.long q5), .second, .val (.int p6), .val (.long pp), .second, .val (.long bb), .second, .val (.long cc), .second, .val (.int (0 : Int32)), .val (.long qq), .second, .unset, .unset, .unset, .unset, .unset] [(.ref b16), (.ref b16)])) rfl (by rw [hml]; rfl) (Steps.refl _) (a := b16) (argsL := []) (rest := [(.ref b16)]) (lenOf pd_ocV rfl) rfl (by show 2 * 0 + _ ≤ _; exact Nat.le_of_eq rfl) (hb hby at_80) (fun _ _ => ⟨rfl, eh16, (by decide : 1 + 0 ≤ _), (by decide : 6 + 0 ≤ _)⟩)
    dsimp only [Pt.U, Pt.locs, Pt.cells, Pt.slots] at X19 l19 y19 z19 st19 hQ19
    subst l19 y19 z19
    obtain ⟨rfl, N19q, Kq19, P19_1, P19_2, P19_3, P19_4, P19_5, P19_6, P19_7⟩ := hQ19
    have sz19 : n0 ≤ T19.heap.size := Nat.le_trans sz16 Kq19.1
    have N19 := Fr.app N0 N19q
    have pre20 : ∀ t, Steps p.tables e below (T19.setTop (mkF m 83 #[.val (.long q1), .second, .val (.long q2), .second, .val (.long q3), .second, .val (.long q4), .second, .val (.long q5), .second, .val (.int p6), .val (.long pp), .second, .val (.long bb), .second, .val (.long cc), .second, .val (.int (0 : Int32)), .val (.long qq), .second, .unset, .unset, .unset, .unset, .unset] [(.ref b16)])) t → Steps p.tables e below (s₁.setTop (entryFrame m #[(.long q1), (.long q2), (.long q3), (.long q4), (.long q5), (.int p6)] maxLocals)) t := fun t k => pre18 t (st19.trans k)
    have pre21 : ∀ t, Steps p.tables e below (T19.setTop (mkF m 87 #[.val (.long q1), .second, .val (.long q2), .second, .val (.long q3), .second, .val (.long q4), .second, .val (.long q5), .second, .val (.int p6), .val (.long pp), .second, .val (.long bb), .second, .val (.long cc), .second, .val (.int (0 : Int32)), .val (.long qq), .second, .val (.ref b16), .unset, .unset, .unset, .unset] [(.ref b16)])) t → Steps p.tables e below (s₁.setTop (entryFrame m #[(.long q1), (.long q2), (.long q3), (.long q4), (.long q5), (.int p6)] maxLocals)) t := fun t k => pre20 t (by
      show Steps p.tables e below (T19.setTop (mkF m 83 #[.val (.long q1), .second, .val (.long q2), .second, .val (.long q3), .second, .val (.long q4), .second, .val (.long q5), .second, .val (.int p6), .val (.long pp), .second, .val (.long bb), .second, .val (.long cc), .second, .val (.int (0 : Int32)), .val (.long qq), .second, .unset, .unset, .unset, .unset, .unset] [(.ref b16)])) t
      refine XS.astore X19.here hx rfl (hb hby at_83) rfl rfl (l' := #[.val (.long q1), .second, .val (.long q2), .second, .val (.long q3), .second, .val (.long q4), .second, .val (.long q5), .second, .val (.int p6), .val (.long pp), .second, .val (.long bb), .second, .val (.long cc), .second, .val (.int (0 : Int32)), .val (.long qq), .second, .val (.ref b16), .unset, .unset, .unset, .unset]) rfl ?_
      show Steps p.tables e below (T19.setTop (mkF m 85 #[.val (.long q1), .second, .val (.long q2), .second, .val (.long q3), .second, .val (.long q4), .second, .val (.long q5), .second, .val (.int p6), .val (.long pp), .second, .val (.long bb), .second, .val (.long cc), .second, .val (.int (0 : Int32)), .val (.long qq), .second, .val (.ref b16), .unset, .unset, .unset, .unset] [])) t
      refine XS.aload X19.here hx rfl (hb hby at_85) rfl rfl ?_
      show Steps p.tables e below (T19.setTop (mkF m 87 #[.val (.long q1), .second, .val (.long q2), .second, .val (.long q3), .second, .val (.long q4), .second, .val (.long q5), .second, .val (.int p6), .val (.long pp), .second, .val (.long bb), .second, .val (.long cc), .second, .val (.int (0 : Int32)), .val (.long qq), .second, .val (.ref b16), .unset, .unset, .unset, .unset] [(.ref b16)])) t
      exact k)
    obtain ⟨cq22, kq22, q22a, q22b, q22c⟩ := isOf hZ rfl P19_1
    obtain ⟨_, _, ⟨T22, L22, k22, n22⟩, -, X22, ⟨Lc22, hQ22, l22, y22, z22⟩, st22⟩ := X19.virtualBack hx (y := (⟨"com/example/obturo/obturo/stats/internal/WindowTally", "empty", "()Z"⟩ : MethodName)) (z := (⟨"com/example/obturo/obturo/stats/internal/WindowTally", "empty", "()Z"⟩ : MethodName)) hown (mvT hZ (hw _ (List.mem_of_getElem? (i := 12) rfl))) (mvT hZ (hw _ (List.mem_of_getElem? (i := 13) rfl))) (notFace_of_selects (args := #[]) (mvT hZ (hw _ (List.mem_of_getElem? (i := 15) rfl)))) (mvT hZ (hw _ (List.mem_of_getElem? (i := 15) rfl))) (mvT hZ (hw _ (List.mem_of_getElem? (i := 14) rfl))) (by decide) (backOf (W := 0) (rm3 l Z a0 hw [] b16 (0 : Int64) (0 : Int64) (0 : Int64) T19.heap n0 sz19 P19_2 P19_3 P19_4) hZ (hw _ (List.mem_of_getElem? (i := 16) rfl)) (hw _ (List.mem_of_getElem? (i := 2) rfl)) (by decide) (by decide)) q22a q22c (g := (mkF m 87 #[.val (.long q1), .second, .val (.long q2), .second, .val (.long q3), .second, .val (.long q4), .second, .val (.long q5), .second, .val (.int p6), .val (.long pp), .second, .val (.long bb), .second, .val (.long cc), .second, .val (.int (0 : Int32)), .val (.long qq), .second, .val (.ref b16), .unset, .unset, .unset, .unset] [(.ref b16)])) rfl (by rw [hml]; rfl) (Steps.refl _) (argsL := []) (rest := []) (lenOf pd_ocZ rfl) rfl (by show 2 * 0 + _ ≤ _; exact Nat.le_of_eq rfl) (hb hby at_87) (fun _ _ => ⟨rfl, rfl, (by decide : 1 + 0 ≤ _), (by decide : 6 + 0 ≤ _)⟩)
    dsimp only [Pt.U, Pt.locs, Pt.cells, Pt.slots] at X22 l22 y22 z22 st22 hQ22
    subst l22 y22 z22
    obtain ⟨rfl, N22q, eh22⟩ := hQ22
    have N22 := Fr.app N19 N22q
    have pre23 : ∀ t, Steps p.tables e below (T22.setTop (mkF m 90 #[.val (.long q1), .second, .val (.long q2), .second, .val (.long q3), .second, .val (.long q4), .second, .val (.long q5), .second, .val (.int p6), .val (.long pp), .second, .val (.long bb), .second, .val (.long cc), .second, .val (.int (0 : Int32)), .val (.long qq), .second, .val (.ref b16), .unset, .unset, .unset, .unset] [(.int (own_empty (0 : Int64) (0 : Int64) (0 : Int64)))])) t → Steps p.tables e below (s₁.setTop (entryFrame m #[(.long q1), (.long q2), (.long q3), (.long q4), (.long q5), (.int p6)] maxLocals)) t := fun t k => pre21 t (st22.trans k)
    have pre24 : ∀ t, Steps p.tables e below (T22.setTop (mkF m 110 #[.val (.long q1), .second, .val (.long q2), .second, .val (.long q3), .second, .val (.long q4), .second, .val (.long q5), .second, .val (.int p6), .val (.long pp), .second, .val (.long bb), .second, .val (.long cc), .second, .val (.int (0 : Int32)), .val (.long qq), .second, .val (.ref b16), .val (.int (own_empty (0 : Int64) (0 : Int64) (0 : Int64))), .unset, .unset, .unset] [(.long q4), (.long (q4 ^^^ (-1 : Int64))), (.long q4), (.long cc), (.long bb), (.long pp), (.ref b16)])) t → Steps p.tables e below (s₁.setTop (entryFrame m #[(.long q1), (.long q2), (.long q3), (.long q4), (.long q5), (.int p6)] maxLocals)) t := fun t k => pre23 t (by
      show Steps p.tables e below (T22.setTop (mkF m 90 #[.val (.long q1), .second, .val (.long q2), .second, .val (.long q3), .second, .val (.long q4), .second, .val (.long q5), .second, .val (.int p6), .val (.long pp), .second, .val (.long bb), .second, .val (.long cc), .second, .val (.int (0 : Int32)), .val (.long qq), .second, .val (.ref b16), .unset, .unset, .unset, .unset] [(.int (own_empty (0 : Int64) (0 : Int64) (0 : Int64)))])) t
      refine XS.istore X22.here hx rfl (hb hby at_90) rfl (l' := #[.val (.long q1), .second, .val (.long q2), .second, .val (.long q3), .second, .val (.long q4), .second, .val (.long q5), .second, .val (.int p6), .val (.long pp), .second, .val (.long bb), .second, .val (.long cc), .second, .val (.int (0 : Int32)), .val (.long qq), .second, .val (.ref b16), .val (.int (own_empty (0 : Int64) (0 : Int64) (0 : Int64))), .unset, .unset, .unset]) rfl ?_
      show Steps p.tables e below (T22.setTop (mkF m 92 #[.val (.long q1), .second, .val (.long q2), .second, .val (.long q3), .second, .val (.long q4), .second, .val (.long q5), .second, .val (.int p6), .val (.long pp), .second, .val (.long bb), .second, .val (.long cc), .second, .val (.int (0 : Int32)), .val (.long qq), .second, .val (.ref b16), .val (.int (own_empty (0 : Int64) (0 : Int64) (0 : Int64))), .unset, .unset, .unset] [])) t
      refine XS.aload X22.here hx rfl (hb hby at_92) rfl rfl ?_
      show Steps p.tables e below (T22.setTop (mkF m 94 #[.val (.long q1), .second, .val (.long q2), .second, .val (.long q3), .second, .val (.long q4), .second, .val (.long q5), .second, .val (.int p6), .val (.long pp), .second, .val (.long bb), .second, .val (.long cc), .second, .val (.int (0 : Int32)), .val (.long qq), .second, .val (.ref b16), .val (.int (own_empty (0 : Int64) (0 : Int64) (0 : Int64))), .unset, .unset, .unset] [(.ref b16)])) t
      refine XT.lload X22.here hx rfl (hb hby at_94) rfl ?_
      show Steps p.tables e below (T22.setTop (mkF m 96 #[.val (.long q1), .second, .val (.long q2), .second, .val (.long q3), .second, .val (.long q4), .second, .val (.long q5), .second, .val (.int p6), .val (.long pp), .second, .val (.long bb), .second, .val (.long cc), .second, .val (.int (0 : Int32)), .val (.long qq), .second, .val (.ref b16), .val (.int (own_empty (0 : Int64) (0 : Int64) (0 : Int64))), .unset, .unset, .unset] [(.long pp), (.ref b16)])) t
      refine XT.lload X22.here hx rfl (hb hby at_96) rfl ?_
      show Steps p.tables e below (T22.setTop (mkF m 98 #[.val (.long q1), .second, .val (.long q2), .second, .val (.long q3), .second, .val (.long q4), .second, .val (.long q5), .second, .val (.int p6), .val (.long pp), .second, .val (.long bb), .second, .val (.long cc), .second, .val (.int (0 : Int32)), .val (.long qq), .second, .val (.ref b16), .val (.int (own_empty (0 : Int64) (0 : Int64) (0 : Int64))), .unset, .unset, .unset] [(.long bb), (.long pp), (.ref b16)])) t
      refine XT.lload X22.here hx rfl (hb hby at_98) rfl ?_
      show Steps p.tables e below (T22.setTop (mkF m 100 #[.val (.long q1), .second, .val (.long q2), .second, .val (.long q3), .second, .val (.long q4), .second, .val (.long q5), .second, .val (.int p6), .val (.long pp), .second, .val (.long bb), .second, .val (.long cc), .second, .val (.int (0 : Int32)), .val (.long qq), .second, .val (.ref b16), .val (.int (own_empty (0 : Int64) (0 : Int64) (0 : Int64))), .unset, .unset, .unset] [(.long cc), (.long bb), (.long pp), (.ref b16)])) t
      refine XT.lload X22.here hx rfl (hb hby at_100) rfl ?_
      show Steps p.tables e below (T22.setTop (mkF m 102 #[.val (.long q1), .second, .val (.long q2), .second, .val (.long q3), .second, .val (.long q4), .second, .val (.long q5), .second, .val (.int p6), .val (.long pp), .second, .val (.long bb), .second, .val (.long cc), .second, .val (.int (0 : Int32)), .val (.long qq), .second, .val (.ref b16), .val (.int (own_empty (0 : Int64) (0 : Int64) (0 : Int64))), .unset, .unset, .unset] [(.long q4), (.long cc), (.long bb), (.long pp), (.ref b16)])) t
      refine XT.lload X22.here hx rfl (hb hby at_102) rfl ?_
      show Steps p.tables e below (T22.setTop (mkF m 104 #[.val (.long q1), .second, .val (.long q2), .second, .val (.long q3), .second, .val (.long q4), .second, .val (.long q5), .second, .val (.int p6), .val (.long pp), .second, .val (.long bb), .second, .val (.long cc), .second, .val (.int (0 : Int32)), .val (.long qq), .second, .val (.ref b16), .val (.int (own_empty (0 : Int64) (0 : Int64) (0 : Int64))), .unset, .unset, .unset] [(.long q4), (.long q4), (.long cc), (.long bb), (.long pp), (.ref b16)])) t
      refine X22.ldc2Long hx hown (mvT hZ (hw _ (List.mem_of_getElem? (i := 23) rfl))) (g := (mkF m 104 #[.val (.long q1), .second, .val (.long q2), .second, .val (.long q3), .second, .val (.long q4), .second, .val (.long q5), .second, .val (.int p6), .val (.long pp), .second, .val (.long bb), .second, .val (.long cc), .second, .val (.int (0 : Int32)), .val (.long qq), .second, .val (.ref b16), .val (.int (own_empty (0 : Int64) (0 : Int64) (0 : Int64))), .unset, .unset, .unset] [(.long q4), (.long q4), (.long cc), (.long bb), (.long pp), (.ref b16)])) rfl (hb hby at_104) _ ?_
      show Steps p.tables e below (T22.setTop (mkF m 107 #[.val (.long q1), .second, .val (.long q2), .second, .val (.long q3), .second, .val (.long q4), .second, .val (.long q5), .second, .val (.int p6), .val (.long pp), .second, .val (.long bb), .second, .val (.long cc), .second, .val (.int (0 : Int32)), .val (.long qq), .second, .val (.ref b16), .val (.int (own_empty (0 : Int64) (0 : Int64) (0 : Int64))), .unset, .unset, .unset] [(.long (-1 : Int64)), (.long q4), (.long q4), (.long cc), (.long bb), (.long pp), (.ref b16)])) t
      refine XT.lxor X22.here hx rfl (hb hby at_107) rfl ?_
      show Steps p.tables e below (T22.setTop (mkF m 108 #[.val (.long q1), .second, .val (.long q2), .second, .val (.long q3), .second, .val (.long q4), .second, .val (.long q5), .second, .val (.int p6), .val (.long pp), .second, .val (.long bb), .second, .val (.long cc), .second, .val (.int (0 : Int32)), .val (.long qq), .second, .val (.ref b16), .val (.int (own_empty (0 : Int64) (0 : Int64) (0 : Int64))), .unset, .unset, .unset] [(.long (q4 ^^^ (-1 : Int64))), (.long q4), (.long cc), (.long bb), (.long pp), (.ref b16)])) t
      refine XT.lload X22.here hx rfl (hb hby at_108) rfl ?_
      show Steps p.tables e below (T22.setTop (mkF m 110 #[.val (.long q1), .second, .val (.long q2), .second, .val (.long q3), .second, .val (.long q4), .second, .val (.long q5), .second, .val (.int p6), .val (.long pp), .second, .val (.long bb), .second, .val (.long cc), .second, .val (.int (0 : Int32)), .val (.long qq), .second, .val (.ref b16), .val (.int (own_empty (0 : Int64) (0 : Int64) (0 : Int64))), .unset, .unset, .unset] [(.long q4), (.long (q4 ^^^ (-1 : Int64))), (.long q4), (.long cc), (.long bb), (.long pp), (.ref b16)])) t
      exact k)
    obtain ⟨cq25, kq25, q25a, q25b, q25c⟩ := isOf hZ eh22 P19_1
    obtain ⟨_, _, ⟨T25, L25, k25, n25⟩, -, X25, ⟨Lc25, hQ25, l25, y25, z25⟩, st25⟩ := X22.virtualBack hx (y := (⟨"com/example/obturo/obturo/stats/internal/WindowTally", "add", "(JJJJJJ)V"⟩ : MethodName)) (z := (⟨"com/example/obturo/obturo/stats/internal/WindowTally", "add", "(JJJJJJ)V"⟩ : MethodName)) hown (mvT hZ (hw _ (List.mem_of_getElem? (i := 24) rfl))) (mvT hZ (hw _ (List.mem_of_getElem? (i := 25) rfl))) (notFace_of_selects (args := #[]) (mvT hZ (hw _ (List.mem_of_getElem? (i := 27) rfl)))) (mvT hZ (hw _ (List.mem_of_getElem? (i := 27) rfl))) (mvT hZ (hw _ (List.mem_of_getElem? (i := 26) rfl))) (by decide) (backOf (W := 0) (rm4 l Z a0 hw [] b16 pp bb cc q4 (q4 ^^^ (-1 : Int64)) q4 (0 : Int64) (0 : Int64) (0 : Int64) (0 : Int64) (0 : Int64) (9223372036854775807 : Int64) T19.heap n0 sz19 P19_1 P19_2 P19_3 P19_4 P19_5 P19_6 P19_7 g_b16) hZ (hw _ (List.mem_of_getElem? (i := 28) rfl)) (hw _ (List.mem_of_getElem? (i := 2) rfl)) (by decide) (by decide)) q25a q25c (g := (mkF m 110 #[.val (.long q1), .second, .val (.long q2), .second, .val (.long q3), .second, .val (.long q4), .second, .val (.long q5), .second, .val (.int p6), .val (.long pp), .second, .val (.long bb), .second, .val (.long cc), .second, .val (.int (0 : Int32)), .val (.long qq), .second, .val (.ref b16), .val (.int (own_empty (0 : Int64) (0 : Int64) (0 : Int64))), .unset, .unset, .unset] [(.long q4), (.long (q4 ^^^ (-1 : Int64))), (.long q4), (.long cc), (.long bb), (.long pp), (.ref b16)])) rfl (by rw [hml]; rfl) (Steps.refl _) (argsL := [(.long pp), (.long bb), (.long cc), (.long q4), (.long (q4 ^^^ (-1 : Int64))), (.long q4)]) (rest := []) (lenOf pd_oJJJJJJcV rfl) rfl (by show 2 * 0 + _ ≤ _; exact Nat.le_of_eq rfl) (hb hby at_110) (fun _ _ => ⟨rfl, eh22, (by decide : 1 + 0 ≤ _), (by decide : 6 + 0 ≤ _)⟩)
    dsimp only [Pt.U, Pt.locs, Pt.cells, Pt.slots] at X25 l25 y25 z25 st25 hQ25
    subst l25 y25 z25
    obtain ⟨rfl, N25q, Kq25, P25_1, P25_2, P25_3, P25_4, P25_5, P25_6, P25_7⟩ := hQ25
    have sz25 : n0 ≤ T25.heap.size := Nat.le_trans sz19 Kq25.1
    have N25 := Fr.app N22 N25q
    have pre26 : ∀ t, Steps p.tables e below (T25.setTop (mkF m 113 #[.val (.long q1), .second, .val (.long q2), .second, .val (.long q3), .second, .val (.long q4), .second, .val (.long q5), .second, .val (.int p6), .val (.long pp), .second, .val (.long bb), .second, .val (.long cc), .second, .val (.int (0 : Int32)), .val (.long qq), .second, .val (.ref b16), .val (.int (own_empty (0 : Int64) (0 : Int64) (0 : Int64))), .unset, .unset, .unset] [])) t → Steps p.tables e below (s₁.setTop (entryFrame m #[(.long q1), (.long q2), (.long q3), (.long q4), (.long q5), (.int p6)] maxLocals)) t := fun t k => pre24 t (st25.trans k)
    have pre30 : ∀ t, Steps p.tables e below (T25.setTop (mkF m 146 #[.val (.long q1), .second, .val (.long q2), .second, .val (.long q3), .second, .val (.long q4), .second, .val (.long q5), .second, .val (.int p6), .val (.long pp), .second, .val (.long bb), .second, .val (.long cc), .second, .val (.int (0 : Int32)), .val (.long qq), .second, .val (.ref b16), .val (.int (own_empty (0 : Int64) (0 : Int64) (0 : Int64))), .val (.long pp), .second, .unset] [(.int (XT.cmpL pp (0 : Int64)))])) t → Steps p.tables e below (s₁.setTop (entryFrame m #[(.long q1), (.long q2), (.long q3), (.long q4), (.long q5), (.int p6)] maxLocals)) t := fun t k => pre26 t (by
      show Steps p.tables e below (T25.setTop (mkF m 113 #[.val (.long q1), .second, .val (.long q2), .second, .val (.long q3), .second, .val (.long q4), .second, .val (.long q5), .second, .val (.int p6), .val (.long pp), .second, .val (.long bb), .second, .val (.long cc), .second, .val (.int (0 : Int32)), .val (.long qq), .second, .val (.ref b16), .val (.int (own_empty (0 : Int64) (0 : Int64) (0 : Int64))), .unset, .unset, .unset] [])) t
      refine XS.iload X25.here hx rfl (hb hby at_113) rfl ?_
      show Steps p.tables e below (T25.setTop (mkF m 115 #[.val (.long q1), .second, .val (.long q2), .second, .val (.long q3), .second, .val (.long q4), .second, .val (.long q5), .second, .val (.int p6), .val (.long pp), .second, .val (.long bb), .second, .val (.long cc), .second, .val (.int (0 : Int32)), .val (.long qq), .second, .val (.ref b16), .val (.int (own_empty (0 : Int64) (0 : Int64) (0 : Int64))), .unset, .unset, .unset] [(.int (0 : Int32))])) t
      refine XS.ifYes X25.here hx rfl (pc0 := 115) (pc' := 125) rfl (hb hby at_115) rfl (XT.i0_eq_t (show (0 : Int32) = (0 : Int32) from by decide)) (by decide) (by decide) ?_
      show Steps p.tables e below (T25.setTop (mkF m 125 #[.val (.long q1), .second, .val (.long q2), .second, .val (.long q3), .second, .val (.long q4), .second, .val (.long q5), .second, .val (.int p6), .val (.long pp), .second, .val (.long bb), .second, .val (.long cc), .second, .val (.int (0 : Int32)), .val (.long qq), .second, .val (.ref b16), .val (.int (own_empty (0 : Int64) (0 : Int64) (0 : Int64))), .unset, .unset, .unset] [])) t
      refine XS.iload X25.here hx rfl (hb hby at_125) rfl ?_
      show Steps p.tables e below (T25.setTop (mkF m 127 #[.val (.long q1), .second, .val (.long q2), .second, .val (.long q3), .second, .val (.long q4), .second, .val (.long q5), .second, .val (.int p6), .val (.long pp), .second, .val (.long bb), .second, .val (.long cc), .second, .val (.int (0 : Int32)), .val (.long qq), .second, .val (.ref b16), .val (.int (own_empty (0 : Int64) (0 : Int64) (0 : Int64))), .unset, .unset, .unset] [(.int (0 : Int32))])) t
      refine XS.ifYes X25.here hx rfl (pc0 := 127) (pc' := 138) rfl (hb hby at_127) rfl (XT.i0_eq_t (show (0 : Int32) = (0 : Int32) from by decide)) (by decide) (by decide) ?_
      show Steps p.tables e below (T25.setTop (mkF m 138 #[.val (.long q1), .second, .val (.long q2), .second, .val (.long q3), .second, .val (.long q4), .second, .val (.long q5), .second, .val (.int p6), .val (.long pp), .second, .val (.long bb), .second, .val (.long cc), .second, .val (.int (0 : Int32)), .val (.long qq), .second, .val (.ref b16), .val (.int (own_empty (0 : Int64) (0 : Int64) (0 : Int64))), .unset, .unset, .unset] [])) t
      refine XT.lload X25.here hx rfl (hb hby at_138) rfl ?_
      show Steps p.tables e below (T25.setTop (mkF m 140 #[.val (.long q1), .second, .val (.long q2), .second, .val (.long q3), .second, .val (.long q4), .second, .val (.long q5), .second, .val (.int p6), .val (.long pp), .second, .val (.long bb), .second, .val (.long cc), .second, .val (.int (0 : Int32)), .val (.long qq), .second, .val (.ref b16), .val (.int (own_empty (0 : Int64) (0 : Int64) (0 : Int64))), .unset, .unset, .unset] [(.long pp)])) t
      refine XT.lstore X25.here hx rfl (hb hby at_140) rfl (l' := #[.val (.long q1), .second, .val (.long q2), .second, .val (.long q3), .second, .val (.long q4), .second, .val (.long q5), .second, .val (.int p6), .val (.long pp), .second, .val (.long bb), .second, .val (.long cc), .second, .val (.int (0 : Int32)), .val (.long qq), .second, .val (.ref b16), .val (.int (own_empty (0 : Int64) (0 : Int64) (0 : Int64))), .val (.long pp), .second, .unset]) rfl ?_
      show Steps p.tables e below (T25.setTop (mkF m 142 #[.val (.long q1), .second, .val (.long q2), .second, .val (.long q3), .second, .val (.long q4), .second, .val (.long q5), .second, .val (.int p6), .val (.long pp), .second, .val (.long bb), .second, .val (.long cc), .second, .val (.int (0 : Int32)), .val (.long qq), .second, .val (.ref b16), .val (.int (own_empty (0 : Int64) (0 : Int64) (0 : Int64))), .val (.long pp), .second, .unset] [])) t
      refine XT.lload X25.here hx rfl (hb hby at_142) rfl ?_
      show Steps p.tables e below (T25.setTop (mkF m 144 #[.val (.long q1), .second, .val (.long q2), .second, .val (.long q3), .second, .val (.long q4), .second, .val (.long q5), .second, .val (.int p6), .val (.long pp), .second, .val (.long bb), .second, .val (.long cc), .second, .val (.int (0 : Int32)), .val (.long qq), .second, .val (.ref b16), .val (.int (own_empty (0 : Int64) (0 : Int64) (0 : Int64))), .val (.long pp), .second, .unset] [(.long pp)])) t
      refine XT.lconstV X25.here hx rfl (0 : Int64) (hb hby at_144) (by decide) ?_
      show Steps p.tables e below (T25.setTop (mkF m 145 #[.val (.long q1), .second, .val (.long q2), .second, .val (.long q3), .second, .val (.long q4), .second, .val (.long q5), .second, .val (.int p6), .val (.long pp), .second, .val (.long bb), .second, .val (.long cc), .second, .val (.int (0 : Int32)), .val (.long qq), .second, .val (.ref b16), .val (.int (own_empty (0 : Int64) (0 : Int64) (0 : Int64))), .val (.long pp), .second, .unset] [(.long (0 : Int64)), (.long pp)])) t
      refine XT.lcmp X25.here hx rfl (hb hby at_145) rfl ?_
      show Steps p.tables e below (T25.setTop (mkF m 146 #[.val (.long q1), .second, .val (.long q2), .second, .val (.long q3), .second, .val (.long q4), .second, .val (.long q5), .second, .val (.int p6), .val (.long pp), .second, .val (.long bb), .second, .val (.long cc), .second, .val (.int (0 : Int32)), .val (.long qq), .second, .val (.ref b16), .val (.int (own_empty (0 : Int64) (0 : Int64) (0 : Int64))), .val (.long pp), .second, .unset] [(.int (XT.cmpL pp (0 : Int64)))])) t
      exact k)
    have pre35 : ∀ t, Steps p.tables e below (T25.setTop (mkF m 168 #[.val (.long q1), .second, .val (.long q2), .second, .val (.long q3), .second, .val (.long q4), .second, .val (.long q5), .second, .val (.int p6), .val (.long pp), .second, .val (.long bb), .second, .val (.long cc), .second, .val (.int (0 : Int32)), .val (.long qq), .second, .val (.ref b16), .val (.int (own_empty (0 : Int64) (0 : Int64) (0 : Int64))), .val (.long pp), .second, .unset] [(.int (if pp = (0 : Int64) then (if bb = (0 : Int64) then (if cc = (0 : Int64) then (1 : Int32) else (0 : Int32)) else (0 : Int32)) else (0 : Int32)))])) t → Steps p.tables e below (s₁.setTop (entryFrame m #[(.long q1), (.long q2), (.long q3), (.long q4), (.long q5), (.int p6)] maxLocals)) t := fun t k => pre30 t (by
      show Steps p.tables e below (T25.setTop (mkF m 146 #[.val (.long q1), .second, .val (.long q2), .second, .val (.long q3), .second, .val (.long q4), .second, .val (.long q5), .second, .val (.int p6), .val (.long pp), .second, .val (.long bb), .second, .val (.long cc), .second, .val (.int (0 : Int32)), .val (.long qq), .second, .val (.ref b16), .val (.int (own_empty (0 : Int64) (0 : Int64) (0 : Int64))), .val (.long pp), .second, .unset] [(.int (XT.cmpL pp (0 : Int64)))])) t
      by_cases hc146_29 : pp = (0 : Int64)
      · simp only [if_pos hc146_29] at k
        refine XS.ifNo X25.here hx rfl (hb hby at_146) rfl (XT.ll_ne_f hc146_29) ?_
        show Steps p.tables e below (T25.setTop (mkF m 149 #[.val (.long q1), .second, .val (.long q2), .second, .val (.long q3), .second, .val (.long q4), .second, .val (.long q5), .second, .val (.int p6), .val (.long pp), .second, .val (.long bb), .second, .val (.long cc), .second, .val (.int (0 : Int32)), .val (.long qq), .second, .val (.ref b16), .val (.int (own_empty (0 : Int64) (0 : Int64) (0 : Int64))), .val (.long pp), .second, .unset] [])) t
        refine XT.lload X25.here hx rfl (hb hby at_149) rfl ?_
        show Steps p.tables e below (T25.setTop (mkF m 151 #[.val (.long q1), .second, .val (.long q2), .second, .val (.long q3), .second, .val (.long q4), .second, .val (.long q5), .second, .val (.int p6), .val (.long pp), .second, .val (.long bb), .second, .val (.long cc), .second, .val (.int (0 : Int32)), .val (.long qq), .second, .val (.ref b16), .val (.int (own_empty (0 : Int64) (0 : Int64) (0 : Int64))), .val (.long pp), .second, .unset] [(.long bb)])) t
        refine XT.lconstV X25.here hx rfl (0 : Int64) (hb hby at_151) (by decide) ?_
        show Steps p.tables e below (T25.setTop (mkF m 152 #[.val (.long q1), .second, .val (.long q2), .second, .val (.long q3), .second, .val (.long q4), .second, .val (.long q5), .second, .val (.int p6), .val (.long pp), .second, .val (.long bb), .second, .val (.long cc), .second, .val (.int (0 : Int32)), .val (.long qq), .second, .val (.ref b16), .val (.int (own_empty (0 : Int64) (0 : Int64) (0 : Int64))), .val (.long pp), .second, .unset] [(.long (0 : Int64)), (.long bb)])) t
        refine XT.lcmp X25.here hx rfl (hb hby at_152) rfl ?_
        show Steps p.tables e below (T25.setTop (mkF m 153 #[.val (.long q1), .second, .val (.long q2), .second, .val (.long q3), .second, .val (.long q4), .second, .val (.long q5), .second, .val (.int p6), .val (.long pp), .second, .val (.long bb), .second, .val (.long cc), .second, .val (.int (0 : Int32)), .val (.long qq), .second, .val (.ref b16), .val (.int (own_empty (0 : Int64) (0 : Int64) (0 : Int64))), .val (.long pp), .second, .unset] [(.int (XT.cmpL bb (0 : Int64)))])) t
        suffices k34 : Steps p.tables e below (T25.setTop (mkF m 168 #[.val (.long q1), .second, .val (.long q2), .second, .val (.long q3), .second, .val (.long q4), .second, .val (.long q5), .second, .val (.int p6), .val (.long pp), .second, .val (.long bb), .second, .val (.long cc), .second, .val (.int (0 : Int32)), .val (.long qq), .second, .val (.ref b16), .val (.int (own_empty (0 : Int64) (0 : Int64) (0 : Int64))), .val (.long pp), .second, .unset] [(.int (if bb = (0 : Int64) then (if cc = (0 : Int64) then (1 : Int32) else (0 : Int32)) else (0 : Int32)))])) t by
          by_cases hc153_31 : bb = (0 : Int64)
          · simp only [if_pos hc153_31] at k34
            refine XS.ifNo X25.here hx rfl (hb hby at_153) rfl (XT.ll_ne_f hc153_31) ?_
            show Steps p.tables e below (T25.setTop (mkF m 156 #[.val (.long q1), .second, .val (.long q2), .second, .val (.long q3), .second, .val (.long q4), .second, .val (.long q5), .second, .val (.int p6), .val (.long pp), .second, .val (.long bb), .second, .val (.long cc), .second, .val (.int (0 : Int32)), .val (.long qq), .second, .val (.ref b16), .val (.int (own_empty (0 : Int64) (0 : Int64) (0 : Int64))), .val (.long pp), .second, .unset] [])) t
            refine XT.lload X25.here hx rfl (hb hby at_156) rfl ?_
            show Steps p.tables e below (T25.setTop (mkF m 158 #[.val (.long q1), .second, .val (.long q2), .second, .val (.long q3), .second, .val (.long q4), .second, .val (.long q5), .second, .val (.int p6), .val (.long pp), .second, .val (.long bb), .second, .val (.long cc), .second, .val (.int (0 : Int32)), .val (.long qq), .second, .val (.ref b16), .val (.int (own_empty (0 : Int64) (0 : Int64) (0 : Int64))), .val (.long pp), .second, .unset] [(.long cc)])) t
            refine XT.lconstV X25.here hx rfl (0 : Int64) (hb hby at_158) (by decide) ?_
            show Steps p.tables e below (T25.setTop (mkF m 159 #[.val (.long q1), .second, .val (.long q2), .second, .val (.long q3), .second, .val (.long q4), .second, .val (.long q5), .second, .val (.int p6), .val (.long pp), .second, .val (.long bb), .second, .val (.long cc), .second, .val (.int (0 : Int32)), .val (.long qq), .second, .val (.ref b16), .val (.int (own_empty (0 : Int64) (0 : Int64) (0 : Int64))), .val (.long pp), .second, .unset] [(.long (0 : Int64)), (.long cc)])) t
            refine XT.lcmp X25.here hx rfl (hb hby at_159) rfl ?_
            show Steps p.tables e below (T25.setTop (mkF m 160 #[.val (.long q1), .second, .val (.long q2), .second, .val (.long q3), .second, .val (.long q4), .second, .val (.long q5), .second, .val (.int p6), .val (.long pp), .second, .val (.long bb), .second, .val (.long cc), .second, .val (.int (0 : Int32)), .val (.long qq), .second, .val (.ref b16), .val (.int (own_empty (0 : Int64) (0 : Int64) (0 : Int64))), .val (.long pp), .second, .unset] [(.int (XT.cmpL cc (0 : Int64)))])) t
            suffices k33 : Steps p.tables e below (T25.setTop (mkF m 168 #[.val (.long q1), .second, .val (.long q2), .second, .val (.long q3), .second, .val (.long q4), .second, .val (.long q5), .second, .val (.int p6), .val (.long pp), .second, .val (.long bb), .second, .val (.long cc), .second, .val (.int (0 : Int32)), .val (.long qq), .second, .val (.ref b16), .val (.int (own_empty (0 : Int64) (0 : Int64) (0 : Int64))), .val (.long pp), .second, .unset] [(.int (if cc = (0 : Int64) then (1 : Int32) else (0 : Int32)))])) t by
              by_cases hc160_32 : cc = (0 : Int64)
              · simp only [if_pos hc160_32] at k33
                refine XS.ifNo X25.here hx rfl (hb hby at_160) rfl (XT.ll_ne_f hc160_32) ?_
                show Steps p.tables e below (T25.setTop (mkF m 163 #[.val (.long q1), .second, .val (.long q2), .second, .val (.long q3), .second, .val (.long q4), .second, .val (.long q5), .second, .val (.int p6), .val (.long pp), .second, .val (.long bb), .second, .val (.long cc), .second, .val (.int (0 : Int32)), .val (.long qq), .second, .val (.ref b16), .val (.int (own_empty (0 : Int64) (0 : Int64) (0 : Int64))), .val (.long pp), .second, .unset] [])) t
                refine XS.iconst X25.here hx rfl (hb hby at_163) ?_
                show Steps p.tables e below (T25.setTop (mkF m 164 #[.val (.long q1), .second, .val (.long q2), .second, .val (.long q3), .second, .val (.long q4), .second, .val (.long q5), .second, .val (.int p6), .val (.long pp), .second, .val (.long bb), .second, .val (.long cc), .second, .val (.int (0 : Int32)), .val (.long qq), .second, .val (.ref b16), .val (.int (own_empty (0 : Int64) (0 : Int64) (0 : Int64))), .val (.long pp), .second, .unset] [(.int (1 : Int32))])) t
                refine XS.goto X25.here hx rfl (pc0 := 164) (pc' := 168) rfl (hb hby at_164) (by decide) (by decide) ?_
                show Steps p.tables e below (T25.setTop (mkF m 168 #[.val (.long q1), .second, .val (.long q2), .second, .val (.long q3), .second, .val (.long q4), .second, .val (.long q5), .second, .val (.int p6), .val (.long pp), .second, .val (.long bb), .second, .val (.long cc), .second, .val (.int (0 : Int32)), .val (.long qq), .second, .val (.ref b16), .val (.int (own_empty (0 : Int64) (0 : Int64) (0 : Int64))), .val (.long pp), .second, .unset] [(.int (1 : Int32))])) t
                exact k33
              · simp only [if_neg hc160_32] at k33
                refine XS.ifYes X25.here hx rfl (pc0 := 160) (pc' := 167) rfl (hb hby at_160) rfl (XT.ll_ne_t hc160_32) (by decide) (by decide) ?_
                show Steps p.tables e below (T25.setTop (mkF m 167 #[.val (.long q1), .second, .val (.long q2), .second, .val (.long q3), .second, .val (.long q4), .second, .val (.long q5), .second, .val (.int p6), .val (.long pp), .second, .val (.long bb), .second, .val (.long cc), .second, .val (.int (0 : Int32)), .val (.long qq), .second, .val (.ref b16), .val (.int (own_empty (0 : Int64) (0 : Int64) (0 : Int64))), .val (.long pp), .second, .unset] [])) t
                refine XS.iconst X25.here hx rfl (hb hby at_167) ?_
                show Steps p.tables e below (T25.setTop (mkF m 168 #[.val (.long q1), .second, .val (.long q2), .second, .val (.long q3), .second, .val (.long q4), .second, .val (.long q5), .second, .val (.int p6), .val (.long pp), .second, .val (.long bb), .second, .val (.long cc), .second, .val (.int (0 : Int32)), .val (.long qq), .second, .val (.ref b16), .val (.int (own_empty (0 : Int64) (0 : Int64) (0 : Int64))), .val (.long pp), .second, .unset] [(.int (0 : Int32))])) t
                exact k33
            exact k34
          · simp only [if_neg hc153_31] at k34
            refine XS.ifYes X25.here hx rfl (pc0 := 153) (pc' := 167) rfl (hb hby at_153) rfl (XT.ll_ne_t hc153_31) (by decide) (by decide) ?_
            show Steps p.tables e below (T25.setTop (mkF m 167 #[.val (.long q1), .second, .val (.long q2), .second, .val (.long q3), .second, .val (.long q4), .second, .val (.long q5), .second, .val (.int p6), .val (.long pp), .second, .val (.long bb), .second, .val (.long cc), .second, .val (.int (0 : Int32)), .val (.long qq), .second, .val (.ref b16), .val (.int (own_empty (0 : Int64) (0 : Int64) (0 : Int64))), .val (.long pp), .second, .unset] [])) t
            refine XS.iconst X25.here hx rfl (hb hby at_167) ?_
            show Steps p.tables e below (T25.setTop (mkF m 168 #[.val (.long q1), .second, .val (.long q2), .second, .val (.long q3), .second, .val (.long q4), .second, .val (.long q5), .second, .val (.int p6), .val (.long pp), .second, .val (.long bb), .second, .val (.long cc), .second, .val (.int (0 : Int32)), .val (.long qq), .second, .val (.ref b16), .val (.int (own_empty (0 : Int64) (0 : Int64) (0 : Int64))), .val (.long pp), .second, .unset] [(.int (0 : Int32))])) t
            exact k34
        exact k
      · simp only [if_neg hc146_29] at k
        refine XS.ifYes X25.here hx rfl (pc0 := 146) (pc' := 167) rfl (hb hby at_146) rfl (XT.ll_ne_t hc146_29) (by decide) (by decide) ?_
        show Steps p.tables e below (T25.setTop (mkF m 167 #[.val (.long q1), .second, .val (.long q2), .second, .val (.long q3), .second, .val (.long q4), .second, .val (.long q5), .second, .val (.int p6), .val (.long pp), .second, .val (.long bb), .second, .val (.long cc), .second, .val (.int (0 : Int32)), .val (.long qq), .second, .val (.ref b16), .val (.int (own_empty (0 : Int64) (0 : Int64) (0 : Int64))), .val (.long pp), .second, .unset] [])) t
        refine XS.iconst X25.here hx rfl (hb hby at_167) ?_
        show Steps p.tables e below (T25.setTop (mkF m 168 #[.val (.long q1), .second, .val (.long q2), .second, .val (.long q3), .second, .val (.long q4), .second, .val (.long q5), .second, .val (.int p6), .val (.long pp), .second, .val (.long bb), .second, .val (.long cc), .second, .val (.int (0 : Int32)), .val (.long qq), .second, .val (.ref b16), .val (.int (own_empty (0 : Int64) (0 : Int64) (0 : Int64))), .val (.long pp), .second, .unset] [(.int (0 : Int32))])) t
        exact k)
    have pre37 : ∀ t, Steps p.tables e below (T25.setTop (mkF m 177 #[.val (.long q1), .second, .val (.long q2), .second, .val (.long q3), .second, .val (.long q4), .second, .val (.long q5), .second, .val (.int p6), .val (.long pp), .second, .val (.long bb), .second, .val (.long cc), .second, .val (.int (0 : Int32)), .val (.long qq), .second, .val (.ref b16), .val (.int (own_empty (0 : Int64) (0 : Int64) (0 : Int64))), .val (.long pp), .second, .val (.int (if pp = (0 : Int64) then (if bb = (0 : Int64) then (if cc = (0 : Int64) then (1 : Int32) else (0 : Int32)) else (0 : Int32)) else (0 : Int32)))] [(.ref b16)])) t → Steps p.tables e below (s₁.setTop (entryFrame m #[(.long q1), (.long q2), (.long q3), (.long q4), (.long q5), (.int p6)] maxLocals)) t := fun t k => pre35 t (by
      show Steps p.tables e below (T25.setTop (mkF m 168 #[.val (.long q1), .second, .val (.long q2), .second, .val (.long q3), .second, .val (.long q4), .second, .val (.long q5), .second, .val (.int p6), .val (.long pp), .second, .val (.long bb), .second, .val (.long cc), .second, .val (.int (0 : Int32)), .val (.long qq), .second, .val (.ref b16), .val (.int (own_empty (0 : Int64) (0 : Int64) (0 : Int64))), .val (.long pp), .second, .unset] [(.int (if pp = (0 : Int64) then (if bb = (0 : Int64) then (if cc = (0 : Int64) then (1 : Int32) else (0 : Int32)) else (0 : Int32)) else (0 : Int32)))])) t
      refine XS.istore X25.here hx rfl (hb hby at_168) rfl (l' := #[.val (.long q1), .second, .val (.long q2), .second, .val (.long q3), .second, .val (.long q4), .second, .val (.long q5), .second, .val (.int p6), .val (.long pp), .second, .val (.long bb), .second, .val (.long cc), .second, .val (.int (0 : Int32)), .val (.long qq), .second, .val (.ref b16), .val (.int (own_empty (0 : Int64) (0 : Int64) (0 : Int64))), .val (.long pp), .second, .val (.int (if pp = (0 : Int64) then (if bb = (0 : Int64) then (if cc = (0 : Int64) then (1 : Int32) else (0 : Int32)) else (0 : Int32)) else (0 : Int32)))]) rfl ?_
      show Steps p.tables e below (T25.setTop (mkF m 170 #[.val (.long q1), .second, .val (.long q2), .second, .val (.long q3), .second, .val (.long q4), .second, .val (.long q5), .second, .val (.int p6), .val (.long pp), .second, .val (.long bb), .second, .val (.long cc), .second, .val (.int (0 : Int32)), .val (.long qq), .second, .val (.ref b16), .val (.int (own_empty (0 : Int64) (0 : Int64) (0 : Int64))), .val (.long pp), .second, .val (.int (if pp = (0 : Int64) then (if bb = (0 : Int64) then (if cc = (0 : Int64) then (1 : Int32) else (0 : Int32)) else (0 : Int32)) else (0 : Int32)))] [])) t
      refine XS.iload X25.here hx rfl (hb hby at_170) rfl ?_
      show Steps p.tables e below (T25.setTop (mkF m 172 #[.val (.long q1), .second, .val (.long q2), .second, .val (.long q3), .second, .val (.long q4), .second, .val (.long q5), .second, .val (.int p6), .val (.long pp), .second, .val (.long bb), .second, .val (.long cc), .second, .val (.int (0 : Int32)), .val (.long qq), .second, .val (.ref b16), .val (.int (own_empty (0 : Int64) (0 : Int64) (0 : Int64))), .val (.long pp), .second, .val (.int (if pp = (0 : Int64) then (if bb = (0 : Int64) then (if cc = (0 : Int64) then (1 : Int32) else (0 : Int32)) else (0 : Int32)) else (0 : Int32)))] [(.int (own_empty (0 : Int64) (0 : Int64) (0 : Int64)))])) t
      refine XS.ifNo X25.here hx rfl (hb hby at_172) rfl (XT.i0_eq_f (show ¬ ((own_empty (0 : Int64) (0 : Int64) (0 : Int64)) = (0 : Int32)) from own_fresh)) ?_
      show Steps p.tables e below (T25.setTop (mkF m 175 #[.val (.long q1), .second, .val (.long q2), .second, .val (.long q3), .second, .val (.long q4), .second, .val (.long q5), .second, .val (.int p6), .val (.long pp), .second, .val (.long bb), .second, .val (.long cc), .second, .val (.int (0 : Int32)), .val (.long qq), .second, .val (.ref b16), .val (.int (own_empty (0 : Int64) (0 : Int64) (0 : Int64))), .val (.long pp), .second, .val (.int (if pp = (0 : Int64) then (if bb = (0 : Int64) then (if cc = (0 : Int64) then (1 : Int32) else (0 : Int32)) else (0 : Int32)) else (0 : Int32)))] [])) t
      refine XS.aload X25.here hx rfl (hb hby at_175) rfl rfl ?_
      show Steps p.tables e below (T25.setTop (mkF m 177 #[.val (.long q1), .second, .val (.long q2), .second, .val (.long q3), .second, .val (.long q4), .second, .val (.long q5), .second, .val (.int p6), .val (.long pp), .second, .val (.long bb), .second, .val (.long cc), .second, .val (.int (0 : Int32)), .val (.long qq), .second, .val (.ref b16), .val (.int (own_empty (0 : Int64) (0 : Int64) (0 : Int64))), .val (.long pp), .second, .val (.int (if pp = (0 : Int64) then (if bb = (0 : Int64) then (if cc = (0 : Int64) then (1 : Int32) else (0 : Int32)) else (0 : Int32)) else (0 : Int32)))] [(.ref b16)])) t
      exact k)
    obtain ⟨cq38, kq38, q38a, q38b, q38c⟩ := isOf hZ rfl P25_1
    obtain ⟨_, _, ⟨T38, L38, k38, n38⟩, -, X38, ⟨Lc38, hQ38, l38, y38, z38⟩, st38⟩ := X25.virtualBack hx (y := (⟨"com/example/obturo/obturo/stats/internal/WindowTally", "empty", "()Z"⟩ : MethodName)) (z := (⟨"com/example/obturo/obturo/stats/internal/WindowTally", "empty", "()Z"⟩ : MethodName)) hown (mvT hZ (hw _ (List.mem_of_getElem? (i := 12) rfl))) (mvT hZ (hw _ (List.mem_of_getElem? (i := 13) rfl))) (notFace_of_selects (args := #[]) (mvT hZ (hw _ (List.mem_of_getElem? (i := 15) rfl)))) (mvT hZ (hw _ (List.mem_of_getElem? (i := 15) rfl))) (mvT hZ (hw _ (List.mem_of_getElem? (i := 14) rfl))) (by decide) (backOf (W := 0) (rm3 l Z a0 hw [] b16 ((0 : Int64) + pp) ((0 : Int64) + bb) ((0 : Int64) + cc) T25.heap n0 sz25 P25_2 P25_3 P25_4) hZ (hw _ (List.mem_of_getElem? (i := 16) rfl)) (hw _ (List.mem_of_getElem? (i := 2) rfl)) (by decide) (by decide)) q38a q38c (g := (mkF m 177 #[.val (.long q1), .second, .val (.long q2), .second, .val (.long q3), .second, .val (.long q4), .second, .val (.long q5), .second, .val (.int p6), .val (.long pp), .second, .val (.long bb), .second, .val (.long cc), .second, .val (.int (0 : Int32)), .val (.long qq), .second, .val (.ref b16), .val (.int (own_empty (0 : Int64) (0 : Int64) (0 : Int64))), .val (.long pp), .second, .val (.int (if pp = (0 : Int64) then (if bb = (0 : Int64) then (if cc = (0 : Int64) then (1 : Int32) else (0 : Int32)) else (0 : Int32)) else (0 : Int32)))] [(.ref b16)])) rfl (by rw [hml]; rfl) (Steps.refl _) (argsL := []) (rest := []) (lenOf pd_ocZ rfl) rfl (by show 2 * 0 + _ ≤ _; exact Nat.le_of_eq rfl) (hb hby at_177) (fun _ _ => ⟨rfl, rfl, (by decide : 1 + 0 ≤ _), (by decide : 6 + 0 ≤ _)⟩)
    dsimp only [Pt.U, Pt.locs, Pt.cells, Pt.slots] at X38 l38 y38 z38 st38 hQ38
    subst l38 y38 z38
    obtain ⟨rfl, N38q, eh38⟩ := hQ38
    have N38 := Fr.app N25 N38q
    have pre39 : ∀ t, Steps p.tables e below (T38.setTop (mkF m 180 #[.val (.long q1), .second, .val (.long q2), .second, .val (.long q3), .second, .val (.long q4), .second, .val (.long q5), .second, .val (.int p6), .val (.long pp), .second, .val (.long bb), .second, .val (.long cc), .second, .val (.int (0 : Int32)), .val (.long qq), .second, .val (.ref b16), .val (.int (own_empty (0 : Int64) (0 : Int64) (0 : Int64))), .val (.long pp), .second, .val (.int (if pp = (0 : Int64) then (if bb = (0 : Int64) then (if cc = (0 : Int64) then (1 : Int32) else (0 : Int32)) else (0 : Int32)) else (0 : Int32)))] [(.int (own_empty ((0 : Int64) + pp) ((0 : Int64) + bb) ((0 : Int64) + cc)))])) t → Steps p.tables e below (s₁.setTop (entryFrame m #[(.long q1), (.long q2), (.long q3), (.long q4), (.long q5), (.int p6)] maxLocals)) t := fun t k => pre37 t (st38.trans k)
    have pre41 : ∀ t, Steps p.tables e below (T38.setTop (mkF m 190 #[.val (.long q1), .second, .val (.long q2), .second, .val (.long q3), .second, .val (.long q4), .second, .val (.long q5), .second, .val (.int p6), .val (.long pp), .second, .val (.long bb), .second, .val (.long cc), .second, .val (.int (0 : Int32)), .val (.long qq), .second, .val (.ref b16), .val (.int (own_empty (0 : Int64) (0 : Int64) (0 : Int64))), .val (.long pp), .second, .val (.int (if pp = (0 : Int64) then (if bb = (0 : Int64) then (if cc = (0 : Int64) then (1 : Int32) else (0 : Int32)) else (0 : Int32)) else (0 : Int32)))] [(.int (1 : Int32))])) t → Steps p.tables e below (s₁.setTop (entryFrame m #[(.long q1), (.long q2), (.long q3), (.long q4), (.long q5), (.int p6)] maxLocals)) t := fun t k => pre39 t (by
      show Steps p.tables e below (T38.setTop (mkF m 180 #[.val (.long q1), .second, .val (.long q2), .second, .val (.long q3), .second, .val (.long q4), .second, .val (.long q5), .second, .val (.int p6), .val (.long pp), .second, .val (.long bb), .second, .val (.long cc), .second, .val (.int (0 : Int32)), .val (.long qq), .second, .val (.ref b16), .val (.int (own_empty (0 : Int64) (0 : Int64) (0 : Int64))), .val (.long pp), .second, .val (.int (if pp = (0 : Int64) then (if bb = (0 : Int64) then (if cc = (0 : Int64) then (1 : Int32) else (0 : Int32)) else (0 : Int32)) else (0 : Int32)))] [(.int (own_empty ((0 : Int64) + pp) ((0 : Int64) + bb) ((0 : Int64) + cc)))])) t
      refine XS.iload X38.here hx rfl (hb hby at_180) rfl ?_
      show Steps p.tables e below (T38.setTop (mkF m 182 #[.val (.long q1), .second, .val (.long q2), .second, .val (.long q3), .second, .val (.long q4), .second, .val (.long q5), .second, .val (.int p6), .val (.long pp), .second, .val (.long bb), .second, .val (.long cc), .second, .val (.int (0 : Int32)), .val (.long qq), .second, .val (.ref b16), .val (.int (own_empty (0 : Int64) (0 : Int64) (0 : Int64))), .val (.long pp), .second, .val (.int (if pp = (0 : Int64) then (if bb = (0 : Int64) then (if cc = (0 : Int64) then (1 : Int32) else (0 : Int32)) else (0 : Int32)) else (0 : Int32)))] [(.int (if pp = (0 : Int64) then (if bb = (0 : Int64) then (if cc = (0 : Int64) then (1 : Int32) else (0 : Int32)) else (0 : Int32)) else (0 : Int32))), (.int (own_empty ((0 : Int64) + pp) ((0 : Int64) + bb) ((0 : Int64) + cc)))])) t
      refine XS.icmpNo X38.here hx rfl (hb hby at_182) rfl (XT.ii_ne_f (show (own_empty ((0 : Int64) + pp) ((0 : Int64) + bb) ((0 : Int64) + cc)) = (if pp = (0 : Int64) then (if bb = (0 : Int64) then (if cc = (0 : Int64) then (1 : Int32) else (0 : Int32)) else (0 : Int32)) else (0 : Int32)) from by first | exact own_e1 _ _ _ | exact own_e2 _ _ _ _)) ?_
      show Steps p.tables e below (T38.setTop (mkF m 185 #[.val (.long q1), .second, .val (.long q2), .second, .val (.long q3), .second, .val (.long q4), .second, .val (.long q5), .second, .val (.int p6), .val (.long pp), .second, .val (.long bb), .second, .val (.long cc), .second, .val (.int (0 : Int32)), .val (.long qq), .second, .val (.ref b16), .val (.int (own_empty (0 : Int64) (0 : Int64) (0 : Int64))), .val (.long pp), .second, .val (.int (if pp = (0 : Int64) then (if bb = (0 : Int64) then (if cc = (0 : Int64) then (1 : Int32) else (0 : Int32)) else (0 : Int32)) else (0 : Int32)))] [])) t
      refine XS.iconst X38.here hx rfl (hb hby at_185) ?_
      show Steps p.tables e below (T38.setTop (mkF m 186 #[.val (.long q1), .second, .val (.long q2), .second, .val (.long q3), .second, .val (.long q4), .second, .val (.long q5), .second, .val (.int p6), .val (.long pp), .second, .val (.long bb), .second, .val (.long cc), .second, .val (.int (0 : Int32)), .val (.long qq), .second, .val (.ref b16), .val (.int (own_empty (0 : Int64) (0 : Int64) (0 : Int64))), .val (.long pp), .second, .val (.int (if pp = (0 : Int64) then (if bb = (0 : Int64) then (if cc = (0 : Int64) then (1 : Int32) else (0 : Int32)) else (0 : Int32)) else (0 : Int32)))] [(.int (1 : Int32))])) t
      refine XS.goto X38.here hx rfl (pc0 := 186) (pc' := 190) rfl (hb hby at_186) (by decide) (by decide) ?_
      show Steps p.tables e below (T38.setTop (mkF m 190 #[.val (.long q1), .second, .val (.long q2), .second, .val (.long q3), .second, .val (.long q4), .second, .val (.long q5), .second, .val (.int p6), .val (.long pp), .second, .val (.long bb), .second, .val (.long cc), .second, .val (.int (0 : Int32)), .val (.long qq), .second, .val (.ref b16), .val (.int (own_empty (0 : Int64) (0 : Int64) (0 : Int64))), .val (.long pp), .second, .val (.int (if pp = (0 : Int64) then (if bb = (0 : Int64) then (if cc = (0 : Int64) then (1 : Int32) else (0 : Int32)) else (0 : Int32)) else (0 : Int32)))] [(.int (1 : Int32))])) t
      exact k)
    obtain ⟨fs, hr, hrun, hended, hW, hsame⟩ := X38.leave (v := some (.int (1 : Int32))) (fun h => by rw [Bd.returns] at h; cases h)
    refine ⟨_, _, pre41 _ ?_, hrun, hended, _, _, rfl, ?_, ⟨_, rfl⟩, hW, hsame.mono (by decide) (by decide)⟩
    · show Steps p.tables e below (T38.setTop (mkF m 190 #[.val (.long q1), .second, .val (.long q2), .second, .val (.long q3), .second, .val (.long q4), .second, .val (.long q5), .second, .val (.int p6), .val (.long pp), .second, .val (.long bb), .second, .val (.long cc), .second, .val (.int (0 : Int32)), .val (.long qq), .second, .val (.ref b16), .val (.int (own_empty (0 : Int64) (0 : Int64) (0 : Int64))), .val (.long pp), .second, .val (.int (if pp = (0 : Int64) then (if bb = (0 : Int64) then (if cc = (0 : Int64) then (1 : Int32) else (0 : Int32)) else (0 : Int32)) else (0 : Int32)))] [(.int (1 : Int32))])) _
      exact retN X38 hx (t := .boolean) Bd.returns (by simp) (hb hby at_190) hr
    · show Q0 Z q1 q2 q3 q4 q5 p6 h0 n0 _ T38.heap _
      rw [eh38]
      exact ⟨rfl, N38⟩
  · skip
    have pre43 : ∀ t, Steps p.tables e below (s₁.setTop (mkF m 63 #[.val (.long q1), .second, .val (.long q2), .second, .val (.long q3), .second, .val (.long q4), .second, .val (.long q5), .second, .val (.int p6), .val (.long pp), .second, .val (.long bb), .second, .val (.long cc), .second, .val (.int (1 : Int32)), .unset, .unset, .unset, .unset, .unset, .unset, .unset] [(.int (p6 &&& (16 : Int32)))])) t → Steps p.tables e below (s₁.setTop (entryFrame m #[(.long q1), (.long q2), (.long q3), (.long q4), (.long q5), (.int p6)] maxLocals)) t := fun t k => pre11 t (by
      show Steps p.tables e below (s₁.setTop (mkF m 48 #[.val (.long q1), .second, .val (.long q2), .second, .val (.long q3), .second, .val (.long q4), .second, .val (.long q5), .second, .val (.int p6), .val (.long pp), .second, .val (.long bb), .second, .val (.long cc), .second, .unset, .unset, .unset, .unset, .unset, .unset, .unset, .unset] [(.int (p6 &&& (8 : Int32)))])) t
      refine XS.ifNo X0.here hx rfl (hb hby at_48) rfl (XT.i0_eq_f hc48_10) ?_
      show Steps p.tables e below (s₁.setTop (mkF m 51 #[.val (.long q1), .second, .val (.long q2), .second, .val (.long q3), .second, .val (.long q4), .second, .val (.long q5), .second, .val (.int p6), .val (.long pp), .second, .val (.long bb), .second, .val (.long cc), .second, .unset, .unset, .unset, .unset, .unset, .unset, .unset, .unset] [])) t
      refine XS.iconst X0.here hx rfl (hb hby at_51) ?_
      show Steps p.tables e below (s₁.setTop (mkF m 52 #[.val (.long q1), .second, .val (.long q2), .second, .val (.long q3), .second, .val (.long q4), .second, .val (.long q5), .second, .val (.int p6), .val (.long pp), .second, .val (.long bb), .second, .val (.long cc), .second, .unset, .unset, .unset, .unset, .unset, .unset, .unset, .unset] [(.int (1 : Int32))])) t
      refine XS.goto X0.here hx rfl (pc0 := 52) (pc' := 56) rfl (hb hby at_52) (by decide) (by decide) ?_
      show Steps p.tables e below (s₁.setTop (mkF m 56 #[.val (.long q1), .second, .val (.long q2), .second, .val (.long q3), .second, .val (.long q4), .second, .val (.long q5), .second, .val (.int p6), .val (.long pp), .second, .val (.long bb), .second, .val (.long cc), .second, .unset, .unset, .unset, .unset, .unset, .unset, .unset, .unset] [(.int (1 : Int32))])) t
      refine XS.istore X0.here hx rfl (hb hby at_56) rfl (l' := #[.val (.long q1), .second, .val (.long q2), .second, .val (.long q3), .second, .val (.long q4), .second, .val (.long q5), .second, .val (.int p6), .val (.long pp), .second, .val (.long bb), .second, .val (.long cc), .second, .val (.int (1 : Int32)), .unset, .unset, .unset, .unset, .unset, .unset, .unset]) rfl ?_
      show Steps p.tables e below (s₁.setTop (mkF m 58 #[.val (.long q1), .second, .val (.long q2), .second, .val (.long q3), .second, .val (.long q4), .second, .val (.long q5), .second, .val (.int p6), .val (.long pp), .second, .val (.long bb), .second, .val (.long cc), .second, .val (.int (1 : Int32)), .unset, .unset, .unset, .unset, .unset, .unset, .unset] [])) t
      refine XS.iload X0.here hx rfl (hb hby at_58) rfl ?_
      show Steps p.tables e below (s₁.setTop (mkF m 60 #[.val (.long q1), .second, .val (.long q2), .second, .val (.long q3), .second, .val (.long q4), .second, .val (.long q5), .second, .val (.int p6), .val (.long pp), .second, .val (.long bb), .second, .val (.long cc), .second, .val (.int (1 : Int32)), .unset, .unset, .unset, .unset, .unset, .unset, .unset] [(.int p6)])) t
      refine XS.bipush X0.here hx rfl (hb hby at_60) ?_
      show Steps p.tables e below (s₁.setTop (mkF m 62 #[.val (.long q1), .second, .val (.long q2), .second, .val (.long q3), .second, .val (.long q4), .second, .val (.long q5), .second, .val (.int p6), .val (.long pp), .second, .val (.long bb), .second, .val (.long cc), .second, .val (.int (1 : Int32)), .unset, .unset, .unset, .unset, .unset, .unset, .unset] [(.int (16 : Int32)), (.int p6)])) t
      refine XS.iand X0.here hx rfl (hb hby at_62) rfl ?_
      show Steps p.tables e below (s₁.setTop (mkF m 63 #[.val (.long q1), .second, .val (.long q2), .second, .val (.long q3), .second, .val (.long q4), .second, .val (.long q5), .second, .val (.int p6), .val (.long pp), .second, .val (.long bb), .second, .val (.long cc), .second, .val (.int (1 : Int32)), .unset, .unset, .unset, .unset, .unset, .unset, .unset] [(.int (p6 &&& (16 : Int32)))])) t
      exact k)
    have pre44 : ∀ t, Steps p.tables e below (s₁.setTop (mkF m 74 #[.val (.long q1), .second, .val (.long q2), .second, .val (.long q3), .second, .val (.long q4), .second, .val (.long q5), .second, .val (.int p6), .val (.long pp), .second, .val (.long bb), .second, .val (.long cc), .second, .val (.int (1 : Int32)), .unset, .unset, .unset, .unset, .unset, .unset, .unset] [(.long (if (p6 &&& (16 : Int32)) = (0 : Int32) then q5 else (-pp)))])) t → Steps p.tables e below (s₁.setTop (entryFrame m #[(.long q1), (.long q2), (.long q3), (.long q4), (.long q5), (.int p6)] maxLocals)) t := fun t k => pre43 t (by
      show Steps p.tables e below (s₁.setTop (mkF m 63 #[.val (.long q1), .second, .val (.long q2), .second, .val (.long q3), .second, .val (.long q4), .second, .val (.long q5), .second, .val (.int p6), .val (.long pp), .second, .val (.long bb), .second, .val (.long cc), .second, .val (.int (1 : Int32)), .unset, .unset, .unset, .unset, .unset, .unset, .unset] [(.int (p6 &&& (16 : Int32)))])) t
      by_cases hc63_42 : (p6 &&& (16 : Int32)) = (0 : Int32)
      · simp only [if_pos hc63_42] at k
        refine XS.ifYes X0.here hx rfl (pc0 := 63) (pc' := 72) rfl (hb hby at_63) rfl (XT.i0_eq_t hc63_42) (by decide) (by decide) ?_
        show Steps p.tables e below (s₁.setTop (mkF m 72 #[.val (.long q1), .second, .val (.long q2), .second, .val (.long q3), .second, .val (.long q4), .second, .val (.long q5), .second, .val (.int p6), .val (.long pp), .second, .val (.long bb), .second, .val (.long cc), .second, .val (.int (1 : Int32)), .unset, .unset, .unset, .unset, .unset, .unset, .unset] [])) t
        refine XT.lload X0.here hx rfl (hb hby at_72) rfl ?_
        show Steps p.tables e below (s₁.setTop (mkF m 74 #[.val (.long q1), .second, .val (.long q2), .second, .val (.long q3), .second, .val (.long q4), .second, .val (.long q5), .second, .val (.int p6), .val (.long pp), .second, .val (.long bb), .second, .val (.long cc), .second, .val (.int (1 : Int32)), .unset, .unset, .unset, .unset, .unset, .unset, .unset] [(.long q5)])) t
        exact k
      · simp only [if_neg hc63_42] at k
        refine XS.ifNo X0.here hx rfl (hb hby at_63) rfl (XT.i0_eq_f hc63_42) ?_
        show Steps p.tables e below (s₁.setTop (mkF m 66 #[.val (.long q1), .second, .val (.long q2), .second, .val (.long q3), .second, .val (.long q4), .second, .val (.long q5), .second, .val (.int p6), .val (.long pp), .second, .val (.long bb), .second, .val (.long cc), .second, .val (.int (1 : Int32)), .unset, .unset, .unset, .unset, .unset, .unset, .unset] [])) t
        refine XT.lload X0.here hx rfl (hb hby at_66) rfl ?_
        show Steps p.tables e below (s₁.setTop (mkF m 68 #[.val (.long q1), .second, .val (.long q2), .second, .val (.long q3), .second, .val (.long q4), .second, .val (.long q5), .second, .val (.int p6), .val (.long pp), .second, .val (.long bb), .second, .val (.long cc), .second, .val (.int (1 : Int32)), .unset, .unset, .unset, .unset, .unset, .unset, .unset] [(.long pp)])) t
        refine XT.lneg X0.here hx rfl (hb hby at_68) rfl ?_
        show Steps p.tables e below (s₁.setTop (mkF m 69 #[.val (.long q1), .second, .val (.long q2), .second, .val (.long q3), .second, .val (.long q4), .second, .val (.long q5), .second, .val (.int p6), .val (.long pp), .second, .val (.long bb), .second, .val (.long cc), .second, .val (.int (1 : Int32)), .unset, .unset, .unset, .unset, .unset, .unset, .unset] [(.long (-pp))])) t
        refine XS.goto X0.here hx rfl (pc0 := 69) (pc' := 74) rfl (hb hby at_69) (by decide) (by decide) ?_
        show Steps p.tables e below (s₁.setTop (mkF m 74 #[.val (.long q1), .second, .val (.long q2), .second, .val (.long q3), .second, .val (.long q4), .second, .val (.long q5), .second, .val (.int p6), .val (.long pp), .second, .val (.long bb), .second, .val (.long cc), .second, .val (.int (1 : Int32)), .unset, .unset, .unset, .unset, .unset, .unset, .unset] [(.long (-pp))])) t
        exact k)
    obtain ⟨qq, h_qq⟩ : ∃ z : Int64, z = (if (p6 &&& (16 : Int32)) = (0 : Int32) then q5 else (-pp)) := ⟨_, rfl⟩
    rw [← h_qq] at pre44
    have pre45 : ∀ t, Steps p.tables e below (s₁.setTop (mkF m 76 #[.val (.long q1), .second, .val (.long q2), .second, .val (.long q3), .second, .val (.long q4), .second, .val (.long q5), .second, .val (.int p6), .val (.long pp), .second, .val (.long bb), .second, .val (.long cc), .second, .val (.int (1 : Int32)), .val (.long qq), .second, .unset, .unset, .unset, .unset, .unset] [])) t → Steps p.tables e below (s₁.setTop (entryFrame m #[(.long q1), (.long q2), (.long q3), (.long q4), (.long q5), (.int p6)] maxLocals)) t := fun t k => pre44 t (by
      show Steps p.tables e below (s₁.setTop (mkF m 74 #[.val (.long q1), .second, .val (.long q2), .second, .val (.long q3), .second, .val (.long q4), .second, .val (.long q5), .second, .val (.int p6), .val (.long pp), .second, .val (.long bb), .second, .val (.long cc), .second, .val (.int (1 : Int32)), .unset, .unset, .unset, .unset, .unset, .unset, .unset] [(.long qq)])) t
      refine XT.lstore X0.here hx rfl (hb hby at_74) rfl (l' := #[.val (.long q1), .second, .val (.long q2), .second, .val (.long q3), .second, .val (.long q4), .second, .val (.long q5), .second, .val (.int p6), .val (.long pp), .second, .val (.long bb), .second, .val (.long cc), .second, .val (.int (1 : Int32)), .val (.long qq), .second, .unset, .unset, .unset, .unset, .unset]) rfl ?_
      show Steps p.tables e below (s₁.setTop (mkF m 76 #[.val (.long q1), .second, .val (.long q2), .second, .val (.long q3), .second, .val (.long q4), .second, .val (.long q5), .second, .val (.int p6), .val (.long pp), .second, .val (.long bb), .second, .val (.long cc), .second, .val (.int (1 : Int32)), .val (.long qq), .second, .unset, .unset, .unset, .unset, .unset] [])) t
      exact k)
    obtain ⟨T46, h46, X46, eh46, E46, A46, D46, -, st46⟩ := newO X0 hx hZ hown (hw _ (List.mem_of_getElem? (i := 0) rfl)) (hw _ (List.mem_of_getElem? (i := 1) rfl)) (hw _ (List.mem_of_getElem? (i := 2) rfl)) eh0 (g := (mkF m 76 #[.val (.long q1), .second, .val (.long q2), .second, .val (.long q3), .second, .val (.long q4), .second, .val (.long q5), .second, .val (.int p6), .val (.long pp), .second, .val (.long bb), .second, .val (.long cc), .second, .val (.int (1 : Int32)), .val (.long qq), .second, .unset, .unset, .unset, .unset, .unset] [])) rfl (hb hby at_76) (by decide) (by decide)
    obtain ⟨b46, gg46⟩ : ∃ z, z = h0.size := ⟨_, rfl⟩
    rw [← gg46] at A46 D46 st46
    have sz46 : n0 ≤ h46.size := Nat.le_trans Z0 E46.1
    have g_b46 : n0 ≤ b46 := Nat.le_trans Z0 (Nat.le_of_eq gg46.symm)
    have F_minRtMillis_b46 : Fld Z h46 b46 "com/example/obturo/obturo/stats/internal/WindowTally" "minRtMillis" "J" (.long (0 : Int64)) := D46 (Or.inl (hw _ (List.mem_of_getElem? (i := 11) rfl))) (ty := .long) (by decide)
    have F_pass_b46 : Fld Z h46 b46 "com/example/obturo/obturo/stats/internal/WindowTally" "pass" "J" (.long (0 : Int64)) := D46 (Or.inl (hw _ (List.mem_of_getElem? (i := 18) rfl))) (ty := .long) (by decide)
    have F_block_b46 : Fld Z h46 b46 "com/example/obturo/obturo/stats/internal/WindowTally" "block" "J" (.long (0 : Int64)) := D46 (Or.inl (hw _ (List.mem_of_getElem? (i := 20) rfl))) (ty := .long) (by decide)
    have F_completed_b46 : Fld Z h46 b46 "com/example/obturo/obturo/stats/internal/WindowTally" "completed" "J" (.long (0 : Int64)) := D46 (Or.inl (hw _ (List.mem_of_getElem? (i := 22) rfl))) (ty := .long) (by decide)
    have F_errors_b46 : Fld Z h46 b46 "com/example/obturo/obturo/stats/internal/WindowTally" "errors" "J" (.long (0 : Int64)) := D46 (Or.inl (hw _ (List.mem_of_getElem? (i := 30) rfl))) (ty := .long) (by decide)
    have F_totalRtMillis_b46 : Fld Z h46 b46 "com/example/obturo/obturo/stats/internal/WindowTally" "totalRtMillis" "J" (.long (0 : Int64)) := D46 (Or.inl (hw _ (List.mem_of_getElem? (i := 32) rfl))) (ty := .long) (by decide)
    have pre47 : ∀ t, Steps p.tables e below (T46.setTop (mkF m 79 #[.val (.long q1), .second, .val (.long q2), .second, .val (.long q3), .second, .val (.long q4), .second, .val (.long q5), .second, .val (.int p6), .val (.long pp), .second, .val (.long bb), .second, .val (.long cc), .second, .val (.int (1 : Int32)), .val (.long qq), .second, .unset, .unset, .unset, .unset, .unset] [(.ref b46)])) t → Steps p.tables e below (s₁.setTop (entryFrame m #[(.long q1), (.long q2), (.long q3), (.long q4), (.long q5), (.int p6)] maxLocals)) t := fun t k => pre45 t (st46 _ k)
    have pre48 : ∀ t, Steps p.tables e below (T46.setTop (mkF m 80 #[.val (.long q1), .second, .val (.long q2), .second, .val (.long q3), .second, .val (.long q4), .second, .val (.long q5), .second, .val (.int p6), .val (.long pp), .second, .val (.long bb), .second, .val (.long cc), .second, .val (.int (1 : Int32)), .val (.long qq), .second, .unset, .unset, .unset, .unset, .unset] [(.ref b46), (.ref b46)])) t → Steps p.tables e below (s₁.setTop (entryFrame m #[(.long q1), (.long q2), (.long q3), (.long q4), (.long q5), (.int p6)] maxLocals)) t := fun t k => pre47 t (by
      show Steps p.tables e below (T46.setTop (mkF m 79 #[.val (.long q1), .second, .val (.long q2), .second, .val (.long q3), .second, .val (.long q4), .second, .val (.long q5), .second, .val (.int p6), .val (.long pp), .second, .val (.long bb), .second, .val (.long cc), .second, .val (.int (1 : Int32)), .val (.long qq), .second, .unset, .unset, .unset, .unset, .unset] [(.ref b46)])) t
      refine XS.dup X46.here hx rfl (hb hby at_79) rfl rfl ?_
      show Steps p.tables e below (T46.setTop (mkF m 80 #[.val (.long q1), .second, .val (.long q2), .second, .val (.long q3), .second, .val (.long q4), .second, .val (.long q5), .second, .val (.int p6), .val (.long pp), .second, .val (.long bb), .second, .val (.long cc), .second, .val (.int (1 : Int32)), .val (.long qq), .second, .unset, .unset, .unset, .unset, .unset] [(.ref b46), (.ref b46)])) t
      exact k)
    obtain ⟨_, _, ⟨T49, L49, k49, n49⟩, -, X49, ⟨Lc49, hQ49, l49, y49, z49⟩, st49⟩ := X46.specialBack hx (y := (⟨"com/example/obturo/obturo/stats/internal/WindowTally", "<init>", "()V"⟩ : MethodName)) rfl hown (mvT hZ (hw _ (List.mem_of_getElem? (i := 3) rfl))) (mvT hZ (hw _ (List.mem_of_getElem? (i := 4) rfl))) (mvT hZ (hw _ (List.mem_of_getElem? (i := 5) rfl))) (by decide) (backOf (W := 1) (rm1 l Z a0 hw [] b46 (0 : Int64) (0 : Int64) (0 : Int64) (0 : Int64) (0 : Int64) (0 : Int64) h46 n0 sz46 A46 F_pass_b46 F_block_b46 F_completed_b46 F_errors_b46 F_totalRtMillis_b46 F_minRtMillis_b46 g_b46) hZ (hw _ (List.mem_of_getElem? (i := 5) rfl)) (hw _ (List.mem_of_getElem? (i := 2) rfl)) (by decide) (by decide)) (g := (mkF m 80 #[.val (.long q1), .second, .val (.long q2), .second, .val (.long q3), .second, .val (.long q4), .second, .val (.long q5), .second, .val (.int p6), .val (.long pp), .second, .val (.long bb), .second, .val (.long cc), .second, .val (.int (1 : Int32)), .val (.long qq), .second, .unset, .unset, .unset, .unset, .unset] [(.ref b46), (.ref b46)])) rfl (by rw [hml]; rfl) (Steps.refl _) (a := b46) (argsL := []) (rest := [(.ref b46)]) (lenOf pd_ocV rfl) rfl (by show 2 * 0 + _ ≤ _; exact Nat.le_of_eq rfl) (hb hby at_80) (fun _ _ => ⟨rfl, eh46, (by decide : 1 + 0 ≤ _), (by decide : 6 + 0 ≤ _)⟩)
    dsimp only [Pt.U, Pt.locs, Pt.cells, Pt.slots] at X49 l49 y49 z49 st49 hQ49
    subst l49 y49 z49
    obtain ⟨rfl, N49q, Kq49, P49_1, P49_2, P49_3, P49_4, P49_5, P49_6, P49_7⟩ := hQ49
    have sz49 : n0 ≤ T49.heap.size := Nat.le_trans sz46 Kq49.1
    have N49 := Fr.app N0 N49q
    have pre50 : ∀ t, Steps p.tables e below (T49.setTop (mkF m 83 #[.val (.long q1), .second, .val (.long q2), .second, .val (.long q3), .second, .val (.long q4), .second, .val (.long q5), .second, .val (.int p6), .val (.long pp), .second, .val (.long bb), .second, .val (.long cc), .second, .val (.int (1 : Int32)), .val (.long qq), .second, .unset, .unset, .unset, .unset, .unset] [(.ref b46)])) t → Steps p.tables e below (s₁.setTop (entryFrame m #[(.long q1), (.long q2), (.long q3), (.long q4), (.long q5), (.int p6)] maxLocals)) t := fun t k => pre48 t (st49.trans k)
    have pre51 : ∀ t, Steps p.tables e below (T49.setTop (mkF m 87 #[.val (.long q1), .second, .val (.long q2), .second, .val (.long q3), .second, .val (.long q4), .second, .val (.long q5), .second, .val (.int p6), .val (.long pp), .second, .val (.long bb), .second, .val (.long cc), .second, .val (.int (1 : Int32)), .val (.long qq), .second, .val (.ref b46), .unset, .unset, .unset, .unset] [(.ref b46)])) t → Steps p.tables e below (s₁.setTop (entryFrame m #[(.long q1), (.long q2), (.long q3), (.long q4), (.long q5), (.int p6)] maxLocals)) t := fun t k => pre50 t (by
      show Steps p.tables e below (T49.setTop (mkF m 83 #[.val (.long q1), .second, .val (.long q2), .second, .val (.long q3), .second, .val (.long q4), .second, .val (.long q5), .second, .val (.int p6), .val (.long pp), .second, .val (.long bb), .second, .val (.long cc), .second, .val (.int (1 : Int32)), .val (.long qq), .second, .unset, .unset, .unset, .unset, .unset] [(.ref b46)])) t
      refine XS.astore X49.here hx rfl (hb hby at_83) rfl rfl (l' := #[.val (.long q1), .second, .val (.long q2), .second, .val (.long q3), .second, .val (.long q4), .second, .val (.long q5), .second, .val (.int p6), .val (.long pp), .second, .val (.long bb), .second, .val (.long cc), .second, .val (.int (1 : Int32)), .val (.long qq), .second, .val (.ref b46), .unset, .unset, .unset, .unset]) rfl ?_
      show Steps p.tables e below (T49.setTop (mkF m 85 #[.val (.long q1), .second, .val (.long q2), .second, .val (.long q3), .second, .val (.long q4), .second, .val (.long q5), .second, .val (.int p6), .val (.long pp), .second, .val (.long bb), .second, .val (.long cc), .second, .val (.int (1 : Int32)), .val (.long qq), .second, .val (.ref b46), .unset, .unset, .unset, .unset] [])) t
      refine XS.aload X49.here hx rfl (hb hby at_85) rfl rfl ?_
      show Steps p.tables e below (T49.setTop (mkF m 87 #[.val (.long q1), .second, .val (.long q2), .second, .val (.long q3), .second, .val (.long q4), .second, .val (.long q5), .second, .val (.int p6), .val (.long pp), .second, .val (.long bb), .second, .val (.long cc), .second, .val (.int (1 : Int32)), .val (.long qq), .second, .val (.ref b46), .unset, .unset, .unset, .unset] [(.ref b46)])) t
      exact k)
    obtain ⟨cq52, kq52, q52a, q52b, q52c⟩ := isOf hZ rfl P49_1
    obtain ⟨_, _, ⟨T52, L52, k52, n52⟩, -, X52, ⟨Lc52, hQ52, l52, y52, z52⟩, st52⟩ := X49.virtualBack hx (y := (⟨"com/example/obturo/obturo/stats/internal/WindowTally", "empty", "()Z"⟩ : MethodName)) (z := (⟨"com/example/obturo/obturo/stats/internal/WindowTally", "empty", "()Z"⟩ : MethodName)) hown (mvT hZ (hw _ (List.mem_of_getElem? (i := 12) rfl))) (mvT hZ (hw _ (List.mem_of_getElem? (i := 13) rfl))) (notFace_of_selects (args := #[]) (mvT hZ (hw _ (List.mem_of_getElem? (i := 15) rfl)))) (mvT hZ (hw _ (List.mem_of_getElem? (i := 15) rfl))) (mvT hZ (hw _ (List.mem_of_getElem? (i := 14) rfl))) (by decide) (backOf (W := 0) (rm3 l Z a0 hw [] b46 (0 : Int64) (0 : Int64) (0 : Int64) T49.heap n0 sz49 P49_2 P49_3 P49_4) hZ (hw _ (List.mem_of_getElem? (i := 16) rfl)) (hw _ (List.mem_of_getElem? (i := 2) rfl)) (by decide) (by decide)) q52a q52c (g := (mkF m 87 #[.val (.long q1), .second, .val (.long q2), .second, .val (.long q3), .second, .val (.long q4), .second, .val (.long q5), .second, .val (.int p6), .val (.long pp), .second, .val (.long bb), .second, .val (.long cc), .second, .val (.int (1 : Int32)), .val (.long qq), .second, .val (.ref b46), .unset, .unset, .unset, .unset] [(.ref b46)])) rfl (by rw [hml]; rfl) (Steps.refl _) (argsL := []) (rest := []) (lenOf pd_ocZ rfl) rfl (by show 2 * 0 + _ ≤ _; exact Nat.le_of_eq rfl) (hb hby at_87) (fun _ _ => ⟨rfl, rfl, (by decide : 1 + 0 ≤ _), (by decide : 6 + 0 ≤ _)⟩)
    dsimp only [Pt.U, Pt.locs, Pt.cells, Pt.slots] at X52 l52 y52 z52 st52 hQ52
    subst l52 y52 z52
    obtain ⟨rfl, N52q, eh52⟩ := hQ52
    have N52 := Fr.app N49 N52q
    have pre53 : ∀ t, Steps p.tables e below (T52.setTop (mkF m 90 #[.val (.long q1), .second, .val (.long q2), .second, .val (.long q3), .second, .val (.long q4), .second, .val (.long q5), .second, .val (.int p6), .val (.long pp), .second, .val (.long bb), .second, .val (.long cc), .second, .val (.int (1 : Int32)), .val (.long qq), .second, .val (.ref b46), .unset, .unset, .unset, .unset] [(.int (own_empty (0 : Int64) (0 : Int64) (0 : Int64)))])) t → Steps p.tables e below (s₁.setTop (entryFrame m #[(.long q1), (.long q2), (.long q3), (.long q4), (.long q5), (.int p6)] maxLocals)) t := fun t k => pre51 t (st52.trans k)
    have pre54 : ∀ t, Steps p.tables e below (T52.setTop (mkF m 110 #[.val (.long q1), .second, .val (.long q2), .second, .val (.long q3), .second, .val (.long q4), .second, .val (.long q5), .second, .val (.int p6), .val (.long pp), .second, .val (.long bb), .second, .val (.long cc), .second, .val (.int (1 : Int32)), .val (.long qq), .second, .val (.ref b46), .val (.int (own_empty (0 : Int64) (0 : Int64) (0 : Int64))), .unset, .unset, .unset] [(.long q4), (.long (q4 ^^^ (-1 : Int64))), (.long q4), (.long cc), (.long bb), (.long pp), (.ref b46)])) t → Steps p.tables e below (s₁.setTop (entryFrame m #[(.long q1), (.long q2), (.long q3), (.long q4), (.long q5), (.int p6)] maxLocals)) t := fun t k => pre53 t (by
      show Steps p.tables e below (T52.setTop (mkF m 90 #[.val (.long q1), .second, .val (.long q2), .second, .val (.long q3), .second, .val (.long q4), .second, .val (.long q5), .second, .val (.int p6), .val (.long pp), .second, .val (.long bb), .second, .val (.long cc), .second, .val (.int (1 : Int32)), .val (.long qq), .second, .val (.ref b46), .unset, .unset, .unset, .unset] [(.int (own_empty (0 : Int64) (0 : Int64) (0 : Int64)))])) t
      refine XS.istore X52.here hx rfl (hb hby at_90) rfl (l' := #[.val (.long q1), .second, .val (.long q2), .second, .val (.long q3), .second, .val (.long q4), .second, .val (.long q5), .second, .val (.int p6), .val (.long pp), .second, .val (.long bb), .second, .val (.long cc), .second, .val (.int (1 : Int32)), .val (.long qq), .second, .val (.ref b46), .val (.int (own_empty (0 : Int64) (0 : Int64) (0 : Int64))), .unset, .unset, .unset]) rfl ?_
      show Steps p.tables e below (T52.setTop (mkF m 92 #[.val (.long q1), .second, .val (.long q2), .second, .val (.long q3), .second, .val (.long q4), .second, .val (.long q5), .second, .val (.int p6), .val (.long pp), .second, .val (.long bb), .second, .val (.long cc), .second, .val (.int (1 : Int32)), .val (.long qq), .second, .val (.ref b46), .val (.int (own_empty (0 : Int64) (0 : Int64) (0 : Int64))), .unset, .unset, .unset] [])) t
      refine XS.aload X52.here hx rfl (hb hby at_92) rfl rfl ?_
      show Steps p.tables e below (T52.setTop (mkF m 94 #[.val (.long q1), .second, .val (.long q2), .second, .val (.long q3), .second, .val (.long q4), .second, .val (.long q5), .second, .val (.int p6), .val (.long pp), .second, .val (.long bb), .second, .val (.long cc), .second, .val (.int (1 : Int32)), .val (.long qq), .second, .val (.ref b46), .val (.int (own_empty (0 : Int64) (0 : Int64) (0 : Int64))), .unset, .unset, .unset] [(.ref b46)])) t
      refine XT.lload X52.here hx rfl (hb hby at_94) rfl ?_
      show Steps p.tables e below (T52.setTop (mkF m 96 #[.val (.long q1), .second, .val (.long q2), .second, .val (.long q3), .second, .val (.long q4), .second, .val (.long q5), .second, .val (.int p6), .val (.long pp), .second, .val (.long bb), .second, .val (.long cc), .second, .val (.int (1 : Int32)), .val (.long qq), .second, .val (.ref b46), .val (.int (own_empty (0 : Int64) (0 : Int64) (0 : Int64))), .unset, .unset, .unset] [(.long pp), (.ref b46)])) t
      refine XT.lload X52.here hx rfl (hb hby at_96) rfl ?_
      show Steps p.tables e below (T52.setTop (mkF m 98 #[.val (.long q1), .second, .val (.long q2), .second, .val (.long q3), .second, .val (.long q4), .second, .val (.long q5), .second, .val (.int p6), .val (.long pp), .second, .val (.long bb), .second, .val (.long cc), .second, .val (.int (1 : Int32)), .val (.long qq), .second, .val (.ref b46), .val (.int (own_empty (0 : Int64) (0 : Int64) (0 : Int64))), .unset, .unset, .unset] [(.long bb), (.long pp), (.ref b46)])) t
      refine XT.lload X52.here hx rfl (hb hby at_98) rfl ?_
      show Steps p.tables e below (T52.setTop (mkF m 100 #[.val (.long q1), .second, .val (.long q2), .second, .val (.long q3), .second, .val (.long q4), .second, .val (.long q5), .second, .val (.int p6), .val (.long pp), .second, .val (.long bb), .second, .val (.long cc), .second, .val (.int (1 : Int32)), .val (.long qq), .second, .val (.ref b46), .val (.int (own_empty (0 : Int64) (0 : Int64) (0 : Int64))), .unset, .unset, .unset] [(.long cc), (.long bb), (.long pp), (.ref b46)])) t
      refine XT.lload X52.here hx rfl (hb hby at_100) rfl ?_
      show Steps p.tables e below (T52.setTop (mkF m 102 #[.val (.long q1), .second, .val (.long q2), .second, .val (.long q3), .second, .val (.long q4), .second, .val (.long q5), .second, .val (.int p6), .val (.long pp), .second, .val (.long bb), .second, .val (.long cc), .second, .val (.int (1 : Int32)), .val (.long qq), .second, .val (.ref b46), .val (.int (own_empty (0 : Int64) (0 : Int64) (0 : Int64))), .unset, .unset, .unset] [(.long q4), (.long cc), (.long bb), (.long pp), (.ref b46)])) t
      refine XT.lload X52.here hx rfl (hb hby at_102) rfl ?_
      show Steps p.tables e below (T52.setTop (mkF m 104 #[.val (.long q1), .second, .val (.long q2), .second, .val (.long q3), .second, .val (.long q4), .second, .val (.long q5), .second, .val (.int p6), .val (.long pp), .second, .val (.long bb), .second, .val (.long cc), .second, .val (.int (1 : Int32)), .val (.long qq), .second, .val (.ref b46), .val (.int (own_empty (0 : Int64) (0 : Int64) (0 : Int64))), .unset, .unset, .unset] [(.long q4), (.long q4), (.long cc), (.long bb), (.long pp), (.ref b46)])) t
      refine X52.ldc2Long hx hown (mvT hZ (hw _ (List.mem_of_getElem? (i := 23) rfl))) (g := (mkF m 104 #[.val (.long q1), .second, .val (.long q2), .second, .val (.long q3), .second, .val (.long q4), .second, .val (.long q5), .second, .val (.int p6), .val (.long pp), .second, .val (.long bb), .second, .val (.long cc), .second, .val (.int (1 : Int32)), .val (.long qq), .second, .val (.ref b46), .val (.int (own_empty (0 : Int64) (0 : Int64) (0 : Int64))), .unset, .unset, .unset] [(.long q4), (.long q4), (.long cc), (.long bb), (.long pp), (.ref b46)])) rfl (hb hby at_104) _ ?_
      show Steps p.tables e below (T52.setTop (mkF m 107 #[.val (.long q1), .second, .val (.long q2), .second, .val (.long q3), .second, .val (.long q4), .second, .val (.long q5), .second, .val (.int p6), .val (.long pp), .second, .val (.long bb), .second, .val (.long cc), .second, .val (.int (1 : Int32)), .val (.long qq), .second, .val (.ref b46), .val (.int (own_empty (0 : Int64) (0 : Int64) (0 : Int64))), .unset, .unset, .unset] [(.long (-1 : Int64)), (.long q4), (.long q4), (.long cc), (.long bb), (.long pp), (.ref b46)])) t
      refine XT.lxor X52.here hx rfl (hb hby at_107) rfl ?_
      show Steps p.tables e below (T52.setTop (mkF m 108 #[.val (.long q1), .second, .val (.long q2), .second, .val (.long q3), .second, .val (.long q4), .second, .val (.long q5), .second, .val (.int p6), .val (.long pp), .second, .val (.long bb), .second, .val (.long cc), .second, .val (.int (1 : Int32)), .val (.long qq), .second, .val (.ref b46), .val (.int (own_empty (0 : Int64) (0 : Int64) (0 : Int64))), .unset, .unset, .unset] [(.long (q4 ^^^ (-1 : Int64))), (.long q4), (.long cc), (.long bb), (.long pp), (.ref b46)])) t
      refine XT.lload X52.here hx rfl (hb hby at_108) rfl ?_
      show Steps p.tables e below (T52.setTop (mkF m 110 #[.val (.long q1), .second, .val (.long q2), .second, .val (.long q3), .second, .val (.long q4), .second, .val (.long q5), .second, .val (.int p6), .val (.long pp), .second, .val (.long bb), .second, .val (.long cc), .second, .val (.int (1 : Int32)), .val (.long qq), .second, .val (.ref b46), .val (.int (own_empty (0 : Int64) (0 : Int64) (0 : Int64))), .unset, .unset, .unset] [(.long q4), (.long (q4 ^^^ (-1 : Int64))), (.long q4), (.long cc), (.long bb), (.long pp), (.ref b46)])) t
      exact k)
    obtain ⟨cq55, kq55, q55a, q55b, q55c⟩ := isOf hZ eh52 P49_1
    obtain ⟨_, _, ⟨T55, L55, k55, n55⟩, -, X55, ⟨Lc55, hQ55, l55, y55, z55⟩, st55⟩ := X52.virtualBack hx (y := (⟨"com/example/obturo/obturo/stats/internal/WindowTally", "add", "(JJJJJJ)V"⟩ : MethodName)) (z := (⟨"com/example/obturo/obturo/stats/internal/WindowTally", "add", "(JJJJJJ)V"⟩ : MethodName)) hown (mvT hZ (hw _ (List.mem_of_getElem? (i := 24) rfl))) (mvT hZ (hw _ (List.mem_of_getElem? (i := 25) rfl))) (notFace_of_selects (args := #[]) (mvT hZ (hw _ (List.mem_of_getElem? (i := 27) rfl)))) (mvT hZ (hw _ (List.mem_of_getElem? (i := 27) rfl))) (mvT hZ (hw _ (List.mem_of_getElem? (i := 26) rfl))) (by decide) (backOf (W := 0) (rm4 l Z a0 hw [] b46 pp bb cc q4 (q4 ^^^ (-1 : Int64)) q4 (0 : Int64) (0 : Int64) (0 : Int64) (0 : Int64) (0 : Int64) (9223372036854775807 : Int64) T49.heap n0 sz49 P49_1 P49_2 P49_3 P49_4 P49_5 P49_6 P49_7 g_b46) hZ (hw _ (List.mem_of_getElem? (i := 28) rfl)) (hw _ (List.mem_of_getElem? (i := 2) rfl)) (by decide) (by decide)) q55a q55c (g := (mkF m 110 #[.val (.long q1), .second, .val (.long q2), .second, .val (.long q3), .second, .val (.long q4), .second, .val (.long q5), .second, .val (.int p6), .val (.long pp), .second, .val (.long bb), .second, .val (.long cc), .second, .val (.int (1 : Int32)), .val (.long qq), .second, .val (.ref b46), .val (.int (own_empty (0 : Int64) (0 : Int64) (0 : Int64))), .unset, .unset, .unset] [(.long q4), (.long (q4 ^^^ (-1 : Int64))), (.long q4), (.long cc), (.long bb), (.long pp), (.ref b46)])) rfl (by rw [hml]; rfl) (Steps.refl _) (argsL := [(.long pp), (.long bb), (.long cc), (.long q4), (.long (q4 ^^^ (-1 : Int64))), (.long q4)]) (rest := []) (lenOf pd_oJJJJJJcV rfl) rfl (by show 2 * 0 + _ ≤ _; exact Nat.le_of_eq rfl) (hb hby at_110) (fun _ _ => ⟨rfl, eh52, (by decide : 1 + 0 ≤ _), (by decide : 6 + 0 ≤ _)⟩)
    dsimp only [Pt.U, Pt.locs, Pt.cells, Pt.slots] at X55 l55 y55 z55 st55 hQ55
    subst l55 y55 z55
    obtain ⟨rfl, N55q, Kq55, P55_1, P55_2, P55_3, P55_4, P55_5, P55_6, P55_7⟩ := hQ55
    have sz55 : n0 ≤ T55.heap.size := Nat.le_trans sz49 Kq55.1
    have N55 := Fr.app N52 N55q
    have pre56 : ∀ t, Steps p.tables e below (T55.setTop (mkF m 113 #[.val (.long q1), .second, .val (.long q2), .second, .val (.long q3), .second, .val (.long q4), .second, .val (.long q5), .second, .val (.int p6), .val (.long pp), .second, .val (.long bb), .second, .val (.long cc), .second, .val (.int (1 : Int32)), .val (.long qq), .second, .val (.ref b46), .val (.int (own_empty (0 : Int64) (0 : Int64) (0 : Int64))), .unset, .unset, .unset] [])) t → Steps p.tables e below (s₁.setTop (entryFrame m #[(.long q1), (.long q2), (.long q3), (.long q4), (.long q5), (.int p6)] maxLocals)) t := fun t k => pre54 t (st55.trans k)
    have pre58 : ∀ t, Steps p.tables e below (T55.setTop (mkF m 122 #[.val (.long q1), .second, .val (.long q2), .second, .val (.long q3), .second, .val (.long q4), .second, .val (.long q5), .second, .val (.int p6), .val (.long pp), .second, .val (.long bb), .second, .val (.long cc), .second, .val (.int (1 : Int32)), .val (.long qq), .second, .val (.ref b46), .val (.int (own_empty (0 : Int64) (0 : Int64) (0 : Int64))), .unset, .unset, .unset] [(.long qq), (.ref b46)])) t → Steps p.tables e below (s₁.setTop (entryFrame m #[(.long q1), (.long q2), (.long q3), (.long q4), (.long q5), (.int p6)] maxLocals)) t := fun t k => pre56 t (by
      show Steps p.tables e below (T55.setTop (mkF m 113 #[.val (.long q1), .second, .val (.long q2), .second, .val (.long q3), .second, .val (.long q4), .second, .val (.long q5), .second, .val (.int p6), .val (.long pp), .second, .val (.long bb), .second, .val (.long cc), .second, .val (.int (1 : Int32)), .val (.long qq), .second, .val (.ref b46), .val (.int (own_empty (0 : Int64) (0 : Int64) (0 : Int64))), .unset, .unset, .unset] [])) t
      refine XS.iload X55.here hx rfl (hb hby at_113) rfl ?_
      show Steps p.tables e below (T55.setTop (mkF m 115 #[.val (.long q1), .second, .val (.long q2), .second, .val (.long q3), .second, .val (.long q4), .second, .val (.long q5), .second, .val (.int p6), .val (.long pp), .second, .val (.long bb), .second, .val (.long cc), .second, .val (.int (1 : Int32)), .val (.long qq), .second, .val (.ref b46), .val (.int (own_empty (0 : Int64) (0 : Int64) (0 : Int64))), .unset, .unset, .unset] [(.int (1 : Int32))])) t
      refine XS.ifNo X55.here hx rfl (hb hby at_115) rfl (XT.i0_eq_f (show ¬ ((1 : Int32) = (0 : Int32)) from by decide)) ?_
      show Steps p.tables e below (T55.setTop (mkF m 118 #[.val (.long q1), .second, .val (.long q2), .second, .val (.long q3), .second, .val (.long q4), .second, .val (.long q5), .second, .val (.int p6), .val (.long pp), .second, .val (.long bb), .second, .val (.long cc), .second, .val (.int (1 : Int32)), .val (.long qq), .second, .val (.ref b46), .val (.int (own_empty (0 : Int64) (0 : Int64) (0 : Int64))), .unset, .unset, .unset] [])) t
      refine XS.aload X55.here hx rfl (hb hby at_118) rfl rfl ?_
      show Steps p.tables e below (T55.setTop (mkF m 120 #[.val (.long q1), .second, .val (.long q2), .second, .val (.long q3), .second, .val (.long q4), .second, .val (.long q5), .second, .val (.int p6), .val (.long pp), .second, .val (.long bb), .second, .val (.long cc), .second, .val (.int (1 : Int32)), .val (.long qq), .second, .val (.ref b46), .val (.int (own_empty (0 : Int64) (0 : Int64) (0 : Int64))), .unset, .unset, .unset] [(.ref b46)])) t
      refine XT.lload X55.here hx rfl (hb hby at_120) rfl ?_
      show Steps p.tables e below (T55.setTop (mkF m 122 #[.val (.long q1), .second, .val (.long q2), .second, .val (.long q3), .second, .val (.long q4), .second, .val (.long q5), .second, .val (.int p6), .val (.long pp), .second, .val (.long bb), .second, .val (.long cc), .second, .val (.int (1 : Int32)), .val (.long qq), .second, .val (.ref b46), .val (.int (own_empty (0 : Int64) (0 : Int64) (0 : Int64))), .unset, .unset, .unset] [(.long qq), (.ref b46)])) t
      exact k)
    obtain ⟨cq59, kq59, q59a, q59b, q59c⟩ := isOf hZ rfl P55_1
    obtain ⟨_, _, ⟨T59, L59, k59, n59⟩, -, X59, ⟨Lc59, hQ59, l59, y59, z59⟩, st59⟩ := X55.virtualBack hx (y := (⟨"com/example/obturo/obturo/stats/internal/WindowTally", "addPass", "(J)V"⟩ : MethodName)) (z := (⟨"com/example/obturo/obturo/stats/internal/WindowTally", "addPass", "(J)V"⟩ : MethodName)) hown (mvT hZ (hw _ (List.mem_of_getElem? (i := 37) rfl))) (mvT hZ (hw _ (List.mem_of_getElem? (i := 38) rfl))) (notFace_of_selects (args := #[]) (mvT hZ (hw _ (List.mem_of_getElem? (i := 40) rfl)))) (mvT hZ (hw _ (List.mem_of_getElem? (i := 40) rfl))) (mvT hZ (hw _ (List.mem_of_getElem? (i := 39) rfl))) (by decide) (backOf (W := 0) (rm6 l Z a0 hw [] b46 qq ((0 : Int64) + pp) ((0 : Int64) + bb) ((0 : Int64) + cc) ((0 : Int64) + q4) ((0 : Int64) + (q4 ^^^ (-1 : Int64))) (own_min (9223372036854775807 : Int64) q4) T55.heap n0 sz55 P55_1 P55_2 P55_3 P55_4 P55_5 P55_6 P55_7 g_b46) hZ (hw _ (List.mem_of_getElem? (i := 41) rfl)) (hw _ (List.mem_of_getElem? (i := 2) rfl)) (by decide) (by decide)) q59a q59c (g := (mkF m 122 #[.val (.long q1), .second, .val (.long q2), .second, .val (.long q3), .second, .val (.long q4), .second, .val (.long q5), .second, .val (.int p6), .val (.long pp), .second, .val (.long bb), .second, .val (.long cc), .second, .val (.int (1 : Int32)), .val (.long qq), .second, .val (.ref b46), .val (.int (own_empty (0 : Int64) (0 : Int64) (0 : Int64))), .unset, .unset, .unset] [(.long qq), (.ref b46)])) rfl (by rw [hml]; rfl) (Steps.refl _) (argsL := [(.long qq)]) (rest := []) (lenOf pd_oJcV rfl) rfl (by show 2 * 0 + _ ≤ _; exact Nat.le_of_eq rfl) (hb hby at_122) (fun _ _ => ⟨rfl, rfl, (by decide : 1 + 0 ≤ _), (by decide : 6 + 0 ≤ _)⟩)
    dsimp only [Pt.U, Pt.locs, Pt.cells, Pt.slots] at X59 l59 y59 z59 st59 hQ59
    subst l59 y59 z59
    obtain ⟨rfl, N59q, Kq59, P59_1, P59_2, P59_3, P59_4, P59_5, P59_6, P59_7⟩ := hQ59
    have sz59 : n0 ≤ T59.heap.size := Nat.le_trans sz55 Kq59.1
    have N59 := Fr.app N55 N59q
    have pre60 : ∀ t, Steps p.tables e below (T59.setTop (mkF m 125 #[.val (.long q1), .second, .val (.long q2), .second, .val (.long q3), .second, .val (.long q4), .second, .val (.long q5), .second, .val (.int p6), .val (.long pp), .second, .val (.long bb), .second, .val (.long cc), .second, .val (.int (1 : Int32)), .val (.long qq), .second, .val (.ref b46), .val (.int (own_empty (0 : Int64) (0 : Int64) (0 : Int64))), .unset, .unset, .unset] [])) t → Steps p.tables e below (s₁.setTop (entryFrame m #[(.long q1), (.long q2), (.long q3), (.long q4), (.long q5), (.int p6)] maxLocals)) t := fun t k => pre58 t (st59.trans k)
    have pre63 : ∀ t, Steps p.tables e below (T59.setTop (mkF m 146 #[.val (.long q1), .second, .val (.long q2), .second, .val (.long q3), .second, .val (.long q4), .second, .val (.long q5), .second, .val (.int p6), .val (.long pp), .second, .val (.long bb), .second, .val (.long cc), .second, .val (.int (1 : Int32)), .val (.long qq), .second, .val (.ref b46), .val (.int (own_empty (0 : Int64) (0 : Int64) (0 : Int64))), .val (.long (pp + qq)), .second, .unset] [(.int (XT.cmpL (pp + qq) (0 : Int64)))])) t → Steps p.tables e below (s₁.setTop (entryFrame m #[(.long q1), (.long q2), (.long q3), (.long q4), (.long q5), (.int p6)] maxLocals)) t := fun t k => pre60 t (by
      show Steps p.tables e below (T59.setTop (mkF m 125 #[.val (.long q1), .second, .val (.long q2), .second, .val (.long q3), .second, .val (.long q4), .second, .val (.long q5), .second, .val (.int p6), .val (.long pp), .second, .val (.long bb), .second, .val (.long cc), .second, .val (.int (1 : Int32)), .val (.long qq), .second, .val (.ref b46), .val (.int (own_empty (0 : Int64) (0 : Int64) (0 : Int64))), .unset, .unset, .unset] [])) t
      refine XS.iload X59.here hx rfl (hb hby at_125) rfl ?_
      show Steps p.tables e below (T59.setTop (mkF m 127 #[.val (.long q1), .second, .val (.long q2), .second, .val (.long q3), .second, .val (.long q4), .second, .val (.long q5), .second, .val (.int p6), .val (.long pp), .second, .val (.long bb), .second, .val (.long cc), .second, .val (.int (1 : Int32)), .val (.long qq), .second, .val (.ref b46), .val (.int (own_empty (0 : Int64) (0 : Int64) (0 : Int64))), .unset, .unset, .unset] [(.int (1 : Int32))])) t
      refine XS.ifNo X59.here hx rfl (hb hby at_127) rfl (XT.i0_eq_f (show ¬ ((1 : Int32) = (0 : Int32)) from by decide)) ?_
      show Steps p.tables e below (T59.setTop (mkF m 130 #[.val (.long q1), .second, .val (.long q2), .second, .val (.long q3), .second, .val (.long q4), .second, .val (.long q5), .second, .val (.int p6), .val (.long pp), .second, .val (.long bb), .second, .val (.long cc), .second, .val (.int (1 : Int32)), .val (.long qq), .second, .val (.ref b46), .val (.int (own_empty (0 : Int64) (0 : Int64) (0 : Int64))), .unset, .unset, .unset] [])) t
      refine XT.lload X59.here hx rfl (hb hby at_130) rfl ?_
      show Steps p.tables e below (T59.setTop (mkF m 132 #[.val (.long q1), .second, .val (.long q2), .second, .val (.long q3), .second, .val (.long q4), .second, .val (.long q5), .second, .val (.int p6), .val (.long pp), .second, .val (.long bb), .second, .val (.long cc), .second, .val (.int (1 : Int32)), .val (.long qq), .second, .val (.ref b46), .val (.int (own_empty (0 : Int64) (0 : Int64) (0 : Int64))), .unset, .unset, .unset] [(.long pp)])) t
      refine XT.lload X59.here hx rfl (hb hby at_132) rfl ?_
      show Steps p.tables e below (T59.setTop (mkF m 134 #[.val (.long q1), .second, .val (.long q2), .second, .val (.long q3), .second, .val (.long q4), .second, .val (.long q5), .second, .val (.int p6), .val (.long pp), .second, .val (.long bb), .second, .val (.long cc), .second, .val (.int (1 : Int32)), .val (.long qq), .second, .val (.ref b46), .val (.int (own_empty (0 : Int64) (0 : Int64) (0 : Int64))), .unset, .unset, .unset] [(.long qq), (.long pp)])) t
      refine XT.ladd X59.here hx rfl (hb hby at_134) rfl ?_
      show Steps p.tables e below (T59.setTop (mkF m 135 #[.val (.long q1), .second, .val (.long q2), .second, .val (.long q3), .second, .val (.long q4), .second, .val (.long q5), .second, .val (.int p6), .val (.long pp), .second, .val (.long bb), .second, .val (.long cc), .second, .val (.int (1 : Int32)), .val (.long qq), .second, .val (.ref b46), .val (.int (own_empty (0 : Int64) (0 : Int64) (0 : Int64))), .unset, .unset, .unset] [(.long (pp + qq))])) t
      refine XS.goto X59.here hx rfl (pc0 := 135) (pc' := 140) rfl (hb hby at_135) (by decide) (by decide) ?_
      show Steps p.tables e below (T59.setTop (mkF m 140 #[.val (.long q1), .second, .val (.long q2), .second, .val (.long q3), .second, .val (.long q4), .second, .val (.long q5), .second, .val (.int p6), .val (.long pp), .second, .val (.long bb), .second, .val (.long cc), .second, .val (.int (1 : Int32)), .val (.long qq), .second, .val (.ref b46), .val (.int (own_empty (0 : Int64) (0 : Int64) (0 : Int64))), .unset, .unset, .unset] [(.long (pp + qq))])) t
      refine XT.lstore X59.here hx rfl (hb hby at_140) rfl (l' := #[.val (.long q1), .second, .val (.long q2), .second, .val (.long q3), .second, .val (.long q4), .second, .val (.long q5), .second, .val (.int p6), .val (.long pp), .second, .val (.long bb), .second, .val (.long cc), .second, .val (.int (1 : Int32)), .val (.long qq), .second, .val (.ref b46), .val (.int (own_empty (0 : Int64) (0 : Int64) (0 : Int64))), .val (.long (pp + qq)), .second, .unset]) rfl ?_
      show Steps p.tables e below (T59.setTop (mkF m 142 #[.val (.long q1), .second, .val (.long q2), .second, .val (.long q3), .second, .val (.long q4), .second, .val (.long q5), .second, .val (.int p6), .val (.long pp), .second, .val (.long bb), .second, .val (.long cc), .second, .val (.int (1 : Int32)), .val (.long qq), .second, .val (.ref b46), .val (.int (own_empty (0 : Int64) (0 : Int64) (0 : Int64))), .val (.long (pp + qq)), .second, .unset] [])) t
      refine XT.lload X59.here hx rfl (hb hby at_142) rfl ?_
      show Steps p.tables e below (T59.setTop (mkF m 144 #[.val (.long q1), .second, .val (.long q2), .second, .val (.long q3), .second, .val (.long q4), .second, .val (.long q5), .second, .val (.int p6), .val (.long pp), .second, .val (.long bb), .second, .val (.long cc), .second, .val (.int (1 : Int32)), .val (.long qq), .second, .val (.ref b46), .val (.int (own_empty (0 : Int64) (0 : Int64) (0 : Int64))), .val (.long (pp + qq)), .second, .unset] [(.long (pp + qq))])) t
      refine XT.lconstV X59.here hx rfl (0 : Int64) (hb hby at_144) (by decide) ?_
      show Steps p.tables e below (T59.setTop (mkF m 145 #[.val (.long q1), .second, .val (.long q2), .second, .val (.long q3), .second, .val (.long q4), .second, .val (.long q5), .second, .val (.int p6), .val (.long pp), .second, .val (.long bb), .second, .val (.long cc), .second, .val (.int (1 : Int32)), .val (.long qq), .second, .val (.ref b46), .val (.int (own_empty (0 : Int64) (0 : Int64) (0 : Int64))), .val (.long (pp + qq)), .second, .unset] [(.long (0 : Int64)), (.long (pp + qq))])) t
      refine XT.lcmp X59.here hx rfl (hb hby at_145) rfl ?_
      show Steps p.tables e below (T59.setTop (mkF m 146 #[.val (.long q1), .second, .val (.long q2), .second, .val (.long q3), .second, .val (.long q4), .second, .val (.long q5), .second, .val (.int p6), .val (.long pp), .second, .val (.long bb), .second, .val (.long cc), .second, .val (.int (1 : Int32)), .val (.long qq), .second, .val (.ref b46), .val (.int (own_empty (0 : Int64) (0 : Int64) (0 : Int64))), .val (.long (pp + qq)), .second, .unset] [(.int (XT.cmpL (pp + qq) (0 : Int64)))])) t
      exact k)
    have pre68 : ∀ t, Steps p.tables e below (T59.setTop (mkF m 168 #[.val (.long q1), .second, .val (.long q2), .second, .val (.long q3), .second, .val (.long q4), .second, .val (.long q5), .second, .val (.int p6), .val (.long pp), .second, .val (.long bb), .second, .val (.long cc), .second, .val (.int (1 : Int32)), .val (.long qq), .second, .val (.ref b46), .val (.int (own_empty (0 : Int64) (0 : Int64) (0 : Int64))), .val (.long (pp + qq)), .second, .unset] [(.int (if (pp + qq) = (0 : Int64) then (if bb = (0 : Int64) then (if cc = (0 : Int64) then (1 : Int32) else (0 : Int32)) else (0 : Int32)) else (0 : Int32)))])) t → Steps p.tables e below (s₁.setTop (entryFrame m #[(.long q1), (.long q2), (.long q3), (.long q4), (.long q5), (.int p6)] maxLocals)) t := fun t k => pre63 t (by
      show Steps p.tables e below (T59.setTop (mkF m 146 #[.val (.long q1), .second, .val (.long q2), .second, .val (.long q3), .second, .val (.long q4), .second, .val (.long q5), .second, .val (.int p6), .val (.long pp), .second, .val (.long bb), .second, .val (.long cc), .second, .val (.int (1 : Int32)), .val (.long qq), .second, .val (.ref b46), .val (.int (own_empty (0 : Int64) (0 : Int64) (0 : Int64))), .val (.long (pp + qq)), .second, .unset] [(.int (XT.cmpL (pp + qq) (0 : Int64)))])) t
      by_cases hc146_62 : (pp + qq) = (0 : Int64)
      · simp only [if_pos hc146_62] at k
        refine XS.ifNo X59.here hx rfl (hb hby at_146) rfl (XT.ll_ne_f hc146_62) ?_
        show Steps p.tables e below (T59.setTop (mkF m 149 #[.val (.long q1), .second, .val (.long q2), .second, .val (.long q3), .second, .val (.long q4), .second, .val (.long q5), .second, .val (.int p6), .val (.long pp), .second, .val (.long bb), .second, .val (.long cc), .second, .val (.int (1 : Int32)), .val (.long qq), .second, .val (.ref b46), .val (.int (own_empty (0 : Int64) (0 : Int64) (0 : Int64))), .val (.long (pp + qq)), .second, .unset] [])) t
        refine XT.lload X59.here hx rfl (hb hby at_149) rfl ?_
        show Steps p.tables e below (T59.setTop (mkF m 151 #[.val (.long q1), .second, .val (.long q2), .second, .val (.long q3), .second, .val (.long q4), .second, .val (.long q5), .second, .val (.int p6), .val (.long pp), .second, .val (.long bb), .second, .val (.long cc), .second, .val (.int (1 : Int32)), .val (.long qq), .second, .val (.ref b46), .val (.int (own_empty (0 : Int64) (0 : Int64) (0 : Int64))), .val (.long (pp + qq)), .second, .unset] [(.long bb)])) t
        refine XT.lconstV X59.here hx rfl (0 : Int64) (hb hby at_151) (by decide) ?_
        show Steps p.tables e below (T59.setTop (mkF m 152 #[.val (.long q1), .second, .val (.long q2), .second, .val (.long q3), .second, .val (.long q4), .second, .val (.long q5), .second, .val (.int p6), .val (.long pp), .second, .val (.long bb), .second, .val (.long cc), .second, .val (.int (1 : Int32)), .val (.long qq), .second, .val (.ref b46), .val (.int (own_empty (0 : Int64) (0 : Int64) (0 : Int64))), .val (.long (pp + qq)), .second, .unset] [(.long (0 : Int64)), (.long bb)])) t
        refine XT.lcmp X59.here hx rfl (hb hby at_152) rfl ?_
        show Steps p.tables e below (T59.setTop (mkF m 153 #[.val (.long q1), .second, .val (.long q2), .second, .val (.long q3), .second, .val (.long q4), .second, .val (.long q5), .second, .val (.int p6), .val (.long pp), .second, .val (.long bb), .second, .val (.long cc), .second, .val (.int (1 : Int32)), .val (.long qq), .second, .val (.ref b46), .val (.int (own_empty (0 : Int64) (0 : Int64) (0 : Int64))), .val (.long (pp + qq)), .second, .unset] [(.int (XT.cmpL bb (0 : Int64)))])) t
        suffices k67 : Steps p.tables e below (T59.setTop (mkF m 168 #[.val (.long q1), .second, .val (.long q2), .second, .val (.long q3), .second, .val (.long q4), .second, .val (.long q5), .second, .val (.int p6), .val (.long pp), .second, .val (.long bb), .second, .val (.long cc), .second, .val (.int (1 : Int32)), .val (.long qq), .second, .val (.ref b46), .val (.int (own_empty (0 : Int64) (0 : Int64) (0 : Int64))), .val (.long (pp + qq)), .second, .unset] [(.int (if bb = (0 : Int64) then (if cc = (0 : Int64) then (1 : Int32) else (0 : Int32)) else (0 : Int32)))])) t by
          by_cases hc153_64 : bb = (0 : Int64)
          · simp only [if_pos hc153_64] at k67
            refine XS.ifNo X59.here hx rfl (hb hby at_153) rfl (XT.ll_ne_f hc153_64) ?_
            show Steps p.tables e below (T59.setTop (mkF m 156 #[.val (.long q1), .second, .val (.long q2), .second, .val (.long q3), .second, .val (.long q4), .second, .val (.long q5), .second, .val (.int p6), .val (.long pp), .second, .val (.long bb), .second, .val (.long cc), .second, .val (.int (1 : Int32)), .val (.long qq), .second, .val (.ref b46), .val (.int (own_empty (0 : Int64) (0 : Int64) (0 : Int64))), .val (.long (pp + qq)), .second, .unset] [])) t
            refine XT.lload X59.here hx rfl (hb hby at_156) rfl ?_
            show Steps p.tables e below (T59.setTop (mkF m 158 #[.val (.long q1), .second, .val (.long q2), .second, .val (.long q3), .second, .val (.long q4), .second, .val (.long q5), .second, .val (.int p6), .val (.long pp), .second, .val (.long bb), .second, .val (.long cc), .second, .val (.int (1 : Int32)), .val (.long qq), .second, .val (.ref b46), .val (.int (own_empty (0 : Int64) (0 : Int64) (0 : Int64))), .val (.long (pp + qq)), .second, .unset] [(.long cc)])) t
            refine XT.lconstV X59.here hx rfl (0 : Int64) (hb hby at_158) (by decide) ?_
            show Steps p.tables e below (T59.setTop (mkF m 159 #[.val (.long q1), .second, .val (.long q2), .second, .val (.long q3), .second, .val (.long q4), .second, .val (.long q5), .second, .val (.int p6), .val (.long pp), .second, .val (.long bb), .second, .val (.long cc), .second, .val (.int (1 : Int32)), .val (.long qq), .second, .val (.ref b46), .val (.int (own_empty (0 : Int64) (0 : Int64) (0 : Int64))), .val (.long (pp + qq)), .second, .unset] [(.long (0 : Int64)), (.long cc)])) t
            refine XT.lcmp X59.here hx rfl (hb hby at_159) rfl ?_
            show Steps p.tables e below (T59.setTop (mkF m 160 #[.val (.long q1), .second, .val (.long q2), .second, .val (.long q3), .second, .val (.long q4), .second, .val (.long q5), .second, .val (.int p6), .val (.long pp), .second, .val (.long bb), .second, .val (.long cc), .second, .val (.int (1 : Int32)), .val (.long qq), .second, .val (.ref b46), .val (.int (own_empty (0 : Int64) (0 : Int64) (0 : Int64))), .val (.long (pp + qq)), .second, .unset] [(.int (XT.cmpL cc (0 : Int64)))])) t
            suffices k66 : Steps p.tables e below (T59.setTop (mkF m 168 #[.val (.long q1), .second, .val (.long q2), .second, .val (.long q3), .second, .val (.long q4), .second, .val (.long q5), .second, .val (.int p6), .val (.long pp), .second, .val (.long bb), .second, .val (.long cc), .second, .val (.int (1 : Int32)), .val (.long qq), .second, .val (.ref b46), .val (.int (own_empty (0 : Int64) (0 : Int64) (0 : Int64))), .val (.long (pp + qq)), .second, .unset] [(.int (if cc = (0 : Int64) then (1 : Int32) else (0 : Int32)))])) t by
              by_cases hc160_65 : cc = (0 : Int64)
              · simp only [if_pos hc160_65] at k66
                refine XS.ifNo X59.here hx rfl (hb hby at_160) rfl (XT.ll_ne_f hc160_65) ?_
                show Steps p.tables e below (T59.setTop (mkF m 163 #[.val (.long q1), .second, .val (.long q2), .second, .val (.long q3), .second, .val (.long q4), .second, .val (.long q5), .second, .val (.int p6), .val (.long pp), .second, .val (.long bb), .second, .val (.long cc), .second, .val (.int (1 : Int32)), .val (.long qq), .second, .val (.ref b46), .val (.int (own_empty (0 : Int64) (0 : Int64) (0 : Int64))), .val (.long (pp + qq)), .second, .unset] [])) t
                refine XS.iconst X59.here hx rfl (hb hby at_163) ?_
                show Steps p.tables e below (T59.setTop (mkF m 164 #[.val (.long q1), .second, .val (.long q2), .second, .val (.long q3), .second, .val (.long q4), .second, .val (.long q5), .second, .val (.int p6), .val (.long pp), .second, .val (.long bb), .second, .val (.long cc), .second, .val (.int (1 : Int32)), .val (.long qq), .second, .val (.ref b46), .val (.int (own_empty (0 : Int64) (0 : Int64) (0 : Int64))), .val (.long (pp + qq)), .second, .unset] [(.int (1 : Int32))])) t
                refine XS.goto X59.here hx rfl (pc0 := 164) (pc' := 168) rfl (hb hby at_164) (by decide) (by decide) ?_
                show Steps p.tables e below (T59.setTop (mkF m 168 #[.val (.long q1), .second, .val (.long q2), .second, .val (.long q3), .second, .val (.long q4), .second, .val (.long q5), .second, .val (.int p6), .val (.long pp), .second, .val (.long bb), .second, .val (.long cc), .second, .val (.int (1 : Int32)), .val (.long qq), .second, .val (.ref b46), .val (.int (own_empty (0 : Int64) (0 : Int64) (0 : Int64))), .val (.long (pp + qq)), .second, .unset] [(.int (1 : Int32))])) t
                exact k66
              · simp only [if_neg hc160_65] at k66
                refine XS.ifYes X59.here hx rfl (pc0 := 160) (pc' := 167) rfl (hb hby at_160) rfl (XT.ll_ne_t hc160_65) (by decide) (by decide) ?_
                show Steps p.tables e below (T59.setTop (mkF m 167 #[.val (.long q1), .second, .val (.long q2), .second, .val (.long q3), .second, .val (.long q4), .second, .val (.long q5), .second, .val (.int p6), .val (.long pp), .second, .val (.long bb), .second, .val (.long cc), .second, .val (.int (1 : Int32)), .val (.long qq), .second, .val (.ref b46), .val (.int (own_empty (0 : Int64) (0 : Int64) (0 : Int64))), .val (.long (pp + qq)), .second, .unset] [])) t
                refine XS.iconst X59.here hx rfl (hb hby at_167) ?_
                show Steps p.tables e below (T59.setTop (mkF m 168 #[.val (.long q1), .second, .val (.long q2), .second, .val (.long q3), .second, .val (.long q4), .second, .val (.long q5), .second, .val (.int p6), .val (.long pp), .second, .val (.long bb), .second, .val (.long cc), .second, .val (.int (1 : Int32)), .val (.long qq), .second, .val (.ref b46), .val (.int (own_empty (0 : Int64) (0 : Int64) (0 : Int64))), .val (.long (pp + qq)), .second, .unset] [(.int (0 : Int32))])) t
                exact k66
            exact k67
          · simp only [if_neg hc153_64] at k67
            refine XS.ifYes X59.here hx rfl (pc0 := 153) (pc' := 167) rfl (hb hby at_153) rfl (XT.ll_ne_t hc153_64) (by decide) (by decide) ?_
            show Steps p.tables e below (T59.setTop (mkF m 167 #[.val (.long q1), .second, .val (.long q2), .second, .val (.long q3), .second, .val (.long q4), .second, .val (.long q5), .second, .val (.int p6), .val (.long pp), .second, .val (.long bb), .second, .val (.long cc), .second, .val (.int (1 : Int32)), .val (.long qq), .second, .val (.ref b46), .val (.int (own_empty (0 : Int64) (0 : Int64) (0 : Int64))), .val (.long (pp + qq)), .second, .unset] [])) t
            refine XS.iconst X59.here hx rfl (hb hby at_167) ?_
            show Steps p.tables e below (T59.setTop (mkF m 168 #[.val (.long q1), .second, .val (.long q2), .second, .val (.long q3), .second, .val (.long q4), .second, .val (.long q5), .second, .val (.int p6), .val (.long pp), .second, .val (.long bb), .second, .val (.long cc), .second, .val (.int (1 : Int32)), .val (.long qq), .second, .val (.ref b46), .val (.int (own_empty (0 : Int64) (0 : Int64) (0 : Int64))), .val (.long (pp + qq)), .second, .unset] [(.int (0 : Int32))])) t
            exact k67
        exact k
      · simp only [if_neg hc146_62] at k
        refine XS.ifYes X59.here hx rfl (pc0 := 146) (pc' := 167) rfl (hb hby at_146) rfl (XT.ll_ne_t hc146_62) (by decide) (by decide) ?_
        show Steps p.tables e below (T59.setTop (mkF m 167 #[.val (.long q1), .second, .val (.long q2), .second, .val (.long q3), .second, .val (.long q4), .second, .val (.long q5), .second, .val (.int p6), .val (.long pp), .second, .val (.long bb), .second, .val (.long cc), .second, .val (.int (1 : Int32)), .val (.long qq), .second, .val (.ref b46), .val (.int (own_empty (0 : Int64) (0 : Int64) (0 : Int64))), .val (.long (pp + qq)), .second, .unset] [])) t
        refine XS.iconst X59.here hx rfl (hb hby at_167) ?_
        show Steps p.tables e below (T59.setTop (mkF m 168 #[.val (.long q1), .second, .val (.long q2), .second, .val (.long q3), .second, .val (.long q4), .second, .val (.long q5), .second, .val (.int p6), .val (.long pp), .second, .val (.long bb), .second, .val (.long cc), .second, .val (.int (1 : Int32)), .val (.long qq), .second, .val (.ref b46), .val (.int (own_empty (0 : Int64) (0 : Int64) (0 : Int64))), .val (.long (pp + qq)), .second, .unset] [(.int (0 : Int32))])) t
        exact k)
    have pre70 : ∀ t, Steps p.tables e below (T59.setTop (mkF m 177 #[.val (.long q1), .second, .val (.long q2), .second, .val (.long q3), .second, .val (.long q4), .second, .val (.long q5), .second, .val (.int p6), .val (.long pp), .second, .val (.long bb), .second, .val (.long cc), .second, .val (.int (1 : Int32)), .val (.long qq), .second, .val (.ref b46), .val (.int (own_empty (0 : Int64) (0 : Int64) (0 : Int64))), .val (.long (pp + qq)), .second, .val (.int (if (pp + qq) = (0 : Int64) then (if bb = (0 : Int64) then (if cc = (0 : Int64) then (1 : Int32) else (0 : Int32)) else (0 : Int32)) else (0 : Int32)))] [(.ref b46)])) t → Steps p.tables e below (s₁.setTop (entryFrame m #[(.long q1), (.long q2), (.long q3), (.long q4), (.long q5), (.int p6)] maxLocals)) t := fun t k => pre68 t (by
      show Steps p.tables e below (T59.setTop (mkF m 168 #[.val (.long q1), .second, .val (.long q2), .second, .val (.long q3), .second, .val (.long q4), .second, .val (.long q5), .second, .val (.int p6), .val (.long pp), .second, .val (.long bb), .second, .val (.long cc), .second, .val (.int (1 : Int32)), .val (.long qq), .second, .val (.ref b46), .val (.int (own_empty (0 : Int64) (0 : Int64) (0 : Int64))), .val (.long (pp + qq)), .second, .unset] [(.int (if (pp + qq) = (0 : Int64) then (if bb = (0 : Int64) then (if cc = (0 : Int64) then (1 : Int32) else (0 : Int32)) else (0 : Int32)) else (0 : Int32)))])) t
      refine XS.istore X59.here hx rfl (hb hby at_168) rfl (l' := #[.val (.long q1), .second, .val (.long q2), .second, .val (.long q3), .second, .val (.long q4), .second, .val (.long q5), .second, .val (.int p6), .val (.long pp), .second, .val (.long bb), .second, .val (.long cc), .second, .val (.int (1 : Int32)), .val (.long qq), .second, .val (.ref b46), .val (.int (own_empty (0 : Int64) (0 : Int64) (0 : Int64))), .val (.long (pp + qq)), .second, .val (.int (if (pp + qq) = (0 : Int64) then (if bb = (0 : Int64) then (if cc = (0 : Int64) then (1 : Int32) else (0 : Int32)) else (0 : Int32)) else (0 : Int32)))]) rfl ?_
      show Steps p.tables e below (T59.setTop (mkF m 170 #[.val (.long q1), .second, .val (.long q2), .second, .val (.long q3), .second, .val (.long q4), .second, .val (.long q5), .second, .val (.int p6), .val (.long pp), .second, .val (.long bb), .second, .val (.long cc), .second, .val (.int (1 : Int32)), .val (.long qq), .second, .val (.ref b46), .val (.int (own_empty (0 : Int64) (0 : Int64) (0 : Int64))), .val (.long (pp + qq)), .second, .val (.int (if (pp + qq) = (0 : Int64) then (if bb = (0 : Int64) then (if cc = (0 : Int64) then (1 : Int32) else (0 : Int32)) else (0 : Int32)) else (0 : Int32)))] [])) t
      refine XS.iload X59.here hx rfl (hb hby at_170) rfl ?_
      show Steps p.tables e below (T59.setTop (mkF m 172 #[.val (.long q1), .second, .val (.long q2), .second, .val (.long q3), .second, .val (.long q4), .second, .val (.long q5), .second, .val (.int p6), .val (.long pp), .second, .val (.long bb), .second, .val (.long cc), .second, .val (.int (1 : Int32)), .val (.long qq), .second, .val (.ref b46), .val (.int (own_empty (0 : Int64) (0 : Int64) (0 : Int64))), .val (.long (pp + qq)), .second, .val (.int (if (pp + qq) = (0 : Int64) then (if bb = (0 : Int64) then (if cc = (0 : Int64) then (1 : Int32) else (0 : Int32)) else (0 : Int32)) else (0 : Int32)))] [(.int (own_empty (0 : Int64) (0 : Int64) (0 : Int64)))])) t
      refine XS.ifNo X59.here hx rfl (hb hby at_172) rfl (XT.i0_eq_f (show ¬ ((own_empty (0 : Int64) (0 : Int64) (0 : Int64)) = (0 : Int32)) from own_fresh)) ?_
      show Steps p.tables e below (T59.setTop (mkF m 175 #[.val (.long q1), .second, .val (.long q2), .second, .val (.long q3), .second, .val (.long q4), .second, .val (.long q5), .second, .val (.int p6), .val (.long pp), .second, .val (.long bb), .second, .val (.long cc), .second, .val (.int (1 : Int32)), .val (.long qq), .second, .val (.ref b46), .val (.int (own_empty (0 : Int64) (0 : Int64) (0 : Int64))), .val (.long (pp + qq)), .second, .val (.int (if (pp + qq) = (0 : Int64) then (if bb = (0 : Int64) then (if cc = (0 : Int64) then (1 : Int32) else (0 : Int32)) else (0 : Int32)) else (0 : Int32)))] [])) t
      refine XS.aload X59.here hx rfl (hb hby at_175) rfl rfl ?_
      show Steps p.tables e below (T59.setTop (mkF m 177 #[.val (.long q1), .second, .val (.long q2), .second, .val (.long q3), .second, .val (.long q4), .second, .val (.long q5), .second, .val (.int p6), .val (.long pp), .second, .val (.long bb), .second, .val (.long cc), .second, .val (.int (1 : Int32)), .val (.long qq), .second, .val (.ref b46), .val (.int (own_empty (0 : Int64) (0 : Int64) (0 : Int64))), .val (.long (pp + qq)), .second, .val (.int (if (pp + qq) = (0 : Int64) then (if bb = (0 : Int64) then (if cc = (0 : Int64) then (1 : Int32) else (0 : Int32)) else (0 : Int32)) else (0 : Int32)))] [(.ref b46)])) t
      exact k)
    obtain ⟨cq71, kq71, q71a, q71b, q71c⟩ := isOf hZ rfl P59_1
    obtain ⟨_, _, ⟨T71, L71, k71, n71⟩, -, X71, ⟨Lc71, hQ71, l71, y71, z71⟩, st71⟩ := X59.virtualBack hx (y := (⟨"com/example/obturo/obturo/stats/internal/WindowTally", "empty", "()Z"⟩ : MethodName)) (z := (⟨"com/example/obturo/obturo/stats/internal/WindowTally", "empty", "()Z"⟩ : MethodName)) hown (mvT hZ (hw _ (List.mem_of_getElem? (i := 12) rfl))) (mvT hZ (hw _ (List.mem_of_getElem? (i := 13) rfl))) (notFace_of_selects (args := #[]) (mvT hZ (hw _ (List.mem_of_getElem? (i := 15) rfl)))) (mvT hZ (hw _ (List.mem_of_getElem? (i := 15) rfl))) (mvT hZ (hw _ (List.mem_of_getElem? (i := 14) rfl))) (by decide) (backOf (W := 0) (rm3 l Z a0 hw [] b46 (((0 : Int64) + pp) + qq) ((0 : Int64) + bb) ((0 : Int64) + cc) T59.heap n0 sz59 P59_2 P59_3 P59_4) hZ (hw _ (List.mem_of_getElem? (i := 16) rfl)) (hw _ (List.mem_of_getElem? (i := 2) rfl)) (by decide) (by decide)) q71a q71c (g := (mkF m 177 #[.val (.long q1), .second, .val (.long q2), .second, .val (.long q3), .second, .val (.long q4), .second, .val (.long q5), .second, .val (.int p6), .val (.long pp), .second, .val (.long bb), .second, .val (.long cc), .second, .val (.int (1 : Int32)), .val (.long qq), .second, .val (.ref b46), .val (.int (own_empty (0 : Int64) (0 : Int64) (0 : Int64))), .val (.long (pp + qq)), .second, .val (.int (if (pp + qq) = (0 : Int64) then (if bb = (0 : Int64) then (if cc = (0 : Int64) then (1 : Int32) else (0 : Int32)) else (0 : Int32)) else (0 : Int32)))] [(.ref b46)])) rfl (by rw [hml]; rfl) (Steps.refl _) (argsL := []) (rest := []) (lenOf pd_ocZ rfl) rfl (by show 2 * 0 + _ ≤ _; exact Nat.le_of_eq rfl) (hb hby at_177) (fun _ _ => ⟨rfl, rfl, (by decide : 1 + 0 ≤ _), (by decide : 6 + 0 ≤ _)⟩)
    dsimp only [Pt.U, Pt.locs, Pt.cells, Pt.slots] at X71 l71 y71 z71 st71 hQ71
    subst l71 y71 z71
    obtain ⟨rfl, N71q, eh71⟩ := hQ71
    have N71 := Fr.app N59 N71q
    have pre72 : ∀ t, Steps p.tables e below (T71.setTop (mkF m 180 #[.val (.long q1), .second, .val (.long q2), .second, .val (.long q3), .second, .val (.long q4), .second, .val (.long q5), .second, .val (.int p6), .val (.long pp), .second, .val (.long bb), .second, .val (.long cc), .second, .val (.int (1 : Int32)), .val (.long qq), .second, .val (.ref b46), .val (.int (own_empty (0 : Int64) (0 : Int64) (0 : Int64))), .val (.long (pp + qq)), .second, .val (.int (if (pp + qq) = (0 : Int64) then (if bb = (0 : Int64) then (if cc = (0 : Int64) then (1 : Int32) else (0 : Int32)) else (0 : Int32)) else (0 : Int32)))] [(.int (own_empty (((0 : Int64) + pp) + qq) ((0 : Int64) + bb) ((0 : Int64) + cc)))])) t → Steps p.tables e below (s₁.setTop (entryFrame m #[(.long q1), (.long q2), (.long q3), (.long q4), (.long q5), (.int p6)] maxLocals)) t := fun t k => pre70 t (st71.trans k)
    have pre74 : ∀ t, Steps p.tables e below (T71.setTop (mkF m 190 #[.val (.long q1), .second, .val (.long q2), .second, .val (.long q3), .second, .val (.long q4), .second, .val (.long q5), .second, .val (.int p6), .val (.long pp), .second, .val (.long bb), .second, .val (.long cc), .second, .val (.int (1 : Int32)), .val (.long qq), .second, .val (.ref b46), .val (.int (own_empty (0 : Int64) (0 : Int64) (0 : Int64))), .val (.long (pp + qq)), .second, .val (.int (if (pp + qq) = (0 : Int64) then (if bb = (0 : Int64) then (if cc = (0 : Int64) then (1 : Int32) else (0 : Int32)) else (0 : Int32)) else (0 : Int32)))] [(.int (1 : Int32))])) t → Steps p.tables e below (s₁.setTop (entryFrame m #[(.long q1), (.long q2), (.long q3), (.long q4), (.long q5), (.int p6)] maxLocals)) t := fun t k => pre72 t (by
      show Steps p.tables e below (T71.setTop (mkF m 180 #[.val (.long q1), .second, .val (.long q2), .second, .val (.long q3), .second, .val (.long q4), .second, .val (.long q5), .second, .val (.int p6), .val (.long pp), .second, .val (.long bb), .second, .val (.long cc), .second, .val (.int (1 : Int32)), .val (.long qq), .second, .val (.ref b46), .val (.int (own_empty (0 : Int64) (0 : Int64) (0 : Int64))), .val (.long (pp + qq)), .second, .val (.int (if (pp + qq) = (0 : Int64) then (if bb = (0 : Int64) then (if cc = (0 : Int64) then (1 : Int32) else (0 : Int32)) else (0 : Int32)) else (0 : Int32)))] [(.int (own_empty (((0 : Int64) + pp) + qq) ((0 : Int64) + bb) ((0 : Int64) + cc)))])) t
      refine XS.iload X71.here hx rfl (hb hby at_180) rfl ?_
      show Steps p.tables e below (T71.setTop (mkF m 182 #[.val (.long q1), .second, .val (.long q2), .second, .val (.long q3), .second, .val (.long q4), .second, .val (.long q5), .second, .val (.int p6), .val (.long pp), .second, .val (.long bb), .second, .val (.long cc), .second, .val (.int (1 : Int32)), .val (.long qq), .second, .val (.ref b46), .val (.int (own_empty (0 : Int64) (0 : Int64) (0 : Int64))), .val (.long (pp + qq)), .second, .val (.int (if (pp + qq) = (0 : Int64) then (if bb = (0 : Int64) then (if cc = (0 : Int64) then (1 : Int32) else (0 : Int32)) else (0 : Int32)) else (0 : Int32)))] [(.int (if (pp + qq) = (0 : Int64) then (if bb = (0 : Int64) then (if cc = (0 : Int64) then (1 : Int32) else (0 : Int32)) else (0 : Int32)) else (0 : Int32))), (.int (own_empty (((0 : Int64) + pp) + qq) ((0 : Int64) + bb) ((0 : Int64) + cc)))])) t
      refine XS.icmpNo X71.here hx rfl (hb hby at_182) rfl (XT.ii_ne_f (show (own_empty (((0 : Int64) + pp) + qq) ((0 : Int64) + bb) ((0 : Int64) + cc)) = (if (pp + qq) = (0 : Int64) then (if bb = (0 : Int64) then (if cc = (0 : Int64) then (1 : Int32) else (0 : Int32)) else (0 : Int32)) else (0 : Int32)) from by first | exact own_e1 _ _ _ | exact own_e2 _ _ _ _)) ?_
      show Steps p.tables e below (T71.setTop (mkF m 185 #[.val (.long q1), .second, .val (.long q2), .second, .val (.long q3), .second, .val (.long q4), .second, .val (.long q5), .second, .val (.int p6), .val (.long pp), .second, .val (.long bb), .second, .val (.long cc), .second, .val (.int (1 : Int32)), .val (.long qq), .second, .val (.ref b46), .val (.int (own_empty (0 : Int64) (0 : Int64) (0 : Int64))), .val (.long (pp + qq)), .second, .val (.int (if (pp + qq) = (0 : Int64) then (if bb = (0 : Int64) then (if cc = (0 : Int64) then (1 : Int32) else (0 : Int32)) else (0 : Int32)) else (0 : Int32)))] [])) t
      refine XS.iconst X71.here hx rfl (hb hby at_185) ?_
      show Steps p.tables e below (T71.setTop (mkF m 186 #[.val (.long q1), .second, .val (.long q2), .second, .val (.long q3), .second, .val (.long q4), .second, .val (.long q5), .second, .val (.int p6), .val (.long pp), .second, .val (.long bb), .second, .val (.long cc), .second, .val (.int (1 : Int32)), .val (.long qq), .second, .val (.ref b46), .val (.int (own_empty (0 : Int64) (0 : Int64) (0 : Int64))), .val (.long (pp + qq)), .second, .val (.int (if (pp + qq) = (0 : Int64) then (if bb = (0 : Int64) then (if cc = (0 : Int64) then (1 : Int32) else (0 : Int32)) else (0 : Int32)) else (0 : Int32)))] [(.int (1 : Int32))])) t
      refine XS.goto X71.here hx rfl (pc0 := 186) (pc' := 190) rfl (hb hby at_186) (by decide) (by decide) ?_
      show Steps p.tables e below (T71.setTop (mkF m 190 #[.val (.long q1), .second, .val (.long q2), .second, .val (.long q3), .second, .val (.long q4), .second, .val (.long q5), .second, .val (.int p6), .val (.long pp), .second, .val (.long bb), .second, .val (.long cc), .second, .val (.int (1 : Int32)), .val (.long qq), .second, .val (.ref b46), .val (.int (own_empty (0 : Int64) (0 : Int64) (0 : Int64))), .val (.long (pp + qq)), .second, .val (.int (if (pp + qq) = (0 : Int64) then (if bb = (0 : Int64) then (if cc = (0 : Int64) then (1 : Int32) else (0 : Int32)) else (0 : Int32)) else (0 : Int32)))] [(.int (1 : Int32))])) t
      exact k)
    obtain ⟨fs, hr, hrun, hended, hW, hsame⟩ := X71.leave (v := some (.int (1 : Int32))) (fun h => by rw [Bd.returns] at h; cases h)
    refine ⟨_, _, pre74 _ ?_, hrun, hended, _, _, rfl, ?_, ⟨_, rfl⟩, hW, hsame.mono (by decide) (by decide)⟩
    · show Steps p.tables e below (T71.setTop (mkF m 190 #[.val (.long q1), .second, .val (.long q2), .second, .val (.long q3), .second, .val (.long q4), .second, .val (.long q5), .second, .val (.int p6), .val (.long pp), .second, .val (.long bb), .second, .val (.long cc), .second, .val (.int (1 : Int32)), .val (.long qq), .second, .val (.ref b46), .val (.int (own_empty (0 : Int64) (0 : Int64) (0 : Int64))), .val (.long (pp + qq)), .second, .val (.int (if (pp + qq) = (0 : Int64) then (if bb = (0 : Int64) then (if cc = (0 : Int64) then (1 : Int32) else (0 : Int32)) else (0 : Int32)) else (0 : Int32)))] [(.int (1 : Int32))])) _
      exact retN X71 hx (t := .boolean) Bd.returns (by simp) (hb hby at_190) hr
    · show Q0 Z q1 q2 q3 q4 q5 p6 h0 n0 _ T71.heap _
      rw [eh71]
      exact ⟨rfl, N71⟩
set_option maxRecDepth 65536 in
set_option maxHeartbeats 40000000 in
theorem comes_1 {Post : Tables → Env → Array Value → State → Outcome → State → Prop} (hpost : ∀ tb e args s v u, (limb_1_1.after args s (.returned v) u = true ∧ limb_1_2.after args s (.returned v) u = true ∧ True) → FrameEnd s (.returned v) u (Jvm.fieldLocs frame_1_writes args s ++ Jvm.arrayLocs frame_1_arrays args s ++ Jvm.staticLocs frame_1_statics s) 16 128 → Post tb e args s (.returned v) u) :
    ArmFor flags0 classFile x code maxLocals ret World_1 tables_1 room_1 Calls_1 rest_1 Pre_1 Post := by
  intro l hfl _ _ p e ha hc hk s m args below hf hA hF happ hP
  obtain ⟨hcalls, hrest, hpre⟩ := hP
  obtain ⟨-, -, -, hnamed, -, -, -, hat⟩ := (Spec.applies_iff hf).mp happ
  obtain ⟨hg, hn⟩ := and_e (Cond.before_iff.mp (show (Jvm.Cond.and given_1 narrow_1).before args s = true from hpre))
  obtain ⟨ga0, gb0⟩ := and_e hg
  obtain ⟨ga1, gb1⟩ := and_e gb0
  obtain ⟨ga2, gb2⟩ := and_e gb1
  obtain ⟨ga3, gb3⟩ := and_e gb2
  obtain ⟨ga4, gb4⟩ := and_e gb3
  obtain ⟨ga5, gb5⟩ := and_e gb4
  obtain ⟨w0, w1, w2, w3, w4, w5, rfl⟩ : ∃ w0 w1 w2 w3 w4 w5 : Value, args = #[w0, w1, w2, w3, w4, w5] := by
    have hs : args.size = 6 := by simpa [Cond.value, given_1] using ga0
    obtain ⟨L⟩ := args
    match L, hs with
    | [w0, w1, w2, w3, w4, w5], _ => exact ⟨w0, w1, w2, w3, w4, w5, rfl⟩
  have hw := fun d (hd : d ∈ tables_1) => atoms_spec (ws := Jvm.Cond.code x code maxLocals ret :: tables_1) hat d (List.mem_cons_of_mem _ hd)
  obtain ⟨i0, ei0⟩ := isL_v ga1
  obtain rfl : w0 = (.long i0) := Option.some.inj ei0
  obtain ⟨i1, ei1⟩ := isL_v ga2
  obtain rfl : w1 = (.long i1) := Option.some.inj ei1
  obtain ⟨i2, ei2⟩ := isL_v ga3
  obtain rfl : w2 = (.long i2) := Option.some.inj ei2
  obtain ⟨i3, ei3⟩ := isL_v ga4
  obtain rfl : w3 = (.long i3) := Option.some.inj ei3
  obtain ⟨i4, ei4⟩ := isL_v ga5
  obtain rfl : w4 = (.long i4) := Option.some.inj ei4
  obtain ⟨i5, ei5⟩ := is_v gb5
  obtain rfl : w5 = (.int i5) := Option.some.inj ei5
  obtain ⟨n, o, h1, h2, h3, _, L, rfl, ⟨rfl, N⟩, hq⟩ := rm0 l s _ hw tables_1 i0 i1 i2 i3 i4 i5 s.heap s.heap.size (Nat.le_refl _) p e ha hc hk s m _ below hf ((Spec.applies_iff_loose hf).mp happ).1 ⟨rfl, State.Warmed39.refl s, rfl⟩ trivial
  refine ⟨n, _, h1, h2, h3, hpost _ _ _ _ _ _ ⟨Cond.after_iff.mpr rfl, Cond.after_iff.mpr (eq_i res_at (Term.int_eval (1)) rfl), trivial⟩ ⟨hq.1, hq.2.1, (hq.2.2.sift fun y hy => Or.inr (N y hy)).mono (by decide) (by decide)⟩⟩
theorem main_1_1 : Claimed_1_1 := comes_1 fun _ _ _ _ _ _ h hF => ⟨h.1, hF⟩
theorem main_1_2 : Claimed_1_2 := comes_1 fun _ _ _ _ _ _ h hF => ⟨h.2.1, hF⟩
end Jvm.Pilot.@@N@@
namespace Jvm.Pilot.@@N@@
open Jvm Jvm.ClassFile Sem Op Lib Jvm.Free Jvm.Stand Jvm.Pilot.@@N@@.Jvm.D
/-! MADE BY PROGRAM (witnessworld.py) out of the Statement's table words and the real class files: 10 classes; the members and pool entries that the words name. The judged class is class 1, her method 1. -/
namespace start1
open Jvm.ClassFile
def u (s : String) : CpInfo := .utf8 (stringToUtf16 s)
/-- a pool by its gaps: so many unusable entries, then the entry; so many at the end -/
def gap : Nat → List CpInfo → List CpInfo
  | 0, r => r
  | n + 1, r => .unusable :: gap n r
def poolList (es : List (Nat × CpInfo)) (last : Nat) : List CpInfo := es.foldr (fun e r => gap e.1 (e.2 :: r)) (gap last [])
def pool (es : List (Nat × CpInfo)) (last : Nat) : Array CpInfo := ⟨poolList es last⟩
def fileOf (pool : Array CpInfo) (this : Nat) (attrs : Array Attribute := #[]) (ms : Array MethodInfo := #[]) (fl : Nat := 33) (sup : Nat := 0) (ifs : Array Nat := #[]) (fds : Array FieldInfo := #[]) : ClassFile where
  minorVersion := 0
  majorVersion := 65
  constantPool := pool
  accessFlags := fl
  thisClass := this
  superClass := sup
  interfaces := ifs
  fields := fds
  methods := ms
  attributes := attrs
def plain (name : String) (sup : Option ClassId) : Class where
  name := name
  kind := .ordinary
  loader := none
  accessFlags := 33
  super := sup
  interfaces := #[]
  cf := none
  fields := #[]
  methods := #[]
  instanceTypes := #[]
  staticTypes := #[]
  resolved := #[]
  callSites := []
  init := .initialized
  statics := none
  mirror := none

def pool0 : Array CpInfo := pool [(5, u "<init>"), (0, u "()V"), (1, .class_ 10), (1, u "java/lang/Object")] 113

def k0c0 : Code := { maxStack := 0, maxLocals := 1, code := object_method_1_code, exceptionTable := #[], attributes := #[] }
def k0m0 : Method := { name := "<init>", desc := "()V", sig := { parameters := [], returnType := none }, accessFlags := 1, code := some k0c0 }
/-- java/lang/Object -/
def k0 : Class := { plain "java/lang/Object" none with
  accessFlags := 33
  interfaces := #[]
  cf := some (fileOf pool0 8 #[] #[{ accessFlags := 1, nameIndex := 5, descriptorIndex := 6, attributes := #[] }] 33 0 #[] #[])
  fields := #[]
  methods := #[k0m0]
  instanceTypes := #[]
  staticTypes := #[]
  resolved := Array.replicate 124 none
  statics := none }

def pool1 : Array CpInfo := pool [(2, .class_ 4), (0, .nameAndType 5 6), (0, u "java/lang/Object"), (0, u "<init>"), (0, u "()V"), (0, .class_ 8), (0, u "com/example/obturo/obturo/stats/internal/WindowTally"), (0, .methodref 7 3), (0, .methodref 7 11), (0, .nameAndType 12 13), (0, u "empty"), (0, u "()Z"), (0, .long 18446744073709551615), (1, .methodref 7 17), (0, .nameAndType 18 19), (0, u "add"), (0, u "(JJJJJJ)V"), (0, .methodref 7 21), (0, .nameAndType 22 23), (0, u "addPass"), (0, u "(J)V"), (0, .class_ 25), (0, u "com/example/obturo/obturo/stats/internal/WindowTallyEmptyPinLaw"), (2, u "law"), (0, u "(JJJJJI)Z")] 3

def k1m0 : Method := { name := "<init>", desc := "()V", sig := { parameters := [], returnType := none }, accessFlags := 1, code := none }
def k1c1 : Code := { maxStack := 13, maxLocals := 25, code := code, exceptionTable := #[], attributes := #[] }
def k1m1 : Method := { name := "law", desc := "(JJJJJI)Z", sig := { parameters := [.long, .long, .long, .long, .long, .int], returnType := some .boolean }, accessFlags := 9, code := some k1c1 }
/-- com/example/obturo/obturo/stats/internal/WindowTallyEmptyPinLaw -/
def k1 : Class := { plain "com/example/obturo/obturo/stats/internal/WindowTallyEmptyPinLaw" (some 0) with
  accessFlags := 49
  interfaces := #[]
  cf := some (fileOf pool1 24 #[] #[{ accessFlags := 1, nameIndex := 5, descriptorIndex := 6, attributes := #[] }, { accessFlags := 9, nameIndex := 28, descriptorIndex := 29, attributes := #[] }] 49 2 #[] #[])
  fields := #[]
  methods := #[k1m0, k1m1]
  instanceTypes := #[]
  staticTypes := #[]
  resolved := Array.replicate 33 none
  statics := none }

def pool2 : Array CpInfo := pool [(1, .methodref 2 3), (0, .class_ 4), (0, .nameAndType 5 6), (0, u "java/lang/Object"), (0, u "<init>"), (0, u "()V"), (2, .long 9223372036854775807), (1, .fieldref 12 13), (0, .class_ 14), (0, .nameAndType 15 16), (0, u "com/example/obturo/obturo/stats/internal/WindowTally"), (0, u "minRtMillis"), (0, u "J"), (0, .fieldref 12 18), (0, .nameAndType 19 16), (0, u "pass"), (0, .fieldref 12 21), (0, .nameAndType 22 16), (0, u "block"), (0, .fieldref 12 24), (0, .nameAndType 25 16), (0, u "completed"), (0, .fieldref 12 27), (0, .nameAndType 28 16), (0, u "errors"), (0, .fieldref 12 30), (0, .nameAndType 31 16), (0, u "totalRtMillis"), (0, .methodref 33 34), (0, .class_ 35), (0, .nameAndType 36 37), (0, u "java/lang/Math"), (0, u "min"), (0, u "(JJ)J"), (4, u "empty"), (12, u "add"), (0, u "(JJJJJJ)V"), (0, u "addPass"), (0, u "(J)V"), (0, u "()Z")] 5

def k2c0 : Code := { maxStack := 3, maxLocals := 1, code := prog_84_method_1_code, exceptionTable := #[], attributes := #[] }
def k2m0 : Method := { name := "<init>", desc := "()V", sig := { parameters := [], returnType := none }, accessFlags := 0, code := some k2c0 }
def k2c1 : Code := { maxStack := 5, maxLocals := 13, code := prog_84_method_2_code, exceptionTable := #[], attributes := #[] }
def k2m1 : Method := { name := "add", desc := "(JJJJJJ)V", sig := { parameters := [.long, .long, .long, .long, .long, .long], returnType := none }, accessFlags := 0, code := some k2c1 }
def k2c2 : Code := { maxStack := 5, maxLocals := 3, code := prog_84_method_3_code, exceptionTable := #[], attributes := #[] }
def k2m2 : Method := { name := "addPass", desc := "(J)V", sig := { parameters := [.long], returnType := none }, accessFlags := 0, code := some k2c2 }
def k2c3 : Code := { maxStack := 4, maxLocals := 1, code := prog_84_method_4_code, exceptionTable := #[], attributes := #[] }
def k2m3 : Method := { name := "empty", desc := "()Z", sig := { parameters := [], returnType := some .boolean }, accessFlags := 0, code := some k2c3 }
/-- com/example/obturo/obturo/stats/internal/WindowTally -/
def k2 : Class := { plain "com/example/obturo/obturo/stats/internal/WindowTally" (some 0) with
  accessFlags := 32
  interfaces := #[]
  cf := some (fileOf pool2 12 #[] #[{ accessFlags := 0, nameIndex := 5, descriptorIndex := 6, attributes := #[] }, { accessFlags := 0, nameIndex := 55, descriptorIndex := 56, attributes := #[] }, { accessFlags := 0, nameIndex := 57, descriptorIndex := 58, attributes := #[] }, { accessFlags := 0, nameIndex := 42, descriptorIndex := 59, attributes := #[] }] 32 2 #[] #[{ accessFlags := 2, nameIndex := 19, descriptorIndex := 16, attributes := #[] }, { accessFlags := 2, nameIndex := 22, descriptorIndex := 16, attributes := #[] }, { accessFlags := 2, nameIndex := 25, descriptorIndex := 16, attributes := #[] }, { accessFlags := 2, nameIndex := 28, descriptorIndex := 16, attributes := #[] }, { accessFlags := 2, nameIndex := 31, descriptorIndex := 16, attributes := #[] }, { accessFlags := 2, nameIndex := 15, descriptorIndex := 16, attributes := #[] }])
  fields := #[{ name := "pass", type := .long, accessFlags := 2, slot := 0, constantValue := 0 }, { name := "block", type := .long, accessFlags := 2, slot := 1, constantValue := 0 }, { name := "completed", type := .long, accessFlags := 2, slot := 2, constantValue := 0 }, { name := "errors", type := .long, accessFlags := 2, slot := 3, constantValue := 0 }, { name := "totalRtMillis", type := .long, accessFlags := 2, slot := 4, constantValue := 0 }, { name := "minRtMillis", type := .long, accessFlags := 2, slot := 5, constantValue := 0 }]
  methods := #[k2m0, k2m1, k2m2, k2m3]
  instanceTypes := #[.long, .long, .long, .long, .long, .long]
  staticTypes := #[]
  resolved := Array.replicate 65 none
  statics := none }

def pool3 : Array CpInfo := pool [(1, .class_ 2), (0, u "java/lang/Math"), (1, .class_ 6), (1, u "java/lang/Object"), (0, u "<init>"), (0, u "()V"), (89, .class_ 100), (1, u "java/lang/Math$RandomNumberGeneratorHolder"), (20, u "(JJ)J"), (50, u "negativeZeroFloatBits"), (0, u "J"), (2, u "negativeZeroDoubleBits"), (24, u "min"), (43, u "$assertionsDisabled"), (0, u "Z"), (91, u "twoToTheDoubleScaleDown"), (0, u "D"), (4, u "twoToTheDoubleScaleUp"), (9, u "E"), (3, u "PI"), (2, u "TAU"), (2, u "DEGREES_TO_RADIANS"), (0, u "RADIANS_TO_DEGREES")] 94

def k3m0 : Method := { name := "<init>", desc := "()V", sig := { parameters := [], returnType := none }, accessFlags := 2, code := none }
def k3c1 : Code := { maxStack := 4, maxLocals := 4, code := jdk_29_method_70_code, exceptionTable := #[], attributes := #[] }
def k3m1 : Method := { name := "min", desc := "(JJ)J", sig := { parameters := [.long, .long], returnType := some .long }, accessFlags := 9, code := some k3c1 }
/-- java/lang/Math -/
def k3 : Class := { plain "java/lang/Math" (some 0) with
  accessFlags := 49
  interfaces := #[]
  cf := some (fileOf pool3 1 #[.nestMembers #[98]] #[{ accessFlags := 2, nameIndex := 7, descriptorIndex := 8, attributes := #[] }, { accessFlags := 9, nameIndex := 201, descriptorIndex := 121, attributes := #[] }] 49 4 #[] #[{ accessFlags := 25, nameIndex := 354, descriptorIndex := 339, attributes := #[] }, { accessFlags := 25, nameIndex := 358, descriptorIndex := 339, attributes := #[] }, { accessFlags := 25, nameIndex := 361, descriptorIndex := 339, attributes := #[] }, { accessFlags := 26, nameIndex := 364, descriptorIndex := 339, attributes := #[] }, { accessFlags := 26, nameIndex := 365, descriptorIndex := 339, attributes := #[] }, { accessFlags := 26, nameIndex := 172, descriptorIndex := 173, attributes := #[] }, { accessFlags := 26, nameIndex := 176, descriptorIndex := 173, attributes := #[] }, { accessFlags := 8, nameIndex := 344, descriptorIndex := 339, attributes := #[] }, { accessFlags := 8, nameIndex := 338, descriptorIndex := 339, attributes := #[] }, { accessFlags := 4120, nameIndex := 245, descriptorIndex := 246, attributes := #[] }])
  fields := #[{ name := "E", type := .double, accessFlags := 25, slot := 0, constantValue := 0 }, { name := "PI", type := .double, accessFlags := 25, slot := 1, constantValue := 0 }, { name := "TAU", type := .double, accessFlags := 25, slot := 2, constantValue := 0 }, { name := "DEGREES_TO_RADIANS", type := .double, accessFlags := 26, slot := 3, constantValue := 0 }, { name := "RADIANS_TO_DEGREES", type := .double, accessFlags := 26, slot := 4, constantValue := 0 }, { name := "negativeZeroFloatBits", type := .long, accessFlags := 26, slot := 5, constantValue := 0 }, { name := "negativeZeroDoubleBits", type := .long, accessFlags := 26, slot := 6, constantValue := 0 }, { name := "twoToTheDoubleScaleUp", type := .double, accessFlags := 8, slot := 7, constantValue := 0 }, { name := "twoToTheDoubleScaleDown", type := .double, accessFlags := 8, slot := 8, constantValue := 0 }, { name := "$assertionsDisabled", type := .boolean, accessFlags := 4120, slot := 9, constantValue := 0 }]
  methods := #[k3m0, k3m1]
  instanceTypes := #[]
  staticTypes := #[.double, .double, .double, .double, .double, .long, .long, .double, .double, .boolean]
  resolved := Array.replicate 460 none
  statics := none }

def pool4 : Array CpInfo := pool [(1, u "java/lang/Cloneable"), (0, .class_ 1), (0, u "java/lang/Object"), (0, .class_ 3)] 3

/-- java/lang/Cloneable -/
def k4 : Class := { plain "java/lang/Cloneable" (some 0) with
  accessFlags := 1537
  interfaces := #[]
  cf := some (fileOf pool4 2 #[] #[] 1537 4 #[] #[])
  fields := #[]
  methods := #[]
  instanceTypes := #[]
  staticTypes := #[]
  resolved := Array.replicate 8 none
  statics := none }

def pool5 : Array CpInfo := pool [(1, u "java/io/Serializable"), (0, .class_ 1), (0, u "java/lang/Object"), (0, .class_ 3)] 3

/-- java/io/Serializable -/
def k5 : Class := { plain "java/io/Serializable" (some 0) with
  accessFlags := 1537
  interfaces := #[]
  cf := some (fileOf pool5 2 #[] #[] 1537 4 #[] #[])
  fields := #[]
  methods := #[]
  instanceTypes := #[]
  staticTypes := #[]
  resolved := Array.replicate 8 none
  statics := none }

/-- the primitive byte -/
def k6 : Class := { plain "byte" none with kind := .primitive 'B', accessFlags := 0x411 }
/-- [B -/
def k7 : Class := { plain "[B" (some 0) with kind := .array 6 .byte, interfaces := #[4, 5], accessFlags := 1041 }

/-- the primitive int -/
def k8 : Class := { plain "int" none with kind := .primitive 'I', accessFlags := 0x411 }
/-- [I -/
def k9 : Class := { plain "[I" (some 0) with kind := .array 8 .int, interfaces := #[4, 5], accessFlags := 1041 }

def heap : Heap := #[]
def classes : Array Class := #[k0, k1, k2, k3, k4, k5, k6, k7, k8, k9]
def interned : List (Array UInt16 × Addr) := []
def slotsUsed : Nat := 0
def theMethod : MethodId := ⟨1, 1⟩
def args0 : Array Value := #[.long 1, .long 2, .long 3, .long 4, .long 5, .int 6]
def aboutOver (below : List Frame) : State where
  vm := { classes := classes, interned := interned.toArray }
  heap := heap
  slotsUsed := slotsUsed
  threads := #[{ frames := .invoking theMethod args0 :: below }]
def below0 : List Frame := [.native { method := ⟨0, 0⟩, args := #[] }]
def about1 : State := aboutOver below0
def p0 : Program := .bare "" "" ""
def e0 : Env := launch0.env 0 0 0
theorem w_frames : about1.frames = Frame.invoking theMethod args0 :: below0 := rfl
set_option maxRecDepth 65536 in
theorem w_args : argsFit about1.vm theMethod args0 = true := by decide +kernel
set_option maxRecDepth 65536 in
theorem w_heap : heapFits about1 = true := by decide +kernel
set_option maxRecDepth 65536 in
theorem w_runnable : about1.curStatus? = some .runnable := by decide +kernel
set_option maxRecDepth 65536 in
theorem w_alone : about1.alone = true := by decide +kernel
set_option maxRecDepth 65536 in
theorem w_named : about1.methodNamed? x = some theMethod := by decide +kernel
set_option maxRecDepth 65536 in
theorem w_hears : about1.hears theMethod below0 = true := by decide +kernel
set_option maxRecDepth 65536 in
theorem w_ripe : about1.ripe theMethod args0 below0 = true := by decide +kernel
theorem w_running : about1.status = .running := rfl
set_option maxRecDepth 65536 in
theorem w_room : about1.hasRoom e0.platform room_1 = true :=
  launch0.hasRoom_least _ room_1 (by decide +kernel) (by decide +kernel) (by decide +kernel) (by decide +kernel) (by decide +kernel) (by decide +kernel)
theorem allAtoms_all (ts : List Jvm.Cond) (a : Array Jvm.Value) (st : Jvm.State) : (allAtoms ts).before a st = ts.all (fun c => c.before a st) := by
  induction ts with
  | nil => rfl
  | cons c t ih =>
    show (Jvm.Cond.and c (allAtoms t)).before a st = _
    rw [Jvm.Cond.before_and, ih, List.all_cons]
def words1 : List Jvm.Cond := Jvm.Cond.code x code maxLocals ret :: tables_1
/-- a 'code' word, met by the world's own term for the bytes: nothing is compared byte by byte -/
theorem code_word {y : MethodName} {bytes : ByteArray} {mx : Nat} {rt : Option FieldType} {a : Array Value} {s : State} {m : MethodId} {meth : Method} {c : Code} (h1 : s.methodNamed? y = some m) (h2 : s.vm.method? m = some meth) (h3 : meth.code = some c) (h4 : c.code = bytes)
    (h5 : (c.maxLocals == mx && c.exceptionTable.isEmpty && decide (c.maxStack ≤ mostOperands) && decide (meth.sig.returnType = rt) && !meth.locks && decide (parseMethodDescriptor y.desc = some meth.sig)) = true) : (Jvm.Cond.code y bytes mx rt).before a s = true := by
  simp only [Bool.and_eq_true, beq_iff_eq, Bool.not_eq_true', decide_eq_true_eq] at h5
  obtain ⟨⟨⟨⟨⟨g1, g2⟩, g3⟩, g4⟩, g5⟩, g6⟩ := h5
  simp [Cond.before, Cond.holds, Cond.value, h1, h2, h3, h4, g1, g2, g3, g4, g5, g6]
def isCode : Jvm.Cond → Bool
  | .code _ _ _ _ => true
  | _ => false
theorem all_split {L : List Jvm.Cond} {P : Jvm.Cond → Bool} (h1 : L.all (fun c => isCode c || P c) = true) (h2 : ∀ c ∈ L.filter isCode, P c = true) : L.all P = true := by
  refine List.all_eq_true.mpr fun c hc => ?_
  have h := List.all_eq_true.mp h1 c hc
  rcases Bool.eq_false_or_eq_true (isCode c) with hi | hi
  · exact h2 c (List.mem_filter.mpr ⟨hc, hi⟩)
  · simpa [hi] using h
set_option maxRecDepth 65536 in
theorem w_c0 : (Jvm.Cond.code x code maxLocals ret).before args0 about1 = true := code_word (m := ⟨1, 1⟩) (meth := k1m1) (c := k1c1) (by decide +kernel) rfl rfl rfl (by decide +kernel)
set_option maxRecDepth 65536 in
theorem w_c1 : (Jvm.Cond.code ({ cls := "com/example/obturo/obturo/stats/internal/WindowTally", name := "<init>", desc := "()V" } : Jvm.MethodName) prog_84_method_1_code (1 : Nat) (Option.none : Option Jvm.ClassFile.FieldType)).before args0 about1 = true := code_word (m := ⟨2, 0⟩) (meth := k2m0) (c := k2c0) (by decide +kernel) rfl rfl rfl (by decide +kernel)
set_option maxRecDepth 65536 in
theorem w_c2 : (Jvm.Cond.code ({ cls := "java/lang/Object", name := "<init>", desc := "()V" } : Jvm.MethodName) object_method_1_code (1 : Nat) (Option.none : Option Jvm.ClassFile.FieldType)).before args0 about1 = true := code_word (m := ⟨0, 0⟩) (meth := k0m0) (c := k0c0) (by decide +kernel) rfl rfl rfl (by decide +kernel)
set_option maxRecDepth 65536 in
theorem w_c3 : (Jvm.Cond.code ({ cls := "com/example/obturo/obturo/stats/internal/WindowTally", name := "empty", desc := "()Z" } : Jvm.MethodName) prog_84_method_4_code (1 : Nat) (Option.some Jvm.ClassFile.FieldType.boolean)).before args0 about1 = true := code_word (m := ⟨2, 3⟩) (meth := k2m3) (c := k2c3) (by decide +kernel) rfl rfl rfl (by decide +kernel)
set_option maxRecDepth 65536 in
theorem w_c4 : (Jvm.Cond.code ({ cls := "com/example/obturo/obturo/stats/internal/WindowTally", name := "add", desc := "(JJJJJJ)V" } : Jvm.MethodName) prog_84_method_2_code (13 : Nat) (Option.none : Option Jvm.ClassFile.FieldType)).before args0 about1 = true := code_word (m := ⟨2, 1⟩) (meth := k2m1) (c := k2c1) (by decide +kernel) rfl rfl rfl (by decide +kernel)
set_option maxRecDepth 65536 in
theorem w_c5 : (Jvm.Cond.code ({ cls := "java/lang/Math", name := "min", desc := "(JJ)J" } : Jvm.MethodName) jdk_29_method_70_code (4 : Nat) (Option.some Jvm.ClassFile.FieldType.long)).before args0 about1 = true := code_word (m := ⟨3, 1⟩) (meth := k3m1) (c := k3c1) (by decide +kernel) rfl rfl rfl (by decide +kernel)
set_option maxRecDepth 65536 in
theorem w_c6 : (Jvm.Cond.code ({ cls := "com/example/obturo/obturo/stats/internal/WindowTally", name := "addPass", desc := "(J)V" } : Jvm.MethodName) prog_84_method_3_code (3 : Nat) (Option.none : Option Jvm.ClassFile.FieldType)).before args0 about1 = true := code_word (m := ⟨2, 2⟩) (meth := k2m2) (c := k2c2) (by decide +kernel) rfl rfl rfl (by decide +kernel)
def codes1 : List Jvm.Cond := [Jvm.Cond.code x code maxLocals ret, Jvm.Cond.code ({ cls := "com/example/obturo/obturo/stats/internal/WindowTally", name := "<init>", desc := "()V" } : Jvm.MethodName) prog_84_method_1_code (1 : Nat) (Option.none : Option Jvm.ClassFile.FieldType), Jvm.Cond.code ({ cls := "java/lang/Object", name := "<init>", desc := "()V" } : Jvm.MethodName) object_method_1_code (1 : Nat) (Option.none : Option Jvm.ClassFile.FieldType), Jvm.Cond.code ({ cls := "com/example/obturo/obturo/stats/internal/WindowTally", name := "empty", desc := "()Z" } : Jvm.MethodName) prog_84_method_4_code (1 : Nat) (Option.some Jvm.ClassFile.FieldType.boolean), Jvm.Cond.code ({ cls := "com/example/obturo/obturo/stats/internal/WindowTally", name := "add", desc := "(JJJJJJ)V" } : Jvm.MethodName) prog_84_method_2_code (13 : Nat) (Option.none : Option Jvm.ClassFile.FieldType), Jvm.Cond.code ({ cls := "java/lang/Math", name := "min", desc := "(JJ)J" } : Jvm.MethodName) jdk_29_method_70_code (4 : Nat) (Option.some Jvm.ClassFile.FieldType.long), Jvm.Cond.code ({ cls := "com/example/obturo/obturo/stats/internal/WindowTally", name := "addPass", desc := "(J)V" } : Jvm.MethodName) prog_84_method_3_code (3 : Nat) (Option.none : Option Jvm.ClassFile.FieldType)]
set_option maxRecDepth 65536 in
theorem codes_eq : words1.filter isCode = codes1 := rfl
theorem w_codes : ∀ c ∈ words1.filter isCode, c.before args0 about1 = true := by
  rw [codes_eq]
  intro c hc
  simp only [codes1, List.mem_cons, List.not_mem_nil, or_false] at hc
  rcases hc with rfl | rfl | rfl | rfl | rfl | rfl | rfl
  · exact w_c0
  · exact w_c1
  · exact w_c2
  · exact w_c3
  · exact w_c4
  · exact w_c5
  · exact w_c6
set_option maxRecDepth 65536 in
theorem w_t1 : (words1.take 24).all (fun c => isCode c || c.before args0 about1) = true := by decide +kernel
set_option maxRecDepth 65536 in
theorem w_t2 : (words1.drop 24).all (fun c => isCode c || c.before args0 about1) = true := by decide +kernel
theorem w_tables : (allAtoms (Jvm.Cond.code x code maxLocals ret :: tables_1)).before args0 about1 = true := by
  rw [allAtoms_all]
  show words1.all (fun c => c.before args0 about1) = true
  refine all_split ?_ w_codes
  rw [← List.take_append_drop 24 words1, List.all_append, w_t1, w_t2]
  rfl
set_option maxRecDepth 65536 in
theorem w_case : (Jvm.Cond.and given_1 narrow_1).before args0 about1 = true := by decide +kernel
theorem w_applies : (headSpec (Jvm.Cond.code x code maxLocals ret :: tables_1) room_1).applies x e0.platform about1 = true :=
  (Spec.applies_iff w_frames).mpr ⟨w_running, w_runnable, w_alone, w_named, w_hears, w_ripe, w_room, w_tables⟩
theorem atStart : AtStart classFile x code maxLocals ret World_1 tables_1 room_1 Calls_1 rest_1 Pre_1 launch0 p0 e0 about1 theMethod args0 below0 :=
  ⟨lists_1, trivial, launch0.admits_env _ _ _, launch0.least_env, fairChoices_fair.cas, fairChoices_fair.clock, w_frames, w_args, w_heap, w_applies, trivial, trivial, w_case⟩
end start1
theorem witness_1 : WitnessClaimed_1 := ⟨start1.p0, start1.e0, start1.about1, start1.theMethod, start1.args0, start1.below0, start1.atStart⟩
end Jvm.Pilot.@@N@@
