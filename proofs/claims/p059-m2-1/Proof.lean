import JvmDerived
import JvmDerived.Pilot.@@N@@Statement
import JvmDerived.Pilot.@@N@@Code
set_option linter.unusedVariables false
set_option linter.unusedSimpArgs false
@@BLOCK:NumsL.lean.txt@@
namespace Jvm.RoadKit
open Sem ClassFile Op Lib Jvm.Stand Jvm.Free Jvm.LawKit
section New
variable {p : Program} {l : Launch} {e : Env} {R : Room} {s : State} {m : MethodId} {args : Array Value} {below : List Frame} {meth : Method} {c : Code} {T : State} {locs : List Loc} {cells slots : Nat}
theorem retI (X : Stand p l e R s m args below meth c T locs cells slots) (hx : p.tables.exec = Jvm.exec) {pc : Nat} {Ls : Array Slot} {z : Int32} {rest : List Value} (hret : meth.sig.returnType = some .int) (hd : decode c.code pc = .ok (.ireturn, 1)) {fs : List Frame}
    (hl : ∀ (f : JFrame) (acts : List Action), f.method = m → f.locked = none → f.entered = [] → (doReturn e (T.setTop f) acts (some (.int z))).1 = T.setFrames fs) : Steps p.tables e below (T.setTop (mkF m pc Ls (.int z :: rest))) (T.setFrames fs) := by
  have hm' : T.vm.method? m = some meth := X.method'
  have hn : narrow .int (.int z) = .int z := rfl
  show Steps p.tables e below (T.setTop { method := m, pc := pc, locals := Ls, stack := _ :: rest, locked := none }) _
  jvm_step X.here [X.here.top, hx, hd, hm', hret, hn]
  first | (intro acts; rw [hl _ acts rfl rfl rfl]) | rw [hl _ _ rfl rfl rfl]
  exact Steps.refl _
end New
end Jvm.RoadKit
namespace Jvm.Pilot.@@N@@
open Jvm Jvm.ClassFile Sem Op Lib Jvm.Free Jvm.Stand Jvm.LawKit Jvm.RoadKit Bundle Jvm.Pilot.@@N@@.Jvm.D
section Own
variable {p : Program} {l : Launch} {e : Env} {R : Room} {s : State} {m : MethodId} {args : Array Value} {below : List Frame} {meth : Method} {c : Code} {T : State} {locs : List Loc} {cells slots : Nat} {Z : State} {h : Heap} {a : Addr} {k : ClassId} {n : Int32} {vs : List Value} {dv : Value} {ty : FieldType}
theorem own_caload (X : Stand p l e R s m args below meth c T locs cells slots) (hx : p.tables.exec = Jvm.exec) (hZ : Z.Warmed39 s.vm) (eT : T.heap = h) (V : Arv Z h a k .char n vs dv) {j : Int32} {v : Value} (hj : ¬ j < 0 ∧ j < n) (hv : vs.getD j.toNatClampNeg dv = v) {g : JFrame} (hg : g.method = m) {rest : List Value} (hs : g.stack = .int j :: .ref a :: rest) (hd : decode c.code g.pc = .ok (.caload, 1)) :
    ∀ target, Steps p.tables e below (T.setTop { g with pc := g.pc + 1, stack := v :: rest }) target → Steps p.tables e below (T.setTop g) target := by
  obtain ⟨cl, Ar, -, S, -, H, -⟩ := V
  exact X.caload hx (j := j) (v := v) (by rw [eT]; exact Ar.1) (State.isArrayOf_alike hZ.alike Ar.2.1) Ar.2.2 (inb_of S hj) (H.at (inb_of S hj) hv) hg hs hd
theorem own_iaload (X : Stand p l e R s m args below meth c T locs cells slots) (hx : p.tables.exec = Jvm.exec) (hZ : Z.Warmed39 s.vm) (eT : T.heap = h) (V : Arv Z h a k .int n vs dv) {j : Int32} {v : Value} (hj : ¬ j < 0 ∧ j < n) (hv : vs.getD j.toNatClampNeg dv = v) {g : JFrame} (hg : g.method = m) {rest : List Value} (hs : g.stack = .int j :: .ref a :: rest) (hd : decode c.code g.pc = .ok (.iaload, 1)) :
    ∀ target, Steps p.tables e below (T.setTop { g with pc := g.pc + 1, stack := v :: rest }) target → Steps p.tables e below (T.setTop g) target := by
  obtain ⟨cl, Ar, -, S, -, H, -⟩ := V
  exact X.iaload hx (j := j) (v := v) (by rw [eT]; exact Ar.1) (State.isArrayOf_alike hZ.alike Ar.2.1) Ar.2.2 (inb_of S hj) (H.at (inb_of S hj) hv) hg hs hd
theorem own_baload (X : Stand p l e R s m args below meth c T locs cells slots) (hx : p.tables.exec = Jvm.exec) (hZ : Z.Warmed39 s.vm) (eT : T.heap = h) (V : Arv Z h a k .byte n vs dv) {j : Int32} {v : Value} (hj : ¬ j < 0 ∧ j < n) (hv : vs.getD j.toNatClampNeg dv = v) {g : JFrame} (hg : g.method = m) {rest : List Value} (hs : g.stack = .int j :: .ref a :: rest) (hd : decode c.code g.pc = .ok (.baload, 1)) :
    ∀ target, Steps p.tables e below (T.setTop { g with pc := g.pc + 1, stack := v :: rest }) target → Steps p.tables e below (T.setTop g) target := by
  obtain ⟨cl, Ar, -, S, -, H, -⟩ := V
  exact X.baloadBytes hx (j := j) (v := v) (by rw [eT]; exact Ar.1) (State.isArrayOf_alike hZ.alike Ar.2.1) Ar.2.2 (inb_of S hj) (H.at (inb_of S hj) hv) hg hs hd
theorem own_alen (X : Stand p l e R s m args below meth c T locs cells slots) (hx : p.tables.exec = Jvm.exec) (hZ : Z.Warmed39 s.vm) (eT : T.heap = h) (V : Arv Z h a k ty n vs dv) {g : JFrame} (hg : g.method = m) {rest : List Value} (hs : g.stack = .ref a :: rest) (hd : decode c.code g.pc = .ok (.arraylength, 1)) :
    ∀ target, Steps p.tables e below (T.setTop { g with pc := g.pc + 1, stack := .int n :: rest }) target → Steps p.tables e below (T.setTop g) target := by
  obtain ⟨cl, Ar, -, S, N, -, -⟩ := V
  intro target q
  refine X.arraylength hx (by rw [eT]; exact Ar.1) (State.isArrayOf_alike hZ.alike Ar.2.1) hg hs hd target ?_
  rw [len_of S N]; exact q
end Own

def own_prod (o e : Int64) : Int64 := if o = (9223372036854775807 : Int64) then (9223372036854775807 : Int64) else (o - e)
theorem own_max (e : Int64) : own_prod (9223372036854775807 : Int64) e = (9223372036854775807 : Int64) := if_pos rfl
theorem own_max' {o e : Int64} (h : o = (9223372036854775807 : Int64)) : own_prod o e = (9223372036854775807 : Int64) := if_pos h
theorem own_mask (a : Int64) : 0 ≤ (a &&& (9223372036854775807 : Int64)).toInt ∧ (a &&& (9223372036854775807 : Int64)).toInt < 2 ^ 63 := by
  have ea : (a &&& (9223372036854775807 : Int64)).toInt = a.toInt % 2 ^ 63 := Jvm.Kit.i64_mask a _ (k := 63) (by decide) (by decide)
  omega
theorem own_succ {o : Int64} (h0 : 0 ≤ o.toInt) (h : ¬ o = (9223372036854775807 : Int64)) : (o + (1 : Int64)).toInt = o.toInt + 1 := by
  have hM : (9223372036854775807 : Int64).toInt = 9223372036854775807 := by decide
  have h1 : (1 : Int64).toInt = 1 := by decide
  rw [← Int64.toInt_inj, hM] at h
  have := o.toInt_lt
  rw [Jvm.Kit.i64_add (by omega) (by omega), h1]
theorem own_nz {a : Int64} (h : ¬ (a &&& (9223372036854775807 : Int64)) = (9223372036854775807 : Int64)) : ((a &&& (9223372036854775807 : Int64)) + (1 : Int64)) ≠ 0 := by
  have e := own_succ (own_mask a).1 h
  have := (own_mask a).1
  intro q
  rw [q] at e
  have h0 : (0 : Int64).toInt = 0 := by decide
  omega
/-- what the law hands over lies between 0 and o -/
def own_in (o e : Int64) : Prop := 0 ≤ e.toInt ∧ e.toInt ≤ o.toInt
theorem own_in0 (a : Int64) : own_in (a &&& (9223372036854775807 : Int64)) (0 : Int64) := by
  have h1 := (own_mask a).1
  have h0 : (0 : Int64).toInt = 0 := by decide
  unfold own_in; omega
theorem own_in1 (a : Int64) : own_in (a &&& (9223372036854775807 : Int64)) (a &&& (9223372036854775807 : Int64)) := ⟨(own_mask a).1, Int.le_refl _⟩
theorem own_in2 {a b : Int64} (h : ¬ (a &&& (9223372036854775807 : Int64)) = (9223372036854775807 : Int64)) : own_in (a &&& (9223372036854775807 : Int64)) ((b &&& (9223372036854775807 : Int64)) - (b &&& (9223372036854775807 : Int64)) / ((a &&& (9223372036854775807 : Int64)) + (1 : Int64)) * ((a &&& (9223372036854775807 : Int64)) + (1 : Int64))) := by
  have e := own_succ (own_mask a).1 h
  have ha := own_mask a
  have e2 := Jvm.Kit.i64_rem_nonneg (x := (b &&& (9223372036854775807 : Int64))) (y := ((a &&& (9223372036854775807 : Int64)) + (1 : Int64))) (own_mask b).1
  unfold own_in
  rw [e2, e]
  have p : 0 < (a &&& (9223372036854775807 : Int64)).toInt + 1 := by omega
  have q1 := Int.emod_nonneg (b &&& (9223372036854775807 : Int64)).toInt (b := (a &&& (9223372036854775807 : Int64)).toInt + 1) (by omega)
  have q2 := Int.emod_lt_of_pos (b &&& (9223372036854775807 : Int64)).toInt p
  omega
theorem own_all {a e : Int64} (h : ¬ (a &&& (9223372036854775807 : Int64)) = (9223372036854775807 : Int64)) (hi : own_in (a &&& (9223372036854775807 : Int64)) e) : ¬ own_prod (a &&& (9223372036854775807 : Int64)) e < (0 : Int64) ∧ ¬ (a &&& (9223372036854775807 : Int64)) < own_prod (a &&& (9223372036854775807 : Int64)) e ∧ (own_prod (a &&& (9223372036854775807 : Int64)) e + e) = (a &&& (9223372036854775807 : Int64)) := by
  have ha := own_mask a
  obtain ⟨h1, h2⟩ := hi
  have h0 : (0 : Int64).toInt = 0 := by decide
  unfold own_prod
  rw [if_neg h]
  generalize (a &&& (9223372036854775807 : Int64)) = o at *
  have e1 : (o - e).toInt = o.toInt - e.toInt := Jvm.Kit.i64_sub (by omega) (by omega)
  refine ⟨by rw [Int64.lt_iff_toInt_lt]; omega, by rw [Int64.lt_iff_toInt_lt]; omega, ?_⟩
  apply Int64.toInt_inj.mp
  rw [Jvm.Kit.i64_add (by omega) (by omega), e1]; omega
theorem own_some {a b e : Int64} (h : ¬ (a &&& (9223372036854775807 : Int64)) = (9223372036854775807 : Int64)) (q : e = (0 : Int64) ∨ e = (a &&& (9223372036854775807 : Int64)) ∨ e = ((b &&& (9223372036854775807 : Int64)) - (b &&& (9223372036854775807 : Int64)) / ((a &&& (9223372036854775807 : Int64)) + (1 : Int64)) * ((a &&& (9223372036854775807 : Int64)) + (1 : Int64)))) : own_in (a &&& (9223372036854775807 : Int64)) e := by
  rcases q with rfl | rfl | rfl
  · exact own_in0 a
  · exact own_in1 a
  · exact own_in2 h
theorem ef_1 (m : MethodId) (q1 : Int64) (q2 : Int64) : entryFrame m #[(.long q1), (.long q2)] 4 = mkF m 0 #[.val (.long q1), .second, .val (.long q2), .second] [] := by first | (simp [entryFrame, mkF, argsToLocals, Value.category]; done) | rfl
theorem pn_com_example_sluice_Demand : plainName "com/example/sluice/Demand" = true := by first | (simp [plainName, overriddenIn]; done) | decide +kernel
theorem d1_0 : decode prog_15_method_3_code 0 = .ok (.lload_n 0, 1) := by decide +kernel
theorem d1_1 : decode prog_15_method_3_code 1 = .ok (.ldc2_w 9, 3) := by decide +kernel
theorem d1_4 : decode prog_15_method_3_code 4 = .ok (.lcmp, 1) := by decide +kernel
theorem d1_5 : decode prog_15_method_3_code 5 = .ok (.ifCond .ne 9, 3) := by decide +kernel
theorem d1_8 : decode prog_15_method_3_code 8 = .ok (.ldc2_w 9, 3) := by decide +kernel
theorem d1_11 : decode prog_15_method_3_code 11 = .ok (.goto 6, 3) := by decide +kernel
theorem d1_17 : decode prog_15_method_3_code 17 = .ok (.lreturn, 1) := by decide +kernel
theorem d1_14 : decode prog_15_method_3_code 14 = .ok (.lload_n 0, 1) := by decide +kernel
theorem d1_15 : decode prog_15_method_3_code 15 = .ok (.lload_n 2, 1) := by decide +kernel
theorem d1_16 : decode prog_15_method_3_code 16 = .ok (.lsub, 1) := by decide +kernel
def Q1 (Z : State) (q1 : Int64) (q2 : Int64) (h0 : Heap) (n0 : Nat) (v : Option Value) (h : Heap) (L : List Loc) : Prop := v = some (.long (own_prod q1 q2)) ∧ Fr n0 L ∧ h = h0
set_option maxRecDepth 65536 in
set_option maxHeartbeats 40000000 in
theorem rm1 (l : Launch) (Z : State) (a0 : Array Value) (hw : ∀ d ∈ tables_1, d.before a0 Z = true) (ws : List Jvm.Cond) (q1 : Int64) (q2 : Int64) (h0 : Heap) (n0 : Nat) (Z0 : n0 ≤ h0.size) :
    MetFree l (⟨"com/example/sluice/Demand", "produced", "(JJ)J"⟩ : MethodName) (head1 (Jvm.Cond.code (⟨"com/example/sluice/Demand", "produced", "(JJ)J"⟩ : MethodName) prog_15_method_3_code 4 (some .long) :: ws) ({ frames := 0, cells := 0, slots := 0, locals := 0 } : Room)) (fun a U => a = #[(.long q1), (.long q2)] ∧ Z.Warmed39 U.vm ∧ U.heap = h0) (fun _ _ _ _ _ => True) (fun _ U o U' => ∃ v L, o = .returned v ∧ Q1 Z q1 q2 h0 n0 v U'.heap L ∧ FrameEnd U o U' L ({ frames := 0, cells := 0, slots := 0, locals := 0 } : Room).cells ({ frames := 0, cells := 0, slots := 0, locals := 0 } : Room).slots) := by
  refine MetFree.of_bodySF (plainFor_of_name pn_com_example_sluice_Demand) hisR ?_
  intro p e s m args below meth c s₁ Bd hml0 hP hK
  obtain ⟨rfl, hZ, hh⟩ := hP
  have hx := Bd.exec
  have hby := Bd.bytes
  have hml : c.maxLocals = 4 := hml0
  have hown : s.vm.findClass "com/example/sluice/Demand" = some m.cls := findClass_of_methodNamed Bd.named
  have hnm := (name_of_methodNamed Bd.named Bd.method).1
  have X0 : Stand p l e ({ frames := 0, cells := 0, slots := 0, locals := 0 } : Room) s m #[(.long q1), (.long q2)] below meth c s₁ [] 0 0 := Stand.of_body Bd
  have eh0 : s₁.heap = h0 := by rw [← hh, Bd.state]; rfl
  have N0 := Fr.nil n0
  have pre0 : ∀ t, Steps p.tables e below (s₁.setTop (mkF m 0 #[.val (.long q1), .second, .val (.long q2), .second] [])) t → Steps p.tables e below (s₁.setTop (entryFrame m #[(.long q1), (.long q2)] 4)) t := fun t k => castTop (ef_1 m q1 q2) k
  have pre2 : ∀ t, Steps p.tables e below (s₁.setTop (mkF m 5 #[.val (.long q1), .second, .val (.long q2), .second] [(.int (XT.cmpL q1 (9223372036854775807 : Int64)))])) t → Steps p.tables e below (s₁.setTop (entryFrame m #[(.long q1), (.long q2)] 4)) t := fun t k => pre0 t (by
    show Steps p.tables e below (s₁.setTop (mkF m 0 #[.val (.long q1), .second, .val (.long q2), .second] [])) t
    refine XT.lloadN X0.here hx rfl (hb hby d1_0) rfl ?_
    show Steps p.tables e below (s₁.setTop (mkF m 1 #[.val (.long q1), .second, .val (.long q2), .second] [(.long q1)])) t
    refine X0.ldc2Long hx hown (mvT hZ (hw _ (List.mem_of_getElem? (i := 5) rfl))) (g := (mkF m 1 #[.val (.long q1), .second, .val (.long q2), .second] [(.long q1)])) rfl (hb hby d1_1) _ ?_
    show Steps p.tables e below (s₁.setTop (mkF m 4 #[.val (.long q1), .second, .val (.long q2), .second] [(.long (9223372036854775807 : Int64)), (.long q1)])) t
    refine XT.lcmp X0.here hx rfl (hb hby d1_4) rfl ?_
    show Steps p.tables e below (s₁.setTop (mkF m 5 #[.val (.long q1), .second, .val (.long q2), .second] [(.int (XT.cmpL q1 (9223372036854775807 : Int64)))])) t
    exact k)
  by_cases hc5_1 : q1 = (9223372036854775807 : Int64)
  · skip
    have pre3 : ∀ t, Steps p.tables e below (s₁.setTop (mkF m 17 #[.val (.long q1), .second, .val (.long q2), .second] [(.long (9223372036854775807 : Int64))])) t → Steps p.tables e below (s₁.setTop (entryFrame m #[(.long q1), (.long q2)] 4)) t := fun t k => pre2 t (by
      show Steps p.tables e below (s₁.setTop (mkF m 5 #[.val (.long q1), .second, .val (.long q2), .second] [(.int (XT.cmpL q1 (9223372036854775807 : Int64)))])) t
      refine XS.ifNo X0.here hx rfl (hb hby d1_5) rfl (XT.ll_ne_f hc5_1) ?_
      show Steps p.tables e below (s₁.setTop (mkF m 8 #[.val (.long q1), .second, .val (.long q2), .second] [])) t
      refine X0.ldc2Long hx hown (mvT hZ (hw _ (List.mem_of_getElem? (i := 5) rfl))) (g := (mkF m 8 #[.val (.long q1), .second, .val (.long q2), .second] [])) rfl (hb hby d1_8) _ ?_
      show Steps p.tables e below (s₁.setTop (mkF m 11 #[.val (.long q1), .second, .val (.long q2), .second] [(.long (9223372036854775807 : Int64))])) t
      refine XS.goto X0.here hx rfl (pc0 := 11) (pc' := 17) rfl (hb hby d1_11) (by decide) (by decide) ?_
      show Steps p.tables e below (s₁.setTop (mkF m 17 #[.val (.long q1), .second, .val (.long q2), .second] [(.long (9223372036854775807 : Int64))])) t
      exact k)
    obtain ⟨fs, hr, hrun, hended, hW, hsame⟩ := X0.leave (v := some (.long (9223372036854775807 : Int64))) (fun h => by rw [Bd.returns] at h; cases h)
    refine ⟨_, _, pre3 _ ?_, hrun, hended, _, _, rfl, ?_, ⟨_, rfl⟩, hW, hsame.mono (by decide) (by decide)⟩
    · show Steps p.tables e below (s₁.setTop (mkF m 17 #[.val (.long q1), .second, .val (.long q2), .second] [(.long (9223372036854775807 : Int64))])) _
      jvm_step X0.here [X0.here.top, hx, (hb hby d1_17), X0.method', Bd.returns, narrow]
      first | (intro acts; rw [hr _ acts rfl rfl rfl]) | rw [hr _ _ rfl rfl rfl]
      exact Steps.refl _
    · show Q1 Z q1 q2 h0 n0 _ s₁.heap _
      rw [eh0]
      exact ⟨(congrArg (fun z => some (Value.long z)) (show (9223372036854775807 : Int64) = (own_prod q1 q2) from (by simp only [own_prod, if_pos hc5_1]))), N0, rfl⟩
  · skip
    have pre4 : ∀ t, Steps p.tables e below (s₁.setTop (mkF m 17 #[.val (.long q1), .second, .val (.long q2), .second] [(.long (q1 - q2))])) t → Steps p.tables e below (s₁.setTop (entryFrame m #[(.long q1), (.long q2)] 4)) t := fun t k => pre2 t (by
      show Steps p.tables e below (s₁.setTop (mkF m 5 #[.val (.long q1), .second, .val (.long q2), .second] [(.int (XT.cmpL q1 (9223372036854775807 : Int64)))])) t
      refine XS.ifYes X0.here hx rfl (pc0 := 5) (pc' := 14) rfl (hb hby d1_5) rfl (XT.ll_ne_t hc5_1) (by decide) (by decide) ?_
      show Steps p.tables e below (s₁.setTop (mkF m 14 #[.val (.long q1), .second, .val (.long q2), .second] [])) t
      refine XT.lloadN X0.here hx rfl (hb hby d1_14) rfl ?_
      show Steps p.tables e below (s₁.setTop (mkF m 15 #[.val (.long q1), .second, .val (.long q2), .second] [(.long q1)])) t
      refine XT.lloadN X0.here hx rfl (hb hby d1_15) rfl ?_
      show Steps p.tables e below (s₁.setTop (mkF m 16 #[.val (.long q1), .second, .val (.long q2), .second] [(.long q2), (.long q1)])) t
      refine XT.lsub X0.here hx rfl (hb hby d1_16) rfl ?_
      show Steps p.tables e below (s₁.setTop (mkF m 17 #[.val (.long q1), .second, .val (.long q2), .second] [(.long (q1 - q2))])) t
      exact k)
    obtain ⟨fs, hr, hrun, hended, hW, hsame⟩ := X0.leave (v := some (.long (q1 - q2))) (fun h => by rw [Bd.returns] at h; cases h)
    refine ⟨_, _, pre4 _ ?_, hrun, hended, _, _, rfl, ?_, ⟨_, rfl⟩, hW, hsame.mono (by decide) (by decide)⟩
    · show Steps p.tables e below (s₁.setTop (mkF m 17 #[.val (.long q1), .second, .val (.long q2), .second] [(.long (q1 - q2))])) _
      jvm_step X0.here [X0.here.top, hx, (hb hby d1_17), X0.method', Bd.returns, narrow]
      first | (intro acts; rw [hr _ acts rfl rfl rfl]) | rw [hr _ _ rfl rfl rfl]
      exact Steps.refl _
    · show Q1 Z q1 q2 h0 n0 _ s₁.heap _
      rw [eh0]
      exact ⟨(congrArg (fun z => some (Value.long z)) (show (q1 - q2) = (own_prod q1 q2) from (by simp only [own_prod, if_neg hc5_1]))), N0, rfl⟩
theorem ef_0 (m : MethodId) (q1 : Int64) (q2 : Int64) (p3 : Int32) : entryFrame m #[(.long q1), (.long q2), (.int p3)] maxLocals = mkF m 0 #[.val (.long q1), .second, .val (.long q2), .second, .val (.int p3), .unset, .unset, .unset, .unset, .unset, .unset, .unset] [] := by first | (simp [entryFrame, mkF, argsToLocals, Value.category, maxLocals]; done) | rfl
theorem pn_com_example_sluice_DemandProducedPinLaw : plainName "com/example/sluice/DemandProducedPinLaw" = true := by first | (simp [plainName, overriddenIn]; done) | decide +kernel
theorem pd_oJJcJ : parseMethodDescriptor "(JJ)J" = some ⟨[.long, .long], some .long⟩ := by decide +kernel
def Q0 (Z : State) (q1 : Int64) (q2 : Int64) (p3 : Int32) (h0 : Heap) (n0 : Nat) (v : Option Value) (h : Heap) (L : List Loc) : Prop := v = some (.int (1 : Int32)) ∧ Fr n0 L
set_option maxRecDepth 65536 in
set_option maxHeartbeats 40000000 in
theorem rm0 (l : Launch) (Z : State) (a0 : Array Value) (hw : ∀ d ∈ tables_1, d.before a0 Z = true) (ws : List Jvm.Cond) (q1 : Int64) (q2 : Int64) (p3 : Int32) (h0 : Heap) (n0 : Nat) (Z0 : n0 ≤ h0.size) :
    MetFree l x (head1 (Jvm.Cond.code x code maxLocals ret :: ws) room_1) (fun a U => a = #[(.long q1), (.long q2), (.int p3)] ∧ Z.Warmed39 U.vm ∧ U.heap = h0) (fun _ _ _ _ _ => True) (fun _ U o U' => ∃ v L, o = .returned v ∧ Q0 Z q1 q2 p3 h0 n0 v U'.heap L ∧ FrameEnd U o U' L room_1.cells room_1.slots) := by
  refine MetFree.of_bodySF (plainFor_of_name pn_com_example_sluice_DemandProducedPinLaw) hisR ?_
  intro p e s m args below meth c s₁ Bd hml0 hP hK
  obtain ⟨rfl, hZ, hh⟩ := hP
  have hx := Bd.exec
  have hby := Bd.bytes
  have hml : c.maxLocals = 12 := hml0
  have hown : s.vm.findClass "com/example/sluice/DemandProducedPinLaw" = some m.cls := findClass_of_methodNamed Bd.named
  have hnm := (name_of_methodNamed Bd.named Bd.method).1
  have X0 : Stand p l e room_1 s m #[(.long q1), (.long q2), (.int p3)] below meth c s₁ [] 0 0 := Stand.of_body Bd
  have eh0 : s₁.heap = h0 := by rw [← hh, Bd.state]; rfl
  have N0 := Fr.nil n0
  have pre0 : ∀ t, Steps p.tables e below (s₁.setTop (mkF m 0 #[.val (.long q1), .second, .val (.long q2), .second, .val (.int p3), .unset, .unset, .unset, .unset, .unset, .unset, .unset] [])) t → Steps p.tables e below (s₁.setTop (entryFrame m #[(.long q1), (.long q2), (.int p3)] maxLocals)) t := fun t k => castTop (ef_0 m q1 q2 p3) k
  have pre2 : ∀ t, Steps p.tables e below (s₁.setTop (mkF m 4 #[.val (.long q1), .second, .val (.long q2), .second, .val (.int p3), .unset, .unset, .unset, .unset, .unset, .unset, .unset] [(.int (p3 &&& (3 : Int32)))])) t → Steps p.tables e below (s₁.setTop (entryFrame m #[(.long q1), (.long q2), (.int p3)] maxLocals)) t := fun t k => pre0 t (by
    show Steps p.tables e below (s₁.setTop (mkF m 0 #[.val (.long q1), .second, .val (.long q2), .second, .val (.int p3), .unset, .unset, .unset, .unset, .unset, .unset, .unset] [])) t
    refine XS.iload X0.here hx rfl (hb hby at_0) rfl ?_
    show Steps p.tables e below (s₁.setTop (mkF m 2 #[.val (.long q1), .second, .val (.long q2), .second, .val (.int p3), .unset, .unset, .unset, .unset, .unset, .unset, .unset] [(.int p3)])) t
    refine XS.iconst X0.here hx rfl (hb hby at_2) ?_
    show Steps p.tables e below (s₁.setTop (mkF m 3 #[.val (.long q1), .second, .val (.long q2), .second, .val (.int p3), .unset, .unset, .unset, .unset, .unset, .unset, .unset] [(.int (3 : Int32)), (.int p3)])) t
    refine XS.iand X0.here hx rfl (hb hby at_3) rfl ?_
    show Steps p.tables e below (s₁.setTop (mkF m 4 #[.val (.long q1), .second, .val (.long q2), .second, .val (.int p3), .unset, .unset, .unset, .unset, .unset, .unset, .unset] [(.int (p3 &&& (3 : Int32)))])) t
    exact k)
  by_cases hc4_1 : (p3 &&& (3 : Int32)) = (0 : Int32)
  · skip
    have pre4 : ∀ t, Steps p.tables e below (s₁.setTop (mkF m 32 #[.val (.long q1), .second, .val (.long q2), .second, .val (.int p3), .val (.long (9223372036854775807 : Int64)), .second, .unset, .unset, .val (.int ((XT.ushr p3 (2 : Int32)) &&& (3 : Int32))), .unset, .unset] [(.int ((XT.ushr p3 (2 : Int32)) &&& (3 : Int32)))])) t → Steps p.tables e below (s₁.setTop (entryFrame m #[(.long q1), (.long q2), (.int p3)] maxLocals)) t := fun t k => pre2 t (by
      show Steps p.tables e below (s₁.setTop (mkF m 4 #[.val (.long q1), .second, .val (.long q2), .second, .val (.int p3), .unset, .unset, .unset, .unset, .unset, .unset, .unset] [(.int (p3 &&& (3 : Int32)))])) t
      refine XS.ifNo X0.here hx rfl (hb hby at_4) rfl (XT.i0_ne_f hc4_1) ?_
      show Steps p.tables e below (s₁.setTop (mkF m 7 #[.val (.long q1), .second, .val (.long q2), .second, .val (.int p3), .unset, .unset, .unset, .unset, .unset, .unset, .unset] [])) t
      refine X0.ldc2Long hx hown (mvT hZ (hw _ (List.mem_of_getElem? (i := 0) rfl))) (g := (mkF m 7 #[.val (.long q1), .second, .val (.long q2), .second, .val (.int p3), .unset, .unset, .unset, .unset, .unset, .unset, .unset] [])) rfl (hb hby at_7) _ ?_
      show Steps p.tables e below (s₁.setTop (mkF m 10 #[.val (.long q1), .second, .val (.long q2), .second, .val (.int p3), .unset, .unset, .unset, .unset, .unset, .unset, .unset] [(.long (9223372036854775807 : Int64))])) t
      refine XT.lstore X0.here hx rfl (hb hby at_10) rfl (l' := #[.val (.long q1), .second, .val (.long q2), .second, .val (.int p3), .val (.long (9223372036854775807 : Int64)), .second, .unset, .unset, .unset, .unset, .unset]) rfl ?_
      show Steps p.tables e below (s₁.setTop (mkF m 12 #[.val (.long q1), .second, .val (.long q2), .second, .val (.int p3), .val (.long (9223372036854775807 : Int64)), .second, .unset, .unset, .unset, .unset, .unset] [])) t
      refine XS.goto X0.here hx rfl (pc0 := 12) (pc' := 22) rfl (hb hby at_12) (by decide) (by decide) ?_
      show Steps p.tables e below (s₁.setTop (mkF m 22 #[.val (.long q1), .second, .val (.long q2), .second, .val (.int p3), .val (.long (9223372036854775807 : Int64)), .second, .unset, .unset, .unset, .unset, .unset] [])) t
      refine XS.iload X0.here hx rfl (hb hby at_22) rfl ?_
      show Steps p.tables e below (s₁.setTop (mkF m 24 #[.val (.long q1), .second, .val (.long q2), .second, .val (.int p3), .val (.long (9223372036854775807 : Int64)), .second, .unset, .unset, .unset, .unset, .unset] [(.int p3)])) t
      refine XS.iconst X0.here hx rfl (hb hby at_24) ?_
      show Steps p.tables e below (s₁.setTop (mkF m 25 #[.val (.long q1), .second, .val (.long q2), .second, .val (.int p3), .val (.long (9223372036854775807 : Int64)), .second, .unset, .unset, .unset, .unset, .unset] [(.int (2 : Int32)), (.int p3)])) t
      refine XT.iushr X0.here hx rfl (hb hby at_25) rfl ?_
      show Steps p.tables e below (s₁.setTop (mkF m 26 #[.val (.long q1), .second, .val (.long q2), .second, .val (.int p3), .val (.long (9223372036854775807 : Int64)), .second, .unset, .unset, .unset, .unset, .unset] [(.int (XT.ushr p3 (2 : Int32)))])) t
      refine XS.iconst X0.here hx rfl (hb hby at_26) ?_
      show Steps p.tables e below (s₁.setTop (mkF m 27 #[.val (.long q1), .second, .val (.long q2), .second, .val (.int p3), .val (.long (9223372036854775807 : Int64)), .second, .unset, .unset, .unset, .unset, .unset] [(.int (3 : Int32)), (.int (XT.ushr p3 (2 : Int32)))])) t
      refine XS.iand X0.here hx rfl (hb hby at_27) rfl ?_
      show Steps p.tables e below (s₁.setTop (mkF m 28 #[.val (.long q1), .second, .val (.long q2), .second, .val (.int p3), .val (.long (9223372036854775807 : Int64)), .second, .unset, .unset, .unset, .unset, .unset] [(.int ((XT.ushr p3 (2 : Int32)) &&& (3 : Int32)))])) t
      refine XS.istore X0.here hx rfl (hb hby at_28) rfl (l' := #[.val (.long q1), .second, .val (.long q2), .second, .val (.int p3), .val (.long (9223372036854775807 : Int64)), .second, .unset, .unset, .val (.int ((XT.ushr p3 (2 : Int32)) &&& (3 : Int32))), .unset, .unset]) rfl ?_
      show Steps p.tables e below (s₁.setTop (mkF m 30 #[.val (.long q1), .second, .val (.long q2), .second, .val (.int p3), .val (.long (9223372036854775807 : Int64)), .second, .unset, .unset, .val (.int ((XT.ushr p3 (2 : Int32)) &&& (3 : Int32))), .unset, .unset] [])) t
      refine XS.iload X0.here hx rfl (hb hby at_30) rfl ?_
      show Steps p.tables e below (s₁.setTop (mkF m 32 #[.val (.long q1), .second, .val (.long q2), .second, .val (.int p3), .val (.long (9223372036854775807 : Int64)), .second, .unset, .unset, .val (.int ((XT.ushr p3 (2 : Int32)) &&& (3 : Int32))), .unset, .unset] [(.int ((XT.ushr p3 (2 : Int32)) &&& (3 : Int32)))])) t
      exact k)
    by_cases hc32_3 : ((XT.ushr p3 (2 : Int32)) &&& (3 : Int32)) = (0 : Int32)
    · skip
      have pre5 : ∀ t, Steps p.tables e below (s₁.setTop (mkF m 89 #[.val (.long q1), .second, .val (.long q2), .second, .val (.int p3), .val (.long (9223372036854775807 : Int64)), .second, .val (.long (0 : Int64)), .second, .val (.int ((XT.ushr p3 (2 : Int32)) &&& (3 : Int32))), .unset, .unset] [(.long (0 : Int64)), (.long (9223372036854775807 : Int64))])) t → Steps p.tables e below (s₁.setTop (entryFrame m #[(.long q1), (.long q2), (.int p3)] maxLocals)) t := fun t k => pre4 t (by
        show Steps p.tables e below (s₁.setTop (mkF m 32 #[.val (.long q1), .second, .val (.long q2), .second, .val (.int p3), .val (.long (9223372036854775807 : Int64)), .second, .unset, .unset, .val (.int ((XT.ushr p3 (2 : Int32)) &&& (3 : Int32))), .unset, .unset] [(.int ((XT.ushr p3 (2 : Int32)) &&& (3 : Int32)))])) t
        refine XS.ifNo X0.here hx rfl (hb hby at_32) rfl (XT.i0_ne_f hc32_3) ?_
        show Steps p.tables e below (s₁.setTop (mkF m 35 #[.val (.long q1), .second, .val (.long q2), .second, .val (.int p3), .val (.long (9223372036854775807 : Int64)), .second, .unset, .unset, .val (.int ((XT.ushr p3 (2 : Int32)) &&& (3 : Int32))), .unset, .unset] [])) t
        refine XT.lconstV X0.here hx rfl (0 : Int64) (hb hby at_35) (by decide) ?_
        show Steps p.tables e below (s₁.setTop (mkF m 36 #[.val (.long q1), .second, .val (.long q2), .second, .val (.int p3), .val (.long (9223372036854775807 : Int64)), .second, .unset, .unset, .val (.int ((XT.ushr p3 (2 : Int32)) &&& (3 : Int32))), .unset, .unset] [(.long (0 : Int64))])) t
        refine XT.lstore X0.here hx rfl (hb hby at_36) rfl (l' := #[.val (.long q1), .second, .val (.long q2), .second, .val (.int p3), .val (.long (9223372036854775807 : Int64)), .second, .val (.long (0 : Int64)), .second, .val (.int ((XT.ushr p3 (2 : Int32)) &&& (3 : Int32))), .unset, .unset]) rfl ?_
        show Steps p.tables e below (s₁.setTop (mkF m 38 #[.val (.long q1), .second, .val (.long q2), .second, .val (.int p3), .val (.long (9223372036854775807 : Int64)), .second, .val (.long (0 : Int64)), .second, .val (.int ((XT.ushr p3 (2 : Int32)) &&& (3 : Int32))), .unset, .unset] [])) t
        refine XS.goto X0.here hx rfl (pc0 := 38) (pc' := 85) rfl (hb hby at_38) (by decide) (by decide) ?_
        show Steps p.tables e below (s₁.setTop (mkF m 85 #[.val (.long q1), .second, .val (.long q2), .second, .val (.int p3), .val (.long (9223372036854775807 : Int64)), .second, .val (.long (0 : Int64)), .second, .val (.int ((XT.ushr p3 (2 : Int32)) &&& (3 : Int32))), .unset, .unset] [])) t
        refine XT.lload X0.here hx rfl (hb hby at_85) rfl ?_
        show Steps p.tables e below (s₁.setTop (mkF m 87 #[.val (.long q1), .second, .val (.long q2), .second, .val (.int p3), .val (.long (9223372036854775807 : Int64)), .second, .val (.long (0 : Int64)), .second, .val (.int ((XT.ushr p3 (2 : Int32)) &&& (3 : Int32))), .unset, .unset] [(.long (9223372036854775807 : Int64))])) t
        refine XT.lload X0.here hx rfl (hb hby at_87) rfl ?_
        show Steps p.tables e below (s₁.setTop (mkF m 89 #[.val (.long q1), .second, .val (.long q2), .second, .val (.int p3), .val (.long (9223372036854775807 : Int64)), .second, .val (.long (0 : Int64)), .second, .val (.int ((XT.ushr p3 (2 : Int32)) &&& (3 : Int32))), .unset, .unset] [(.long (0 : Int64)), (.long (9223372036854775807 : Int64))])) t
        exact k)
      obtain ⟨_, _, ⟨T6, L6, k6, n6⟩, -, X6, ⟨Lc6, hQ6, l6, y6, z6⟩, st6⟩ := Jvm.LawKit.callS X0 hx (y := (⟨"com/example/sluice/Demand", "produced", "(JJ)J"⟩ : MethodName)) hown (mvT hZ (hw _ (List.mem_of_getElem? (i := 1) rfl))) (mvT hZ (hw _ (List.mem_of_getElem? (i := 2) rfl))) (mvT hZ (hw _ (List.mem_of_getElem? (i := 3) rfl))) (mvT hZ (hw _ (List.mem_of_getElem? (i := 4) rfl))) (by decide) (backOf (W := 0) (rm1 l Z a0 hw [] (9223372036854775807 : Int64) (0 : Int64) h0 n0 Z0 ) hZ (hw _ (List.mem_of_getElem? (i := 4) rfl)) (hw _ (List.mem_of_getElem? (i := 3) rfl)) (by decide) (by decide)) (g := (mkF m 89 #[.val (.long q1), .second, .val (.long q2), .second, .val (.int p3), .val (.long (9223372036854775807 : Int64)), .second, .val (.long (0 : Int64)), .second, .val (.int ((XT.ushr p3 (2 : Int32)) &&& (3 : Int32))), .unset, .unset] [(.long (0 : Int64)), (.long (9223372036854775807 : Int64))])) rfl (by rw [hml]; rfl) (argsL := [(.long (9223372036854775807 : Int64)), (.long (0 : Int64))]) (rest := []) (lenOf pd_oJJcJ rfl) rfl (by show 2 * 0 + _ ≤ _; exact Nat.le_of_eq rfl) (hb hby at_89) (fun _ _ => ⟨rfl, eh0, (by decide : 0 + 0 ≤ _), (by decide : 0 + 0 ≤ _)⟩)
      dsimp only [Pt.U, Pt.locs, Pt.cells, Pt.slots] at X6 l6 y6 z6 st6 hQ6
      subst l6 y6 z6
      obtain ⟨rfl, N6q, eh6⟩ := hQ6
      have N6 := Fr.app N0 N6q
      have pre7 : ∀ t, Steps p.tables e below (T6.setTop (mkF m 92 #[.val (.long q1), .second, .val (.long q2), .second, .val (.int p3), .val (.long (9223372036854775807 : Int64)), .second, .val (.long (0 : Int64)), .second, .val (.int ((XT.ushr p3 (2 : Int32)) &&& (3 : Int32))), .unset, .unset] [(.long (own_prod (9223372036854775807 : Int64) (0 : Int64)))])) t → Steps p.tables e below (s₁.setTop (entryFrame m #[(.long q1), (.long q2), (.int p3)] maxLocals)) t := fun t k => pre5 t (st6 _ k)
      have pre10 : ∀ t, Steps p.tables e below (T6.setTop (mkF m 117 #[.val (.long q1), .second, .val (.long q2), .second, .val (.int p3), .val (.long (9223372036854775807 : Int64)), .second, .val (.long (0 : Int64)), .second, .val (.int ((XT.ushr p3 (2 : Int32)) &&& (3 : Int32))), .val (.long (own_prod (9223372036854775807 : Int64) (0 : Int64))), .second] [(.int (1 : Int32))])) t → Steps p.tables e below (s₁.setTop (entryFrame m #[(.long q1), (.long q2), (.int p3)] maxLocals)) t := fun t k => pre7 t (by
        show Steps p.tables e below (T6.setTop (mkF m 92 #[.val (.long q1), .second, .val (.long q2), .second, .val (.int p3), .val (.long (9223372036854775807 : Int64)), .second, .val (.long (0 : Int64)), .second, .val (.int ((XT.ushr p3 (2 : Int32)) &&& (3 : Int32))), .unset, .unset] [(.long (own_prod (9223372036854775807 : Int64) (0 : Int64)))])) t
        refine XT.lstore X6.here hx rfl (hb hby at_92) rfl (l' := #[.val (.long q1), .second, .val (.long q2), .second, .val (.int p3), .val (.long (9223372036854775807 : Int64)), .second, .val (.long (0 : Int64)), .second, .val (.int ((XT.ushr p3 (2 : Int32)) &&& (3 : Int32))), .val (.long (own_prod (9223372036854775807 : Int64) (0 : Int64))), .second]) rfl ?_
        show Steps p.tables e below (T6.setTop (mkF m 94 #[.val (.long q1), .second, .val (.long q2), .second, .val (.int p3), .val (.long (9223372036854775807 : Int64)), .second, .val (.long (0 : Int64)), .second, .val (.int ((XT.ushr p3 (2 : Int32)) &&& (3 : Int32))), .val (.long (own_prod (9223372036854775807 : Int64) (0 : Int64))), .second] [])) t
        refine XT.lload X6.here hx rfl (hb hby at_94) rfl ?_
        show Steps p.tables e below (T6.setTop (mkF m 96 #[.val (.long q1), .second, .val (.long q2), .second, .val (.int p3), .val (.long (9223372036854775807 : Int64)), .second, .val (.long (0 : Int64)), .second, .val (.int ((XT.ushr p3 (2 : Int32)) &&& (3 : Int32))), .val (.long (own_prod (9223372036854775807 : Int64) (0 : Int64))), .second] [(.long (9223372036854775807 : Int64))])) t
        refine X6.ldc2Long hx hown (mvT hZ (hw _ (List.mem_of_getElem? (i := 0) rfl))) (g := (mkF m 96 #[.val (.long q1), .second, .val (.long q2), .second, .val (.int p3), .val (.long (9223372036854775807 : Int64)), .second, .val (.long (0 : Int64)), .second, .val (.int ((XT.ushr p3 (2 : Int32)) &&& (3 : Int32))), .val (.long (own_prod (9223372036854775807 : Int64) (0 : Int64))), .second] [(.long (9223372036854775807 : Int64))])) rfl (hb hby at_96) _ ?_
        show Steps p.tables e below (T6.setTop (mkF m 99 #[.val (.long q1), .second, .val (.long q2), .second, .val (.int p3), .val (.long (9223372036854775807 : Int64)), .second, .val (.long (0 : Int64)), .second, .val (.int ((XT.ushr p3 (2 : Int32)) &&& (3 : Int32))), .val (.long (own_prod (9223372036854775807 : Int64) (0 : Int64))), .second] [(.long (9223372036854775807 : Int64)), (.long (9223372036854775807 : Int64))])) t
        refine XT.lcmp X6.here hx rfl (hb hby at_99) rfl ?_
        show Steps p.tables e below (T6.setTop (mkF m 100 #[.val (.long q1), .second, .val (.long q2), .second, .val (.int p3), .val (.long (9223372036854775807 : Int64)), .second, .val (.long (0 : Int64)), .second, .val (.int ((XT.ushr p3 (2 : Int32)) &&& (3 : Int32))), .val (.long (own_prod (9223372036854775807 : Int64) (0 : Int64))), .second] [(.int (XT.cmpL (9223372036854775807 : Int64) (9223372036854775807 : Int64)))])) t
        refine XS.ifNo X6.here hx rfl (hb hby at_100) rfl (XT.ll_ne_f (show (9223372036854775807 : Int64) = (9223372036854775807 : Int64) from by decide)) ?_
        show Steps p.tables e below (T6.setTop (mkF m 103 #[.val (.long q1), .second, .val (.long q2), .second, .val (.int p3), .val (.long (9223372036854775807 : Int64)), .second, .val (.long (0 : Int64)), .second, .val (.int ((XT.ushr p3 (2 : Int32)) &&& (3 : Int32))), .val (.long (own_prod (9223372036854775807 : Int64) (0 : Int64))), .second] [])) t
        refine XT.lload X6.here hx rfl (hb hby at_103) rfl ?_
        show Steps p.tables e below (T6.setTop (mkF m 105 #[.val (.long q1), .second, .val (.long q2), .second, .val (.int p3), .val (.long (9223372036854775807 : Int64)), .second, .val (.long (0 : Int64)), .second, .val (.int ((XT.ushr p3 (2 : Int32)) &&& (3 : Int32))), .val (.long (own_prod (9223372036854775807 : Int64) (0 : Int64))), .second] [(.long (own_prod (9223372036854775807 : Int64) (0 : Int64)))])) t
        refine X6.ldc2Long hx hown (mvT hZ (hw _ (List.mem_of_getElem? (i := 0) rfl))) (g := (mkF m 105 #[.val (.long q1), .second, .val (.long q2), .second, .val (.int p3), .val (.long (9223372036854775807 : Int64)), .second, .val (.long (0 : Int64)), .second, .val (.int ((XT.ushr p3 (2 : Int32)) &&& (3 : Int32))), .val (.long (own_prod (9223372036854775807 : Int64) (0 : Int64))), .second] [(.long (own_prod (9223372036854775807 : Int64) (0 : Int64)))])) rfl (hb hby at_105) _ ?_
        show Steps p.tables e below (T6.setTop (mkF m 108 #[.val (.long q1), .second, .val (.long q2), .second, .val (.int p3), .val (.long (9223372036854775807 : Int64)), .second, .val (.long (0 : Int64)), .second, .val (.int ((XT.ushr p3 (2 : Int32)) &&& (3 : Int32))), .val (.long (own_prod (9223372036854775807 : Int64) (0 : Int64))), .second] [(.long (9223372036854775807 : Int64)), (.long (own_prod (9223372036854775807 : Int64) (0 : Int64)))])) t
        refine XT.lcmp X6.here hx rfl (hb hby at_108) rfl ?_
        show Steps p.tables e below (T6.setTop (mkF m 109 #[.val (.long q1), .second, .val (.long q2), .second, .val (.int p3), .val (.long (9223372036854775807 : Int64)), .second, .val (.long (0 : Int64)), .second, .val (.int ((XT.ushr p3 (2 : Int32)) &&& (3 : Int32))), .val (.long (own_prod (9223372036854775807 : Int64) (0 : Int64))), .second] [(.int (XT.cmpL (own_prod (9223372036854775807 : Int64) (0 : Int64)) (9223372036854775807 : Int64)))])) t
        refine XS.ifNo X6.here hx rfl (hb hby at_109) rfl (XT.ll_ne_f (show (own_prod (9223372036854775807 : Int64) (0 : Int64)) = (9223372036854775807 : Int64) from by first | exact own_max _ | exact own_max' (by assumption))) ?_
        show Steps p.tables e below (T6.setTop (mkF m 112 #[.val (.long q1), .second, .val (.long q2), .second, .val (.int p3), .val (.long (9223372036854775807 : Int64)), .second, .val (.long (0 : Int64)), .second, .val (.int ((XT.ushr p3 (2 : Int32)) &&& (3 : Int32))), .val (.long (own_prod (9223372036854775807 : Int64) (0 : Int64))), .second] [])) t
        refine XS.iconst X6.here hx rfl (hb hby at_112) ?_
        show Steps p.tables e below (T6.setTop (mkF m 113 #[.val (.long q1), .second, .val (.long q2), .second, .val (.int p3), .val (.long (9223372036854775807 : Int64)), .second, .val (.long (0 : Int64)), .second, .val (.int ((XT.ushr p3 (2 : Int32)) &&& (3 : Int32))), .val (.long (own_prod (9223372036854775807 : Int64) (0 : Int64))), .second] [(.int (1 : Int32))])) t
        refine XS.goto X6.here hx rfl (pc0 := 113) (pc' := 117) rfl (hb hby at_113) (by decide) (by decide) ?_
        show Steps p.tables e below (T6.setTop (mkF m 117 #[.val (.long q1), .second, .val (.long q2), .second, .val (.int p3), .val (.long (9223372036854775807 : Int64)), .second, .val (.long (0 : Int64)), .second, .val (.int ((XT.ushr p3 (2 : Int32)) &&& (3 : Int32))), .val (.long (own_prod (9223372036854775807 : Int64) (0 : Int64))), .second] [(.int (1 : Int32))])) t
        exact k)
      obtain ⟨fs, hr, hrun, hended, hW, hsame⟩ := X6.leave (v := some (.int (1 : Int32))) (fun h => by rw [Bd.returns] at h; cases h)
      refine ⟨_, _, pre10 _ ?_, hrun, hended, _, _, rfl, ?_, ⟨_, rfl⟩, hW, hsame.mono (by decide) (by decide)⟩
      · show Steps p.tables e below (T6.setTop (mkF m 117 #[.val (.long q1), .second, .val (.long q2), .second, .val (.int p3), .val (.long (9223372036854775807 : Int64)), .second, .val (.long (0 : Int64)), .second, .val (.int ((XT.ushr p3 (2 : Int32)) &&& (3 : Int32))), .val (.long (own_prod (9223372036854775807 : Int64) (0 : Int64))), .second] [(.int (1 : Int32))])) _
        exact retN X6 hx (t := .boolean) Bd.returns (by simp) (hb hby at_117) hr
      · show Q0 Z q1 q2 p3 h0 n0 _ T6.heap _
        rw [eh6]
        exact ⟨rfl, N6⟩
    · skip
      have pre12 : ∀ t, Steps p.tables e below (s₁.setTop (mkF m 44 #[.val (.long q1), .second, .val (.long q2), .second, .val (.int p3), .val (.long (9223372036854775807 : Int64)), .second, .unset, .unset, .val (.int ((XT.ushr p3 (2 : Int32)) &&& (3 : Int32))), .unset, .unset] [(.int (1 : Int32)), (.int ((XT.ushr p3 (2 : Int32)) &&& (3 : Int32)))])) t → Steps p.tables e below (s₁.setTop (entryFrame m #[(.long q1), (.long q2), (.int p3)] maxLocals)) t := fun t k => pre4 t (by
        show Steps p.tables e below (s₁.setTop (mkF m 32 #[.val (.long q1), .second, .val (.long q2), .second, .val (.int p3), .val (.long (9223372036854775807 : Int64)), .second, .unset, .unset, .val (.int ((XT.ushr p3 (2 : Int32)) &&& (3 : Int32))), .unset, .unset] [(.int ((XT.ushr p3 (2 : Int32)) &&& (3 : Int32)))])) t
        refine XS.ifYes X0.here hx rfl (pc0 := 32) (pc' := 41) rfl (hb hby at_32) rfl (XT.i0_ne_t hc32_3) (by decide) (by decide) ?_
        show Steps p.tables e below (s₁.setTop (mkF m 41 #[.val (.long q1), .second, .val (.long q2), .second, .val (.int p3), .val (.long (9223372036854775807 : Int64)), .second, .unset, .unset, .val (.int ((XT.ushr p3 (2 : Int32)) &&& (3 : Int32))), .unset, .unset] [])) t
        refine XS.iload X0.here hx rfl (hb hby at_41) rfl ?_
        show Steps p.tables e below (s₁.setTop (mkF m 43 #[.val (.long q1), .second, .val (.long q2), .second, .val (.int p3), .val (.long (9223372036854775807 : Int64)), .second, .unset, .unset, .val (.int ((XT.ushr p3 (2 : Int32)) &&& (3 : Int32))), .unset, .unset] [(.int ((XT.ushr p3 (2 : Int32)) &&& (3 : Int32)))])) t
        refine XS.iconst X0.here hx rfl (hb hby at_43) ?_
        show Steps p.tables e below (s₁.setTop (mkF m 44 #[.val (.long q1), .second, .val (.long q2), .second, .val (.int p3), .val (.long (9223372036854775807 : Int64)), .second, .unset, .unset, .val (.int ((XT.ushr p3 (2 : Int32)) &&& (3 : Int32))), .unset, .unset] [(.int (1 : Int32)), (.int ((XT.ushr p3 (2 : Int32)) &&& (3 : Int32)))])) t
        exact k)
      by_cases hc44_11 : ((XT.ushr p3 (2 : Int32)) &&& (3 : Int32)) = (1 : Int32)
      · skip
        have pre13 : ∀ t, Steps p.tables e below (s₁.setTop (mkF m 89 #[.val (.long q1), .second, .val (.long q2), .second, .val (.int p3), .val (.long (9223372036854775807 : Int64)), .second, .val (.long (9223372036854775807 : Int64)), .second, .val (.int ((XT.ushr p3 (2 : Int32)) &&& (3 : Int32))), .unset, .unset] [(.long (9223372036854775807 : Int64)), (.long (9223372036854775807 : Int64))])) t → Steps p.tables e below (s₁.setTop (entryFrame m #[(.long q1), (.long q2), (.int p3)] maxLocals)) t := fun t k => pre12 t (by
          show Steps p.tables e below (s₁.setTop (mkF m 44 #[.val (.long q1), .second, .val (.long q2), .second, .val (.int p3), .val (.long (9223372036854775807 : Int64)), .second, .unset, .unset, .val (.int ((XT.ushr p3 (2 : Int32)) &&& (3 : Int32))), .unset, .unset] [(.int (1 : Int32)), (.int ((XT.ushr p3 (2 : Int32)) &&& (3 : Int32)))])) t
          refine XS.icmpNo X0.here hx rfl (hb hby at_44) rfl (XT.ii_ne_f hc44_11) ?_
          show Steps p.tables e below (s₁.setTop (mkF m 47 #[.val (.long q1), .second, .val (.long q2), .second, .val (.int p3), .val (.long (9223372036854775807 : Int64)), .second, .unset, .unset, .val (.int ((XT.ushr p3 (2 : Int32)) &&& (3 : Int32))), .unset, .unset] [])) t
          refine XT.lload X0.here hx rfl (hb hby at_47) rfl ?_
          show Steps p.tables e below (s₁.setTop (mkF m 49 #[.val (.long q1), .second, .val (.long q2), .second, .val (.int p3), .val (.long (9223372036854775807 : Int64)), .second, .unset, .unset, .val (.int ((XT.ushr p3 (2 : Int32)) &&& (3 : Int32))), .unset, .unset] [(.long (9223372036854775807 : Int64))])) t
          refine XT.lstore X0.here hx rfl (hb hby at_49) rfl (l' := #[.val (.long q1), .second, .val (.long q2), .second, .val (.int p3), .val (.long (9223372036854775807 : Int64)), .second, .val (.long (9223372036854775807 : Int64)), .second, .val (.int ((XT.ushr p3 (2 : Int32)) &&& (3 : Int32))), .unset, .unset]) rfl ?_
          show Steps p.tables e below (s₁.setTop (mkF m 51 #[.val (.long q1), .second, .val (.long q2), .second, .val (.int p3), .val (.long (9223372036854775807 : Int64)), .second, .val (.long (9223372036854775807 : Int64)), .second, .val (.int ((XT.ushr p3 (2 : Int32)) &&& (3 : Int32))), .unset, .unset] [])) t
          refine XS.goto X0.here hx rfl (pc0 := 51) (pc' := 85) rfl (hb hby at_51) (by decide) (by decide) ?_
          show Steps p.tables e below (s₁.setTop (mkF m 85 #[.val (.long q1), .second, .val (.long q2), .second, .val (.int p3), .val (.long (9223372036854775807 : Int64)), .second, .val (.long (9223372036854775807 : Int64)), .second, .val (.int ((XT.ushr p3 (2 : Int32)) &&& (3 : Int32))), .unset, .unset] [])) t
          refine XT.lload X0.here hx rfl (hb hby at_85) rfl ?_
          show Steps p.tables e below (s₁.setTop (mkF m 87 #[.val (.long q1), .second, .val (.long q2), .second, .val (.int p3), .val (.long (9223372036854775807 : Int64)), .second, .val (.long (9223372036854775807 : Int64)), .second, .val (.int ((XT.ushr p3 (2 : Int32)) &&& (3 : Int32))), .unset, .unset] [(.long (9223372036854775807 : Int64))])) t
          refine XT.lload X0.here hx rfl (hb hby at_87) rfl ?_
          show Steps p.tables e below (s₁.setTop (mkF m 89 #[.val (.long q1), .second, .val (.long q2), .second, .val (.int p3), .val (.long (9223372036854775807 : Int64)), .second, .val (.long (9223372036854775807 : Int64)), .second, .val (.int ((XT.ushr p3 (2 : Int32)) &&& (3 : Int32))), .unset, .unset] [(.long (9223372036854775807 : Int64)), (.long (9223372036854775807 : Int64))])) t
          exact k)
        obtain ⟨_, _, ⟨T14, L14, k14, n14⟩, -, X14, ⟨Lc14, hQ14, l14, y14, z14⟩, st14⟩ := Jvm.LawKit.callS X0 hx (y := (⟨"com/example/sluice/Demand", "produced", "(JJ)J"⟩ : MethodName)) hown (mvT hZ (hw _ (List.mem_of_getElem? (i := 1) rfl))) (mvT hZ (hw _ (List.mem_of_getElem? (i := 2) rfl))) (mvT hZ (hw _ (List.mem_of_getElem? (i := 3) rfl))) (mvT hZ (hw _ (List.mem_of_getElem? (i := 4) rfl))) (by decide) (backOf (W := 0) (rm1 l Z a0 hw [] (9223372036854775807 : Int64) (9223372036854775807 : Int64) h0 n0 Z0 ) hZ (hw _ (List.mem_of_getElem? (i := 4) rfl)) (hw _ (List.mem_of_getElem? (i := 3) rfl)) (by decide) (by decide)) (g := (mkF m 89 #[.val (.long q1), .second, .val (.long q2), .second, .val (.int p3), .val (.long (9223372036854775807 : Int64)), .second, .val (.long (9223372036854775807 : Int64)), .second, .val (.int ((XT.ushr p3 (2 : Int32)) &&& (3 : Int32))), .unset, .unset] [(.long (9223372036854775807 : Int64)), (.long (9223372036854775807 : Int64))])) rfl (by rw [hml]; rfl) (argsL := [(.long (9223372036854775807 : Int64)), (.long (9223372036854775807 : Int64))]) (rest := []) (lenOf pd_oJJcJ rfl) rfl (by show 2 * 0 + _ ≤ _; exact Nat.le_of_eq rfl) (hb hby at_89) (fun _ _ => ⟨rfl, eh0, (by decide : 0 + 0 ≤ _), (by decide : 0 + 0 ≤ _)⟩)
        dsimp only [Pt.U, Pt.locs, Pt.cells, Pt.slots] at X14 l14 y14 z14 st14 hQ14
        subst l14 y14 z14
        obtain ⟨rfl, N14q, eh14⟩ := hQ14
        have N14 := Fr.app N0 N14q
        have pre15 : ∀ t, Steps p.tables e below (T14.setTop (mkF m 92 #[.val (.long q1), .second, .val (.long q2), .second, .val (.int p3), .val (.long (9223372036854775807 : Int64)), .second, .val (.long (9223372036854775807 : Int64)), .second, .val (.int ((XT.ushr p3 (2 : Int32)) &&& (3 : Int32))), .unset, .unset] [(.long (own_prod (9223372036854775807 : Int64) (9223372036854775807 : Int64)))])) t → Steps p.tables e below (s₁.setTop (entryFrame m #[(.long q1), (.long q2), (.int p3)] maxLocals)) t := fun t k => pre13 t (st14 _ k)
        have pre18 : ∀ t, Steps p.tables e below (T14.setTop (mkF m 117 #[.val (.long q1), .second, .val (.long q2), .second, .val (.int p3), .val (.long (9223372036854775807 : Int64)), .second, .val (.long (9223372036854775807 : Int64)), .second, .val (.int ((XT.ushr p3 (2 : Int32)) &&& (3 : Int32))), .val (.long (own_prod (9223372036854775807 : Int64) (9223372036854775807 : Int64))), .second] [(.int (1 : Int32))])) t → Steps p.tables e below (s₁.setTop (entryFrame m #[(.long q1), (.long q2), (.int p3)] maxLocals)) t := fun t k => pre15 t (by
          show Steps p.tables e below (T14.setTop (mkF m 92 #[.val (.long q1), .second, .val (.long q2), .second, .val (.int p3), .val (.long (9223372036854775807 : Int64)), .second, .val (.long (9223372036854775807 : Int64)), .second, .val (.int ((XT.ushr p3 (2 : Int32)) &&& (3 : Int32))), .unset, .unset] [(.long (own_prod (9223372036854775807 : Int64) (9223372036854775807 : Int64)))])) t
          refine XT.lstore X14.here hx rfl (hb hby at_92) rfl (l' := #[.val (.long q1), .second, .val (.long q2), .second, .val (.int p3), .val (.long (9223372036854775807 : Int64)), .second, .val (.long (9223372036854775807 : Int64)), .second, .val (.int ((XT.ushr p3 (2 : Int32)) &&& (3 : Int32))), .val (.long (own_prod (9223372036854775807 : Int64) (9223372036854775807 : Int64))), .second]) rfl ?_
          show Steps p.tables e below (T14.setTop (mkF m 94 #[.val (.long q1), .second, .val (.long q2), .second, .val (.int p3), .val (.long (9223372036854775807 : Int64)), .second, .val (.long (9223372036854775807 : Int64)), .second, .val (.int ((XT.ushr p3 (2 : Int32)) &&& (3 : Int32))), .val (.long (own_prod (9223372036854775807 : Int64) (9223372036854775807 : Int64))), .second] [])) t
          refine XT.lload X14.here hx rfl (hb hby at_94) rfl ?_
          show Steps p.tables e below (T14.setTop (mkF m 96 #[.val (.long q1), .second, .val (.long q2), .second, .val (.int p3), .val (.long (9223372036854775807 : Int64)), .second, .val (.long (9223372036854775807 : Int64)), .second, .val (.int ((XT.ushr p3 (2 : Int32)) &&& (3 : Int32))), .val (.long (own_prod (9223372036854775807 : Int64) (9223372036854775807 : Int64))), .second] [(.long (9223372036854775807 : Int64))])) t
          refine X14.ldc2Long hx hown (mvT hZ (hw _ (List.mem_of_getElem? (i := 0) rfl))) (g := (mkF m 96 #[.val (.long q1), .second, .val (.long q2), .second, .val (.int p3), .val (.long (9223372036854775807 : Int64)), .second, .val (.long (9223372036854775807 : Int64)), .second, .val (.int ((XT.ushr p3 (2 : Int32)) &&& (3 : Int32))), .val (.long (own_prod (9223372036854775807 : Int64) (9223372036854775807 : Int64))), .second] [(.long (9223372036854775807 : Int64))])) rfl (hb hby at_96) _ ?_
          show Steps p.tables e below (T14.setTop (mkF m 99 #[.val (.long q1), .second, .val (.long q2), .second, .val (.int p3), .val (.long (9223372036854775807 : Int64)), .second, .val (.long (9223372036854775807 : Int64)), .second, .val (.int ((XT.ushr p3 (2 : Int32)) &&& (3 : Int32))), .val (.long (own_prod (9223372036854775807 : Int64) (9223372036854775807 : Int64))), .second] [(.long (9223372036854775807 : Int64)), (.long (9223372036854775807 : Int64))])) t
          refine XT.lcmp X14.here hx rfl (hb hby at_99) rfl ?_
          show Steps p.tables e below (T14.setTop (mkF m 100 #[.val (.long q1), .second, .val (.long q2), .second, .val (.int p3), .val (.long (9223372036854775807 : Int64)), .second, .val (.long (9223372036854775807 : Int64)), .second, .val (.int ((XT.ushr p3 (2 : Int32)) &&& (3 : Int32))), .val (.long (own_prod (9223372036854775807 : Int64) (9223372036854775807 : Int64))), .second] [(.int (XT.cmpL (9223372036854775807 : Int64) (9223372036854775807 : Int64)))])) t
          refine XS.ifNo X14.here hx rfl (hb hby at_100) rfl (XT.ll_ne_f (show (9223372036854775807 : Int64) = (9223372036854775807 : Int64) from by decide)) ?_
          show Steps p.tables e below (T14.setTop (mkF m 103 #[.val (.long q1), .second, .val (.long q2), .second, .val (.int p3), .val (.long (9223372036854775807 : Int64)), .second, .val (.long (9223372036854775807 : Int64)), .second, .val (.int ((XT.ushr p3 (2 : Int32)) &&& (3 : Int32))), .val (.long (own_prod (9223372036854775807 : Int64) (9223372036854775807 : Int64))), .second] [])) t
          refine XT.lload X14.here hx rfl (hb hby at_103) rfl ?_
          show Steps p.tables e below (T14.setTop (mkF m 105 #[.val (.long q1), .second, .val (.long q2), .second, .val (.int p3), .val (.long (9223372036854775807 : Int64)), .second, .val (.long (9223372036854775807 : Int64)), .second, .val (.int ((XT.ushr p3 (2 : Int32)) &&& (3 : Int32))), .val (.long (own_prod (9223372036854775807 : Int64) (9223372036854775807 : Int64))), .second] [(.long (own_prod (9223372036854775807 : Int64) (9223372036854775807 : Int64)))])) t
          refine X14.ldc2Long hx hown (mvT hZ (hw _ (List.mem_of_getElem? (i := 0) rfl))) (g := (mkF m 105 #[.val (.long q1), .second, .val (.long q2), .second, .val (.int p3), .val (.long (9223372036854775807 : Int64)), .second, .val (.long (9223372036854775807 : Int64)), .second, .val (.int ((XT.ushr p3 (2 : Int32)) &&& (3 : Int32))), .val (.long (own_prod (9223372036854775807 : Int64) (9223372036854775807 : Int64))), .second] [(.long (own_prod (9223372036854775807 : Int64) (9223372036854775807 : Int64)))])) rfl (hb hby at_105) _ ?_
          show Steps p.tables e below (T14.setTop (mkF m 108 #[.val (.long q1), .second, .val (.long q2), .second, .val (.int p3), .val (.long (9223372036854775807 : Int64)), .second, .val (.long (9223372036854775807 : Int64)), .second, .val (.int ((XT.ushr p3 (2 : Int32)) &&& (3 : Int32))), .val (.long (own_prod (9223372036854775807 : Int64) (9223372036854775807 : Int64))), .second] [(.long (9223372036854775807 : Int64)), (.long (own_prod (9223372036854775807 : Int64) (9223372036854775807 : Int64)))])) t
          refine XT.lcmp X14.here hx rfl (hb hby at_108) rfl ?_
          show Steps p.tables e below (T14.setTop (mkF m 109 #[.val (.long q1), .second, .val (.long q2), .second, .val (.int p3), .val (.long (9223372036854775807 : Int64)), .second, .val (.long (9223372036854775807 : Int64)), .second, .val (.int ((XT.ushr p3 (2 : Int32)) &&& (3 : Int32))), .val (.long (own_prod (9223372036854775807 : Int64) (9223372036854775807 : Int64))), .second] [(.int (XT.cmpL (own_prod (9223372036854775807 : Int64) (9223372036854775807 : Int64)) (9223372036854775807 : Int64)))])) t
          refine XS.ifNo X14.here hx rfl (hb hby at_109) rfl (XT.ll_ne_f (show (own_prod (9223372036854775807 : Int64) (9223372036854775807 : Int64)) = (9223372036854775807 : Int64) from by first | exact own_max _ | exact own_max' (by assumption))) ?_
          show Steps p.tables e below (T14.setTop (mkF m 112 #[.val (.long q1), .second, .val (.long q2), .second, .val (.int p3), .val (.long (9223372036854775807 : Int64)), .second, .val (.long (9223372036854775807 : Int64)), .second, .val (.int ((XT.ushr p3 (2 : Int32)) &&& (3 : Int32))), .val (.long (own_prod (9223372036854775807 : Int64) (9223372036854775807 : Int64))), .second] [])) t
          refine XS.iconst X14.here hx rfl (hb hby at_112) ?_
          show Steps p.tables e below (T14.setTop (mkF m 113 #[.val (.long q1), .second, .val (.long q2), .second, .val (.int p3), .val (.long (9223372036854775807 : Int64)), .second, .val (.long (9223372036854775807 : Int64)), .second, .val (.int ((XT.ushr p3 (2 : Int32)) &&& (3 : Int32))), .val (.long (own_prod (9223372036854775807 : Int64) (9223372036854775807 : Int64))), .second] [(.int (1 : Int32))])) t
          refine XS.goto X14.here hx rfl (pc0 := 113) (pc' := 117) rfl (hb hby at_113) (by decide) (by decide) ?_
          show Steps p.tables e below (T14.setTop (mkF m 117 #[.val (.long q1), .second, .val (.long q2), .second, .val (.int p3), .val (.long (9223372036854775807 : Int64)), .second, .val (.long (9223372036854775807 : Int64)), .second, .val (.int ((XT.ushr p3 (2 : Int32)) &&& (3 : Int32))), .val (.long (own_prod (9223372036854775807 : Int64) (9223372036854775807 : Int64))), .second] [(.int (1 : Int32))])) t
          exact k)
        obtain ⟨fs, hr, hrun, hended, hW, hsame⟩ := X14.leave (v := some (.int (1 : Int32))) (fun h => by rw [Bd.returns] at h; cases h)
        refine ⟨_, _, pre18 _ ?_, hrun, hended, _, _, rfl, ?_, ⟨_, rfl⟩, hW, hsame.mono (by decide) (by decide)⟩
        · show Steps p.tables e below (T14.setTop (mkF m 117 #[.val (.long q1), .second, .val (.long q2), .second, .val (.int p3), .val (.long (9223372036854775807 : Int64)), .second, .val (.long (9223372036854775807 : Int64)), .second, .val (.int ((XT.ushr p3 (2 : Int32)) &&& (3 : Int32))), .val (.long (own_prod (9223372036854775807 : Int64) (9223372036854775807 : Int64))), .second] [(.int (1 : Int32))])) _
          exact retN X14 hx (t := .boolean) Bd.returns (by simp) (hb hby at_117) hr
        · show Q0 Z q1 q2 p3 h0 n0 _ T14.heap _
          rw [eh14]
          exact ⟨rfl, N14⟩
      · skip
        have pre20 : ∀ t, Steps p.tables e below (s₁.setTop (mkF m 89 #[.val (.long q1), .second, .val (.long q2), .second, .val (.int p3), .val (.long (9223372036854775807 : Int64)), .second, .val (.long (q2 &&& (9223372036854775807 : Int64))), .second, .val (.int ((XT.ushr p3 (2 : Int32)) &&& (3 : Int32))), .unset, .unset] [(.long (q2 &&& (9223372036854775807 : Int64))), (.long (9223372036854775807 : Int64))])) t → Steps p.tables e below (s₁.setTop (entryFrame m #[(.long q1), (.long q2), (.int p3)] maxLocals)) t := fun t k => pre12 t (by
          show Steps p.tables e below (s₁.setTop (mkF m 44 #[.val (.long q1), .second, .val (.long q2), .second, .val (.int p3), .val (.long (9223372036854775807 : Int64)), .second, .unset, .unset, .val (.int ((XT.ushr p3 (2 : Int32)) &&& (3 : Int32))), .unset, .unset] [(.int (1 : Int32)), (.int ((XT.ushr p3 (2 : Int32)) &&& (3 : Int32)))])) t
          refine XS.icmpYes X0.here hx rfl (pc0 := 44) (pc' := 54) rfl (hb hby at_44) rfl (XT.ii_ne_t hc44_11) (by decide) (by decide) ?_
          show Steps p.tables e below (s₁.setTop (mkF m 54 #[.val (.long q1), .second, .val (.long q2), .second, .val (.int p3), .val (.long (9223372036854775807 : Int64)), .second, .unset, .unset, .val (.int ((XT.ushr p3 (2 : Int32)) &&& (3 : Int32))), .unset, .unset] [])) t
          refine XT.lload X0.here hx rfl (hb hby at_54) rfl ?_
          show Steps p.tables e below (s₁.setTop (mkF m 56 #[.val (.long q1), .second, .val (.long q2), .second, .val (.int p3), .val (.long (9223372036854775807 : Int64)), .second, .unset, .unset, .val (.int ((XT.ushr p3 (2 : Int32)) &&& (3 : Int32))), .unset, .unset] [(.long (9223372036854775807 : Int64))])) t
          refine X0.ldc2Long hx hown (mvT hZ (hw _ (List.mem_of_getElem? (i := 0) rfl))) (g := (mkF m 56 #[.val (.long q1), .second, .val (.long q2), .second, .val (.int p3), .val (.long (9223372036854775807 : Int64)), .second, .unset, .unset, .val (.int ((XT.ushr p3 (2 : Int32)) &&& (3 : Int32))), .unset, .unset] [(.long (9223372036854775807 : Int64))])) rfl (hb hby at_56) _ ?_
          show Steps p.tables e below (s₁.setTop (mkF m 59 #[.val (.long q1), .second, .val (.long q2), .second, .val (.int p3), .val (.long (9223372036854775807 : Int64)), .second, .unset, .unset, .val (.int ((XT.ushr p3 (2 : Int32)) &&& (3 : Int32))), .unset, .unset] [(.long (9223372036854775807 : Int64)), (.long (9223372036854775807 : Int64))])) t
          refine XT.lcmp X0.here hx rfl (hb hby at_59) rfl ?_
          show Steps p.tables e below (s₁.setTop (mkF m 60 #[.val (.long q1), .second, .val (.long q2), .second, .val (.int p3), .val (.long (9223372036854775807 : Int64)), .second, .unset, .unset, .val (.int ((XT.ushr p3 (2 : Int32)) &&& (3 : Int32))), .unset, .unset] [(.int (XT.cmpL (9223372036854775807 : Int64) (9223372036854775807 : Int64)))])) t
          refine XS.ifNo X0.here hx rfl (hb hby at_60) rfl (XT.ll_ne_f (show (9223372036854775807 : Int64) = (9223372036854775807 : Int64) from by decide)) ?_
          show Steps p.tables e below (s₁.setTop (mkF m 63 #[.val (.long q1), .second, .val (.long q2), .second, .val (.int p3), .val (.long (9223372036854775807 : Int64)), .second, .unset, .unset, .val (.int ((XT.ushr p3 (2 : Int32)) &&& (3 : Int32))), .unset, .unset] [])) t
          refine XT.lloadN X0.here hx rfl (hb hby at_63) rfl ?_
          show Steps p.tables e below (s₁.setTop (mkF m 64 #[.val (.long q1), .second, .val (.long q2), .second, .val (.int p3), .val (.long (9223372036854775807 : Int64)), .second, .unset, .unset, .val (.int ((XT.ushr p3 (2 : Int32)) &&& (3 : Int32))), .unset, .unset] [(.long q2)])) t
          refine X0.ldc2Long hx hown (mvT hZ (hw _ (List.mem_of_getElem? (i := 0) rfl))) (g := (mkF m 64 #[.val (.long q1), .second, .val (.long q2), .second, .val (.int p3), .val (.long (9223372036854775807 : Int64)), .second, .unset, .unset, .val (.int ((XT.ushr p3 (2 : Int32)) &&& (3 : Int32))), .unset, .unset] [(.long q2)])) rfl (hb hby at_64) _ ?_
          show Steps p.tables e below (s₁.setTop (mkF m 67 #[.val (.long q1), .second, .val (.long q2), .second, .val (.int p3), .val (.long (9223372036854775807 : Int64)), .second, .unset, .unset, .val (.int ((XT.ushr p3 (2 : Int32)) &&& (3 : Int32))), .unset, .unset] [(.long (9223372036854775807 : Int64)), (.long q2)])) t
          refine XT.land X0.here hx rfl (hb hby at_67) rfl ?_
          show Steps p.tables e below (s₁.setTop (mkF m 68 #[.val (.long q1), .second, .val (.long q2), .second, .val (.int p3), .val (.long (9223372036854775807 : Int64)), .second, .unset, .unset, .val (.int ((XT.ushr p3 (2 : Int32)) &&& (3 : Int32))), .unset, .unset] [(.long (q2 &&& (9223372036854775807 : Int64)))])) t
          refine XT.lstore X0.here hx rfl (hb hby at_68) rfl (l' := #[.val (.long q1), .second, .val (.long q2), .second, .val (.int p3), .val (.long (9223372036854775807 : Int64)), .second, .val (.long (q2 &&& (9223372036854775807 : Int64))), .second, .val (.int ((XT.ushr p3 (2 : Int32)) &&& (3 : Int32))), .unset, .unset]) rfl ?_
          show Steps p.tables e below (s₁.setTop (mkF m 70 #[.val (.long q1), .second, .val (.long q2), .second, .val (.int p3), .val (.long (9223372036854775807 : Int64)), .second, .val (.long (q2 &&& (9223372036854775807 : Int64))), .second, .val (.int ((XT.ushr p3 (2 : Int32)) &&& (3 : Int32))), .unset, .unset] [])) t
          refine XS.goto X0.here hx rfl (pc0 := 70) (pc' := 85) rfl (hb hby at_70) (by decide) (by decide) ?_
          show Steps p.tables e below (s₁.setTop (mkF m 85 #[.val (.long q1), .second, .val (.long q2), .second, .val (.int p3), .val (.long (9223372036854775807 : Int64)), .second, .val (.long (q2 &&& (9223372036854775807 : Int64))), .second, .val (.int ((XT.ushr p3 (2 : Int32)) &&& (3 : Int32))), .unset, .unset] [])) t
          refine XT.lload X0.here hx rfl (hb hby at_85) rfl ?_
          show Steps p.tables e below (s₁.setTop (mkF m 87 #[.val (.long q1), .second, .val (.long q2), .second, .val (.int p3), .val (.long (9223372036854775807 : Int64)), .second, .val (.long (q2 &&& (9223372036854775807 : Int64))), .second, .val (.int ((XT.ushr p3 (2 : Int32)) &&& (3 : Int32))), .unset, .unset] [(.long (9223372036854775807 : Int64))])) t
          refine XT.lload X0.here hx rfl (hb hby at_87) rfl ?_
          show Steps p.tables e below (s₁.setTop (mkF m 89 #[.val (.long q1), .second, .val (.long q2), .second, .val (.int p3), .val (.long (9223372036854775807 : Int64)), .second, .val (.long (q2 &&& (9223372036854775807 : Int64))), .second, .val (.int ((XT.ushr p3 (2 : Int32)) &&& (3 : Int32))), .unset, .unset] [(.long (q2 &&& (9223372036854775807 : Int64))), (.long (9223372036854775807 : Int64))])) t
          exact k)
        obtain ⟨_, _, ⟨T21, L21, k21, n21⟩, -, X21, ⟨Lc21, hQ21, l21, y21, z21⟩, st21⟩ := Jvm.LawKit.callS X0 hx (y := (⟨"com/example/sluice/Demand", "produced", "(JJ)J"⟩ : MethodName)) hown (mvT hZ (hw _ (List.mem_of_getElem? (i := 1) rfl))) (mvT hZ (hw _ (List.mem_of_getElem? (i := 2) rfl))) (mvT hZ (hw _ (List.mem_of_getElem? (i := 3) rfl))) (mvT hZ (hw _ (List.mem_of_getElem? (i := 4) rfl))) (by decide) (backOf (W := 0) (rm1 l Z a0 hw [] (9223372036854775807 : Int64) (q2 &&& (9223372036854775807 : Int64)) h0 n0 Z0 ) hZ (hw _ (List.mem_of_getElem? (i := 4) rfl)) (hw _ (List.mem_of_getElem? (i := 3) rfl)) (by decide) (by decide)) (g := (mkF m 89 #[.val (.long q1), .second, .val (.long q2), .second, .val (.int p3), .val (.long (9223372036854775807 : Int64)), .second, .val (.long (q2 &&& (9223372036854775807 : Int64))), .second, .val (.int ((XT.ushr p3 (2 : Int32)) &&& (3 : Int32))), .unset, .unset] [(.long (q2 &&& (9223372036854775807 : Int64))), (.long (9223372036854775807 : Int64))])) rfl (by rw [hml]; rfl) (argsL := [(.long (9223372036854775807 : Int64)), (.long (q2 &&& (9223372036854775807 : Int64)))]) (rest := []) (lenOf pd_oJJcJ rfl) rfl (by show 2 * 0 + _ ≤ _; exact Nat.le_of_eq rfl) (hb hby at_89) (fun _ _ => ⟨rfl, eh0, (by decide : 0 + 0 ≤ _), (by decide : 0 + 0 ≤ _)⟩)
        dsimp only [Pt.U, Pt.locs, Pt.cells, Pt.slots] at X21 l21 y21 z21 st21 hQ21
        subst l21 y21 z21
        obtain ⟨rfl, N21q, eh21⟩ := hQ21
        have N21 := Fr.app N0 N21q
        have pre22 : ∀ t, Steps p.tables e below (T21.setTop (mkF m 92 #[.val (.long q1), .second, .val (.long q2), .second, .val (.int p3), .val (.long (9223372036854775807 : Int64)), .second, .val (.long (q2 &&& (9223372036854775807 : Int64))), .second, .val (.int ((XT.ushr p3 (2 : Int32)) &&& (3 : Int32))), .unset, .unset] [(.long (own_prod (9223372036854775807 : Int64) (q2 &&& (9223372036854775807 : Int64))))])) t → Steps p.tables e below (s₁.setTop (entryFrame m #[(.long q1), (.long q2), (.int p3)] maxLocals)) t := fun t k => pre20 t (st21 _ k)
        have pre25 : ∀ t, Steps p.tables e below (T21.setTop (mkF m 117 #[.val (.long q1), .second, .val (.long q2), .second, .val (.int p3), .val (.long (9223372036854775807 : Int64)), .second, .val (.long (q2 &&& (9223372036854775807 : Int64))), .second, .val (.int ((XT.ushr p3 (2 : Int32)) &&& (3 : Int32))), .val (.long (own_prod (9223372036854775807 : Int64) (q2 &&& (9223372036854775807 : Int64)))), .second] [(.int (1 : Int32))])) t → Steps p.tables e below (s₁.setTop (entryFrame m #[(.long q1), (.long q2), (.int p3)] maxLocals)) t := fun t k => pre22 t (by
          show Steps p.tables e below (T21.setTop (mkF m 92 #[.val (.long q1), .second, .val (.long q2), .second, .val (.int p3), .val (.long (9223372036854775807 : Int64)), .second, .val (.long (q2 &&& (9223372036854775807 : Int64))), .second, .val (.int ((XT.ushr p3 (2 : Int32)) &&& (3 : Int32))), .unset, .unset] [(.long (own_prod (9223372036854775807 : Int64) (q2 &&& (9223372036854775807 : Int64))))])) t
          refine XT.lstore X21.here hx rfl (hb hby at_92) rfl (l' := #[.val (.long q1), .second, .val (.long q2), .second, .val (.int p3), .val (.long (9223372036854775807 : Int64)), .second, .val (.long (q2 &&& (9223372036854775807 : Int64))), .second, .val (.int ((XT.ushr p3 (2 : Int32)) &&& (3 : Int32))), .val (.long (own_prod (9223372036854775807 : Int64) (q2 &&& (9223372036854775807 : Int64)))), .second]) rfl ?_
          show Steps p.tables e below (T21.setTop (mkF m 94 #[.val (.long q1), .second, .val (.long q2), .second, .val (.int p3), .val (.long (9223372036854775807 : Int64)), .second, .val (.long (q2 &&& (9223372036854775807 : Int64))), .second, .val (.int ((XT.ushr p3 (2 : Int32)) &&& (3 : Int32))), .val (.long (own_prod (9223372036854775807 : Int64) (q2 &&& (9223372036854775807 : Int64)))), .second] [])) t
          refine XT.lload X21.here hx rfl (hb hby at_94) rfl ?_
          show Steps p.tables e below (T21.setTop (mkF m 96 #[.val (.long q1), .second, .val (.long q2), .second, .val (.int p3), .val (.long (9223372036854775807 : Int64)), .second, .val (.long (q2 &&& (9223372036854775807 : Int64))), .second, .val (.int ((XT.ushr p3 (2 : Int32)) &&& (3 : Int32))), .val (.long (own_prod (9223372036854775807 : Int64) (q2 &&& (9223372036854775807 : Int64)))), .second] [(.long (9223372036854775807 : Int64))])) t
          refine X21.ldc2Long hx hown (mvT hZ (hw _ (List.mem_of_getElem? (i := 0) rfl))) (g := (mkF m 96 #[.val (.long q1), .second, .val (.long q2), .second, .val (.int p3), .val (.long (9223372036854775807 : Int64)), .second, .val (.long (q2 &&& (9223372036854775807 : Int64))), .second, .val (.int ((XT.ushr p3 (2 : Int32)) &&& (3 : Int32))), .val (.long (own_prod (9223372036854775807 : Int64) (q2 &&& (9223372036854775807 : Int64)))), .second] [(.long (9223372036854775807 : Int64))])) rfl (hb hby at_96) _ ?_
          show Steps p.tables e below (T21.setTop (mkF m 99 #[.val (.long q1), .second, .val (.long q2), .second, .val (.int p3), .val (.long (9223372036854775807 : Int64)), .second, .val (.long (q2 &&& (9223372036854775807 : Int64))), .second, .val (.int ((XT.ushr p3 (2 : Int32)) &&& (3 : Int32))), .val (.long (own_prod (9223372036854775807 : Int64) (q2 &&& (9223372036854775807 : Int64)))), .second] [(.long (9223372036854775807 : Int64)), (.long (9223372036854775807 : Int64))])) t
          refine XT.lcmp X21.here hx rfl (hb hby at_99) rfl ?_
          show Steps p.tables e below (T21.setTop (mkF m 100 #[.val (.long q1), .second, .val (.long q2), .second, .val (.int p3), .val (.long (9223372036854775807 : Int64)), .second, .val (.long (q2 &&& (9223372036854775807 : Int64))), .second, .val (.int ((XT.ushr p3 (2 : Int32)) &&& (3 : Int32))), .val (.long (own_prod (9223372036854775807 : Int64) (q2 &&& (9223372036854775807 : Int64)))), .second] [(.int (XT.cmpL (9223372036854775807 : Int64) (9223372036854775807 : Int64)))])) t
          refine XS.ifNo X21.here hx rfl (hb hby at_100) rfl (XT.ll_ne_f (show (9223372036854775807 : Int64) = (9223372036854775807 : Int64) from by decide)) ?_
          show Steps p.tables e below (T21.setTop (mkF m 103 #[.val (.long q1), .second, .val (.long q2), .second, .val (.int p3), .val (.long (9223372036854775807 : Int64)), .second, .val (.long (q2 &&& (9223372036854775807 : Int64))), .second, .val (.int ((XT.ushr p3 (2 : Int32)) &&& (3 : Int32))), .val (.long (own_prod (9223372036854775807 : Int64) (q2 &&& (9223372036854775807 : Int64)))), .second] [])) t
          refine XT.lload X21.here hx rfl (hb hby at_103) rfl ?_
          show Steps p.tables e below (T21.setTop (mkF m 105 #[.val (.long q1), .second, .val (.long q2), .second, .val (.int p3), .val (.long (9223372036854775807 : Int64)), .second, .val (.long (q2 &&& (9223372036854775807 : Int64))), .second, .val (.int ((XT.ushr p3 (2 : Int32)) &&& (3 : Int32))), .val (.long (own_prod (9223372036854775807 : Int64) (q2 &&& (9223372036854775807 : Int64)))), .second] [(.long (own_prod (9223372036854775807 : Int64) (q2 &&& (9223372036854775807 : Int64))))])) t
          refine X21.ldc2Long hx hown (mvT hZ (hw _ (List.mem_of_getElem? (i := 0) rfl))) (g := (mkF m 105 #[.val (.long q1), .second, .val (.long q2), .second, .val (.int p3), .val (.long (9223372036854775807 : Int64)), .second, .val (.long (q2 &&& (9223372036854775807 : Int64))), .second, .val (.int ((XT.ushr p3 (2 : Int32)) &&& (3 : Int32))), .val (.long (own_prod (9223372036854775807 : Int64) (q2 &&& (9223372036854775807 : Int64)))), .second] [(.long (own_prod (9223372036854775807 : Int64) (q2 &&& (9223372036854775807 : Int64))))])) rfl (hb hby at_105) _ ?_
          show Steps p.tables e below (T21.setTop (mkF m 108 #[.val (.long q1), .second, .val (.long q2), .second, .val (.int p3), .val (.long (9223372036854775807 : Int64)), .second, .val (.long (q2 &&& (9223372036854775807 : Int64))), .second, .val (.int ((XT.ushr p3 (2 : Int32)) &&& (3 : Int32))), .val (.long (own_prod (9223372036854775807 : Int64) (q2 &&& (9223372036854775807 : Int64)))), .second] [(.long (9223372036854775807 : Int64)), (.long (own_prod (9223372036854775807 : Int64) (q2 &&& (9223372036854775807 : Int64))))])) t
          refine XT.lcmp X21.here hx rfl (hb hby at_108) rfl ?_
          show Steps p.tables e below (T21.setTop (mkF m 109 #[.val (.long q1), .second, .val (.long q2), .second, .val (.int p3), .val (.long (9223372036854775807 : Int64)), .second, .val (.long (q2 &&& (9223372036854775807 : Int64))), .second, .val (.int ((XT.ushr p3 (2 : Int32)) &&& (3 : Int32))), .val (.long (own_prod (9223372036854775807 : Int64) (q2 &&& (9223372036854775807 : Int64)))), .second] [(.int (XT.cmpL (own_prod (9223372036854775807 : Int64) (q2 &&& (9223372036854775807 : Int64))) (9223372036854775807 : Int64)))])) t
          refine XS.ifNo X21.here hx rfl (hb hby at_109) rfl (XT.ll_ne_f (show (own_prod (9223372036854775807 : Int64) (q2 &&& (9223372036854775807 : Int64))) = (9223372036854775807 : Int64) from by first | exact own_max _ | exact own_max' (by assumption))) ?_
          show Steps p.tables e below (T21.setTop (mkF m 112 #[.val (.long q1), .second, .val (.long q2), .second, .val (.int p3), .val (.long (9223372036854775807 : Int64)), .second, .val (.long (q2 &&& (9223372036854775807 : Int64))), .second, .val (.int ((XT.ushr p3 (2 : Int32)) &&& (3 : Int32))), .val (.long (own_prod (9223372036854775807 : Int64) (q2 &&& (9223372036854775807 : Int64)))), .second] [])) t
          refine XS.iconst X21.here hx rfl (hb hby at_112) ?_
          show Steps p.tables e below (T21.setTop (mkF m 113 #[.val (.long q1), .second, .val (.long q2), .second, .val (.int p3), .val (.long (9223372036854775807 : Int64)), .second, .val (.long (q2 &&& (9223372036854775807 : Int64))), .second, .val (.int ((XT.ushr p3 (2 : Int32)) &&& (3 : Int32))), .val (.long (own_prod (9223372036854775807 : Int64) (q2 &&& (9223372036854775807 : Int64)))), .second] [(.int (1 : Int32))])) t
          refine XS.goto X21.here hx rfl (pc0 := 113) (pc' := 117) rfl (hb hby at_113) (by decide) (by decide) ?_
          show Steps p.tables e below (T21.setTop (mkF m 117 #[.val (.long q1), .second, .val (.long q2), .second, .val (.int p3), .val (.long (9223372036854775807 : Int64)), .second, .val (.long (q2 &&& (9223372036854775807 : Int64))), .second, .val (.int ((XT.ushr p3 (2 : Int32)) &&& (3 : Int32))), .val (.long (own_prod (9223372036854775807 : Int64) (q2 &&& (9223372036854775807 : Int64)))), .second] [(.int (1 : Int32))])) t
          exact k)
        obtain ⟨fs, hr, hrun, hended, hW, hsame⟩ := X21.leave (v := some (.int (1 : Int32))) (fun h => by rw [Bd.returns] at h; cases h)
        refine ⟨_, _, pre25 _ ?_, hrun, hended, _, _, rfl, ?_, ⟨_, rfl⟩, hW, hsame.mono (by decide) (by decide)⟩
        · show Steps p.tables e below (T21.setTop (mkF m 117 #[.val (.long q1), .second, .val (.long q2), .second, .val (.int p3), .val (.long (9223372036854775807 : Int64)), .second, .val (.long (q2 &&& (9223372036854775807 : Int64))), .second, .val (.int ((XT.ushr p3 (2 : Int32)) &&& (3 : Int32))), .val (.long (own_prod (9223372036854775807 : Int64) (q2 &&& (9223372036854775807 : Int64)))), .second] [(.int (1 : Int32))])) _
          exact retN X21 hx (t := .boolean) Bd.returns (by simp) (hb hby at_117) hr
        · show Q0 Z q1 q2 p3 h0 n0 _ T21.heap _
          rw [eh21]
          exact ⟨rfl, N21⟩
  · skip
    have pre27 : ∀ t, Steps p.tables e below (s₁.setTop (mkF m 32 #[.val (.long q1), .second, .val (.long q2), .second, .val (.int p3), .val (.long (q1 &&& (9223372036854775807 : Int64))), .second, .unset, .unset, .val (.int ((XT.ushr p3 (2 : Int32)) &&& (3 : Int32))), .unset, .unset] [(.int ((XT.ushr p3 (2 : Int32)) &&& (3 : Int32)))])) t → Steps p.tables e below (s₁.setTop (entryFrame m #[(.long q1), (.long q2), (.int p3)] maxLocals)) t := fun t k => pre2 t (by
      show Steps p.tables e below (s₁.setTop (mkF m 4 #[.val (.long q1), .second, .val (.long q2), .second, .val (.int p3), .unset, .unset, .unset, .unset, .unset, .unset, .unset] [(.int (p3 &&& (3 : Int32)))])) t
      refine XS.ifYes X0.here hx rfl (pc0 := 4) (pc' := 15) rfl (hb hby at_4) rfl (XT.i0_ne_t hc4_1) (by decide) (by decide) ?_
      show Steps p.tables e below (s₁.setTop (mkF m 15 #[.val (.long q1), .second, .val (.long q2), .second, .val (.int p3), .unset, .unset, .unset, .unset, .unset, .unset, .unset] [])) t
      refine XT.lloadN X0.here hx rfl (hb hby at_15) rfl ?_
      show Steps p.tables e below (s₁.setTop (mkF m 16 #[.val (.long q1), .second, .val (.long q2), .second, .val (.int p3), .unset, .unset, .unset, .unset, .unset, .unset, .unset] [(.long q1)])) t
      refine X0.ldc2Long hx hown (mvT hZ (hw _ (List.mem_of_getElem? (i := 0) rfl))) (g := (mkF m 16 #[.val (.long q1), .second, .val (.long q2), .second, .val (.int p3), .unset, .unset, .unset, .unset, .unset, .unset, .unset] [(.long q1)])) rfl (hb hby at_16) _ ?_
      show Steps p.tables e below (s₁.setTop (mkF m 19 #[.val (.long q1), .second, .val (.long q2), .second, .val (.int p3), .unset, .unset, .unset, .unset, .unset, .unset, .unset] [(.long (9223372036854775807 : Int64)), (.long q1)])) t
      refine XT.land X0.here hx rfl (hb hby at_19) rfl ?_
      show Steps p.tables e below (s₁.setTop (mkF m 20 #[.val (.long q1), .second, .val (.long q2), .second, .val (.int p3), .unset, .unset, .unset, .unset, .unset, .unset, .unset] [(.long (q1 &&& (9223372036854775807 : Int64)))])) t
      refine XT.lstore X0.here hx rfl (hb hby at_20) rfl (l' := #[.val (.long q1), .second, .val (.long q2), .second, .val (.int p3), .val (.long (q1 &&& (9223372036854775807 : Int64))), .second, .unset, .unset, .unset, .unset, .unset]) rfl ?_
      show Steps p.tables e below (s₁.setTop (mkF m 22 #[.val (.long q1), .second, .val (.long q2), .second, .val (.int p3), .val (.long (q1 &&& (9223372036854775807 : Int64))), .second, .unset, .unset, .unset, .unset, .unset] [])) t
      refine XS.iload X0.here hx rfl (hb hby at_22) rfl ?_
      show Steps p.tables e below (s₁.setTop (mkF m 24 #[.val (.long q1), .second, .val (.long q2), .second, .val (.int p3), .val (.long (q1 &&& (9223372036854775807 : Int64))), .second, .unset, .unset, .unset, .unset, .unset] [(.int p3)])) t
      refine XS.iconst X0.here hx rfl (hb hby at_24) ?_
      show Steps p.tables e below (s₁.setTop (mkF m 25 #[.val (.long q1), .second, .val (.long q2), .second, .val (.int p3), .val (.long (q1 &&& (9223372036854775807 : Int64))), .second, .unset, .unset, .unset, .unset, .unset] [(.int (2 : Int32)), (.int p3)])) t
      refine XT.iushr X0.here hx rfl (hb hby at_25) rfl ?_
      show Steps p.tables e below (s₁.setTop (mkF m 26 #[.val (.long q1), .second, .val (.long q2), .second, .val (.int p3), .val (.long (q1 &&& (9223372036854775807 : Int64))), .second, .unset, .unset, .unset, .unset, .unset] [(.int (XT.ushr p3 (2 : Int32)))])) t
      refine XS.iconst X0.here hx rfl (hb hby at_26) ?_
      show Steps p.tables e below (s₁.setTop (mkF m 27 #[.val (.long q1), .second, .val (.long q2), .second, .val (.int p3), .val (.long (q1 &&& (9223372036854775807 : Int64))), .second, .unset, .unset, .unset, .unset, .unset] [(.int (3 : Int32)), (.int (XT.ushr p3 (2 : Int32)))])) t
      refine XS.iand X0.here hx rfl (hb hby at_27) rfl ?_
      show Steps p.tables e below (s₁.setTop (mkF m 28 #[.val (.long q1), .second, .val (.long q2), .second, .val (.int p3), .val (.long (q1 &&& (9223372036854775807 : Int64))), .second, .unset, .unset, .unset, .unset, .unset] [(.int ((XT.ushr p3 (2 : Int32)) &&& (3 : Int32)))])) t
      refine XS.istore X0.here hx rfl (hb hby at_28) rfl (l' := #[.val (.long q1), .second, .val (.long q2), .second, .val (.int p3), .val (.long (q1 &&& (9223372036854775807 : Int64))), .second, .unset, .unset, .val (.int ((XT.ushr p3 (2 : Int32)) &&& (3 : Int32))), .unset, .unset]) rfl ?_
      show Steps p.tables e below (s₁.setTop (mkF m 30 #[.val (.long q1), .second, .val (.long q2), .second, .val (.int p3), .val (.long (q1 &&& (9223372036854775807 : Int64))), .second, .unset, .unset, .val (.int ((XT.ushr p3 (2 : Int32)) &&& (3 : Int32))), .unset, .unset] [])) t
      refine XS.iload X0.here hx rfl (hb hby at_30) rfl ?_
      show Steps p.tables e below (s₁.setTop (mkF m 32 #[.val (.long q1), .second, .val (.long q2), .second, .val (.int p3), .val (.long (q1 &&& (9223372036854775807 : Int64))), .second, .unset, .unset, .val (.int ((XT.ushr p3 (2 : Int32)) &&& (3 : Int32))), .unset, .unset] [(.int ((XT.ushr p3 (2 : Int32)) &&& (3 : Int32)))])) t
      exact k)
    by_cases hc32_26 : ((XT.ushr p3 (2 : Int32)) &&& (3 : Int32)) = (0 : Int32)
    · skip
      have pre28 : ∀ t, Steps p.tables e below (s₁.setTop (mkF m 89 #[.val (.long q1), .second, .val (.long q2), .second, .val (.int p3), .val (.long (q1 &&& (9223372036854775807 : Int64))), .second, .val (.long (0 : Int64)), .second, .val (.int ((XT.ushr p3 (2 : Int32)) &&& (3 : Int32))), .unset, .unset] [(.long (0 : Int64)), (.long (q1 &&& (9223372036854775807 : Int64)))])) t → Steps p.tables e below (s₁.setTop (entryFrame m #[(.long q1), (.long q2), (.int p3)] maxLocals)) t := fun t k => pre27 t (by
        show Steps p.tables e below (s₁.setTop (mkF m 32 #[.val (.long q1), .second, .val (.long q2), .second, .val (.int p3), .val (.long (q1 &&& (9223372036854775807 : Int64))), .second, .unset, .unset, .val (.int ((XT.ushr p3 (2 : Int32)) &&& (3 : Int32))), .unset, .unset] [(.int ((XT.ushr p3 (2 : Int32)) &&& (3 : Int32)))])) t
        refine XS.ifNo X0.here hx rfl (hb hby at_32) rfl (XT.i0_ne_f hc32_26) ?_
        show Steps p.tables e below (s₁.setTop (mkF m 35 #[.val (.long q1), .second, .val (.long q2), .second, .val (.int p3), .val (.long (q1 &&& (9223372036854775807 : Int64))), .second, .unset, .unset, .val (.int ((XT.ushr p3 (2 : Int32)) &&& (3 : Int32))), .unset, .unset] [])) t
        refine XT.lconstV X0.here hx rfl (0 : Int64) (hb hby at_35) (by decide) ?_
        show Steps p.tables e below (s₁.setTop (mkF m 36 #[.val (.long q1), .second, .val (.long q2), .second, .val (.int p3), .val (.long (q1 &&& (9223372036854775807 : Int64))), .second, .unset, .unset, .val (.int ((XT.ushr p3 (2 : Int32)) &&& (3 : Int32))), .unset, .unset] [(.long (0 : Int64))])) t
        refine XT.lstore X0.here hx rfl (hb hby at_36) rfl (l' := #[.val (.long q1), .second, .val (.long q2), .second, .val (.int p3), .val (.long (q1 &&& (9223372036854775807 : Int64))), .second, .val (.long (0 : Int64)), .second, .val (.int ((XT.ushr p3 (2 : Int32)) &&& (3 : Int32))), .unset, .unset]) rfl ?_
        show Steps p.tables e below (s₁.setTop (mkF m 38 #[.val (.long q1), .second, .val (.long q2), .second, .val (.int p3), .val (.long (q1 &&& (9223372036854775807 : Int64))), .second, .val (.long (0 : Int64)), .second, .val (.int ((XT.ushr p3 (2 : Int32)) &&& (3 : Int32))), .unset, .unset] [])) t
        refine XS.goto X0.here hx rfl (pc0 := 38) (pc' := 85) rfl (hb hby at_38) (by decide) (by decide) ?_
        show Steps p.tables e below (s₁.setTop (mkF m 85 #[.val (.long q1), .second, .val (.long q2), .second, .val (.int p3), .val (.long (q1 &&& (9223372036854775807 : Int64))), .second, .val (.long (0 : Int64)), .second, .val (.int ((XT.ushr p3 (2 : Int32)) &&& (3 : Int32))), .unset, .unset] [])) t
        refine XT.lload X0.here hx rfl (hb hby at_85) rfl ?_
        show Steps p.tables e below (s₁.setTop (mkF m 87 #[.val (.long q1), .second, .val (.long q2), .second, .val (.int p3), .val (.long (q1 &&& (9223372036854775807 : Int64))), .second, .val (.long (0 : Int64)), .second, .val (.int ((XT.ushr p3 (2 : Int32)) &&& (3 : Int32))), .unset, .unset] [(.long (q1 &&& (9223372036854775807 : Int64)))])) t
        refine XT.lload X0.here hx rfl (hb hby at_87) rfl ?_
        show Steps p.tables e below (s₁.setTop (mkF m 89 #[.val (.long q1), .second, .val (.long q2), .second, .val (.int p3), .val (.long (q1 &&& (9223372036854775807 : Int64))), .second, .val (.long (0 : Int64)), .second, .val (.int ((XT.ushr p3 (2 : Int32)) &&& (3 : Int32))), .unset, .unset] [(.long (0 : Int64)), (.long (q1 &&& (9223372036854775807 : Int64)))])) t
        exact k)
      obtain ⟨_, _, ⟨T29, L29, k29, n29⟩, -, X29, ⟨Lc29, hQ29, l29, y29, z29⟩, st29⟩ := Jvm.LawKit.callS X0 hx (y := (⟨"com/example/sluice/Demand", "produced", "(JJ)J"⟩ : MethodName)) hown (mvT hZ (hw _ (List.mem_of_getElem? (i := 1) rfl))) (mvT hZ (hw _ (List.mem_of_getElem? (i := 2) rfl))) (mvT hZ (hw _ (List.mem_of_getElem? (i := 3) rfl))) (mvT hZ (hw _ (List.mem_of_getElem? (i := 4) rfl))) (by decide) (backOf (W := 0) (rm1 l Z a0 hw [] (q1 &&& (9223372036854775807 : Int64)) (0 : Int64) h0 n0 Z0 ) hZ (hw _ (List.mem_of_getElem? (i := 4) rfl)) (hw _ (List.mem_of_getElem? (i := 3) rfl)) (by decide) (by decide)) (g := (mkF m 89 #[.val (.long q1), .second, .val (.long q2), .second, .val (.int p3), .val (.long (q1 &&& (9223372036854775807 : Int64))), .second, .val (.long (0 : Int64)), .second, .val (.int ((XT.ushr p3 (2 : Int32)) &&& (3 : Int32))), .unset, .unset] [(.long (0 : Int64)), (.long (q1 &&& (9223372036854775807 : Int64)))])) rfl (by rw [hml]; rfl) (argsL := [(.long (q1 &&& (9223372036854775807 : Int64))), (.long (0 : Int64))]) (rest := []) (lenOf pd_oJJcJ rfl) rfl (by show 2 * 0 + _ ≤ _; exact Nat.le_of_eq rfl) (hb hby at_89) (fun _ _ => ⟨rfl, eh0, (by decide : 0 + 0 ≤ _), (by decide : 0 + 0 ≤ _)⟩)
      dsimp only [Pt.U, Pt.locs, Pt.cells, Pt.slots] at X29 l29 y29 z29 st29 hQ29
      subst l29 y29 z29
      obtain ⟨rfl, N29q, eh29⟩ := hQ29
      have N29 := Fr.app N0 N29q
      have pre30 : ∀ t, Steps p.tables e below (T29.setTop (mkF m 92 #[.val (.long q1), .second, .val (.long q2), .second, .val (.int p3), .val (.long (q1 &&& (9223372036854775807 : Int64))), .second, .val (.long (0 : Int64)), .second, .val (.int ((XT.ushr p3 (2 : Int32)) &&& (3 : Int32))), .unset, .unset] [(.long (own_prod (q1 &&& (9223372036854775807 : Int64)) (0 : Int64)))])) t → Steps p.tables e below (s₁.setTop (entryFrame m #[(.long q1), (.long q2), (.int p3)] maxLocals)) t := fun t k => pre28 t (st29 _ k)
      have pre32 : ∀ t, Steps p.tables e below (T29.setTop (mkF m 100 #[.val (.long q1), .second, .val (.long q2), .second, .val (.int p3), .val (.long (q1 &&& (9223372036854775807 : Int64))), .second, .val (.long (0 : Int64)), .second, .val (.int ((XT.ushr p3 (2 : Int32)) &&& (3 : Int32))), .val (.long (own_prod (q1 &&& (9223372036854775807 : Int64)) (0 : Int64))), .second] [(.int (XT.cmpL (q1 &&& (9223372036854775807 : Int64)) (9223372036854775807 : Int64)))])) t → Steps p.tables e below (s₁.setTop (entryFrame m #[(.long q1), (.long q2), (.int p3)] maxLocals)) t := fun t k => pre30 t (by
        show Steps p.tables e below (T29.setTop (mkF m 92 #[.val (.long q1), .second, .val (.long q2), .second, .val (.int p3), .val (.long (q1 &&& (9223372036854775807 : Int64))), .second, .val (.long (0 : Int64)), .second, .val (.int ((XT.ushr p3 (2 : Int32)) &&& (3 : Int32))), .unset, .unset] [(.long (own_prod (q1 &&& (9223372036854775807 : Int64)) (0 : Int64)))])) t
        refine XT.lstore X29.here hx rfl (hb hby at_92) rfl (l' := #[.val (.long q1), .second, .val (.long q2), .second, .val (.int p3), .val (.long (q1 &&& (9223372036854775807 : Int64))), .second, .val (.long (0 : Int64)), .second, .val (.int ((XT.ushr p3 (2 : Int32)) &&& (3 : Int32))), .val (.long (own_prod (q1 &&& (9223372036854775807 : Int64)) (0 : Int64))), .second]) rfl ?_
        show Steps p.tables e below (T29.setTop (mkF m 94 #[.val (.long q1), .second, .val (.long q2), .second, .val (.int p3), .val (.long (q1 &&& (9223372036854775807 : Int64))), .second, .val (.long (0 : Int64)), .second, .val (.int ((XT.ushr p3 (2 : Int32)) &&& (3 : Int32))), .val (.long (own_prod (q1 &&& (9223372036854775807 : Int64)) (0 : Int64))), .second] [])) t
        refine XT.lload X29.here hx rfl (hb hby at_94) rfl ?_
        show Steps p.tables e below (T29.setTop (mkF m 96 #[.val (.long q1), .second, .val (.long q2), .second, .val (.int p3), .val (.long (q1 &&& (9223372036854775807 : Int64))), .second, .val (.long (0 : Int64)), .second, .val (.int ((XT.ushr p3 (2 : Int32)) &&& (3 : Int32))), .val (.long (own_prod (q1 &&& (9223372036854775807 : Int64)) (0 : Int64))), .second] [(.long (q1 &&& (9223372036854775807 : Int64)))])) t
        refine X29.ldc2Long hx hown (mvT hZ (hw _ (List.mem_of_getElem? (i := 0) rfl))) (g := (mkF m 96 #[.val (.long q1), .second, .val (.long q2), .second, .val (.int p3), .val (.long (q1 &&& (9223372036854775807 : Int64))), .second, .val (.long (0 : Int64)), .second, .val (.int ((XT.ushr p3 (2 : Int32)) &&& (3 : Int32))), .val (.long (own_prod (q1 &&& (9223372036854775807 : Int64)) (0 : Int64))), .second] [(.long (q1 &&& (9223372036854775807 : Int64)))])) rfl (hb hby at_96) _ ?_
        show Steps p.tables e below (T29.setTop (mkF m 99 #[.val (.long q1), .second, .val (.long q2), .second, .val (.int p3), .val (.long (q1 &&& (9223372036854775807 : Int64))), .second, .val (.long (0 : Int64)), .second, .val (.int ((XT.ushr p3 (2 : Int32)) &&& (3 : Int32))), .val (.long (own_prod (q1 &&& (9223372036854775807 : Int64)) (0 : Int64))), .second] [(.long (9223372036854775807 : Int64)), (.long (q1 &&& (9223372036854775807 : Int64)))])) t
        refine XT.lcmp X29.here hx rfl (hb hby at_99) rfl ?_
        show Steps p.tables e below (T29.setTop (mkF m 100 #[.val (.long q1), .second, .val (.long q2), .second, .val (.int p3), .val (.long (q1 &&& (9223372036854775807 : Int64))), .second, .val (.long (0 : Int64)), .second, .val (.int ((XT.ushr p3 (2 : Int32)) &&& (3 : Int32))), .val (.long (own_prod (q1 &&& (9223372036854775807 : Int64)) (0 : Int64))), .second] [(.int (XT.cmpL (q1 &&& (9223372036854775807 : Int64)) (9223372036854775807 : Int64)))])) t
        exact k)
      by_cases hc100_31 : (q1 &&& (9223372036854775807 : Int64)) = (9223372036854775807 : Int64)
      · skip
        have pre34 : ∀ t, Steps p.tables e below (T29.setTop (mkF m 117 #[.val (.long q1), .second, .val (.long q2), .second, .val (.int p3), .val (.long (q1 &&& (9223372036854775807 : Int64))), .second, .val (.long (0 : Int64)), .second, .val (.int ((XT.ushr p3 (2 : Int32)) &&& (3 : Int32))), .val (.long (own_prod (q1 &&& (9223372036854775807 : Int64)) (0 : Int64))), .second] [(.int (1 : Int32))])) t → Steps p.tables e below (s₁.setTop (entryFrame m #[(.long q1), (.long q2), (.int p3)] maxLocals)) t := fun t k => pre32 t (by
          show Steps p.tables e below (T29.setTop (mkF m 100 #[.val (.long q1), .second, .val (.long q2), .second, .val (.int p3), .val (.long (q1 &&& (9223372036854775807 : Int64))), .second, .val (.long (0 : Int64)), .second, .val (.int ((XT.ushr p3 (2 : Int32)) &&& (3 : Int32))), .val (.long (own_prod (q1 &&& (9223372036854775807 : Int64)) (0 : Int64))), .second] [(.int (XT.cmpL (q1 &&& (9223372036854775807 : Int64)) (9223372036854775807 : Int64)))])) t
          refine XS.ifNo X29.here hx rfl (hb hby at_100) rfl (XT.ll_ne_f hc100_31) ?_
          show Steps p.tables e below (T29.setTop (mkF m 103 #[.val (.long q1), .second, .val (.long q2), .second, .val (.int p3), .val (.long (q1 &&& (9223372036854775807 : Int64))), .second, .val (.long (0 : Int64)), .second, .val (.int ((XT.ushr p3 (2 : Int32)) &&& (3 : Int32))), .val (.long (own_prod (q1 &&& (9223372036854775807 : Int64)) (0 : Int64))), .second] [])) t
          refine XT.lload X29.here hx rfl (hb hby at_103) rfl ?_
          show Steps p.tables e below (T29.setTop (mkF m 105 #[.val (.long q1), .second, .val (.long q2), .second, .val (.int p3), .val (.long (q1 &&& (9223372036854775807 : Int64))), .second, .val (.long (0 : Int64)), .second, .val (.int ((XT.ushr p3 (2 : Int32)) &&& (3 : Int32))), .val (.long (own_prod (q1 &&& (9223372036854775807 : Int64)) (0 : Int64))), .second] [(.long (own_prod (q1 &&& (9223372036854775807 : Int64)) (0 : Int64)))])) t
          refine X29.ldc2Long hx hown (mvT hZ (hw _ (List.mem_of_getElem? (i := 0) rfl))) (g := (mkF m 105 #[.val (.long q1), .second, .val (.long q2), .second, .val (.int p3), .val (.long (q1 &&& (9223372036854775807 : Int64))), .second, .val (.long (0 : Int64)), .second, .val (.int ((XT.ushr p3 (2 : Int32)) &&& (3 : Int32))), .val (.long (own_prod (q1 &&& (9223372036854775807 : Int64)) (0 : Int64))), .second] [(.long (own_prod (q1 &&& (9223372036854775807 : Int64)) (0 : Int64)))])) rfl (hb hby at_105) _ ?_
          show Steps p.tables e below (T29.setTop (mkF m 108 #[.val (.long q1), .second, .val (.long q2), .second, .val (.int p3), .val (.long (q1 &&& (9223372036854775807 : Int64))), .second, .val (.long (0 : Int64)), .second, .val (.int ((XT.ushr p3 (2 : Int32)) &&& (3 : Int32))), .val (.long (own_prod (q1 &&& (9223372036854775807 : Int64)) (0 : Int64))), .second] [(.long (9223372036854775807 : Int64)), (.long (own_prod (q1 &&& (9223372036854775807 : Int64)) (0 : Int64)))])) t
          refine XT.lcmp X29.here hx rfl (hb hby at_108) rfl ?_
          show Steps p.tables e below (T29.setTop (mkF m 109 #[.val (.long q1), .second, .val (.long q2), .second, .val (.int p3), .val (.long (q1 &&& (9223372036854775807 : Int64))), .second, .val (.long (0 : Int64)), .second, .val (.int ((XT.ushr p3 (2 : Int32)) &&& (3 : Int32))), .val (.long (own_prod (q1 &&& (9223372036854775807 : Int64)) (0 : Int64))), .second] [(.int (XT.cmpL (own_prod (q1 &&& (9223372036854775807 : Int64)) (0 : Int64)) (9223372036854775807 : Int64)))])) t
          refine XS.ifNo X29.here hx rfl (hb hby at_109) rfl (XT.ll_ne_f (show (own_prod (q1 &&& (9223372036854775807 : Int64)) (0 : Int64)) = (9223372036854775807 : Int64) from by first | exact own_max _ | exact own_max' (by assumption))) ?_
          show Steps p.tables e below (T29.setTop (mkF m 112 #[.val (.long q1), .second, .val (.long q2), .second, .val (.int p3), .val (.long (q1 &&& (9223372036854775807 : Int64))), .second, .val (.long (0 : Int64)), .second, .val (.int ((XT.ushr p3 (2 : Int32)) &&& (3 : Int32))), .val (.long (own_prod (q1 &&& (9223372036854775807 : Int64)) (0 : Int64))), .second] [])) t
          refine XS.iconst X29.here hx rfl (hb hby at_112) ?_
          show Steps p.tables e below (T29.setTop (mkF m 113 #[.val (.long q1), .second, .val (.long q2), .second, .val (.int p3), .val (.long (q1 &&& (9223372036854775807 : Int64))), .second, .val (.long (0 : Int64)), .second, .val (.int ((XT.ushr p3 (2 : Int32)) &&& (3 : Int32))), .val (.long (own_prod (q1 &&& (9223372036854775807 : Int64)) (0 : Int64))), .second] [(.int (1 : Int32))])) t
          refine XS.goto X29.here hx rfl (pc0 := 113) (pc' := 117) rfl (hb hby at_113) (by decide) (by decide) ?_
          show Steps p.tables e below (T29.setTop (mkF m 117 #[.val (.long q1), .second, .val (.long q2), .second, .val (.int p3), .val (.long (q1 &&& (9223372036854775807 : Int64))), .second, .val (.long (0 : Int64)), .second, .val (.int ((XT.ushr p3 (2 : Int32)) &&& (3 : Int32))), .val (.long (own_prod (q1 &&& (9223372036854775807 : Int64)) (0 : Int64))), .second] [(.int (1 : Int32))])) t
          exact k)
        obtain ⟨fs, hr, hrun, hended, hW, hsame⟩ := X29.leave (v := some (.int (1 : Int32))) (fun h => by rw [Bd.returns] at h; cases h)
        refine ⟨_, _, pre34 _ ?_, hrun, hended, _, _, rfl, ?_, ⟨_, rfl⟩, hW, hsame.mono (by decide) (by decide)⟩
        · show Steps p.tables e below (T29.setTop (mkF m 117 #[.val (.long q1), .second, .val (.long q2), .second, .val (.int p3), .val (.long (q1 &&& (9223372036854775807 : Int64))), .second, .val (.long (0 : Int64)), .second, .val (.int ((XT.ushr p3 (2 : Int32)) &&& (3 : Int32))), .val (.long (own_prod (q1 &&& (9223372036854775807 : Int64)) (0 : Int64))), .second] [(.int (1 : Int32))])) _
          exact retN X29 hx (t := .boolean) Bd.returns (by simp) (hb hby at_117) hr
        · show Q0 Z q1 q2 p3 h0 n0 _ T29.heap _
          rw [eh29]
          exact ⟨rfl, N29⟩
      · skip
        have pre38 : ∀ t, Steps p.tables e below (T29.setTop (mkF m 149 #[.val (.long q1), .second, .val (.long q2), .second, .val (.int p3), .val (.long (q1 &&& (9223372036854775807 : Int64))), .second, .val (.long (0 : Int64)), .second, .val (.int ((XT.ushr p3 (2 : Int32)) &&& (3 : Int32))), .val (.long (own_prod (q1 &&& (9223372036854775807 : Int64)) (0 : Int64))), .second] [(.int (1 : Int32))])) t → Steps p.tables e below (s₁.setTop (entryFrame m #[(.long q1), (.long q2), (.int p3)] maxLocals)) t := fun t k => pre32 t (by
          show Steps p.tables e below (T29.setTop (mkF m 100 #[.val (.long q1), .second, .val (.long q2), .second, .val (.int p3), .val (.long (q1 &&& (9223372036854775807 : Int64))), .second, .val (.long (0 : Int64)), .second, .val (.int ((XT.ushr p3 (2 : Int32)) &&& (3 : Int32))), .val (.long (own_prod (q1 &&& (9223372036854775807 : Int64)) (0 : Int64))), .second] [(.int (XT.cmpL (q1 &&& (9223372036854775807 : Int64)) (9223372036854775807 : Int64)))])) t
          refine XS.ifYes X29.here hx rfl (pc0 := 100) (pc' := 118) rfl (hb hby at_100) rfl (XT.ll_ne_t hc100_31) (by decide) (by decide) ?_
          show Steps p.tables e below (T29.setTop (mkF m 118 #[.val (.long q1), .second, .val (.long q2), .second, .val (.int p3), .val (.long (q1 &&& (9223372036854775807 : Int64))), .second, .val (.long (0 : Int64)), .second, .val (.int ((XT.ushr p3 (2 : Int32)) &&& (3 : Int32))), .val (.long (own_prod (q1 &&& (9223372036854775807 : Int64)) (0 : Int64))), .second] [])) t
          refine XT.lload X29.here hx rfl (hb hby at_118) rfl ?_
          show Steps p.tables e below (T29.setTop (mkF m 120 #[.val (.long q1), .second, .val (.long q2), .second, .val (.int p3), .val (.long (q1 &&& (9223372036854775807 : Int64))), .second, .val (.long (0 : Int64)), .second, .val (.int ((XT.ushr p3 (2 : Int32)) &&& (3 : Int32))), .val (.long (own_prod (q1 &&& (9223372036854775807 : Int64)) (0 : Int64))), .second] [(.long (own_prod (q1 &&& (9223372036854775807 : Int64)) (0 : Int64)))])) t
          refine XT.lconstV X29.here hx rfl (0 : Int64) (hb hby at_120) (by decide) ?_
          show Steps p.tables e below (T29.setTop (mkF m 121 #[.val (.long q1), .second, .val (.long q2), .second, .val (.int p3), .val (.long (q1 &&& (9223372036854775807 : Int64))), .second, .val (.long (0 : Int64)), .second, .val (.int ((XT.ushr p3 (2 : Int32)) &&& (3 : Int32))), .val (.long (own_prod (q1 &&& (9223372036854775807 : Int64)) (0 : Int64))), .second] [(.long (0 : Int64)), (.long (own_prod (q1 &&& (9223372036854775807 : Int64)) (0 : Int64)))])) t
          refine XT.lcmp X29.here hx rfl (hb hby at_121) rfl ?_
          show Steps p.tables e below (T29.setTop (mkF m 122 #[.val (.long q1), .second, .val (.long q2), .second, .val (.int p3), .val (.long (q1 &&& (9223372036854775807 : Int64))), .second, .val (.long (0 : Int64)), .second, .val (.int ((XT.ushr p3 (2 : Int32)) &&& (3 : Int32))), .val (.long (own_prod (q1 &&& (9223372036854775807 : Int64)) (0 : Int64))), .second] [(.int (XT.cmpL (own_prod (q1 &&& (9223372036854775807 : Int64)) (0 : Int64)) (0 : Int64)))])) t
          refine XS.ifNo X29.here hx rfl (hb hby at_122) rfl (XT.ll_lt_f (show ¬ ((own_prod (q1 &&& (9223372036854775807 : Int64)) (0 : Int64)) < (0 : Int64)) from (own_all (by assumption) (own_some (b := q2) (by assumption) (by first | exact Or.inl rfl | exact Or.inr (Or.inl rfl) | exact Or.inr (Or.inr rfl)))).1)) ?_
          show Steps p.tables e below (T29.setTop (mkF m 125 #[.val (.long q1), .second, .val (.long q2), .second, .val (.int p3), .val (.long (q1 &&& (9223372036854775807 : Int64))), .second, .val (.long (0 : Int64)), .second, .val (.int ((XT.ushr p3 (2 : Int32)) &&& (3 : Int32))), .val (.long (own_prod (q1 &&& (9223372036854775807 : Int64)) (0 : Int64))), .second] [])) t
          refine XT.lload X29.here hx rfl (hb hby at_125) rfl ?_
          show Steps p.tables e below (T29.setTop (mkF m 127 #[.val (.long q1), .second, .val (.long q2), .second, .val (.int p3), .val (.long (q1 &&& (9223372036854775807 : Int64))), .second, .val (.long (0 : Int64)), .second, .val (.int ((XT.ushr p3 (2 : Int32)) &&& (3 : Int32))), .val (.long (own_prod (q1 &&& (9223372036854775807 : Int64)) (0 : Int64))), .second] [(.long (own_prod (q1 &&& (9223372036854775807 : Int64)) (0 : Int64)))])) t
          refine XT.lload X29.here hx rfl (hb hby at_127) rfl ?_
          show Steps p.tables e below (T29.setTop (mkF m 129 #[.val (.long q1), .second, .val (.long q2), .second, .val (.int p3), .val (.long (q1 &&& (9223372036854775807 : Int64))), .second, .val (.long (0 : Int64)), .second, .val (.int ((XT.ushr p3 (2 : Int32)) &&& (3 : Int32))), .val (.long (own_prod (q1 &&& (9223372036854775807 : Int64)) (0 : Int64))), .second] [(.long (q1 &&& (9223372036854775807 : Int64))), (.long (own_prod (q1 &&& (9223372036854775807 : Int64)) (0 : Int64)))])) t
          refine XT.lcmp X29.here hx rfl (hb hby at_129) rfl ?_
          show Steps p.tables e below (T29.setTop (mkF m 130 #[.val (.long q1), .second, .val (.long q2), .second, .val (.int p3), .val (.long (q1 &&& (9223372036854775807 : Int64))), .second, .val (.long (0 : Int64)), .second, .val (.int ((XT.ushr p3 (2 : Int32)) &&& (3 : Int32))), .val (.long (own_prod (q1 &&& (9223372036854775807 : Int64)) (0 : Int64))), .second] [(.int (XT.cmpL (own_prod (q1 &&& (9223372036854775807 : Int64)) (0 : Int64)) (q1 &&& (9223372036854775807 : Int64))))])) t
          refine XS.ifNo X29.here hx rfl (hb hby at_130) rfl (XT.ll_gt_f (show ¬ ((q1 &&& (9223372036854775807 : Int64)) < (own_prod (q1 &&& (9223372036854775807 : Int64)) (0 : Int64))) from (own_all (by assumption) (own_some (b := q2) (by assumption) (by first | exact Or.inl rfl | exact Or.inr (Or.inl rfl) | exact Or.inr (Or.inr rfl)))).2.1)) ?_
          show Steps p.tables e below (T29.setTop (mkF m 133 #[.val (.long q1), .second, .val (.long q2), .second, .val (.int p3), .val (.long (q1 &&& (9223372036854775807 : Int64))), .second, .val (.long (0 : Int64)), .second, .val (.int ((XT.ushr p3 (2 : Int32)) &&& (3 : Int32))), .val (.long (own_prod (q1 &&& (9223372036854775807 : Int64)) (0 : Int64))), .second] [])) t
          refine XT.lload X29.here hx rfl (hb hby at_133) rfl ?_
          show Steps p.tables e below (T29.setTop (mkF m 135 #[.val (.long q1), .second, .val (.long q2), .second, .val (.int p3), .val (.long (q1 &&& (9223372036854775807 : Int64))), .second, .val (.long (0 : Int64)), .second, .val (.int ((XT.ushr p3 (2 : Int32)) &&& (3 : Int32))), .val (.long (own_prod (q1 &&& (9223372036854775807 : Int64)) (0 : Int64))), .second] [(.long (own_prod (q1 &&& (9223372036854775807 : Int64)) (0 : Int64)))])) t
          refine XT.lload X29.here hx rfl (hb hby at_135) rfl ?_
          show Steps p.tables e below (T29.setTop (mkF m 137 #[.val (.long q1), .second, .val (.long q2), .second, .val (.int p3), .val (.long (q1 &&& (9223372036854775807 : Int64))), .second, .val (.long (0 : Int64)), .second, .val (.int ((XT.ushr p3 (2 : Int32)) &&& (3 : Int32))), .val (.long (own_prod (q1 &&& (9223372036854775807 : Int64)) (0 : Int64))), .second] [(.long (0 : Int64)), (.long (own_prod (q1 &&& (9223372036854775807 : Int64)) (0 : Int64)))])) t
          refine XT.ladd X29.here hx rfl (hb hby at_137) rfl ?_
          show Steps p.tables e below (T29.setTop (mkF m 138 #[.val (.long q1), .second, .val (.long q2), .second, .val (.int p3), .val (.long (q1 &&& (9223372036854775807 : Int64))), .second, .val (.long (0 : Int64)), .second, .val (.int ((XT.ushr p3 (2 : Int32)) &&& (3 : Int32))), .val (.long (own_prod (q1 &&& (9223372036854775807 : Int64)) (0 : Int64))), .second] [(.long ((own_prod (q1 &&& (9223372036854775807 : Int64)) (0 : Int64)) + (0 : Int64)))])) t
          refine XT.lload X29.here hx rfl (hb hby at_138) rfl ?_
          show Steps p.tables e below (T29.setTop (mkF m 140 #[.val (.long q1), .second, .val (.long q2), .second, .val (.int p3), .val (.long (q1 &&& (9223372036854775807 : Int64))), .second, .val (.long (0 : Int64)), .second, .val (.int ((XT.ushr p3 (2 : Int32)) &&& (3 : Int32))), .val (.long (own_prod (q1 &&& (9223372036854775807 : Int64)) (0 : Int64))), .second] [(.long (q1 &&& (9223372036854775807 : Int64))), (.long ((own_prod (q1 &&& (9223372036854775807 : Int64)) (0 : Int64)) + (0 : Int64)))])) t
          refine XT.lcmp X29.here hx rfl (hb hby at_140) rfl ?_
          show Steps p.tables e below (T29.setTop (mkF m 141 #[.val (.long q1), .second, .val (.long q2), .second, .val (.int p3), .val (.long (q1 &&& (9223372036854775807 : Int64))), .second, .val (.long (0 : Int64)), .second, .val (.int ((XT.ushr p3 (2 : Int32)) &&& (3 : Int32))), .val (.long (own_prod (q1 &&& (9223372036854775807 : Int64)) (0 : Int64))), .second] [(.int (XT.cmpL ((own_prod (q1 &&& (9223372036854775807 : Int64)) (0 : Int64)) + (0 : Int64)) (q1 &&& (9223372036854775807 : Int64))))])) t
          refine XS.ifNo X29.here hx rfl (hb hby at_141) rfl (XT.ll_ne_f (show ((own_prod (q1 &&& (9223372036854775807 : Int64)) (0 : Int64)) + (0 : Int64)) = (q1 &&& (9223372036854775807 : Int64)) from (own_all (by assumption) (own_some (b := q2) (by assumption) (by first | exact Or.inl rfl | exact Or.inr (Or.inl rfl) | exact Or.inr (Or.inr rfl)))).2.2)) ?_
          show Steps p.tables e below (T29.setTop (mkF m 144 #[.val (.long q1), .second, .val (.long q2), .second, .val (.int p3), .val (.long (q1 &&& (9223372036854775807 : Int64))), .second, .val (.long (0 : Int64)), .second, .val (.int ((XT.ushr p3 (2 : Int32)) &&& (3 : Int32))), .val (.long (own_prod (q1 &&& (9223372036854775807 : Int64)) (0 : Int64))), .second] [])) t
          refine XS.iconst X29.here hx rfl (hb hby at_144) ?_
          show Steps p.tables e below (T29.setTop (mkF m 145 #[.val (.long q1), .second, .val (.long q2), .second, .val (.int p3), .val (.long (q1 &&& (9223372036854775807 : Int64))), .second, .val (.long (0 : Int64)), .second, .val (.int ((XT.ushr p3 (2 : Int32)) &&& (3 : Int32))), .val (.long (own_prod (q1 &&& (9223372036854775807 : Int64)) (0 : Int64))), .second] [(.int (1 : Int32))])) t
          refine XS.goto X29.here hx rfl (pc0 := 145) (pc' := 149) rfl (hb hby at_145) (by decide) (by decide) ?_
          show Steps p.tables e below (T29.setTop (mkF m 149 #[.val (.long q1), .second, .val (.long q2), .second, .val (.int p3), .val (.long (q1 &&& (9223372036854775807 : Int64))), .second, .val (.long (0 : Int64)), .second, .val (.int ((XT.ushr p3 (2 : Int32)) &&& (3 : Int32))), .val (.long (own_prod (q1 &&& (9223372036854775807 : Int64)) (0 : Int64))), .second] [(.int (1 : Int32))])) t
          exact k)
        obtain ⟨fs, hr, hrun, hended, hW, hsame⟩ := X29.leave (v := some (.int (1 : Int32))) (fun h => by rw [Bd.returns] at h; cases h)
        refine ⟨_, _, pre38 _ ?_, hrun, hended, _, _, rfl, ?_, ⟨_, rfl⟩, hW, hsame.mono (by decide) (by decide)⟩
        · show Steps p.tables e below (T29.setTop (mkF m 149 #[.val (.long q1), .second, .val (.long q2), .second, .val (.int p3), .val (.long (q1 &&& (9223372036854775807 : Int64))), .second, .val (.long (0 : Int64)), .second, .val (.int ((XT.ushr p3 (2 : Int32)) &&& (3 : Int32))), .val (.long (own_prod (q1 &&& (9223372036854775807 : Int64)) (0 : Int64))), .second] [(.int (1 : Int32))])) _
          exact retN X29 hx (t := .boolean) Bd.returns (by simp) (hb hby at_149) hr
        · show Q0 Z q1 q2 p3 h0 n0 _ T29.heap _
          rw [eh29]
          exact ⟨rfl, N29⟩
    · skip
      have pre40 : ∀ t, Steps p.tables e below (s₁.setTop (mkF m 44 #[.val (.long q1), .second, .val (.long q2), .second, .val (.int p3), .val (.long (q1 &&& (9223372036854775807 : Int64))), .second, .unset, .unset, .val (.int ((XT.ushr p3 (2 : Int32)) &&& (3 : Int32))), .unset, .unset] [(.int (1 : Int32)), (.int ((XT.ushr p3 (2 : Int32)) &&& (3 : Int32)))])) t → Steps p.tables e below (s₁.setTop (entryFrame m #[(.long q1), (.long q2), (.int p3)] maxLocals)) t := fun t k => pre27 t (by
        show Steps p.tables e below (s₁.setTop (mkF m 32 #[.val (.long q1), .second, .val (.long q2), .second, .val (.int p3), .val (.long (q1 &&& (9223372036854775807 : Int64))), .second, .unset, .unset, .val (.int ((XT.ushr p3 (2 : Int32)) &&& (3 : Int32))), .unset, .unset] [(.int ((XT.ushr p3 (2 : Int32)) &&& (3 : Int32)))])) t
        refine XS.ifYes X0.here hx rfl (pc0 := 32) (pc' := 41) rfl (hb hby at_32) rfl (XT.i0_ne_t hc32_26) (by decide) (by decide) ?_
        show Steps p.tables e below (s₁.setTop (mkF m 41 #[.val (.long q1), .second, .val (.long q2), .second, .val (.int p3), .val (.long (q1 &&& (9223372036854775807 : Int64))), .second, .unset, .unset, .val (.int ((XT.ushr p3 (2 : Int32)) &&& (3 : Int32))), .unset, .unset] [])) t
        refine XS.iload X0.here hx rfl (hb hby at_41) rfl ?_
        show Steps p.tables e below (s₁.setTop (mkF m 43 #[.val (.long q1), .second, .val (.long q2), .second, .val (.int p3), .val (.long (q1 &&& (9223372036854775807 : Int64))), .second, .unset, .unset, .val (.int ((XT.ushr p3 (2 : Int32)) &&& (3 : Int32))), .unset, .unset] [(.int ((XT.ushr p3 (2 : Int32)) &&& (3 : Int32)))])) t
        refine XS.iconst X0.here hx rfl (hb hby at_43) ?_
        show Steps p.tables e below (s₁.setTop (mkF m 44 #[.val (.long q1), .second, .val (.long q2), .second, .val (.int p3), .val (.long (q1 &&& (9223372036854775807 : Int64))), .second, .unset, .unset, .val (.int ((XT.ushr p3 (2 : Int32)) &&& (3 : Int32))), .unset, .unset] [(.int (1 : Int32)), (.int ((XT.ushr p3 (2 : Int32)) &&& (3 : Int32)))])) t
        exact k)
      by_cases hc44_39 : ((XT.ushr p3 (2 : Int32)) &&& (3 : Int32)) = (1 : Int32)
      · skip
        have pre41 : ∀ t, Steps p.tables e below (s₁.setTop (mkF m 89 #[.val (.long q1), .second, .val (.long q2), .second, .val (.int p3), .val (.long (q1 &&& (9223372036854775807 : Int64))), .second, .val (.long (q1 &&& (9223372036854775807 : Int64))), .second, .val (.int ((XT.ushr p3 (2 : Int32)) &&& (3 : Int32))), .unset, .unset] [(.long (q1 &&& (9223372036854775807 : Int64))), (.long (q1 &&& (9223372036854775807 : Int64)))])) t → Steps p.tables e below (s₁.setTop (entryFrame m #[(.long q1), (.long q2), (.int p3)] maxLocals)) t := fun t k => pre40 t (by
          show Steps p.tables e below (s₁.setTop (mkF m 44 #[.val (.long q1), .second, .val (.long q2), .second, .val (.int p3), .val (.long (q1 &&& (9223372036854775807 : Int64))), .second, .unset, .unset, .val (.int ((XT.ushr p3 (2 : Int32)) &&& (3 : Int32))), .unset, .unset] [(.int (1 : Int32)), (.int ((XT.ushr p3 (2 : Int32)) &&& (3 : Int32)))])) t
          refine XS.icmpNo X0.here hx rfl (hb hby at_44) rfl (XT.ii_ne_f hc44_39) ?_
          show Steps p.tables e below (s₁.setTop (mkF m 47 #[.val (.long q1), .second, .val (.long q2), .second, .val (.int p3), .val (.long (q1 &&& (9223372036854775807 : Int64))), .second, .unset, .unset, .val (.int ((XT.ushr p3 (2 : Int32)) &&& (3 : Int32))), .unset, .unset] [])) t
          refine XT.lload X0.here hx rfl (hb hby at_47) rfl ?_
          show Steps p.tables e below (s₁.setTop (mkF m 49 #[.val (.long q1), .second, .val (.long q2), .second, .val (.int p3), .val (.long (q1 &&& (9223372036854775807 : Int64))), .second, .unset, .unset, .val (.int ((XT.ushr p3 (2 : Int32)) &&& (3 : Int32))), .unset, .unset] [(.long (q1 &&& (9223372036854775807 : Int64)))])) t
          refine XT.lstore X0.here hx rfl (hb hby at_49) rfl (l' := #[.val (.long q1), .second, .val (.long q2), .second, .val (.int p3), .val (.long (q1 &&& (9223372036854775807 : Int64))), .second, .val (.long (q1 &&& (9223372036854775807 : Int64))), .second, .val (.int ((XT.ushr p3 (2 : Int32)) &&& (3 : Int32))), .unset, .unset]) rfl ?_
          show Steps p.tables e below (s₁.setTop (mkF m 51 #[.val (.long q1), .second, .val (.long q2), .second, .val (.int p3), .val (.long (q1 &&& (9223372036854775807 : Int64))), .second, .val (.long (q1 &&& (9223372036854775807 : Int64))), .second, .val (.int ((XT.ushr p3 (2 : Int32)) &&& (3 : Int32))), .unset, .unset] [])) t
          refine XS.goto X0.here hx rfl (pc0 := 51) (pc' := 85) rfl (hb hby at_51) (by decide) (by decide) ?_
          show Steps p.tables e below (s₁.setTop (mkF m 85 #[.val (.long q1), .second, .val (.long q2), .second, .val (.int p3), .val (.long (q1 &&& (9223372036854775807 : Int64))), .second, .val (.long (q1 &&& (9223372036854775807 : Int64))), .second, .val (.int ((XT.ushr p3 (2 : Int32)) &&& (3 : Int32))), .unset, .unset] [])) t
          refine XT.lload X0.here hx rfl (hb hby at_85) rfl ?_
          show Steps p.tables e below (s₁.setTop (mkF m 87 #[.val (.long q1), .second, .val (.long q2), .second, .val (.int p3), .val (.long (q1 &&& (9223372036854775807 : Int64))), .second, .val (.long (q1 &&& (9223372036854775807 : Int64))), .second, .val (.int ((XT.ushr p3 (2 : Int32)) &&& (3 : Int32))), .unset, .unset] [(.long (q1 &&& (9223372036854775807 : Int64)))])) t
          refine XT.lload X0.here hx rfl (hb hby at_87) rfl ?_
          show Steps p.tables e below (s₁.setTop (mkF m 89 #[.val (.long q1), .second, .val (.long q2), .second, .val (.int p3), .val (.long (q1 &&& (9223372036854775807 : Int64))), .second, .val (.long (q1 &&& (9223372036854775807 : Int64))), .second, .val (.int ((XT.ushr p3 (2 : Int32)) &&& (3 : Int32))), .unset, .unset] [(.long (q1 &&& (9223372036854775807 : Int64))), (.long (q1 &&& (9223372036854775807 : Int64)))])) t
          exact k)
        obtain ⟨_, _, ⟨T42, L42, k42, n42⟩, -, X42, ⟨Lc42, hQ42, l42, y42, z42⟩, st42⟩ := Jvm.LawKit.callS X0 hx (y := (⟨"com/example/sluice/Demand", "produced", "(JJ)J"⟩ : MethodName)) hown (mvT hZ (hw _ (List.mem_of_getElem? (i := 1) rfl))) (mvT hZ (hw _ (List.mem_of_getElem? (i := 2) rfl))) (mvT hZ (hw _ (List.mem_of_getElem? (i := 3) rfl))) (mvT hZ (hw _ (List.mem_of_getElem? (i := 4) rfl))) (by decide) (backOf (W := 0) (rm1 l Z a0 hw [] (q1 &&& (9223372036854775807 : Int64)) (q1 &&& (9223372036854775807 : Int64)) h0 n0 Z0 ) hZ (hw _ (List.mem_of_getElem? (i := 4) rfl)) (hw _ (List.mem_of_getElem? (i := 3) rfl)) (by decide) (by decide)) (g := (mkF m 89 #[.val (.long q1), .second, .val (.long q2), .second, .val (.int p3), .val (.long (q1 &&& (9223372036854775807 : Int64))), .second, .val (.long (q1 &&& (9223372036854775807 : Int64))), .second, .val (.int ((XT.ushr p3 (2 : Int32)) &&& (3 : Int32))), .unset, .unset] [(.long (q1 &&& (9223372036854775807 : Int64))), (.long (q1 &&& (9223372036854775807 : Int64)))])) rfl (by rw [hml]; rfl) (argsL := [(.long (q1 &&& (9223372036854775807 : Int64))), (.long (q1 &&& (9223372036854775807 : Int64)))]) (rest := []) (lenOf pd_oJJcJ rfl) rfl (by show 2 * 0 + _ ≤ _; exact Nat.le_of_eq rfl) (hb hby at_89) (fun _ _ => ⟨rfl, eh0, (by decide : 0 + 0 ≤ _), (by decide : 0 + 0 ≤ _)⟩)
        dsimp only [Pt.U, Pt.locs, Pt.cells, Pt.slots] at X42 l42 y42 z42 st42 hQ42
        subst l42 y42 z42
        obtain ⟨rfl, N42q, eh42⟩ := hQ42
        have N42 := Fr.app N0 N42q
        have pre43 : ∀ t, Steps p.tables e below (T42.setTop (mkF m 92 #[.val (.long q1), .second, .val (.long q2), .second, .val (.int p3), .val (.long (q1 &&& (9223372036854775807 : Int64))), .second, .val (.long (q1 &&& (9223372036854775807 : Int64))), .second, .val (.int ((XT.ushr p3 (2 : Int32)) &&& (3 : Int32))), .unset, .unset] [(.long (own_prod (q1 &&& (9223372036854775807 : Int64)) (q1 &&& (9223372036854775807 : Int64))))])) t → Steps p.tables e below (s₁.setTop (entryFrame m #[(.long q1), (.long q2), (.int p3)] maxLocals)) t := fun t k => pre41 t (st42 _ k)
        have pre45 : ∀ t, Steps p.tables e below (T42.setTop (mkF m 100 #[.val (.long q1), .second, .val (.long q2), .second, .val (.int p3), .val (.long (q1 &&& (9223372036854775807 : Int64))), .second, .val (.long (q1 &&& (9223372036854775807 : Int64))), .second, .val (.int ((XT.ushr p3 (2 : Int32)) &&& (3 : Int32))), .val (.long (own_prod (q1 &&& (9223372036854775807 : Int64)) (q1 &&& (9223372036854775807 : Int64)))), .second] [(.int (XT.cmpL (q1 &&& (9223372036854775807 : Int64)) (9223372036854775807 : Int64)))])) t → Steps p.tables e below (s₁.setTop (entryFrame m #[(.long q1), (.long q2), (.int p3)] maxLocals)) t := fun t k => pre43 t (by
          show Steps p.tables e below (T42.setTop (mkF m 92 #[.val (.long q1), .second, .val (.long q2), .second, .val (.int p3), .val (.long (q1 &&& (9223372036854775807 : Int64))), .second, .val (.long (q1 &&& (9223372036854775807 : Int64))), .second, .val (.int ((XT.ushr p3 (2 : Int32)) &&& (3 : Int32))), .unset, .unset] [(.long (own_prod (q1 &&& (9223372036854775807 : Int64)) (q1 &&& (9223372036854775807 : Int64))))])) t
          refine XT.lstore X42.here hx rfl (hb hby at_92) rfl (l' := #[.val (.long q1), .second, .val (.long q2), .second, .val (.int p3), .val (.long (q1 &&& (9223372036854775807 : Int64))), .second, .val (.long (q1 &&& (9223372036854775807 : Int64))), .second, .val (.int ((XT.ushr p3 (2 : Int32)) &&& (3 : Int32))), .val (.long (own_prod (q1 &&& (9223372036854775807 : Int64)) (q1 &&& (9223372036854775807 : Int64)))), .second]) rfl ?_
          show Steps p.tables e below (T42.setTop (mkF m 94 #[.val (.long q1), .second, .val (.long q2), .second, .val (.int p3), .val (.long (q1 &&& (9223372036854775807 : Int64))), .second, .val (.long (q1 &&& (9223372036854775807 : Int64))), .second, .val (.int ((XT.ushr p3 (2 : Int32)) &&& (3 : Int32))), .val (.long (own_prod (q1 &&& (9223372036854775807 : Int64)) (q1 &&& (9223372036854775807 : Int64)))), .second] [])) t
          refine XT.lload X42.here hx rfl (hb hby at_94) rfl ?_
          show Steps p.tables e below (T42.setTop (mkF m 96 #[.val (.long q1), .second, .val (.long q2), .second, .val (.int p3), .val (.long (q1 &&& (9223372036854775807 : Int64))), .second, .val (.long (q1 &&& (9223372036854775807 : Int64))), .second, .val (.int ((XT.ushr p3 (2 : Int32)) &&& (3 : Int32))), .val (.long (own_prod (q1 &&& (9223372036854775807 : Int64)) (q1 &&& (9223372036854775807 : Int64)))), .second] [(.long (q1 &&& (9223372036854775807 : Int64)))])) t
          refine X42.ldc2Long hx hown (mvT hZ (hw _ (List.mem_of_getElem? (i := 0) rfl))) (g := (mkF m 96 #[.val (.long q1), .second, .val (.long q2), .second, .val (.int p3), .val (.long (q1 &&& (9223372036854775807 : Int64))), .second, .val (.long (q1 &&& (9223372036854775807 : Int64))), .second, .val (.int ((XT.ushr p3 (2 : Int32)) &&& (3 : Int32))), .val (.long (own_prod (q1 &&& (9223372036854775807 : Int64)) (q1 &&& (9223372036854775807 : Int64)))), .second] [(.long (q1 &&& (9223372036854775807 : Int64)))])) rfl (hb hby at_96) _ ?_
          show Steps p.tables e below (T42.setTop (mkF m 99 #[.val (.long q1), .second, .val (.long q2), .second, .val (.int p3), .val (.long (q1 &&& (9223372036854775807 : Int64))), .second, .val (.long (q1 &&& (9223372036854775807 : Int64))), .second, .val (.int ((XT.ushr p3 (2 : Int32)) &&& (3 : Int32))), .val (.long (own_prod (q1 &&& (9223372036854775807 : Int64)) (q1 &&& (9223372036854775807 : Int64)))), .second] [(.long (9223372036854775807 : Int64)), (.long (q1 &&& (9223372036854775807 : Int64)))])) t
          refine XT.lcmp X42.here hx rfl (hb hby at_99) rfl ?_
          show Steps p.tables e below (T42.setTop (mkF m 100 #[.val (.long q1), .second, .val (.long q2), .second, .val (.int p3), .val (.long (q1 &&& (9223372036854775807 : Int64))), .second, .val (.long (q1 &&& (9223372036854775807 : Int64))), .second, .val (.int ((XT.ushr p3 (2 : Int32)) &&& (3 : Int32))), .val (.long (own_prod (q1 &&& (9223372036854775807 : Int64)) (q1 &&& (9223372036854775807 : Int64)))), .second] [(.int (XT.cmpL (q1 &&& (9223372036854775807 : Int64)) (9223372036854775807 : Int64)))])) t
          exact k)
        by_cases hc100_44 : (q1 &&& (9223372036854775807 : Int64)) = (9223372036854775807 : Int64)
        · skip
          have pre47 : ∀ t, Steps p.tables e below (T42.setTop (mkF m 117 #[.val (.long q1), .second, .val (.long q2), .second, .val (.int p3), .val (.long (q1 &&& (9223372036854775807 : Int64))), .second, .val (.long (q1 &&& (9223372036854775807 : Int64))), .second, .val (.int ((XT.ushr p3 (2 : Int32)) &&& (3 : Int32))), .val (.long (own_prod (q1 &&& (9223372036854775807 : Int64)) (q1 &&& (9223372036854775807 : Int64)))), .second] [(.int (1 : Int32))])) t → Steps p.tables e below (s₁.setTop (entryFrame m #[(.long q1), (.long q2), (.int p3)] maxLocals)) t := fun t k => pre45 t (by
            show Steps p.tables e below (T42.setTop (mkF m 100 #[.val (.long q1), .second, .val (.long q2), .second, .val (.int p3), .val (.long (q1 &&& (9223372036854775807 : Int64))), .second, .val (.long (q1 &&& (9223372036854775807 : Int64))), .second, .val (.int ((XT.ushr p3 (2 : Int32)) &&& (3 : Int32))), .val (.long (own_prod (q1 &&& (9223372036854775807 : Int64)) (q1 &&& (9223372036854775807 : Int64)))), .second] [(.int (XT.cmpL (q1 &&& (9223372036854775807 : Int64)) (9223372036854775807 : Int64)))])) t
            refine XS.ifNo X42.here hx rfl (hb hby at_100) rfl (XT.ll_ne_f hc100_44) ?_
            show Steps p.tables e below (T42.setTop (mkF m 103 #[.val (.long q1), .second, .val (.long q2), .second, .val (.int p3), .val (.long (q1 &&& (9223372036854775807 : Int64))), .second, .val (.long (q1 &&& (9223372036854775807 : Int64))), .second, .val (.int ((XT.ushr p3 (2 : Int32)) &&& (3 : Int32))), .val (.long (own_prod (q1 &&& (9223372036854775807 : Int64)) (q1 &&& (9223372036854775807 : Int64)))), .second] [])) t
            refine XT.lload X42.here hx rfl (hb hby at_103) rfl ?_
            show Steps p.tables e below (T42.setTop (mkF m 105 #[.val (.long q1), .second, .val (.long q2), .second, .val (.int p3), .val (.long (q1 &&& (9223372036854775807 : Int64))), .second, .val (.long (q1 &&& (9223372036854775807 : Int64))), .second, .val (.int ((XT.ushr p3 (2 : Int32)) &&& (3 : Int32))), .val (.long (own_prod (q1 &&& (9223372036854775807 : Int64)) (q1 &&& (9223372036854775807 : Int64)))), .second] [(.long (own_prod (q1 &&& (9223372036854775807 : Int64)) (q1 &&& (9223372036854775807 : Int64))))])) t
            refine X42.ldc2Long hx hown (mvT hZ (hw _ (List.mem_of_getElem? (i := 0) rfl))) (g := (mkF m 105 #[.val (.long q1), .second, .val (.long q2), .second, .val (.int p3), .val (.long (q1 &&& (9223372036854775807 : Int64))), .second, .val (.long (q1 &&& (9223372036854775807 : Int64))), .second, .val (.int ((XT.ushr p3 (2 : Int32)) &&& (3 : Int32))), .val (.long (own_prod (q1 &&& (9223372036854775807 : Int64)) (q1 &&& (9223372036854775807 : Int64)))), .second] [(.long (own_prod (q1 &&& (9223372036854775807 : Int64)) (q1 &&& (9223372036854775807 : Int64))))])) rfl (hb hby at_105) _ ?_
            show Steps p.tables e below (T42.setTop (mkF m 108 #[.val (.long q1), .second, .val (.long q2), .second, .val (.int p3), .val (.long (q1 &&& (9223372036854775807 : Int64))), .second, .val (.long (q1 &&& (9223372036854775807 : Int64))), .second, .val (.int ((XT.ushr p3 (2 : Int32)) &&& (3 : Int32))), .val (.long (own_prod (q1 &&& (9223372036854775807 : Int64)) (q1 &&& (9223372036854775807 : Int64)))), .second] [(.long (9223372036854775807 : Int64)), (.long (own_prod (q1 &&& (9223372036854775807 : Int64)) (q1 &&& (9223372036854775807 : Int64))))])) t
            refine XT.lcmp X42.here hx rfl (hb hby at_108) rfl ?_
            show Steps p.tables e below (T42.setTop (mkF m 109 #[.val (.long q1), .second, .val (.long q2), .second, .val (.int p3), .val (.long (q1 &&& (9223372036854775807 : Int64))), .second, .val (.long (q1 &&& (9223372036854775807 : Int64))), .second, .val (.int ((XT.ushr p3 (2 : Int32)) &&& (3 : Int32))), .val (.long (own_prod (q1 &&& (9223372036854775807 : Int64)) (q1 &&& (9223372036854775807 : Int64)))), .second] [(.int (XT.cmpL (own_prod (q1 &&& (9223372036854775807 : Int64)) (q1 &&& (9223372036854775807 : Int64))) (9223372036854775807 : Int64)))])) t
            refine XS.ifNo X42.here hx rfl (hb hby at_109) rfl (XT.ll_ne_f (show (own_prod (q1 &&& (9223372036854775807 : Int64)) (q1 &&& (9223372036854775807 : Int64))) = (9223372036854775807 : Int64) from by first | exact own_max _ | exact own_max' (by assumption))) ?_
            show Steps p.tables e below (T42.setTop (mkF m 112 #[.val (.long q1), .second, .val (.long q2), .second, .val (.int p3), .val (.long (q1 &&& (9223372036854775807 : Int64))), .second, .val (.long (q1 &&& (9223372036854775807 : Int64))), .second, .val (.int ((XT.ushr p3 (2 : Int32)) &&& (3 : Int32))), .val (.long (own_prod (q1 &&& (9223372036854775807 : Int64)) (q1 &&& (9223372036854775807 : Int64)))), .second] [])) t
            refine XS.iconst X42.here hx rfl (hb hby at_112) ?_
            show Steps p.tables e below (T42.setTop (mkF m 113 #[.val (.long q1), .second, .val (.long q2), .second, .val (.int p3), .val (.long (q1 &&& (9223372036854775807 : Int64))), .second, .val (.long (q1 &&& (9223372036854775807 : Int64))), .second, .val (.int ((XT.ushr p3 (2 : Int32)) &&& (3 : Int32))), .val (.long (own_prod (q1 &&& (9223372036854775807 : Int64)) (q1 &&& (9223372036854775807 : Int64)))), .second] [(.int (1 : Int32))])) t
            refine XS.goto X42.here hx rfl (pc0 := 113) (pc' := 117) rfl (hb hby at_113) (by decide) (by decide) ?_
            show Steps p.tables e below (T42.setTop (mkF m 117 #[.val (.long q1), .second, .val (.long q2), .second, .val (.int p3), .val (.long (q1 &&& (9223372036854775807 : Int64))), .second, .val (.long (q1 &&& (9223372036854775807 : Int64))), .second, .val (.int ((XT.ushr p3 (2 : Int32)) &&& (3 : Int32))), .val (.long (own_prod (q1 &&& (9223372036854775807 : Int64)) (q1 &&& (9223372036854775807 : Int64)))), .second] [(.int (1 : Int32))])) t
            exact k)
          obtain ⟨fs, hr, hrun, hended, hW, hsame⟩ := X42.leave (v := some (.int (1 : Int32))) (fun h => by rw [Bd.returns] at h; cases h)
          refine ⟨_, _, pre47 _ ?_, hrun, hended, _, _, rfl, ?_, ⟨_, rfl⟩, hW, hsame.mono (by decide) (by decide)⟩
          · show Steps p.tables e below (T42.setTop (mkF m 117 #[.val (.long q1), .second, .val (.long q2), .second, .val (.int p3), .val (.long (q1 &&& (9223372036854775807 : Int64))), .second, .val (.long (q1 &&& (9223372036854775807 : Int64))), .second, .val (.int ((XT.ushr p3 (2 : Int32)) &&& (3 : Int32))), .val (.long (own_prod (q1 &&& (9223372036854775807 : Int64)) (q1 &&& (9223372036854775807 : Int64)))), .second] [(.int (1 : Int32))])) _
            exact retN X42 hx (t := .boolean) Bd.returns (by simp) (hb hby at_117) hr
          · show Q0 Z q1 q2 p3 h0 n0 _ T42.heap _
            rw [eh42]
            exact ⟨rfl, N42⟩
        · skip
          have pre51 : ∀ t, Steps p.tables e below (T42.setTop (mkF m 149 #[.val (.long q1), .second, .val (.long q2), .second, .val (.int p3), .val (.long (q1 &&& (9223372036854775807 : Int64))), .second, .val (.long (q1 &&& (9223372036854775807 : Int64))), .second, .val (.int ((XT.ushr p3 (2 : Int32)) &&& (3 : Int32))), .val (.long (own_prod (q1 &&& (9223372036854775807 : Int64)) (q1 &&& (9223372036854775807 : Int64)))), .second] [(.int (1 : Int32))])) t → Steps p.tables e below (s₁.setTop (entryFrame m #[(.long q1), (.long q2), (.int p3)] maxLocals)) t := fun t k => pre45 t (by
            show Steps p.tables e below (T42.setTop (mkF m 100 #[.val (.long q1), .second, .val (.long q2), .second, .val (.int p3), .val (.long (q1 &&& (9223372036854775807 : Int64))), .second, .val (.long (q1 &&& (9223372036854775807 : Int64))), .second, .val (.int ((XT.ushr p3 (2 : Int32)) &&& (3 : Int32))), .val (.long (own_prod (q1 &&& (9223372036854775807 : Int64)) (q1 &&& (9223372036854775807 : Int64)))), .second] [(.int (XT.cmpL (q1 &&& (9223372036854775807 : Int64)) (9223372036854775807 : Int64)))])) t
            refine XS.ifYes X42.here hx rfl (pc0 := 100) (pc' := 118) rfl (hb hby at_100) rfl (XT.ll_ne_t hc100_44) (by decide) (by decide) ?_
            show Steps p.tables e below (T42.setTop (mkF m 118 #[.val (.long q1), .second, .val (.long q2), .second, .val (.int p3), .val (.long (q1 &&& (9223372036854775807 : Int64))), .second, .val (.long (q1 &&& (9223372036854775807 : Int64))), .second, .val (.int ((XT.ushr p3 (2 : Int32)) &&& (3 : Int32))), .val (.long (own_prod (q1 &&& (9223372036854775807 : Int64)) (q1 &&& (9223372036854775807 : Int64)))), .second] [])) t
            refine XT.lload X42.here hx rfl (hb hby at_118) rfl ?_
            show Steps p.tables e below (T42.setTop (mkF m 120 #[.val (.long q1), .second, .val (.long q2), .second, .val (.int p3), .val (.long (q1 &&& (9223372036854775807 : Int64))), .second, .val (.long (q1 &&& (9223372036854775807 : Int64))), .second, .val (.int ((XT.ushr p3 (2 : Int32)) &&& (3 : Int32))), .val (.long (own_prod (q1 &&& (9223372036854775807 : Int64)) (q1 &&& (9223372036854775807 : Int64)))), .second] [(.long (own_prod (q1 &&& (9223372036854775807 : Int64)) (q1 &&& (9223372036854775807 : Int64))))])) t
            refine XT.lconstV X42.here hx rfl (0 : Int64) (hb hby at_120) (by decide) ?_
            show Steps p.tables e below (T42.setTop (mkF m 121 #[.val (.long q1), .second, .val (.long q2), .second, .val (.int p3), .val (.long (q1 &&& (9223372036854775807 : Int64))), .second, .val (.long (q1 &&& (9223372036854775807 : Int64))), .second, .val (.int ((XT.ushr p3 (2 : Int32)) &&& (3 : Int32))), .val (.long (own_prod (q1 &&& (9223372036854775807 : Int64)) (q1 &&& (9223372036854775807 : Int64)))), .second] [(.long (0 : Int64)), (.long (own_prod (q1 &&& (9223372036854775807 : Int64)) (q1 &&& (9223372036854775807 : Int64))))])) t
            refine XT.lcmp X42.here hx rfl (hb hby at_121) rfl ?_
            show Steps p.tables e below (T42.setTop (mkF m 122 #[.val (.long q1), .second, .val (.long q2), .second, .val (.int p3), .val (.long (q1 &&& (9223372036854775807 : Int64))), .second, .val (.long (q1 &&& (9223372036854775807 : Int64))), .second, .val (.int ((XT.ushr p3 (2 : Int32)) &&& (3 : Int32))), .val (.long (own_prod (q1 &&& (9223372036854775807 : Int64)) (q1 &&& (9223372036854775807 : Int64)))), .second] [(.int (XT.cmpL (own_prod (q1 &&& (9223372036854775807 : Int64)) (q1 &&& (9223372036854775807 : Int64))) (0 : Int64)))])) t
            refine XS.ifNo X42.here hx rfl (hb hby at_122) rfl (XT.ll_lt_f (show ¬ ((own_prod (q1 &&& (9223372036854775807 : Int64)) (q1 &&& (9223372036854775807 : Int64))) < (0 : Int64)) from (own_all (by assumption) (own_some (b := q2) (by assumption) (by first | exact Or.inl rfl | exact Or.inr (Or.inl rfl) | exact Or.inr (Or.inr rfl)))).1)) ?_
            show Steps p.tables e below (T42.setTop (mkF m 125 #[.val (.long q1), .second, .val (.long q2), .second, .val (.int p3), .val (.long (q1 &&& (9223372036854775807 : Int64))), .second, .val (.long (q1 &&& (9223372036854775807 : Int64))), .second, .val (.int ((XT.ushr p3 (2 : Int32)) &&& (3 : Int32))), .val (.long (own_prod (q1 &&& (9223372036854775807 : Int64)) (q1 &&& (9223372036854775807 : Int64)))), .second] [])) t
            refine XT.lload X42.here hx rfl (hb hby at_125) rfl ?_
            show Steps p.tables e below (T42.setTop (mkF m 127 #[.val (.long q1), .second, .val (.long q2), .second, .val (.int p3), .val (.long (q1 &&& (9223372036854775807 : Int64))), .second, .val (.long (q1 &&& (9223372036854775807 : Int64))), .second, .val (.int ((XT.ushr p3 (2 : Int32)) &&& (3 : Int32))), .val (.long (own_prod (q1 &&& (9223372036854775807 : Int64)) (q1 &&& (9223372036854775807 : Int64)))), .second] [(.long (own_prod (q1 &&& (9223372036854775807 : Int64)) (q1 &&& (9223372036854775807 : Int64))))])) t
            refine XT.lload X42.here hx rfl (hb hby at_127) rfl ?_
            show Steps p.tables e below (T42.setTop (mkF m 129 #[.val (.long q1), .second, .val (.long q2), .second, .val (.int p3), .val (.long (q1 &&& (9223372036854775807 : Int64))), .second, .val (.long (q1 &&& (9223372036854775807 : Int64))), .second, .val (.int ((XT.ushr p3 (2 : Int32)) &&& (3 : Int32))), .val (.long (own_prod (q1 &&& (9223372036854775807 : Int64)) (q1 &&& (9223372036854775807 : Int64)))), .second] [(.long (q1 &&& (9223372036854775807 : Int64))), (.long (own_prod (q1 &&& (9223372036854775807 : Int64)) (q1 &&& (9223372036854775807 : Int64))))])) t
            refine XT.lcmp X42.here hx rfl (hb hby at_129) rfl ?_
            show Steps p.tables e below (T42.setTop (mkF m 130 #[.val (.long q1), .second, .val (.long q2), .second, .val (.int p3), .val (.long (q1 &&& (9223372036854775807 : Int64))), .second, .val (.long (q1 &&& (9223372036854775807 : Int64))), .second, .val (.int ((XT.ushr p3 (2 : Int32)) &&& (3 : Int32))), .val (.long (own_prod (q1 &&& (9223372036854775807 : Int64)) (q1 &&& (9223372036854775807 : Int64)))), .second] [(.int (XT.cmpL (own_prod (q1 &&& (9223372036854775807 : Int64)) (q1 &&& (9223372036854775807 : Int64))) (q1 &&& (9223372036854775807 : Int64))))])) t
            refine XS.ifNo X42.here hx rfl (hb hby at_130) rfl (XT.ll_gt_f (show ¬ ((q1 &&& (9223372036854775807 : Int64)) < (own_prod (q1 &&& (9223372036854775807 : Int64)) (q1 &&& (9223372036854775807 : Int64)))) from (own_all (by assumption) (own_some (b := q2) (by assumption) (by first | exact Or.inl rfl | exact Or.inr (Or.inl rfl) | exact Or.inr (Or.inr rfl)))).2.1)) ?_
            show Steps p.tables e below (T42.setTop (mkF m 133 #[.val (.long q1), .second, .val (.long q2), .second, .val (.int p3), .val (.long (q1 &&& (9223372036854775807 : Int64))), .second, .val (.long (q1 &&& (9223372036854775807 : Int64))), .second, .val (.int ((XT.ushr p3 (2 : Int32)) &&& (3 : Int32))), .val (.long (own_prod (q1 &&& (9223372036854775807 : Int64)) (q1 &&& (9223372036854775807 : Int64)))), .second] [])) t
            refine XT.lload X42.here hx rfl (hb hby at_133) rfl ?_
            show Steps p.tables e below (T42.setTop (mkF m 135 #[.val (.long q1), .second, .val (.long q2), .second, .val (.int p3), .val (.long (q1 &&& (9223372036854775807 : Int64))), .second, .val (.long (q1 &&& (9223372036854775807 : Int64))), .second, .val (.int ((XT.ushr p3 (2 : Int32)) &&& (3 : Int32))), .val (.long (own_prod (q1 &&& (9223372036854775807 : Int64)) (q1 &&& (9223372036854775807 : Int64)))), .second] [(.long (own_prod (q1 &&& (9223372036854775807 : Int64)) (q1 &&& (9223372036854775807 : Int64))))])) t
            refine XT.lload X42.here hx rfl (hb hby at_135) rfl ?_
            show Steps p.tables e below (T42.setTop (mkF m 137 #[.val (.long q1), .second, .val (.long q2), .second, .val (.int p3), .val (.long (q1 &&& (9223372036854775807 : Int64))), .second, .val (.long (q1 &&& (9223372036854775807 : Int64))), .second, .val (.int ((XT.ushr p3 (2 : Int32)) &&& (3 : Int32))), .val (.long (own_prod (q1 &&& (9223372036854775807 : Int64)) (q1 &&& (9223372036854775807 : Int64)))), .second] [(.long (q1 &&& (9223372036854775807 : Int64))), (.long (own_prod (q1 &&& (9223372036854775807 : Int64)) (q1 &&& (9223372036854775807 : Int64))))])) t
            refine XT.ladd X42.here hx rfl (hb hby at_137) rfl ?_
            show Steps p.tables e below (T42.setTop (mkF m 138 #[.val (.long q1), .second, .val (.long q2), .second, .val (.int p3), .val (.long (q1 &&& (9223372036854775807 : Int64))), .second, .val (.long (q1 &&& (9223372036854775807 : Int64))), .second, .val (.int ((XT.ushr p3 (2 : Int32)) &&& (3 : Int32))), .val (.long (own_prod (q1 &&& (9223372036854775807 : Int64)) (q1 &&& (9223372036854775807 : Int64)))), .second] [(.long ((own_prod (q1 &&& (9223372036854775807 : Int64)) (q1 &&& (9223372036854775807 : Int64))) + (q1 &&& (9223372036854775807 : Int64))))])) t
            refine XT.lload X42.here hx rfl (hb hby at_138) rfl ?_
            show Steps p.tables e below (T42.setTop (mkF m 140 #[.val (.long q1), .second, .val (.long q2), .second, .val (.int p3), .val (.long (q1 &&& (9223372036854775807 : Int64))), .second, .val (.long (q1 &&& (9223372036854775807 : Int64))), .second, .val (.int ((XT.ushr p3 (2 : Int32)) &&& (3 : Int32))), .val (.long (own_prod (q1 &&& (9223372036854775807 : Int64)) (q1 &&& (9223372036854775807 : Int64)))), .second] [(.long (q1 &&& (9223372036854775807 : Int64))), (.long ((own_prod (q1 &&& (9223372036854775807 : Int64)) (q1 &&& (9223372036854775807 : Int64))) + (q1 &&& (9223372036854775807 : Int64))))])) t
            refine XT.lcmp X42.here hx rfl (hb hby at_140) rfl ?_
            show Steps p.tables e below (T42.setTop (mkF m 141 #[.val (.long q1), .second, .val (.long q2), .second, .val (.int p3), .val (.long (q1 &&& (9223372036854775807 : Int64))), .second, .val (.long (q1 &&& (9223372036854775807 : Int64))), .second, .val (.int ((XT.ushr p3 (2 : Int32)) &&& (3 : Int32))), .val (.long (own_prod (q1 &&& (9223372036854775807 : Int64)) (q1 &&& (9223372036854775807 : Int64)))), .second] [(.int (XT.cmpL ((own_prod (q1 &&& (9223372036854775807 : Int64)) (q1 &&& (9223372036854775807 : Int64))) + (q1 &&& (9223372036854775807 : Int64))) (q1 &&& (9223372036854775807 : Int64))))])) t
            refine XS.ifNo X42.here hx rfl (hb hby at_141) rfl (XT.ll_ne_f (show ((own_prod (q1 &&& (9223372036854775807 : Int64)) (q1 &&& (9223372036854775807 : Int64))) + (q1 &&& (9223372036854775807 : Int64))) = (q1 &&& (9223372036854775807 : Int64)) from (own_all (by assumption) (own_some (b := q2) (by assumption) (by first | exact Or.inl rfl | exact Or.inr (Or.inl rfl) | exact Or.inr (Or.inr rfl)))).2.2)) ?_
            show Steps p.tables e below (T42.setTop (mkF m 144 #[.val (.long q1), .second, .val (.long q2), .second, .val (.int p3), .val (.long (q1 &&& (9223372036854775807 : Int64))), .second, .val (.long (q1 &&& (9223372036854775807 : Int64))), .second, .val (.int ((XT.ushr p3 (2 : Int32)) &&& (3 : Int32))), .val (.long (own_prod (q1 &&& (9223372036854775807 : Int64)) (q1 &&& (9223372036854775807 : Int64)))), .second] [])) t
            refine XS.iconst X42.here hx rfl (hb hby at_144) ?_
            show Steps p.tables e below (T42.setTop (mkF m 145 #[.val (.long q1), .second, .val (.long q2), .second, .val (.int p3), .val (.long (q1 &&& (9223372036854775807 : Int64))), .second, .val (.long (q1 &&& (9223372036854775807 : Int64))), .second, .val (.int ((XT.ushr p3 (2 : Int32)) &&& (3 : Int32))), .val (.long (own_prod (q1 &&& (9223372036854775807 : Int64)) (q1 &&& (9223372036854775807 : Int64)))), .second] [(.int (1 : Int32))])) t
            refine XS.goto X42.here hx rfl (pc0 := 145) (pc' := 149) rfl (hb hby at_145) (by decide) (by decide) ?_
            show Steps p.tables e below (T42.setTop (mkF m 149 #[.val (.long q1), .second, .val (.long q2), .second, .val (.int p3), .val (.long (q1 &&& (9223372036854775807 : Int64))), .second, .val (.long (q1 &&& (9223372036854775807 : Int64))), .second, .val (.int ((XT.ushr p3 (2 : Int32)) &&& (3 : Int32))), .val (.long (own_prod (q1 &&& (9223372036854775807 : Int64)) (q1 &&& (9223372036854775807 : Int64)))), .second] [(.int (1 : Int32))])) t
            exact k)
          obtain ⟨fs, hr, hrun, hended, hW, hsame⟩ := X42.leave (v := some (.int (1 : Int32))) (fun h => by rw [Bd.returns] at h; cases h)
          refine ⟨_, _, pre51 _ ?_, hrun, hended, _, _, rfl, ?_, ⟨_, rfl⟩, hW, hsame.mono (by decide) (by decide)⟩
          · show Steps p.tables e below (T42.setTop (mkF m 149 #[.val (.long q1), .second, .val (.long q2), .second, .val (.int p3), .val (.long (q1 &&& (9223372036854775807 : Int64))), .second, .val (.long (q1 &&& (9223372036854775807 : Int64))), .second, .val (.int ((XT.ushr p3 (2 : Int32)) &&& (3 : Int32))), .val (.long (own_prod (q1 &&& (9223372036854775807 : Int64)) (q1 &&& (9223372036854775807 : Int64)))), .second] [(.int (1 : Int32))])) _
            exact retN X42 hx (t := .boolean) Bd.returns (by simp) (hb hby at_149) hr
          · show Q0 Z q1 q2 p3 h0 n0 _ T42.heap _
            rw [eh42]
            exact ⟨rfl, N42⟩
      · skip
        have pre53 : ∀ t, Steps p.tables e below (s₁.setTop (mkF m 60 #[.val (.long q1), .second, .val (.long q2), .second, .val (.int p3), .val (.long (q1 &&& (9223372036854775807 : Int64))), .second, .unset, .unset, .val (.int ((XT.ushr p3 (2 : Int32)) &&& (3 : Int32))), .unset, .unset] [(.int (XT.cmpL (q1 &&& (9223372036854775807 : Int64)) (9223372036854775807 : Int64)))])) t → Steps p.tables e below (s₁.setTop (entryFrame m #[(.long q1), (.long q2), (.int p3)] maxLocals)) t := fun t k => pre40 t (by
          show Steps p.tables e below (s₁.setTop (mkF m 44 #[.val (.long q1), .second, .val (.long q2), .second, .val (.int p3), .val (.long (q1 &&& (9223372036854775807 : Int64))), .second, .unset, .unset, .val (.int ((XT.ushr p3 (2 : Int32)) &&& (3 : Int32))), .unset, .unset] [(.int (1 : Int32)), (.int ((XT.ushr p3 (2 : Int32)) &&& (3 : Int32)))])) t
          refine XS.icmpYes X0.here hx rfl (pc0 := 44) (pc' := 54) rfl (hb hby at_44) rfl (XT.ii_ne_t hc44_39) (by decide) (by decide) ?_
          show Steps p.tables e below (s₁.setTop (mkF m 54 #[.val (.long q1), .second, .val (.long q2), .second, .val (.int p3), .val (.long (q1 &&& (9223372036854775807 : Int64))), .second, .unset, .unset, .val (.int ((XT.ushr p3 (2 : Int32)) &&& (3 : Int32))), .unset, .unset] [])) t
          refine XT.lload X0.here hx rfl (hb hby at_54) rfl ?_
          show Steps p.tables e below (s₁.setTop (mkF m 56 #[.val (.long q1), .second, .val (.long q2), .second, .val (.int p3), .val (.long (q1 &&& (9223372036854775807 : Int64))), .second, .unset, .unset, .val (.int ((XT.ushr p3 (2 : Int32)) &&& (3 : Int32))), .unset, .unset] [(.long (q1 &&& (9223372036854775807 : Int64)))])) t
          refine X0.ldc2Long hx hown (mvT hZ (hw _ (List.mem_of_getElem? (i := 0) rfl))) (g := (mkF m 56 #[.val (.long q1), .second, .val (.long q2), .second, .val (.int p3), .val (.long (q1 &&& (9223372036854775807 : Int64))), .second, .unset, .unset, .val (.int ((XT.ushr p3 (2 : Int32)) &&& (3 : Int32))), .unset, .unset] [(.long (q1 &&& (9223372036854775807 : Int64)))])) rfl (hb hby at_56) _ ?_
          show Steps p.tables e below (s₁.setTop (mkF m 59 #[.val (.long q1), .second, .val (.long q2), .second, .val (.int p3), .val (.long (q1 &&& (9223372036854775807 : Int64))), .second, .unset, .unset, .val (.int ((XT.ushr p3 (2 : Int32)) &&& (3 : Int32))), .unset, .unset] [(.long (9223372036854775807 : Int64)), (.long (q1 &&& (9223372036854775807 : Int64)))])) t
          refine XT.lcmp X0.here hx rfl (hb hby at_59) rfl ?_
          show Steps p.tables e below (s₁.setTop (mkF m 60 #[.val (.long q1), .second, .val (.long q2), .second, .val (.int p3), .val (.long (q1 &&& (9223372036854775807 : Int64))), .second, .unset, .unset, .val (.int ((XT.ushr p3 (2 : Int32)) &&& (3 : Int32))), .unset, .unset] [(.int (XT.cmpL (q1 &&& (9223372036854775807 : Int64)) (9223372036854775807 : Int64)))])) t
          exact k)
        by_cases hc60_52 : (q1 &&& (9223372036854775807 : Int64)) = (9223372036854775807 : Int64)
        · skip
          have pre54 : ∀ t, Steps p.tables e below (s₁.setTop (mkF m 89 #[.val (.long q1), .second, .val (.long q2), .second, .val (.int p3), .val (.long (q1 &&& (9223372036854775807 : Int64))), .second, .val (.long (q2 &&& (9223372036854775807 : Int64))), .second, .val (.int ((XT.ushr p3 (2 : Int32)) &&& (3 : Int32))), .unset, .unset] [(.long (q2 &&& (9223372036854775807 : Int64))), (.long (q1 &&& (9223372036854775807 : Int64)))])) t → Steps p.tables e below (s₁.setTop (entryFrame m #[(.long q1), (.long q2), (.int p3)] maxLocals)) t := fun t k => pre53 t (by
            show Steps p.tables e below (s₁.setTop (mkF m 60 #[.val (.long q1), .second, .val (.long q2), .second, .val (.int p3), .val (.long (q1 &&& (9223372036854775807 : Int64))), .second, .unset, .unset, .val (.int ((XT.ushr p3 (2 : Int32)) &&& (3 : Int32))), .unset, .unset] [(.int (XT.cmpL (q1 &&& (9223372036854775807 : Int64)) (9223372036854775807 : Int64)))])) t
            refine XS.ifNo X0.here hx rfl (hb hby at_60) rfl (XT.ll_ne_f hc60_52) ?_
            show Steps p.tables e below (s₁.setTop (mkF m 63 #[.val (.long q1), .second, .val (.long q2), .second, .val (.int p3), .val (.long (q1 &&& (9223372036854775807 : Int64))), .second, .unset, .unset, .val (.int ((XT.ushr p3 (2 : Int32)) &&& (3 : Int32))), .unset, .unset] [])) t
            refine XT.lloadN X0.here hx rfl (hb hby at_63) rfl ?_
            show Steps p.tables e below (s₁.setTop (mkF m 64 #[.val (.long q1), .second, .val (.long q2), .second, .val (.int p3), .val (.long (q1 &&& (9223372036854775807 : Int64))), .second, .unset, .unset, .val (.int ((XT.ushr p3 (2 : Int32)) &&& (3 : Int32))), .unset, .unset] [(.long q2)])) t
            refine X0.ldc2Long hx hown (mvT hZ (hw _ (List.mem_of_getElem? (i := 0) rfl))) (g := (mkF m 64 #[.val (.long q1), .second, .val (.long q2), .second, .val (.int p3), .val (.long (q1 &&& (9223372036854775807 : Int64))), .second, .unset, .unset, .val (.int ((XT.ushr p3 (2 : Int32)) &&& (3 : Int32))), .unset, .unset] [(.long q2)])) rfl (hb hby at_64) _ ?_
            show Steps p.tables e below (s₁.setTop (mkF m 67 #[.val (.long q1), .second, .val (.long q2), .second, .val (.int p3), .val (.long (q1 &&& (9223372036854775807 : Int64))), .second, .unset, .unset, .val (.int ((XT.ushr p3 (2 : Int32)) &&& (3 : Int32))), .unset, .unset] [(.long (9223372036854775807 : Int64)), (.long q2)])) t
            refine XT.land X0.here hx rfl (hb hby at_67) rfl ?_
            show Steps p.tables e below (s₁.setTop (mkF m 68 #[.val (.long q1), .second, .val (.long q2), .second, .val (.int p3), .val (.long (q1 &&& (9223372036854775807 : Int64))), .second, .unset, .unset, .val (.int ((XT.ushr p3 (2 : Int32)) &&& (3 : Int32))), .unset, .unset] [(.long (q2 &&& (9223372036854775807 : Int64)))])) t
            refine XT.lstore X0.here hx rfl (hb hby at_68) rfl (l' := #[.val (.long q1), .second, .val (.long q2), .second, .val (.int p3), .val (.long (q1 &&& (9223372036854775807 : Int64))), .second, .val (.long (q2 &&& (9223372036854775807 : Int64))), .second, .val (.int ((XT.ushr p3 (2 : Int32)) &&& (3 : Int32))), .unset, .unset]) rfl ?_
            show Steps p.tables e below (s₁.setTop (mkF m 70 #[.val (.long q1), .second, .val (.long q2), .second, .val (.int p3), .val (.long (q1 &&& (9223372036854775807 : Int64))), .second, .val (.long (q2 &&& (9223372036854775807 : Int64))), .second, .val (.int ((XT.ushr p3 (2 : Int32)) &&& (3 : Int32))), .unset, .unset] [])) t
            refine XS.goto X0.here hx rfl (pc0 := 70) (pc' := 85) rfl (hb hby at_70) (by decide) (by decide) ?_
            show Steps p.tables e below (s₁.setTop (mkF m 85 #[.val (.long q1), .second, .val (.long q2), .second, .val (.int p3), .val (.long (q1 &&& (9223372036854775807 : Int64))), .second, .val (.long (q2 &&& (9223372036854775807 : Int64))), .second, .val (.int ((XT.ushr p3 (2 : Int32)) &&& (3 : Int32))), .unset, .unset] [])) t
            refine XT.lload X0.here hx rfl (hb hby at_85) rfl ?_
            show Steps p.tables e below (s₁.setTop (mkF m 87 #[.val (.long q1), .second, .val (.long q2), .second, .val (.int p3), .val (.long (q1 &&& (9223372036854775807 : Int64))), .second, .val (.long (q2 &&& (9223372036854775807 : Int64))), .second, .val (.int ((XT.ushr p3 (2 : Int32)) &&& (3 : Int32))), .unset, .unset] [(.long (q1 &&& (9223372036854775807 : Int64)))])) t
            refine XT.lload X0.here hx rfl (hb hby at_87) rfl ?_
            show Steps p.tables e below (s₁.setTop (mkF m 89 #[.val (.long q1), .second, .val (.long q2), .second, .val (.int p3), .val (.long (q1 &&& (9223372036854775807 : Int64))), .second, .val (.long (q2 &&& (9223372036854775807 : Int64))), .second, .val (.int ((XT.ushr p3 (2 : Int32)) &&& (3 : Int32))), .unset, .unset] [(.long (q2 &&& (9223372036854775807 : Int64))), (.long (q1 &&& (9223372036854775807 : Int64)))])) t
            exact k)
          obtain ⟨_, _, ⟨T55, L55, k55, n55⟩, -, X55, ⟨Lc55, hQ55, l55, y55, z55⟩, st55⟩ := Jvm.LawKit.callS X0 hx (y := (⟨"com/example/sluice/Demand", "produced", "(JJ)J"⟩ : MethodName)) hown (mvT hZ (hw _ (List.mem_of_getElem? (i := 1) rfl))) (mvT hZ (hw _ (List.mem_of_getElem? (i := 2) rfl))) (mvT hZ (hw _ (List.mem_of_getElem? (i := 3) rfl))) (mvT hZ (hw _ (List.mem_of_getElem? (i := 4) rfl))) (by decide) (backOf (W := 0) (rm1 l Z a0 hw [] (q1 &&& (9223372036854775807 : Int64)) (q2 &&& (9223372036854775807 : Int64)) h0 n0 Z0 ) hZ (hw _ (List.mem_of_getElem? (i := 4) rfl)) (hw _ (List.mem_of_getElem? (i := 3) rfl)) (by decide) (by decide)) (g := (mkF m 89 #[.val (.long q1), .second, .val (.long q2), .second, .val (.int p3), .val (.long (q1 &&& (9223372036854775807 : Int64))), .second, .val (.long (q2 &&& (9223372036854775807 : Int64))), .second, .val (.int ((XT.ushr p3 (2 : Int32)) &&& (3 : Int32))), .unset, .unset] [(.long (q2 &&& (9223372036854775807 : Int64))), (.long (q1 &&& (9223372036854775807 : Int64)))])) rfl (by rw [hml]; rfl) (argsL := [(.long (q1 &&& (9223372036854775807 : Int64))), (.long (q2 &&& (9223372036854775807 : Int64)))]) (rest := []) (lenOf pd_oJJcJ rfl) rfl (by show 2 * 0 + _ ≤ _; exact Nat.le_of_eq rfl) (hb hby at_89) (fun _ _ => ⟨rfl, eh0, (by decide : 0 + 0 ≤ _), (by decide : 0 + 0 ≤ _)⟩)
          dsimp only [Pt.U, Pt.locs, Pt.cells, Pt.slots] at X55 l55 y55 z55 st55 hQ55
          subst l55 y55 z55
          obtain ⟨rfl, N55q, eh55⟩ := hQ55
          have N55 := Fr.app N0 N55q
          have pre56 : ∀ t, Steps p.tables e below (T55.setTop (mkF m 92 #[.val (.long q1), .second, .val (.long q2), .second, .val (.int p3), .val (.long (q1 &&& (9223372036854775807 : Int64))), .second, .val (.long (q2 &&& (9223372036854775807 : Int64))), .second, .val (.int ((XT.ushr p3 (2 : Int32)) &&& (3 : Int32))), .unset, .unset] [(.long (own_prod (q1 &&& (9223372036854775807 : Int64)) (q2 &&& (9223372036854775807 : Int64))))])) t → Steps p.tables e below (s₁.setTop (entryFrame m #[(.long q1), (.long q2), (.int p3)] maxLocals)) t := fun t k => pre54 t (st55 _ k)
          have pre59 : ∀ t, Steps p.tables e below (T55.setTop (mkF m 117 #[.val (.long q1), .second, .val (.long q2), .second, .val (.int p3), .val (.long (q1 &&& (9223372036854775807 : Int64))), .second, .val (.long (q2 &&& (9223372036854775807 : Int64))), .second, .val (.int ((XT.ushr p3 (2 : Int32)) &&& (3 : Int32))), .val (.long (own_prod (q1 &&& (9223372036854775807 : Int64)) (q2 &&& (9223372036854775807 : Int64)))), .second] [(.int (1 : Int32))])) t → Steps p.tables e below (s₁.setTop (entryFrame m #[(.long q1), (.long q2), (.int p3)] maxLocals)) t := fun t k => pre56 t (by
            show Steps p.tables e below (T55.setTop (mkF m 92 #[.val (.long q1), .second, .val (.long q2), .second, .val (.int p3), .val (.long (q1 &&& (9223372036854775807 : Int64))), .second, .val (.long (q2 &&& (9223372036854775807 : Int64))), .second, .val (.int ((XT.ushr p3 (2 : Int32)) &&& (3 : Int32))), .unset, .unset] [(.long (own_prod (q1 &&& (9223372036854775807 : Int64)) (q2 &&& (9223372036854775807 : Int64))))])) t
            refine XT.lstore X55.here hx rfl (hb hby at_92) rfl (l' := #[.val (.long q1), .second, .val (.long q2), .second, .val (.int p3), .val (.long (q1 &&& (9223372036854775807 : Int64))), .second, .val (.long (q2 &&& (9223372036854775807 : Int64))), .second, .val (.int ((XT.ushr p3 (2 : Int32)) &&& (3 : Int32))), .val (.long (own_prod (q1 &&& (9223372036854775807 : Int64)) (q2 &&& (9223372036854775807 : Int64)))), .second]) rfl ?_
            show Steps p.tables e below (T55.setTop (mkF m 94 #[.val (.long q1), .second, .val (.long q2), .second, .val (.int p3), .val (.long (q1 &&& (9223372036854775807 : Int64))), .second, .val (.long (q2 &&& (9223372036854775807 : Int64))), .second, .val (.int ((XT.ushr p3 (2 : Int32)) &&& (3 : Int32))), .val (.long (own_prod (q1 &&& (9223372036854775807 : Int64)) (q2 &&& (9223372036854775807 : Int64)))), .second] [])) t
            refine XT.lload X55.here hx rfl (hb hby at_94) rfl ?_
            show Steps p.tables e below (T55.setTop (mkF m 96 #[.val (.long q1), .second, .val (.long q2), .second, .val (.int p3), .val (.long (q1 &&& (9223372036854775807 : Int64))), .second, .val (.long (q2 &&& (9223372036854775807 : Int64))), .second, .val (.int ((XT.ushr p3 (2 : Int32)) &&& (3 : Int32))), .val (.long (own_prod (q1 &&& (9223372036854775807 : Int64)) (q2 &&& (9223372036854775807 : Int64)))), .second] [(.long (q1 &&& (9223372036854775807 : Int64)))])) t
            refine X55.ldc2Long hx hown (mvT hZ (hw _ (List.mem_of_getElem? (i := 0) rfl))) (g := (mkF m 96 #[.val (.long q1), .second, .val (.long q2), .second, .val (.int p3), .val (.long (q1 &&& (9223372036854775807 : Int64))), .second, .val (.long (q2 &&& (9223372036854775807 : Int64))), .second, .val (.int ((XT.ushr p3 (2 : Int32)) &&& (3 : Int32))), .val (.long (own_prod (q1 &&& (9223372036854775807 : Int64)) (q2 &&& (9223372036854775807 : Int64)))), .second] [(.long (q1 &&& (9223372036854775807 : Int64)))])) rfl (hb hby at_96) _ ?_
            show Steps p.tables e below (T55.setTop (mkF m 99 #[.val (.long q1), .second, .val (.long q2), .second, .val (.int p3), .val (.long (q1 &&& (9223372036854775807 : Int64))), .second, .val (.long (q2 &&& (9223372036854775807 : Int64))), .second, .val (.int ((XT.ushr p3 (2 : Int32)) &&& (3 : Int32))), .val (.long (own_prod (q1 &&& (9223372036854775807 : Int64)) (q2 &&& (9223372036854775807 : Int64)))), .second] [(.long (9223372036854775807 : Int64)), (.long (q1 &&& (9223372036854775807 : Int64)))])) t
            refine XT.lcmp X55.here hx rfl (hb hby at_99) rfl ?_
            show Steps p.tables e below (T55.setTop (mkF m 100 #[.val (.long q1), .second, .val (.long q2), .second, .val (.int p3), .val (.long (q1 &&& (9223372036854775807 : Int64))), .second, .val (.long (q2 &&& (9223372036854775807 : Int64))), .second, .val (.int ((XT.ushr p3 (2 : Int32)) &&& (3 : Int32))), .val (.long (own_prod (q1 &&& (9223372036854775807 : Int64)) (q2 &&& (9223372036854775807 : Int64)))), .second] [(.int (XT.cmpL (q1 &&& (9223372036854775807 : Int64)) (9223372036854775807 : Int64)))])) t
            refine XS.ifNo X55.here hx rfl (hb hby at_100) rfl (XT.ll_ne_f (show (q1 &&& (9223372036854775807 : Int64)) = (9223372036854775807 : Int64) from hc60_52)) ?_
            show Steps p.tables e below (T55.setTop (mkF m 103 #[.val (.long q1), .second, .val (.long q2), .second, .val (.int p3), .val (.long (q1 &&& (9223372036854775807 : Int64))), .second, .val (.long (q2 &&& (9223372036854775807 : Int64))), .second, .val (.int ((XT.ushr p3 (2 : Int32)) &&& (3 : Int32))), .val (.long (own_prod (q1 &&& (9223372036854775807 : Int64)) (q2 &&& (9223372036854775807 : Int64)))), .second] [])) t
            refine XT.lload X55.here hx rfl (hb hby at_103) rfl ?_
            show Steps p.tables e below (T55.setTop (mkF m 105 #[.val (.long q1), .second, .val (.long q2), .second, .val (.int p3), .val (.long (q1 &&& (9223372036854775807 : Int64))), .second, .val (.long (q2 &&& (9223372036854775807 : Int64))), .second, .val (.int ((XT.ushr p3 (2 : Int32)) &&& (3 : Int32))), .val (.long (own_prod (q1 &&& (9223372036854775807 : Int64)) (q2 &&& (9223372036854775807 : Int64)))), .second] [(.long (own_prod (q1 &&& (9223372036854775807 : Int64)) (q2 &&& (9223372036854775807 : Int64))))])) t
            refine X55.ldc2Long hx hown (mvT hZ (hw _ (List.mem_of_getElem? (i := 0) rfl))) (g := (mkF m 105 #[.val (.long q1), .second, .val (.long q2), .second, .val (.int p3), .val (.long (q1 &&& (9223372036854775807 : Int64))), .second, .val (.long (q2 &&& (9223372036854775807 : Int64))), .second, .val (.int ((XT.ushr p3 (2 : Int32)) &&& (3 : Int32))), .val (.long (own_prod (q1 &&& (9223372036854775807 : Int64)) (q2 &&& (9223372036854775807 : Int64)))), .second] [(.long (own_prod (q1 &&& (9223372036854775807 : Int64)) (q2 &&& (9223372036854775807 : Int64))))])) rfl (hb hby at_105) _ ?_
            show Steps p.tables e below (T55.setTop (mkF m 108 #[.val (.long q1), .second, .val (.long q2), .second, .val (.int p3), .val (.long (q1 &&& (9223372036854775807 : Int64))), .second, .val (.long (q2 &&& (9223372036854775807 : Int64))), .second, .val (.int ((XT.ushr p3 (2 : Int32)) &&& (3 : Int32))), .val (.long (own_prod (q1 &&& (9223372036854775807 : Int64)) (q2 &&& (9223372036854775807 : Int64)))), .second] [(.long (9223372036854775807 : Int64)), (.long (own_prod (q1 &&& (9223372036854775807 : Int64)) (q2 &&& (9223372036854775807 : Int64))))])) t
            refine XT.lcmp X55.here hx rfl (hb hby at_108) rfl ?_
            show Steps p.tables e below (T55.setTop (mkF m 109 #[.val (.long q1), .second, .val (.long q2), .second, .val (.int p3), .val (.long (q1 &&& (9223372036854775807 : Int64))), .second, .val (.long (q2 &&& (9223372036854775807 : Int64))), .second, .val (.int ((XT.ushr p3 (2 : Int32)) &&& (3 : Int32))), .val (.long (own_prod (q1 &&& (9223372036854775807 : Int64)) (q2 &&& (9223372036854775807 : Int64)))), .second] [(.int (XT.cmpL (own_prod (q1 &&& (9223372036854775807 : Int64)) (q2 &&& (9223372036854775807 : Int64))) (9223372036854775807 : Int64)))])) t
            refine XS.ifNo X55.here hx rfl (hb hby at_109) rfl (XT.ll_ne_f (show (own_prod (q1 &&& (9223372036854775807 : Int64)) (q2 &&& (9223372036854775807 : Int64))) = (9223372036854775807 : Int64) from by first | exact own_max _ | exact own_max' (by assumption))) ?_
            show Steps p.tables e below (T55.setTop (mkF m 112 #[.val (.long q1), .second, .val (.long q2), .second, .val (.int p3), .val (.long (q1 &&& (9223372036854775807 : Int64))), .second, .val (.long (q2 &&& (9223372036854775807 : Int64))), .second, .val (.int ((XT.ushr p3 (2 : Int32)) &&& (3 : Int32))), .val (.long (own_prod (q1 &&& (9223372036854775807 : Int64)) (q2 &&& (9223372036854775807 : Int64)))), .second] [])) t
            refine XS.iconst X55.here hx rfl (hb hby at_112) ?_
            show Steps p.tables e below (T55.setTop (mkF m 113 #[.val (.long q1), .second, .val (.long q2), .second, .val (.int p3), .val (.long (q1 &&& (9223372036854775807 : Int64))), .second, .val (.long (q2 &&& (9223372036854775807 : Int64))), .second, .val (.int ((XT.ushr p3 (2 : Int32)) &&& (3 : Int32))), .val (.long (own_prod (q1 &&& (9223372036854775807 : Int64)) (q2 &&& (9223372036854775807 : Int64)))), .second] [(.int (1 : Int32))])) t
            refine XS.goto X55.here hx rfl (pc0 := 113) (pc' := 117) rfl (hb hby at_113) (by decide) (by decide) ?_
            show Steps p.tables e below (T55.setTop (mkF m 117 #[.val (.long q1), .second, .val (.long q2), .second, .val (.int p3), .val (.long (q1 &&& (9223372036854775807 : Int64))), .second, .val (.long (q2 &&& (9223372036854775807 : Int64))), .second, .val (.int ((XT.ushr p3 (2 : Int32)) &&& (3 : Int32))), .val (.long (own_prod (q1 &&& (9223372036854775807 : Int64)) (q2 &&& (9223372036854775807 : Int64)))), .second] [(.int (1 : Int32))])) t
            exact k)
          obtain ⟨fs, hr, hrun, hended, hW, hsame⟩ := X55.leave (v := some (.int (1 : Int32))) (fun h => by rw [Bd.returns] at h; cases h)
          refine ⟨_, _, pre59 _ ?_, hrun, hended, _, _, rfl, ?_, ⟨_, rfl⟩, hW, hsame.mono (by decide) (by decide)⟩
          · show Steps p.tables e below (T55.setTop (mkF m 117 #[.val (.long q1), .second, .val (.long q2), .second, .val (.int p3), .val (.long (q1 &&& (9223372036854775807 : Int64))), .second, .val (.long (q2 &&& (9223372036854775807 : Int64))), .second, .val (.int ((XT.ushr p3 (2 : Int32)) &&& (3 : Int32))), .val (.long (own_prod (q1 &&& (9223372036854775807 : Int64)) (q2 &&& (9223372036854775807 : Int64)))), .second] [(.int (1 : Int32))])) _
            exact retN X55 hx (t := .boolean) Bd.returns (by simp) (hb hby at_117) hr
          · show Q0 Z q1 q2 p3 h0 n0 _ T55.heap _
            rw [eh55]
            exact ⟨rfl, N55⟩
        · skip
          have pre60 : ∀ t, Steps p.tables e below (s₁.setTop (mkF m 89 #[.val (.long q1), .second, .val (.long q2), .second, .val (.int p3), .val (.long (q1 &&& (9223372036854775807 : Int64))), .second, .val (.long ((q2 &&& (9223372036854775807 : Int64)) - (q2 &&& (9223372036854775807 : Int64)) / ((q1 &&& (9223372036854775807 : Int64)) + (1 : Int64)) * ((q1 &&& (9223372036854775807 : Int64)) + (1 : Int64)))), .second, .val (.int ((XT.ushr p3 (2 : Int32)) &&& (3 : Int32))), .unset, .unset] [(.long ((q2 &&& (9223372036854775807 : Int64)) - (q2 &&& (9223372036854775807 : Int64)) / ((q1 &&& (9223372036854775807 : Int64)) + (1 : Int64)) * ((q1 &&& (9223372036854775807 : Int64)) + (1 : Int64)))), (.long (q1 &&& (9223372036854775807 : Int64)))])) t → Steps p.tables e below (s₁.setTop (entryFrame m #[(.long q1), (.long q2), (.int p3)] maxLocals)) t := fun t k => pre53 t (by
            show Steps p.tables e below (s₁.setTop (mkF m 60 #[.val (.long q1), .second, .val (.long q2), .second, .val (.int p3), .val (.long (q1 &&& (9223372036854775807 : Int64))), .second, .unset, .unset, .val (.int ((XT.ushr p3 (2 : Int32)) &&& (3 : Int32))), .unset, .unset] [(.int (XT.cmpL (q1 &&& (9223372036854775807 : Int64)) (9223372036854775807 : Int64)))])) t
            refine XS.ifYes X0.here hx rfl (pc0 := 60) (pc' := 73) rfl (hb hby at_60) rfl (XT.ll_ne_t hc60_52) (by decide) (by decide) ?_
            show Steps p.tables e below (s₁.setTop (mkF m 73 #[.val (.long q1), .second, .val (.long q2), .second, .val (.int p3), .val (.long (q1 &&& (9223372036854775807 : Int64))), .second, .unset, .unset, .val (.int ((XT.ushr p3 (2 : Int32)) &&& (3 : Int32))), .unset, .unset] [])) t
            refine XT.lloadN X0.here hx rfl (hb hby at_73) rfl ?_
            show Steps p.tables e below (s₁.setTop (mkF m 74 #[.val (.long q1), .second, .val (.long q2), .second, .val (.int p3), .val (.long (q1 &&& (9223372036854775807 : Int64))), .second, .unset, .unset, .val (.int ((XT.ushr p3 (2 : Int32)) &&& (3 : Int32))), .unset, .unset] [(.long q2)])) t
            refine X0.ldc2Long hx hown (mvT hZ (hw _ (List.mem_of_getElem? (i := 0) rfl))) (g := (mkF m 74 #[.val (.long q1), .second, .val (.long q2), .second, .val (.int p3), .val (.long (q1 &&& (9223372036854775807 : Int64))), .second, .unset, .unset, .val (.int ((XT.ushr p3 (2 : Int32)) &&& (3 : Int32))), .unset, .unset] [(.long q2)])) rfl (hb hby at_74) _ ?_
            show Steps p.tables e below (s₁.setTop (mkF m 77 #[.val (.long q1), .second, .val (.long q2), .second, .val (.int p3), .val (.long (q1 &&& (9223372036854775807 : Int64))), .second, .unset, .unset, .val (.int ((XT.ushr p3 (2 : Int32)) &&& (3 : Int32))), .unset, .unset] [(.long (9223372036854775807 : Int64)), (.long q2)])) t
            refine XT.land X0.here hx rfl (hb hby at_77) rfl ?_
            show Steps p.tables e below (s₁.setTop (mkF m 78 #[.val (.long q1), .second, .val (.long q2), .second, .val (.int p3), .val (.long (q1 &&& (9223372036854775807 : Int64))), .second, .unset, .unset, .val (.int ((XT.ushr p3 (2 : Int32)) &&& (3 : Int32))), .unset, .unset] [(.long (q2 &&& (9223372036854775807 : Int64)))])) t
            refine XT.lload X0.here hx rfl (hb hby at_78) rfl ?_
            show Steps p.tables e below (s₁.setTop (mkF m 80 #[.val (.long q1), .second, .val (.long q2), .second, .val (.int p3), .val (.long (q1 &&& (9223372036854775807 : Int64))), .second, .unset, .unset, .val (.int ((XT.ushr p3 (2 : Int32)) &&& (3 : Int32))), .unset, .unset] [(.long (q1 &&& (9223372036854775807 : Int64))), (.long (q2 &&& (9223372036854775807 : Int64)))])) t
            refine XT.lconstV X0.here hx rfl (1 : Int64) (hb hby at_80) (by decide) ?_
            show Steps p.tables e below (s₁.setTop (mkF m 81 #[.val (.long q1), .second, .val (.long q2), .second, .val (.int p3), .val (.long (q1 &&& (9223372036854775807 : Int64))), .second, .unset, .unset, .val (.int ((XT.ushr p3 (2 : Int32)) &&& (3 : Int32))), .unset, .unset] [(.long (1 : Int64)), (.long (q1 &&& (9223372036854775807 : Int64))), (.long (q2 &&& (9223372036854775807 : Int64)))])) t
            refine XT.ladd X0.here hx rfl (hb hby at_81) rfl ?_
            show Steps p.tables e below (s₁.setTop (mkF m 82 #[.val (.long q1), .second, .val (.long q2), .second, .val (.int p3), .val (.long (q1 &&& (9223372036854775807 : Int64))), .second, .unset, .unset, .val (.int ((XT.ushr p3 (2 : Int32)) &&& (3 : Int32))), .unset, .unset] [(.long ((q1 &&& (9223372036854775807 : Int64)) + (1 : Int64))), (.long (q2 &&& (9223372036854775807 : Int64)))])) t
            refine XT.lrem X0.here hx rfl (hb hby at_82) rfl (own_nz (by assumption)) ?_
            show Steps p.tables e below (s₁.setTop (mkF m 83 #[.val (.long q1), .second, .val (.long q2), .second, .val (.int p3), .val (.long (q1 &&& (9223372036854775807 : Int64))), .second, .unset, .unset, .val (.int ((XT.ushr p3 (2 : Int32)) &&& (3 : Int32))), .unset, .unset] [(.long ((q2 &&& (9223372036854775807 : Int64)) - (q2 &&& (9223372036854775807 : Int64)) / ((q1 &&& (9223372036854775807 : Int64)) + (1 : Int64)) * ((q1 &&& (9223372036854775807 : Int64)) + (1 : Int64))))])) t
            refine XT.lstore X0.here hx rfl (hb hby at_83) rfl (l' := #[.val (.long q1), .second, .val (.long q2), .second, .val (.int p3), .val (.long (q1 &&& (9223372036854775807 : Int64))), .second, .val (.long ((q2 &&& (9223372036854775807 : Int64)) - (q2 &&& (9223372036854775807 : Int64)) / ((q1 &&& (9223372036854775807 : Int64)) + (1 : Int64)) * ((q1 &&& (9223372036854775807 : Int64)) + (1 : Int64)))), .second, .val (.int ((XT.ushr p3 (2 : Int32)) &&& (3 : Int32))), .unset, .unset]) rfl ?_
            show Steps p.tables e below (s₁.setTop (mkF m 85 #[.val (.long q1), .second, .val (.long q2), .second, .val (.int p3), .val (.long (q1 &&& (9223372036854775807 : Int64))), .second, .val (.long ((q2 &&& (9223372036854775807 : Int64)) - (q2 &&& (9223372036854775807 : Int64)) / ((q1 &&& (9223372036854775807 : Int64)) + (1 : Int64)) * ((q1 &&& (9223372036854775807 : Int64)) + (1 : Int64)))), .second, .val (.int ((XT.ushr p3 (2 : Int32)) &&& (3 : Int32))), .unset, .unset] [])) t
            refine XT.lload X0.here hx rfl (hb hby at_85) rfl ?_
            show Steps p.tables e below (s₁.setTop (mkF m 87 #[.val (.long q1), .second, .val (.long q2), .second, .val (.int p3), .val (.long (q1 &&& (9223372036854775807 : Int64))), .second, .val (.long ((q2 &&& (9223372036854775807 : Int64)) - (q2 &&& (9223372036854775807 : Int64)) / ((q1 &&& (9223372036854775807 : Int64)) + (1 : Int64)) * ((q1 &&& (9223372036854775807 : Int64)) + (1 : Int64)))), .second, .val (.int ((XT.ushr p3 (2 : Int32)) &&& (3 : Int32))), .unset, .unset] [(.long (q1 &&& (9223372036854775807 : Int64)))])) t
            refine XT.lload X0.here hx rfl (hb hby at_87) rfl ?_
            show Steps p.tables e below (s₁.setTop (mkF m 89 #[.val (.long q1), .second, .val (.long q2), .second, .val (.int p3), .val (.long (q1 &&& (9223372036854775807 : Int64))), .second, .val (.long ((q2 &&& (9223372036854775807 : Int64)) - (q2 &&& (9223372036854775807 : Int64)) / ((q1 &&& (9223372036854775807 : Int64)) + (1 : Int64)) * ((q1 &&& (9223372036854775807 : Int64)) + (1 : Int64)))), .second, .val (.int ((XT.ushr p3 (2 : Int32)) &&& (3 : Int32))), .unset, .unset] [(.long ((q2 &&& (9223372036854775807 : Int64)) - (q2 &&& (9223372036854775807 : Int64)) / ((q1 &&& (9223372036854775807 : Int64)) + (1 : Int64)) * ((q1 &&& (9223372036854775807 : Int64)) + (1 : Int64)))), (.long (q1 &&& (9223372036854775807 : Int64)))])) t
            exact k)
          obtain ⟨_, _, ⟨T61, L61, k61, n61⟩, -, X61, ⟨Lc61, hQ61, l61, y61, z61⟩, st61⟩ := Jvm.LawKit.callS X0 hx (y := (⟨"com/example/sluice/Demand", "produced", "(JJ)J"⟩ : MethodName)) hown (mvT hZ (hw _ (List.mem_of_getElem? (i := 1) rfl))) (mvT hZ (hw _ (List.mem_of_getElem? (i := 2) rfl))) (mvT hZ (hw _ (List.mem_of_getElem? (i := 3) rfl))) (mvT hZ (hw _ (List.mem_of_getElem? (i := 4) rfl))) (by decide) (backOf (W := 0) (rm1 l Z a0 hw [] (q1 &&& (9223372036854775807 : Int64)) ((q2 &&& (9223372036854775807 : Int64)) - (q2 &&& (9223372036854775807 : Int64)) / ((q1 &&& (9223372036854775807 : Int64)) + (1 : Int64)) * ((q1 &&& (9223372036854775807 : Int64)) + (1 : Int64))) h0 n0 Z0 ) hZ (hw _ (List.mem_of_getElem? (i := 4) rfl)) (hw _ (List.mem_of_getElem? (i := 3) rfl)) (by decide) (by decide)) (g := (mkF m 89 #[.val (.long q1), .second, .val (.long q2), .second, .val (.int p3), .val (.long (q1 &&& (9223372036854775807 : Int64))), .second, .val (.long ((q2 &&& (9223372036854775807 : Int64)) - (q2 &&& (9223372036854775807 : Int64)) / ((q1 &&& (9223372036854775807 : Int64)) + (1 : Int64)) * ((q1 &&& (9223372036854775807 : Int64)) + (1 : Int64)))), .second, .val (.int ((XT.ushr p3 (2 : Int32)) &&& (3 : Int32))), .unset, .unset] [(.long ((q2 &&& (9223372036854775807 : Int64)) - (q2 &&& (9223372036854775807 : Int64)) / ((q1 &&& (9223372036854775807 : Int64)) + (1 : Int64)) * ((q1 &&& (9223372036854775807 : Int64)) + (1 : Int64)))), (.long (q1 &&& (9223372036854775807 : Int64)))])) rfl (by rw [hml]; rfl) (argsL := [(.long (q1 &&& (9223372036854775807 : Int64))), (.long ((q2 &&& (9223372036854775807 : Int64)) - (q2 &&& (9223372036854775807 : Int64)) / ((q1 &&& (9223372036854775807 : Int64)) + (1 : Int64)) * ((q1 &&& (9223372036854775807 : Int64)) + (1 : Int64))))]) (rest := []) (lenOf pd_oJJcJ rfl) rfl (by show 2 * 0 + _ ≤ _; exact Nat.le_of_eq rfl) (hb hby at_89) (fun _ _ => ⟨rfl, eh0, (by decide : 0 + 0 ≤ _), (by decide : 0 + 0 ≤ _)⟩)
          dsimp only [Pt.U, Pt.locs, Pt.cells, Pt.slots] at X61 l61 y61 z61 st61 hQ61
          subst l61 y61 z61
          obtain ⟨rfl, N61q, eh61⟩ := hQ61
          have N61 := Fr.app N0 N61q
          have pre62 : ∀ t, Steps p.tables e below (T61.setTop (mkF m 92 #[.val (.long q1), .second, .val (.long q2), .second, .val (.int p3), .val (.long (q1 &&& (9223372036854775807 : Int64))), .second, .val (.long ((q2 &&& (9223372036854775807 : Int64)) - (q2 &&& (9223372036854775807 : Int64)) / ((q1 &&& (9223372036854775807 : Int64)) + (1 : Int64)) * ((q1 &&& (9223372036854775807 : Int64)) + (1 : Int64)))), .second, .val (.int ((XT.ushr p3 (2 : Int32)) &&& (3 : Int32))), .unset, .unset] [(.long (own_prod (q1 &&& (9223372036854775807 : Int64)) ((q2 &&& (9223372036854775807 : Int64)) - (q2 &&& (9223372036854775807 : Int64)) / ((q1 &&& (9223372036854775807 : Int64)) + (1 : Int64)) * ((q1 &&& (9223372036854775807 : Int64)) + (1 : Int64)))))])) t → Steps p.tables e below (s₁.setTop (entryFrame m #[(.long q1), (.long q2), (.int p3)] maxLocals)) t := fun t k => pre60 t (st61 _ k)
          have pre67 : ∀ t, Steps p.tables e below (T61.setTop (mkF m 149 #[.val (.long q1), .second, .val (.long q2), .second, .val (.int p3), .val (.long (q1 &&& (9223372036854775807 : Int64))), .second, .val (.long ((q2 &&& (9223372036854775807 : Int64)) - (q2 &&& (9223372036854775807 : Int64)) / ((q1 &&& (9223372036854775807 : Int64)) + (1 : Int64)) * ((q1 &&& (9223372036854775807 : Int64)) + (1 : Int64)))), .second, .val (.int ((XT.ushr p3 (2 : Int32)) &&& (3 : Int32))), .val (.long (own_prod (q1 &&& (9223372036854775807 : Int64)) ((q2 &&& (9223372036854775807 : Int64)) - (q2 &&& (9223372036854775807 : Int64)) / ((q1 &&& (9223372036854775807 : Int64)) + (1 : Int64)) * ((q1 &&& (9223372036854775807 : Int64)) + (1 : Int64))))), .second] [(.int (1 : Int32))])) t → Steps p.tables e below (s₁.setTop (entryFrame m #[(.long q1), (.long q2), (.int p3)] maxLocals)) t := fun t k => pre62 t (by
            show Steps p.tables e below (T61.setTop (mkF m 92 #[.val (.long q1), .second, .val (.long q2), .second, .val (.int p3), .val (.long (q1 &&& (9223372036854775807 : Int64))), .second, .val (.long ((q2 &&& (9223372036854775807 : Int64)) - (q2 &&& (9223372036854775807 : Int64)) / ((q1 &&& (9223372036854775807 : Int64)) + (1 : Int64)) * ((q1 &&& (9223372036854775807 : Int64)) + (1 : Int64)))), .second, .val (.int ((XT.ushr p3 (2 : Int32)) &&& (3 : Int32))), .unset, .unset] [(.long (own_prod (q1 &&& (9223372036854775807 : Int64)) ((q2 &&& (9223372036854775807 : Int64)) - (q2 &&& (9223372036854775807 : Int64)) / ((q1 &&& (9223372036854775807 : Int64)) + (1 : Int64)) * ((q1 &&& (9223372036854775807 : Int64)) + (1 : Int64)))))])) t
            refine XT.lstore X61.here hx rfl (hb hby at_92) rfl (l' := #[.val (.long q1), .second, .val (.long q2), .second, .val (.int p3), .val (.long (q1 &&& (9223372036854775807 : Int64))), .second, .val (.long ((q2 &&& (9223372036854775807 : Int64)) - (q2 &&& (9223372036854775807 : Int64)) / ((q1 &&& (9223372036854775807 : Int64)) + (1 : Int64)) * ((q1 &&& (9223372036854775807 : Int64)) + (1 : Int64)))), .second, .val (.int ((XT.ushr p3 (2 : Int32)) &&& (3 : Int32))), .val (.long (own_prod (q1 &&& (9223372036854775807 : Int64)) ((q2 &&& (9223372036854775807 : Int64)) - (q2 &&& (9223372036854775807 : Int64)) / ((q1 &&& (9223372036854775807 : Int64)) + (1 : Int64)) * ((q1 &&& (9223372036854775807 : Int64)) + (1 : Int64))))), .second]) rfl ?_
            show Steps p.tables e below (T61.setTop (mkF m 94 #[.val (.long q1), .second, .val (.long q2), .second, .val (.int p3), .val (.long (q1 &&& (9223372036854775807 : Int64))), .second, .val (.long ((q2 &&& (9223372036854775807 : Int64)) - (q2 &&& (9223372036854775807 : Int64)) / ((q1 &&& (9223372036854775807 : Int64)) + (1 : Int64)) * ((q1 &&& (9223372036854775807 : Int64)) + (1 : Int64)))), .second, .val (.int ((XT.ushr p3 (2 : Int32)) &&& (3 : Int32))), .val (.long (own_prod (q1 &&& (9223372036854775807 : Int64)) ((q2 &&& (9223372036854775807 : Int64)) - (q2 &&& (9223372036854775807 : Int64)) / ((q1 &&& (9223372036854775807 : Int64)) + (1 : Int64)) * ((q1 &&& (9223372036854775807 : Int64)) + (1 : Int64))))), .second] [])) t
            refine XT.lload X61.here hx rfl (hb hby at_94) rfl ?_
            show Steps p.tables e below (T61.setTop (mkF m 96 #[.val (.long q1), .second, .val (.long q2), .second, .val (.int p3), .val (.long (q1 &&& (9223372036854775807 : Int64))), .second, .val (.long ((q2 &&& (9223372036854775807 : Int64)) - (q2 &&& (9223372036854775807 : Int64)) / ((q1 &&& (9223372036854775807 : Int64)) + (1 : Int64)) * ((q1 &&& (9223372036854775807 : Int64)) + (1 : Int64)))), .second, .val (.int ((XT.ushr p3 (2 : Int32)) &&& (3 : Int32))), .val (.long (own_prod (q1 &&& (9223372036854775807 : Int64)) ((q2 &&& (9223372036854775807 : Int64)) - (q2 &&& (9223372036854775807 : Int64)) / ((q1 &&& (9223372036854775807 : Int64)) + (1 : Int64)) * ((q1 &&& (9223372036854775807 : Int64)) + (1 : Int64))))), .second] [(.long (q1 &&& (9223372036854775807 : Int64)))])) t
            refine X61.ldc2Long hx hown (mvT hZ (hw _ (List.mem_of_getElem? (i := 0) rfl))) (g := (mkF m 96 #[.val (.long q1), .second, .val (.long q2), .second, .val (.int p3), .val (.long (q1 &&& (9223372036854775807 : Int64))), .second, .val (.long ((q2 &&& (9223372036854775807 : Int64)) - (q2 &&& (9223372036854775807 : Int64)) / ((q1 &&& (9223372036854775807 : Int64)) + (1 : Int64)) * ((q1 &&& (9223372036854775807 : Int64)) + (1 : Int64)))), .second, .val (.int ((XT.ushr p3 (2 : Int32)) &&& (3 : Int32))), .val (.long (own_prod (q1 &&& (9223372036854775807 : Int64)) ((q2 &&& (9223372036854775807 : Int64)) - (q2 &&& (9223372036854775807 : Int64)) / ((q1 &&& (9223372036854775807 : Int64)) + (1 : Int64)) * ((q1 &&& (9223372036854775807 : Int64)) + (1 : Int64))))), .second] [(.long (q1 &&& (9223372036854775807 : Int64)))])) rfl (hb hby at_96) _ ?_
            show Steps p.tables e below (T61.setTop (mkF m 99 #[.val (.long q1), .second, .val (.long q2), .second, .val (.int p3), .val (.long (q1 &&& (9223372036854775807 : Int64))), .second, .val (.long ((q2 &&& (9223372036854775807 : Int64)) - (q2 &&& (9223372036854775807 : Int64)) / ((q1 &&& (9223372036854775807 : Int64)) + (1 : Int64)) * ((q1 &&& (9223372036854775807 : Int64)) + (1 : Int64)))), .second, .val (.int ((XT.ushr p3 (2 : Int32)) &&& (3 : Int32))), .val (.long (own_prod (q1 &&& (9223372036854775807 : Int64)) ((q2 &&& (9223372036854775807 : Int64)) - (q2 &&& (9223372036854775807 : Int64)) / ((q1 &&& (9223372036854775807 : Int64)) + (1 : Int64)) * ((q1 &&& (9223372036854775807 : Int64)) + (1 : Int64))))), .second] [(.long (9223372036854775807 : Int64)), (.long (q1 &&& (9223372036854775807 : Int64)))])) t
            refine XT.lcmp X61.here hx rfl (hb hby at_99) rfl ?_
            show Steps p.tables e below (T61.setTop (mkF m 100 #[.val (.long q1), .second, .val (.long q2), .second, .val (.int p3), .val (.long (q1 &&& (9223372036854775807 : Int64))), .second, .val (.long ((q2 &&& (9223372036854775807 : Int64)) - (q2 &&& (9223372036854775807 : Int64)) / ((q1 &&& (9223372036854775807 : Int64)) + (1 : Int64)) * ((q1 &&& (9223372036854775807 : Int64)) + (1 : Int64)))), .second, .val (.int ((XT.ushr p3 (2 : Int32)) &&& (3 : Int32))), .val (.long (own_prod (q1 &&& (9223372036854775807 : Int64)) ((q2 &&& (9223372036854775807 : Int64)) - (q2 &&& (9223372036854775807 : Int64)) / ((q1 &&& (9223372036854775807 : Int64)) + (1 : Int64)) * ((q1 &&& (9223372036854775807 : Int64)) + (1 : Int64))))), .second] [(.int (XT.cmpL (q1 &&& (9223372036854775807 : Int64)) (9223372036854775807 : Int64)))])) t
            refine XS.ifYes X61.here hx rfl (pc0 := 100) (pc' := 118) rfl (hb hby at_100) rfl (XT.ll_ne_t (show ¬ ((q1 &&& (9223372036854775807 : Int64)) = (9223372036854775807 : Int64)) from hc60_52)) (by decide) (by decide) ?_
            show Steps p.tables e below (T61.setTop (mkF m 118 #[.val (.long q1), .second, .val (.long q2), .second, .val (.int p3), .val (.long (q1 &&& (9223372036854775807 : Int64))), .second, .val (.long ((q2 &&& (9223372036854775807 : Int64)) - (q2 &&& (9223372036854775807 : Int64)) / ((q1 &&& (9223372036854775807 : Int64)) + (1 : Int64)) * ((q1 &&& (9223372036854775807 : Int64)) + (1 : Int64)))), .second, .val (.int ((XT.ushr p3 (2 : Int32)) &&& (3 : Int32))), .val (.long (own_prod (q1 &&& (9223372036854775807 : Int64)) ((q2 &&& (9223372036854775807 : Int64)) - (q2 &&& (9223372036854775807 : Int64)) / ((q1 &&& (9223372036854775807 : Int64)) + (1 : Int64)) * ((q1 &&& (9223372036854775807 : Int64)) + (1 : Int64))))), .second] [])) t
            refine XT.lload X61.here hx rfl (hb hby at_118) rfl ?_
            show Steps p.tables e below (T61.setTop (mkF m 120 #[.val (.long q1), .second, .val (.long q2), .second, .val (.int p3), .val (.long (q1 &&& (9223372036854775807 : Int64))), .second, .val (.long ((q2 &&& (9223372036854775807 : Int64)) - (q2 &&& (9223372036854775807 : Int64)) / ((q1 &&& (9223372036854775807 : Int64)) + (1 : Int64)) * ((q1 &&& (9223372036854775807 : Int64)) + (1 : Int64)))), .second, .val (.int ((XT.ushr p3 (2 : Int32)) &&& (3 : Int32))), .val (.long (own_prod (q1 &&& (9223372036854775807 : Int64)) ((q2 &&& (9223372036854775807 : Int64)) - (q2 &&& (9223372036854775807 : Int64)) / ((q1 &&& (9223372036854775807 : Int64)) + (1 : Int64)) * ((q1 &&& (9223372036854775807 : Int64)) + (1 : Int64))))), .second] [(.long (own_prod (q1 &&& (9223372036854775807 : Int64)) ((q2 &&& (9223372036854775807 : Int64)) - (q2 &&& (9223372036854775807 : Int64)) / ((q1 &&& (9223372036854775807 : Int64)) + (1 : Int64)) * ((q1 &&& (9223372036854775807 : Int64)) + (1 : Int64)))))])) t
            refine XT.lconstV X61.here hx rfl (0 : Int64) (hb hby at_120) (by decide) ?_
            show Steps p.tables e below (T61.setTop (mkF m 121 #[.val (.long q1), .second, .val (.long q2), .second, .val (.int p3), .val (.long (q1 &&& (9223372036854775807 : Int64))), .second, .val (.long ((q2 &&& (9223372036854775807 : Int64)) - (q2 &&& (9223372036854775807 : Int64)) / ((q1 &&& (9223372036854775807 : Int64)) + (1 : Int64)) * ((q1 &&& (9223372036854775807 : Int64)) + (1 : Int64)))), .second, .val (.int ((XT.ushr p3 (2 : Int32)) &&& (3 : Int32))), .val (.long (own_prod (q1 &&& (9223372036854775807 : Int64)) ((q2 &&& (9223372036854775807 : Int64)) - (q2 &&& (9223372036854775807 : Int64)) / ((q1 &&& (9223372036854775807 : Int64)) + (1 : Int64)) * ((q1 &&& (9223372036854775807 : Int64)) + (1 : Int64))))), .second] [(.long (0 : Int64)), (.long (own_prod (q1 &&& (9223372036854775807 : Int64)) ((q2 &&& (9223372036854775807 : Int64)) - (q2 &&& (9223372036854775807 : Int64)) / ((q1 &&& (9223372036854775807 : Int64)) + (1 : Int64)) * ((q1 &&& (9223372036854775807 : Int64)) + (1 : Int64)))))])) t
            refine XT.lcmp X61.here hx rfl (hb hby at_121) rfl ?_
            show Steps p.tables e below (T61.setTop (mkF m 122 #[.val (.long q1), .second, .val (.long q2), .second, .val (.int p3), .val (.long (q1 &&& (9223372036854775807 : Int64))), .second, .val (.long ((q2 &&& (9223372036854775807 : Int64)) - (q2 &&& (9223372036854775807 : Int64)) / ((q1 &&& (9223372036854775807 : Int64)) + (1 : Int64)) * ((q1 &&& (9223372036854775807 : Int64)) + (1 : Int64)))), .second, .val (.int ((XT.ushr p3 (2 : Int32)) &&& (3 : Int32))), .val (.long (own_prod (q1 &&& (9223372036854775807 : Int64)) ((q2 &&& (9223372036854775807 : Int64)) - (q2 &&& (9223372036854775807 : Int64)) / ((q1 &&& (9223372036854775807 : Int64)) + (1 : Int64)) * ((q1 &&& (9223372036854775807 : Int64)) + (1 : Int64))))), .second] [(.int (XT.cmpL (own_prod (q1 &&& (9223372036854775807 : Int64)) ((q2 &&& (9223372036854775807 : Int64)) - (q2 &&& (9223372036854775807 : Int64)) / ((q1 &&& (9223372036854775807 : Int64)) + (1 : Int64)) * ((q1 &&& (9223372036854775807 : Int64)) + (1 : Int64)))) (0 : Int64)))])) t
            refine XS.ifNo X61.here hx rfl (hb hby at_122) rfl (XT.ll_lt_f (show ¬ ((own_prod (q1 &&& (9223372036854775807 : Int64)) ((q2 &&& (9223372036854775807 : Int64)) - (q2 &&& (9223372036854775807 : Int64)) / ((q1 &&& (9223372036854775807 : Int64)) + (1 : Int64)) * ((q1 &&& (9223372036854775807 : Int64)) + (1 : Int64)))) < (0 : Int64)) from (own_all (by assumption) (own_some (b := q2) (by assumption) (by first | exact Or.inl rfl | exact Or.inr (Or.inl rfl) | exact Or.inr (Or.inr rfl)))).1)) ?_
            show Steps p.tables e below (T61.setTop (mkF m 125 #[.val (.long q1), .second, .val (.long q2), .second, .val (.int p3), .val (.long (q1 &&& (9223372036854775807 : Int64))), .second, .val (.long ((q2 &&& (9223372036854775807 : Int64)) - (q2 &&& (9223372036854775807 : Int64)) / ((q1 &&& (9223372036854775807 : Int64)) + (1 : Int64)) * ((q1 &&& (9223372036854775807 : Int64)) + (1 : Int64)))), .second, .val (.int ((XT.ushr p3 (2 : Int32)) &&& (3 : Int32))), .val (.long (own_prod (q1 &&& (9223372036854775807 : Int64)) ((q2 &&& (9223372036854775807 : Int64)) - (q2 &&& (9223372036854775807 : Int64)) / ((q1 &&& (9223372036854775807 : Int64)) + (1 : Int64)) * ((q1 &&& (9223372036854775807 : Int64)) + (1 : Int64))))), .second] [])) t
            refine XT.lload X61.here hx rfl (hb hby at_125) rfl ?_
            show Steps p.tables e below (T61.setTop (mkF m 127 #[.val (.long q1), .second, .val (.long q2), .second, .val (.int p3), .val (.long (q1 &&& (9223372036854775807 : Int64))), .second, .val (.long ((q2 &&& (9223372036854775807 : Int64)) - (q2 &&& (9223372036854775807 : Int64)) / ((q1 &&& (9223372036854775807 : Int64)) + (1 : Int64)) * ((q1 &&& (9223372036854775807 : Int64)) + (1 : Int64)))), .second, .val (.int ((XT.ushr p3 (2 : Int32)) &&& (3 : Int32))), .val (.long (own_prod (q1 &&& (9223372036854775807 : Int64)) ((q2 &&& (9223372036854775807 : Int64)) - (q2 &&& (9223372036854775807 : Int64)) / ((q1 &&& (9223372036854775807 : Int64)) + (1 : Int64)) * ((q1 &&& (9223372036854775807 : Int64)) + (1 : Int64))))), .second] [(.long (own_prod (q1 &&& (9223372036854775807 : Int64)) ((q2 &&& (9223372036854775807 : Int64)) - (q2 &&& (9223372036854775807 : Int64)) / ((q1 &&& (9223372036854775807 : Int64)) + (1 : Int64)) * ((q1 &&& (9223372036854775807 : Int64)) + (1 : Int64)))))])) t
            refine XT.lload X61.here hx rfl (hb hby at_127) rfl ?_
            show Steps p.tables e below (T61.setTop (mkF m 129 #[.val (.long q1), .second, .val (.long q2), .second, .val (.int p3), .val (.long (q1 &&& (9223372036854775807 : Int64))), .second, .val (.long ((q2 &&& (9223372036854775807 : Int64)) - (q2 &&& (9223372036854775807 : Int64)) / ((q1 &&& (9223372036854775807 : Int64)) + (1 : Int64)) * ((q1 &&& (9223372036854775807 : Int64)) + (1 : Int64)))), .second, .val (.int ((XT.ushr p3 (2 : Int32)) &&& (3 : Int32))), .val (.long (own_prod (q1 &&& (9223372036854775807 : Int64)) ((q2 &&& (9223372036854775807 : Int64)) - (q2 &&& (9223372036854775807 : Int64)) / ((q1 &&& (9223372036854775807 : Int64)) + (1 : Int64)) * ((q1 &&& (9223372036854775807 : Int64)) + (1 : Int64))))), .second] [(.long (q1 &&& (9223372036854775807 : Int64))), (.long (own_prod (q1 &&& (9223372036854775807 : Int64)) ((q2 &&& (9223372036854775807 : Int64)) - (q2 &&& (9223372036854775807 : Int64)) / ((q1 &&& (9223372036854775807 : Int64)) + (1 : Int64)) * ((q1 &&& (9223372036854775807 : Int64)) + (1 : Int64)))))])) t
            refine XT.lcmp X61.here hx rfl (hb hby at_129) rfl ?_
            show Steps p.tables e below (T61.setTop (mkF m 130 #[.val (.long q1), .second, .val (.long q2), .second, .val (.int p3), .val (.long (q1 &&& (9223372036854775807 : Int64))), .second, .val (.long ((q2 &&& (9223372036854775807 : Int64)) - (q2 &&& (9223372036854775807 : Int64)) / ((q1 &&& (9223372036854775807 : Int64)) + (1 : Int64)) * ((q1 &&& (9223372036854775807 : Int64)) + (1 : Int64)))), .second, .val (.int ((XT.ushr p3 (2 : Int32)) &&& (3 : Int32))), .val (.long (own_prod (q1 &&& (9223372036854775807 : Int64)) ((q2 &&& (9223372036854775807 : Int64)) - (q2 &&& (9223372036854775807 : Int64)) / ((q1 &&& (9223372036854775807 : Int64)) + (1 : Int64)) * ((q1 &&& (9223372036854775807 : Int64)) + (1 : Int64))))), .second] [(.int (XT.cmpL (own_prod (q1 &&& (9223372036854775807 : Int64)) ((q2 &&& (9223372036854775807 : Int64)) - (q2 &&& (9223372036854775807 : Int64)) / ((q1 &&& (9223372036854775807 : Int64)) + (1 : Int64)) * ((q1 &&& (9223372036854775807 : Int64)) + (1 : Int64)))) (q1 &&& (9223372036854775807 : Int64))))])) t
            refine XS.ifNo X61.here hx rfl (hb hby at_130) rfl (XT.ll_gt_f (show ¬ ((q1 &&& (9223372036854775807 : Int64)) < (own_prod (q1 &&& (9223372036854775807 : Int64)) ((q2 &&& (9223372036854775807 : Int64)) - (q2 &&& (9223372036854775807 : Int64)) / ((q1 &&& (9223372036854775807 : Int64)) + (1 : Int64)) * ((q1 &&& (9223372036854775807 : Int64)) + (1 : Int64))))) from (own_all (by assumption) (own_some (b := q2) (by assumption) (by first | exact Or.inl rfl | exact Or.inr (Or.inl rfl) | exact Or.inr (Or.inr rfl)))).2.1)) ?_
            show Steps p.tables e below (T61.setTop (mkF m 133 #[.val (.long q1), .second, .val (.long q2), .second, .val (.int p3), .val (.long (q1 &&& (9223372036854775807 : Int64))), .second, .val (.long ((q2 &&& (9223372036854775807 : Int64)) - (q2 &&& (9223372036854775807 : Int64)) / ((q1 &&& (9223372036854775807 : Int64)) + (1 : Int64)) * ((q1 &&& (9223372036854775807 : Int64)) + (1 : Int64)))), .second, .val (.int ((XT.ushr p3 (2 : Int32)) &&& (3 : Int32))), .val (.long (own_prod (q1 &&& (9223372036854775807 : Int64)) ((q2 &&& (9223372036854775807 : Int64)) - (q2 &&& (9223372036854775807 : Int64)) / ((q1 &&& (9223372036854775807 : Int64)) + (1 : Int64)) * ((q1 &&& (9223372036854775807 : Int64)) + (1 : Int64))))), .second] [])) t
            refine XT.lload X61.here hx rfl (hb hby at_133) rfl ?_
            show Steps p.tables e below (T61.setTop (mkF m 135 #[.val (.long q1), .second, .val (.long q2), .second, .val (.int p3), .val (.long (q1 &&& (9223372036854775807 : Int64))), .second, .val (.long ((q2 &&& (9223372036854775807 : Int64)) - (q2 &&& (9223372036854775807 : Int64)) / ((q1 &&& (9223372036854775807 : Int64)) + (1 : Int64)) * ((q1 &&& (9223372036854775807 : Int64)) + (1 : Int64)))), .second, .val (.int ((XT.ushr p3 (2 : Int32)) &&& (3 : Int32))), .val (.long (own_prod (q1 &&& (9223372036854775807 : Int64)) ((q2 &&& (9223372036854775807 : Int64)) - (q2 &&& (9223372036854775807 : Int64)) / ((q1 &&& (9223372036854775807 : Int64)) + (1 : Int64)) * ((q1 &&& (9223372036854775807 : Int64)) + (1 : Int64))))), .second] [(.long (own_prod (q1 &&& (9223372036854775807 : Int64)) ((q2 &&& (9223372036854775807 : Int64)) - (q2 &&& (9223372036854775807 : Int64)) / ((q1 &&& (9223372036854775807 : Int64)) + (1 : Int64)) * ((q1 &&& (9223372036854775807 : Int64)) + (1 : Int64)))))])) t
            refine XT.lload X61.here hx rfl (hb hby at_135) rfl ?_
            show Steps p.tables e below (T61.setTop (mkF m 137 #[.val (.long q1), .second, .val (.long q2), .second, .val (.int p3), .val (.long (q1 &&& (9223372036854775807 : Int64))), .second, .val (.long ((q2 &&& (9223372036854775807 : Int64)) - (q2 &&& (9223372036854775807 : Int64)) / ((q1 &&& (9223372036854775807 : Int64)) + (1 : Int64)) * ((q1 &&& (9223372036854775807 : Int64)) + (1 : Int64)))), .second, .val (.int ((XT.ushr p3 (2 : Int32)) &&& (3 : Int32))), .val (.long (own_prod (q1 &&& (9223372036854775807 : Int64)) ((q2 &&& (9223372036854775807 : Int64)) - (q2 &&& (9223372036854775807 : Int64)) / ((q1 &&& (9223372036854775807 : Int64)) + (1 : Int64)) * ((q1 &&& (9223372036854775807 : Int64)) + (1 : Int64))))), .second] [(.long ((q2 &&& (9223372036854775807 : Int64)) - (q2 &&& (9223372036854775807 : Int64)) / ((q1 &&& (9223372036854775807 : Int64)) + (1 : Int64)) * ((q1 &&& (9223372036854775807 : Int64)) + (1 : Int64)))), (.long (own_prod (q1 &&& (9223372036854775807 : Int64)) ((q2 &&& (9223372036854775807 : Int64)) - (q2 &&& (9223372036854775807 : Int64)) / ((q1 &&& (9223372036854775807 : Int64)) + (1 : Int64)) * ((q1 &&& (9223372036854775807 : Int64)) + (1 : Int64)))))])) t
            refine XT.ladd X61.here hx rfl (hb hby at_137) rfl ?_
            show Steps p.tables e below (T61.setTop (mkF m 138 #[.val (.long q1), .second, .val (.long q2), .second, .val (.int p3), .val (.long (q1 &&& (9223372036854775807 : Int64))), .second, .val (.long ((q2 &&& (9223372036854775807 : Int64)) - (q2 &&& (9223372036854775807 : Int64)) / ((q1 &&& (9223372036854775807 : Int64)) + (1 : Int64)) * ((q1 &&& (9223372036854775807 : Int64)) + (1 : Int64)))), .second, .val (.int ((XT.ushr p3 (2 : Int32)) &&& (3 : Int32))), .val (.long (own_prod (q1 &&& (9223372036854775807 : Int64)) ((q2 &&& (9223372036854775807 : Int64)) - (q2 &&& (9223372036854775807 : Int64)) / ((q1 &&& (9223372036854775807 : Int64)) + (1 : Int64)) * ((q1 &&& (9223372036854775807 : Int64)) + (1 : Int64))))), .second] [(.long ((own_prod (q1 &&& (9223372036854775807 : Int64)) ((q2 &&& (9223372036854775807 : Int64)) - (q2 &&& (9223372036854775807 : Int64)) / ((q1 &&& (9223372036854775807 : Int64)) + (1 : Int64)) * ((q1 &&& (9223372036854775807 : Int64)) + (1 : Int64)))) + ((q2 &&& (9223372036854775807 : Int64)) - (q2 &&& (9223372036854775807 : Int64)) / ((q1 &&& (9223372036854775807 : Int64)) + (1 : Int64)) * ((q1 &&& (9223372036854775807 : Int64)) + (1 : Int64)))))])) t
            refine XT.lload X61.here hx rfl (hb hby at_138) rfl ?_
            show Steps p.tables e below (T61.setTop (mkF m 140 #[.val (.long q1), .second, .val (.long q2), .second, .val (.int p3), .val (.long (q1 &&& (9223372036854775807 : Int64))), .second, .val (.long ((q2 &&& (9223372036854775807 : Int64)) - (q2 &&& (9223372036854775807 : Int64)) / ((q1 &&& (9223372036854775807 : Int64)) + (1 : Int64)) * ((q1 &&& (9223372036854775807 : Int64)) + (1 : Int64)))), .second, .val (.int ((XT.ushr p3 (2 : Int32)) &&& (3 : Int32))), .val (.long (own_prod (q1 &&& (9223372036854775807 : Int64)) ((q2 &&& (9223372036854775807 : Int64)) - (q2 &&& (9223372036854775807 : Int64)) / ((q1 &&& (9223372036854775807 : Int64)) + (1 : Int64)) * ((q1 &&& (9223372036854775807 : Int64)) + (1 : Int64))))), .second] [(.long (q1 &&& (9223372036854775807 : Int64))), (.long ((own_prod (q1 &&& (9223372036854775807 : Int64)) ((q2 &&& (9223372036854775807 : Int64)) - (q2 &&& (9223372036854775807 : Int64)) / ((q1 &&& (9223372036854775807 : Int64)) + (1 : Int64)) * ((q1 &&& (9223372036854775807 : Int64)) + (1 : Int64)))) + ((q2 &&& (9223372036854775807 : Int64)) - (q2 &&& (9223372036854775807 : Int64)) / ((q1 &&& (9223372036854775807 : Int64)) + (1 : Int64)) * ((q1 &&& (9223372036854775807 : Int64)) + (1 : Int64)))))])) t
            refine XT.lcmp X61.here hx rfl (hb hby at_140) rfl ?_
            show Steps p.tables e below (T61.setTop (mkF m 141 #[.val (.long q1), .second, .val (.long q2), .second, .val (.int p3), .val (.long (q1 &&& (9223372036854775807 : Int64))), .second, .val (.long ((q2 &&& (9223372036854775807 : Int64)) - (q2 &&& (9223372036854775807 : Int64)) / ((q1 &&& (9223372036854775807 : Int64)) + (1 : Int64)) * ((q1 &&& (9223372036854775807 : Int64)) + (1 : Int64)))), .second, .val (.int ((XT.ushr p3 (2 : Int32)) &&& (3 : Int32))), .val (.long (own_prod (q1 &&& (9223372036854775807 : Int64)) ((q2 &&& (9223372036854775807 : Int64)) - (q2 &&& (9223372036854775807 : Int64)) / ((q1 &&& (9223372036854775807 : Int64)) + (1 : Int64)) * ((q1 &&& (9223372036854775807 : Int64)) + (1 : Int64))))), .second] [(.int (XT.cmpL ((own_prod (q1 &&& (9223372036854775807 : Int64)) ((q2 &&& (9223372036854775807 : Int64)) - (q2 &&& (9223372036854775807 : Int64)) / ((q1 &&& (9223372036854775807 : Int64)) + (1 : Int64)) * ((q1 &&& (9223372036854775807 : Int64)) + (1 : Int64)))) + ((q2 &&& (9223372036854775807 : Int64)) - (q2 &&& (9223372036854775807 : Int64)) / ((q1 &&& (9223372036854775807 : Int64)) + (1 : Int64)) * ((q1 &&& (9223372036854775807 : Int64)) + (1 : Int64)))) (q1 &&& (9223372036854775807 : Int64))))])) t
            refine XS.ifNo X61.here hx rfl (hb hby at_141) rfl (XT.ll_ne_f (show ((own_prod (q1 &&& (9223372036854775807 : Int64)) ((q2 &&& (9223372036854775807 : Int64)) - (q2 &&& (9223372036854775807 : Int64)) / ((q1 &&& (9223372036854775807 : Int64)) + (1 : Int64)) * ((q1 &&& (9223372036854775807 : Int64)) + (1 : Int64)))) + ((q2 &&& (9223372036854775807 : Int64)) - (q2 &&& (9223372036854775807 : Int64)) / ((q1 &&& (9223372036854775807 : Int64)) + (1 : Int64)) * ((q1 &&& (9223372036854775807 : Int64)) + (1 : Int64)))) = (q1 &&& (9223372036854775807 : Int64)) from (own_all (by assumption) (own_some (b := q2) (by assumption) (by first | exact Or.inl rfl | exact Or.inr (Or.inl rfl) | exact Or.inr (Or.inr rfl)))).2.2)) ?_
            show Steps p.tables e below (T61.setTop (mkF m 144 #[.val (.long q1), .second, .val (.long q2), .second, .val (.int p3), .val (.long (q1 &&& (9223372036854775807 : Int64))), .second, .val (.long ((q2 &&& (9223372036854775807 : Int64)) - (q2 &&& (9223372036854775807 : Int64)) / ((q1 &&& (9223372036854775807 : Int64)) + (1 : Int64)) * ((q1 &&& (9223372036854775807 : Int64)) + (1 : Int64)))), .second, .val (.int ((XT.ushr p3 (2 : Int32)) &&& (3 : Int32))), .val (.long (own_prod (q1 &&& (9223372036854775807 : Int64)) ((q2 &&& (9223372036854775807 : Int64)) - (q2 &&& (9223372036854775807 : Int64)) / ((q1 &&& (9223372036854775807 : Int64)) + (1 : Int64)) * ((q1 &&& (9223372036854775807 : Int64)) + (1 : Int64))))), .second] [])) t
            refine XS.iconst X61.here hx rfl (hb hby at_144) ?_
            show Steps p.tables e below (T61.setTop (mkF m 145 #[.val (.long q1), .second, .val (.long q2), .second, .val (.int p3), .val (.long (q1 &&& (9223372036854775807 : Int64))), .second, .val (.long ((q2 &&& (9223372036854775807 : Int64)) - (q2 &&& (9223372036854775807 : Int64)) / ((q1 &&& (9223372036854775807 : Int64)) + (1 : Int64)) * ((q1 &&& (9223372036854775807 : Int64)) + (1 : Int64)))), .second, .val (.int ((XT.ushr p3 (2 : Int32)) &&& (3 : Int32))), .val (.long (own_prod (q1 &&& (9223372036854775807 : Int64)) ((q2 &&& (9223372036854775807 : Int64)) - (q2 &&& (9223372036854775807 : Int64)) / ((q1 &&& (9223372036854775807 : Int64)) + (1 : Int64)) * ((q1 &&& (9223372036854775807 : Int64)) + (1 : Int64))))), .second] [(.int (1 : Int32))])) t
            refine XS.goto X61.here hx rfl (pc0 := 145) (pc' := 149) rfl (hb hby at_145) (by decide) (by decide) ?_
            show Steps p.tables e below (T61.setTop (mkF m 149 #[.val (.long q1), .second, .val (.long q2), .second, .val (.int p3), .val (.long (q1 &&& (9223372036854775807 : Int64))), .second, .val (.long ((q2 &&& (9223372036854775807 : Int64)) - (q2 &&& (9223372036854775807 : Int64)) / ((q1 &&& (9223372036854775807 : Int64)) + (1 : Int64)) * ((q1 &&& (9223372036854775807 : Int64)) + (1 : Int64)))), .second, .val (.int ((XT.ushr p3 (2 : Int32)) &&& (3 : Int32))), .val (.long (own_prod (q1 &&& (9223372036854775807 : Int64)) ((q2 &&& (9223372036854775807 : Int64)) - (q2 &&& (9223372036854775807 : Int64)) / ((q1 &&& (9223372036854775807 : Int64)) + (1 : Int64)) * ((q1 &&& (9223372036854775807 : Int64)) + (1 : Int64))))), .second] [(.int (1 : Int32))])) t
            exact k)
          obtain ⟨fs, hr, hrun, hended, hW, hsame⟩ := X61.leave (v := some (.int (1 : Int32))) (fun h => by rw [Bd.returns] at h; cases h)
          refine ⟨_, _, pre67 _ ?_, hrun, hended, _, _, rfl, ?_, ⟨_, rfl⟩, hW, hsame.mono (by decide) (by decide)⟩
          · show Steps p.tables e below (T61.setTop (mkF m 149 #[.val (.long q1), .second, .val (.long q2), .second, .val (.int p3), .val (.long (q1 &&& (9223372036854775807 : Int64))), .second, .val (.long ((q2 &&& (9223372036854775807 : Int64)) - (q2 &&& (9223372036854775807 : Int64)) / ((q1 &&& (9223372036854775807 : Int64)) + (1 : Int64)) * ((q1 &&& (9223372036854775807 : Int64)) + (1 : Int64)))), .second, .val (.int ((XT.ushr p3 (2 : Int32)) &&& (3 : Int32))), .val (.long (own_prod (q1 &&& (9223372036854775807 : Int64)) ((q2 &&& (9223372036854775807 : Int64)) - (q2 &&& (9223372036854775807 : Int64)) / ((q1 &&& (9223372036854775807 : Int64)) + (1 : Int64)) * ((q1 &&& (9223372036854775807 : Int64)) + (1 : Int64))))), .second] [(.int (1 : Int32))])) _
            exact retN X61 hx (t := .boolean) Bd.returns (by simp) (hb hby at_149) hr
          · show Q0 Z q1 q2 p3 h0 n0 _ T61.heap _
            rw [eh61]
            exact ⟨rfl, N61⟩
set_option maxRecDepth 65536 in
set_option maxHeartbeats 40000000 in
theorem comes_1 {Post : Tables → Env → Array Value → State → Outcome → State → Prop} (hpost : ∀ tb e args s v u, (limb_1_1.after args s (.returned v) u = true ∧ limb_1_2.after args s (.returned v) u = true ∧ True) → FrameEnd s (.returned v) u (Jvm.fieldLocs frame_1_writes args s ++ Jvm.arrayLocs frame_1_arrays args s ++ Jvm.staticLocs frame_1_statics s) 0 0 → Post tb e args s (.returned v) u) :
    ArmFor flags0 classFile x code maxLocals ret World_1 tables_1 room_1 Calls_1 rest_1 Pre_1 Post := by
  intro l hfl _ _ p e ha hc hk s m args below hf hA hF happ hP
  obtain ⟨hcalls, hrest, hpre⟩ := hP
  obtain ⟨-, -, -, hnamed, -, -, -, hat⟩ := (Spec.applies_iff hf).mp happ
  obtain ⟨hg, hn⟩ := and_e (Cond.before_iff.mp (show (Jvm.Cond.and given_1 narrow_1).before args s = true from hpre))
  obtain ⟨ga0, gb0⟩ := and_e hg
  obtain ⟨ga1, gb1⟩ := and_e gb0
  obtain ⟨ga2, gb2⟩ := and_e gb1
  obtain ⟨w0, w1, w2, rfl⟩ : ∃ w0 w1 w2 : Value, args = #[w0, w1, w2] := by
    have hs : args.size = 3 := by simpa [Cond.value, given_1] using ga0
    obtain ⟨L⟩ := args
    match L, hs with
    | [w0, w1, w2], _ => exact ⟨w0, w1, w2, rfl⟩
  have hw := fun d (hd : d ∈ tables_1) => atoms_spec (ws := Jvm.Cond.code x code maxLocals ret :: tables_1) hat d (List.mem_cons_of_mem _ hd)
  obtain ⟨i0, ei0⟩ := isL_v ga1
  obtain rfl : w0 = (.long i0) := Option.some.inj ei0
  obtain ⟨i1, ei1⟩ := isL_v ga2
  obtain rfl : w1 = (.long i1) := Option.some.inj ei1
  obtain ⟨i2, ei2⟩ := is_v gb2
  obtain rfl : w2 = (.int i2) := Option.some.inj ei2
  obtain ⟨n, o, h1, h2, h3, _, L, rfl, ⟨rfl, N⟩, hq⟩ := rm0 l s _ hw tables_1 i0 i1 i2 s.heap s.heap.size (Nat.le_refl _) p e ha hc hk s m _ below hf ((Spec.applies_iff_loose hf).mp happ).1 ⟨rfl, State.Warmed39.refl s, rfl⟩ trivial
  refine ⟨n, _, h1, h2, h3, hpost _ _ _ _ _ _ ⟨Cond.after_iff.mpr rfl, Cond.after_iff.mpr (eq_i res_at (Term.int_eval (1)) rfl), trivial⟩ ⟨hq.1, hq.2.1, (hq.2.2.sift fun y hy => Or.inr (N y hy)).mono (by decide) (by decide)⟩⟩
theorem main_1_1 : Claimed_1_1 := comes_1 fun _ _ _ _ _ _ h hF => ⟨h.1, hF⟩
theorem main_1_2 : Claimed_1_2 := comes_1 fun _ _ _ _ _ _ h hF => ⟨h.2.1, hF⟩
end Jvm.Pilot.@@N@@
namespace Jvm.Pilot.@@N@@
open Jvm Jvm.ClassFile Sem Op Lib Jvm.Free Jvm.Stand Jvm.Pilot.@@N@@.Jvm.D
/-! MADE BY PROGRAM (witnessworld.py) out of the Statement's table words and the real class files: 9 classes; the members and pool entries that the words name. The judged class is class 1, her method 1. -/
namespace start1
open Jvm.ClassFile
def u (s : String) : CpInfo := .utf8 (stringToUtf16 s)
/-- a pool by its gaps: so many unusable entries, then the entry; so many at the end -/
def gap : Nat → List CpInfo → List CpInfo
  | 0, r => r
  | n + 1, r => .unusable :: gap n r
def poolList (es : List (Nat × CpInfo)) (last : Nat) : List CpInfo := es.foldr (fun e r => gap e.1 (e.2 :: r)) (gap last [])
def pool (es : List (Nat × CpInfo)) (last : Nat) : Array CpInfo := ⟨poolList es last⟩
def fileOf (pool : Array CpInfo) (this : Nat) (attrs : Array Attribute := #[]) (ms : Array MethodInfo := #[]) (fl : Nat := 33) (sup : Nat := 0) (ifs : Array Nat := #[]) (fds : Array FieldInfo := #[]) : ClassFile where
  minorVersion := 0
  majorVersion := 65
  constantPool := pool
  accessFlags := fl
  thisClass := this
  superClass := sup
  interfaces := ifs
  fields := fds
  methods := ms
  attributes := attrs
def plain (name : String) (sup : Option ClassId) : Class where
  name := name
  kind := .ordinary
  loader := none
  accessFlags := 33
  super := sup
  interfaces := #[]
  cf := none
  fields := #[]
  methods := #[]
  instanceTypes := #[]
  staticTypes := #[]
  resolved := #[]
  callSites := []
  init := .initialized
  statics := none
  mirror := none

def pool0 : Array CpInfo := pool [(5, u "<init>"), (0, u "()V"), (1, .class_ 10), (1, u "java/lang/Object")] 113

def k0m0 : Method := { name := "<init>", desc := "()V", sig := { parameters := [], returnType := none }, accessFlags := 1, code := none }
/-- java/lang/Object -/
def k0 : Class := { plain "java/lang/Object" none with
  accessFlags := 33
  interfaces := #[]
  cf := some (fileOf pool0 8 #[] #[{ accessFlags := 1, nameIndex := 5, descriptorIndex := 6, attributes := #[] }] 33 0 #[] #[])
  fields := #[]
  methods := #[k0m0]
  instanceTypes := #[]
  staticTypes := #[]
  resolved := Array.replicate 124 none
  statics := none }

def pool1 : Array CpInfo := pool [(2, .class_ 4), (1, u "java/lang/Object"), (0, u "<init>"), (0, u "()V"), (2, .long 9223372036854775807), (1, .methodref 12 13), (0, .class_ 14), (0, .nameAndType 15 16), (0, u "com/example/sluice/Demand"), (0, u "produced"), (0, u "(JJ)J"), (0, .class_ 18), (0, u "com/example/sluice/DemandProducedPinLaw"), (2, u "law"), (0, u "(JJI)Z")] 3

def k1m0 : Method := { name := "<init>", desc := "()V", sig := { parameters := [], returnType := none }, accessFlags := 1, code := none }
def k1c1 : Code := { maxStack := 6, maxLocals := 12, code := code, exceptionTable := #[], attributes := #[] }
def k1m1 : Method := { name := "law", desc := "(JJI)Z", sig := { parameters := [.long, .long, .int], returnType := some .boolean }, accessFlags := 9, code := some k1c1 }
/-- com/example/sluice/DemandProducedPinLaw -/
def k1 : Class := { plain "com/example/sluice/DemandProducedPinLaw" (some 0) with
  accessFlags := 49
  interfaces := #[]
  cf := some (fileOf pool1 17 #[] #[{ accessFlags := 1, nameIndex := 5, descriptorIndex := 6, attributes := #[] }, { accessFlags := 9, nameIndex := 21, descriptorIndex := 22, attributes := #[] }] 49 2 #[] #[])
  fields := #[]
  methods := #[k1m0, k1m1]
  instanceTypes := #[]
  staticTypes := #[]
  resolved := Array.replicate 26 none
  statics := none }

def pool2 : Array CpInfo := pool [(2, .class_ 4), (1, u "java/lang/Object"), (0, u "<init>"), (0, u "()V"), (2, .long 9223372036854775807), (15, .class_ 26), (0, u "com/example/sluice/Demand"), (3, u "(JJ)J"), (1, u "produced")] 21

def k2m0 : Method := { name := "<init>", desc := "()V", sig := { parameters := [], returnType := none }, accessFlags := 2, code := none }
def k2c1 : Code := { maxStack := 4, maxLocals := 4, code := prog_15_method_3_code, exceptionTable := #[], attributes := #[] }
def k2m1 : Method := { name := "produced", desc := "(JJ)J", sig := { parameters := [.long, .long], returnType := some .long }, accessFlags := 8, code := some k2c1 }
/-- com/example/sluice/Demand -/
def k2 : Class := { plain "com/example/sluice/Demand" (some 0) with
  accessFlags := 48
  interfaces := #[]
  cf := some (fileOf pool2 25 #[] #[{ accessFlags := 2, nameIndex := 5, descriptorIndex := 6, attributes := #[] }, { accessFlags := 8, nameIndex := 32, descriptorIndex := 30, attributes := #[] }] 48 2 #[] #[])
  fields := #[]
  methods := #[k2m0, k2m1]
  instanceTypes := #[]
  staticTypes := #[]
  resolved := Array.replicate 54 none
  statics := none }

def pool3 : Array CpInfo := pool [(1, u "java/lang/Cloneable"), (0, .class_ 1), (0, u "java/lang/Object"), (0, .class_ 3)] 3

/-- java/lang/Cloneable -/
def k3 : Class := { plain "java/lang/Cloneable" (some 0) with
  accessFlags := 1537
  interfaces := #[]
  cf := some (fileOf pool3 2 #[] #[] 1537 4 #[] #[])
  fields := #[]
  methods := #[]
  instanceTypes := #[]
  staticTypes := #[]
  resolved := Array.replicate 8 none
  statics := none }

def pool4 : Array CpInfo := pool [(1, u "java/io/Serializable"), (0, .class_ 1), (0, u "java/lang/Object"), (0, .class_ 3)] 3

/-- java/io/Serializable -/
def k4 : Class := { plain "java/io/Serializable" (some 0) with
  accessFlags := 1537
  interfaces := #[]
  cf := some (fileOf pool4 2 #[] #[] 1537 4 #[] #[])
  fields := #[]
  methods := #[]
  instanceTypes := #[]
  staticTypes := #[]
  resolved := Array.replicate 8 none
  statics := none }

/-- the primitive byte -/
def k5 : Class := { plain "byte" none with kind := .primitive 'B', accessFlags := 0x411 }
/-- [B -/
def k6 : Class := { plain "[B" (some 0) with kind := .array 5 .byte, interfaces := #[3, 4], accessFlags := 1041 }

/-- the primitive int -/
def k7 : Class := { plain "int" none with kind := .primitive 'I', accessFlags := 0x411 }
/-- [I -/
def k8 : Class := { plain "[I" (some 0) with kind := .array 7 .int, interfaces := #[3, 4], accessFlags := 1041 }

def heap : Heap := #[]
def classes : Array Class := #[k0, k1, k2, k3, k4, k5, k6, k7, k8]
def interned : List (Array UInt16 × Addr) := []
def slotsUsed : Nat := 0
def theMethod : MethodId := ⟨1, 1⟩
def args0 : Array Value := #[.long 1, .long 2, .int 3]
def aboutOver (below : List Frame) : State where
  vm := { classes := classes, interned := interned.toArray }
  heap := heap
  slotsUsed := slotsUsed
  threads := #[{ frames := .invoking theMethod args0 :: below }]
def below0 : List Frame := [.native { method := ⟨0, 0⟩, args := #[] }]
def about1 : State := aboutOver below0
def p0 : Program := .bare "" "" ""
def e0 : Env := launch0.env 0 0 0
theorem w_frames : about1.frames = Frame.invoking theMethod args0 :: below0 := rfl
set_option maxRecDepth 65536 in
theorem w_args : argsFit about1.vm theMethod args0 = true := by decide +kernel
set_option maxRecDepth 65536 in
theorem w_heap : heapFits about1 = true := by decide +kernel
set_option maxRecDepth 65536 in
theorem w_runnable : about1.curStatus? = some .runnable := by decide +kernel
set_option maxRecDepth 65536 in
theorem w_alone : about1.alone = true := by decide +kernel
set_option maxRecDepth 65536 in
theorem w_named : about1.methodNamed? x = some theMethod := by decide +kernel
set_option maxRecDepth 65536 in
theorem w_hears : about1.hears theMethod below0 = true := by decide +kernel
set_option maxRecDepth 65536 in
theorem w_ripe : about1.ripe theMethod args0 below0 = true := by decide +kernel
theorem w_running : about1.status = .running := rfl
set_option maxRecDepth 65536 in
theorem w_room : about1.hasRoom e0.platform room_1 = true :=
  launch0.hasRoom_least _ room_1 (by decide +kernel) (by decide +kernel) (by decide +kernel) (by decide +kernel) (by decide +kernel) (by decide +kernel)
theorem allAtoms_all (ts : List Jvm.Cond) (a : Array Jvm.Value) (st : Jvm.State) : (allAtoms ts).before a st = ts.all (fun c => c.before a st) := by
  induction ts with
  | nil => rfl
  | cons c t ih =>
    show (Jvm.Cond.and c (allAtoms t)).before a st = _
    rw [Jvm.Cond.before_and, ih, List.all_cons]
def words1 : List Jvm.Cond := Jvm.Cond.code x code maxLocals ret :: tables_1
/-- a 'code' word, met by the world's own term for the bytes: nothing is compared byte by byte -/
theorem code_word {y : MethodName} {bytes : ByteArray} {mx : Nat} {rt : Option FieldType} {a : Array Value} {s : State} {m : MethodId} {meth : Method} {c : Code} (h1 : s.methodNamed? y = some m) (h2 : s.vm.method? m = some meth) (h3 : meth.code = some c) (h4 : c.code = bytes)
    (h5 : (c.maxLocals == mx && c.exceptionTable.isEmpty && decide (c.maxStack ≤ mostOperands) && decide (meth.sig.returnType = rt) && !meth.locks && decide (parseMethodDescriptor y.desc = some meth.sig)) = true) : (Jvm.Cond.code y bytes mx rt).before a s = true := by
  simp only [Bool.and_eq_true, beq_iff_eq, Bool.not_eq_true', decide_eq_true_eq] at h5
  obtain ⟨⟨⟨⟨⟨g1, g2⟩, g3⟩, g4⟩, g5⟩, g6⟩ := h5
  simp [Cond.before, Cond.holds, Cond.value, h1, h2, h3, h4, g1, g2, g3, g4, g5, g6]
def isCode : Jvm.Cond → Bool
  | .code _ _ _ _ => true
  | _ => false
theorem all_split {L : List Jvm.Cond} {P : Jvm.Cond → Bool} (h1 : L.all (fun c => isCode c || P c) = true) (h2 : ∀ c ∈ L.filter isCode, P c = true) : L.all P = true := by
  refine List.all_eq_true.mpr fun c hc => ?_
  have h := List.all_eq_true.mp h1 c hc
  rcases Bool.eq_false_or_eq_true (isCode c) with hi | hi
  · exact h2 c (List.mem_filter.mpr ⟨hc, hi⟩)
  · simpa [hi] using h
set_option maxRecDepth 65536 in
theorem w_c0 : (Jvm.Cond.code x code maxLocals ret).before args0 about1 = true := code_word (m := ⟨1, 1⟩) (meth := k1m1) (c := k1c1) (by decide +kernel) rfl rfl rfl (by decide +kernel)
set_option maxRecDepth 65536 in
theorem w_c1 : (Jvm.Cond.code ({ cls := "com/example/sluice/Demand", name := "produced", desc := "(JJ)J" } : Jvm.MethodName) prog_15_method_3_code (4 : Nat) (Option.some Jvm.ClassFile.FieldType.long)).before args0 about1 = true := code_word (m := ⟨2, 1⟩) (meth := k2m1) (c := k2c1) (by decide +kernel) rfl rfl rfl (by decide +kernel)
def codes1 : List Jvm.Cond := [Jvm.Cond.code x code maxLocals ret, Jvm.Cond.code ({ cls := "com/example/sluice/Demand", name := "produced", desc := "(JJ)J" } : Jvm.MethodName) prog_15_method_3_code (4 : Nat) (Option.some Jvm.ClassFile.FieldType.long)]
set_option maxRecDepth 65536 in
theorem codes_eq : words1.filter isCode = codes1 := rfl
theorem w_codes : ∀ c ∈ words1.filter isCode, c.before args0 about1 = true := by
  rw [codes_eq]
  intro c hc
  simp only [codes1, List.mem_cons, List.not_mem_nil, or_false] at hc
  rcases hc with rfl | rfl
  · exact w_c0
  · exact w_c1
set_option maxRecDepth 65536 in
theorem w_t1 : words1.all (fun c => isCode c || c.before args0 about1) = true := by decide +kernel
theorem w_tables : (allAtoms (Jvm.Cond.code x code maxLocals ret :: tables_1)).before args0 about1 = true := by
  rw [allAtoms_all]
  show words1.all (fun c => c.before args0 about1) = true
  refine all_split ?_ w_codes
  rw [w_t1]
set_option maxRecDepth 65536 in
theorem w_case : (Jvm.Cond.and given_1 narrow_1).before args0 about1 = true := by decide +kernel
theorem w_applies : (headSpec (Jvm.Cond.code x code maxLocals ret :: tables_1) room_1).applies x e0.platform about1 = true :=
  (Spec.applies_iff w_frames).mpr ⟨w_running, w_runnable, w_alone, w_named, w_hears, w_ripe, w_room, w_tables⟩
theorem atStart : AtStart classFile x code maxLocals ret World_1 tables_1 room_1 Calls_1 rest_1 Pre_1 launch0 p0 e0 about1 theMethod args0 below0 :=
  ⟨lists_1, trivial, launch0.admits_env _ _ _, launch0.least_env, fairChoices_fair.cas, fairChoices_fair.clock, w_frames, w_args, w_heap, w_applies, trivial, trivial, w_case⟩
end start1
theorem witness_1 : WitnessClaimed_1 := ⟨start1.p0, start1.e0, start1.about1, start1.theMethod, start1.args0, start1.below0, start1.atStart⟩
end Jvm.Pilot.@@N@@
