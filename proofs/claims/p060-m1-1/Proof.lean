import JvmDerived
import JvmDerived.Pilot.@@N@@Statement
import JvmDerived.Pilot.@@N@@Code
set_option linter.unusedVariables false
set_option linter.unusedSimpArgs false
@@BLOCK:NumsL.lean.txt@@
namespace Jvm.RoadKit
open Sem ClassFile Op Lib Jvm.Stand Jvm.Free Jvm.LawKit
section New
variable {p : Program} {l : Launch} {e : Env} {R : Room} {s : State} {m : MethodId} {args : Array Value} {below : List Frame} {meth : Method} {c : Code} {T : State} {locs : List Loc} {cells slots : Nat}
theorem retI (X : Stand p l e R s m args below meth c T locs cells slots) (hx : p.tables.exec = Jvm.exec) {pc : Nat} {Ls : Array Slot} {z : Int32} {rest : List Value} (hret : meth.sig.returnType = some .int) (hd : decode c.code pc = .ok (.ireturn, 1)) {fs : List Frame}
    (hl : ∀ (f : JFrame) (acts : List Action), f.method = m → f.locked = none → f.entered = [] → (doReturn e (T.setTop f) acts (some (.int z))).1 = T.setFrames fs) : Steps p.tables e below (T.setTop (mkF m pc Ls (.int z :: rest))) (T.setFrames fs) := by
  have hm' : T.vm.method? m = some meth := X.method'
  have hn : narrow .int (.int z) = .int z := rfl
  show Steps p.tables e below (T.setTop { method := m, pc := pc, locals := Ls, stack := _ :: rest, locked := none }) _
  jvm_step X.here [X.here.top, hx, hd, hm', hret, hn]
  first | (intro acts; rw [hl _ acts rfl rfl rfl]) | rw [hl _ _ rfl rfl rfl]
  exact Steps.refl _
end New
end Jvm.RoadKit
namespace Jvm.Pilot.@@N@@
open Jvm Jvm.ClassFile Sem Op Lib Jvm.Free Jvm.Stand Jvm.LawKit Jvm.RoadKit Bundle Jvm.Pilot.@@N@@.Jvm.D
section Own
variable {p : Program} {l : Launch} {e : Env} {R : Room} {s : State} {m : MethodId} {args : Array Value} {below : List Frame} {meth : Method} {c : Code} {T : State} {locs : List Loc} {cells slots : Nat} {Z : State} {h : Heap} {a : Addr} {k : ClassId} {n : Int32} {vs : List Value} {dv : Value} {ty : FieldType}
theorem own_caload (X : Stand p l e R s m args below meth c T locs cells slots) (hx : p.tables.exec = Jvm.exec) (hZ : Z.Warmed39 s.vm) (eT : T.heap = h) (V : Arv Z h a k .char n vs dv) {j : Int32} {v : Value} (hj : ¬ j < 0 ∧ j < n) (hv : vs.getD j.toNatClampNeg dv = v) {g : JFrame} (hg : g.method = m) {rest : List Value} (hs : g.stack = .int j :: .ref a :: rest) (hd : decode c.code g.pc = .ok (.caload, 1)) :
    ∀ target, Steps p.tables e below (T.setTop { g with pc := g.pc + 1, stack := v :: rest }) target → Steps p.tables e below (T.setTop g) target := by
  obtain ⟨cl, Ar, -, S, -, H, -⟩ := V
  exact X.caload hx (j := j) (v := v) (by rw [eT]; exact Ar.1) (State.isArrayOf_alike hZ.alike Ar.2.1) Ar.2.2 (inb_of S hj) (H.at (inb_of S hj) hv) hg hs hd
theorem own_iaload (X : Stand p l e R s m args below meth c T locs cells slots) (hx : p.tables.exec = Jvm.exec) (hZ : Z.Warmed39 s.vm) (eT : T.heap = h) (V : Arv Z h a k .int n vs dv) {j : Int32} {v : Value} (hj : ¬ j < 0 ∧ j < n) (hv : vs.getD j.toNatClampNeg dv = v) {g : JFrame} (hg : g.method = m) {rest : List Value} (hs : g.stack = .int j :: .ref a :: rest) (hd : decode c.code g.pc = .ok (.iaload, 1)) :
    ∀ target, Steps p.tables e below (T.setTop { g with pc := g.pc + 1, stack := v :: rest }) target → Steps p.tables e below (T.setTop g) target := by
  obtain ⟨cl, Ar, -, S, -, H, -⟩ := V
  exact X.iaload hx (j := j) (v := v) (by rw [eT]; exact Ar.1) (State.isArrayOf_alike hZ.alike Ar.2.1) Ar.2.2 (inb_of S hj) (H.at (inb_of S hj) hv) hg hs hd
theorem own_baload (X : Stand p l e R s m args below meth c T locs cells slots) (hx : p.tables.exec = Jvm.exec) (hZ : Z.Warmed39 s.vm) (eT : T.heap = h) (V : Arv Z h a k .byte n vs dv) {j : Int32} {v : Value} (hj : ¬ j < 0 ∧ j < n) (hv : vs.getD j.toNatClampNeg dv = v) {g : JFrame} (hg : g.method = m) {rest : List Value} (hs : g.stack = .int j :: .ref a :: rest) (hd : decode c.code g.pc = .ok (.baload, 1)) :
    ∀ target, Steps p.tables e below (T.setTop { g with pc := g.pc + 1, stack := v :: rest }) target → Steps p.tables e below (T.setTop g) target := by
  obtain ⟨cl, Ar, -, S, -, H, -⟩ := V
  exact X.baloadBytes hx (j := j) (v := v) (by rw [eT]; exact Ar.1) (State.isArrayOf_alike hZ.alike Ar.2.1) Ar.2.2 (inb_of S hj) (H.at (inb_of S hj) hv) hg hs hd
theorem own_alen (X : Stand p l e R s m args below meth c T locs cells slots) (hx : p.tables.exec = Jvm.exec) (hZ : Z.Warmed39 s.vm) (eT : T.heap = h) (V : Arv Z h a k ty n vs dv) {g : JFrame} (hg : g.method = m) {rest : List Value} (hs : g.stack = .ref a :: rest) (hd : decode c.code g.pc = .ok (.arraylength, 1)) :
    ∀ target, Steps p.tables e below (T.setTop { g with pc := g.pc + 1, stack := .int n :: rest }) target → Steps p.tables e below (T.setTop g) target := by
  obtain ⟨cl, Ar, -, S, N, -, -⟩ := V
  intro target q
  refine X.arraylength hx (by rw [eT]; exact Ar.1) (State.isArrayOf_alike hZ.alike Ar.2.1) hg hs hd target ?_
  rw [len_of S N]; exact q
end Own

def own_pl (e0 e1 e2 e3 n : Int32) : Int32 := if (0 : Int32) < n then (if e0 < (128 : Int32) then (if (1 : Int32) < n then (if e1 < (768 : Int32) then (if (2 : Int32) < n then (if e2 < (768 : Int32) then (if (3 : Int32) < n then (if e3 < (768 : Int32) then (1 : Int32) else (0 : Int32)) else (1 : Int32)) else (0 : Int32)) else (1 : Int32)) else (0 : Int32)) else (1 : Int32)) else (0 : Int32)) else (0 : Int32)
theorem own_no1 {n : Int32} (h : ¬ (0 : Int32) < n) : ¬ (1 : Int32) < n := by
  rw [Int32.lt_iff_toInt_lt] at *
  have h0 : (0 : Int32).toInt = 0 := by decide
  have h1 : (1 : Int32).toInt = 1 := by decide
  omega
theorem own_len (n : Int32) : ¬ (4 : Int32) < ((n &&& (2147483647 : Int32)) % (5 : Int32)) ∧ ¬ ((n &&& (2147483647 : Int32)) % (5 : Int32)) < (0 : Int32) := by
  have e : (n &&& (2147483647 : Int32)).toInt = n.toInt % 2 ^ 31 := Jvm.Kit.i32_mask n _ (k := 31) (by decide) (by decide)
  have e2 : ((n &&& (2147483647 : Int32)) % (5 : Int32)).toInt = (n &&& (2147483647 : Int32)).toInt % 5 := Jvm.Kit.i32_rem_nonneg (by omega)
  have h0 : (0 : Int32).toInt = 0 := by decide
  have h4 : (4 : Int32).toInt = 4 := by decide
  rw [Int32.lt_iff_toInt_lt, Int32.lt_iff_toInt_lt]; omega
theorem own_nar (x : Int32) : nar .char (x.toUInt32.toUInt16.toUInt32.toInt32) = x.toUInt32.toUInt16.toUInt32.toInt32 := Value.int.inj (XT.narrow_c x)
theorem ef_1 (m : MethodId) (a1 : Addr) (p2 : Int32) : entryFrame m #[(.ref a1), (.int p2)] 4 = mkF m 0 #[.val (.ref a1), .val (.int p2), .unset, .unset] [] := by first | (simp [entryFrame, mkF, argsToLocals, Value.category]; done) | rfl
theorem pn_com_example_interlace_interlace_core_ItemName : plainName "com/example/interlace/interlace/core/ItemName" = true := by first | (simp [plainName, overriddenIn]; done) | decide +kernel
theorem d1_0 : decode prog_80_method_4_code 0 = .ok (.iload_n 1, 1) := by decide +kernel
theorem d1_1 : decode prog_80_method_4_code 1 = .ok (.ifCond .le 16, 3) := by decide +kernel
theorem d1_4 : decode prog_80_method_4_code 4 = .ok (.aload_n 0, 1) := by decide +kernel
theorem d1_5 : decode prog_80_method_4_code 5 = .ok (.iconst 0, 1) := by decide +kernel
theorem d1_6 : decode prog_80_method_4_code 6 = .ok (.caload, 1) := by decide +kernel
theorem d1_7 : decode prog_80_method_4_code 7 = .ok (.sipush 128, 3) := by decide +kernel
theorem d1_10 : decode prog_80_method_4_code 10 = .ok (.if_icmp .ge 7, 3) := by decide +kernel
theorem d1_13 : decode prog_80_method_4_code 13 = .ok (.iconst 1, 1) := by decide +kernel
theorem d1_14 : decode prog_80_method_4_code 14 = .ok (.goto 4, 3) := by decide +kernel
theorem d1_18 : decode prog_80_method_4_code 18 = .ok (.istore_n 2, 1) := by decide +kernel
theorem d1_19 : decode prog_80_method_4_code 19 = .ok (.iconst 1, 1) := by decide +kernel
theorem d1_20 : decode prog_80_method_4_code 20 = .ok (.istore_n 3, 1) := by decide +kernel
theorem d1_21 : decode prog_80_method_4_code 21 = .ok (.iload_n 3, 1) := by decide +kernel
theorem d1_22 : decode prog_80_method_4_code 22 = .ok (.iload_n 1, 1) := by decide +kernel
theorem d1_23 : decode prog_80_method_4_code 23 = .ok (.if_icmp .ge 28, 3) := by decide +kernel
theorem d1_26 : decode prog_80_method_4_code 26 = .ok (.iload_n 2, 1) := by decide +kernel
theorem d1_27 : decode prog_80_method_4_code 27 = .ok (.ifCond .eq 24, 3) := by decide +kernel
theorem d1_30 : decode prog_80_method_4_code 30 = .ok (.aload_n 0, 1) := by decide +kernel
theorem d1_31 : decode prog_80_method_4_code 31 = .ok (.iload_n 3, 1) := by decide +kernel
theorem d1_32 : decode prog_80_method_4_code 32 = .ok (.caload, 1) := by decide +kernel
theorem d1_33 : decode prog_80_method_4_code 33 = .ok (.sipush 768, 3) := by decide +kernel
theorem d1_36 : decode prog_80_method_4_code 36 = .ok (.if_icmp .ge 7, 3) := by decide +kernel
theorem d1_39 : decode prog_80_method_4_code 39 = .ok (.iconst 1, 1) := by decide +kernel
theorem d1_40 : decode prog_80_method_4_code 40 = .ok (.goto 4, 3) := by decide +kernel
theorem d1_44 : decode prog_80_method_4_code 44 = .ok (.istore_n 2, 1) := by decide +kernel
theorem d1_45 : decode prog_80_method_4_code 45 = .ok (.iinc 3 1, 3) := by decide +kernel
theorem d1_48 : decode prog_80_method_4_code 48 = .ok (.goto (-27), 3) := by decide +kernel
theorem d1_51 : decode prog_80_method_4_code 51 = .ok (.iload_n 2, 1) := by decide +kernel
theorem d1_52 : decode prog_80_method_4_code 52 = .ok (.ireturn, 1) := by decide +kernel
theorem d1_43 : decode prog_80_method_4_code 43 = .ok (.iconst 0, 1) := by decide +kernel
theorem d1_17 : decode prog_80_method_4_code 17 = .ok (.iconst 0, 1) := by decide +kernel
def Q1 (Z : State) (a1 : Addr) (p2 : Int32) (kk : ClassId) (e0 : Int32) (e1 : Int32) (e2 : Int32) (e3 : Int32) (h0 : Heap) (n0 : Nat) (v : Option Value) (h : Heap) (L : List Loc) : Prop := v = some (.int (own_pl e0 e1 e2 e3 p2)) ∧ Fr n0 L ∧ h = h0
set_option maxRecDepth 65536 in
set_option maxHeartbeats 40000000 in
theorem rm1 (l : Launch) (Z : State) (a0 : Array Value) (hw : ∀ d ∈ tables_1, d.before a0 Z = true) (ws : List Jvm.Cond) (a1 : Addr) (p2 : Int32) (kk : ClassId) (e0 : Int32) (e1 : Int32) (e2 : Int32) (e3 : Int32) (h0 : Heap) (n0 : Nat) (Z0 : n0 ≤ h0.size) (V_a1 : Arv Z h0 a1 kk .char (4 : Int32) [(.int e0), (.int e1), (.int e2), (.int e3)] (.int (0 : Int32))) (h4 : ¬ (4 : Int32) < p2) :
    MetFree l (⟨"com/example/interlace/interlace/core/ItemName", "isPlain", "([CI)Z"⟩ : MethodName) (head1 (Jvm.Cond.code (⟨"com/example/interlace/interlace/core/ItemName", "isPlain", "([CI)Z"⟩ : MethodName) prog_80_method_4_code 4 (some .boolean) :: ws) ({ frames := 0, cells := 0, slots := 0, locals := 0 } : Room)) (fun a U => a = #[(.ref a1), (.int p2)] ∧ Z.Warmed39 U.vm ∧ U.heap = h0) (fun _ _ _ _ _ => True) (fun _ U o U' => ∃ v L, o = .returned v ∧ Q1 Z a1 p2 kk e0 e1 e2 e3 h0 n0 v U'.heap L ∧ FrameEnd U o U' L ({ frames := 0, cells := 0, slots := 0, locals := 0 } : Room).cells ({ frames := 0, cells := 0, slots := 0, locals := 0 } : Room).slots) := by
  refine MetFree.of_bodySF (plainFor_of_name pn_com_example_interlace_interlace_core_ItemName) hisR ?_
  intro p e s m args below meth c s₁ Bd hml0 hP hK
  obtain ⟨rfl, hZ, hh⟩ := hP
  have hx := Bd.exec
  have hby := Bd.bytes
  have hml : c.maxLocals = 4 := hml0
  have hown : s.vm.findClass "com/example/interlace/interlace/core/ItemName" = some m.cls := findClass_of_methodNamed Bd.named
  have hnm := (name_of_methodNamed Bd.named Bd.method).1
  have X0 : Stand p l e ({ frames := 0, cells := 0, slots := 0, locals := 0 } : Room) s m #[(.ref a1), (.int p2)] below meth c s₁ [] 0 0 := Stand.of_body Bd
  have eh0 : s₁.heap = h0 := by rw [← hh, Bd.state]; rfl
  have N0 := Fr.nil n0
  have pre0 : ∀ t, Steps p.tables e below (s₁.setTop (mkF m 0 #[.val (.ref a1), .val (.int p2), .unset, .unset] [])) t → Steps p.tables e below (s₁.setTop (entryFrame m #[(.ref a1), (.int p2)] 4)) t := fun t k => castTop (ef_1 m a1 p2) k
  have pre2 : ∀ t, Steps p.tables e below (s₁.setTop (mkF m 1 #[.val (.ref a1), .val (.int p2), .unset, .unset] [(.int p2)])) t → Steps p.tables e below (s₁.setTop (entryFrame m #[(.ref a1), (.int p2)] 4)) t := fun t k => pre0 t (by
    show Steps p.tables e below (s₁.setTop (mkF m 0 #[.val (.ref a1), .val (.int p2), .unset, .unset] [])) t
    refine XS.iloadN X0.here hx rfl (hb hby d1_0) rfl ?_
    show Steps p.tables e below (s₁.setTop (mkF m 1 #[.val (.ref a1), .val (.int p2), .unset, .unset] [(.int p2)])) t
    exact k)
  by_cases hc1_1 : (0 : Int32) < p2
  · skip
    have pre4 : ∀ t, Steps p.tables e below (s₁.setTop (mkF m 10 #[.val (.ref a1), .val (.int p2), .unset, .unset] [(.int (128 : Int32)), (.int e0)])) t → Steps p.tables e below (s₁.setTop (entryFrame m #[(.ref a1), (.int p2)] 4)) t := fun t k => pre2 t (by
      show Steps p.tables e below (s₁.setTop (mkF m 1 #[.val (.ref a1), .val (.int p2), .unset, .unset] [(.int p2)])) t
      refine XS.ifNo X0.here hx rfl (hb hby d1_1) rfl (XT.i0_le_f hc1_1) ?_
      show Steps p.tables e below (s₁.setTop (mkF m 4 #[.val (.ref a1), .val (.int p2), .unset, .unset] [])) t
      refine XS.aloadN X0.here hx rfl (hb hby d1_4) rfl rfl ?_
      show Steps p.tables e below (s₁.setTop (mkF m 5 #[.val (.ref a1), .val (.int p2), .unset, .unset] [(.ref a1)])) t
      refine XS.iconst X0.here hx rfl (hb hby d1_5) ?_
      show Steps p.tables e below (s₁.setTop (mkF m 6 #[.val (.ref a1), .val (.int p2), .unset, .unset] [(.int (0 : Int32)), (.ref a1)])) t
      refine own_caload X0 hx hZ eh0 V_a1 (j := (0 : Int32)) (v := (.int e0)) ⟨by decide, by decide⟩ rfl (g := (mkF m 6 #[.val (.ref a1), .val (.int p2), .unset, .unset] [(.int (0 : Int32)), (.ref a1)])) rfl rfl (hb hby d1_6) _ ?_
      show Steps p.tables e below (s₁.setTop (mkF m 7 #[.val (.ref a1), .val (.int p2), .unset, .unset] [(.int e0)])) t
      refine XS.sipush X0.here hx rfl (hb hby d1_7) ?_
      show Steps p.tables e below (s₁.setTop (mkF m 10 #[.val (.ref a1), .val (.int p2), .unset, .unset] [(.int (128 : Int32)), (.int e0)])) t
      exact k)
    by_cases hc10_3 : e0 < (128 : Int32)
    · skip
      have pre6 : ∀ t, Steps p.tables e below (s₁.setTop (mkF m 23 #[.val (.ref a1), .val (.int p2), .val (.int (1 : Int32)), .val (.int (1 : Int32))] [(.int p2), (.int (1 : Int32))])) t → Steps p.tables e below (s₁.setTop (entryFrame m #[(.ref a1), (.int p2)] 4)) t := fun t k => pre4 t (by
        show Steps p.tables e below (s₁.setTop (mkF m 10 #[.val (.ref a1), .val (.int p2), .unset, .unset] [(.int (128 : Int32)), (.int e0)])) t
        refine XS.icmpNo X0.here hx rfl (hb hby d1_10) rfl (XT.ii_ge_f hc10_3) ?_
        show Steps p.tables e below (s₁.setTop (mkF m 13 #[.val (.ref a1), .val (.int p2), .unset, .unset] [])) t
        refine XS.iconst X0.here hx rfl (hb hby d1_13) ?_
        show Steps p.tables e below (s₁.setTop (mkF m 14 #[.val (.ref a1), .val (.int p2), .unset, .unset] [(.int (1 : Int32))])) t
        refine XS.goto X0.here hx rfl (pc0 := 14) (pc' := 18) rfl (hb hby d1_14) (by decide) (by decide) ?_
        show Steps p.tables e below (s₁.setTop (mkF m 18 #[.val (.ref a1), .val (.int p2), .unset, .unset] [(.int (1 : Int32))])) t
        refine XS.istoreN X0.here hx rfl (hb hby d1_18) rfl (l' := #[.val (.ref a1), .val (.int p2), .val (.int (1 : Int32)), .unset]) rfl ?_
        show Steps p.tables e below (s₁.setTop (mkF m 19 #[.val (.ref a1), .val (.int p2), .val (.int (1 : Int32)), .unset] [])) t
        refine XS.iconst X0.here hx rfl (hb hby d1_19) ?_
        show Steps p.tables e below (s₁.setTop (mkF m 20 #[.val (.ref a1), .val (.int p2), .val (.int (1 : Int32)), .unset] [(.int (1 : Int32))])) t
        refine XS.istoreN X0.here hx rfl (hb hby d1_20) rfl (l' := #[.val (.ref a1), .val (.int p2), .val (.int (1 : Int32)), .val (.int (1 : Int32))]) rfl ?_
        show Steps p.tables e below (s₁.setTop (mkF m 21 #[.val (.ref a1), .val (.int p2), .val (.int (1 : Int32)), .val (.int (1 : Int32))] [])) t
        refine XS.iloadN X0.here hx rfl (hb hby d1_21) rfl ?_
        show Steps p.tables e below (s₁.setTop (mkF m 22 #[.val (.ref a1), .val (.int p2), .val (.int (1 : Int32)), .val (.int (1 : Int32))] [(.int (1 : Int32))])) t
        refine XS.iloadN X0.here hx rfl (hb hby d1_22) rfl ?_
        show Steps p.tables e below (s₁.setTop (mkF m 23 #[.val (.ref a1), .val (.int p2), .val (.int (1 : Int32)), .val (.int (1 : Int32))] [(.int p2), (.int (1 : Int32))])) t
        exact k)
      by_cases hc23_5 : (1 : Int32) < p2
      · skip
        have pre9 : ∀ t, Steps p.tables e below (s₁.setTop (mkF m 36 #[.val (.ref a1), .val (.int p2), .val (.int (1 : Int32)), .val (.int (1 : Int32))] [(.int (768 : Int32)), (.int e1)])) t → Steps p.tables e below (s₁.setTop (entryFrame m #[(.ref a1), (.int p2)] 4)) t := fun t k => pre6 t (by
          show Steps p.tables e below (s₁.setTop (mkF m 23 #[.val (.ref a1), .val (.int p2), .val (.int (1 : Int32)), .val (.int (1 : Int32))] [(.int p2), (.int (1 : Int32))])) t
          refine XS.icmpNo X0.here hx rfl (hb hby d1_23) rfl (XT.ii_ge_f hc23_5) ?_
          show Steps p.tables e below (s₁.setTop (mkF m 26 #[.val (.ref a1), .val (.int p2), .val (.int (1 : Int32)), .val (.int (1 : Int32))] [])) t
          refine XS.iloadN X0.here hx rfl (hb hby d1_26) rfl ?_
          show Steps p.tables e below (s₁.setTop (mkF m 27 #[.val (.ref a1), .val (.int p2), .val (.int (1 : Int32)), .val (.int (1 : Int32))] [(.int (1 : Int32))])) t
          refine XS.ifNo X0.here hx rfl (hb hby d1_27) rfl (XT.i0_eq_f (show ¬ ((1 : Int32) = (0 : Int32)) from by decide)) ?_
          show Steps p.tables e below (s₁.setTop (mkF m 30 #[.val (.ref a1), .val (.int p2), .val (.int (1 : Int32)), .val (.int (1 : Int32))] [])) t
          refine XS.aloadN X0.here hx rfl (hb hby d1_30) rfl rfl ?_
          show Steps p.tables e below (s₁.setTop (mkF m 31 #[.val (.ref a1), .val (.int p2), .val (.int (1 : Int32)), .val (.int (1 : Int32))] [(.ref a1)])) t
          refine XS.iloadN X0.here hx rfl (hb hby d1_31) rfl ?_
          show Steps p.tables e below (s₁.setTop (mkF m 32 #[.val (.ref a1), .val (.int p2), .val (.int (1 : Int32)), .val (.int (1 : Int32))] [(.int (1 : Int32)), (.ref a1)])) t
          refine own_caload X0 hx hZ eh0 V_a1 (j := (1 : Int32)) (v := (.int e1)) ⟨by decide, by decide⟩ rfl (g := (mkF m 32 #[.val (.ref a1), .val (.int p2), .val (.int (1 : Int32)), .val (.int (1 : Int32))] [(.int (1 : Int32)), (.ref a1)])) rfl rfl (hb hby d1_32) _ ?_
          show Steps p.tables e below (s₁.setTop (mkF m 33 #[.val (.ref a1), .val (.int p2), .val (.int (1 : Int32)), .val (.int (1 : Int32))] [(.int e1)])) t
          refine XS.sipush X0.here hx rfl (hb hby d1_33) ?_
          show Steps p.tables e below (s₁.setTop (mkF m 36 #[.val (.ref a1), .val (.int p2), .val (.int (1 : Int32)), .val (.int (1 : Int32))] [(.int (768 : Int32)), (.int e1)])) t
          exact k)
        by_cases hc36_8 : e1 < (768 : Int32)
        · skip
          have pre11 : ∀ t, Steps p.tables e below (s₁.setTop (mkF m 23 #[.val (.ref a1), .val (.int p2), .val (.int (1 : Int32)), .val (.int (2 : Int32))] [(.int p2), (.int (2 : Int32))])) t → Steps p.tables e below (s₁.setTop (entryFrame m #[(.ref a1), (.int p2)] 4)) t := fun t k => pre9 t (by
            show Steps p.tables e below (s₁.setTop (mkF m 36 #[.val (.ref a1), .val (.int p2), .val (.int (1 : Int32)), .val (.int (1 : Int32))] [(.int (768 : Int32)), (.int e1)])) t
            refine XS.icmpNo X0.here hx rfl (hb hby d1_36) rfl (XT.ii_ge_f hc36_8) ?_
            show Steps p.tables e below (s₁.setTop (mkF m 39 #[.val (.ref a1), .val (.int p2), .val (.int (1 : Int32)), .val (.int (1 : Int32))] [])) t
            refine XS.iconst X0.here hx rfl (hb hby d1_39) ?_
            show Steps p.tables e below (s₁.setTop (mkF m 40 #[.val (.ref a1), .val (.int p2), .val (.int (1 : Int32)), .val (.int (1 : Int32))] [(.int (1 : Int32))])) t
            refine XS.goto X0.here hx rfl (pc0 := 40) (pc' := 44) rfl (hb hby d1_40) (by decide) (by decide) ?_
            show Steps p.tables e below (s₁.setTop (mkF m 44 #[.val (.ref a1), .val (.int p2), .val (.int (1 : Int32)), .val (.int (1 : Int32))] [(.int (1 : Int32))])) t
            refine XS.istoreN X0.here hx rfl (hb hby d1_44) rfl (l' := #[.val (.ref a1), .val (.int p2), .val (.int (1 : Int32)), .val (.int (1 : Int32))]) rfl ?_
            show Steps p.tables e below (s₁.setTop (mkF m 45 #[.val (.ref a1), .val (.int p2), .val (.int (1 : Int32)), .val (.int (1 : Int32))] [])) t
            refine XS.iinc X0.here hx rfl (hb hby d1_45) rfl (l' := #[.val (.ref a1), .val (.int p2), .val (.int (1 : Int32)), .val (.int (2 : Int32))]) rfl ?_
            show Steps p.tables e below (s₁.setTop (mkF m 48 #[.val (.ref a1), .val (.int p2), .val (.int (1 : Int32)), .val (.int (2 : Int32))] [])) t
            refine XS.goto X0.here hx rfl (pc0 := 48) (pc' := 21) rfl (hb hby d1_48) (by decide) (by decide) ?_
            show Steps p.tables e below (s₁.setTop (mkF m 21 #[.val (.ref a1), .val (.int p2), .val (.int (1 : Int32)), .val (.int (2 : Int32))] [])) t
            refine XS.iloadN X0.here hx rfl (hb hby d1_21) rfl ?_
            show Steps p.tables e below (s₁.setTop (mkF m 22 #[.val (.ref a1), .val (.int p2), .val (.int (1 : Int32)), .val (.int (2 : Int32))] [(.int (2 : Int32))])) t
            refine XS.iloadN X0.here hx rfl (hb hby d1_22) rfl ?_
            show Steps p.tables e below (s₁.setTop (mkF m 23 #[.val (.ref a1), .val (.int p2), .val (.int (1 : Int32)), .val (.int (2 : Int32))] [(.int p2), (.int (2 : Int32))])) t
            exact k)
          by_cases hc23_10 : (2 : Int32) < p2
          · skip
            have pre14 : ∀ t, Steps p.tables e below (s₁.setTop (mkF m 36 #[.val (.ref a1), .val (.int p2), .val (.int (1 : Int32)), .val (.int (2 : Int32))] [(.int (768 : Int32)), (.int e2)])) t → Steps p.tables e below (s₁.setTop (entryFrame m #[(.ref a1), (.int p2)] 4)) t := fun t k => pre11 t (by
              show Steps p.tables e below (s₁.setTop (mkF m 23 #[.val (.ref a1), .val (.int p2), .val (.int (1 : Int32)), .val (.int (2 : Int32))] [(.int p2), (.int (2 : Int32))])) t
              refine XS.icmpNo X0.here hx rfl (hb hby d1_23) rfl (XT.ii_ge_f hc23_10) ?_
              show Steps p.tables e below (s₁.setTop (mkF m 26 #[.val (.ref a1), .val (.int p2), .val (.int (1 : Int32)), .val (.int (2 : Int32))] [])) t
              refine XS.iloadN X0.here hx rfl (hb hby d1_26) rfl ?_
              show Steps p.tables e below (s₁.setTop (mkF m 27 #[.val (.ref a1), .val (.int p2), .val (.int (1 : Int32)), .val (.int (2 : Int32))] [(.int (1 : Int32))])) t
              refine XS.ifNo X0.here hx rfl (hb hby d1_27) rfl (XT.i0_eq_f (show ¬ ((1 : Int32) = (0 : Int32)) from by decide)) ?_
              show Steps p.tables e below (s₁.setTop (mkF m 30 #[.val (.ref a1), .val (.int p2), .val (.int (1 : Int32)), .val (.int (2 : Int32))] [])) t
              refine XS.aloadN X0.here hx rfl (hb hby d1_30) rfl rfl ?_
              show Steps p.tables e below (s₁.setTop (mkF m 31 #[.val (.ref a1), .val (.int p2), .val (.int (1 : Int32)), .val (.int (2 : Int32))] [(.ref a1)])) t
              refine XS.iloadN X0.here hx rfl (hb hby d1_31) rfl ?_
              show Steps p.tables e below (s₁.setTop (mkF m 32 #[.val (.ref a1), .val (.int p2), .val (.int (1 : Int32)), .val (.int (2 : Int32))] [(.int (2 : Int32)), (.ref a1)])) t
              refine own_caload X0 hx hZ eh0 V_a1 (j := (2 : Int32)) (v := (.int e2)) ⟨by decide, by decide⟩ rfl (g := (mkF m 32 #[.val (.ref a1), .val (.int p2), .val (.int (1 : Int32)), .val (.int (2 : Int32))] [(.int (2 : Int32)), (.ref a1)])) rfl rfl (hb hby d1_32) _ ?_
              show Steps p.tables e below (s₁.setTop (mkF m 33 #[.val (.ref a1), .val (.int p2), .val (.int (1 : Int32)), .val (.int (2 : Int32))] [(.int e2)])) t
              refine XS.sipush X0.here hx rfl (hb hby d1_33) ?_
              show Steps p.tables e below (s₁.setTop (mkF m 36 #[.val (.ref a1), .val (.int p2), .val (.int (1 : Int32)), .val (.int (2 : Int32))] [(.int (768 : Int32)), (.int e2)])) t
              exact k)
            by_cases hc36_13 : e2 < (768 : Int32)
            · skip
              have pre16 : ∀ t, Steps p.tables e below (s₁.setTop (mkF m 23 #[.val (.ref a1), .val (.int p2), .val (.int (1 : Int32)), .val (.int (3 : Int32))] [(.int p2), (.int (3 : Int32))])) t → Steps p.tables e below (s₁.setTop (entryFrame m #[(.ref a1), (.int p2)] 4)) t := fun t k => pre14 t (by
                show Steps p.tables e below (s₁.setTop (mkF m 36 #[.val (.ref a1), .val (.int p2), .val (.int (1 : Int32)), .val (.int (2 : Int32))] [(.int (768 : Int32)), (.int e2)])) t
                refine XS.icmpNo X0.here hx rfl (hb hby d1_36) rfl (XT.ii_ge_f hc36_13) ?_
                show Steps p.tables e below (s₁.setTop (mkF m 39 #[.val (.ref a1), .val (.int p2), .val (.int (1 : Int32)), .val (.int (2 : Int32))] [])) t
                refine XS.iconst X0.here hx rfl (hb hby d1_39) ?_
                show Steps p.tables e below (s₁.setTop (mkF m 40 #[.val (.ref a1), .val (.int p2), .val (.int (1 : Int32)), .val (.int (2 : Int32))] [(.int (1 : Int32))])) t
                refine XS.goto X0.here hx rfl (pc0 := 40) (pc' := 44) rfl (hb hby d1_40) (by decide) (by decide) ?_
                show Steps p.tables e below (s₁.setTop (mkF m 44 #[.val (.ref a1), .val (.int p2), .val (.int (1 : Int32)), .val (.int (2 : Int32))] [(.int (1 : Int32))])) t
                refine XS.istoreN X0.here hx rfl (hb hby d1_44) rfl (l' := #[.val (.ref a1), .val (.int p2), .val (.int (1 : Int32)), .val (.int (2 : Int32))]) rfl ?_
                show Steps p.tables e below (s₁.setTop (mkF m 45 #[.val (.ref a1), .val (.int p2), .val (.int (1 : Int32)), .val (.int (2 : Int32))] [])) t
                refine XS.iinc X0.here hx rfl (hb hby d1_45) rfl (l' := #[.val (.ref a1), .val (.int p2), .val (.int (1 : Int32)), .val (.int (3 : Int32))]) rfl ?_
                show Steps p.tables e below (s₁.setTop (mkF m 48 #[.val (.ref a1), .val (.int p2), .val (.int (1 : Int32)), .val (.int (3 : Int32))] [])) t
                refine XS.goto X0.here hx rfl (pc0 := 48) (pc' := 21) rfl (hb hby d1_48) (by decide) (by decide) ?_
                show Steps p.tables e below (s₁.setTop (mkF m 21 #[.val (.ref a1), .val (.int p2), .val (.int (1 : Int32)), .val (.int (3 : Int32))] [])) t
                refine XS.iloadN X0.here hx rfl (hb hby d1_21) rfl ?_
                show Steps p.tables e below (s₁.setTop (mkF m 22 #[.val (.ref a1), .val (.int p2), .val (.int (1 : Int32)), .val (.int (3 : Int32))] [(.int (3 : Int32))])) t
                refine XS.iloadN X0.here hx rfl (hb hby d1_22) rfl ?_
                show Steps p.tables e below (s₁.setTop (mkF m 23 #[.val (.ref a1), .val (.int p2), .val (.int (1 : Int32)), .val (.int (3 : Int32))] [(.int p2), (.int (3 : Int32))])) t
                exact k)
              by_cases hc23_15 : (3 : Int32) < p2
              · skip
                have pre19 : ∀ t, Steps p.tables e below (s₁.setTop (mkF m 36 #[.val (.ref a1), .val (.int p2), .val (.int (1 : Int32)), .val (.int (3 : Int32))] [(.int (768 : Int32)), (.int e3)])) t → Steps p.tables e below (s₁.setTop (entryFrame m #[(.ref a1), (.int p2)] 4)) t := fun t k => pre16 t (by
                  show Steps p.tables e below (s₁.setTop (mkF m 23 #[.val (.ref a1), .val (.int p2), .val (.int (1 : Int32)), .val (.int (3 : Int32))] [(.int p2), (.int (3 : Int32))])) t
                  refine XS.icmpNo X0.here hx rfl (hb hby d1_23) rfl (XT.ii_ge_f hc23_15) ?_
                  show Steps p.tables e below (s₁.setTop (mkF m 26 #[.val (.ref a1), .val (.int p2), .val (.int (1 : Int32)), .val (.int (3 : Int32))] [])) t
                  refine XS.iloadN X0.here hx rfl (hb hby d1_26) rfl ?_
                  show Steps p.tables e below (s₁.setTop (mkF m 27 #[.val (.ref a1), .val (.int p2), .val (.int (1 : Int32)), .val (.int (3 : Int32))] [(.int (1 : Int32))])) t
                  refine XS.ifNo X0.here hx rfl (hb hby d1_27) rfl (XT.i0_eq_f (show ¬ ((1 : Int32) = (0 : Int32)) from by decide)) ?_
                  show Steps p.tables e below (s₁.setTop (mkF m 30 #[.val (.ref a1), .val (.int p2), .val (.int (1 : Int32)), .val (.int (3 : Int32))] [])) t
                  refine XS.aloadN X0.here hx rfl (hb hby d1_30) rfl rfl ?_
                  show Steps p.tables e below (s₁.setTop (mkF m 31 #[.val (.ref a1), .val (.int p2), .val (.int (1 : Int32)), .val (.int (3 : Int32))] [(.ref a1)])) t
                  refine XS.iloadN X0.here hx rfl (hb hby d1_31) rfl ?_
                  show Steps p.tables e below (s₁.setTop (mkF m 32 #[.val (.ref a1), .val (.int p2), .val (.int (1 : Int32)), .val (.int (3 : Int32))] [(.int (3 : Int32)), (.ref a1)])) t
                  refine own_caload X0 hx hZ eh0 V_a1 (j := (3 : Int32)) (v := (.int e3)) ⟨by decide, by decide⟩ rfl (g := (mkF m 32 #[.val (.ref a1), .val (.int p2), .val (.int (1 : Int32)), .val (.int (3 : Int32))] [(.int (3 : Int32)), (.ref a1)])) rfl rfl (hb hby d1_32) _ ?_
                  show Steps p.tables e below (s₁.setTop (mkF m 33 #[.val (.ref a1), .val (.int p2), .val (.int (1 : Int32)), .val (.int (3 : Int32))] [(.int e3)])) t
                  refine XS.sipush X0.here hx rfl (hb hby d1_33) ?_
                  show Steps p.tables e below (s₁.setTop (mkF m 36 #[.val (.ref a1), .val (.int p2), .val (.int (1 : Int32)), .val (.int (3 : Int32))] [(.int (768 : Int32)), (.int e3)])) t
                  exact k)
                by_cases hc36_18 : e3 < (768 : Int32)
                · skip
                  have pre21 : ∀ t, Steps p.tables e below (s₁.setTop (mkF m 52 #[.val (.ref a1), .val (.int p2), .val (.int (1 : Int32)), .val (.int (4 : Int32))] [(.int (1 : Int32))])) t → Steps p.tables e below (s₁.setTop (entryFrame m #[(.ref a1), (.int p2)] 4)) t := fun t k => pre19 t (by
                    show Steps p.tables e below (s₁.setTop (mkF m 36 #[.val (.ref a1), .val (.int p2), .val (.int (1 : Int32)), .val (.int (3 : Int32))] [(.int (768 : Int32)), (.int e3)])) t
                    refine XS.icmpNo X0.here hx rfl (hb hby d1_36) rfl (XT.ii_ge_f hc36_18) ?_
                    show Steps p.tables e below (s₁.setTop (mkF m 39 #[.val (.ref a1), .val (.int p2), .val (.int (1 : Int32)), .val (.int (3 : Int32))] [])) t
                    refine XS.iconst X0.here hx rfl (hb hby d1_39) ?_
                    show Steps p.tables e below (s₁.setTop (mkF m 40 #[.val (.ref a1), .val (.int p2), .val (.int (1 : Int32)), .val (.int (3 : Int32))] [(.int (1 : Int32))])) t
                    refine XS.goto X0.here hx rfl (pc0 := 40) (pc' := 44) rfl (hb hby d1_40) (by decide) (by decide) ?_
                    show Steps p.tables e below (s₁.setTop (mkF m 44 #[.val (.ref a1), .val (.int p2), .val (.int (1 : Int32)), .val (.int (3 : Int32))] [(.int (1 : Int32))])) t
                    refine XS.istoreN X0.here hx rfl (hb hby d1_44) rfl (l' := #[.val (.ref a1), .val (.int p2), .val (.int (1 : Int32)), .val (.int (3 : Int32))]) rfl ?_
                    show Steps p.tables e below (s₁.setTop (mkF m 45 #[.val (.ref a1), .val (.int p2), .val (.int (1 : Int32)), .val (.int (3 : Int32))] [])) t
                    refine XS.iinc X0.here hx rfl (hb hby d1_45) rfl (l' := #[.val (.ref a1), .val (.int p2), .val (.int (1 : Int32)), .val (.int (4 : Int32))]) rfl ?_
                    show Steps p.tables e below (s₁.setTop (mkF m 48 #[.val (.ref a1), .val (.int p2), .val (.int (1 : Int32)), .val (.int (4 : Int32))] [])) t
                    refine XS.goto X0.here hx rfl (pc0 := 48) (pc' := 21) rfl (hb hby d1_48) (by decide) (by decide) ?_
                    show Steps p.tables e below (s₁.setTop (mkF m 21 #[.val (.ref a1), .val (.int p2), .val (.int (1 : Int32)), .val (.int (4 : Int32))] [])) t
                    refine XS.iloadN X0.here hx rfl (hb hby d1_21) rfl ?_
                    show Steps p.tables e below (s₁.setTop (mkF m 22 #[.val (.ref a1), .val (.int p2), .val (.int (1 : Int32)), .val (.int (4 : Int32))] [(.int (4 : Int32))])) t
                    refine XS.iloadN X0.here hx rfl (hb hby d1_22) rfl ?_
                    show Steps p.tables e below (s₁.setTop (mkF m 23 #[.val (.ref a1), .val (.int p2), .val (.int (1 : Int32)), .val (.int (4 : Int32))] [(.int p2), (.int (4 : Int32))])) t
                    refine XS.icmpYes X0.here hx rfl (pc0 := 23) (pc' := 51) rfl (hb hby d1_23) rfl (XT.ii_ge_t (show ¬ ((4 : Int32) < p2) from h4)) (by decide) (by decide) ?_
                    show Steps p.tables e below (s₁.setTop (mkF m 51 #[.val (.ref a1), .val (.int p2), .val (.int (1 : Int32)), .val (.int (4 : Int32))] [])) t
                    refine XS.iloadN X0.here hx rfl (hb hby d1_51) rfl ?_
                    show Steps p.tables e below (s₁.setTop (mkF m 52 #[.val (.ref a1), .val (.int p2), .val (.int (1 : Int32)), .val (.int (4 : Int32))] [(.int (1 : Int32))])) t
                    exact k)
                  obtain ⟨fs, hr, hrun, hended, hW, hsame⟩ := X0.leave (v := some (.int (1 : Int32))) (fun h => by rw [Bd.returns] at h; cases h)
                  refine ⟨_, _, pre21 _ ?_, hrun, hended, _, _, rfl, ?_, ⟨_, rfl⟩, hW, hsame.mono (by decide) (by decide)⟩
                  · show Steps p.tables e below (s₁.setTop (mkF m 52 #[.val (.ref a1), .val (.int p2), .val (.int (1 : Int32)), .val (.int (4 : Int32))] [(.int (1 : Int32))])) _
                    exact retN X0 hx (t := .boolean) Bd.returns (by simp) (hb hby d1_52) hr
                  · show Q1 Z a1 p2 kk e0 e1 e2 e3 h0 n0 _ s₁.heap _
                    rw [eh0]
                    exact ⟨(congrArg (fun z => some (Value.int z)) (show (1 : Int32) = (own_pl e0 e1 e2 e3 p2) from (by simp only [own_pl, if_pos hc1_1, if_pos hc10_3, if_pos hc23_5, if_pos hc36_8, if_pos hc23_10, if_pos hc36_13, if_pos hc23_15, if_pos hc36_18]))), N0, rfl⟩
                · skip
                  have pre23 : ∀ t, Steps p.tables e below (s₁.setTop (mkF m 52 #[.val (.ref a1), .val (.int p2), .val (.int (0 : Int32)), .val (.int (4 : Int32))] [(.int (0 : Int32))])) t → Steps p.tables e below (s₁.setTop (entryFrame m #[(.ref a1), (.int p2)] 4)) t := fun t k => pre19 t (by
                    show Steps p.tables e below (s₁.setTop (mkF m 36 #[.val (.ref a1), .val (.int p2), .val (.int (1 : Int32)), .val (.int (3 : Int32))] [(.int (768 : Int32)), (.int e3)])) t
                    refine XS.icmpYes X0.here hx rfl (pc0 := 36) (pc' := 43) rfl (hb hby d1_36) rfl (XT.ii_ge_t hc36_18) (by decide) (by decide) ?_
                    show Steps p.tables e below (s₁.setTop (mkF m 43 #[.val (.ref a1), .val (.int p2), .val (.int (1 : Int32)), .val (.int (3 : Int32))] [])) t
                    refine XS.iconst X0.here hx rfl (hb hby d1_43) ?_
                    show Steps p.tables e below (s₁.setTop (mkF m 44 #[.val (.ref a1), .val (.int p2), .val (.int (1 : Int32)), .val (.int (3 : Int32))] [(.int (0 : Int32))])) t
                    refine XS.istoreN X0.here hx rfl (hb hby d1_44) rfl (l' := #[.val (.ref a1), .val (.int p2), .val (.int (0 : Int32)), .val (.int (3 : Int32))]) rfl ?_
                    show Steps p.tables e below (s₁.setTop (mkF m 45 #[.val (.ref a1), .val (.int p2), .val (.int (0 : Int32)), .val (.int (3 : Int32))] [])) t
                    refine XS.iinc X0.here hx rfl (hb hby d1_45) rfl (l' := #[.val (.ref a1), .val (.int p2), .val (.int (0 : Int32)), .val (.int (4 : Int32))]) rfl ?_
                    show Steps p.tables e below (s₁.setTop (mkF m 48 #[.val (.ref a1), .val (.int p2), .val (.int (0 : Int32)), .val (.int (4 : Int32))] [])) t
                    refine XS.goto X0.here hx rfl (pc0 := 48) (pc' := 21) rfl (hb hby d1_48) (by decide) (by decide) ?_
                    show Steps p.tables e below (s₁.setTop (mkF m 21 #[.val (.ref a1), .val (.int p2), .val (.int (0 : Int32)), .val (.int (4 : Int32))] [])) t
                    refine XS.iloadN X0.here hx rfl (hb hby d1_21) rfl ?_
                    show Steps p.tables e below (s₁.setTop (mkF m 22 #[.val (.ref a1), .val (.int p2), .val (.int (0 : Int32)), .val (.int (4 : Int32))] [(.int (4 : Int32))])) t
                    refine XS.iloadN X0.here hx rfl (hb hby d1_22) rfl ?_
                    show Steps p.tables e below (s₁.setTop (mkF m 23 #[.val (.ref a1), .val (.int p2), .val (.int (0 : Int32)), .val (.int (4 : Int32))] [(.int p2), (.int (4 : Int32))])) t
                    refine XS.icmpYes X0.here hx rfl (pc0 := 23) (pc' := 51) rfl (hb hby d1_23) rfl (XT.ii_ge_t (show ¬ ((4 : Int32) < p2) from h4)) (by decide) (by decide) ?_
                    show Steps p.tables e below (s₁.setTop (mkF m 51 #[.val (.ref a1), .val (.int p2), .val (.int (0 : Int32)), .val (.int (4 : Int32))] [])) t
                    refine XS.iloadN X0.here hx rfl (hb hby d1_51) rfl ?_
                    show Steps p.tables e below (s₁.setTop (mkF m 52 #[.val (.ref a1), .val (.int p2), .val (.int (0 : Int32)), .val (.int (4 : Int32))] [(.int (0 : Int32))])) t
                    exact k)
                  obtain ⟨fs, hr, hrun, hended, hW, hsame⟩ := X0.leave (v := some (.int (0 : Int32))) (fun h => by rw [Bd.returns] at h; cases h)
                  refine ⟨_, _, pre23 _ ?_, hrun, hended, _, _, rfl, ?_, ⟨_, rfl⟩, hW, hsame.mono (by decide) (by decide)⟩
                  · show Steps p.tables e below (s₁.setTop (mkF m 52 #[.val (.ref a1), .val (.int p2), .val (.int (0 : Int32)), .val (.int (4 : Int32))] [(.int (0 : Int32))])) _
                    exact retN X0 hx (t := .boolean) Bd.returns (by simp) (hb hby d1_52) hr
                  · show Q1 Z a1 p2 kk e0 e1 e2 e3 h0 n0 _ s₁.heap _
                    rw [eh0]
                    exact ⟨(congrArg (fun z => some (Value.int z)) (show (0 : Int32) = (own_pl e0 e1 e2 e3 p2) from (by simp only [own_pl, if_pos hc1_1, if_pos hc10_3, if_pos hc23_5, if_pos hc36_8, if_pos hc23_10, if_pos hc36_13, if_pos hc23_15, if_neg hc36_18]))), N0, rfl⟩
              · skip
                have pre24 : ∀ t, Steps p.tables e below (s₁.setTop (mkF m 52 #[.val (.ref a1), .val (.int p2), .val (.int (1 : Int32)), .val (.int (3 : Int32))] [(.int (1 : Int32))])) t → Steps p.tables e below (s₁.setTop (entryFrame m #[(.ref a1), (.int p2)] 4)) t := fun t k => pre16 t (by
                  show Steps p.tables e below (s₁.setTop (mkF m 23 #[.val (.ref a1), .val (.int p2), .val (.int (1 : Int32)), .val (.int (3 : Int32))] [(.int p2), (.int (3 : Int32))])) t
                  refine XS.icmpYes X0.here hx rfl (pc0 := 23) (pc' := 51) rfl (hb hby d1_23) rfl (XT.ii_ge_t hc23_15) (by decide) (by decide) ?_
                  show Steps p.tables e below (s₁.setTop (mkF m 51 #[.val (.ref a1), .val (.int p2), .val (.int (1 : Int32)), .val (.int (3 : Int32))] [])) t
                  refine XS.iloadN X0.here hx rfl (hb hby d1_51) rfl ?_
                  show Steps p.tables e below (s₁.setTop (mkF m 52 #[.val (.ref a1), .val (.int p2), .val (.int (1 : Int32)), .val (.int (3 : Int32))] [(.int (1 : Int32))])) t
                  exact k)
                obtain ⟨fs, hr, hrun, hended, hW, hsame⟩ := X0.leave (v := some (.int (1 : Int32))) (fun h => by rw [Bd.returns] at h; cases h)
                refine ⟨_, _, pre24 _ ?_, hrun, hended, _, _, rfl, ?_, ⟨_, rfl⟩, hW, hsame.mono (by decide) (by decide)⟩
                · show Steps p.tables e below (s₁.setTop (mkF m 52 #[.val (.ref a1), .val (.int p2), .val (.int (1 : Int32)), .val (.int (3 : Int32))] [(.int (1 : Int32))])) _
                  exact retN X0 hx (t := .boolean) Bd.returns (by simp) (hb hby d1_52) hr
                · show Q1 Z a1 p2 kk e0 e1 e2 e3 h0 n0 _ s₁.heap _
                  rw [eh0]
                  exact ⟨(congrArg (fun z => some (Value.int z)) (show (1 : Int32) = (own_pl e0 e1 e2 e3 p2) from (by simp only [own_pl, if_pos hc1_1, if_pos hc10_3, if_pos hc23_5, if_pos hc36_8, if_pos hc23_10, if_pos hc36_13, if_neg hc23_15]))), N0, rfl⟩
            · skip
              have pre26 : ∀ t, Steps p.tables e below (s₁.setTop (mkF m 23 #[.val (.ref a1), .val (.int p2), .val (.int (0 : Int32)), .val (.int (3 : Int32))] [(.int p2), (.int (3 : Int32))])) t → Steps p.tables e below (s₁.setTop (entryFrame m #[(.ref a1), (.int p2)] 4)) t := fun t k => pre14 t (by
                show Steps p.tables e below (s₁.setTop (mkF m 36 #[.val (.ref a1), .val (.int p2), .val (.int (1 : Int32)), .val (.int (2 : Int32))] [(.int (768 : Int32)), (.int e2)])) t
                refine XS.icmpYes X0.here hx rfl (pc0 := 36) (pc' := 43) rfl (hb hby d1_36) rfl (XT.ii_ge_t hc36_13) (by decide) (by decide) ?_
                show Steps p.tables e below (s₁.setTop (mkF m 43 #[.val (.ref a1), .val (.int p2), .val (.int (1 : Int32)), .val (.int (2 : Int32))] [])) t
                refine XS.iconst X0.here hx rfl (hb hby d1_43) ?_
                show Steps p.tables e below (s₁.setTop (mkF m 44 #[.val (.ref a1), .val (.int p2), .val (.int (1 : Int32)), .val (.int (2 : Int32))] [(.int (0 : Int32))])) t
                refine XS.istoreN X0.here hx rfl (hb hby d1_44) rfl (l' := #[.val (.ref a1), .val (.int p2), .val (.int (0 : Int32)), .val (.int (2 : Int32))]) rfl ?_
                show Steps p.tables e below (s₁.setTop (mkF m 45 #[.val (.ref a1), .val (.int p2), .val (.int (0 : Int32)), .val (.int (2 : Int32))] [])) t
                refine XS.iinc X0.here hx rfl (hb hby d1_45) rfl (l' := #[.val (.ref a1), .val (.int p2), .val (.int (0 : Int32)), .val (.int (3 : Int32))]) rfl ?_
                show Steps p.tables e below (s₁.setTop (mkF m 48 #[.val (.ref a1), .val (.int p2), .val (.int (0 : Int32)), .val (.int (3 : Int32))] [])) t
                refine XS.goto X0.here hx rfl (pc0 := 48) (pc' := 21) rfl (hb hby d1_48) (by decide) (by decide) ?_
                show Steps p.tables e below (s₁.setTop (mkF m 21 #[.val (.ref a1), .val (.int p2), .val (.int (0 : Int32)), .val (.int (3 : Int32))] [])) t
                refine XS.iloadN X0.here hx rfl (hb hby d1_21) rfl ?_
                show Steps p.tables e below (s₁.setTop (mkF m 22 #[.val (.ref a1), .val (.int p2), .val (.int (0 : Int32)), .val (.int (3 : Int32))] [(.int (3 : Int32))])) t
                refine XS.iloadN X0.here hx rfl (hb hby d1_22) rfl ?_
                show Steps p.tables e below (s₁.setTop (mkF m 23 #[.val (.ref a1), .val (.int p2), .val (.int (0 : Int32)), .val (.int (3 : Int32))] [(.int p2), (.int (3 : Int32))])) t
                exact k)
              by_cases hc23_25 : (3 : Int32) < p2
              · skip
                have pre28 : ∀ t, Steps p.tables e below (s₁.setTop (mkF m 52 #[.val (.ref a1), .val (.int p2), .val (.int (0 : Int32)), .val (.int (3 : Int32))] [(.int (0 : Int32))])) t → Steps p.tables e below (s₁.setTop (entryFrame m #[(.ref a1), (.int p2)] 4)) t := fun t k => pre26 t (by
                  show Steps p.tables e below (s₁.setTop (mkF m 23 #[.val (.ref a1), .val (.int p2), .val (.int (0 : Int32)), .val (.int (3 : Int32))] [(.int p2), (.int (3 : Int32))])) t
                  refine XS.icmpNo X0.here hx rfl (hb hby d1_23) rfl (XT.ii_ge_f hc23_25) ?_
                  show Steps p.tables e below (s₁.setTop (mkF m 26 #[.val (.ref a1), .val (.int p2), .val (.int (0 : Int32)), .val (.int (3 : Int32))] [])) t
                  refine XS.iloadN X0.here hx rfl (hb hby d1_26) rfl ?_
                  show Steps p.tables e below (s₁.setTop (mkF m 27 #[.val (.ref a1), .val (.int p2), .val (.int (0 : Int32)), .val (.int (3 : Int32))] [(.int (0 : Int32))])) t
                  refine XS.ifYes X0.here hx rfl (pc0 := 27) (pc' := 51) rfl (hb hby d1_27) rfl (XT.i0_eq_t (show (0 : Int32) = (0 : Int32) from by decide)) (by decide) (by decide) ?_
                  show Steps p.tables e below (s₁.setTop (mkF m 51 #[.val (.ref a1), .val (.int p2), .val (.int (0 : Int32)), .val (.int (3 : Int32))] [])) t
                  refine XS.iloadN X0.here hx rfl (hb hby d1_51) rfl ?_
                  show Steps p.tables e below (s₁.setTop (mkF m 52 #[.val (.ref a1), .val (.int p2), .val (.int (0 : Int32)), .val (.int (3 : Int32))] [(.int (0 : Int32))])) t
                  exact k)
                obtain ⟨fs, hr, hrun, hended, hW, hsame⟩ := X0.leave (v := some (.int (0 : Int32))) (fun h => by rw [Bd.returns] at h; cases h)
                refine ⟨_, _, pre28 _ ?_, hrun, hended, _, _, rfl, ?_, ⟨_, rfl⟩, hW, hsame.mono (by decide) (by decide)⟩
                · show Steps p.tables e below (s₁.setTop (mkF m 52 #[.val (.ref a1), .val (.int p2), .val (.int (0 : Int32)), .val (.int (3 : Int32))] [(.int (0 : Int32))])) _
                  exact retN X0 hx (t := .boolean) Bd.returns (by simp) (hb hby d1_52) hr
                · show Q1 Z a1 p2 kk e0 e1 e2 e3 h0 n0 _ s₁.heap _
                  rw [eh0]
                  exact ⟨(congrArg (fun z => some (Value.int z)) (show (0 : Int32) = (own_pl e0 e1 e2 e3 p2) from (by simp only [own_pl, if_pos hc1_1, if_pos hc10_3, if_pos hc23_5, if_pos hc36_8, if_pos hc23_10, if_neg hc36_13, if_pos hc23_25]))), N0, rfl⟩
              · skip
                have pre29 : ∀ t, Steps p.tables e below (s₁.setTop (mkF m 52 #[.val (.ref a1), .val (.int p2), .val (.int (0 : Int32)), .val (.int (3 : Int32))] [(.int (0 : Int32))])) t → Steps p.tables e below (s₁.setTop (entryFrame m #[(.ref a1), (.int p2)] 4)) t := fun t k => pre26 t (by
                  show Steps p.tables e below (s₁.setTop (mkF m 23 #[.val (.ref a1), .val (.int p2), .val (.int (0 : Int32)), .val (.int (3 : Int32))] [(.int p2), (.int (3 : Int32))])) t
                  refine XS.icmpYes X0.here hx rfl (pc0 := 23) (pc' := 51) rfl (hb hby d1_23) rfl (XT.ii_ge_t hc23_25) (by decide) (by decide) ?_
                  show Steps p.tables e below (s₁.setTop (mkF m 51 #[.val (.ref a1), .val (.int p2), .val (.int (0 : Int32)), .val (.int (3 : Int32))] [])) t
                  refine XS.iloadN X0.here hx rfl (hb hby d1_51) rfl ?_
                  show Steps p.tables e below (s₁.setTop (mkF m 52 #[.val (.ref a1), .val (.int p2), .val (.int (0 : Int32)), .val (.int (3 : Int32))] [(.int (0 : Int32))])) t
                  exact k)
                obtain ⟨fs, hr, hrun, hended, hW, hsame⟩ := X0.leave (v := some (.int (0 : Int32))) (fun h => by rw [Bd.returns] at h; cases h)
                refine ⟨_, _, pre29 _ ?_, hrun, hended, _, _, rfl, ?_, ⟨_, rfl⟩, hW, hsame.mono (by decide) (by decide)⟩
                · show Steps p.tables e below (s₁.setTop (mkF m 52 #[.val (.ref a1), .val (.int p2), .val (.int (0 : Int32)), .val (.int (3 : Int32))] [(.int (0 : Int32))])) _
                  exact retN X0 hx (t := .boolean) Bd.returns (by simp) (hb hby d1_52) hr
                · show Q1 Z a1 p2 kk e0 e1 e2 e3 h0 n0 _ s₁.heap _
                  rw [eh0]
                  exact ⟨(congrArg (fun z => some (Value.int z)) (show (0 : Int32) = (own_pl e0 e1 e2 e3 p2) from (by simp only [own_pl, if_pos hc1_1, if_pos hc10_3, if_pos hc23_5, if_pos hc36_8, if_pos hc23_10, if_neg hc36_13, if_neg hc23_25]))), N0, rfl⟩
          · skip
            have pre30 : ∀ t, Steps p.tables e below (s₁.setTop (mkF m 52 #[.val (.ref a1), .val (.int p2), .val (.int (1 : Int32)), .val (.int (2 : Int32))] [(.int (1 : Int32))])) t → Steps p.tables e below (s₁.setTop (entryFrame m #[(.ref a1), (.int p2)] 4)) t := fun t k => pre11 t (by
              show Steps p.tables e below (s₁.setTop (mkF m 23 #[.val (.ref a1), .val (.int p2), .val (.int (1 : Int32)), .val (.int (2 : Int32))] [(.int p2), (.int (2 : Int32))])) t
              refine XS.icmpYes X0.here hx rfl (pc0 := 23) (pc' := 51) rfl (hb hby d1_23) rfl (XT.ii_ge_t hc23_10) (by decide) (by decide) ?_
              show Steps p.tables e below (s₁.setTop (mkF m 51 #[.val (.ref a1), .val (.int p2), .val (.int (1 : Int32)), .val (.int (2 : Int32))] [])) t
              refine XS.iloadN X0.here hx rfl (hb hby d1_51) rfl ?_
              show Steps p.tables e below (s₁.setTop (mkF m 52 #[.val (.ref a1), .val (.int p2), .val (.int (1 : Int32)), .val (.int (2 : Int32))] [(.int (1 : Int32))])) t
              exact k)
            obtain ⟨fs, hr, hrun, hended, hW, hsame⟩ := X0.leave (v := some (.int (1 : Int32))) (fun h => by rw [Bd.returns] at h; cases h)
            refine ⟨_, _, pre30 _ ?_, hrun, hended, _, _, rfl, ?_, ⟨_, rfl⟩, hW, hsame.mono (by decide) (by decide)⟩
            · show Steps p.tables e below (s₁.setTop (mkF m 52 #[.val (.ref a1), .val (.int p2), .val (.int (1 : Int32)), .val (.int (2 : Int32))] [(.int (1 : Int32))])) _
              exact retN X0 hx (t := .boolean) Bd.returns (by simp) (hb hby d1_52) hr
            · show Q1 Z a1 p2 kk e0 e1 e2 e3 h0 n0 _ s₁.heap _
              rw [eh0]
              exact ⟨(congrArg (fun z => some (Value.int z)) (show (1 : Int32) = (own_pl e0 e1 e2 e3 p2) from (by simp only [own_pl, if_pos hc1_1, if_pos hc10_3, if_pos hc23_5, if_pos hc36_8, if_neg hc23_10]))), N0, rfl⟩
        · skip
          have pre32 : ∀ t, Steps p.tables e below (s₁.setTop (mkF m 23 #[.val (.ref a1), .val (.int p2), .val (.int (0 : Int32)), .val (.int (2 : Int32))] [(.int p2), (.int (2 : Int32))])) t → Steps p.tables e below (s₁.setTop (entryFrame m #[(.ref a1), (.int p2)] 4)) t := fun t k => pre9 t (by
            show Steps p.tables e below (s₁.setTop (mkF m 36 #[.val (.ref a1), .val (.int p2), .val (.int (1 : Int32)), .val (.int (1 : Int32))] [(.int (768 : Int32)), (.int e1)])) t
            refine XS.icmpYes X0.here hx rfl (pc0 := 36) (pc' := 43) rfl (hb hby d1_36) rfl (XT.ii_ge_t hc36_8) (by decide) (by decide) ?_
            show Steps p.tables e below (s₁.setTop (mkF m 43 #[.val (.ref a1), .val (.int p2), .val (.int (1 : Int32)), .val (.int (1 : Int32))] [])) t
            refine XS.iconst X0.here hx rfl (hb hby d1_43) ?_
            show Steps p.tables e below (s₁.setTop (mkF m 44 #[.val (.ref a1), .val (.int p2), .val (.int (1 : Int32)), .val (.int (1 : Int32))] [(.int (0 : Int32))])) t
            refine XS.istoreN X0.here hx rfl (hb hby d1_44) rfl (l' := #[.val (.ref a1), .val (.int p2), .val (.int (0 : Int32)), .val (.int (1 : Int32))]) rfl ?_
            show Steps p.tables e below (s₁.setTop (mkF m 45 #[.val (.ref a1), .val (.int p2), .val (.int (0 : Int32)), .val (.int (1 : Int32))] [])) t
            refine XS.iinc X0.here hx rfl (hb hby d1_45) rfl (l' := #[.val (.ref a1), .val (.int p2), .val (.int (0 : Int32)), .val (.int (2 : Int32))]) rfl ?_
            show Steps p.tables e below (s₁.setTop (mkF m 48 #[.val (.ref a1), .val (.int p2), .val (.int (0 : Int32)), .val (.int (2 : Int32))] [])) t
            refine XS.goto X0.here hx rfl (pc0 := 48) (pc' := 21) rfl (hb hby d1_48) (by decide) (by decide) ?_
            show Steps p.tables e below (s₁.setTop (mkF m 21 #[.val (.ref a1), .val (.int p2), .val (.int (0 : Int32)), .val (.int (2 : Int32))] [])) t
            refine XS.iloadN X0.here hx rfl (hb hby d1_21) rfl ?_
            show Steps p.tables e below (s₁.setTop (mkF m 22 #[.val (.ref a1), .val (.int p2), .val (.int (0 : Int32)), .val (.int (2 : Int32))] [(.int (2 : Int32))])) t
            refine XS.iloadN X0.here hx rfl (hb hby d1_22) rfl ?_
            show Steps p.tables e below (s₁.setTop (mkF m 23 #[.val (.ref a1), .val (.int p2), .val (.int (0 : Int32)), .val (.int (2 : Int32))] [(.int p2), (.int (2 : Int32))])) t
            exact k)
          by_cases hc23_31 : (2 : Int32) < p2
          · skip
            have pre34 : ∀ t, Steps p.tables e below (s₁.setTop (mkF m 52 #[.val (.ref a1), .val (.int p2), .val (.int (0 : Int32)), .val (.int (2 : Int32))] [(.int (0 : Int32))])) t → Steps p.tables e below (s₁.setTop (entryFrame m #[(.ref a1), (.int p2)] 4)) t := fun t k => pre32 t (by
              show Steps p.tables e below (s₁.setTop (mkF m 23 #[.val (.ref a1), .val (.int p2), .val (.int (0 : Int32)), .val (.int (2 : Int32))] [(.int p2), (.int (2 : Int32))])) t
              refine XS.icmpNo X0.here hx rfl (hb hby d1_23) rfl (XT.ii_ge_f hc23_31) ?_
              show Steps p.tables e below (s₁.setTop (mkF m 26 #[.val (.ref a1), .val (.int p2), .val (.int (0 : Int32)), .val (.int (2 : Int32))] [])) t
              refine XS.iloadN X0.here hx rfl (hb hby d1_26) rfl ?_
              show Steps p.tables e below (s₁.setTop (mkF m 27 #[.val (.ref a1), .val (.int p2), .val (.int (0 : Int32)), .val (.int (2 : Int32))] [(.int (0 : Int32))])) t
              refine XS.ifYes X0.here hx rfl (pc0 := 27) (pc' := 51) rfl (hb hby d1_27) rfl (XT.i0_eq_t (show (0 : Int32) = (0 : Int32) from by decide)) (by decide) (by decide) ?_
              show Steps p.tables e below (s₁.setTop (mkF m 51 #[.val (.ref a1), .val (.int p2), .val (.int (0 : Int32)), .val (.int (2 : Int32))] [])) t
              refine XS.iloadN X0.here hx rfl (hb hby d1_51) rfl ?_
              show Steps p.tables e below (s₁.setTop (mkF m 52 #[.val (.ref a1), .val (.int p2), .val (.int (0 : Int32)), .val (.int (2 : Int32))] [(.int (0 : Int32))])) t
              exact k)
            obtain ⟨fs, hr, hrun, hended, hW, hsame⟩ := X0.leave (v := some (.int (0 : Int32))) (fun h => by rw [Bd.returns] at h; cases h)
            refine ⟨_, _, pre34 _ ?_, hrun, hended, _, _, rfl, ?_, ⟨_, rfl⟩, hW, hsame.mono (by decide) (by decide)⟩
            · show Steps p.tables e below (s₁.setTop (mkF m 52 #[.val (.ref a1), .val (.int p2), .val (.int (0 : Int32)), .val (.int (2 : Int32))] [(.int (0 : Int32))])) _
              exact retN X0 hx (t := .boolean) Bd.returns (by simp) (hb hby d1_52) hr
            · show Q1 Z a1 p2 kk e0 e1 e2 e3 h0 n0 _ s₁.heap _
              rw [eh0]
              exact ⟨(congrArg (fun z => some (Value.int z)) (show (0 : Int32) = (own_pl e0 e1 e2 e3 p2) from (by simp only [own_pl, if_pos hc1_1, if_pos hc10_3, if_pos hc23_5, if_neg hc36_8, if_pos hc23_31]))), N0, rfl⟩
          · skip
            have pre35 : ∀ t, Steps p.tables e below (s₁.setTop (mkF m 52 #[.val (.ref a1), .val (.int p2), .val (.int (0 : Int32)), .val (.int (2 : Int32))] [(.int (0 : Int32))])) t → Steps p.tables e below (s₁.setTop (entryFrame m #[(.ref a1), (.int p2)] 4)) t := fun t k => pre32 t (by
              show Steps p.tables e below (s₁.setTop (mkF m 23 #[.val (.ref a1), .val (.int p2), .val (.int (0 : Int32)), .val (.int (2 : Int32))] [(.int p2), (.int (2 : Int32))])) t
              refine XS.icmpYes X0.here hx rfl (pc0 := 23) (pc' := 51) rfl (hb hby d1_23) rfl (XT.ii_ge_t hc23_31) (by decide) (by decide) ?_
              show Steps p.tables e below (s₁.setTop (mkF m 51 #[.val (.ref a1), .val (.int p2), .val (.int (0 : Int32)), .val (.int (2 : Int32))] [])) t
              refine XS.iloadN X0.here hx rfl (hb hby d1_51) rfl ?_
              show Steps p.tables e below (s₁.setTop (mkF m 52 #[.val (.ref a1), .val (.int p2), .val (.int (0 : Int32)), .val (.int (2 : Int32))] [(.int (0 : Int32))])) t
              exact k)
            obtain ⟨fs, hr, hrun, hended, hW, hsame⟩ := X0.leave (v := some (.int (0 : Int32))) (fun h => by rw [Bd.returns] at h; cases h)
            refine ⟨_, _, pre35 _ ?_, hrun, hended, _, _, rfl, ?_, ⟨_, rfl⟩, hW, hsame.mono (by decide) (by decide)⟩
            · show Steps p.tables e below (s₁.setTop (mkF m 52 #[.val (.ref a1), .val (.int p2), .val (.int (0 : Int32)), .val (.int (2 : Int32))] [(.int (0 : Int32))])) _
              exact retN X0 hx (t := .boolean) Bd.returns (by simp) (hb hby d1_52) hr
            · show Q1 Z a1 p2 kk e0 e1 e2 e3 h0 n0 _ s₁.heap _
              rw [eh0]
              exact ⟨(congrArg (fun z => some (Value.int z)) (show (0 : Int32) = (own_pl e0 e1 e2 e3 p2) from (by simp only [own_pl, if_pos hc1_1, if_pos hc10_3, if_pos hc23_5, if_neg hc36_8, if_neg hc23_31]))), N0, rfl⟩
      · skip
        have pre36 : ∀ t, Steps p.tables e below (s₁.setTop (mkF m 52 #[.val (.ref a1), .val (.int p2), .val (.int (1 : Int32)), .val (.int (1 : Int32))] [(.int (1 : Int32))])) t → Steps p.tables e below (s₁.setTop (entryFrame m #[(.ref a1), (.int p2)] 4)) t := fun t k => pre6 t (by
          show Steps p.tables e below (s₁.setTop (mkF m 23 #[.val (.ref a1), .val (.int p2), .val (.int (1 : Int32)), .val (.int (1 : Int32))] [(.int p2), (.int (1 : Int32))])) t
          refine XS.icmpYes X0.here hx rfl (pc0 := 23) (pc' := 51) rfl (hb hby d1_23) rfl (XT.ii_ge_t hc23_5) (by decide) (by decide) ?_
          show Steps p.tables e below (s₁.setTop (mkF m 51 #[.val (.ref a1), .val (.int p2), .val (.int (1 : Int32)), .val (.int (1 : Int32))] [])) t
          refine XS.iloadN X0.here hx rfl (hb hby d1_51) rfl ?_
          show Steps p.tables e below (s₁.setTop (mkF m 52 #[.val (.ref a1), .val (.int p2), .val (.int (1 : Int32)), .val (.int (1 : Int32))] [(.int (1 : Int32))])) t
          exact k)
        obtain ⟨fs, hr, hrun, hended, hW, hsame⟩ := X0.leave (v := some (.int (1 : Int32))) (fun h => by rw [Bd.returns] at h; cases h)
        refine ⟨_, _, pre36 _ ?_, hrun, hended, _, _, rfl, ?_, ⟨_, rfl⟩, hW, hsame.mono (by decide) (by decide)⟩
        · show Steps p.tables e below (s₁.setTop (mkF m 52 #[.val (.ref a1), .val (.int p2), .val (.int (1 : Int32)), .val (.int (1 : Int32))] [(.int (1 : Int32))])) _
          exact retN X0 hx (t := .boolean) Bd.returns (by simp) (hb hby d1_52) hr
        · show Q1 Z a1 p2 kk e0 e1 e2 e3 h0 n0 _ s₁.heap _
          rw [eh0]
          exact ⟨(congrArg (fun z => some (Value.int z)) (show (1 : Int32) = (own_pl e0 e1 e2 e3 p2) from (by simp only [own_pl, if_pos hc1_1, if_pos hc10_3, if_neg hc23_5]))), N0, rfl⟩
    · skip
      have pre38 : ∀ t, Steps p.tables e below (s₁.setTop (mkF m 23 #[.val (.ref a1), .val (.int p2), .val (.int (0 : Int32)), .val (.int (1 : Int32))] [(.int p2), (.int (1 : Int32))])) t → Steps p.tables e below (s₁.setTop (entryFrame m #[(.ref a1), (.int p2)] 4)) t := fun t k => pre4 t (by
        show Steps p.tables e below (s₁.setTop (mkF m 10 #[.val (.ref a1), .val (.int p2), .unset, .unset] [(.int (128 : Int32)), (.int e0)])) t
        refine XS.icmpYes X0.here hx rfl (pc0 := 10) (pc' := 17) rfl (hb hby d1_10) rfl (XT.ii_ge_t hc10_3) (by decide) (by decide) ?_
        show Steps p.tables e below (s₁.setTop (mkF m 17 #[.val (.ref a1), .val (.int p2), .unset, .unset] [])) t
        refine XS.iconst X0.here hx rfl (hb hby d1_17) ?_
        show Steps p.tables e below (s₁.setTop (mkF m 18 #[.val (.ref a1), .val (.int p2), .unset, .unset] [(.int (0 : Int32))])) t
        refine XS.istoreN X0.here hx rfl (hb hby d1_18) rfl (l' := #[.val (.ref a1), .val (.int p2), .val (.int (0 : Int32)), .unset]) rfl ?_
        show Steps p.tables e below (s₁.setTop (mkF m 19 #[.val (.ref a1), .val (.int p2), .val (.int (0 : Int32)), .unset] [])) t
        refine XS.iconst X0.here hx rfl (hb hby d1_19) ?_
        show Steps p.tables e below (s₁.setTop (mkF m 20 #[.val (.ref a1), .val (.int p2), .val (.int (0 : Int32)), .unset] [(.int (1 : Int32))])) t
        refine XS.istoreN X0.here hx rfl (hb hby d1_20) rfl (l' := #[.val (.ref a1), .val (.int p2), .val (.int (0 : Int32)), .val (.int (1 : Int32))]) rfl ?_
        show Steps p.tables e below (s₁.setTop (mkF m 21 #[.val (.ref a1), .val (.int p2), .val (.int (0 : Int32)), .val (.int (1 : Int32))] [])) t
        refine XS.iloadN X0.here hx rfl (hb hby d1_21) rfl ?_
        show Steps p.tables e below (s₁.setTop (mkF m 22 #[.val (.ref a1), .val (.int p2), .val (.int (0 : Int32)), .val (.int (1 : Int32))] [(.int (1 : Int32))])) t
        refine XS.iloadN X0.here hx rfl (hb hby d1_22) rfl ?_
        show Steps p.tables e below (s₁.setTop (mkF m 23 #[.val (.ref a1), .val (.int p2), .val (.int (0 : Int32)), .val (.int (1 : Int32))] [(.int p2), (.int (1 : Int32))])) t
        exact k)
      by_cases hc23_37 : (1 : Int32) < p2
      · skip
        have pre40 : ∀ t, Steps p.tables e below (s₁.setTop (mkF m 52 #[.val (.ref a1), .val (.int p2), .val (.int (0 : Int32)), .val (.int (1 : Int32))] [(.int (0 : Int32))])) t → Steps p.tables e below (s₁.setTop (entryFrame m #[(.ref a1), (.int p2)] 4)) t := fun t k => pre38 t (by
          show Steps p.tables e below (s₁.setTop (mkF m 23 #[.val (.ref a1), .val (.int p2), .val (.int (0 : Int32)), .val (.int (1 : Int32))] [(.int p2), (.int (1 : Int32))])) t
          refine XS.icmpNo X0.here hx rfl (hb hby d1_23) rfl (XT.ii_ge_f hc23_37) ?_
          show Steps p.tables e below (s₁.setTop (mkF m 26 #[.val (.ref a1), .val (.int p2), .val (.int (0 : Int32)), .val (.int (1 : Int32))] [])) t
          refine XS.iloadN X0.here hx rfl (hb hby d1_26) rfl ?_
          show Steps p.tables e below (s₁.setTop (mkF m 27 #[.val (.ref a1), .val (.int p2), .val (.int (0 : Int32)), .val (.int (1 : Int32))] [(.int (0 : Int32))])) t
          refine XS.ifYes X0.here hx rfl (pc0 := 27) (pc' := 51) rfl (hb hby d1_27) rfl (XT.i0_eq_t (show (0 : Int32) = (0 : Int32) from by decide)) (by decide) (by decide) ?_
          show Steps p.tables e below (s₁.setTop (mkF m 51 #[.val (.ref a1), .val (.int p2), .val (.int (0 : Int32)), .val (.int (1 : Int32))] [])) t
          refine XS.iloadN X0.here hx rfl (hb hby d1_51) rfl ?_
          show Steps p.tables e below (s₁.setTop (mkF m 52 #[.val (.ref a1), .val (.int p2), .val (.int (0 : Int32)), .val (.int (1 : Int32))] [(.int (0 : Int32))])) t
          exact k)
        obtain ⟨fs, hr, hrun, hended, hW, hsame⟩ := X0.leave (v := some (.int (0 : Int32))) (fun h => by rw [Bd.returns] at h; cases h)
        refine ⟨_, _, pre40 _ ?_, hrun, hended, _, _, rfl, ?_, ⟨_, rfl⟩, hW, hsame.mono (by decide) (by decide)⟩
        · show Steps p.tables e below (s₁.setTop (mkF m 52 #[.val (.ref a1), .val (.int p2), .val (.int (0 : Int32)), .val (.int (1 : Int32))] [(.int (0 : Int32))])) _
          exact retN X0 hx (t := .boolean) Bd.returns (by simp) (hb hby d1_52) hr
        · show Q1 Z a1 p2 kk e0 e1 e2 e3 h0 n0 _ s₁.heap _
          rw [eh0]
          exact ⟨(congrArg (fun z => some (Value.int z)) (show (0 : Int32) = (own_pl e0 e1 e2 e3 p2) from (by simp only [own_pl, if_pos hc1_1, if_neg hc10_3, if_pos hc23_37]))), N0, rfl⟩
      · skip
        have pre41 : ∀ t, Steps p.tables e below (s₁.setTop (mkF m 52 #[.val (.ref a1), .val (.int p2), .val (.int (0 : Int32)), .val (.int (1 : Int32))] [(.int (0 : Int32))])) t → Steps p.tables e below (s₁.setTop (entryFrame m #[(.ref a1), (.int p2)] 4)) t := fun t k => pre38 t (by
          show Steps p.tables e below (s₁.setTop (mkF m 23 #[.val (.ref a1), .val (.int p2), .val (.int (0 : Int32)), .val (.int (1 : Int32))] [(.int p2), (.int (1 : Int32))])) t
          refine XS.icmpYes X0.here hx rfl (pc0 := 23) (pc' := 51) rfl (hb hby d1_23) rfl (XT.ii_ge_t hc23_37) (by decide) (by decide) ?_
          show Steps p.tables e below (s₁.setTop (mkF m 51 #[.val (.ref a1), .val (.int p2), .val (.int (0 : Int32)), .val (.int (1 : Int32))] [])) t
          refine XS.iloadN X0.here hx rfl (hb hby d1_51) rfl ?_
          show Steps p.tables e below (s₁.setTop (mkF m 52 #[.val (.ref a1), .val (.int p2), .val (.int (0 : Int32)), .val (.int (1 : Int32))] [(.int (0 : Int32))])) t
          exact k)
        obtain ⟨fs, hr, hrun, hended, hW, hsame⟩ := X0.leave (v := some (.int (0 : Int32))) (fun h => by rw [Bd.returns] at h; cases h)
        refine ⟨_, _, pre41 _ ?_, hrun, hended, _, _, rfl, ?_, ⟨_, rfl⟩, hW, hsame.mono (by decide) (by decide)⟩
        · show Steps p.tables e below (s₁.setTop (mkF m 52 #[.val (.ref a1), .val (.int p2), .val (.int (0 : Int32)), .val (.int (1 : Int32))] [(.int (0 : Int32))])) _
          exact retN X0 hx (t := .boolean) Bd.returns (by simp) (hb hby d1_52) hr
        · show Q1 Z a1 p2 kk e0 e1 e2 e3 h0 n0 _ s₁.heap _
          rw [eh0]
          exact ⟨(congrArg (fun z => some (Value.int z)) (show (0 : Int32) = (own_pl e0 e1 e2 e3 p2) from (by simp only [own_pl, if_pos hc1_1, if_neg hc10_3, if_neg hc23_37]))), N0, rfl⟩
  · skip
    have pre43 : ∀ t, Steps p.tables e below (s₁.setTop (mkF m 52 #[.val (.ref a1), .val (.int p2), .val (.int (0 : Int32)), .val (.int (1 : Int32))] [(.int (0 : Int32))])) t → Steps p.tables e below (s₁.setTop (entryFrame m #[(.ref a1), (.int p2)] 4)) t := fun t k => pre2 t (by
      show Steps p.tables e below (s₁.setTop (mkF m 1 #[.val (.ref a1), .val (.int p2), .unset, .unset] [(.int p2)])) t
      refine XS.ifYes X0.here hx rfl (pc0 := 1) (pc' := 17) rfl (hb hby d1_1) rfl (XT.i0_le_t hc1_1) (by decide) (by decide) ?_
      show Steps p.tables e below (s₁.setTop (mkF m 17 #[.val (.ref a1), .val (.int p2), .unset, .unset] [])) t
      refine XS.iconst X0.here hx rfl (hb hby d1_17) ?_
      show Steps p.tables e below (s₁.setTop (mkF m 18 #[.val (.ref a1), .val (.int p2), .unset, .unset] [(.int (0 : Int32))])) t
      refine XS.istoreN X0.here hx rfl (hb hby d1_18) rfl (l' := #[.val (.ref a1), .val (.int p2), .val (.int (0 : Int32)), .unset]) rfl ?_
      show Steps p.tables e below (s₁.setTop (mkF m 19 #[.val (.ref a1), .val (.int p2), .val (.int (0 : Int32)), .unset] [])) t
      refine XS.iconst X0.here hx rfl (hb hby d1_19) ?_
      show Steps p.tables e below (s₁.setTop (mkF m 20 #[.val (.ref a1), .val (.int p2), .val (.int (0 : Int32)), .unset] [(.int (1 : Int32))])) t
      refine XS.istoreN X0.here hx rfl (hb hby d1_20) rfl (l' := #[.val (.ref a1), .val (.int p2), .val (.int (0 : Int32)), .val (.int (1 : Int32))]) rfl ?_
      show Steps p.tables e below (s₁.setTop (mkF m 21 #[.val (.ref a1), .val (.int p2), .val (.int (0 : Int32)), .val (.int (1 : Int32))] [])) t
      refine XS.iloadN X0.here hx rfl (hb hby d1_21) rfl ?_
      show Steps p.tables e below (s₁.setTop (mkF m 22 #[.val (.ref a1), .val (.int p2), .val (.int (0 : Int32)), .val (.int (1 : Int32))] [(.int (1 : Int32))])) t
      refine XS.iloadN X0.here hx rfl (hb hby d1_22) rfl ?_
      show Steps p.tables e below (s₁.setTop (mkF m 23 #[.val (.ref a1), .val (.int p2), .val (.int (0 : Int32)), .val (.int (1 : Int32))] [(.int p2), (.int (1 : Int32))])) t
      refine XS.icmpYes X0.here hx rfl (pc0 := 23) (pc' := 51) rfl (hb hby d1_23) rfl (XT.ii_ge_t (show ¬ ((1 : Int32) < p2) from own_no1 hc1_1)) (by decide) (by decide) ?_
      show Steps p.tables e below (s₁.setTop (mkF m 51 #[.val (.ref a1), .val (.int p2), .val (.int (0 : Int32)), .val (.int (1 : Int32))] [])) t
      refine XS.iloadN X0.here hx rfl (hb hby d1_51) rfl ?_
      show Steps p.tables e below (s₁.setTop (mkF m 52 #[.val (.ref a1), .val (.int p2), .val (.int (0 : Int32)), .val (.int (1 : Int32))] [(.int (0 : Int32))])) t
      exact k)
    obtain ⟨fs, hr, hrun, hended, hW, hsame⟩ := X0.leave (v := some (.int (0 : Int32))) (fun h => by rw [Bd.returns] at h; cases h)
    refine ⟨_, _, pre43 _ ?_, hrun, hended, _, _, rfl, ?_, ⟨_, rfl⟩, hW, hsame.mono (by decide) (by decide)⟩
    · show Steps p.tables e below (s₁.setTop (mkF m 52 #[.val (.ref a1), .val (.int p2), .val (.int (0 : Int32)), .val (.int (1 : Int32))] [(.int (0 : Int32))])) _
      exact retN X0 hx (t := .boolean) Bd.returns (by simp) (hb hby d1_52) hr
    · show Q1 Z a1 p2 kk e0 e1 e2 e3 h0 n0 _ s₁.heap _
      rw [eh0]
      exact ⟨(congrArg (fun z => some (Value.int z)) (show (0 : Int32) = (own_pl e0 e1 e2 e3 p2) from (by simp only [own_pl, if_neg hc1_1]))), N0, rfl⟩
theorem ef_0 (m : MethodId) (p1 : Int32) (p2 : Int32) (p3 : Int32) : entryFrame m #[(.int p1), (.int p2), (.int p3)] maxLocals = mkF m 0 #[.val (.int p1), .val (.int p2), .val (.int p3), .unset, .unset, .unset, .unset, .unset, .unset, .unset, .unset] [] := by first | (simp [entryFrame, mkF, argsToLocals, Value.category, maxLocals]; done) | rfl
theorem pn_com_example_interlace_interlace_core_ItemNameIsPlainPinLaw : plainName "com/example/interlace/interlace/core/ItemNameIsPlainPinLaw" = true := by first | (simp [plainName, overriddenIn]; done) | decide +kernel
theorem pd_oaCIcZ : parseMethodDescriptor "([CI)Z" = some ⟨[(.array .char), .int], some .boolean⟩ := by decide +kernel
theorem own_fin26 (c0 c1 c2 c3 len : Int32) (n0 : nar .char c0 = c0) (n1 : nar .char c1 = c1) (n2 : nar .char c2 = c2) (n3 : nar .char c3 = c3) (hz : len = (0 : Int32)) (h4 : ¬ (4 : Int32) < len) (h0 : ¬ len < (0 : Int32)) : (own_pl (nar .char c0) (nar .char c1) (nar .char c2) (nar .char c3) len) = (0 : Int32) := by
  rw [n0, n1, n2, n3]
  unfold own_pl
  have z0 : (0 : Int32).toInt = 0 := by decide
  have z1 : (1 : Int32).toInt = 1 := by decide
  have z2 : (2 : Int32).toInt = 2 := by decide
  have z3 : (3 : Int32).toInt = 3 := by decide
  have z4 : (4 : Int32).toInt = 4 := by decide
  simp only [Int32.lt_iff_toInt_lt, ← Int32.toInt_inj, z0, z1, z2, z3, z4] at *
  repeat' split
  all_goals first | rfl | omega
theorem own_fin50 (c0 c1 c2 c3 len : Int32) (n0 : nar .char c0 = c0) (n1 : nar .char c1 = c1) (n2 : nar .char c2 = c2) (n3 : nar .char c3 = c3) (hz : ¬ len = (0 : Int32)) (h4 : ¬ (4 : Int32) < len) (h0 : ¬ len < (0 : Int32)) : (own_pl (nar .char c0) (nar .char c1) (nar .char c2) (nar .char c3) len) = (if (3 : Int32) < len then (if c3 < (768 : Int32) then (if (2 : Int32) < len then (if c2 < (768 : Int32) then (if (1 : Int32) < len then (if c1 < (768 : Int32) then (if c0 < (128 : Int32) then (1 : Int32) else (0 : Int32)) else (0 : Int32)) else (if c0 < (128 : Int32) then (1 : Int32) else (0 : Int32))) else (0 : Int32)) else (if (1 : Int32) < len then (if c1 < (768 : Int32) then (if c0 < (128 : Int32) then (1 : Int32) else (0 : Int32)) else (0 : Int32)) else (if c0 < (128 : Int32) then (1 : Int32) else (0 : Int32)))) else (0 : Int32)) else (if (2 : Int32) < len then (if c2 < (768 : Int32) then (if (1 : Int32) < len then (if c1 < (768 : Int32) then (if c0 < (128 : Int32) then (1 : Int32) else (0 : Int32)) else (0 : Int32)) else (if c0 < (128 : Int32) then (1 : Int32) else (0 : Int32))) else (0 : Int32)) else (if (1 : Int32) < len then (if c1 < (768 : Int32) then (if c0 < (128 : Int32) then (1 : Int32) else (0 : Int32)) else (0 : Int32)) else (if c0 < (128 : Int32) then (1 : Int32) else (0 : Int32))))) := by
  rw [n0, n1, n2, n3]
  unfold own_pl
  have z0 : (0 : Int32).toInt = 0 := by decide
  have z1 : (1 : Int32).toInt = 1 := by decide
  have z2 : (2 : Int32).toInt = 2 := by decide
  have z3 : (3 : Int32).toInt = 3 := by decide
  have z4 : (4 : Int32).toInt = 4 := by decide
  simp only [Int32.lt_iff_toInt_lt, ← Int32.toInt_inj, z0, z1, z2, z3, z4] at *
  repeat' split
  all_goals first | rfl | omega
def Q0 (Z : State) (p1 : Int32) (p2 : Int32) (p3 : Int32) (h0 : Heap) (n0 : Nat) (v : Option Value) (h : Heap) (L : List Loc) : Prop := v = some (.int (1 : Int32)) ∧ Fr n0 L
set_option maxRecDepth 65536 in
set_option maxHeartbeats 40000000 in
theorem rm0 (l : Launch) (Z : State) (a0 : Array Value) (hw : ∀ d ∈ tables_1, d.before a0 Z = true) (ws : List Jvm.Cond) (p1 : Int32) (p2 : Int32) (p3 : Int32) (h0 : Heap) (n0 : Nat) (Z0 : n0 ≤ h0.size) :
    MetFree l x (head1 (Jvm.Cond.code x code maxLocals ret :: ws) room_1) (fun a U => a = #[(.int p1), (.int p2), (.int p3)] ∧ Z.Warmed39 U.vm ∧ U.heap = h0) (fun _ _ _ _ _ => True) (fun _ U o U' => ∃ v L, o = .returned v ∧ Q0 Z p1 p2 p3 h0 n0 v U'.heap L ∧ FrameEnd U o U' L room_1.cells room_1.slots) := by
  refine MetFree.of_bodySF (plainFor_of_name pn_com_example_interlace_interlace_core_ItemNameIsPlainPinLaw) hisR ?_
  intro p e s m args below meth c s₁ Bd hml0 hP hK
  obtain ⟨rfl, hZ, hh⟩ := hP
  have hx := Bd.exec
  have hby := Bd.bytes
  have hml : c.maxLocals = 11 := hml0
  have hown : s.vm.findClass "com/example/interlace/interlace/core/ItemNameIsPlainPinLaw" = some m.cls := findClass_of_methodNamed Bd.named
  have hnm := (name_of_methodNamed Bd.named Bd.method).1
  have X0 : Stand p l e room_1 s m #[(.int p1), (.int p2), (.int p3)] below meth c s₁ [] 0 0 := Stand.of_body Bd
  have eh0 : s₁.heap = h0 := by rw [← hh, Bd.state]; rfl
  have N0 := Fr.nil n0
  have pre0 : ∀ t, Steps p.tables e below (s₁.setTop (mkF m 0 #[.val (.int p1), .val (.int p2), .val (.int p3), .unset, .unset, .unset, .unset, .unset, .unset, .unset, .unset] [])) t → Steps p.tables e below (s₁.setTop (entryFrame m #[(.int p1), (.int p2), (.int p3)] maxLocals)) t := fun t k => castTop (ef_0 m p1 p2 p3) k
  have pre1 : ∀ t, Steps p.tables e below (s₁.setTop (mkF m 6 #[.val (.int p1), .val (.int p2), .val (.int p3), .val (.int (p1 &&& (65535 : Int32)).toUInt32.toUInt16.toUInt32.toInt32), .unset, .unset, .unset, .unset, .unset, .unset, .unset] [])) t → Steps p.tables e below (s₁.setTop (entryFrame m #[(.int p1), (.int p2), (.int p3)] maxLocals)) t := fun t k => pre0 t (by
    show Steps p.tables e below (s₁.setTop (mkF m 0 #[.val (.int p1), .val (.int p2), .val (.int p3), .unset, .unset, .unset, .unset, .unset, .unset, .unset, .unset] [])) t
    refine XS.iloadN X0.here hx rfl (hb hby at_0) rfl ?_
    show Steps p.tables e below (s₁.setTop (mkF m 1 #[.val (.int p1), .val (.int p2), .val (.int p3), .unset, .unset, .unset, .unset, .unset, .unset, .unset, .unset] [(.int p1)])) t
    refine X0.ldcInt hx hown (mvT hZ (hw _ (List.mem_of_getElem? (i := 0) rfl))) (g := (mkF m 1 #[.val (.int p1), .val (.int p2), .val (.int p3), .unset, .unset, .unset, .unset, .unset, .unset, .unset, .unset] [(.int p1)])) rfl (hb hby at_1) _ ?_
    show Steps p.tables e below (s₁.setTop (mkF m 3 #[.val (.int p1), .val (.int p2), .val (.int p3), .unset, .unset, .unset, .unset, .unset, .unset, .unset, .unset] [(.int (65535 : Int32)), (.int p1)])) t
    refine XS.iand X0.here hx rfl (hb hby at_3) rfl ?_
    show Steps p.tables e below (s₁.setTop (mkF m 4 #[.val (.int p1), .val (.int p2), .val (.int p3), .unset, .unset, .unset, .unset, .unset, .unset, .unset, .unset] [(.int (p1 &&& (65535 : Int32)))])) t
    refine XT.i2c X0.here hx rfl (hb hby at_4) rfl ?_
    show Steps p.tables e below (s₁.setTop (mkF m 5 #[.val (.int p1), .val (.int p2), .val (.int p3), .unset, .unset, .unset, .unset, .unset, .unset, .unset, .unset] [(.int (p1 &&& (65535 : Int32)).toUInt32.toUInt16.toUInt32.toInt32)])) t
    refine XS.istoreN X0.here hx rfl (hb hby at_5) rfl (l' := #[.val (.int p1), .val (.int p2), .val (.int p3), .val (.int (p1 &&& (65535 : Int32)).toUInt32.toUInt16.toUInt32.toInt32), .unset, .unset, .unset, .unset, .unset, .unset, .unset]) rfl ?_
    show Steps p.tables e below (s₁.setTop (mkF m 6 #[.val (.int p1), .val (.int p2), .val (.int p3), .val (.int (p1 &&& (65535 : Int32)).toUInt32.toUInt16.toUInt32.toInt32), .unset, .unset, .unset, .unset, .unset, .unset, .unset] [])) t
    exact k)
  obtain ⟨c0, h_c0⟩ : ∃ z : Int32, z = (p1 &&& (65535 : Int32)).toUInt32.toUInt16.toUInt32.toInt32 := ⟨_, rfl⟩
  rw [← h_c0] at pre1
  have pre2 : ∀ t, Steps p.tables e below (s₁.setTop (mkF m 16 #[.val (.int p1), .val (.int p2), .val (.int p3), .val (.int c0), .val (.int ((XT.ushr p1 (16 : Int32)) &&& (65535 : Int32)).toUInt32.toUInt16.toUInt32.toInt32), .unset, .unset, .unset, .unset, .unset, .unset] [])) t → Steps p.tables e below (s₁.setTop (entryFrame m #[(.int p1), (.int p2), (.int p3)] maxLocals)) t := fun t k => pre1 t (by
    show Steps p.tables e below (s₁.setTop (mkF m 6 #[.val (.int p1), .val (.int p2), .val (.int p3), .val (.int c0), .unset, .unset, .unset, .unset, .unset, .unset, .unset] [])) t
    refine XS.iloadN X0.here hx rfl (hb hby at_6) rfl ?_
    show Steps p.tables e below (s₁.setTop (mkF m 7 #[.val (.int p1), .val (.int p2), .val (.int p3), .val (.int c0), .unset, .unset, .unset, .unset, .unset, .unset, .unset] [(.int p1)])) t
    refine XS.bipush X0.here hx rfl (hb hby at_7) ?_
    show Steps p.tables e below (s₁.setTop (mkF m 9 #[.val (.int p1), .val (.int p2), .val (.int p3), .val (.int c0), .unset, .unset, .unset, .unset, .unset, .unset, .unset] [(.int (16 : Int32)), (.int p1)])) t
    refine XT.iushr X0.here hx rfl (hb hby at_9) rfl ?_
    show Steps p.tables e below (s₁.setTop (mkF m 10 #[.val (.int p1), .val (.int p2), .val (.int p3), .val (.int c0), .unset, .unset, .unset, .unset, .unset, .unset, .unset] [(.int (XT.ushr p1 (16 : Int32)))])) t
    refine X0.ldcInt hx hown (mvT hZ (hw _ (List.mem_of_getElem? (i := 0) rfl))) (g := (mkF m 10 #[.val (.int p1), .val (.int p2), .val (.int p3), .val (.int c0), .unset, .unset, .unset, .unset, .unset, .unset, .unset] [(.int (XT.ushr p1 (16 : Int32)))])) rfl (hb hby at_10) _ ?_
    show Steps p.tables e below (s₁.setTop (mkF m 12 #[.val (.int p1), .val (.int p2), .val (.int p3), .val (.int c0), .unset, .unset, .unset, .unset, .unset, .unset, .unset] [(.int (65535 : Int32)), (.int (XT.ushr p1 (16 : Int32)))])) t
    refine XS.iand X0.here hx rfl (hb hby at_12) rfl ?_
    show Steps p.tables e below (s₁.setTop (mkF m 13 #[.val (.int p1), .val (.int p2), .val (.int p3), .val (.int c0), .unset, .unset, .unset, .unset, .unset, .unset, .unset] [(.int ((XT.ushr p1 (16 : Int32)) &&& (65535 : Int32)))])) t
    refine XT.i2c X0.here hx rfl (hb hby at_13) rfl ?_
    show Steps p.tables e below (s₁.setTop (mkF m 14 #[.val (.int p1), .val (.int p2), .val (.int p3), .val (.int c0), .unset, .unset, .unset, .unset, .unset, .unset, .unset] [(.int ((XT.ushr p1 (16 : Int32)) &&& (65535 : Int32)).toUInt32.toUInt16.toUInt32.toInt32)])) t
    refine XS.istore X0.here hx rfl (hb hby at_14) rfl (l' := #[.val (.int p1), .val (.int p2), .val (.int p3), .val (.int c0), .val (.int ((XT.ushr p1 (16 : Int32)) &&& (65535 : Int32)).toUInt32.toUInt16.toUInt32.toInt32), .unset, .unset, .unset, .unset, .unset, .unset]) rfl ?_
    show Steps p.tables e below (s₁.setTop (mkF m 16 #[.val (.int p1), .val (.int p2), .val (.int p3), .val (.int c0), .val (.int ((XT.ushr p1 (16 : Int32)) &&& (65535 : Int32)).toUInt32.toUInt16.toUInt32.toInt32), .unset, .unset, .unset, .unset, .unset, .unset] [])) t
    exact k)
  obtain ⟨c1, h_c1⟩ : ∃ z : Int32, z = ((XT.ushr p1 (16 : Int32)) &&& (65535 : Int32)).toUInt32.toUInt16.toUInt32.toInt32 := ⟨_, rfl⟩
  rw [← h_c1] at pre2
  have pre3 : ∀ t, Steps p.tables e below (s₁.setTop (mkF m 23 #[.val (.int p1), .val (.int p2), .val (.int p3), .val (.int c0), .val (.int c1), .val (.int (p2 &&& (65535 : Int32)).toUInt32.toUInt16.toUInt32.toInt32), .unset, .unset, .unset, .unset, .unset] [])) t → Steps p.tables e below (s₁.setTop (entryFrame m #[(.int p1), (.int p2), (.int p3)] maxLocals)) t := fun t k => pre2 t (by
    show Steps p.tables e below (s₁.setTop (mkF m 16 #[.val (.int p1), .val (.int p2), .val (.int p3), .val (.int c0), .val (.int c1), .unset, .unset, .unset, .unset, .unset, .unset] [])) t
    refine XS.iloadN X0.here hx rfl (hb hby at_16) rfl ?_
    show Steps p.tables e below (s₁.setTop (mkF m 17 #[.val (.int p1), .val (.int p2), .val (.int p3), .val (.int c0), .val (.int c1), .unset, .unset, .unset, .unset, .unset, .unset] [(.int p2)])) t
    refine X0.ldcInt hx hown (mvT hZ (hw _ (List.mem_of_getElem? (i := 0) rfl))) (g := (mkF m 17 #[.val (.int p1), .val (.int p2), .val (.int p3), .val (.int c0), .val (.int c1), .unset, .unset, .unset, .unset, .unset, .unset] [(.int p2)])) rfl (hb hby at_17) _ ?_
    show Steps p.tables e below (s₁.setTop (mkF m 19 #[.val (.int p1), .val (.int p2), .val (.int p3), .val (.int c0), .val (.int c1), .unset, .unset, .unset, .unset, .unset, .unset] [(.int (65535 : Int32)), (.int p2)])) t
    refine XS.iand X0.here hx rfl (hb hby at_19) rfl ?_
    show Steps p.tables e below (s₁.setTop (mkF m 20 #[.val (.int p1), .val (.int p2), .val (.int p3), .val (.int c0), .val (.int c1), .unset, .unset, .unset, .unset, .unset, .unset] [(.int (p2 &&& (65535 : Int32)))])) t
    refine XT.i2c X0.here hx rfl (hb hby at_20) rfl ?_
    show Steps p.tables e below (s₁.setTop (mkF m 21 #[.val (.int p1), .val (.int p2), .val (.int p3), .val (.int c0), .val (.int c1), .unset, .unset, .unset, .unset, .unset, .unset] [(.int (p2 &&& (65535 : Int32)).toUInt32.toUInt16.toUInt32.toInt32)])) t
    refine XS.istore X0.here hx rfl (hb hby at_21) rfl (l' := #[.val (.int p1), .val (.int p2), .val (.int p3), .val (.int c0), .val (.int c1), .val (.int (p2 &&& (65535 : Int32)).toUInt32.toUInt16.toUInt32.toInt32), .unset, .unset, .unset, .unset, .unset]) rfl ?_
    show Steps p.tables e below (s₁.setTop (mkF m 23 #[.val (.int p1), .val (.int p2), .val (.int p3), .val (.int c0), .val (.int c1), .val (.int (p2 &&& (65535 : Int32)).toUInt32.toUInt16.toUInt32.toInt32), .unset, .unset, .unset, .unset, .unset] [])) t
    exact k)
  obtain ⟨c2, h_c2⟩ : ∃ z : Int32, z = (p2 &&& (65535 : Int32)).toUInt32.toUInt16.toUInt32.toInt32 := ⟨_, rfl⟩
  rw [← h_c2] at pre3
  have pre4 : ∀ t, Steps p.tables e below (s₁.setTop (mkF m 33 #[.val (.int p1), .val (.int p2), .val (.int p3), .val (.int c0), .val (.int c1), .val (.int c2), .val (.int ((XT.ushr p2 (16 : Int32)) &&& (65535 : Int32)).toUInt32.toUInt16.toUInt32.toInt32), .unset, .unset, .unset, .unset] [])) t → Steps p.tables e below (s₁.setTop (entryFrame m #[(.int p1), (.int p2), (.int p3)] maxLocals)) t := fun t k => pre3 t (by
    show Steps p.tables e below (s₁.setTop (mkF m 23 #[.val (.int p1), .val (.int p2), .val (.int p3), .val (.int c0), .val (.int c1), .val (.int c2), .unset, .unset, .unset, .unset, .unset] [])) t
    refine XS.iloadN X0.here hx rfl (hb hby at_23) rfl ?_
    show Steps p.tables e below (s₁.setTop (mkF m 24 #[.val (.int p1), .val (.int p2), .val (.int p3), .val (.int c0), .val (.int c1), .val (.int c2), .unset, .unset, .unset, .unset, .unset] [(.int p2)])) t
    refine XS.bipush X0.here hx rfl (hb hby at_24) ?_
    show Steps p.tables e below (s₁.setTop (mkF m 26 #[.val (.int p1), .val (.int p2), .val (.int p3), .val (.int c0), .val (.int c1), .val (.int c2), .unset, .unset, .unset, .unset, .unset] [(.int (16 : Int32)), (.int p2)])) t
    refine XT.iushr X0.here hx rfl (hb hby at_26) rfl ?_
    show Steps p.tables e below (s₁.setTop (mkF m 27 #[.val (.int p1), .val (.int p2), .val (.int p3), .val (.int c0), .val (.int c1), .val (.int c2), .unset, .unset, .unset, .unset, .unset] [(.int (XT.ushr p2 (16 : Int32)))])) t
    refine X0.ldcInt hx hown (mvT hZ (hw _ (List.mem_of_getElem? (i := 0) rfl))) (g := (mkF m 27 #[.val (.int p1), .val (.int p2), .val (.int p3), .val (.int c0), .val (.int c1), .val (.int c2), .unset, .unset, .unset, .unset, .unset] [(.int (XT.ushr p2 (16 : Int32)))])) rfl (hb hby at_27) _ ?_
    show Steps p.tables e below (s₁.setTop (mkF m 29 #[.val (.int p1), .val (.int p2), .val (.int p3), .val (.int c0), .val (.int c1), .val (.int c2), .unset, .unset, .unset, .unset, .unset] [(.int (65535 : Int32)), (.int (XT.ushr p2 (16 : Int32)))])) t
    refine XS.iand X0.here hx rfl (hb hby at_29) rfl ?_
    show Steps p.tables e below (s₁.setTop (mkF m 30 #[.val (.int p1), .val (.int p2), .val (.int p3), .val (.int c0), .val (.int c1), .val (.int c2), .unset, .unset, .unset, .unset, .unset] [(.int ((XT.ushr p2 (16 : Int32)) &&& (65535 : Int32)))])) t
    refine XT.i2c X0.here hx rfl (hb hby at_30) rfl ?_
    show Steps p.tables e below (s₁.setTop (mkF m 31 #[.val (.int p1), .val (.int p2), .val (.int p3), .val (.int c0), .val (.int c1), .val (.int c2), .unset, .unset, .unset, .unset, .unset] [(.int ((XT.ushr p2 (16 : Int32)) &&& (65535 : Int32)).toUInt32.toUInt16.toUInt32.toInt32)])) t
    refine XS.istore X0.here hx rfl (hb hby at_31) rfl (l' := #[.val (.int p1), .val (.int p2), .val (.int p3), .val (.int c0), .val (.int c1), .val (.int c2), .val (.int ((XT.ushr p2 (16 : Int32)) &&& (65535 : Int32)).toUInt32.toUInt16.toUInt32.toInt32), .unset, .unset, .unset, .unset]) rfl ?_
    show Steps p.tables e below (s₁.setTop (mkF m 33 #[.val (.int p1), .val (.int p2), .val (.int p3), .val (.int c0), .val (.int c1), .val (.int c2), .val (.int ((XT.ushr p2 (16 : Int32)) &&& (65535 : Int32)).toUInt32.toUInt16.toUInt32.toInt32), .unset, .unset, .unset, .unset] [])) t
    exact k)
  obtain ⟨c3, h_c3⟩ : ∃ z : Int32, z = ((XT.ushr p2 (16 : Int32)) &&& (65535 : Int32)).toUInt32.toUInt16.toUInt32.toInt32 := ⟨_, rfl⟩
  rw [← h_c3] at pre4
  have pre5 : ∀ t, Steps p.tables e below (s₁.setTop (mkF m 41 #[.val (.int p1), .val (.int p2), .val (.int p3), .val (.int c0), .val (.int c1), .val (.int c2), .val (.int c3), .val (.int ((p3 &&& (2147483647 : Int32)) % (5 : Int32))), .unset, .unset, .unset] [])) t → Steps p.tables e below (s₁.setTop (entryFrame m #[(.int p1), (.int p2), (.int p3)] maxLocals)) t := fun t k => pre4 t (by
    show Steps p.tables e below (s₁.setTop (mkF m 33 #[.val (.int p1), .val (.int p2), .val (.int p3), .val (.int c0), .val (.int c1), .val (.int c2), .val (.int c3), .unset, .unset, .unset, .unset] [])) t
    refine XS.iloadN X0.here hx rfl (hb hby at_33) rfl ?_
    show Steps p.tables e below (s₁.setTop (mkF m 34 #[.val (.int p1), .val (.int p2), .val (.int p3), .val (.int c0), .val (.int c1), .val (.int c2), .val (.int c3), .unset, .unset, .unset, .unset] [(.int p3)])) t
    refine X0.ldcInt hx hown (mvT hZ (hw _ (List.mem_of_getElem? (i := 1) rfl))) (g := (mkF m 34 #[.val (.int p1), .val (.int p2), .val (.int p3), .val (.int c0), .val (.int c1), .val (.int c2), .val (.int c3), .unset, .unset, .unset, .unset] [(.int p3)])) rfl (hb hby at_34) _ ?_
    show Steps p.tables e below (s₁.setTop (mkF m 36 #[.val (.int p1), .val (.int p2), .val (.int p3), .val (.int c0), .val (.int c1), .val (.int c2), .val (.int c3), .unset, .unset, .unset, .unset] [(.int (2147483647 : Int32)), (.int p3)])) t
    refine XS.iand X0.here hx rfl (hb hby at_36) rfl ?_
    show Steps p.tables e below (s₁.setTop (mkF m 37 #[.val (.int p1), .val (.int p2), .val (.int p3), .val (.int c0), .val (.int c1), .val (.int c2), .val (.int c3), .unset, .unset, .unset, .unset] [(.int (p3 &&& (2147483647 : Int32)))])) t
    refine XS.iconst X0.here hx rfl (hb hby at_37) ?_
    show Steps p.tables e below (s₁.setTop (mkF m 38 #[.val (.int p1), .val (.int p2), .val (.int p3), .val (.int c0), .val (.int c1), .val (.int c2), .val (.int c3), .unset, .unset, .unset, .unset] [(.int (5 : Int32)), (.int (p3 &&& (2147483647 : Int32)))])) t
    refine iremM X0 hx rfl (hb hby at_38) rfl (by decide) ?_
    show Steps p.tables e below (s₁.setTop (mkF m 39 #[.val (.int p1), .val (.int p2), .val (.int p3), .val (.int c0), .val (.int c1), .val (.int c2), .val (.int c3), .unset, .unset, .unset, .unset] [(.int ((p3 &&& (2147483647 : Int32)) % (5 : Int32)))])) t
    refine XS.istore X0.here hx rfl (hb hby at_39) rfl (l' := #[.val (.int p1), .val (.int p2), .val (.int p3), .val (.int c0), .val (.int c1), .val (.int c2), .val (.int c3), .val (.int ((p3 &&& (2147483647 : Int32)) % (5 : Int32))), .unset, .unset, .unset]) rfl ?_
    show Steps p.tables e below (s₁.setTop (mkF m 41 #[.val (.int p1), .val (.int p2), .val (.int p3), .val (.int c0), .val (.int c1), .val (.int c2), .val (.int c3), .val (.int ((p3 &&& (2147483647 : Int32)) % (5 : Int32))), .unset, .unset, .unset] [])) t
    exact k)
  obtain ⟨len, h_len⟩ : ∃ z : Int32, z = ((p3 &&& (2147483647 : Int32)) % (5 : Int32)) := ⟨_, rfl⟩
  rw [← h_len] at pre5
  have hl4 : ¬ (4 : Int32) < len := by rw [h_len]; exact (own_len _).1
  have hl0 : ¬ len < (0 : Int32) := by rw [h_len]; exact (own_len _).2
  have pre6 : ∀ t, Steps p.tables e below (s₁.setTop (mkF m 42 #[.val (.int p1), .val (.int p2), .val (.int p3), .val (.int c0), .val (.int c1), .val (.int c2), .val (.int c3), .val (.int len), .unset, .unset, .unset] [(.int (4 : Int32))])) t → Steps p.tables e below (s₁.setTop (entryFrame m #[(.int p1), (.int p2), (.int p3)] maxLocals)) t := fun t k => pre5 t (by
    show Steps p.tables e below (s₁.setTop (mkF m 41 #[.val (.int p1), .val (.int p2), .val (.int p3), .val (.int c0), .val (.int c1), .val (.int c2), .val (.int c3), .val (.int len), .unset, .unset, .unset] [])) t
    refine XS.iconst X0.here hx rfl (hb hby at_41) ?_
    show Steps p.tables e below (s₁.setTop (mkF m 42 #[.val (.int p1), .val (.int p2), .val (.int p3), .val (.int c0), .val (.int c1), .val (.int c2), .val (.int c3), .val (.int len), .unset, .unset, .unset] [(.int (4 : Int32))])) t
    exact k)
  obtain ⟨T7, h7, k7, X7, eh7, E7, A7, st7⟩ := newP X0 hx hZ (hw _ (List.mem_of_getElem? (i := 2) rfl)) eh0 (g := (mkF m 42 #[.val (.int p1), .val (.int p2), .val (.int p3), .val (.int c0), .val (.int c1), .val (.int c2), .val (.int c3), .val (.int len), .unset, .unset, .unset] [(.int (4 : Int32))])) rfl (hb hby at_42) rfl (by decide) (cap := 4) (by decide) (by decide) (by decide) (by decide)
  obtain ⟨b7, gg7⟩ : ∃ z, z = h0.size := ⟨_, rfl⟩
  rw [← gg7] at A7 st7
  have sz7 : n0 ≤ h7.size := Nat.le_trans Z0 E7.1
  have g_b7 : n0 ≤ b7 := Nat.le_trans Z0 (Nat.le_of_eq gg7.symm)
  have V_b7 : Arv Z h7 b7 k7 .char (4 : Int32) [(.int (0 : Int32)), (.int (0 : Int32)), (.int (0 : Int32)), (.int (0 : Int32))] (.int (0 : Int32)) := (Arv.new A7 (by decide)).pad (pad_rep [] (.int (0 : Int32)) 4)
  have pre8 : ∀ t, Steps p.tables e below (T7.setTop (mkF m 44 #[.val (.int p1), .val (.int p2), .val (.int p3), .val (.int c0), .val (.int c1), .val (.int c2), .val (.int c3), .val (.int len), .unset, .unset, .unset] [(.ref b7)])) t → Steps p.tables e below (s₁.setTop (entryFrame m #[(.int p1), (.int p2), (.int p3)] maxLocals)) t := fun t k => pre6 t (st7 _ k)
  have pre9 : ∀ t, Steps p.tables e below (T7.setTop (mkF m 50 #[.val (.int p1), .val (.int p2), .val (.int p3), .val (.int c0), .val (.int c1), .val (.int c2), .val (.int c3), .val (.int len), .val (.ref b7), .unset, .unset] [(.int c0), (.int (0 : Int32)), (.ref b7)])) t → Steps p.tables e below (s₁.setTop (entryFrame m #[(.int p1), (.int p2), (.int p3)] maxLocals)) t := fun t k => pre8 t (by
    show Steps p.tables e below (T7.setTop (mkF m 44 #[.val (.int p1), .val (.int p2), .val (.int p3), .val (.int c0), .val (.int c1), .val (.int c2), .val (.int c3), .val (.int len), .unset, .unset, .unset] [(.ref b7)])) t
    refine XS.astore X7.here hx rfl (hb hby at_44) rfl rfl (l' := #[.val (.int p1), .val (.int p2), .val (.int p3), .val (.int c0), .val (.int c1), .val (.int c2), .val (.int c3), .val (.int len), .val (.ref b7), .unset, .unset]) rfl ?_
    show Steps p.tables e below (T7.setTop (mkF m 46 #[.val (.int p1), .val (.int p2), .val (.int p3), .val (.int c0), .val (.int c1), .val (.int c2), .val (.int c3), .val (.int len), .val (.ref b7), .unset, .unset] [])) t
    refine XS.aload X7.here hx rfl (hb hby at_46) rfl rfl ?_
    show Steps p.tables e below (T7.setTop (mkF m 48 #[.val (.int p1), .val (.int p2), .val (.int p3), .val (.int c0), .val (.int c1), .val (.int c2), .val (.int c3), .val (.int len), .val (.ref b7), .unset, .unset] [(.ref b7)])) t
    refine XS.iconst X7.here hx rfl (hb hby at_48) ?_
    show Steps p.tables e below (T7.setTop (mkF m 49 #[.val (.int p1), .val (.int p2), .val (.int p3), .val (.int c0), .val (.int c1), .val (.int c2), .val (.int c3), .val (.int len), .val (.ref b7), .unset, .unset] [(.int (0 : Int32)), (.ref b7)])) t
    refine XS.iloadN X7.here hx rfl (hb hby at_49) rfl ?_
    show Steps p.tables e below (T7.setTop (mkF m 50 #[.val (.int p1), .val (.int p2), .val (.int p3), .val (.int c0), .val (.int c1), .val (.int c2), .val (.int c3), .val (.int len), .val (.ref b7), .unset, .unset] [(.int c0), (.int (0 : Int32)), (.ref b7)])) t
    exact k)
  obtain ⟨cl10, Ar10, q10, S10, N10q, H10, G10⟩ := V_b7
  have hin10 : ¬ ((0 : Int32) < 0 ∨ cl10.slots.size ≤ ((0 : Int32)).toNatClampNeg) := inb_of S10 ⟨by decide, by decide⟩
  obtain ⟨T10, h10, X10, eh10, W10, st10⟩ := stC X7 hx hZ eh7 Ar10 (j := (0 : Int32)) hin10 (g := (mkF m 50 #[.val (.int p1), .val (.int p2), .val (.int p3), .val (.int c0), .val (.int c1), .val (.int c2), .val (.int c3), .val (.int len), .val (.ref b7), .unset, .unset] [(.int c0), (.int (0 : Int32)), (.ref b7)])) rfl rfl (hb hby at_50)
  have sz10 : n0 ≤ h10.size := Nat.le_trans sz7 (Keep.of_wr W10).1
  have N10 := Fr.snoc X10 N0 g_b7
  have V_b7__10 : Arv Z h10 b7 k7 .char (4 : Int32) [(.int (nar .char c0)), (.int (0 : Int32)), (.int (0 : Int32)), (.int (0 : Int32))] (.int (0 : Int32)) := Arv.set Ar10 q10 S10 N10q H10 G10 (fits_nar_char _) W10 0 rfl (Nat.le_of_ble_eq_true rfl)
  have pre11 : ∀ t, Steps p.tables e below (T10.setTop (mkF m 51 #[.val (.int p1), .val (.int p2), .val (.int p3), .val (.int c0), .val (.int c1), .val (.int c2), .val (.int c3), .val (.int len), .val (.ref b7), .unset, .unset] [])) t → Steps p.tables e below (s₁.setTop (entryFrame m #[(.int p1), (.int p2), (.int p3)] maxLocals)) t := fun t k => pre9 t (st10 _ k)
  have pre12 : ∀ t, Steps p.tables e below (T10.setTop (mkF m 56 #[.val (.int p1), .val (.int p2), .val (.int p3), .val (.int c0), .val (.int c1), .val (.int c2), .val (.int c3), .val (.int len), .val (.ref b7), .unset, .unset] [(.int c1), (.int (1 : Int32)), (.ref b7)])) t → Steps p.tables e below (s₁.setTop (entryFrame m #[(.int p1), (.int p2), (.int p3)] maxLocals)) t := fun t k => pre11 t (by
    show Steps p.tables e below (T10.setTop (mkF m 51 #[.val (.int p1), .val (.int p2), .val (.int p3), .val (.int c0), .val (.int c1), .val (.int c2), .val (.int c3), .val (.int len), .val (.ref b7), .unset, .unset] [])) t
    refine XS.aload X10.here hx rfl (hb hby at_51) rfl rfl ?_
    show Steps p.tables e below (T10.setTop (mkF m 53 #[.val (.int p1), .val (.int p2), .val (.int p3), .val (.int c0), .val (.int c1), .val (.int c2), .val (.int c3), .val (.int len), .val (.ref b7), .unset, .unset] [(.ref b7)])) t
    refine XS.iconst X10.here hx rfl (hb hby at_53) ?_
    show Steps p.tables e below (T10.setTop (mkF m 54 #[.val (.int p1), .val (.int p2), .val (.int p3), .val (.int c0), .val (.int c1), .val (.int c2), .val (.int c3), .val (.int len), .val (.ref b7), .unset, .unset] [(.int (1 : Int32)), (.ref b7)])) t
    refine XS.iload X10.here hx rfl (hb hby at_54) rfl ?_
    show Steps p.tables e below (T10.setTop (mkF m 56 #[.val (.int p1), .val (.int p2), .val (.int p3), .val (.int c0), .val (.int c1), .val (.int c2), .val (.int c3), .val (.int len), .val (.ref b7), .unset, .unset] [(.int c1), (.int (1 : Int32)), (.ref b7)])) t
    exact k)
  obtain ⟨cl13, Ar13, q13, S13, N13q, H13, G13⟩ := V_b7__10
  have hin13 : ¬ ((1 : Int32) < 0 ∨ cl13.slots.size ≤ ((1 : Int32)).toNatClampNeg) := inb_of S13 ⟨by decide, by decide⟩
  obtain ⟨T13, h13, X13, eh13, W13, st13⟩ := stC X10 hx hZ eh10 Ar13 (j := (1 : Int32)) hin13 (g := (mkF m 56 #[.val (.int p1), .val (.int p2), .val (.int p3), .val (.int c0), .val (.int c1), .val (.int c2), .val (.int c3), .val (.int len), .val (.ref b7), .unset, .unset] [(.int c1), (.int (1 : Int32)), (.ref b7)])) rfl rfl (hb hby at_56)
  have sz13 : n0 ≤ h13.size := Nat.le_trans sz10 (Keep.of_wr W13).1
  have N13 := Fr.snoc X13 N10 g_b7
  have V_b7__13 : Arv Z h13 b7 k7 .char (4 : Int32) [(.int (nar .char c0)), (.int (nar .char c1)), (.int (0 : Int32)), (.int (0 : Int32))] (.int (0 : Int32)) := Arv.set Ar13 q13 S13 N13q H13 G13 (fits_nar_char _) W13 1 rfl (Nat.le_of_ble_eq_true rfl)
  have pre14 : ∀ t, Steps p.tables e below (T13.setTop (mkF m 57 #[.val (.int p1), .val (.int p2), .val (.int p3), .val (.int c0), .val (.int c1), .val (.int c2), .val (.int c3), .val (.int len), .val (.ref b7), .unset, .unset] [])) t → Steps p.tables e below (s₁.setTop (entryFrame m #[(.int p1), (.int p2), (.int p3)] maxLocals)) t := fun t k => pre12 t (st13 _ k)
  have pre15 : ∀ t, Steps p.tables e below (T13.setTop (mkF m 62 #[.val (.int p1), .val (.int p2), .val (.int p3), .val (.int c0), .val (.int c1), .val (.int c2), .val (.int c3), .val (.int len), .val (.ref b7), .unset, .unset] [(.int c2), (.int (2 : Int32)), (.ref b7)])) t → Steps p.tables e below (s₁.setTop (entryFrame m #[(.int p1), (.int p2), (.int p3)] maxLocals)) t := fun t k => pre14 t (by
    show Steps p.tables e below (T13.setTop (mkF m 57 #[.val (.int p1), .val (.int p2), .val (.int p3), .val (.int c0), .val (.int c1), .val (.int c2), .val (.int c3), .val (.int len), .val (.ref b7), .unset, .unset] [])) t
    refine XS.aload X13.here hx rfl (hb hby at_57) rfl rfl ?_
    show Steps p.tables e below (T13.setTop (mkF m 59 #[.val (.int p1), .val (.int p2), .val (.int p3), .val (.int c0), .val (.int c1), .val (.int c2), .val (.int c3), .val (.int len), .val (.ref b7), .unset, .unset] [(.ref b7)])) t
    refine XS.iconst X13.here hx rfl (hb hby at_59) ?_
    show Steps p.tables e below (T13.setTop (mkF m 60 #[.val (.int p1), .val (.int p2), .val (.int p3), .val (.int c0), .val (.int c1), .val (.int c2), .val (.int c3), .val (.int len), .val (.ref b7), .unset, .unset] [(.int (2 : Int32)), (.ref b7)])) t
    refine XS.iload X13.here hx rfl (hb hby at_60) rfl ?_
    show Steps p.tables e below (T13.setTop (mkF m 62 #[.val (.int p1), .val (.int p2), .val (.int p3), .val (.int c0), .val (.int c1), .val (.int c2), .val (.int c3), .val (.int len), .val (.ref b7), .unset, .unset] [(.int c2), (.int (2 : Int32)), (.ref b7)])) t
    exact k)
  obtain ⟨cl16, Ar16, q16, S16, N16q, H16, G16⟩ := V_b7__13
  have hin16 : ¬ ((2 : Int32) < 0 ∨ cl16.slots.size ≤ ((2 : Int32)).toNatClampNeg) := inb_of S16 ⟨by decide, by decide⟩
  obtain ⟨T16, h16, X16, eh16, W16, st16⟩ := stC X13 hx hZ eh13 Ar16 (j := (2 : Int32)) hin16 (g := (mkF m 62 #[.val (.int p1), .val (.int p2), .val (.int p3), .val (.int c0), .val (.int c1), .val (.int c2), .val (.int c3), .val (.int len), .val (.ref b7), .unset, .unset] [(.int c2), (.int (2 : Int32)), (.ref b7)])) rfl rfl (hb hby at_62)
  have sz16 : n0 ≤ h16.size := Nat.le_trans sz13 (Keep.of_wr W16).1
  have N16 := Fr.snoc X16 N13 g_b7
  have V_b7__16 : Arv Z h16 b7 k7 .char (4 : Int32) [(.int (nar .char c0)), (.int (nar .char c1)), (.int (nar .char c2)), (.int (0 : Int32))] (.int (0 : Int32)) := Arv.set Ar16 q16 S16 N16q H16 G16 (fits_nar_char _) W16 2 rfl (Nat.le_of_ble_eq_true rfl)
  have pre17 : ∀ t, Steps p.tables e below (T16.setTop (mkF m 63 #[.val (.int p1), .val (.int p2), .val (.int p3), .val (.int c0), .val (.int c1), .val (.int c2), .val (.int c3), .val (.int len), .val (.ref b7), .unset, .unset] [])) t → Steps p.tables e below (s₁.setTop (entryFrame m #[(.int p1), (.int p2), (.int p3)] maxLocals)) t := fun t k => pre15 t (st16 _ k)
  have pre18 : ∀ t, Steps p.tables e below (T16.setTop (mkF m 68 #[.val (.int p1), .val (.int p2), .val (.int p3), .val (.int c0), .val (.int c1), .val (.int c2), .val (.int c3), .val (.int len), .val (.ref b7), .unset, .unset] [(.int c3), (.int (3 : Int32)), (.ref b7)])) t → Steps p.tables e below (s₁.setTop (entryFrame m #[(.int p1), (.int p2), (.int p3)] maxLocals)) t := fun t k => pre17 t (by
    show Steps p.tables e below (T16.setTop (mkF m 63 #[.val (.int p1), .val (.int p2), .val (.int p3), .val (.int c0), .val (.int c1), .val (.int c2), .val (.int c3), .val (.int len), .val (.ref b7), .unset, .unset] [])) t
    refine XS.aload X16.here hx rfl (hb hby at_63) rfl rfl ?_
    show Steps p.tables e below (T16.setTop (mkF m 65 #[.val (.int p1), .val (.int p2), .val (.int p3), .val (.int c0), .val (.int c1), .val (.int c2), .val (.int c3), .val (.int len), .val (.ref b7), .unset, .unset] [(.ref b7)])) t
    refine XS.iconst X16.here hx rfl (hb hby at_65) ?_
    show Steps p.tables e below (T16.setTop (mkF m 66 #[.val (.int p1), .val (.int p2), .val (.int p3), .val (.int c0), .val (.int c1), .val (.int c2), .val (.int c3), .val (.int len), .val (.ref b7), .unset, .unset] [(.int (3 : Int32)), (.ref b7)])) t
    refine XS.iload X16.here hx rfl (hb hby at_66) rfl ?_
    show Steps p.tables e below (T16.setTop (mkF m 68 #[.val (.int p1), .val (.int p2), .val (.int p3), .val (.int c0), .val (.int c1), .val (.int c2), .val (.int c3), .val (.int len), .val (.ref b7), .unset, .unset] [(.int c3), (.int (3 : Int32)), (.ref b7)])) t
    exact k)
  obtain ⟨cl19, Ar19, q19, S19, N19q, H19, G19⟩ := V_b7__16
  have hin19 : ¬ ((3 : Int32) < 0 ∨ cl19.slots.size ≤ ((3 : Int32)).toNatClampNeg) := inb_of S19 ⟨by decide, by decide⟩
  obtain ⟨T19, h19, X19, eh19, W19, st19⟩ := stC X16 hx hZ eh16 Ar19 (j := (3 : Int32)) hin19 (g := (mkF m 68 #[.val (.int p1), .val (.int p2), .val (.int p3), .val (.int c0), .val (.int c1), .val (.int c2), .val (.int c3), .val (.int len), .val (.ref b7), .unset, .unset] [(.int c3), (.int (3 : Int32)), (.ref b7)])) rfl rfl (hb hby at_68)
  have sz19 : n0 ≤ h19.size := Nat.le_trans sz16 (Keep.of_wr W19).1
  have N19 := Fr.snoc X19 N16 g_b7
  have V_b7__19 : Arv Z h19 b7 k7 .char (4 : Int32) [(.int (nar .char c0)), (.int (nar .char c1)), (.int (nar .char c2)), (.int (nar .char c3))] (.int (0 : Int32)) := Arv.set Ar19 q19 S19 N19q H19 G19 (fits_nar_char _) W19 3 rfl (Nat.le_of_ble_eq_true rfl)
  have pre20 : ∀ t, Steps p.tables e below (T19.setTop (mkF m 69 #[.val (.int p1), .val (.int p2), .val (.int p3), .val (.int c0), .val (.int c1), .val (.int c2), .val (.int c3), .val (.int len), .val (.ref b7), .unset, .unset] [])) t → Steps p.tables e below (s₁.setTop (entryFrame m #[(.int p1), (.int p2), (.int p3)] maxLocals)) t := fun t k => pre18 t (st19 _ k)
  have pre22 : ∀ t, Steps p.tables e below (T19.setTop (mkF m 71 #[.val (.int p1), .val (.int p2), .val (.int p3), .val (.int c0), .val (.int c1), .val (.int c2), .val (.int c3), .val (.int len), .val (.ref b7), .unset, .unset] [(.int len)])) t → Steps p.tables e below (s₁.setTop (entryFrame m #[(.int p1), (.int p2), (.int p3)] maxLocals)) t := fun t k => pre20 t (by
    show Steps p.tables e below (T19.setTop (mkF m 69 #[.val (.int p1), .val (.int p2), .val (.int p3), .val (.int c0), .val (.int c1), .val (.int c2), .val (.int c3), .val (.int len), .val (.ref b7), .unset, .unset] [])) t
    refine XS.iload X19.here hx rfl (hb hby at_69) rfl ?_
    show Steps p.tables e below (T19.setTop (mkF m 71 #[.val (.int p1), .val (.int p2), .val (.int p3), .val (.int c0), .val (.int c1), .val (.int c2), .val (.int c3), .val (.int len), .val (.ref b7), .unset, .unset] [(.int len)])) t
    exact k)
  by_cases hc71_21 : len = (0 : Int32)
  · skip
    have pre23 : ∀ t, Steps p.tables e below (T19.setTop (mkF m 149 #[.val (.int p1), .val (.int p2), .val (.int p3), .val (.int c0), .val (.int c1), .val (.int c2), .val (.int c3), .val (.int len), .val (.ref b7), .val (.int (0 : Int32)), .unset] [(.int len), (.ref b7)])) t → Steps p.tables e below (s₁.setTop (entryFrame m #[(.int p1), (.int p2), (.int p3)] maxLocals)) t := fun t k => pre22 t (by
      show Steps p.tables e below (T19.setTop (mkF m 71 #[.val (.int p1), .val (.int p2), .val (.int p3), .val (.int c0), .val (.int c1), .val (.int c2), .val (.int c3), .val (.int len), .val (.ref b7), .unset, .unset] [(.int len)])) t
      refine XS.ifNo X19.here hx rfl (hb hby at_71) rfl (XT.i0_ne_f hc71_21) ?_
      show Steps p.tables e below (T19.setTop (mkF m 74 #[.val (.int p1), .val (.int p2), .val (.int p3), .val (.int c0), .val (.int c1), .val (.int c2), .val (.int c3), .val (.int len), .val (.ref b7), .unset, .unset] [])) t
      refine XS.iconst X19.here hx rfl (hb hby at_74) ?_
      show Steps p.tables e below (T19.setTop (mkF m 75 #[.val (.int p1), .val (.int p2), .val (.int p3), .val (.int c0), .val (.int c1), .val (.int c2), .val (.int c3), .val (.int len), .val (.ref b7), .unset, .unset] [(.int (0 : Int32))])) t
      refine XS.istore X19.here hx rfl (hb hby at_75) rfl (l' := #[.val (.int p1), .val (.int p2), .val (.int p3), .val (.int c0), .val (.int c1), .val (.int c2), .val (.int c3), .val (.int len), .val (.ref b7), .val (.int (0 : Int32)), .unset]) rfl ?_
      show Steps p.tables e below (T19.setTop (mkF m 77 #[.val (.int p1), .val (.int p2), .val (.int p3), .val (.int c0), .val (.int c1), .val (.int c2), .val (.int c3), .val (.int len), .val (.ref b7), .val (.int (0 : Int32)), .unset] [])) t
      refine XS.goto X19.here hx rfl (pc0 := 77) (pc' := 145) rfl (hb hby at_77) (by decide) (by decide) ?_
      show Steps p.tables e below (T19.setTop (mkF m 145 #[.val (.int p1), .val (.int p2), .val (.int p3), .val (.int c0), .val (.int c1), .val (.int c2), .val (.int c3), .val (.int len), .val (.ref b7), .val (.int (0 : Int32)), .unset] [])) t
      refine XS.aload X19.here hx rfl (hb hby at_145) rfl rfl ?_
      show Steps p.tables e below (T19.setTop (mkF m 147 #[.val (.int p1), .val (.int p2), .val (.int p3), .val (.int c0), .val (.int c1), .val (.int c2), .val (.int c3), .val (.int len), .val (.ref b7), .val (.int (0 : Int32)), .unset] [(.ref b7)])) t
      refine XS.iload X19.here hx rfl (hb hby at_147) rfl ?_
      show Steps p.tables e below (T19.setTop (mkF m 149 #[.val (.int p1), .val (.int p2), .val (.int p3), .val (.int c0), .val (.int c1), .val (.int c2), .val (.int c3), .val (.int len), .val (.ref b7), .val (.int (0 : Int32)), .unset] [(.int len), (.ref b7)])) t
      exact k)
    obtain ⟨_, _, ⟨T24, L24, k24, n24⟩, -, X24, ⟨Lc24, hQ24, l24, y24, z24⟩, st24⟩ := Jvm.LawKit.callS X19 hx (y := (⟨"com/example/interlace/interlace/core/ItemName", "isPlain", "([CI)Z"⟩ : MethodName)) hown (mvT hZ (hw _ (List.mem_of_getElem? (i := 3) rfl))) (mvT hZ (hw _ (List.mem_of_getElem? (i := 4) rfl))) (mvT hZ (hw _ (List.mem_of_getElem? (i := 5) rfl))) (mvT hZ (hw _ (List.mem_of_getElem? (i := 6) rfl))) (by decide) (backOf (W := 0) (rm1 l Z a0 hw [] b7 len k7 (nar .char c0) (nar .char c1) (nar .char c2) (nar .char c3) h19 n0 sz19 V_b7__19 (show ¬ (4 : Int32) < len from hl4)) hZ (hw _ (List.mem_of_getElem? (i := 6) rfl)) (hw _ (List.mem_of_getElem? (i := 5) rfl)) (by decide) (by decide)) (g := (mkF m 149 #[.val (.int p1), .val (.int p2), .val (.int p3), .val (.int c0), .val (.int c1), .val (.int c2), .val (.int c3), .val (.int len), .val (.ref b7), .val (.int (0 : Int32)), .unset] [(.int len), (.ref b7)])) rfl (by rw [hml]; rfl) (argsL := [(.ref b7), (.int len)]) (rest := []) (lenOf pd_oaCIcZ rfl) rfl (by show 2 * 0 + _ ≤ _; exact Nat.le_of_eq rfl) (hb hby at_149) (fun _ _ => ⟨rfl, eh19, (by decide : 1 + 0 ≤ _), (by decide : 4 + 0 ≤ _)⟩)
    dsimp only [Pt.U, Pt.locs, Pt.cells, Pt.slots] at X24 l24 y24 z24 st24 hQ24
    subst l24 y24 z24
    obtain ⟨rfl, N24q, eh24⟩ := hQ24
    have N24 := Fr.app N19 N24q
    have pre25 : ∀ t, Steps p.tables e below (T24.setTop (mkF m 152 #[.val (.int p1), .val (.int p2), .val (.int p3), .val (.int c0), .val (.int c1), .val (.int c2), .val (.int c3), .val (.int len), .val (.ref b7), .val (.int (0 : Int32)), .unset] [(.int (own_pl (nar .char c0) (nar .char c1) (nar .char c2) (nar .char c3) len))])) t → Steps p.tables e below (s₁.setTop (entryFrame m #[(.int p1), (.int p2), (.int p3)] maxLocals)) t := fun t k => pre23 t (st24 _ k)
    have pre28 : ∀ t, Steps p.tables e below (T24.setTop (mkF m 166 #[.val (.int p1), .val (.int p2), .val (.int p3), .val (.int c0), .val (.int c1), .val (.int c2), .val (.int c3), .val (.int len), .val (.ref b7), .val (.int (0 : Int32)), .val (.int (own_pl (nar .char c0) (nar .char c1) (nar .char c2) (nar .char c3) len))] [(.int (1 : Int32))])) t → Steps p.tables e below (s₁.setTop (entryFrame m #[(.int p1), (.int p2), (.int p3)] maxLocals)) t := fun t k => pre25 t (by
      show Steps p.tables e below (T24.setTop (mkF m 152 #[.val (.int p1), .val (.int p2), .val (.int p3), .val (.int c0), .val (.int c1), .val (.int c2), .val (.int c3), .val (.int len), .val (.ref b7), .val (.int (0 : Int32)), .unset] [(.int (own_pl (nar .char c0) (nar .char c1) (nar .char c2) (nar .char c3) len))])) t
      refine XS.istore X24.here hx rfl (hb hby at_152) rfl (l' := #[.val (.int p1), .val (.int p2), .val (.int p3), .val (.int c0), .val (.int c1), .val (.int c2), .val (.int c3), .val (.int len), .val (.ref b7), .val (.int (0 : Int32)), .val (.int (own_pl (nar .char c0) (nar .char c1) (nar .char c2) (nar .char c3) len))]) rfl ?_
      show Steps p.tables e below (T24.setTop (mkF m 154 #[.val (.int p1), .val (.int p2), .val (.int p3), .val (.int c0), .val (.int c1), .val (.int c2), .val (.int c3), .val (.int len), .val (.ref b7), .val (.int (0 : Int32)), .val (.int (own_pl (nar .char c0) (nar .char c1) (nar .char c2) (nar .char c3) len))] [])) t
      refine XS.iload X24.here hx rfl (hb hby at_154) rfl ?_
      show Steps p.tables e below (T24.setTop (mkF m 156 #[.val (.int p1), .val (.int p2), .val (.int p3), .val (.int c0), .val (.int c1), .val (.int c2), .val (.int c3), .val (.int len), .val (.ref b7), .val (.int (0 : Int32)), .val (.int (own_pl (nar .char c0) (nar .char c1) (nar .char c2) (nar .char c3) len))] [(.int (own_pl (nar .char c0) (nar .char c1) (nar .char c2) (nar .char c3) len))])) t
      refine XS.iload X24.here hx rfl (hb hby at_156) rfl ?_
      show Steps p.tables e below (T24.setTop (mkF m 158 #[.val (.int p1), .val (.int p2), .val (.int p3), .val (.int c0), .val (.int c1), .val (.int c2), .val (.int c3), .val (.int len), .val (.ref b7), .val (.int (0 : Int32)), .val (.int (own_pl (nar .char c0) (nar .char c1) (nar .char c2) (nar .char c3) len))] [(.int (0 : Int32)), (.int (own_pl (nar .char c0) (nar .char c1) (nar .char c2) (nar .char c3) len))])) t
      refine XS.icmpNo X24.here hx rfl (hb hby at_158) rfl (XT.ii_ne_f (show (own_pl (nar .char c0) (nar .char c1) (nar .char c2) (nar .char c3) len) = (0 : Int32) from own_fin26 _ _ _ _ _ (by rw [h_c0]; exact own_nar _) (by rw [h_c1]; exact own_nar _) (by rw [h_c2]; exact own_nar _) (by rw [h_c3]; exact own_nar _) hc71_21 hl4 hl0)) ?_
      show Steps p.tables e below (T24.setTop (mkF m 161 #[.val (.int p1), .val (.int p2), .val (.int p3), .val (.int c0), .val (.int c1), .val (.int c2), .val (.int c3), .val (.int len), .val (.ref b7), .val (.int (0 : Int32)), .val (.int (own_pl (nar .char c0) (nar .char c1) (nar .char c2) (nar .char c3) len))] [])) t
      refine XS.iconst X24.here hx rfl (hb hby at_161) ?_
      show Steps p.tables e below (T24.setTop (mkF m 162 #[.val (.int p1), .val (.int p2), .val (.int p3), .val (.int c0), .val (.int c1), .val (.int c2), .val (.int c3), .val (.int len), .val (.ref b7), .val (.int (0 : Int32)), .val (.int (own_pl (nar .char c0) (nar .char c1) (nar .char c2) (nar .char c3) len))] [(.int (1 : Int32))])) t
      refine XS.goto X24.here hx rfl (pc0 := 162) (pc' := 166) rfl (hb hby at_162) (by decide) (by decide) ?_
      show Steps p.tables e below (T24.setTop (mkF m 166 #[.val (.int p1), .val (.int p2), .val (.int p3), .val (.int c0), .val (.int c1), .val (.int c2), .val (.int c3), .val (.int len), .val (.ref b7), .val (.int (0 : Int32)), .val (.int (own_pl (nar .char c0) (nar .char c1) (nar .char c2) (nar .char c3) len))] [(.int (1 : Int32))])) t
      exact k)
    obtain ⟨fs, hr, hrun, hended, hW, hsame⟩ := X24.leave (v := some (.int (1 : Int32))) (fun h => by rw [Bd.returns] at h; cases h)
    refine ⟨_, _, pre28 _ ?_, hrun, hended, _, _, rfl, ?_, ⟨_, rfl⟩, hW, hsame.mono (by decide) (by decide)⟩
    · show Steps p.tables e below (T24.setTop (mkF m 166 #[.val (.int p1), .val (.int p2), .val (.int p3), .val (.int c0), .val (.int c1), .val (.int c2), .val (.int c3), .val (.int len), .val (.ref b7), .val (.int (0 : Int32)), .val (.int (own_pl (nar .char c0) (nar .char c1) (nar .char c2) (nar .char c3) len))] [(.int (1 : Int32))])) _
      exact retN X24 hx (t := .boolean) Bd.returns (by simp) (hb hby at_166) hr
    · show Q0 Z p1 p2 p3 h0 n0 _ T24.heap _
      rw [eh24]
      exact ⟨rfl, N24⟩
  · skip
    have pre30 : ∀ t, Steps p.tables e below (T19.setTop (mkF m 84 #[.val (.int p1), .val (.int p2), .val (.int p3), .val (.int c0), .val (.int c1), .val (.int c2), .val (.int c3), .val (.int len), .val (.ref b7), .unset, .unset] [(.int (128 : Int32)), (.int c0)])) t → Steps p.tables e below (s₁.setTop (entryFrame m #[(.int p1), (.int p2), (.int p3)] maxLocals)) t := fun t k => pre22 t (by
      show Steps p.tables e below (T19.setTop (mkF m 71 #[.val (.int p1), .val (.int p2), .val (.int p3), .val (.int c0), .val (.int c1), .val (.int c2), .val (.int c3), .val (.int len), .val (.ref b7), .unset, .unset] [(.int len)])) t
      refine XS.ifYes X19.here hx rfl (pc0 := 71) (pc' := 80) rfl (hb hby at_71) rfl (XT.i0_ne_t hc71_21) (by decide) (by decide) ?_
      show Steps p.tables e below (T19.setTop (mkF m 80 #[.val (.int p1), .val (.int p2), .val (.int p3), .val (.int c0), .val (.int c1), .val (.int c2), .val (.int c3), .val (.int len), .val (.ref b7), .unset, .unset] [])) t
      refine XS.iloadN X19.here hx rfl (hb hby at_80) rfl ?_
      show Steps p.tables e below (T19.setTop (mkF m 81 #[.val (.int p1), .val (.int p2), .val (.int p3), .val (.int c0), .val (.int c1), .val (.int c2), .val (.int c3), .val (.int len), .val (.ref b7), .unset, .unset] [(.int c0)])) t
      refine XS.sipush X19.here hx rfl (hb hby at_81) ?_
      show Steps p.tables e below (T19.setTop (mkF m 84 #[.val (.int p1), .val (.int p2), .val (.int p3), .val (.int c0), .val (.int c1), .val (.int c2), .val (.int c3), .val (.int len), .val (.ref b7), .unset, .unset] [(.int (128 : Int32)), (.int c0)])) t
      exact k)
    have pre31 : ∀ t, Steps p.tables e below (T19.setTop (mkF m 92 #[.val (.int p1), .val (.int p2), .val (.int p3), .val (.int c0), .val (.int c1), .val (.int c2), .val (.int c3), .val (.int len), .val (.ref b7), .unset, .unset] [(.int (if c0 < (128 : Int32) then (1 : Int32) else (0 : Int32)))])) t → Steps p.tables e below (s₁.setTop (entryFrame m #[(.int p1), (.int p2), (.int p3)] maxLocals)) t := fun t k => pre30 t (by
      show Steps p.tables e below (T19.setTop (mkF m 84 #[.val (.int p1), .val (.int p2), .val (.int p3), .val (.int c0), .val (.int c1), .val (.int c2), .val (.int c3), .val (.int len), .val (.ref b7), .unset, .unset] [(.int (128 : Int32)), (.int c0)])) t
      by_cases hc84_29 : c0 < (128 : Int32)
      · simp only [if_pos hc84_29] at k
        refine XS.icmpNo X19.here hx rfl (hb hby at_84) rfl (XT.ii_ge_f hc84_29) ?_
        show Steps p.tables e below (T19.setTop (mkF m 87 #[.val (.int p1), .val (.int p2), .val (.int p3), .val (.int c0), .val (.int c1), .val (.int c2), .val (.int c3), .val (.int len), .val (.ref b7), .unset, .unset] [])) t
        refine XS.iconst X19.here hx rfl (hb hby at_87) ?_
        show Steps p.tables e below (T19.setTop (mkF m 88 #[.val (.int p1), .val (.int p2), .val (.int p3), .val (.int c0), .val (.int c1), .val (.int c2), .val (.int c3), .val (.int len), .val (.ref b7), .unset, .unset] [(.int (1 : Int32))])) t
        refine XS.goto X19.here hx rfl (pc0 := 88) (pc' := 92) rfl (hb hby at_88) (by decide) (by decide) ?_
        show Steps p.tables e below (T19.setTop (mkF m 92 #[.val (.int p1), .val (.int p2), .val (.int p3), .val (.int c0), .val (.int c1), .val (.int c2), .val (.int c3), .val (.int len), .val (.ref b7), .unset, .unset] [(.int (1 : Int32))])) t
        exact k
      · simp only [if_neg hc84_29] at k
        refine XS.icmpYes X19.here hx rfl (pc0 := 84) (pc' := 91) rfl (hb hby at_84) rfl (XT.ii_ge_t hc84_29) (by decide) (by decide) ?_
        show Steps p.tables e below (T19.setTop (mkF m 91 #[.val (.int p1), .val (.int p2), .val (.int p3), .val (.int c0), .val (.int c1), .val (.int c2), .val (.int c3), .val (.int len), .val (.ref b7), .unset, .unset] [])) t
        refine XS.iconst X19.here hx rfl (hb hby at_91) ?_
        show Steps p.tables e below (T19.setTop (mkF m 92 #[.val (.int p1), .val (.int p2), .val (.int p3), .val (.int c0), .val (.int c1), .val (.int c2), .val (.int c3), .val (.int len), .val (.ref b7), .unset, .unset] [(.int (0 : Int32))])) t
        exact k)
    have pre33 : ∀ t, Steps p.tables e below (T19.setTop (mkF m 97 #[.val (.int p1), .val (.int p2), .val (.int p3), .val (.int c0), .val (.int c1), .val (.int c2), .val (.int c3), .val (.int len), .val (.ref b7), .val (.int (if c0 < (128 : Int32) then (1 : Int32) else (0 : Int32))), .unset] [(.int (1 : Int32)), (.int len)])) t → Steps p.tables e below (s₁.setTop (entryFrame m #[(.int p1), (.int p2), (.int p3)] maxLocals)) t := fun t k => pre31 t (by
      show Steps p.tables e below (T19.setTop (mkF m 92 #[.val (.int p1), .val (.int p2), .val (.int p3), .val (.int c0), .val (.int c1), .val (.int c2), .val (.int c3), .val (.int len), .val (.ref b7), .unset, .unset] [(.int (if c0 < (128 : Int32) then (1 : Int32) else (0 : Int32)))])) t
      refine XS.istore X19.here hx rfl (hb hby at_92) rfl (l' := #[.val (.int p1), .val (.int p2), .val (.int p3), .val (.int c0), .val (.int c1), .val (.int c2), .val (.int c3), .val (.int len), .val (.ref b7), .val (.int (if c0 < (128 : Int32) then (1 : Int32) else (0 : Int32))), .unset]) rfl ?_
      show Steps p.tables e below (T19.setTop (mkF m 94 #[.val (.int p1), .val (.int p2), .val (.int p3), .val (.int c0), .val (.int c1), .val (.int c2), .val (.int c3), .val (.int len), .val (.ref b7), .val (.int (if c0 < (128 : Int32) then (1 : Int32) else (0 : Int32))), .unset] [])) t
      refine XS.iload X19.here hx rfl (hb hby at_94) rfl ?_
      show Steps p.tables e below (T19.setTop (mkF m 96 #[.val (.int p1), .val (.int p2), .val (.int p3), .val (.int c0), .val (.int c1), .val (.int c2), .val (.int c3), .val (.int len), .val (.ref b7), .val (.int (if c0 < (128 : Int32) then (1 : Int32) else (0 : Int32))), .unset] [(.int len)])) t
      refine XS.iconst X19.here hx rfl (hb hby at_96) ?_
      show Steps p.tables e below (T19.setTop (mkF m 97 #[.val (.int p1), .val (.int p2), .val (.int p3), .val (.int c0), .val (.int c1), .val (.int c2), .val (.int c3), .val (.int len), .val (.ref b7), .val (.int (if c0 < (128 : Int32) then (1 : Int32) else (0 : Int32))), .unset] [(.int (1 : Int32)), (.int len)])) t
      exact k)
    have pre36 : ∀ t, Steps p.tables e below (T19.setTop (mkF m 111 #[.val (.int p1), .val (.int p2), .val (.int p3), .val (.int c0), .val (.int c1), .val (.int c2), .val (.int c3), .val (.int len), .val (.ref b7), .val (.int (if (1 : Int32) < len then (if c1 < (768 : Int32) then (if c0 < (128 : Int32) then (1 : Int32) else (0 : Int32)) else (0 : Int32)) else (if c0 < (128 : Int32) then (1 : Int32) else (0 : Int32)))), .unset] [])) t → Steps p.tables e below (s₁.setTop (entryFrame m #[(.int p1), (.int p2), (.int p3)] maxLocals)) t := fun t k => pre33 t (by
      show Steps p.tables e below (T19.setTop (mkF m 97 #[.val (.int p1), .val (.int p2), .val (.int p3), .val (.int c0), .val (.int c1), .val (.int c2), .val (.int c3), .val (.int len), .val (.ref b7), .val (.int (if c0 < (128 : Int32) then (1 : Int32) else (0 : Int32))), .unset] [(.int (1 : Int32)), (.int len)])) t
      by_cases hc97_32 : (1 : Int32) < len
      · simp only [if_pos hc97_32] at k
        refine XS.icmpNo X19.here hx rfl (hb hby at_97) rfl (XT.ii_le_f hc97_32) ?_
        show Steps p.tables e below (T19.setTop (mkF m 100 #[.val (.int p1), .val (.int p2), .val (.int p3), .val (.int c0), .val (.int c1), .val (.int c2), .val (.int c3), .val (.int len), .val (.ref b7), .val (.int (if c0 < (128 : Int32) then (1 : Int32) else (0 : Int32))), .unset] [])) t
        refine XS.iload X19.here hx rfl (hb hby at_100) rfl ?_
        show Steps p.tables e below (T19.setTop (mkF m 102 #[.val (.int p1), .val (.int p2), .val (.int p3), .val (.int c0), .val (.int c1), .val (.int c2), .val (.int c3), .val (.int len), .val (.ref b7), .val (.int (if c0 < (128 : Int32) then (1 : Int32) else (0 : Int32))), .unset] [(.int c1)])) t
        refine XS.sipush X19.here hx rfl (hb hby at_102) ?_
        show Steps p.tables e below (T19.setTop (mkF m 105 #[.val (.int p1), .val (.int p2), .val (.int p3), .val (.int c0), .val (.int c1), .val (.int c2), .val (.int c3), .val (.int len), .val (.ref b7), .val (.int (if c0 < (128 : Int32) then (1 : Int32) else (0 : Int32))), .unset] [(.int (768 : Int32)), (.int c1)])) t
        suffices k35 : Steps p.tables e below (T19.setTop (mkF m 111 #[.val (.int p1), .val (.int p2), .val (.int p3), .val (.int c0), .val (.int c1), .val (.int c2), .val (.int c3), .val (.int len), .val (.ref b7), .val (.int (if c1 < (768 : Int32) then (if c0 < (128 : Int32) then (1 : Int32) else (0 : Int32)) else (0 : Int32))), .unset] [])) t by
          by_cases hc105_34 : c1 < (768 : Int32)
          · simp only [if_pos hc105_34] at k35
            refine XS.icmpYes X19.here hx rfl (pc0 := 105) (pc' := 111) rfl (hb hby at_105) rfl (XT.ii_lt_t hc105_34) (by decide) (by decide) ?_
            show Steps p.tables e below (T19.setTop (mkF m 111 #[.val (.int p1), .val (.int p2), .val (.int p3), .val (.int c0), .val (.int c1), .val (.int c2), .val (.int c3), .val (.int len), .val (.ref b7), .val (.int (if c0 < (128 : Int32) then (1 : Int32) else (0 : Int32))), .unset] [])) t
            exact k35
          · simp only [if_neg hc105_34] at k35
            refine XS.icmpNo X19.here hx rfl (hb hby at_105) rfl (XT.ii_lt_f hc105_34) ?_
            show Steps p.tables e below (T19.setTop (mkF m 108 #[.val (.int p1), .val (.int p2), .val (.int p3), .val (.int c0), .val (.int c1), .val (.int c2), .val (.int c3), .val (.int len), .val (.ref b7), .val (.int (if c0 < (128 : Int32) then (1 : Int32) else (0 : Int32))), .unset] [])) t
            refine XS.iconst X19.here hx rfl (hb hby at_108) ?_
            show Steps p.tables e below (T19.setTop (mkF m 109 #[.val (.int p1), .val (.int p2), .val (.int p3), .val (.int c0), .val (.int c1), .val (.int c2), .val (.int c3), .val (.int len), .val (.ref b7), .val (.int (if c0 < (128 : Int32) then (1 : Int32) else (0 : Int32))), .unset] [(.int (0 : Int32))])) t
            refine XS.istore X19.here hx rfl (hb hby at_109) rfl (l' := #[.val (.int p1), .val (.int p2), .val (.int p3), .val (.int c0), .val (.int c1), .val (.int c2), .val (.int c3), .val (.int len), .val (.ref b7), .val (.int (0 : Int32)), .unset]) rfl ?_
            show Steps p.tables e below (T19.setTop (mkF m 111 #[.val (.int p1), .val (.int p2), .val (.int p3), .val (.int c0), .val (.int c1), .val (.int c2), .val (.int c3), .val (.int len), .val (.ref b7), .val (.int (0 : Int32)), .unset] [])) t
            exact k35
        exact k
      · simp only [if_neg hc97_32] at k
        refine XS.icmpYes X19.here hx rfl (pc0 := 97) (pc' := 111) rfl (hb hby at_97) rfl (XT.ii_le_t hc97_32) (by decide) (by decide) ?_
        show Steps p.tables e below (T19.setTop (mkF m 111 #[.val (.int p1), .val (.int p2), .val (.int p3), .val (.int c0), .val (.int c1), .val (.int c2), .val (.int c3), .val (.int len), .val (.ref b7), .val (.int (if c0 < (128 : Int32) then (1 : Int32) else (0 : Int32))), .unset] [])) t
        exact k)
    have pre38 : ∀ t, Steps p.tables e below (T19.setTop (mkF m 114 #[.val (.int p1), .val (.int p2), .val (.int p3), .val (.int c0), .val (.int c1), .val (.int c2), .val (.int c3), .val (.int len), .val (.ref b7), .val (.int (if (1 : Int32) < len then (if c1 < (768 : Int32) then (if c0 < (128 : Int32) then (1 : Int32) else (0 : Int32)) else (0 : Int32)) else (if c0 < (128 : Int32) then (1 : Int32) else (0 : Int32)))), .unset] [(.int (2 : Int32)), (.int len)])) t → Steps p.tables e below (s₁.setTop (entryFrame m #[(.int p1), (.int p2), (.int p3)] maxLocals)) t := fun t k => pre36 t (by
      show Steps p.tables e below (T19.setTop (mkF m 111 #[.val (.int p1), .val (.int p2), .val (.int p3), .val (.int c0), .val (.int c1), .val (.int c2), .val (.int c3), .val (.int len), .val (.ref b7), .val (.int (if (1 : Int32) < len then (if c1 < (768 : Int32) then (if c0 < (128 : Int32) then (1 : Int32) else (0 : Int32)) else (0 : Int32)) else (if c0 < (128 : Int32) then (1 : Int32) else (0 : Int32)))), .unset] [])) t
      refine XS.iload X19.here hx rfl (hb hby at_111) rfl ?_
      show Steps p.tables e below (T19.setTop (mkF m 113 #[.val (.int p1), .val (.int p2), .val (.int p3), .val (.int c0), .val (.int c1), .val (.int c2), .val (.int c3), .val (.int len), .val (.ref b7), .val (.int (if (1 : Int32) < len then (if c1 < (768 : Int32) then (if c0 < (128 : Int32) then (1 : Int32) else (0 : Int32)) else (0 : Int32)) else (if c0 < (128 : Int32) then (1 : Int32) else (0 : Int32)))), .unset] [(.int len)])) t
      refine XS.iconst X19.here hx rfl (hb hby at_113) ?_
      show Steps p.tables e below (T19.setTop (mkF m 114 #[.val (.int p1), .val (.int p2), .val (.int p3), .val (.int c0), .val (.int c1), .val (.int c2), .val (.int c3), .val (.int len), .val (.ref b7), .val (.int (if (1 : Int32) < len then (if c1 < (768 : Int32) then (if c0 < (128 : Int32) then (1 : Int32) else (0 : Int32)) else (0 : Int32)) else (if c0 < (128 : Int32) then (1 : Int32) else (0 : Int32)))), .unset] [(.int (2 : Int32)), (.int len)])) t
      exact k)
    have pre41 : ∀ t, Steps p.tables e below (T19.setTop (mkF m 128 #[.val (.int p1), .val (.int p2), .val (.int p3), .val (.int c0), .val (.int c1), .val (.int c2), .val (.int c3), .val (.int len), .val (.ref b7), .val (.int (if (2 : Int32) < len then (if c2 < (768 : Int32) then (if (1 : Int32) < len then (if c1 < (768 : Int32) then (if c0 < (128 : Int32) then (1 : Int32) else (0 : Int32)) else (0 : Int32)) else (if c0 < (128 : Int32) then (1 : Int32) else (0 : Int32))) else (0 : Int32)) else (if (1 : Int32) < len then (if c1 < (768 : Int32) then (if c0 < (128 : Int32) then (1 : Int32) else (0 : Int32)) else (0 : Int32)) else (if c0 < (128 : Int32) then (1 : Int32) else (0 : Int32))))), .unset] [])) t → Steps p.tables e below (s₁.setTop (entryFrame m #[(.int p1), (.int p2), (.int p3)] maxLocals)) t := fun t k => pre38 t (by
      show Steps p.tables e below (T19.setTop (mkF m 114 #[.val (.int p1), .val (.int p2), .val (.int p3), .val (.int c0), .val (.int c1), .val (.int c2), .val (.int c3), .val (.int len), .val (.ref b7), .val (.int (if (1 : Int32) < len then (if c1 < (768 : Int32) then (if c0 < (128 : Int32) then (1 : Int32) else (0 : Int32)) else (0 : Int32)) else (if c0 < (128 : Int32) then (1 : Int32) else (0 : Int32)))), .unset] [(.int (2 : Int32)), (.int len)])) t
      by_cases hc114_37 : (2 : Int32) < len
      · simp only [if_pos hc114_37] at k
        refine XS.icmpNo X19.here hx rfl (hb hby at_114) rfl (XT.ii_le_f hc114_37) ?_
        show Steps p.tables e below (T19.setTop (mkF m 117 #[.val (.int p1), .val (.int p2), .val (.int p3), .val (.int c0), .val (.int c1), .val (.int c2), .val (.int c3), .val (.int len), .val (.ref b7), .val (.int (if (1 : Int32) < len then (if c1 < (768 : Int32) then (if c0 < (128 : Int32) then (1 : Int32) else (0 : Int32)) else (0 : Int32)) else (if c0 < (128 : Int32) then (1 : Int32) else (0 : Int32)))), .unset] [])) t
        refine XS.iload X19.here hx rfl (hb hby at_117) rfl ?_
        show Steps p.tables e below (T19.setTop (mkF m 119 #[.val (.int p1), .val (.int p2), .val (.int p3), .val (.int c0), .val (.int c1), .val (.int c2), .val (.int c3), .val (.int len), .val (.ref b7), .val (.int (if (1 : Int32) < len then (if c1 < (768 : Int32) then (if c0 < (128 : Int32) then (1 : Int32) else (0 : Int32)) else (0 : Int32)) else (if c0 < (128 : Int32) then (1 : Int32) else (0 : Int32)))), .unset] [(.int c2)])) t
        refine XS.sipush X19.here hx rfl (hb hby at_119) ?_
        show Steps p.tables e below (T19.setTop (mkF m 122 #[.val (.int p1), .val (.int p2), .val (.int p3), .val (.int c0), .val (.int c1), .val (.int c2), .val (.int c3), .val (.int len), .val (.ref b7), .val (.int (if (1 : Int32) < len then (if c1 < (768 : Int32) then (if c0 < (128 : Int32) then (1 : Int32) else (0 : Int32)) else (0 : Int32)) else (if c0 < (128 : Int32) then (1 : Int32) else (0 : Int32)))), .unset] [(.int (768 : Int32)), (.int c2)])) t
        suffices k40 : Steps p.tables e below (T19.setTop (mkF m 128 #[.val (.int p1), .val (.int p2), .val (.int p3), .val (.int c0), .val (.int c1), .val (.int c2), .val (.int c3), .val (.int len), .val (.ref b7), .val (.int (if c2 < (768 : Int32) then (if (1 : Int32) < len then (if c1 < (768 : Int32) then (if c0 < (128 : Int32) then (1 : Int32) else (0 : Int32)) else (0 : Int32)) else (if c0 < (128 : Int32) then (1 : Int32) else (0 : Int32))) else (0 : Int32))), .unset] [])) t by
          by_cases hc122_39 : c2 < (768 : Int32)
          · simp only [if_pos hc122_39] at k40
            refine XS.icmpYes X19.here hx rfl (pc0 := 122) (pc' := 128) rfl (hb hby at_122) rfl (XT.ii_lt_t hc122_39) (by decide) (by decide) ?_
            show Steps p.tables e below (T19.setTop (mkF m 128 #[.val (.int p1), .val (.int p2), .val (.int p3), .val (.int c0), .val (.int c1), .val (.int c2), .val (.int c3), .val (.int len), .val (.ref b7), .val (.int (if (1 : Int32) < len then (if c1 < (768 : Int32) then (if c0 < (128 : Int32) then (1 : Int32) else (0 : Int32)) else (0 : Int32)) else (if c0 < (128 : Int32) then (1 : Int32) else (0 : Int32)))), .unset] [])) t
            exact k40
          · simp only [if_neg hc122_39] at k40
            refine XS.icmpNo X19.here hx rfl (hb hby at_122) rfl (XT.ii_lt_f hc122_39) ?_
            show Steps p.tables e below (T19.setTop (mkF m 125 #[.val (.int p1), .val (.int p2), .val (.int p3), .val (.int c0), .val (.int c1), .val (.int c2), .val (.int c3), .val (.int len), .val (.ref b7), .val (.int (if (1 : Int32) < len then (if c1 < (768 : Int32) then (if c0 < (128 : Int32) then (1 : Int32) else (0 : Int32)) else (0 : Int32)) else (if c0 < (128 : Int32) then (1 : Int32) else (0 : Int32)))), .unset] [])) t
            refine XS.iconst X19.here hx rfl (hb hby at_125) ?_
            show Steps p.tables e below (T19.setTop (mkF m 126 #[.val (.int p1), .val (.int p2), .val (.int p3), .val (.int c0), .val (.int c1), .val (.int c2), .val (.int c3), .val (.int len), .val (.ref b7), .val (.int (if (1 : Int32) < len then (if c1 < (768 : Int32) then (if c0 < (128 : Int32) then (1 : Int32) else (0 : Int32)) else (0 : Int32)) else (if c0 < (128 : Int32) then (1 : Int32) else (0 : Int32)))), .unset] [(.int (0 : Int32))])) t
            refine XS.istore X19.here hx rfl (hb hby at_126) rfl (l' := #[.val (.int p1), .val (.int p2), .val (.int p3), .val (.int c0), .val (.int c1), .val (.int c2), .val (.int c3), .val (.int len), .val (.ref b7), .val (.int (0 : Int32)), .unset]) rfl ?_
            show Steps p.tables e below (T19.setTop (mkF m 128 #[.val (.int p1), .val (.int p2), .val (.int p3), .val (.int c0), .val (.int c1), .val (.int c2), .val (.int c3), .val (.int len), .val (.ref b7), .val (.int (0 : Int32)), .unset] [])) t
            exact k40
        exact k
      · simp only [if_neg hc114_37] at k
        refine XS.icmpYes X19.here hx rfl (pc0 := 114) (pc' := 128) rfl (hb hby at_114) rfl (XT.ii_le_t hc114_37) (by decide) (by decide) ?_
        show Steps p.tables e below (T19.setTop (mkF m 128 #[.val (.int p1), .val (.int p2), .val (.int p3), .val (.int c0), .val (.int c1), .val (.int c2), .val (.int c3), .val (.int len), .val (.ref b7), .val (.int (if (1 : Int32) < len then (if c1 < (768 : Int32) then (if c0 < (128 : Int32) then (1 : Int32) else (0 : Int32)) else (0 : Int32)) else (if c0 < (128 : Int32) then (1 : Int32) else (0 : Int32)))), .unset] [])) t
        exact k)
    have pre43 : ∀ t, Steps p.tables e below (T19.setTop (mkF m 131 #[.val (.int p1), .val (.int p2), .val (.int p3), .val (.int c0), .val (.int c1), .val (.int c2), .val (.int c3), .val (.int len), .val (.ref b7), .val (.int (if (2 : Int32) < len then (if c2 < (768 : Int32) then (if (1 : Int32) < len then (if c1 < (768 : Int32) then (if c0 < (128 : Int32) then (1 : Int32) else (0 : Int32)) else (0 : Int32)) else (if c0 < (128 : Int32) then (1 : Int32) else (0 : Int32))) else (0 : Int32)) else (if (1 : Int32) < len then (if c1 < (768 : Int32) then (if c0 < (128 : Int32) then (1 : Int32) else (0 : Int32)) else (0 : Int32)) else (if c0 < (128 : Int32) then (1 : Int32) else (0 : Int32))))), .unset] [(.int (3 : Int32)), (.int len)])) t → Steps p.tables e below (s₁.setTop (entryFrame m #[(.int p1), (.int p2), (.int p3)] maxLocals)) t := fun t k => pre41 t (by
      show Steps p.tables e below (T19.setTop (mkF m 128 #[.val (.int p1), .val (.int p2), .val (.int p3), .val (.int c0), .val (.int c1), .val (.int c2), .val (.int c3), .val (.int len), .val (.ref b7), .val (.int (if (2 : Int32) < len then (if c2 < (768 : Int32) then (if (1 : Int32) < len then (if c1 < (768 : Int32) then (if c0 < (128 : Int32) then (1 : Int32) else (0 : Int32)) else (0 : Int32)) else (if c0 < (128 : Int32) then (1 : Int32) else (0 : Int32))) else (0 : Int32)) else (if (1 : Int32) < len then (if c1 < (768 : Int32) then (if c0 < (128 : Int32) then (1 : Int32) else (0 : Int32)) else (0 : Int32)) else (if c0 < (128 : Int32) then (1 : Int32) else (0 : Int32))))), .unset] [])) t
      refine XS.iload X19.here hx rfl (hb hby at_128) rfl ?_
      show Steps p.tables e below (T19.setTop (mkF m 130 #[.val (.int p1), .val (.int p2), .val (.int p3), .val (.int c0), .val (.int c1), .val (.int c2), .val (.int c3), .val (.int len), .val (.ref b7), .val (.int (if (2 : Int32) < len then (if c2 < (768 : Int32) then (if (1 : Int32) < len then (if c1 < (768 : Int32) then (if c0 < (128 : Int32) then (1 : Int32) else (0 : Int32)) else (0 : Int32)) else (if c0 < (128 : Int32) then (1 : Int32) else (0 : Int32))) else (0 : Int32)) else (if (1 : Int32) < len then (if c1 < (768 : Int32) then (if c0 < (128 : Int32) then (1 : Int32) else (0 : Int32)) else (0 : Int32)) else (if c0 < (128 : Int32) then (1 : Int32) else (0 : Int32))))), .unset] [(.int len)])) t
      refine XS.iconst X19.here hx rfl (hb hby at_130) ?_
      show Steps p.tables e below (T19.setTop (mkF m 131 #[.val (.int p1), .val (.int p2), .val (.int p3), .val (.int c0), .val (.int c1), .val (.int c2), .val (.int c3), .val (.int len), .val (.ref b7), .val (.int (if (2 : Int32) < len then (if c2 < (768 : Int32) then (if (1 : Int32) < len then (if c1 < (768 : Int32) then (if c0 < (128 : Int32) then (1 : Int32) else (0 : Int32)) else (0 : Int32)) else (if c0 < (128 : Int32) then (1 : Int32) else (0 : Int32))) else (0 : Int32)) else (if (1 : Int32) < len then (if c1 < (768 : Int32) then (if c0 < (128 : Int32) then (1 : Int32) else (0 : Int32)) else (0 : Int32)) else (if c0 < (128 : Int32) then (1 : Int32) else (0 : Int32))))), .unset] [(.int (3 : Int32)), (.int len)])) t
      exact k)
    have pre46 : ∀ t, Steps p.tables e below (T19.setTop (mkF m 145 #[.val (.int p1), .val (.int p2), .val (.int p3), .val (.int c0), .val (.int c1), .val (.int c2), .val (.int c3), .val (.int len), .val (.ref b7), .val (.int (if (3 : Int32) < len then (if c3 < (768 : Int32) then (if (2 : Int32) < len then (if c2 < (768 : Int32) then (if (1 : Int32) < len then (if c1 < (768 : Int32) then (if c0 < (128 : Int32) then (1 : Int32) else (0 : Int32)) else (0 : Int32)) else (if c0 < (128 : Int32) then (1 : Int32) else (0 : Int32))) else (0 : Int32)) else (if (1 : Int32) < len then (if c1 < (768 : Int32) then (if c0 < (128 : Int32) then (1 : Int32) else (0 : Int32)) else (0 : Int32)) else (if c0 < (128 : Int32) then (1 : Int32) else (0 : Int32)))) else (0 : Int32)) else (if (2 : Int32) < len then (if c2 < (768 : Int32) then (if (1 : Int32) < len then (if c1 < (768 : Int32) then (if c0 < (128 : Int32) then (1 : Int32) else (0 : Int32)) else (0 : Int32)) else (if c0 < (128 : Int32) then (1 : Int32) else (0 : Int32))) else (0 : Int32)) else (if (1 : Int32) < len then (if c1 < (768 : Int32) then (if c0 < (128 : Int32) then (1 : Int32) else (0 : Int32)) else (0 : Int32)) else (if c0 < (128 : Int32) then (1 : Int32) else (0 : Int32)))))), .unset] [])) t → Steps p.tables e below (s₁.setTop (entryFrame m #[(.int p1), (.int p2), (.int p3)] maxLocals)) t := fun t k => pre43 t (by
      show Steps p.tables e below (T19.setTop (mkF m 131 #[.val (.int p1), .val (.int p2), .val (.int p3), .val (.int c0), .val (.int c1), .val (.int c2), .val (.int c3), .val (.int len), .val (.ref b7), .val (.int (if (2 : Int32) < len then (if c2 < (768 : Int32) then (if (1 : Int32) < len then (if c1 < (768 : Int32) then (if c0 < (128 : Int32) then (1 : Int32) else (0 : Int32)) else (0 : Int32)) else (if c0 < (128 : Int32) then (1 : Int32) else (0 : Int32))) else (0 : Int32)) else (if (1 : Int32) < len then (if c1 < (768 : Int32) then (if c0 < (128 : Int32) then (1 : Int32) else (0 : Int32)) else (0 : Int32)) else (if c0 < (128 : Int32) then (1 : Int32) else (0 : Int32))))), .unset] [(.int (3 : Int32)), (.int len)])) t
      by_cases hc131_42 : (3 : Int32) < len
      · simp only [if_pos hc131_42] at k
        refine XS.icmpNo X19.here hx rfl (hb hby at_131) rfl (XT.ii_le_f hc131_42) ?_
        show Steps p.tables e below (T19.setTop (mkF m 134 #[.val (.int p1), .val (.int p2), .val (.int p3), .val (.int c0), .val (.int c1), .val (.int c2), .val (.int c3), .val (.int len), .val (.ref b7), .val (.int (if (2 : Int32) < len then (if c2 < (768 : Int32) then (if (1 : Int32) < len then (if c1 < (768 : Int32) then (if c0 < (128 : Int32) then (1 : Int32) else (0 : Int32)) else (0 : Int32)) else (if c0 < (128 : Int32) then (1 : Int32) else (0 : Int32))) else (0 : Int32)) else (if (1 : Int32) < len then (if c1 < (768 : Int32) then (if c0 < (128 : Int32) then (1 : Int32) else (0 : Int32)) else (0 : Int32)) else (if c0 < (128 : Int32) then (1 : Int32) else (0 : Int32))))), .unset] [])) t
        refine XS.iload X19.here hx rfl (hb hby at_134) rfl ?_
        show Steps p.tables e below (T19.setTop (mkF m 136 #[.val (.int p1), .val (.int p2), .val (.int p3), .val (.int c0), .val (.int c1), .val (.int c2), .val (.int c3), .val (.int len), .val (.ref b7), .val (.int (if (2 : Int32) < len then (if c2 < (768 : Int32) then (if (1 : Int32) < len then (if c1 < (768 : Int32) then (if c0 < (128 : Int32) then (1 : Int32) else (0 : Int32)) else (0 : Int32)) else (if c0 < (128 : Int32) then (1 : Int32) else (0 : Int32))) else (0 : Int32)) else (if (1 : Int32) < len then (if c1 < (768 : Int32) then (if c0 < (128 : Int32) then (1 : Int32) else (0 : Int32)) else (0 : Int32)) else (if c0 < (128 : Int32) then (1 : Int32) else (0 : Int32))))), .unset] [(.int c3)])) t
        refine XS.sipush X19.here hx rfl (hb hby at_136) ?_
        show Steps p.tables e below (T19.setTop (mkF m 139 #[.val (.int p1), .val (.int p2), .val (.int p3), .val (.int c0), .val (.int c1), .val (.int c2), .val (.int c3), .val (.int len), .val (.ref b7), .val (.int (if (2 : Int32) < len then (if c2 < (768 : Int32) then (if (1 : Int32) < len then (if c1 < (768 : Int32) then (if c0 < (128 : Int32) then (1 : Int32) else (0 : Int32)) else (0 : Int32)) else (if c0 < (128 : Int32) then (1 : Int32) else (0 : Int32))) else (0 : Int32)) else (if (1 : Int32) < len then (if c1 < (768 : Int32) then (if c0 < (128 : Int32) then (1 : Int32) else (0 : Int32)) else (0 : Int32)) else (if c0 < (128 : Int32) then (1 : Int32) else (0 : Int32))))), .unset] [(.int (768 : Int32)), (.int c3)])) t
        suffices k45 : Steps p.tables e below (T19.setTop (mkF m 145 #[.val (.int p1), .val (.int p2), .val (.int p3), .val (.int c0), .val (.int c1), .val (.int c2), .val (.int c3), .val (.int len), .val (.ref b7), .val (.int (if c3 < (768 : Int32) then (if (2 : Int32) < len then (if c2 < (768 : Int32) then (if (1 : Int32) < len then (if c1 < (768 : Int32) then (if c0 < (128 : Int32) then (1 : Int32) else (0 : Int32)) else (0 : Int32)) else (if c0 < (128 : Int32) then (1 : Int32) else (0 : Int32))) else (0 : Int32)) else (if (1 : Int32) < len then (if c1 < (768 : Int32) then (if c0 < (128 : Int32) then (1 : Int32) else (0 : Int32)) else (0 : Int32)) else (if c0 < (128 : Int32) then (1 : Int32) else (0 : Int32)))) else (0 : Int32))), .unset] [])) t by
          by_cases hc139_44 : c3 < (768 : Int32)
          · simp only [if_pos hc139_44] at k45
            refine XS.icmpYes X19.here hx rfl (pc0 := 139) (pc' := 145) rfl (hb hby at_139) rfl (XT.ii_lt_t hc139_44) (by decide) (by decide) ?_
            show Steps p.tables e below (T19.setTop (mkF m 145 #[.val (.int p1), .val (.int p2), .val (.int p3), .val (.int c0), .val (.int c1), .val (.int c2), .val (.int c3), .val (.int len), .val (.ref b7), .val (.int (if (2 : Int32) < len then (if c2 < (768 : Int32) then (if (1 : Int32) < len then (if c1 < (768 : Int32) then (if c0 < (128 : Int32) then (1 : Int32) else (0 : Int32)) else (0 : Int32)) else (if c0 < (128 : Int32) then (1 : Int32) else (0 : Int32))) else (0 : Int32)) else (if (1 : Int32) < len then (if c1 < (768 : Int32) then (if c0 < (128 : Int32) then (1 : Int32) else (0 : Int32)) else (0 : Int32)) else (if c0 < (128 : Int32) then (1 : Int32) else (0 : Int32))))), .unset] [])) t
            exact k45
          · simp only [if_neg hc139_44] at k45
            refine XS.icmpNo X19.here hx rfl (hb hby at_139) rfl (XT.ii_lt_f hc139_44) ?_
            show Steps p.tables e below (T19.setTop (mkF m 142 #[.val (.int p1), .val (.int p2), .val (.int p3), .val (.int c0), .val (.int c1), .val (.int c2), .val (.int c3), .val (.int len), .val (.ref b7), .val (.int (if (2 : Int32) < len then (if c2 < (768 : Int32) then (if (1 : Int32) < len then (if c1 < (768 : Int32) then (if c0 < (128 : Int32) then (1 : Int32) else (0 : Int32)) else (0 : Int32)) else (if c0 < (128 : Int32) then (1 : Int32) else (0 : Int32))) else (0 : Int32)) else (if (1 : Int32) < len then (if c1 < (768 : Int32) then (if c0 < (128 : Int32) then (1 : Int32) else (0 : Int32)) else (0 : Int32)) else (if c0 < (128 : Int32) then (1 : Int32) else (0 : Int32))))), .unset] [])) t
            refine XS.iconst X19.here hx rfl (hb hby at_142) ?_
            show Steps p.tables e below (T19.setTop (mkF m 143 #[.val (.int p1), .val (.int p2), .val (.int p3), .val (.int c0), .val (.int c1), .val (.int c2), .val (.int c3), .val (.int len), .val (.ref b7), .val (.int (if (2 : Int32) < len then (if c2 < (768 : Int32) then (if (1 : Int32) < len then (if c1 < (768 : Int32) then (if c0 < (128 : Int32) then (1 : Int32) else (0 : Int32)) else (0 : Int32)) else (if c0 < (128 : Int32) then (1 : Int32) else (0 : Int32))) else (0 : Int32)) else (if (1 : Int32) < len then (if c1 < (768 : Int32) then (if c0 < (128 : Int32) then (1 : Int32) else (0 : Int32)) else (0 : Int32)) else (if c0 < (128 : Int32) then (1 : Int32) else (0 : Int32))))), .unset] [(.int (0 : Int32))])) t
            refine XS.istore X19.here hx rfl (hb hby at_143) rfl (l' := #[.val (.int p1), .val (.int p2), .val (.int p3), .val (.int c0), .val (.int c1), .val (.int c2), .val (.int c3), .val (.int len), .val (.ref b7), .val (.int (0 : Int32)), .unset]) rfl ?_
            show Steps p.tables e below (T19.setTop (mkF m 145 #[.val (.int p1), .val (.int p2), .val (.int p3), .val (.int c0), .val (.int c1), .val (.int c2), .val (.int c3), .val (.int len), .val (.ref b7), .val (.int (0 : Int32)), .unset] [])) t
            exact k45
        exact k
      · simp only [if_neg hc131_42] at k
        refine XS.icmpYes X19.here hx rfl (pc0 := 131) (pc' := 145) rfl (hb hby at_131) rfl (XT.ii_le_t hc131_42) (by decide) (by decide) ?_
        show Steps p.tables e below (T19.setTop (mkF m 145 #[.val (.int p1), .val (.int p2), .val (.int p3), .val (.int c0), .val (.int c1), .val (.int c2), .val (.int c3), .val (.int len), .val (.ref b7), .val (.int (if (2 : Int32) < len then (if c2 < (768 : Int32) then (if (1 : Int32) < len then (if c1 < (768 : Int32) then (if c0 < (128 : Int32) then (1 : Int32) else (0 : Int32)) else (0 : Int32)) else (if c0 < (128 : Int32) then (1 : Int32) else (0 : Int32))) else (0 : Int32)) else (if (1 : Int32) < len then (if c1 < (768 : Int32) then (if c0 < (128 : Int32) then (1 : Int32) else (0 : Int32)) else (0 : Int32)) else (if c0 < (128 : Int32) then (1 : Int32) else (0 : Int32))))), .unset] [])) t
        exact k)
    have pre47 : ∀ t, Steps p.tables e below (T19.setTop (mkF m 149 #[.val (.int p1), .val (.int p2), .val (.int p3), .val (.int c0), .val (.int c1), .val (.int c2), .val (.int c3), .val (.int len), .val (.ref b7), .val (.int (if (3 : Int32) < len then (if c3 < (768 : Int32) then (if (2 : Int32) < len then (if c2 < (768 : Int32) then (if (1 : Int32) < len then (if c1 < (768 : Int32) then (if c0 < (128 : Int32) then (1 : Int32) else (0 : Int32)) else (0 : Int32)) else (if c0 < (128 : Int32) then (1 : Int32) else (0 : Int32))) else (0 : Int32)) else (if (1 : Int32) < len then (if c1 < (768 : Int32) then (if c0 < (128 : Int32) then (1 : Int32) else (0 : Int32)) else (0 : Int32)) else (if c0 < (128 : Int32) then (1 : Int32) else (0 : Int32)))) else (0 : Int32)) else (if (2 : Int32) < len then (if c2 < (768 : Int32) then (if (1 : Int32) < len then (if c1 < (768 : Int32) then (if c0 < (128 : Int32) then (1 : Int32) else (0 : Int32)) else (0 : Int32)) else (if c0 < (128 : Int32) then (1 : Int32) else (0 : Int32))) else (0 : Int32)) else (if (1 : Int32) < len then (if c1 < (768 : Int32) then (if c0 < (128 : Int32) then (1 : Int32) else (0 : Int32)) else (0 : Int32)) else (if c0 < (128 : Int32) then (1 : Int32) else (0 : Int32)))))), .unset] [(.int len), (.ref b7)])) t → Steps p.tables e below (s₁.setTop (entryFrame m #[(.int p1), (.int p2), (.int p3)] maxLocals)) t := fun t k => pre46 t (by
      show Steps p.tables e below (T19.setTop (mkF m 145 #[.val (.int p1), .val (.int p2), .val (.int p3), .val (.int c0), .val (.int c1), .val (.int c2), .val (.int c3), .val (.int len), .val (.ref b7), .val (.int (if (3 : Int32) < len then (if c3 < (768 : Int32) then (if (2 : Int32) < len then (if c2 < (768 : Int32) then (if (1 : Int32) < len then (if c1 < (768 : Int32) then (if c0 < (128 : Int32) then (1 : Int32) else (0 : Int32)) else (0 : Int32)) else (if c0 < (128 : Int32) then (1 : Int32) else (0 : Int32))) else (0 : Int32)) else (if (1 : Int32) < len then (if c1 < (768 : Int32) then (if c0 < (128 : Int32) then (1 : Int32) else (0 : Int32)) else (0 : Int32)) else (if c0 < (128 : Int32) then (1 : Int32) else (0 : Int32)))) else (0 : Int32)) else (if (2 : Int32) < len then (if c2 < (768 : Int32) then (if (1 : Int32) < len then (if c1 < (768 : Int32) then (if c0 < (128 : Int32) then (1 : Int32) else (0 : Int32)) else (0 : Int32)) else (if c0 < (128 : Int32) then (1 : Int32) else (0 : Int32))) else (0 : Int32)) else (if (1 : Int32) < len then (if c1 < (768 : Int32) then (if c0 < (128 : Int32) then (1 : Int32) else (0 : Int32)) else (0 : Int32)) else (if c0 < (128 : Int32) then (1 : Int32) else (0 : Int32)))))), .unset] [])) t
      refine XS.aload X19.here hx rfl (hb hby at_145) rfl rfl ?_
      show Steps p.tables e below (T19.setTop (mkF m 147 #[.val (.int p1), .val (.int p2), .val (.int p3), .val (.int c0), .val (.int c1), .val (.int c2), .val (.int c3), .val (.int len), .val (.ref b7), .val (.int (if (3 : Int32) < len then (if c3 < (768 : Int32) then (if (2 : Int32) < len then (if c2 < (768 : Int32) then (if (1 : Int32) < len then (if c1 < (768 : Int32) then (if c0 < (128 : Int32) then (1 : Int32) else (0 : Int32)) else (0 : Int32)) else (if c0 < (128 : Int32) then (1 : Int32) else (0 : Int32))) else (0 : Int32)) else (if (1 : Int32) < len then (if c1 < (768 : Int32) then (if c0 < (128 : Int32) then (1 : Int32) else (0 : Int32)) else (0 : Int32)) else (if c0 < (128 : Int32) then (1 : Int32) else (0 : Int32)))) else (0 : Int32)) else (if (2 : Int32) < len then (if c2 < (768 : Int32) then (if (1 : Int32) < len then (if c1 < (768 : Int32) then (if c0 < (128 : Int32) then (1 : Int32) else (0 : Int32)) else (0 : Int32)) else (if c0 < (128 : Int32) then (1 : Int32) else (0 : Int32))) else (0 : Int32)) else (if (1 : Int32) < len then (if c1 < (768 : Int32) then (if c0 < (128 : Int32) then (1 : Int32) else (0 : Int32)) else (0 : Int32)) else (if c0 < (128 : Int32) then (1 : Int32) else (0 : Int32)))))), .unset] [(.ref b7)])) t
      refine XS.iload X19.here hx rfl (hb hby at_147) rfl ?_
      show Steps p.tables e below (T19.setTop (mkF m 149 #[.val (.int p1), .val (.int p2), .val (.int p3), .val (.int c0), .val (.int c1), .val (.int c2), .val (.int c3), .val (.int len), .val (.ref b7), .val (.int (if (3 : Int32) < len then (if c3 < (768 : Int32) then (if (2 : Int32) < len then (if c2 < (768 : Int32) then (if (1 : Int32) < len then (if c1 < (768 : Int32) then (if c0 < (128 : Int32) then (1 : Int32) else (0 : Int32)) else (0 : Int32)) else (if c0 < (128 : Int32) then (1 : Int32) else (0 : Int32))) else (0 : Int32)) else (if (1 : Int32) < len then (if c1 < (768 : Int32) then (if c0 < (128 : Int32) then (1 : Int32) else (0 : Int32)) else (0 : Int32)) else (if c0 < (128 : Int32) then (1 : Int32) else (0 : Int32)))) else (0 : Int32)) else (if (2 : Int32) < len then (if c2 < (768 : Int32) then (if (1 : Int32) < len then (if c1 < (768 : Int32) then (if c0 < (128 : Int32) then (1 : Int32) else (0 : Int32)) else (0 : Int32)) else (if c0 < (128 : Int32) then (1 : Int32) else (0 : Int32))) else (0 : Int32)) else (if (1 : Int32) < len then (if c1 < (768 : Int32) then (if c0 < (128 : Int32) then (1 : Int32) else (0 : Int32)) else (0 : Int32)) else (if c0 < (128 : Int32) then (1 : Int32) else (0 : Int32)))))), .unset] [(.int len), (.ref b7)])) t
      exact k)
    obtain ⟨_, _, ⟨T48, L48, k48, n48⟩, -, X48, ⟨Lc48, hQ48, l48, y48, z48⟩, st48⟩ := Jvm.LawKit.callS X19 hx (y := (⟨"com/example/interlace/interlace/core/ItemName", "isPlain", "([CI)Z"⟩ : MethodName)) hown (mvT hZ (hw _ (List.mem_of_getElem? (i := 3) rfl))) (mvT hZ (hw _ (List.mem_of_getElem? (i := 4) rfl))) (mvT hZ (hw _ (List.mem_of_getElem? (i := 5) rfl))) (mvT hZ (hw _ (List.mem_of_getElem? (i := 6) rfl))) (by decide) (backOf (W := 0) (rm1 l Z a0 hw [] b7 len k7 (nar .char c0) (nar .char c1) (nar .char c2) (nar .char c3) h19 n0 sz19 V_b7__19 (show ¬ (4 : Int32) < len from hl4)) hZ (hw _ (List.mem_of_getElem? (i := 6) rfl)) (hw _ (List.mem_of_getElem? (i := 5) rfl)) (by decide) (by decide)) (g := (mkF m 149 #[.val (.int p1), .val (.int p2), .val (.int p3), .val (.int c0), .val (.int c1), .val (.int c2), .val (.int c3), .val (.int len), .val (.ref b7), .val (.int (if (3 : Int32) < len then (if c3 < (768 : Int32) then (if (2 : Int32) < len then (if c2 < (768 : Int32) then (if (1 : Int32) < len then (if c1 < (768 : Int32) then (if c0 < (128 : Int32) then (1 : Int32) else (0 : Int32)) else (0 : Int32)) else (if c0 < (128 : Int32) then (1 : Int32) else (0 : Int32))) else (0 : Int32)) else (if (1 : Int32) < len then (if c1 < (768 : Int32) then (if c0 < (128 : Int32) then (1 : Int32) else (0 : Int32)) else (0 : Int32)) else (if c0 < (128 : Int32) then (1 : Int32) else (0 : Int32)))) else (0 : Int32)) else (if (2 : Int32) < len then (if c2 < (768 : Int32) then (if (1 : Int32) < len then (if c1 < (768 : Int32) then (if c0 < (128 : Int32) then (1 : Int32) else (0 : Int32)) else (0 : Int32)) else (if c0 < (128 : Int32) then (1 : Int32) else (0 : Int32))) else (0 : Int32)) else (if (1 : Int32) < len then (if c1 < (768 : Int32) then (if c0 < (128 : Int32) then (1 : Int32) else (0 : Int32)) else (0 : Int32)) else (if c0 < (128 : Int32) then (1 : Int32) else (0 : Int32)))))), .unset] [(.int len), (.ref b7)])) rfl (by rw [hml]; rfl) (argsL := [(.ref b7), (.int len)]) (rest := []) (lenOf pd_oaCIcZ rfl) rfl (by show 2 * 0 + _ ≤ _; exact Nat.le_of_eq rfl) (hb hby at_149) (fun _ _ => ⟨rfl, eh19, (by decide : 1 + 0 ≤ _), (by decide : 4 + 0 ≤ _)⟩)
    dsimp only [Pt.U, Pt.locs, Pt.cells, Pt.slots] at X48 l48 y48 z48 st48 hQ48
    subst l48 y48 z48
    obtain ⟨rfl, N48q, eh48⟩ := hQ48
    have N48 := Fr.app N19 N48q
    have pre49 : ∀ t, Steps p.tables e below (T48.setTop (mkF m 152 #[.val (.int p1), .val (.int p2), .val (.int p3), .val (.int c0), .val (.int c1), .val (.int c2), .val (.int c3), .val (.int len), .val (.ref b7), .val (.int (if (3 : Int32) < len then (if c3 < (768 : Int32) then (if (2 : Int32) < len then (if c2 < (768 : Int32) then (if (1 : Int32) < len then (if c1 < (768 : Int32) then (if c0 < (128 : Int32) then (1 : Int32) else (0 : Int32)) else (0 : Int32)) else (if c0 < (128 : Int32) then (1 : Int32) else (0 : Int32))) else (0 : Int32)) else (if (1 : Int32) < len then (if c1 < (768 : Int32) then (if c0 < (128 : Int32) then (1 : Int32) else (0 : Int32)) else (0 : Int32)) else (if c0 < (128 : Int32) then (1 : Int32) else (0 : Int32)))) else (0 : Int32)) else (if (2 : Int32) < len then (if c2 < (768 : Int32) then (if (1 : Int32) < len then (if c1 < (768 : Int32) then (if c0 < (128 : Int32) then (1 : Int32) else (0 : Int32)) else (0 : Int32)) else (if c0 < (128 : Int32) then (1 : Int32) else (0 : Int32))) else (0 : Int32)) else (if (1 : Int32) < len then (if c1 < (768 : Int32) then (if c0 < (128 : Int32) then (1 : Int32) else (0 : Int32)) else (0 : Int32)) else (if c0 < (128 : Int32) then (1 : Int32) else (0 : Int32)))))), .unset] [(.int (own_pl (nar .char c0) (nar .char c1) (nar .char c2) (nar .char c3) len))])) t → Steps p.tables e below (s₁.setTop (entryFrame m #[(.int p1), (.int p2), (.int p3)] maxLocals)) t := fun t k => pre47 t (st48 _ k)
    have pre52 : ∀ t, Steps p.tables e below (T48.setTop (mkF m 166 #[.val (.int p1), .val (.int p2), .val (.int p3), .val (.int c0), .val (.int c1), .val (.int c2), .val (.int c3), .val (.int len), .val (.ref b7), .val (.int (if (3 : Int32) < len then (if c3 < (768 : Int32) then (if (2 : Int32) < len then (if c2 < (768 : Int32) then (if (1 : Int32) < len then (if c1 < (768 : Int32) then (if c0 < (128 : Int32) then (1 : Int32) else (0 : Int32)) else (0 : Int32)) else (if c0 < (128 : Int32) then (1 : Int32) else (0 : Int32))) else (0 : Int32)) else (if (1 : Int32) < len then (if c1 < (768 : Int32) then (if c0 < (128 : Int32) then (1 : Int32) else (0 : Int32)) else (0 : Int32)) else (if c0 < (128 : Int32) then (1 : Int32) else (0 : Int32)))) else (0 : Int32)) else (if (2 : Int32) < len then (if c2 < (768 : Int32) then (if (1 : Int32) < len then (if c1 < (768 : Int32) then (if c0 < (128 : Int32) then (1 : Int32) else (0 : Int32)) else (0 : Int32)) else (if c0 < (128 : Int32) then (1 : Int32) else (0 : Int32))) else (0 : Int32)) else (if (1 : Int32) < len then (if c1 < (768 : Int32) then (if c0 < (128 : Int32) then (1 : Int32) else (0 : Int32)) else (0 : Int32)) else (if c0 < (128 : Int32) then (1 : Int32) else (0 : Int32)))))), .val (.int (own_pl (nar .char c0) (nar .char c1) (nar .char c2) (nar .char c3) len))] [(.int (1 : Int32))])) t → Steps p.tables e below (s₁.setTop (entryFrame m #[(.int p1), (.int p2), (.int p3)] maxLocals)) t := fun t k => pre49 t (by
      show Steps p.tables e below (T48.setTop (mkF m 152 #[.val (.int p1), .val (.int p2), .val (.int p3), .val (.int c0), .val (.int c1), .val (.int c2), .val (.int c3), .val (.int len), .val (.ref b7), .val (.int (if (3 : Int32) < len then (if c3 < (768 : Int32) then (if (2 : Int32) < len then (if c2 < (768 : Int32) then (if (1 : Int32) < len then (if c1 < (768 : Int32) then (if c0 < (128 : Int32) then (1 : Int32) else (0 : Int32)) else (0 : Int32)) else (if c0 < (128 : Int32) then (1 : Int32) else (0 : Int32))) else (0 : Int32)) else (if (1 : Int32) < len then (if c1 < (768 : Int32) then (if c0 < (128 : Int32) then (1 : Int32) else (0 : Int32)) else (0 : Int32)) else (if c0 < (128 : Int32) then (1 : Int32) else (0 : Int32)))) else (0 : Int32)) else (if (2 : Int32) < len then (if c2 < (768 : Int32) then (if (1 : Int32) < len then (if c1 < (768 : Int32) then (if c0 < (128 : Int32) then (1 : Int32) else (0 : Int32)) else (0 : Int32)) else (if c0 < (128 : Int32) then (1 : Int32) else (0 : Int32))) else (0 : Int32)) else (if (1 : Int32) < len then (if c1 < (768 : Int32) then (if c0 < (128 : Int32) then (1 : Int32) else (0 : Int32)) else (0 : Int32)) else (if c0 < (128 : Int32) then (1 : Int32) else (0 : Int32)))))), .unset] [(.int (own_pl (nar .char c0) (nar .char c1) (nar .char c2) (nar .char c3) len))])) t
      refine XS.istore X48.here hx rfl (hb hby at_152) rfl (l' := #[.val (.int p1), .val (.int p2), .val (.int p3), .val (.int c0), .val (.int c1), .val (.int c2), .val (.int c3), .val (.int len), .val (.ref b7), .val (.int (if (3 : Int32) < len then (if c3 < (768 : Int32) then (if (2 : Int32) < len then (if c2 < (768 : Int32) then (if (1 : Int32) < len then (if c1 < (768 : Int32) then (if c0 < (128 : Int32) then (1 : Int32) else (0 : Int32)) else (0 : Int32)) else (if c0 < (128 : Int32) then (1 : Int32) else (0 : Int32))) else (0 : Int32)) else (if (1 : Int32) < len then (if c1 < (768 : Int32) then (if c0 < (128 : Int32) then (1 : Int32) else (0 : Int32)) else (0 : Int32)) else (if c0 < (128 : Int32) then (1 : Int32) else (0 : Int32)))) else (0 : Int32)) else (if (2 : Int32) < len then (if c2 < (768 : Int32) then (if (1 : Int32) < len then (if c1 < (768 : Int32) then (if c0 < (128 : Int32) then (1 : Int32) else (0 : Int32)) else (0 : Int32)) else (if c0 < (128 : Int32) then (1 : Int32) else (0 : Int32))) else (0 : Int32)) else (if (1 : Int32) < len then (if c1 < (768 : Int32) then (if c0 < (128 : Int32) then (1 : Int32) else (0 : Int32)) else (0 : Int32)) else (if c0 < (128 : Int32) then (1 : Int32) else (0 : Int32)))))), .val (.int (own_pl (nar .char c0) (nar .char c1) (nar .char c2) (nar .char c3) len))]) rfl ?_
      show Steps p.tables e below (T48.setTop (mkF m 154 #[.val (.int p1), .val (.int p2), .val (.int p3), .val (.int c0), .val (.int c1), .val (.int c2), .val (.int c3), .val (.int len), .val (.ref b7), .val (.int (if (3 : Int32) < len then (if c3 < (768 : Int32) then (if (2 : Int32) < len then (if c2 < (768 : Int32) then (if (1 : Int32) < len then (if c1 < (768 : Int32) then (if c0 < (128 : Int32) then (1 : Int32) else (0 : Int32)) else (0 : Int32)) else (if c0 < (128 : Int32) then (1 : Int32) else (0 : Int32))) else (0 : Int32)) else (if (1 : Int32) < len then (if c1 < (768 : Int32) then (if c0 < (128 : Int32) then (1 : Int32) else (0 : Int32)) else (0 : Int32)) else (if c0 < (128 : Int32) then (1 : Int32) else (0 : Int32)))) else (0 : Int32)) else (if (2 : Int32) < len then (if c2 < (768 : Int32) then (if (1 : Int32) < len then (if c1 < (768 : Int32) then (if c0 < (128 : Int32) then (1 : Int32) else (0 : Int32)) else (0 : Int32)) else (if c0 < (128 : Int32) then (1 : Int32) else (0 : Int32))) else (0 : Int32)) else (if (1 : Int32) < len then (if c1 < (768 : Int32) then (if c0 < (128 : Int32) then (1 : Int32) else (0 : Int32)) else (0 : Int32)) else (if c0 < (128 : Int32) then (1 : Int32) else (0 : Int32)))))), .val (.int (own_pl (nar .char c0) (nar .char c1) (nar .char c2) (nar .char c3) len))] [])) t
      refine XS.iload X48.here hx rfl (hb hby at_154) rfl ?_
      show Steps p.tables e below (T48.setTop (mkF m 156 #[.val (.int p1), .val (.int p2), .val (.int p3), .val (.int c0), .val (.int c1), .val (.int c2), .val (.int c3), .val (.int len), .val (.ref b7), .val (.int (if (3 : Int32) < len then (if c3 < (768 : Int32) then (if (2 : Int32) < len then (if c2 < (768 : Int32) then (if (1 : Int32) < len then (if c1 < (768 : Int32) then (if c0 < (128 : Int32) then (1 : Int32) else (0 : Int32)) else (0 : Int32)) else (if c0 < (128 : Int32) then (1 : Int32) else (0 : Int32))) else (0 : Int32)) else (if (1 : Int32) < len then (if c1 < (768 : Int32) then (if c0 < (128 : Int32) then (1 : Int32) else (0 : Int32)) else (0 : Int32)) else (if c0 < (128 : Int32) then (1 : Int32) else (0 : Int32)))) else (0 : Int32)) else (if (2 : Int32) < len then (if c2 < (768 : Int32) then (if (1 : Int32) < len then (if c1 < (768 : Int32) then (if c0 < (128 : Int32) then (1 : Int32) else (0 : Int32)) else (0 : Int32)) else (if c0 < (128 : Int32) then (1 : Int32) else (0 : Int32))) else (0 : Int32)) else (if (1 : Int32) < len then (if c1 < (768 : Int32) then (if c0 < (128 : Int32) then (1 : Int32) else (0 : Int32)) else (0 : Int32)) else (if c0 < (128 : Int32) then (1 : Int32) else (0 : Int32)))))), .val (.int (own_pl (nar .char c0) (nar .char c1) (nar .char c2) (nar .char c3) len))] [(.int (own_pl (nar .char c0) (nar .char c1) (nar .char c2) (nar .char c3) len))])) t
      refine XS.iload X48.here hx rfl (hb hby at_156) rfl ?_
      show Steps p.tables e below (T48.setTop (mkF m 158 #[.val (.int p1), .val (.int p2), .val (.int p3), .val (.int c0), .val (.int c1), .val (.int c2), .val (.int c3), .val (.int len), .val (.ref b7), .val (.int (if (3 : Int32) < len then (if c3 < (768 : Int32) then (if (2 : Int32) < len then (if c2 < (768 : Int32) then (if (1 : Int32) < len then (if c1 < (768 : Int32) then (if c0 < (128 : Int32) then (1 : Int32) else (0 : Int32)) else (0 : Int32)) else (if c0 < (128 : Int32) then (1 : Int32) else (0 : Int32))) else (0 : Int32)) else (if (1 : Int32) < len then (if c1 < (768 : Int32) then (if c0 < (128 : Int32) then (1 : Int32) else (0 : Int32)) else (0 : Int32)) else (if c0 < (128 : Int32) then (1 : Int32) else (0 : Int32)))) else (0 : Int32)) else (if (2 : Int32) < len then (if c2 < (768 : Int32) then (if (1 : Int32) < len then (if c1 < (768 : Int32) then (if c0 < (128 : Int32) then (1 : Int32) else (0 : Int32)) else (0 : Int32)) else (if c0 < (128 : Int32) then (1 : Int32) else (0 : Int32))) else (0 : Int32)) else (if (1 : Int32) < len then (if c1 < (768 : Int32) then (if c0 < (128 : Int32) then (1 : Int32) else (0 : Int32)) else (0 : Int32)) else (if c0 < (128 : Int32) then (1 : Int32) else (0 : Int32)))))), .val (.int (own_pl (nar .char c0) (nar .char c1) (nar .char c2) (nar .char c3) len))] [(.int (if (3 : Int32) < len then (if c3 < (768 : Int32) then (if (2 : Int32) < len then (if c2 < (768 : Int32) then (if (1 : Int32) < len then (if c1 < (768 : Int32) then (if c0 < (128 : Int32) then (1 : Int32) else (0 : Int32)) else (0 : Int32)) else (if c0 < (128 : Int32) then (1 : Int32) else (0 : Int32))) else (0 : Int32)) else (if (1 : Int32) < len then (if c1 < (768 : Int32) then (if c0 < (128 : Int32) then (1 : Int32) else (0 : Int32)) else (0 : Int32)) else (if c0 < (128 : Int32) then (1 : Int32) else (0 : Int32)))) else (0 : Int32)) else (if (2 : Int32) < len then (if c2 < (768 : Int32) then (if (1 : Int32) < len then (if c1 < (768 : Int32) then (if c0 < (128 : Int32) then (1 : Int32) else (0 : Int32)) else (0 : Int32)) else (if c0 < (128 : Int32) then (1 : Int32) else (0 : Int32))) else (0 : Int32)) else (if (1 : Int32) < len then (if c1 < (768 : Int32) then (if c0 < (128 : Int32) then (1 : Int32) else (0 : Int32)) else (0 : Int32)) else (if c0 < (128 : Int32) then (1 : Int32) else (0 : Int32)))))), (.int (own_pl (nar .char c0) (nar .char c1) (nar .char c2) (nar .char c3) len))])) t
      refine XS.icmpNo X48.here hx rfl (hb hby at_158) rfl (XT.ii_ne_f (show (own_pl (nar .char c0) (nar .char c1) (nar .char c2) (nar .char c3) len) = (if (3 : Int32) < len then (if c3 < (768 : Int32) then (if (2 : Int32) < len then (if c2 < (768 : Int32) then (if (1 : Int32) < len then (if c1 < (768 : Int32) then (if c0 < (128 : Int32) then (1 : Int32) else (0 : Int32)) else (0 : Int32)) else (if c0 < (128 : Int32) then (1 : Int32) else (0 : Int32))) else (0 : Int32)) else (if (1 : Int32) < len then (if c1 < (768 : Int32) then (if c0 < (128 : Int32) then (1 : Int32) else (0 : Int32)) else (0 : Int32)) else (if c0 < (128 : Int32) then (1 : Int32) else (0 : Int32)))) else (0 : Int32)) else (if (2 : Int32) < len then (if c2 < (768 : Int32) then (if (1 : Int32) < len then (if c1 < (768 : Int32) then (if c0 < (128 : Int32) then (1 : Int32) else (0 : Int32)) else (0 : Int32)) else (if c0 < (128 : Int32) then (1 : Int32) else (0 : Int32))) else (0 : Int32)) else (if (1 : Int32) < len then (if c1 < (768 : Int32) then (if c0 < (128 : Int32) then (1 : Int32) else (0 : Int32)) else (0 : Int32)) else (if c0 < (128 : Int32) then (1 : Int32) else (0 : Int32))))) from own_fin50 _ _ _ _ _ (by rw [h_c0]; exact own_nar _) (by rw [h_c1]; exact own_nar _) (by rw [h_c2]; exact own_nar _) (by rw [h_c3]; exact own_nar _) hc71_21 hl4 hl0)) ?_
      show Steps p.tables e below (T48.setTop (mkF m 161 #[.val (.int p1), .val (.int p2), .val (.int p3), .val (.int c0), .val (.int c1), .val (.int c2), .val (.int c3), .val (.int len), .val (.ref b7), .val (.int (if (3 : Int32) < len then (if c3 < (768 : Int32) then (if (2 : Int32) < len then (if c2 < (768 : Int32) then (if (1 : Int32) < len then (if c1 < (768 : Int32) then (if c0 < (128 : Int32) then (1 : Int32) else (0 : Int32)) else (0 : Int32)) else (if c0 < (128 : Int32) then (1 : Int32) else (0 : Int32))) else (0 : Int32)) else (if (1 : Int32) < len then (if c1 < (768 : Int32) then (if c0 < (128 : Int32) then (1 : Int32) else (0 : Int32)) else (0 : Int32)) else (if c0 < (128 : Int32) then (1 : Int32) else (0 : Int32)))) else (0 : Int32)) else (if (2 : Int32) < len then (if c2 < (768 : Int32) then (if (1 : Int32) < len then (if c1 < (768 : Int32) then (if c0 < (128 : Int32) then (1 : Int32) else (0 : Int32)) else (0 : Int32)) else (if c0 < (128 : Int32) then (1 : Int32) else (0 : Int32))) else (0 : Int32)) else (if (1 : Int32) < len then (if c1 < (768 : Int32) then (if c0 < (128 : Int32) then (1 : Int32) else (0 : Int32)) else (0 : Int32)) else (if c0 < (128 : Int32) then (1 : Int32) else (0 : Int32)))))), .val (.int (own_pl (nar .char c0) (nar .char c1) (nar .char c2) (nar .char c3) len))] [])) t
      refine XS.iconst X48.here hx rfl (hb hby at_161) ?_
      show Steps p.tables e below (T48.setTop (mkF m 162 #[.val (.int p1), .val (.int p2), .val (.int p3), .val (.int c0), .val (.int c1), .val (.int c2), .val (.int c3), .val (.int len), .val (.ref b7), .val (.int (if (3 : Int32) < len then (if c3 < (768 : Int32) then (if (2 : Int32) < len then (if c2 < (768 : Int32) then (if (1 : Int32) < len then (if c1 < (768 : Int32) then (if c0 < (128 : Int32) then (1 : Int32) else (0 : Int32)) else (0 : Int32)) else (if c0 < (128 : Int32) then (1 : Int32) else (0 : Int32))) else (0 : Int32)) else (if (1 : Int32) < len then (if c1 < (768 : Int32) then (if c0 < (128 : Int32) then (1 : Int32) else (0 : Int32)) else (0 : Int32)) else (if c0 < (128 : Int32) then (1 : Int32) else (0 : Int32)))) else (0 : Int32)) else (if (2 : Int32) < len then (if c2 < (768 : Int32) then (if (1 : Int32) < len then (if c1 < (768 : Int32) then (if c0 < (128 : Int32) then (1 : Int32) else (0 : Int32)) else (0 : Int32)) else (if c0 < (128 : Int32) then (1 : Int32) else (0 : Int32))) else (0 : Int32)) else (if (1 : Int32) < len then (if c1 < (768 : Int32) then (if c0 < (128 : Int32) then (1 : Int32) else (0 : Int32)) else (0 : Int32)) else (if c0 < (128 : Int32) then (1 : Int32) else (0 : Int32)))))), .val (.int (own_pl (nar .char c0) (nar .char c1) (nar .char c2) (nar .char c3) len))] [(.int (1 : Int32))])) t
      refine XS.goto X48.here hx rfl (pc0 := 162) (pc' := 166) rfl (hb hby at_162) (by decide) (by decide) ?_
      show Steps p.tables e below (T48.setTop (mkF m 166 #[.val (.int p1), .val (.int p2), .val (.int p3), .val (.int c0), .val (.int c1), .val (.int c2), .val (.int c3), .val (.int len), .val (.ref b7), .val (.int (if (3 : Int32) < len then (if c3 < (768 : Int32) then (if (2 : Int32) < len then (if c2 < (768 : Int32) then (if (1 : Int32) < len then (if c1 < (768 : Int32) then (if c0 < (128 : Int32) then (1 : Int32) else (0 : Int32)) else (0 : Int32)) else (if c0 < (128 : Int32) then (1 : Int32) else (0 : Int32))) else (0 : Int32)) else (if (1 : Int32) < len then (if c1 < (768 : Int32) then (if c0 < (128 : Int32) then (1 : Int32) else (0 : Int32)) else (0 : Int32)) else (if c0 < (128 : Int32) then (1 : Int32) else (0 : Int32)))) else (0 : Int32)) else (if (2 : Int32) < len then (if c2 < (768 : Int32) then (if (1 : Int32) < len then (if c1 < (768 : Int32) then (if c0 < (128 : Int32) then (1 : Int32) else (0 : Int32)) else (0 : Int32)) else (if c0 < (128 : Int32) then (1 : Int32) else (0 : Int32))) else (0 : Int32)) else (if (1 : Int32) < len then (if c1 < (768 : Int32) then (if c0 < (128 : Int32) then (1 : Int32) else (0 : Int32)) else (0 : Int32)) else (if c0 < (128 : Int32) then (1 : Int32) else (0 : Int32)))))), .val (.int (own_pl (nar .char c0) (nar .char c1) (nar .char c2) (nar .char c3) len))] [(.int (1 : Int32))])) t
      exact k)
    obtain ⟨fs, hr, hrun, hended, hW, hsame⟩ := X48.leave (v := some (.int (1 : Int32))) (fun h => by rw [Bd.returns] at h; cases h)
    refine ⟨_, _, pre52 _ ?_, hrun, hended, _, _, rfl, ?_, ⟨_, rfl⟩, hW, hsame.mono (by decide) (by decide)⟩
    · show Steps p.tables e below (T48.setTop (mkF m 166 #[.val (.int p1), .val (.int p2), .val (.int p3), .val (.int c0), .val (.int c1), .val (.int c2), .val (.int c3), .val (.int len), .val (.ref b7), .val (.int (if (3 : Int32) < len then (if c3 < (768 : Int32) then (if (2 : Int32) < len then (if c2 < (768 : Int32) then (if (1 : Int32) < len then (if c1 < (768 : Int32) then (if c0 < (128 : Int32) then (1 : Int32) else (0 : Int32)) else (0 : Int32)) else (if c0 < (128 : Int32) then (1 : Int32) else (0 : Int32))) else (0 : Int32)) else (if (1 : Int32) < len then (if c1 < (768 : Int32) then (if c0 < (128 : Int32) then (1 : Int32) else (0 : Int32)) else (0 : Int32)) else (if c0 < (128 : Int32) then (1 : Int32) else (0 : Int32)))) else (0 : Int32)) else (if (2 : Int32) < len then (if c2 < (768 : Int32) then (if (1 : Int32) < len then (if c1 < (768 : Int32) then (if c0 < (128 : Int32) then (1 : Int32) else (0 : Int32)) else (0 : Int32)) else (if c0 < (128 : Int32) then (1 : Int32) else (0 : Int32))) else (0 : Int32)) else (if (1 : Int32) < len then (if c1 < (768 : Int32) then (if c0 < (128 : Int32) then (1 : Int32) else (0 : Int32)) else (0 : Int32)) else (if c0 < (128 : Int32) then (1 : Int32) else (0 : Int32)))))), .val (.int (own_pl (nar .char c0) (nar .char c1) (nar .char c2) (nar .char c3) len))] [(.int (1 : Int32))])) _
      exact retN X48 hx (t := .boolean) Bd.returns (by simp) (hb hby at_166) hr
    · show Q0 Z p1 p2 p3 h0 n0 _ T48.heap _
      rw [eh48]
      exact ⟨rfl, N48⟩
set_option maxRecDepth 65536 in
set_option maxHeartbeats 40000000 in
theorem comes_1 {Post : Tables → Env → Array Value → State → Outcome → State → Prop} (hpost : ∀ tb e args s v u, (limb_1_1.after args s (.returned v) u = true ∧ limb_1_2.after args s (.returned v) u = true ∧ True) → FrameEnd s (.returned v) u (Jvm.fieldLocs frame_1_writes args s ++ Jvm.arrayLocs frame_1_arrays args s ++ Jvm.staticLocs frame_1_statics s) 16 128 → Post tb e args s (.returned v) u) :
    ArmFor flags0 classFile x code maxLocals ret World_1 tables_1 room_1 Calls_1 rest_1 Pre_1 Post := by
  intro l hfl _ _ p e ha hc hk s m args below hf hA hF happ hP
  obtain ⟨hcalls, hrest, hpre⟩ := hP
  obtain ⟨-, -, -, hnamed, -, -, -, hat⟩ := (Spec.applies_iff hf).mp happ
  obtain ⟨hg, hn⟩ := and_e (Cond.before_iff.mp (show (Jvm.Cond.and given_1 narrow_1).before args s = true from hpre))
  obtain ⟨ga0, gb0⟩ := and_e hg
  obtain ⟨ga1, gb1⟩ := and_e gb0
  obtain ⟨ga2, gb2⟩ := and_e gb1
  obtain ⟨w0, w1, w2, rfl⟩ : ∃ w0 w1 w2 : Value, args = #[w0, w1, w2] := by
    have hs : args.size = 3 := by simpa [Cond.value, given_1] using ga0
    obtain ⟨L⟩ := args
    match L, hs with
    | [w0, w1, w2], _ => exact ⟨w0, w1, w2, rfl⟩
  have hw := fun d (hd : d ∈ tables_1) => atoms_spec (ws := Jvm.Cond.code x code maxLocals ret :: tables_1) hat d (List.mem_cons_of_mem _ hd)
  obtain ⟨i0, ei0⟩ := is_v ga1
  obtain rfl : w0 = (.int i0) := Option.some.inj ei0
  obtain ⟨i1, ei1⟩ := is_v ga2
  obtain rfl : w1 = (.int i1) := Option.some.inj ei1
  obtain ⟨i2, ei2⟩ := is_v gb2
  obtain rfl : w2 = (.int i2) := Option.some.inj ei2
  obtain ⟨n, o, h1, h2, h3, _, L, rfl, ⟨rfl, N⟩, hq⟩ := rm0 l s _ hw tables_1 i0 i1 i2 s.heap s.heap.size (Nat.le_refl _) p e ha hc hk s m _ below hf ((Spec.applies_iff_loose hf).mp happ).1 ⟨rfl, State.Warmed39.refl s, rfl⟩ trivial
  refine ⟨n, _, h1, h2, h3, hpost _ _ _ _ _ _ ⟨Cond.after_iff.mpr rfl, Cond.after_iff.mpr (eq_i res_at (Term.int_eval (1)) rfl), trivial⟩ ⟨hq.1, hq.2.1, (hq.2.2.sift fun y hy => Or.inr (N y hy)).mono (by decide) (by decide)⟩⟩
theorem main_1_1 : Claimed_1_1 := comes_1 fun _ _ _ _ _ _ h hF => ⟨h.1, hF⟩
theorem main_1_2 : Claimed_1_2 := comes_1 fun _ _ _ _ _ _ h hF => ⟨h.2.1, hF⟩
end Jvm.Pilot.@@N@@
namespace Jvm.Pilot.@@N@@
open Jvm Jvm.ClassFile Sem Op Lib Jvm.Free Jvm.Stand Jvm.Pilot.@@N@@.Jvm.D
/-! MADE BY PROGRAM (witnessworld.py) out of the Statement's table words and the real class files: 11 classes; the members and pool entries that the words name. The judged class is class 1, her method 1. -/
namespace start1
open Jvm.ClassFile
def u (s : String) : CpInfo := .utf8 (stringToUtf16 s)
/-- a pool by its gaps: so many unusable entries, then the entry; so many at the end -/
def gap : Nat → List CpInfo → List CpInfo
  | 0, r => r
  | n + 1, r => .unusable :: gap n r
def poolList (es : List (Nat × CpInfo)) (last : Nat) : List CpInfo := es.foldr (fun e r => gap e.1 (e.2 :: r)) (gap last [])
def pool (es : List (Nat × CpInfo)) (last : Nat) : Array CpInfo := ⟨poolList es last⟩
def fileOf (pool : Array CpInfo) (this : Nat) (attrs : Array Attribute := #[]) (ms : Array MethodInfo := #[]) (fl : Nat := 33) (sup : Nat := 0) (ifs : Array Nat := #[]) (fds : Array FieldInfo := #[]) : ClassFile where
  minorVersion := 0
  majorVersion := 65
  constantPool := pool
  accessFlags := fl
  thisClass := this
  superClass := sup
  interfaces := ifs
  fields := fds
  methods := ms
  attributes := attrs
def plain (name : String) (sup : Option ClassId) : Class where
  name := name
  kind := .ordinary
  loader := none
  accessFlags := 33
  super := sup
  interfaces := #[]
  cf := none
  fields := #[]
  methods := #[]
  instanceTypes := #[]
  staticTypes := #[]
  resolved := #[]
  callSites := []
  init := .initialized
  statics := none
  mirror := none

def pool0 : Array CpInfo := pool [(5, u "<init>"), (0, u "()V"), (1, .class_ 10), (1, u "java/lang/Object")] 113

def k0m0 : Method := { name := "<init>", desc := "()V", sig := { parameters := [], returnType := none }, accessFlags := 1, code := none }
/-- java/lang/Object -/
def k0 : Class := { plain "java/lang/Object" none with
  accessFlags := 33
  interfaces := #[]
  cf := some (fileOf pool0 8 #[] #[{ accessFlags := 1, nameIndex := 5, descriptorIndex := 6, attributes := #[] }] 33 0 #[] #[])
  fields := #[]
  methods := #[k0m0]
  instanceTypes := #[]
  staticTypes := #[]
  resolved := Array.replicate 124 none
  statics := none }

def pool1 : Array CpInfo := pool [(2, .class_ 4), (1, u "java/lang/Object"), (0, u "<init>"), (0, u "()V"), (0, .integer 65535), (0, .integer 2147483647), (0, .methodref 10 11), (0, .class_ 12), (0, .nameAndType 13 14), (0, u "com/example/interlace/interlace/core/ItemName"), (0, u "isPlain"), (0, u "([CI)Z"), (0, .class_ 16), (0, u "com/example/interlace/interlace/core/ItemNameIsPlainPinLaw"), (2, u "law"), (0, u "(III)Z")] 5

def k1m0 : Method := { name := "<init>", desc := "()V", sig := { parameters := [], returnType := none }, accessFlags := 2, code := none }
def k1c1 : Code := { maxStack := 3, maxLocals := 11, code := code, exceptionTable := #[], attributes := #[] }
def k1m1 : Method := { name := "law", desc := "(III)Z", sig := { parameters := [.int, .int, .int], returnType := some .boolean }, accessFlags := 9, code := some k1c1 }
/-- com/example/interlace/interlace/core/ItemNameIsPlainPinLaw -/
def k1 : Class := { plain "com/example/interlace/interlace/core/ItemNameIsPlainPinLaw" (some 0) with
  accessFlags := 49
  interfaces := #[]
  cf := some (fileOf pool1 15 #[] #[{ accessFlags := 2, nameIndex := 5, descriptorIndex := 6, attributes := #[] }, { accessFlags := 9, nameIndex := 19, descriptorIndex := 20, attributes := #[] }] 49 2 #[] #[])
  fields := #[]
  methods := #[k1m0, k1m1]
  instanceTypes := #[]
  staticTypes := #[]
  resolved := Array.replicate 26 none
  statics := none }

def pool2 : Array CpInfo := pool [(3, .class_ 4), (0, u "com/example/interlace/interlace/core/ItemName"), (1, .class_ 8), (1, u "java/lang/Object"), (0, u "<init>"), (0, u "()V"), (77, u "FIRST_MARK"), (0, u "C"), (2, u "START_TYPES"), (0, u "I"), (1, u "PART_TYPES"), (5, u "isPlain"), (0, u "([CI)Z")] 21

def k2m0 : Method := { name := "<init>", desc := "()V", sig := { parameters := [], returnType := none }, accessFlags := 2, code := none }
def k2c1 : Code := { maxStack := 2, maxLocals := 4, code := prog_80_method_4_code, exceptionTable := #[], attributes := #[] }
def k2m1 : Method := { name := "isPlain", desc := "([CI)Z", sig := { parameters := [(.array .char), .int], returnType := some .boolean }, accessFlags := 8, code := some k2c1 }
/-- com/example/interlace/interlace/core/ItemName -/
def k2 : Class := { plain "com/example/interlace/interlace/core/ItemName" (some 0) with
  accessFlags := 48
  interfaces := #[]
  cf := some (fileOf pool2 3 #[] #[{ accessFlags := 2, nameIndex := 9, descriptorIndex := 10, attributes := #[] }, { accessFlags := 8, nameIndex := 101, descriptorIndex := 102, attributes := #[] }] 48 6 #[] #[{ accessFlags := 26, nameIndex := 88, descriptorIndex := 89, attributes := #[] }, { accessFlags := 26, nameIndex := 92, descriptorIndex := 93, attributes := #[] }, { accessFlags := 26, nameIndex := 95, descriptorIndex := 93, attributes := #[] }])
  fields := #[{ name := "FIRST_MARK", type := .char, accessFlags := 26, slot := 0, constantValue := 0 }, { name := "START_TYPES", type := .int, accessFlags := 26, slot := 1, constantValue := 0 }, { name := "PART_TYPES", type := .int, accessFlags := 26, slot := 2, constantValue := 0 }]
  methods := #[k2m0, k2m1]
  instanceTypes := #[]
  staticTypes := #[.char, .int, .int]
  resolved := Array.replicate 124 none
  statics := none }

def pool3 : Array CpInfo := pool [(1, u "java/lang/Cloneable"), (0, .class_ 1), (0, u "java/lang/Object"), (0, .class_ 3)] 3

/-- java/lang/Cloneable -/
def k3 : Class := { plain "java/lang/Cloneable" (some 0) with
  accessFlags := 1537
  interfaces := #[]
  cf := some (fileOf pool3 2 #[] #[] 1537 4 #[] #[])
  fields := #[]
  methods := #[]
  instanceTypes := #[]
  staticTypes := #[]
  resolved := Array.replicate 8 none
  statics := none }

def pool4 : Array CpInfo := pool [(1, u "java/io/Serializable"), (0, .class_ 1), (0, u "java/lang/Object"), (0, .class_ 3)] 3

/-- java/io/Serializable -/
def k4 : Class := { plain "java/io/Serializable" (some 0) with
  accessFlags := 1537
  interfaces := #[]
  cf := some (fileOf pool4 2 #[] #[] 1537 4 #[] #[])
  fields := #[]
  methods := #[]
  instanceTypes := #[]
  staticTypes := #[]
  resolved := Array.replicate 8 none
  statics := none }

/-- the primitive byte -/
def k5 : Class := { plain "byte" none with kind := .primitive 'B', accessFlags := 0x411 }
/-- [B -/
def k6 : Class := { plain "[B" (some 0) with kind := .array 5 .byte, interfaces := #[3, 4], accessFlags := 1041 }

/-- the primitive char -/
def k7 : Class := { plain "char" none with kind := .primitive 'C', accessFlags := 0x411 }
/-- [C -/
def k8 : Class := { plain "[C" (some 0) with kind := .array 7 .char, interfaces := #[3, 4], accessFlags := 1041 }

/-- the primitive int -/
def k9 : Class := { plain "int" none with kind := .primitive 'I', accessFlags := 0x411 }
/-- [I -/
def k10 : Class := { plain "[I" (some 0) with kind := .array 9 .int, interfaces := #[3, 4], accessFlags := 1041 }

def heap : Heap := #[]
def classes : Array Class := #[k0, k1, k2, k3, k4, k5, k6, k7, k8, k9, k10]
def interned : List (Array UInt16 × Addr) := []
def slotsUsed : Nat := 0
def theMethod : MethodId := ⟨1, 1⟩
def args0 : Array Value := #[.int 5, .int 9, .int 2]
def aboutOver (below : List Frame) : State where
  vm := { classes := classes, interned := interned.toArray }
  heap := heap
  slotsUsed := slotsUsed
  threads := #[{ frames := .invoking theMethod args0 :: below }]
def below0 : List Frame := [.native { method := ⟨0, 0⟩, args := #[] }]
def about1 : State := aboutOver below0
def p0 : Program := .bare "" "" ""
def e0 : Env := launch0.env 0 0 0
theorem w_frames : about1.frames = Frame.invoking theMethod args0 :: below0 := rfl
set_option maxRecDepth 65536 in
theorem w_args : argsFit about1.vm theMethod args0 = true := by decide +kernel
set_option maxRecDepth 65536 in
theorem w_heap : heapFits about1 = true := by decide +kernel
set_option maxRecDepth 65536 in
theorem w_runnable : about1.curStatus? = some .runnable := by decide +kernel
set_option maxRecDepth 65536 in
theorem w_alone : about1.alone = true := by decide +kernel
set_option maxRecDepth 65536 in
theorem w_named : about1.methodNamed? x = some theMethod := by decide +kernel
set_option maxRecDepth 65536 in
theorem w_hears : about1.hears theMethod below0 = true := by decide +kernel
set_option maxRecDepth 65536 in
theorem w_ripe : about1.ripe theMethod args0 below0 = true := by decide +kernel
theorem w_running : about1.status = .running := rfl
set_option maxRecDepth 65536 in
theorem w_room : about1.hasRoom e0.platform room_1 = true :=
  launch0.hasRoom_least _ room_1 (by decide +kernel) (by decide +kernel) (by decide +kernel) (by decide +kernel) (by decide +kernel) (by decide +kernel)
theorem allAtoms_all (ts : List Jvm.Cond) (a : Array Jvm.Value) (st : Jvm.State) : (allAtoms ts).before a st = ts.all (fun c => c.before a st) := by
  induction ts with
  | nil => rfl
  | cons c t ih =>
    show (Jvm.Cond.and c (allAtoms t)).before a st = _
    rw [Jvm.Cond.before_and, ih, List.all_cons]
def words1 : List Jvm.Cond := Jvm.Cond.code x code maxLocals ret :: tables_1
/-- a 'code' word, met by the world's own term for the bytes: nothing is compared byte by byte -/
theorem code_word {y : MethodName} {bytes : ByteArray} {mx : Nat} {rt : Option FieldType} {a : Array Value} {s : State} {m : MethodId} {meth : Method} {c : Code} (h1 : s.methodNamed? y = some m) (h2 : s.vm.method? m = some meth) (h3 : meth.code = some c) (h4 : c.code = bytes)
    (h5 : (c.maxLocals == mx && c.exceptionTable.isEmpty && decide (c.maxStack ≤ mostOperands) && decide (meth.sig.returnType = rt) && !meth.locks && decide (parseMethodDescriptor y.desc = some meth.sig)) = true) : (Jvm.Cond.code y bytes mx rt).before a s = true := by
  simp only [Bool.and_eq_true, beq_iff_eq, Bool.not_eq_true', decide_eq_true_eq] at h5
  obtain ⟨⟨⟨⟨⟨g1, g2⟩, g3⟩, g4⟩, g5⟩, g6⟩ := h5
  simp [Cond.before, Cond.holds, Cond.value, h1, h2, h3, h4, g1, g2, g3, g4, g5, g6]
def isCode : Jvm.Cond → Bool
  | .code _ _ _ _ => true
  | _ => false
theorem all_split {L : List Jvm.Cond} {P : Jvm.Cond → Bool} (h1 : L.all (fun c => isCode c || P c) = true) (h2 : ∀ c ∈ L.filter isCode, P c = true) : L.all P = true := by
  refine List.all_eq_true.mpr fun c hc => ?_
  have h := List.all_eq_true.mp h1 c hc
  rcases Bool.eq_false_or_eq_true (isCode c) with hi | hi
  · exact h2 c (List.mem_filter.mpr ⟨hc, hi⟩)
  · simpa [hi] using h
set_option maxRecDepth 65536 in
theorem w_c0 : (Jvm.Cond.code x code maxLocals ret).before args0 about1 = true := code_word (m := ⟨1, 1⟩) (meth := k1m1) (c := k1c1) (by decide +kernel) rfl rfl rfl (by decide +kernel)
set_option maxRecDepth 65536 in
theorem w_c1 : (Jvm.Cond.code ({ cls := "com/example/interlace/interlace/core/ItemName", name := "isPlain", desc := "([CI)Z" } : Jvm.MethodName) prog_80_method_4_code (4 : Nat) (Option.some Jvm.ClassFile.FieldType.boolean)).before args0 about1 = true := code_word (m := ⟨2, 1⟩) (meth := k2m1) (c := k2c1) (by decide +kernel) rfl rfl rfl (by decide +kernel)
def codes1 : List Jvm.Cond := [Jvm.Cond.code x code maxLocals ret, Jvm.Cond.code ({ cls := "com/example/interlace/interlace/core/ItemName", name := "isPlain", desc := "([CI)Z" } : Jvm.MethodName) prog_80_method_4_code (4 : Nat) (Option.some Jvm.ClassFile.FieldType.boolean)]
set_option maxRecDepth 65536 in
theorem codes_eq : words1.filter isCode = codes1 := rfl
theorem w_codes : ∀ c ∈ words1.filter isCode, c.before args0 about1 = true := by
  rw [codes_eq]
  intro c hc
  simp only [codes1, List.mem_cons, List.not_mem_nil, or_false] at hc
  rcases hc with rfl | rfl
  · exact w_c0
  · exact w_c1
set_option maxRecDepth 65536 in
theorem w_t1 : words1.all (fun c => isCode c || c.before args0 about1) = true := by decide +kernel
theorem w_tables : (allAtoms (Jvm.Cond.code x code maxLocals ret :: tables_1)).before args0 about1 = true := by
  rw [allAtoms_all]
  show words1.all (fun c => c.before args0 about1) = true
  refine all_split ?_ w_codes
  rw [w_t1]
set_option maxRecDepth 65536 in
theorem w_case : (Jvm.Cond.and given_1 narrow_1).before args0 about1 = true := by decide +kernel
theorem w_applies : (headSpec (Jvm.Cond.code x code maxLocals ret :: tables_1) room_1).applies x e0.platform about1 = true :=
  (Spec.applies_iff w_frames).mpr ⟨w_running, w_runnable, w_alone, w_named, w_hears, w_ripe, w_room, w_tables⟩
theorem atStart : AtStart classFile x code maxLocals ret World_1 tables_1 room_1 Calls_1 rest_1 Pre_1 launch0 p0 e0 about1 theMethod args0 below0 :=
  ⟨lists_1, trivial, launch0.admits_env _ _ _, launch0.least_env, fairChoices_fair.cas, fairChoices_fair.clock, w_frames, w_args, w_heap, w_applies, trivial, trivial, w_case⟩
end start1
theorem witness_1 : WitnessClaimed_1 := ⟨start1.p0, start1.e0, start1.about1, start1.theMethod, start1.args0, start1.below0, start1.atStart⟩
end Jvm.Pilot.@@N@@
