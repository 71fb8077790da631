import JvmDerived
import JvmDerived.Pilot.@@N@@Statement
import JvmDerived.Pilot.@@N@@Code
set_option linter.unusedVariables false
set_option linter.unusedSimpArgs false
@@BLOCK:NumsL.lean.txt@@
namespace Jvm.RoadKit
open Sem ClassFile Op Lib Jvm.Stand Jvm.Free Jvm.LawKit
section New
variable {p : Program} {l : Launch} {e : Env} {R : Room} {s : State} {m : MethodId} {args : Array Value} {below : List Frame} {meth : Method} {c : Code} {T : State} {locs : List Loc} {cells slots : Nat}
theorem retI (X : Stand p l e R s m args below meth c T locs cells slots) (hx : p.tables.exec = Jvm.exec) {pc : Nat} {Ls : Array Slot} {z : Int32} {rest : List Value} (hret : meth.sig.returnType = some .int) (hd : decode c.code pc = .ok (.ireturn, 1)) {fs : List Frame}
    (hl : ∀ (f : JFrame) (acts : List Action), f.method = m → f.locked = none → f.entered = [] → (doReturn e (T.setTop f) acts (some (.int z))).1 = T.setFrames fs) : Steps p.tables e below (T.setTop (mkF m pc Ls (.int z :: rest))) (T.setFrames fs) := by
  have hm' : T.vm.method? m = some meth := X.method'
  have hn : narrow .int (.int z) = .int z := rfl
  show Steps p.tables e below (T.setTop { method := m, pc := pc, locals := Ls, stack := _ :: rest, locked := none }) _
  jvm_step X.here [X.here.top, hx, hd, hm', hret, hn]
  first | (intro acts; rw [hl _ acts rfl rfl rfl]) | rw [hl _ _ rfl rfl rfl]
  exact Steps.refl _
end New
end Jvm.RoadKit
namespace Jvm.Pilot.@@N@@
open Jvm Jvm.ClassFile Sem Op Lib Jvm.Free Jvm.Stand Jvm.LawKit Jvm.RoadKit Bundle Jvm.Pilot.@@N@@.Jvm.D
section Own
variable {p : Program} {l : Launch} {e : Env} {R : Room} {s : State} {m : MethodId} {args : Array Value} {below : List Frame} {meth : Method} {c : Code} {T : State} {locs : List Loc} {cells slots : Nat} {Z : State} {h : Heap} {a : Addr} {k : ClassId} {n : Int32} {vs : List Value} {dv : Value} {ty : FieldType}
theorem own_caload (X : Stand p l e R s m args below meth c T locs cells slots) (hx : p.tables.exec = Jvm.exec) (hZ : Z.Warmed39 s.vm) (eT : T.heap = h) (V : Arv Z h a k .char n vs dv) {j : Int32} {v : Value} (hj : ¬ j < 0 ∧ j < n) (hv : vs.getD j.toNatClampNeg dv = v) {g : JFrame} (hg : g.method = m) {rest : List Value} (hs : g.stack = .int j :: .ref a :: rest) (hd : decode c.code g.pc = .ok (.caload, 1)) :
    ∀ target, Steps p.tables e below (T.setTop { g with pc := g.pc + 1, stack := v :: rest }) target → Steps p.tables e below (T.setTop g) target := by
  obtain ⟨cl, Ar, -, S, -, H, -⟩ := V
  exact X.caload hx (j := j) (v := v) (by rw [eT]; exact Ar.1) (State.isArrayOf_alike hZ.alike Ar.2.1) Ar.2.2 (inb_of S hj) (H.at (inb_of S hj) hv) hg hs hd
theorem own_iaload (X : Stand p l e R s m args below meth c T locs cells slots) (hx : p.tables.exec = Jvm.exec) (hZ : Z.Warmed39 s.vm) (eT : T.heap = h) (V : Arv Z h a k .int n vs dv) {j : Int32} {v : Value} (hj : ¬ j < 0 ∧ j < n) (hv : vs.getD j.toNatClampNeg dv = v) {g : JFrame} (hg : g.method = m) {rest : List Value} (hs : g.stack = .int j :: .ref a :: rest) (hd : decode c.code g.pc = .ok (.iaload, 1)) :
    ∀ target, Steps p.tables e below (T.setTop { g with pc := g.pc + 1, stack := v :: rest }) target → Steps p.tables e below (T.setTop g) target := by
  obtain ⟨cl, Ar, -, S, -, H, -⟩ := V
  exact X.iaload hx (j := j) (v := v) (by rw [eT]; exact Ar.1) (State.isArrayOf_alike hZ.alike Ar.2.1) Ar.2.2 (inb_of S hj) (H.at (inb_of S hj) hv) hg hs hd
theorem own_baload (X : Stand p l e R s m args below meth c T locs cells slots) (hx : p.tables.exec = Jvm.exec) (hZ : Z.Warmed39 s.vm) (eT : T.heap = h) (V : Arv Z h a k .byte n vs dv) {j : Int32} {v : Value} (hj : ¬ j < 0 ∧ j < n) (hv : vs.getD j.toNatClampNeg dv = v) {g : JFrame} (hg : g.method = m) {rest : List Value} (hs : g.stack = .int j :: .ref a :: rest) (hd : decode c.code g.pc = .ok (.baload, 1)) :
    ∀ target, Steps p.tables e below (T.setTop { g with pc := g.pc + 1, stack := v :: rest }) target → Steps p.tables e below (T.setTop g) target := by
  obtain ⟨cl, Ar, -, S, -, H, -⟩ := V
  exact X.baloadBytes hx (j := j) (v := v) (by rw [eT]; exact Ar.1) (State.isArrayOf_alike hZ.alike Ar.2.1) Ar.2.2 (inb_of S hj) (H.at (inb_of S hj) hv) hg hs hd
theorem own_alen (X : Stand p l e R s m args below meth c T locs cells slots) (hx : p.tables.exec = Jvm.exec) (hZ : Z.Warmed39 s.vm) (eT : T.heap = h) (V : Arv Z h a k ty n vs dv) {g : JFrame} (hg : g.method = m) {rest : List Value} (hs : g.stack = .ref a :: rest) (hd : decode c.code g.pc = .ok (.arraylength, 1)) :
    ∀ target, Steps p.tables e below (T.setTop { g with pc := g.pc + 1, stack := .int n :: rest }) target → Steps p.tables e below (T.setTop g) target := by
  obtain ⟨cl, Ar, -, S, N, -, -⟩ := V
  intro target q
  refine X.arraylength hx (by rw [eT]; exact Ar.1) (State.isArrayOf_alike hZ.alike Ar.2.1) hg hs hd target ?_
  rw [len_of S N]; exact q
end Own

def own_low (c : Int32) : Int32 := if c < (65 : Int32) then c else if (90 : Int32) < c then c else (c + (32 : Int32))
theorem own_i (k : Int32) : 0 ≤ ((k &&& (2147483647 : Int32)) % (26 : Int32)).toInt ∧ ((k &&& (2147483647 : Int32)) % (26 : Int32)).toInt < 26 := by
  have e : (k &&& (2147483647 : Int32)).toInt = k.toInt % 2 ^ 31 := Jvm.Kit.i32_mask k _ (k := 31) (by decide) (by decide)
  have e2 : ((k &&& (2147483647 : Int32)) % (26 : Int32)).toInt = (k &&& (2147483647 : Int32)).toInt % 26 := Jvm.Kit.i32_rem_nonneg (by omega)
  omega
theorem own_l1 (k : Int32) : own_low ((65 : Int32) + ((k &&& (2147483647 : Int32)) % (26 : Int32))) = ((97 : Int32) + ((k &&& (2147483647 : Int32)) % (26 : Int32))) := by
  have hi := own_i k
  generalize ((k &&& (2147483647 : Int32)) % (26 : Int32)) = i at *
  have h65 : (65 : Int32).toInt = 65 := by decide
  have h90 : (90 : Int32).toInt = 90 := by decide
  have e1 : ((65 : Int32) + i).toInt = 65 + i.toInt := by rw [Jvm.Kit.i32_add (by omega) (by omega), h65]
  unfold own_low
  rw [if_neg (by rw [Int32.lt_iff_toInt_lt]; omega), if_neg (by rw [Int32.lt_iff_toInt_lt]; omega), Int32.add_assoc, Int32.add_comm i, ← Int32.add_assoc]
  rfl
theorem own_l2 (k : Int32) : own_low ((97 : Int32) + ((k &&& (2147483647 : Int32)) % (26 : Int32))) = ((97 : Int32) + ((k &&& (2147483647 : Int32)) % (26 : Int32))) := by
  have hi := own_i k
  generalize ((k &&& (2147483647 : Int32)) % (26 : Int32)) = i at *
  have h65 : (65 : Int32).toInt = 65 := by decide
  have h90 : (90 : Int32).toInt = 90 := by decide
  have h97 : (97 : Int32).toInt = 97 := by decide
  have e1 : ((97 : Int32) + i).toInt = 97 + i.toInt := by rw [Jvm.Kit.i32_add (by omega) (by omega), h97]
  unfold own_low
  rw [if_neg (by rw [Int32.lt_iff_toInt_lt]; omega), if_pos (by rw [Int32.lt_iff_toInt_lt]; omega)]
theorem own_d (c : Int32) : (c.toInt64 - (65 : Int64)).toInt = c.toInt - 65 := by
  have h := c.toInt_lt; have h' := c.le_toInt
  have h65 : (65 : Int64).toInt = 65 := by decide
  rw [Jvm.Kit.i64_sub (by rw [Jvm.Kit.i64_of_i32, h65]; omega) (by rw [Jvm.Kit.i64_of_i32, h65]; omega), Jvm.Kit.i64_of_i32, h65]
theorem own_up {c : Int32} (h1 : ¬ (c.toInt64 - (65 : Int64)) < (0 : Int64)) (h2 : (c.toInt64 - (65 : Int64)) < (26 : Int64)) : own_low c = (c + (32 : Int32)) := by
  rw [Int64.lt_iff_toInt_lt, own_d] at h1 h2
  have e0 : (0 : Int64).toInt = 0 := by decide
  have e26 : (26 : Int64).toInt = 26 := by decide
  have h65 : (65 : Int32).toInt = 65 := by decide
  have h90 : (90 : Int32).toInt = 90 := by decide
  unfold own_low
  rw [if_neg (by rw [Int32.lt_iff_toInt_lt]; omega), if_neg (by rw [Int32.lt_iff_toInt_lt]; omega)]
theorem own_lo {c : Int32} (h1 : (c.toInt64 - (65 : Int64)) < (0 : Int64)) : own_low c = c := by
  rw [Int64.lt_iff_toInt_lt, own_d] at h1
  have e0 : (0 : Int64).toInt = 0 := by decide
  have h65 : (65 : Int32).toInt = 65 := by decide
  unfold own_low
  rw [if_pos (by rw [Int32.lt_iff_toInt_lt]; omega)]
theorem own_hi {c : Int32} (h2 : ¬ (c.toInt64 - (65 : Int64)) < (26 : Int64)) : own_low c = c := by
  rw [Int64.lt_iff_toInt_lt, own_d] at h2
  have e26 : (26 : Int64).toInt = 26 := by decide
  have h65 : (65 : Int32).toInt = 65 := by decide
  have h90 : (90 : Int32).toInt = 90 := by decide
  unfold own_low
  rw [if_neg (by rw [Int32.lt_iff_toInt_lt]; omega), if_pos (by rw [Int32.lt_iff_toInt_lt]; omega)]
theorem own_idem (c : Int32) : own_low (own_low c) = own_low c := by
  have h65 : (65 : Int32).toInt = 65 := by decide
  have h90 : (90 : Int32).toInt = 90 := by decide
  have h32 : (32 : Int32).toInt = 32 := by decide
  by_cases h1 : c < (65 : Int32)
  · have e : own_low c = c := by unfold own_low; rw [if_pos h1]
    rw [e, e]
  · by_cases h2 : (90 : Int32) < c
    · have e : own_low c = c := by unfold own_low; rw [if_neg h1, if_pos h2]
      rw [e, e]
    · have e : own_low c = c + 32 := by unfold own_low; rw [if_neg h1, if_neg h2]
      rw [Int32.lt_iff_toInt_lt] at h1 h2
      have e1 : (c + 32).toInt = c.toInt + 32 := by rw [Jvm.Kit.i32_add (by omega) (by omega), h32]
      rw [e]
      unfold own_low
      rw [if_neg (by rw [Int32.lt_iff_toInt_lt]; omega), if_pos (by rw [Int32.lt_iff_toInt_lt]; omega)]
theorem ef_1 (m : MethodId) (p1 : Int32) : entryFrame m #[(.int p1)] 1 = mkF m 0 #[.val (.int p1)] [] := by first | (simp [entryFrame, mkF, argsToLocals, Value.category]; done) | rfl
theorem pn_com_example_charset_resolve_charsetresolve_sniff_Ascii : plainName "com/example/charset_resolve/charsetresolve/sniff/Ascii" = true := by first | (simp [plainName, overriddenIn]; done) | decide +kernel
theorem d1_0 : decode prog_28_method_3_code 0 = .ok (.iload_n 0, 1) := by decide +kernel
theorem d1_1 : decode prog_28_method_3_code 1 = .ok (.bipush 65, 2) := by decide +kernel
theorem d1_3 : decode prog_28_method_3_code 3 = .ok (.if_icmp .lt 16, 3) := by decide +kernel
theorem d1_19 : decode prog_28_method_3_code 19 = .ok (.iload_n 0, 1) := by decide +kernel
theorem d1_20 : decode prog_28_method_3_code 20 = .ok (.ireturn, 1) := by decide +kernel
theorem d1_6 : decode prog_28_method_3_code 6 = .ok (.iload_n 0, 1) := by decide +kernel
theorem d1_7 : decode prog_28_method_3_code 7 = .ok (.bipush 90, 2) := by decide +kernel
theorem d1_9 : decode prog_28_method_3_code 9 = .ok (.if_icmp .gt 10, 3) := by decide +kernel
theorem d1_12 : decode prog_28_method_3_code 12 = .ok (.iload_n 0, 1) := by decide +kernel
theorem d1_13 : decode prog_28_method_3_code 13 = .ok (.bipush 32, 2) := by decide +kernel
theorem d1_15 : decode prog_28_method_3_code 15 = .ok (.iadd, 1) := by decide +kernel
theorem d1_16 : decode prog_28_method_3_code 16 = .ok (.goto 4, 3) := by decide +kernel
def Q1 (Z : State) (p1 : Int32) (h0 : Heap) (n0 : Nat) (v : Option Value) (h : Heap) (L : List Loc) : Prop := v = some (.int (own_low p1)) ∧ Fr n0 L ∧ h = h0
set_option maxRecDepth 65536 in
set_option maxHeartbeats 40000000 in
theorem rm1 (l : Launch) (Z : State) (a0 : Array Value) (hw : ∀ d ∈ tables_1, d.before a0 Z = true) (ws : List Jvm.Cond) (p1 : Int32) (h0 : Heap) (n0 : Nat) (Z0 : n0 ≤ h0.size) :
    MetFree l (⟨"com/example/charset_resolve/charsetresolve/sniff/Ascii", "toLowerCase", "(I)I"⟩ : MethodName) (head1 (Jvm.Cond.code (⟨"com/example/charset_resolve/charsetresolve/sniff/Ascii", "toLowerCase", "(I)I"⟩ : MethodName) prog_28_method_3_code 1 (some .int) :: ws) ({ frames := 0, cells := 0, slots := 0, locals := 0 } : Room)) (fun a U => a = #[(.int p1)] ∧ Z.Warmed39 U.vm ∧ U.heap = h0) (fun _ _ _ _ _ => True) (fun _ U o U' => ∃ v L, o = .returned v ∧ Q1 Z p1 h0 n0 v U'.heap L ∧ FrameEnd U o U' L ({ frames := 0, cells := 0, slots := 0, locals := 0 } : Room).cells ({ frames := 0, cells := 0, slots := 0, locals := 0 } : Room).slots) := by
  refine MetFree.of_bodySF (plainFor_of_name pn_com_example_charset_resolve_charsetresolve_sniff_Ascii) hisR ?_
  intro p e s m args below meth c s₁ Bd hml0 hP hK
  obtain ⟨rfl, hZ, hh⟩ := hP
  have hx := Bd.exec
  have hby := Bd.bytes
  have hml : c.maxLocals = 1 := hml0
  have hown : s.vm.findClass "com/example/charset_resolve/charsetresolve/sniff/Ascii" = some m.cls := findClass_of_methodNamed Bd.named
  have hnm := (name_of_methodNamed Bd.named Bd.method).1
  have X0 : Stand p l e ({ frames := 0, cells := 0, slots := 0, locals := 0 } : Room) s m #[(.int p1)] below meth c s₁ [] 0 0 := Stand.of_body Bd
  have eh0 : s₁.heap = h0 := by rw [← hh, Bd.state]; rfl
  have N0 := Fr.nil n0
  have pre0 : ∀ t, Steps p.tables e below (s₁.setTop (mkF m 0 #[.val (.int p1)] [])) t → Steps p.tables e below (s₁.setTop (entryFrame m #[(.int p1)] 1)) t := fun t k => castTop (ef_1 m p1) k
  have pre2 : ∀ t, Steps p.tables e below (s₁.setTop (mkF m 3 #[.val (.int p1)] [(.int (65 : Int32)), (.int p1)])) t → Steps p.tables e below (s₁.setTop (entryFrame m #[(.int p1)] 1)) t := fun t k => pre0 t (by
    show Steps p.tables e below (s₁.setTop (mkF m 0 #[.val (.int p1)] [])) t
    refine XS.iloadN X0.here hx rfl (hb hby d1_0) rfl ?_
    show Steps p.tables e below (s₁.setTop (mkF m 1 #[.val (.int p1)] [(.int p1)])) t
    refine XS.bipush X0.here hx rfl (hb hby d1_1) ?_
    show Steps p.tables e below (s₁.setTop (mkF m 3 #[.val (.int p1)] [(.int (65 : Int32)), (.int p1)])) t
    exact k)
  by_cases hc3_1 : p1 < (65 : Int32)
  · skip
    have pre3 : ∀ t, Steps p.tables e below (s₁.setTop (mkF m 20 #[.val (.int p1)] [(.int p1)])) t → Steps p.tables e below (s₁.setTop (entryFrame m #[(.int p1)] 1)) t := fun t k => pre2 t (by
      show Steps p.tables e below (s₁.setTop (mkF m 3 #[.val (.int p1)] [(.int (65 : Int32)), (.int p1)])) t
      refine XS.icmpYes X0.here hx rfl (pc0 := 3) (pc' := 19) rfl (hb hby d1_3) rfl (XT.ii_lt_t hc3_1) (by decide) (by decide) ?_
      show Steps p.tables e below (s₁.setTop (mkF m 19 #[.val (.int p1)] [])) t
      refine XS.iloadN X0.here hx rfl (hb hby d1_19) rfl ?_
      show Steps p.tables e below (s₁.setTop (mkF m 20 #[.val (.int p1)] [(.int p1)])) t
      exact k)
    obtain ⟨fs, hr, hrun, hended, hW, hsame⟩ := X0.leave (v := some (.int p1)) (fun h => by rw [Bd.returns] at h; cases h)
    refine ⟨_, _, pre3 _ ?_, hrun, hended, _, _, rfl, ?_, ⟨_, rfl⟩, hW, hsame.mono (by decide) (by decide)⟩
    · show Steps p.tables e below (s₁.setTop (mkF m 20 #[.val (.int p1)] [(.int p1)])) _
      exact retI X0 hx Bd.returns (hb hby d1_20) hr
    · show Q1 Z p1 h0 n0 _ s₁.heap _
      rw [eh0]
      exact ⟨(congrArg (fun z => some (Value.int z)) (show p1 = (own_low p1) from (by simp only [own_low, if_pos hc3_1]))), N0, rfl⟩
  · skip
    have pre5 : ∀ t, Steps p.tables e below (s₁.setTop (mkF m 9 #[.val (.int p1)] [(.int (90 : Int32)), (.int p1)])) t → Steps p.tables e below (s₁.setTop (entryFrame m #[(.int p1)] 1)) t := fun t k => pre2 t (by
      show Steps p.tables e below (s₁.setTop (mkF m 3 #[.val (.int p1)] [(.int (65 : Int32)), (.int p1)])) t
      refine XS.icmpNo X0.here hx rfl (hb hby d1_3) rfl (XT.ii_lt_f hc3_1) ?_
      show Steps p.tables e below (s₁.setTop (mkF m 6 #[.val (.int p1)] [])) t
      refine XS.iloadN X0.here hx rfl (hb hby d1_6) rfl ?_
      show Steps p.tables e below (s₁.setTop (mkF m 7 #[.val (.int p1)] [(.int p1)])) t
      refine XS.bipush X0.here hx rfl (hb hby d1_7) ?_
      show Steps p.tables e below (s₁.setTop (mkF m 9 #[.val (.int p1)] [(.int (90 : Int32)), (.int p1)])) t
      exact k)
    by_cases hc9_4 : (90 : Int32) < p1
    · skip
      have pre6 : ∀ t, Steps p.tables e below (s₁.setTop (mkF m 20 #[.val (.int p1)] [(.int p1)])) t → Steps p.tables e below (s₁.setTop (entryFrame m #[(.int p1)] 1)) t := fun t k => pre5 t (by
        show Steps p.tables e below (s₁.setTop (mkF m 9 #[.val (.int p1)] [(.int (90 : Int32)), (.int p1)])) t
        refine XS.icmpYes X0.here hx rfl (pc0 := 9) (pc' := 19) rfl (hb hby d1_9) rfl (XT.ii_gt_t hc9_4) (by decide) (by decide) ?_
        show Steps p.tables e below (s₁.setTop (mkF m 19 #[.val (.int p1)] [])) t
        refine XS.iloadN X0.here hx rfl (hb hby d1_19) rfl ?_
        show Steps p.tables e below (s₁.setTop (mkF m 20 #[.val (.int p1)] [(.int p1)])) t
        exact k)
      obtain ⟨fs, hr, hrun, hended, hW, hsame⟩ := X0.leave (v := some (.int p1)) (fun h => by rw [Bd.returns] at h; cases h)
      refine ⟨_, _, pre6 _ ?_, hrun, hended, _, _, rfl, ?_, ⟨_, rfl⟩, hW, hsame.mono (by decide) (by decide)⟩
      · show Steps p.tables e below (s₁.setTop (mkF m 20 #[.val (.int p1)] [(.int p1)])) _
        exact retI X0 hx Bd.returns (hb hby d1_20) hr
      · show Q1 Z p1 h0 n0 _ s₁.heap _
        rw [eh0]
        exact ⟨(congrArg (fun z => some (Value.int z)) (show p1 = (own_low p1) from (by simp only [own_low, if_neg hc3_1, if_pos hc9_4]))), N0, rfl⟩
    · skip
      have pre7 : ∀ t, Steps p.tables e below (s₁.setTop (mkF m 20 #[.val (.int p1)] [(.int (p1 + (32 : Int32)))])) t → Steps p.tables e below (s₁.setTop (entryFrame m #[(.int p1)] 1)) t := fun t k => pre5 t (by
        show Steps p.tables e below (s₁.setTop (mkF m 9 #[.val (.int p1)] [(.int (90 : Int32)), (.int p1)])) t
        refine XS.icmpNo X0.here hx rfl (hb hby d1_9) rfl (XT.ii_gt_f hc9_4) ?_
        show Steps p.tables e below (s₁.setTop (mkF m 12 #[.val (.int p1)] [])) t
        refine XS.iloadN X0.here hx rfl (hb hby d1_12) rfl ?_
        show Steps p.tables e below (s₁.setTop (mkF m 13 #[.val (.int p1)] [(.int p1)])) t
        refine XS.bipush X0.here hx rfl (hb hby d1_13) ?_
        show Steps p.tables e below (s₁.setTop (mkF m 15 #[.val (.int p1)] [(.int (32 : Int32)), (.int p1)])) t
        refine XS.iadd X0.here hx rfl (hb hby d1_15) rfl ?_
        show Steps p.tables e below (s₁.setTop (mkF m 16 #[.val (.int p1)] [(.int (p1 + (32 : Int32)))])) t
        refine XS.goto X0.here hx rfl (pc0 := 16) (pc' := 20) rfl (hb hby d1_16) (by decide) (by decide) ?_
        show Steps p.tables e below (s₁.setTop (mkF m 20 #[.val (.int p1)] [(.int (p1 + (32 : Int32)))])) t
        exact k)
      obtain ⟨fs, hr, hrun, hended, hW, hsame⟩ := X0.leave (v := some (.int (p1 + (32 : Int32)))) (fun h => by rw [Bd.returns] at h; cases h)
      refine ⟨_, _, pre7 _ ?_, hrun, hended, _, _, rfl, ?_, ⟨_, rfl⟩, hW, hsame.mono (by decide) (by decide)⟩
      · show Steps p.tables e below (s₁.setTop (mkF m 20 #[.val (.int p1)] [(.int (p1 + (32 : Int32)))])) _
        exact retI X0 hx Bd.returns (hb hby d1_20) hr
      · show Q1 Z p1 h0 n0 _ s₁.heap _
        rw [eh0]
        exact ⟨(congrArg (fun z => some (Value.int z)) (show (p1 + (32 : Int32)) = (own_low p1) from (by simp only [own_low, if_neg hc3_1, if_neg hc9_4]))), N0, rfl⟩
theorem ef_0 (m : MethodId) (p1 : Int32) (p2 : Int32) : entryFrame m #[(.int p1), (.int p2)] maxLocals = mkF m 0 #[.val (.int p1), .val (.int p2), .unset, .unset, .unset, .unset, .unset, .unset, .unset, .unset, .unset, .unset] [] := by first | (simp [entryFrame, mkF, argsToLocals, Value.category, maxLocals]; done) | rfl
theorem pn_com_example_charset_resolve_charsetresolve_sniff_AsciiToLowerCasePinLaw : plainName "com/example/charset_resolve/charsetresolve/sniff/AsciiToLowerCasePinLaw" = true := by first | (simp [plainName, overriddenIn]; done) | decide +kernel
theorem pd_oIcI : parseMethodDescriptor "(I)I" = some ⟨[.int], some .int⟩ := by decide +kernel
def Q0 (Z : State) (p1 : Int32) (p2 : Int32) (h0 : Heap) (n0 : Nat) (v : Option Value) (h : Heap) (L : List Loc) : Prop := v = some (.int (1 : Int32)) ∧ Fr n0 L
set_option maxRecDepth 65536 in
set_option maxHeartbeats 40000000 in
theorem rm0 (l : Launch) (Z : State) (a0 : Array Value) (hw : ∀ d ∈ tables_1, d.before a0 Z = true) (ws : List Jvm.Cond) (p1 : Int32) (p2 : Int32) (h0 : Heap) (n0 : Nat) (Z0 : n0 ≤ h0.size) :
    MetFree l x (head1 (Jvm.Cond.code x code maxLocals ret :: ws) room_1) (fun a U => a = #[(.int p1), (.int p2)] ∧ Z.Warmed39 U.vm ∧ U.heap = h0) (fun _ _ _ _ _ => True) (fun _ U o U' => ∃ v L, o = .returned v ∧ Q0 Z p1 p2 h0 n0 v U'.heap L ∧ FrameEnd U o U' L room_1.cells room_1.slots) := by
  refine MetFree.of_bodySF (plainFor_of_name pn_com_example_charset_resolve_charsetresolve_sniff_AsciiToLowerCasePinLaw) hisR ?_
  intro p e s m args below meth c s₁ Bd hml0 hP hK
  obtain ⟨rfl, hZ, hh⟩ := hP
  have hx := Bd.exec
  have hby := Bd.bytes
  have hml : c.maxLocals = 12 := hml0
  have hown : s.vm.findClass "com/example/charset_resolve/charsetresolve/sniff/AsciiToLowerCasePinLaw" = some m.cls := findClass_of_methodNamed Bd.named
  have hnm := (name_of_methodNamed Bd.named Bd.method).1
  have X0 : Stand p l e room_1 s m #[(.int p1), (.int p2)] below meth c s₁ [] 0 0 := Stand.of_body Bd
  have eh0 : s₁.heap = h0 := by rw [← hh, Bd.state]; rfl
  have N0 := Fr.nil n0
  have pre0 : ∀ t, Steps p.tables e below (s₁.setTop (mkF m 0 #[.val (.int p1), .val (.int p2), .unset, .unset, .unset, .unset, .unset, .unset, .unset, .unset, .unset, .unset] [])) t → Steps p.tables e below (s₁.setTop (entryFrame m #[(.int p1), (.int p2)] maxLocals)) t := fun t k => castTop (ef_0 m p1 p2) k
  have pre1 : ∀ t, Steps p.tables e below (s₁.setTop (mkF m 20 #[.val (.int p1), .val (.int p2), .val (.int ((p2 &&& (2147483647 : Int32)) % (26 : Int32))), .val (.int ((65 : Int32) + ((p2 &&& (2147483647 : Int32)) % (26 : Int32)))), .val (.int ((97 : Int32) + ((p2 &&& (2147483647 : Int32)) % (26 : Int32)))), .unset, .unset, .unset, .unset, .unset, .unset, .unset] [(.int ((65 : Int32) + ((p2 &&& (2147483647 : Int32)) % (26 : Int32))))])) t → Steps p.tables e below (s₁.setTop (entryFrame m #[(.int p1), (.int p2)] maxLocals)) t := fun t k => pre0 t (by
    show Steps p.tables e below (s₁.setTop (mkF m 0 #[.val (.int p1), .val (.int p2), .unset, .unset, .unset, .unset, .unset, .unset, .unset, .unset, .unset, .unset] [])) t
    refine XS.iloadN X0.here hx rfl (hb hby at_0) rfl ?_
    show Steps p.tables e below (s₁.setTop (mkF m 1 #[.val (.int p1), .val (.int p2), .unset, .unset, .unset, .unset, .unset, .unset, .unset, .unset, .unset, .unset] [(.int p2)])) t
    refine X0.ldcInt hx hown (mvT hZ (hw _ (List.mem_of_getElem? (i := 0) rfl))) (g := (mkF m 1 #[.val (.int p1), .val (.int p2), .unset, .unset, .unset, .unset, .unset, .unset, .unset, .unset, .unset, .unset] [(.int p2)])) rfl (hb hby at_1) _ ?_
    show Steps p.tables e below (s₁.setTop (mkF m 3 #[.val (.int p1), .val (.int p2), .unset, .unset, .unset, .unset, .unset, .unset, .unset, .unset, .unset, .unset] [(.int (2147483647 : Int32)), (.int p2)])) t
    refine XS.iand X0.here hx rfl (hb hby at_3) rfl ?_
    show Steps p.tables e below (s₁.setTop (mkF m 4 #[.val (.int p1), .val (.int p2), .unset, .unset, .unset, .unset, .unset, .unset, .unset, .unset, .unset, .unset] [(.int (p2 &&& (2147483647 : Int32)))])) t
    refine XS.bipush X0.here hx rfl (hb hby at_4) ?_
    show Steps p.tables e below (s₁.setTop (mkF m 6 #[.val (.int p1), .val (.int p2), .unset, .unset, .unset, .unset, .unset, .unset, .unset, .unset, .unset, .unset] [(.int (26 : Int32)), (.int (p2 &&& (2147483647 : Int32)))])) t
    refine iremM X0 hx rfl (hb hby at_6) rfl (by decide) ?_
    show Steps p.tables e below (s₁.setTop (mkF m 7 #[.val (.int p1), .val (.int p2), .unset, .unset, .unset, .unset, .unset, .unset, .unset, .unset, .unset, .unset] [(.int ((p2 &&& (2147483647 : Int32)) % (26 : Int32)))])) t
    refine XS.istoreN X0.here hx rfl (hb hby at_7) rfl (l' := #[.val (.int p1), .val (.int p2), .val (.int ((p2 &&& (2147483647 : Int32)) % (26 : Int32))), .unset, .unset, .unset, .unset, .unset, .unset, .unset, .unset, .unset]) rfl ?_
    show Steps p.tables e below (s₁.setTop (mkF m 8 #[.val (.int p1), .val (.int p2), .val (.int ((p2 &&& (2147483647 : Int32)) % (26 : Int32))), .unset, .unset, .unset, .unset, .unset, .unset, .unset, .unset, .unset] [])) t
    refine XS.bipush X0.here hx rfl (hb hby at_8) ?_
    show Steps p.tables e below (s₁.setTop (mkF m 10 #[.val (.int p1), .val (.int p2), .val (.int ((p2 &&& (2147483647 : Int32)) % (26 : Int32))), .unset, .unset, .unset, .unset, .unset, .unset, .unset, .unset, .unset] [(.int (65 : Int32))])) t
    refine XS.iloadN X0.here hx rfl (hb hby at_10) rfl ?_
    show Steps p.tables e below (s₁.setTop (mkF m 11 #[.val (.int p1), .val (.int p2), .val (.int ((p2 &&& (2147483647 : Int32)) % (26 : Int32))), .unset, .unset, .unset, .unset, .unset, .unset, .unset, .unset, .unset] [(.int ((p2 &&& (2147483647 : Int32)) % (26 : Int32))), (.int (65 : Int32))])) t
    refine XS.iadd X0.here hx rfl (hb hby at_11) rfl ?_
    show Steps p.tables e below (s₁.setTop (mkF m 12 #[.val (.int p1), .val (.int p2), .val (.int ((p2 &&& (2147483647 : Int32)) % (26 : Int32))), .unset, .unset, .unset, .unset, .unset, .unset, .unset, .unset, .unset] [(.int ((65 : Int32) + ((p2 &&& (2147483647 : Int32)) % (26 : Int32))))])) t
    refine XS.istoreN X0.here hx rfl (hb hby at_12) rfl (l' := #[.val (.int p1), .val (.int p2), .val (.int ((p2 &&& (2147483647 : Int32)) % (26 : Int32))), .val (.int ((65 : Int32) + ((p2 &&& (2147483647 : Int32)) % (26 : Int32)))), .unset, .unset, .unset, .unset, .unset, .unset, .unset, .unset]) rfl ?_
    show Steps p.tables e below (s₁.setTop (mkF m 13 #[.val (.int p1), .val (.int p2), .val (.int ((p2 &&& (2147483647 : Int32)) % (26 : Int32))), .val (.int ((65 : Int32) + ((p2 &&& (2147483647 : Int32)) % (26 : Int32)))), .unset, .unset, .unset, .unset, .unset, .unset, .unset, .unset] [])) t
    refine XS.bipush X0.here hx rfl (hb hby at_13) ?_
    show Steps p.tables e below (s₁.setTop (mkF m 15 #[.val (.int p1), .val (.int p2), .val (.int ((p2 &&& (2147483647 : Int32)) % (26 : Int32))), .val (.int ((65 : Int32) + ((p2 &&& (2147483647 : Int32)) % (26 : Int32)))), .unset, .unset, .unset, .unset, .unset, .unset, .unset, .unset] [(.int (97 : Int32))])) t
    refine XS.iloadN X0.here hx rfl (hb hby at_15) rfl ?_
    show Steps p.tables e below (s₁.setTop (mkF m 16 #[.val (.int p1), .val (.int p2), .val (.int ((p2 &&& (2147483647 : Int32)) % (26 : Int32))), .val (.int ((65 : Int32) + ((p2 &&& (2147483647 : Int32)) % (26 : Int32)))), .unset, .unset, .unset, .unset, .unset, .unset, .unset, .unset] [(.int ((p2 &&& (2147483647 : Int32)) % (26 : Int32))), (.int (97 : Int32))])) t
    refine XS.iadd X0.here hx rfl (hb hby at_16) rfl ?_
    show Steps p.tables e below (s₁.setTop (mkF m 17 #[.val (.int p1), .val (.int p2), .val (.int ((p2 &&& (2147483647 : Int32)) % (26 : Int32))), .val (.int ((65 : Int32) + ((p2 &&& (2147483647 : Int32)) % (26 : Int32)))), .unset, .unset, .unset, .unset, .unset, .unset, .unset, .unset] [(.int ((97 : Int32) + ((p2 &&& (2147483647 : Int32)) % (26 : Int32))))])) t
    refine XS.istore X0.here hx rfl (hb hby at_17) rfl (l' := #[.val (.int p1), .val (.int p2), .val (.int ((p2 &&& (2147483647 : Int32)) % (26 : Int32))), .val (.int ((65 : Int32) + ((p2 &&& (2147483647 : Int32)) % (26 : Int32)))), .val (.int ((97 : Int32) + ((p2 &&& (2147483647 : Int32)) % (26 : Int32)))), .unset, .unset, .unset, .unset, .unset, .unset, .unset]) rfl ?_
    show Steps p.tables e below (s₁.setTop (mkF m 19 #[.val (.int p1), .val (.int p2), .val (.int ((p2 &&& (2147483647 : Int32)) % (26 : Int32))), .val (.int ((65 : Int32) + ((p2 &&& (2147483647 : Int32)) % (26 : Int32)))), .val (.int ((97 : Int32) + ((p2 &&& (2147483647 : Int32)) % (26 : Int32)))), .unset, .unset, .unset, .unset, .unset, .unset, .unset] [])) t
    refine XS.iloadN X0.here hx rfl (hb hby at_19) rfl ?_
    show Steps p.tables e below (s₁.setTop (mkF m 20 #[.val (.int p1), .val (.int p2), .val (.int ((p2 &&& (2147483647 : Int32)) % (26 : Int32))), .val (.int ((65 : Int32) + ((p2 &&& (2147483647 : Int32)) % (26 : Int32)))), .val (.int ((97 : Int32) + ((p2 &&& (2147483647 : Int32)) % (26 : Int32)))), .unset, .unset, .unset, .unset, .unset, .unset, .unset] [(.int ((65 : Int32) + ((p2 &&& (2147483647 : Int32)) % (26 : Int32))))])) t
    exact k)
  obtain ⟨_, _, ⟨T2, L2, k2, n2⟩, -, X2, ⟨Lc2, hQ2, l2, y2, z2⟩, st2⟩ := Jvm.LawKit.callS X0 hx (y := (⟨"com/example/charset_resolve/charsetresolve/sniff/Ascii", "toLowerCase", "(I)I"⟩ : MethodName)) hown (mvT hZ (hw _ (List.mem_of_getElem? (i := 1) rfl))) (mvT hZ (hw _ (List.mem_of_getElem? (i := 2) rfl))) (mvT hZ (hw _ (List.mem_of_getElem? (i := 3) rfl))) (mvT hZ (hw _ (List.mem_of_getElem? (i := 4) rfl))) (by decide) (backOf (W := 0) (rm1 l Z a0 hw [] ((65 : Int32) + ((p2 &&& (2147483647 : Int32)) % (26 : Int32))) h0 n0 Z0 ) hZ (hw _ (List.mem_of_getElem? (i := 4) rfl)) (hw _ (List.mem_of_getElem? (i := 3) rfl)) (by decide) (by decide)) (g := (mkF m 20 #[.val (.int p1), .val (.int p2), .val (.int ((p2 &&& (2147483647 : Int32)) % (26 : Int32))), .val (.int ((65 : Int32) + ((p2 &&& (2147483647 : Int32)) % (26 : Int32)))), .val (.int ((97 : Int32) + ((p2 &&& (2147483647 : Int32)) % (26 : Int32)))), .unset, .unset, .unset, .unset, .unset, .unset, .unset] [(.int ((65 : Int32) + ((p2 &&& (2147483647 : Int32)) % (26 : Int32))))])) rfl (by rw [hml]; rfl) (argsL := [(.int ((65 : Int32) + ((p2 &&& (2147483647 : Int32)) % (26 : Int32))))]) (rest := []) (lenOf pd_oIcI rfl) rfl (by show 2 * 0 + _ ≤ _; exact Nat.le_of_eq rfl) (hb hby at_20) (fun _ _ => ⟨rfl, eh0, (by decide : 0 + 0 ≤ _), (by decide : 0 + 0 ≤ _)⟩)
  dsimp only [Pt.U, Pt.locs, Pt.cells, Pt.slots] at X2 l2 y2 z2 st2 hQ2
  subst l2 y2 z2
  obtain ⟨rfl, N2q, eh2⟩ := hQ2
  have N2 := Fr.app N0 N2q
  have pre3 : ∀ t, Steps p.tables e below (T2.setTop (mkF m 23 #[.val (.int p1), .val (.int p2), .val (.int ((p2 &&& (2147483647 : Int32)) % (26 : Int32))), .val (.int ((65 : Int32) + ((p2 &&& (2147483647 : Int32)) % (26 : Int32)))), .val (.int ((97 : Int32) + ((p2 &&& (2147483647 : Int32)) % (26 : Int32)))), .unset, .unset, .unset, .unset, .unset, .unset, .unset] [(.int (own_low ((65 : Int32) + ((p2 &&& (2147483647 : Int32)) % (26 : Int32)))))])) t → Steps p.tables e below (s₁.setTop (entryFrame m #[(.int p1), (.int p2)] maxLocals)) t := fun t k => pre1 t (st2 _ k)
  have pre5 : ∀ t, Steps p.tables e below (T2.setTop (mkF m 30 #[.val (.int p1), .val (.int p2), .val (.int ((p2 &&& (2147483647 : Int32)) % (26 : Int32))), .val (.int ((65 : Int32) + ((p2 &&& (2147483647 : Int32)) % (26 : Int32)))), .val (.int ((97 : Int32) + ((p2 &&& (2147483647 : Int32)) % (26 : Int32)))), .unset, .unset, .unset, .unset, .unset, .unset, .unset] [(.int ((97 : Int32) + ((p2 &&& (2147483647 : Int32)) % (26 : Int32))))])) t → Steps p.tables e below (s₁.setTop (entryFrame m #[(.int p1), (.int p2)] maxLocals)) t := fun t k => pre3 t (by
    show Steps p.tables e below (T2.setTop (mkF m 23 #[.val (.int p1), .val (.int p2), .val (.int ((p2 &&& (2147483647 : Int32)) % (26 : Int32))), .val (.int ((65 : Int32) + ((p2 &&& (2147483647 : Int32)) % (26 : Int32)))), .val (.int ((97 : Int32) + ((p2 &&& (2147483647 : Int32)) % (26 : Int32)))), .unset, .unset, .unset, .unset, .unset, .unset, .unset] [(.int (own_low ((65 : Int32) + ((p2 &&& (2147483647 : Int32)) % (26 : Int32)))))])) t
    refine XS.iload X2.here hx rfl (hb hby at_23) rfl ?_
    show Steps p.tables e below (T2.setTop (mkF m 25 #[.val (.int p1), .val (.int p2), .val (.int ((p2 &&& (2147483647 : Int32)) % (26 : Int32))), .val (.int ((65 : Int32) + ((p2 &&& (2147483647 : Int32)) % (26 : Int32)))), .val (.int ((97 : Int32) + ((p2 &&& (2147483647 : Int32)) % (26 : Int32)))), .unset, .unset, .unset, .unset, .unset, .unset, .unset] [(.int ((97 : Int32) + ((p2 &&& (2147483647 : Int32)) % (26 : Int32)))), (.int (own_low ((65 : Int32) + ((p2 &&& (2147483647 : Int32)) % (26 : Int32)))))])) t
    refine XS.icmpNo X2.here hx rfl (hb hby at_25) rfl (XT.ii_ne_f (show (own_low ((65 : Int32) + ((p2 &&& (2147483647 : Int32)) % (26 : Int32)))) = ((97 : Int32) + ((p2 &&& (2147483647 : Int32)) % (26 : Int32))) from own_l1 _)) ?_
    show Steps p.tables e below (T2.setTop (mkF m 28 #[.val (.int p1), .val (.int p2), .val (.int ((p2 &&& (2147483647 : Int32)) % (26 : Int32))), .val (.int ((65 : Int32) + ((p2 &&& (2147483647 : Int32)) % (26 : Int32)))), .val (.int ((97 : Int32) + ((p2 &&& (2147483647 : Int32)) % (26 : Int32)))), .unset, .unset, .unset, .unset, .unset, .unset, .unset] [])) t
    refine XS.iload X2.here hx rfl (hb hby at_28) rfl ?_
    show Steps p.tables e below (T2.setTop (mkF m 30 #[.val (.int p1), .val (.int p2), .val (.int ((p2 &&& (2147483647 : Int32)) % (26 : Int32))), .val (.int ((65 : Int32) + ((p2 &&& (2147483647 : Int32)) % (26 : Int32)))), .val (.int ((97 : Int32) + ((p2 &&& (2147483647 : Int32)) % (26 : Int32)))), .unset, .unset, .unset, .unset, .unset, .unset, .unset] [(.int ((97 : Int32) + ((p2 &&& (2147483647 : Int32)) % (26 : Int32))))])) t
    exact k)
  obtain ⟨_, _, ⟨T6, L6, k6, n6⟩, -, X6, ⟨Lc6, hQ6, l6, y6, z6⟩, st6⟩ := Jvm.LawKit.callS X2 hx (y := (⟨"com/example/charset_resolve/charsetresolve/sniff/Ascii", "toLowerCase", "(I)I"⟩ : MethodName)) hown (mvT hZ (hw _ (List.mem_of_getElem? (i := 1) rfl))) (mvT hZ (hw _ (List.mem_of_getElem? (i := 2) rfl))) (mvT hZ (hw _ (List.mem_of_getElem? (i := 3) rfl))) (mvT hZ (hw _ (List.mem_of_getElem? (i := 4) rfl))) (by decide) (backOf (W := 0) (rm1 l Z a0 hw [] ((97 : Int32) + ((p2 &&& (2147483647 : Int32)) % (26 : Int32))) h0 n0 Z0 ) hZ (hw _ (List.mem_of_getElem? (i := 4) rfl)) (hw _ (List.mem_of_getElem? (i := 3) rfl)) (by decide) (by decide)) (g := (mkF m 30 #[.val (.int p1), .val (.int p2), .val (.int ((p2 &&& (2147483647 : Int32)) % (26 : Int32))), .val (.int ((65 : Int32) + ((p2 &&& (2147483647 : Int32)) % (26 : Int32)))), .val (.int ((97 : Int32) + ((p2 &&& (2147483647 : Int32)) % (26 : Int32)))), .unset, .unset, .unset, .unset, .unset, .unset, .unset] [(.int ((97 : Int32) + ((p2 &&& (2147483647 : Int32)) % (26 : Int32))))])) rfl (by rw [hml]; rfl) (argsL := [(.int ((97 : Int32) + ((p2 &&& (2147483647 : Int32)) % (26 : Int32))))]) (rest := []) (lenOf pd_oIcI rfl) rfl (by show 2 * 0 + _ ≤ _; exact Nat.le_of_eq rfl) (hb hby at_30) (fun _ _ => ⟨rfl, eh2, (by decide : 0 + 0 ≤ _), (by decide : 0 + 0 ≤ _)⟩)
  dsimp only [Pt.U, Pt.locs, Pt.cells, Pt.slots] at X6 l6 y6 z6 st6 hQ6
  subst l6 y6 z6
  obtain ⟨rfl, N6q, eh6⟩ := hQ6
  have N6 := Fr.app N2 N6q
  have pre7 : ∀ t, Steps p.tables e below (T6.setTop (mkF m 33 #[.val (.int p1), .val (.int p2), .val (.int ((p2 &&& (2147483647 : Int32)) % (26 : Int32))), .val (.int ((65 : Int32) + ((p2 &&& (2147483647 : Int32)) % (26 : Int32)))), .val (.int ((97 : Int32) + ((p2 &&& (2147483647 : Int32)) % (26 : Int32)))), .unset, .unset, .unset, .unset, .unset, .unset, .unset] [(.int (own_low ((97 : Int32) + ((p2 &&& (2147483647 : Int32)) % (26 : Int32)))))])) t → Steps p.tables e below (s₁.setTop (entryFrame m #[(.int p1), (.int p2)] maxLocals)) t := fun t k => pre5 t (st6 _ k)
  have pre10 : ∀ t, Steps p.tables e below (T6.setTop (mkF m 57 #[.val (.int p1), .val (.int p2), .val (.int ((p2 &&& (2147483647 : Int32)) % (26 : Int32))), .val (.int ((65 : Int32) + ((p2 &&& (2147483647 : Int32)) % (26 : Int32)))), .val (.int ((97 : Int32) + ((p2 &&& (2147483647 : Int32)) % (26 : Int32)))), .val (.int (1 : Int32)), .val (.long (p1.toInt64 - (65 : Int64))), .second, .unset, .unset, .unset, .unset] [(.int (XT.cmpL (p1.toInt64 - (65 : Int64)) (0 : Int64)))])) t → Steps p.tables e below (s₁.setTop (entryFrame m #[(.int p1), (.int p2)] maxLocals)) t := fun t k => pre7 t (by
    show Steps p.tables e below (T6.setTop (mkF m 33 #[.val (.int p1), .val (.int p2), .val (.int ((p2 &&& (2147483647 : Int32)) % (26 : Int32))), .val (.int ((65 : Int32) + ((p2 &&& (2147483647 : Int32)) % (26 : Int32)))), .val (.int ((97 : Int32) + ((p2 &&& (2147483647 : Int32)) % (26 : Int32)))), .unset, .unset, .unset, .unset, .unset, .unset, .unset] [(.int (own_low ((97 : Int32) + ((p2 &&& (2147483647 : Int32)) % (26 : Int32)))))])) t
    refine XS.iload X6.here hx rfl (hb hby at_33) rfl ?_
    show Steps p.tables e below (T6.setTop (mkF m 35 #[.val (.int p1), .val (.int p2), .val (.int ((p2 &&& (2147483647 : Int32)) % (26 : Int32))), .val (.int ((65 : Int32) + ((p2 &&& (2147483647 : Int32)) % (26 : Int32)))), .val (.int ((97 : Int32) + ((p2 &&& (2147483647 : Int32)) % (26 : Int32)))), .unset, .unset, .unset, .unset, .unset, .unset, .unset] [(.int ((97 : Int32) + ((p2 &&& (2147483647 : Int32)) % (26 : Int32)))), (.int (own_low ((97 : Int32) + ((p2 &&& (2147483647 : Int32)) % (26 : Int32)))))])) t
    refine XS.icmpNo X6.here hx rfl (hb hby at_35) rfl (XT.ii_ne_f (show (own_low ((97 : Int32) + ((p2 &&& (2147483647 : Int32)) % (26 : Int32)))) = ((97 : Int32) + ((p2 &&& (2147483647 : Int32)) % (26 : Int32))) from own_l2 _)) ?_
    show Steps p.tables e below (T6.setTop (mkF m 38 #[.val (.int p1), .val (.int p2), .val (.int ((p2 &&& (2147483647 : Int32)) % (26 : Int32))), .val (.int ((65 : Int32) + ((p2 &&& (2147483647 : Int32)) % (26 : Int32)))), .val (.int ((97 : Int32) + ((p2 &&& (2147483647 : Int32)) % (26 : Int32)))), .unset, .unset, .unset, .unset, .unset, .unset, .unset] [])) t
    refine XS.iconst X6.here hx rfl (hb hby at_38) ?_
    show Steps p.tables e below (T6.setTop (mkF m 39 #[.val (.int p1), .val (.int p2), .val (.int ((p2 &&& (2147483647 : Int32)) % (26 : Int32))), .val (.int ((65 : Int32) + ((p2 &&& (2147483647 : Int32)) % (26 : Int32)))), .val (.int ((97 : Int32) + ((p2 &&& (2147483647 : Int32)) % (26 : Int32)))), .unset, .unset, .unset, .unset, .unset, .unset, .unset] [(.int (1 : Int32))])) t
    refine XS.goto X6.here hx rfl (pc0 := 39) (pc' := 43) rfl (hb hby at_39) (by decide) (by decide) ?_
    show Steps p.tables e below (T6.setTop (mkF m 43 #[.val (.int p1), .val (.int p2), .val (.int ((p2 &&& (2147483647 : Int32)) % (26 : Int32))), .val (.int ((65 : Int32) + ((p2 &&& (2147483647 : Int32)) % (26 : Int32)))), .val (.int ((97 : Int32) + ((p2 &&& (2147483647 : Int32)) % (26 : Int32)))), .unset, .unset, .unset, .unset, .unset, .unset, .unset] [(.int (1 : Int32))])) t
    refine XS.istore X6.here hx rfl (hb hby at_43) rfl (l' := #[.val (.int p1), .val (.int p2), .val (.int ((p2 &&& (2147483647 : Int32)) % (26 : Int32))), .val (.int ((65 : Int32) + ((p2 &&& (2147483647 : Int32)) % (26 : Int32)))), .val (.int ((97 : Int32) + ((p2 &&& (2147483647 : Int32)) % (26 : Int32)))), .val (.int (1 : Int32)), .unset, .unset, .unset, .unset, .unset, .unset]) rfl ?_
    show Steps p.tables e below (T6.setTop (mkF m 45 #[.val (.int p1), .val (.int p2), .val (.int ((p2 &&& (2147483647 : Int32)) % (26 : Int32))), .val (.int ((65 : Int32) + ((p2 &&& (2147483647 : Int32)) % (26 : Int32)))), .val (.int ((97 : Int32) + ((p2 &&& (2147483647 : Int32)) % (26 : Int32)))), .val (.int (1 : Int32)), .unset, .unset, .unset, .unset, .unset, .unset] [])) t
    refine XS.iloadN X6.here hx rfl (hb hby at_45) rfl ?_
    show Steps p.tables e below (T6.setTop (mkF m 46 #[.val (.int p1), .val (.int p2), .val (.int ((p2 &&& (2147483647 : Int32)) % (26 : Int32))), .val (.int ((65 : Int32) + ((p2 &&& (2147483647 : Int32)) % (26 : Int32)))), .val (.int ((97 : Int32) + ((p2 &&& (2147483647 : Int32)) % (26 : Int32)))), .val (.int (1 : Int32)), .unset, .unset, .unset, .unset, .unset, .unset] [(.int p1)])) t
    refine XT.i2l X6.here hx rfl (hb hby at_46) rfl ?_
    show Steps p.tables e below (T6.setTop (mkF m 47 #[.val (.int p1), .val (.int p2), .val (.int ((p2 &&& (2147483647 : Int32)) % (26 : Int32))), .val (.int ((65 : Int32) + ((p2 &&& (2147483647 : Int32)) % (26 : Int32)))), .val (.int ((97 : Int32) + ((p2 &&& (2147483647 : Int32)) % (26 : Int32)))), .val (.int (1 : Int32)), .unset, .unset, .unset, .unset, .unset, .unset] [(.long p1.toInt64)])) t
    refine X6.ldc2Long hx hown (mvT hZ (hw _ (List.mem_of_getElem? (i := 5) rfl))) (g := (mkF m 47 #[.val (.int p1), .val (.int p2), .val (.int ((p2 &&& (2147483647 : Int32)) % (26 : Int32))), .val (.int ((65 : Int32) + ((p2 &&& (2147483647 : Int32)) % (26 : Int32)))), .val (.int ((97 : Int32) + ((p2 &&& (2147483647 : Int32)) % (26 : Int32)))), .val (.int (1 : Int32)), .unset, .unset, .unset, .unset, .unset, .unset] [(.long p1.toInt64)])) rfl (hb hby at_47) _ ?_
    show Steps p.tables e below (T6.setTop (mkF m 50 #[.val (.int p1), .val (.int p2), .val (.int ((p2 &&& (2147483647 : Int32)) % (26 : Int32))), .val (.int ((65 : Int32) + ((p2 &&& (2147483647 : Int32)) % (26 : Int32)))), .val (.int ((97 : Int32) + ((p2 &&& (2147483647 : Int32)) % (26 : Int32)))), .val (.int (1 : Int32)), .unset, .unset, .unset, .unset, .unset, .unset] [(.long (65 : Int64)), (.long p1.toInt64)])) t
    refine XT.lsub X6.here hx rfl (hb hby at_50) rfl ?_
    show Steps p.tables e below (T6.setTop (mkF m 51 #[.val (.int p1), .val (.int p2), .val (.int ((p2 &&& (2147483647 : Int32)) % (26 : Int32))), .val (.int ((65 : Int32) + ((p2 &&& (2147483647 : Int32)) % (26 : Int32)))), .val (.int ((97 : Int32) + ((p2 &&& (2147483647 : Int32)) % (26 : Int32)))), .val (.int (1 : Int32)), .unset, .unset, .unset, .unset, .unset, .unset] [(.long (p1.toInt64 - (65 : Int64)))])) t
    refine XT.lstore X6.here hx rfl (hb hby at_51) rfl (l' := #[.val (.int p1), .val (.int p2), .val (.int ((p2 &&& (2147483647 : Int32)) % (26 : Int32))), .val (.int ((65 : Int32) + ((p2 &&& (2147483647 : Int32)) % (26 : Int32)))), .val (.int ((97 : Int32) + ((p2 &&& (2147483647 : Int32)) % (26 : Int32)))), .val (.int (1 : Int32)), .val (.long (p1.toInt64 - (65 : Int64))), .second, .unset, .unset, .unset, .unset]) rfl ?_
    show Steps p.tables e below (T6.setTop (mkF m 53 #[.val (.int p1), .val (.int p2), .val (.int ((p2 &&& (2147483647 : Int32)) % (26 : Int32))), .val (.int ((65 : Int32) + ((p2 &&& (2147483647 : Int32)) % (26 : Int32)))), .val (.int ((97 : Int32) + ((p2 &&& (2147483647 : Int32)) % (26 : Int32)))), .val (.int (1 : Int32)), .val (.long (p1.toInt64 - (65 : Int64))), .second, .unset, .unset, .unset, .unset] [])) t
    refine XT.lload X6.here hx rfl (hb hby at_53) rfl ?_
    show Steps p.tables e below (T6.setTop (mkF m 55 #[.val (.int p1), .val (.int p2), .val (.int ((p2 &&& (2147483647 : Int32)) % (26 : Int32))), .val (.int ((65 : Int32) + ((p2 &&& (2147483647 : Int32)) % (26 : Int32)))), .val (.int ((97 : Int32) + ((p2 &&& (2147483647 : Int32)) % (26 : Int32)))), .val (.int (1 : Int32)), .val (.long (p1.toInt64 - (65 : Int64))), .second, .unset, .unset, .unset, .unset] [(.long (p1.toInt64 - (65 : Int64)))])) t
    refine XT.lconstV X6.here hx rfl (0 : Int64) (hb hby at_55) (by decide) ?_
    show Steps p.tables e below (T6.setTop (mkF m 56 #[.val (.int p1), .val (.int p2), .val (.int ((p2 &&& (2147483647 : Int32)) % (26 : Int32))), .val (.int ((65 : Int32) + ((p2 &&& (2147483647 : Int32)) % (26 : Int32)))), .val (.int ((97 : Int32) + ((p2 &&& (2147483647 : Int32)) % (26 : Int32)))), .val (.int (1 : Int32)), .val (.long (p1.toInt64 - (65 : Int64))), .second, .unset, .unset, .unset, .unset] [(.long (0 : Int64)), (.long (p1.toInt64 - (65 : Int64)))])) t
    refine XT.lcmp X6.here hx rfl (hb hby at_56) rfl ?_
    show Steps p.tables e below (T6.setTop (mkF m 57 #[.val (.int p1), .val (.int p2), .val (.int ((p2 &&& (2147483647 : Int32)) % (26 : Int32))), .val (.int ((65 : Int32) + ((p2 &&& (2147483647 : Int32)) % (26 : Int32)))), .val (.int ((97 : Int32) + ((p2 &&& (2147483647 : Int32)) % (26 : Int32)))), .val (.int (1 : Int32)), .val (.long (p1.toInt64 - (65 : Int64))), .second, .unset, .unset, .unset, .unset] [(.int (XT.cmpL (p1.toInt64 - (65 : Int64)) (0 : Int64)))])) t
    exact k)
  by_cases hc57_9 : (p1.toInt64 - (65 : Int64)) < (0 : Int64)
  · skip
    have pre11 : ∀ t, Steps p.tables e below (T6.setTop (mkF m 77 #[.val (.int p1), .val (.int p2), .val (.int ((p2 &&& (2147483647 : Int32)) % (26 : Int32))), .val (.int ((65 : Int32) + ((p2 &&& (2147483647 : Int32)) % (26 : Int32)))), .val (.int ((97 : Int32) + ((p2 &&& (2147483647 : Int32)) % (26 : Int32)))), .val (.int (1 : Int32)), .val (.long (p1.toInt64 - (65 : Int64))), .second, .val (.int (0 : Int32)), .unset, .unset, .unset] [(.int p1)])) t → Steps p.tables e below (s₁.setTop (entryFrame m #[(.int p1), (.int p2)] maxLocals)) t := fun t k => pre10 t (by
      show Steps p.tables e below (T6.setTop (mkF m 57 #[.val (.int p1), .val (.int p2), .val (.int ((p2 &&& (2147483647 : Int32)) % (26 : Int32))), .val (.int ((65 : Int32) + ((p2 &&& (2147483647 : Int32)) % (26 : Int32)))), .val (.int ((97 : Int32) + ((p2 &&& (2147483647 : Int32)) % (26 : Int32)))), .val (.int (1 : Int32)), .val (.long (p1.toInt64 - (65 : Int64))), .second, .unset, .unset, .unset, .unset] [(.int (XT.cmpL (p1.toInt64 - (65 : Int64)) (0 : Int64)))])) t
      refine XS.ifYes X6.here hx rfl (pc0 := 57) (pc' := 73) rfl (hb hby at_57) rfl (XT.ll_lt_t hc57_9) (by decide) (by decide) ?_
      show Steps p.tables e below (T6.setTop (mkF m 73 #[.val (.int p1), .val (.int p2), .val (.int ((p2 &&& (2147483647 : Int32)) % (26 : Int32))), .val (.int ((65 : Int32) + ((p2 &&& (2147483647 : Int32)) % (26 : Int32)))), .val (.int ((97 : Int32) + ((p2 &&& (2147483647 : Int32)) % (26 : Int32)))), .val (.int (1 : Int32)), .val (.long (p1.toInt64 - (65 : Int64))), .second, .unset, .unset, .unset, .unset] [])) t
      refine XS.iconst X6.here hx rfl (hb hby at_73) ?_
      show Steps p.tables e below (T6.setTop (mkF m 74 #[.val (.int p1), .val (.int p2), .val (.int ((p2 &&& (2147483647 : Int32)) % (26 : Int32))), .val (.int ((65 : Int32) + ((p2 &&& (2147483647 : Int32)) % (26 : Int32)))), .val (.int ((97 : Int32) + ((p2 &&& (2147483647 : Int32)) % (26 : Int32)))), .val (.int (1 : Int32)), .val (.long (p1.toInt64 - (65 : Int64))), .second, .unset, .unset, .unset, .unset] [(.int (0 : Int32))])) t
      refine XS.istore X6.here hx rfl (hb hby at_74) rfl (l' := #[.val (.int p1), .val (.int p2), .val (.int ((p2 &&& (2147483647 : Int32)) % (26 : Int32))), .val (.int ((65 : Int32) + ((p2 &&& (2147483647 : Int32)) % (26 : Int32)))), .val (.int ((97 : Int32) + ((p2 &&& (2147483647 : Int32)) % (26 : Int32)))), .val (.int (1 : Int32)), .val (.long (p1.toInt64 - (65 : Int64))), .second, .val (.int (0 : Int32)), .unset, .unset, .unset]) rfl ?_
      show Steps p.tables e below (T6.setTop (mkF m 76 #[.val (.int p1), .val (.int p2), .val (.int ((p2 &&& (2147483647 : Int32)) % (26 : Int32))), .val (.int ((65 : Int32) + ((p2 &&& (2147483647 : Int32)) % (26 : Int32)))), .val (.int ((97 : Int32) + ((p2 &&& (2147483647 : Int32)) % (26 : Int32)))), .val (.int (1 : Int32)), .val (.long (p1.toInt64 - (65 : Int64))), .second, .val (.int (0 : Int32)), .unset, .unset, .unset] [])) t
      refine XS.iloadN X6.here hx rfl (hb hby at_76) rfl ?_
      show Steps p.tables e below (T6.setTop (mkF m 77 #[.val (.int p1), .val (.int p2), .val (.int ((p2 &&& (2147483647 : Int32)) % (26 : Int32))), .val (.int ((65 : Int32) + ((p2 &&& (2147483647 : Int32)) % (26 : Int32)))), .val (.int ((97 : Int32) + ((p2 &&& (2147483647 : Int32)) % (26 : Int32)))), .val (.int (1 : Int32)), .val (.long (p1.toInt64 - (65 : Int64))), .second, .val (.int (0 : Int32)), .unset, .unset, .unset] [(.int p1)])) t
      exact k)
    obtain ⟨_, _, ⟨T12, L12, k12, n12⟩, -, X12, ⟨Lc12, hQ12, l12, y12, z12⟩, st12⟩ := Jvm.LawKit.callS X6 hx (y := (⟨"com/example/charset_resolve/charsetresolve/sniff/Ascii", "toLowerCase", "(I)I"⟩ : MethodName)) hown (mvT hZ (hw _ (List.mem_of_getElem? (i := 1) rfl))) (mvT hZ (hw _ (List.mem_of_getElem? (i := 2) rfl))) (mvT hZ (hw _ (List.mem_of_getElem? (i := 3) rfl))) (mvT hZ (hw _ (List.mem_of_getElem? (i := 4) rfl))) (by decide) (backOf (W := 0) (rm1 l Z a0 hw [] p1 h0 n0 Z0 ) hZ (hw _ (List.mem_of_getElem? (i := 4) rfl)) (hw _ (List.mem_of_getElem? (i := 3) rfl)) (by decide) (by decide)) (g := (mkF m 77 #[.val (.int p1), .val (.int p2), .val (.int ((p2 &&& (2147483647 : Int32)) % (26 : Int32))), .val (.int ((65 : Int32) + ((p2 &&& (2147483647 : Int32)) % (26 : Int32)))), .val (.int ((97 : Int32) + ((p2 &&& (2147483647 : Int32)) % (26 : Int32)))), .val (.int (1 : Int32)), .val (.long (p1.toInt64 - (65 : Int64))), .second, .val (.int (0 : Int32)), .unset, .unset, .unset] [(.int p1)])) rfl (by rw [hml]; rfl) (argsL := [(.int p1)]) (rest := []) (lenOf pd_oIcI rfl) rfl (by show 2 * 0 + _ ≤ _; exact Nat.le_of_eq rfl) (hb hby at_77) (fun _ _ => ⟨rfl, eh6, (by decide : 0 + 0 ≤ _), (by decide : 0 + 0 ≤ _)⟩)
    dsimp only [Pt.U, Pt.locs, Pt.cells, Pt.slots] at X12 l12 y12 z12 st12 hQ12
    subst l12 y12 z12
    obtain ⟨rfl, N12q, eh12⟩ := hQ12
    have N12 := Fr.app N6 N12q
    have pre13 : ∀ t, Steps p.tables e below (T12.setTop (mkF m 80 #[.val (.int p1), .val (.int p2), .val (.int ((p2 &&& (2147483647 : Int32)) % (26 : Int32))), .val (.int ((65 : Int32) + ((p2 &&& (2147483647 : Int32)) % (26 : Int32)))), .val (.int ((97 : Int32) + ((p2 &&& (2147483647 : Int32)) % (26 : Int32)))), .val (.int (1 : Int32)), .val (.long (p1.toInt64 - (65 : Int64))), .second, .val (.int (0 : Int32)), .unset, .unset, .unset] [(.int (own_low p1))])) t → Steps p.tables e below (s₁.setTop (entryFrame m #[(.int p1), (.int p2)] maxLocals)) t := fun t k => pre11 t (st12 _ k)
    have pre16 : ∀ t, Steps p.tables e below (T12.setTop (mkF m 119 #[.val (.int p1), .val (.int p2), .val (.int ((p2 &&& (2147483647 : Int32)) % (26 : Int32))), .val (.int ((65 : Int32) + ((p2 &&& (2147483647 : Int32)) % (26 : Int32)))), .val (.int ((97 : Int32) + ((p2 &&& (2147483647 : Int32)) % (26 : Int32)))), .val (.int (1 : Int32)), .val (.long (p1.toInt64 - (65 : Int64))), .second, .val (.int (0 : Int32)), .val (.int (own_low p1)), .val (.int (1 : Int32)), .unset] [(.int (own_low p1))])) t → Steps p.tables e below (s₁.setTop (entryFrame m #[(.int p1), (.int p2)] maxLocals)) t := fun t k => pre13 t (by
      show Steps p.tables e below (T12.setTop (mkF m 80 #[.val (.int p1), .val (.int p2), .val (.int ((p2 &&& (2147483647 : Int32)) % (26 : Int32))), .val (.int ((65 : Int32) + ((p2 &&& (2147483647 : Int32)) % (26 : Int32)))), .val (.int ((97 : Int32) + ((p2 &&& (2147483647 : Int32)) % (26 : Int32)))), .val (.int (1 : Int32)), .val (.long (p1.toInt64 - (65 : Int64))), .second, .val (.int (0 : Int32)), .unset, .unset, .unset] [(.int (own_low p1))])) t
      refine XS.istore X12.here hx rfl (hb hby at_80) rfl (l' := #[.val (.int p1), .val (.int p2), .val (.int ((p2 &&& (2147483647 : Int32)) % (26 : Int32))), .val (.int ((65 : Int32) + ((p2 &&& (2147483647 : Int32)) % (26 : Int32)))), .val (.int ((97 : Int32) + ((p2 &&& (2147483647 : Int32)) % (26 : Int32)))), .val (.int (1 : Int32)), .val (.long (p1.toInt64 - (65 : Int64))), .second, .val (.int (0 : Int32)), .val (.int (own_low p1)), .unset, .unset]) rfl ?_
      show Steps p.tables e below (T12.setTop (mkF m 82 #[.val (.int p1), .val (.int p2), .val (.int ((p2 &&& (2147483647 : Int32)) % (26 : Int32))), .val (.int ((65 : Int32) + ((p2 &&& (2147483647 : Int32)) % (26 : Int32)))), .val (.int ((97 : Int32) + ((p2 &&& (2147483647 : Int32)) % (26 : Int32)))), .val (.int (1 : Int32)), .val (.long (p1.toInt64 - (65 : Int64))), .second, .val (.int (0 : Int32)), .val (.int (own_low p1)), .unset, .unset] [])) t
      refine XS.iload X12.here hx rfl (hb hby at_82) rfl ?_
      show Steps p.tables e below (T12.setTop (mkF m 84 #[.val (.int p1), .val (.int p2), .val (.int ((p2 &&& (2147483647 : Int32)) % (26 : Int32))), .val (.int ((65 : Int32) + ((p2 &&& (2147483647 : Int32)) % (26 : Int32)))), .val (.int ((97 : Int32) + ((p2 &&& (2147483647 : Int32)) % (26 : Int32)))), .val (.int (1 : Int32)), .val (.long (p1.toInt64 - (65 : Int64))), .second, .val (.int (0 : Int32)), .val (.int (own_low p1)), .unset, .unset] [(.int (0 : Int32))])) t
      refine XS.ifYes X12.here hx rfl (pc0 := 84) (pc' := 104) rfl (hb hby at_84) rfl (XT.i0_eq_t (show (0 : Int32) = (0 : Int32) from by decide)) (by decide) (by decide) ?_
      show Steps p.tables e below (T12.setTop (mkF m 104 #[.val (.int p1), .val (.int p2), .val (.int ((p2 &&& (2147483647 : Int32)) % (26 : Int32))), .val (.int ((65 : Int32) + ((p2 &&& (2147483647 : Int32)) % (26 : Int32)))), .val (.int ((97 : Int32) + ((p2 &&& (2147483647 : Int32)) % (26 : Int32)))), .val (.int (1 : Int32)), .val (.long (p1.toInt64 - (65 : Int64))), .second, .val (.int (0 : Int32)), .val (.int (own_low p1)), .unset, .unset] [])) t
      refine XS.iload X12.here hx rfl (hb hby at_104) rfl ?_
      show Steps p.tables e below (T12.setTop (mkF m 106 #[.val (.int p1), .val (.int p2), .val (.int ((p2 &&& (2147483647 : Int32)) % (26 : Int32))), .val (.int ((65 : Int32) + ((p2 &&& (2147483647 : Int32)) % (26 : Int32)))), .val (.int ((97 : Int32) + ((p2 &&& (2147483647 : Int32)) % (26 : Int32)))), .val (.int (1 : Int32)), .val (.long (p1.toInt64 - (65 : Int64))), .second, .val (.int (0 : Int32)), .val (.int (own_low p1)), .unset, .unset] [(.int (own_low p1))])) t
      refine XS.iloadN X12.here hx rfl (hb hby at_106) rfl ?_
      show Steps p.tables e below (T12.setTop (mkF m 107 #[.val (.int p1), .val (.int p2), .val (.int ((p2 &&& (2147483647 : Int32)) % (26 : Int32))), .val (.int ((65 : Int32) + ((p2 &&& (2147483647 : Int32)) % (26 : Int32)))), .val (.int ((97 : Int32) + ((p2 &&& (2147483647 : Int32)) % (26 : Int32)))), .val (.int (1 : Int32)), .val (.long (p1.toInt64 - (65 : Int64))), .second, .val (.int (0 : Int32)), .val (.int (own_low p1)), .unset, .unset] [(.int p1), (.int (own_low p1))])) t
      refine XS.icmpNo X12.here hx rfl (hb hby at_107) rfl (XT.ii_ne_f (show (own_low p1) = p1 from by first | exact own_lo (by assumption) | exact own_hi (by assumption))) ?_
      show Steps p.tables e below (T12.setTop (mkF m 110 #[.val (.int p1), .val (.int p2), .val (.int ((p2 &&& (2147483647 : Int32)) % (26 : Int32))), .val (.int ((65 : Int32) + ((p2 &&& (2147483647 : Int32)) % (26 : Int32)))), .val (.int ((97 : Int32) + ((p2 &&& (2147483647 : Int32)) % (26 : Int32)))), .val (.int (1 : Int32)), .val (.long (p1.toInt64 - (65 : Int64))), .second, .val (.int (0 : Int32)), .val (.int (own_low p1)), .unset, .unset] [])) t
      refine XS.iconst X12.here hx rfl (hb hby at_110) ?_
      show Steps p.tables e below (T12.setTop (mkF m 111 #[.val (.int p1), .val (.int p2), .val (.int ((p2 &&& (2147483647 : Int32)) % (26 : Int32))), .val (.int ((65 : Int32) + ((p2 &&& (2147483647 : Int32)) % (26 : Int32)))), .val (.int ((97 : Int32) + ((p2 &&& (2147483647 : Int32)) % (26 : Int32)))), .val (.int (1 : Int32)), .val (.long (p1.toInt64 - (65 : Int64))), .second, .val (.int (0 : Int32)), .val (.int (own_low p1)), .unset, .unset] [(.int (1 : Int32))])) t
      refine XS.goto X12.here hx rfl (pc0 := 111) (pc' := 115) rfl (hb hby at_111) (by decide) (by decide) ?_
      show Steps p.tables e below (T12.setTop (mkF m 115 #[.val (.int p1), .val (.int p2), .val (.int ((p2 &&& (2147483647 : Int32)) % (26 : Int32))), .val (.int ((65 : Int32) + ((p2 &&& (2147483647 : Int32)) % (26 : Int32)))), .val (.int ((97 : Int32) + ((p2 &&& (2147483647 : Int32)) % (26 : Int32)))), .val (.int (1 : Int32)), .val (.long (p1.toInt64 - (65 : Int64))), .second, .val (.int (0 : Int32)), .val (.int (own_low p1)), .unset, .unset] [(.int (1 : Int32))])) t
      refine XS.istore X12.here hx rfl (hb hby at_115) rfl (l' := #[.val (.int p1), .val (.int p2), .val (.int ((p2 &&& (2147483647 : Int32)) % (26 : Int32))), .val (.int ((65 : Int32) + ((p2 &&& (2147483647 : Int32)) % (26 : Int32)))), .val (.int ((97 : Int32) + ((p2 &&& (2147483647 : Int32)) % (26 : Int32)))), .val (.int (1 : Int32)), .val (.long (p1.toInt64 - (65 : Int64))), .second, .val (.int (0 : Int32)), .val (.int (own_low p1)), .val (.int (1 : Int32)), .unset]) rfl ?_
      show Steps p.tables e below (T12.setTop (mkF m 117 #[.val (.int p1), .val (.int p2), .val (.int ((p2 &&& (2147483647 : Int32)) % (26 : Int32))), .val (.int ((65 : Int32) + ((p2 &&& (2147483647 : Int32)) % (26 : Int32)))), .val (.int ((97 : Int32) + ((p2 &&& (2147483647 : Int32)) % (26 : Int32)))), .val (.int (1 : Int32)), .val (.long (p1.toInt64 - (65 : Int64))), .second, .val (.int (0 : Int32)), .val (.int (own_low p1)), .val (.int (1 : Int32)), .unset] [])) t
      refine XS.iload X12.here hx rfl (hb hby at_117) rfl ?_
      show Steps p.tables e below (T12.setTop (mkF m 119 #[.val (.int p1), .val (.int p2), .val (.int ((p2 &&& (2147483647 : Int32)) % (26 : Int32))), .val (.int ((65 : Int32) + ((p2 &&& (2147483647 : Int32)) % (26 : Int32)))), .val (.int ((97 : Int32) + ((p2 &&& (2147483647 : Int32)) % (26 : Int32)))), .val (.int (1 : Int32)), .val (.long (p1.toInt64 - (65 : Int64))), .second, .val (.int (0 : Int32)), .val (.int (own_low p1)), .val (.int (1 : Int32)), .unset] [(.int (own_low p1))])) t
      exact k)
    obtain ⟨_, _, ⟨T17, L17, k17, n17⟩, -, X17, ⟨Lc17, hQ17, l17, y17, z17⟩, st17⟩ := Jvm.LawKit.callS X12 hx (y := (⟨"com/example/charset_resolve/charsetresolve/sniff/Ascii", "toLowerCase", "(I)I"⟩ : MethodName)) hown (mvT hZ (hw _ (List.mem_of_getElem? (i := 1) rfl))) (mvT hZ (hw _ (List.mem_of_getElem? (i := 2) rfl))) (mvT hZ (hw _ (List.mem_of_getElem? (i := 3) rfl))) (mvT hZ (hw _ (List.mem_of_getElem? (i := 4) rfl))) (by decide) (backOf (W := 0) (rm1 l Z a0 hw [] (own_low p1) h0 n0 Z0 ) hZ (hw _ (List.mem_of_getElem? (i := 4) rfl)) (hw _ (List.mem_of_getElem? (i := 3) rfl)) (by decide) (by decide)) (g := (mkF m 119 #[.val (.int p1), .val (.int p2), .val (.int ((p2 &&& (2147483647 : Int32)) % (26 : Int32))), .val (.int ((65 : Int32) + ((p2 &&& (2147483647 : Int32)) % (26 : Int32)))), .val (.int ((97 : Int32) + ((p2 &&& (2147483647 : Int32)) % (26 : Int32)))), .val (.int (1 : Int32)), .val (.long (p1.toInt64 - (65 : Int64))), .second, .val (.int (0 : Int32)), .val (.int (own_low p1)), .val (.int (1 : Int32)), .unset] [(.int (own_low p1))])) rfl (by rw [hml]; rfl) (argsL := [(.int (own_low p1))]) (rest := []) (lenOf pd_oIcI rfl) rfl (by show 2 * 0 + _ ≤ _; exact Nat.le_of_eq rfl) (hb hby at_119) (fun _ _ => ⟨rfl, eh12, (by decide : 0 + 0 ≤ _), (by decide : 0 + 0 ≤ _)⟩)
    dsimp only [Pt.U, Pt.locs, Pt.cells, Pt.slots] at X17 l17 y17 z17 st17 hQ17
    subst l17 y17 z17
    obtain ⟨rfl, N17q, eh17⟩ := hQ17
    have N17 := Fr.app N12 N17q
    have pre18 : ∀ t, Steps p.tables e below (T17.setTop (mkF m 122 #[.val (.int p1), .val (.int p2), .val (.int ((p2 &&& (2147483647 : Int32)) % (26 : Int32))), .val (.int ((65 : Int32) + ((p2 &&& (2147483647 : Int32)) % (26 : Int32)))), .val (.int ((97 : Int32) + ((p2 &&& (2147483647 : Int32)) % (26 : Int32)))), .val (.int (1 : Int32)), .val (.long (p1.toInt64 - (65 : Int64))), .second, .val (.int (0 : Int32)), .val (.int (own_low p1)), .val (.int (1 : Int32)), .unset] [(.int (own_low (own_low p1)))])) t → Steps p.tables e below (s₁.setTop (entryFrame m #[(.int p1), (.int p2)] maxLocals)) t := fun t k => pre16 t (st17 _ k)
    have pre23 : ∀ t, Steps p.tables e below (T17.setTop (mkF m 154 #[.val (.int p1), .val (.int p2), .val (.int ((p2 &&& (2147483647 : Int32)) % (26 : Int32))), .val (.int ((65 : Int32) + ((p2 &&& (2147483647 : Int32)) % (26 : Int32)))), .val (.int ((97 : Int32) + ((p2 &&& (2147483647 : Int32)) % (26 : Int32)))), .val (.int (1 : Int32)), .val (.long (p1.toInt64 - (65 : Int64))), .second, .val (.int (0 : Int32)), .val (.int (own_low p1)), .val (.int (1 : Int32)), .val (.int (1 : Int32))] [(.int (1 : Int32))])) t → Steps p.tables e below (s₁.setTop (entryFrame m #[(.int p1), (.int p2)] maxLocals)) t := fun t k => pre18 t (by
      show Steps p.tables e below (T17.setTop (mkF m 122 #[.val (.int p1), .val (.int p2), .val (.int ((p2 &&& (2147483647 : Int32)) % (26 : Int32))), .val (.int ((65 : Int32) + ((p2 &&& (2147483647 : Int32)) % (26 : Int32)))), .val (.int ((97 : Int32) + ((p2 &&& (2147483647 : Int32)) % (26 : Int32)))), .val (.int (1 : Int32)), .val (.long (p1.toInt64 - (65 : Int64))), .second, .val (.int (0 : Int32)), .val (.int (own_low p1)), .val (.int (1 : Int32)), .unset] [(.int (own_low (own_low p1)))])) t
      refine XS.iload X17.here hx rfl (hb hby at_122) rfl ?_
      show Steps p.tables e below (T17.setTop (mkF m 124 #[.val (.int p1), .val (.int p2), .val (.int ((p2 &&& (2147483647 : Int32)) % (26 : Int32))), .val (.int ((65 : Int32) + ((p2 &&& (2147483647 : Int32)) % (26 : Int32)))), .val (.int ((97 : Int32) + ((p2 &&& (2147483647 : Int32)) % (26 : Int32)))), .val (.int (1 : Int32)), .val (.long (p1.toInt64 - (65 : Int64))), .second, .val (.int (0 : Int32)), .val (.int (own_low p1)), .val (.int (1 : Int32)), .unset] [(.int (own_low p1)), (.int (own_low (own_low p1)))])) t
      refine XS.icmpNo X17.here hx rfl (hb hby at_124) rfl (XT.ii_ne_f (show (own_low (own_low p1)) = (own_low p1) from own_idem _)) ?_
      show Steps p.tables e below (T17.setTop (mkF m 127 #[.val (.int p1), .val (.int p2), .val (.int ((p2 &&& (2147483647 : Int32)) % (26 : Int32))), .val (.int ((65 : Int32) + ((p2 &&& (2147483647 : Int32)) % (26 : Int32)))), .val (.int ((97 : Int32) + ((p2 &&& (2147483647 : Int32)) % (26 : Int32)))), .val (.int (1 : Int32)), .val (.long (p1.toInt64 - (65 : Int64))), .second, .val (.int (0 : Int32)), .val (.int (own_low p1)), .val (.int (1 : Int32)), .unset] [])) t
      refine XS.iconst X17.here hx rfl (hb hby at_127) ?_
      show Steps p.tables e below (T17.setTop (mkF m 128 #[.val (.int p1), .val (.int p2), .val (.int ((p2 &&& (2147483647 : Int32)) % (26 : Int32))), .val (.int ((65 : Int32) + ((p2 &&& (2147483647 : Int32)) % (26 : Int32)))), .val (.int ((97 : Int32) + ((p2 &&& (2147483647 : Int32)) % (26 : Int32)))), .val (.int (1 : Int32)), .val (.long (p1.toInt64 - (65 : Int64))), .second, .val (.int (0 : Int32)), .val (.int (own_low p1)), .val (.int (1 : Int32)), .unset] [(.int (1 : Int32))])) t
      refine XS.goto X17.here hx rfl (pc0 := 128) (pc' := 132) rfl (hb hby at_128) (by decide) (by decide) ?_
      show Steps p.tables e below (T17.setTop (mkF m 132 #[.val (.int p1), .val (.int p2), .val (.int ((p2 &&& (2147483647 : Int32)) % (26 : Int32))), .val (.int ((65 : Int32) + ((p2 &&& (2147483647 : Int32)) % (26 : Int32)))), .val (.int ((97 : Int32) + ((p2 &&& (2147483647 : Int32)) % (26 : Int32)))), .val (.int (1 : Int32)), .val (.long (p1.toInt64 - (65 : Int64))), .second, .val (.int (0 : Int32)), .val (.int (own_low p1)), .val (.int (1 : Int32)), .unset] [(.int (1 : Int32))])) t
      refine XS.istore X17.here hx rfl (hb hby at_132) rfl (l' := #[.val (.int p1), .val (.int p2), .val (.int ((p2 &&& (2147483647 : Int32)) % (26 : Int32))), .val (.int ((65 : Int32) + ((p2 &&& (2147483647 : Int32)) % (26 : Int32)))), .val (.int ((97 : Int32) + ((p2 &&& (2147483647 : Int32)) % (26 : Int32)))), .val (.int (1 : Int32)), .val (.long (p1.toInt64 - (65 : Int64))), .second, .val (.int (0 : Int32)), .val (.int (own_low p1)), .val (.int (1 : Int32)), .val (.int (1 : Int32))]) rfl ?_
      show Steps p.tables e below (T17.setTop (mkF m 134 #[.val (.int p1), .val (.int p2), .val (.int ((p2 &&& (2147483647 : Int32)) % (26 : Int32))), .val (.int ((65 : Int32) + ((p2 &&& (2147483647 : Int32)) % (26 : Int32)))), .val (.int ((97 : Int32) + ((p2 &&& (2147483647 : Int32)) % (26 : Int32)))), .val (.int (1 : Int32)), .val (.long (p1.toInt64 - (65 : Int64))), .second, .val (.int (0 : Int32)), .val (.int (own_low p1)), .val (.int (1 : Int32)), .val (.int (1 : Int32))] [])) t
      refine XS.iload X17.here hx rfl (hb hby at_134) rfl ?_
      show Steps p.tables e below (T17.setTop (mkF m 136 #[.val (.int p1), .val (.int p2), .val (.int ((p2 &&& (2147483647 : Int32)) % (26 : Int32))), .val (.int ((65 : Int32) + ((p2 &&& (2147483647 : Int32)) % (26 : Int32)))), .val (.int ((97 : Int32) + ((p2 &&& (2147483647 : Int32)) % (26 : Int32)))), .val (.int (1 : Int32)), .val (.long (p1.toInt64 - (65 : Int64))), .second, .val (.int (0 : Int32)), .val (.int (own_low p1)), .val (.int (1 : Int32)), .val (.int (1 : Int32))] [(.int (1 : Int32))])) t
      refine XS.ifNo X17.here hx rfl (hb hby at_136) rfl (XT.i0_eq_f (show ¬ ((1 : Int32) = (0 : Int32)) from by decide)) ?_
      show Steps p.tables e below (T17.setTop (mkF m 139 #[.val (.int p1), .val (.int p2), .val (.int ((p2 &&& (2147483647 : Int32)) % (26 : Int32))), .val (.int ((65 : Int32) + ((p2 &&& (2147483647 : Int32)) % (26 : Int32)))), .val (.int ((97 : Int32) + ((p2 &&& (2147483647 : Int32)) % (26 : Int32)))), .val (.int (1 : Int32)), .val (.long (p1.toInt64 - (65 : Int64))), .second, .val (.int (0 : Int32)), .val (.int (own_low p1)), .val (.int (1 : Int32)), .val (.int (1 : Int32))] [])) t
      refine XS.iload X17.here hx rfl (hb hby at_139) rfl ?_
      show Steps p.tables e below (T17.setTop (mkF m 141 #[.val (.int p1), .val (.int p2), .val (.int ((p2 &&& (2147483647 : Int32)) % (26 : Int32))), .val (.int ((65 : Int32) + ((p2 &&& (2147483647 : Int32)) % (26 : Int32)))), .val (.int ((97 : Int32) + ((p2 &&& (2147483647 : Int32)) % (26 : Int32)))), .val (.int (1 : Int32)), .val (.long (p1.toInt64 - (65 : Int64))), .second, .val (.int (0 : Int32)), .val (.int (own_low p1)), .val (.int (1 : Int32)), .val (.int (1 : Int32))] [(.int (1 : Int32))])) t
      refine XS.ifNo X17.here hx rfl (hb hby at_141) rfl (XT.i0_eq_f (show ¬ ((1 : Int32) = (0 : Int32)) from by decide)) ?_
      show Steps p.tables e below (T17.setTop (mkF m 144 #[.val (.int p1), .val (.int p2), .val (.int ((p2 &&& (2147483647 : Int32)) % (26 : Int32))), .val (.int ((65 : Int32) + ((p2 &&& (2147483647 : Int32)) % (26 : Int32)))), .val (.int ((97 : Int32) + ((p2 &&& (2147483647 : Int32)) % (26 : Int32)))), .val (.int (1 : Int32)), .val (.long (p1.toInt64 - (65 : Int64))), .second, .val (.int (0 : Int32)), .val (.int (own_low p1)), .val (.int (1 : Int32)), .val (.int (1 : Int32))] [])) t
      refine XS.iload X17.here hx rfl (hb hby at_144) rfl ?_
      show Steps p.tables e below (T17.setTop (mkF m 146 #[.val (.int p1), .val (.int p2), .val (.int ((p2 &&& (2147483647 : Int32)) % (26 : Int32))), .val (.int ((65 : Int32) + ((p2 &&& (2147483647 : Int32)) % (26 : Int32)))), .val (.int ((97 : Int32) + ((p2 &&& (2147483647 : Int32)) % (26 : Int32)))), .val (.int (1 : Int32)), .val (.long (p1.toInt64 - (65 : Int64))), .second, .val (.int (0 : Int32)), .val (.int (own_low p1)), .val (.int (1 : Int32)), .val (.int (1 : Int32))] [(.int (1 : Int32))])) t
      refine XS.ifNo X17.here hx rfl (hb hby at_146) rfl (XT.i0_eq_f (show ¬ ((1 : Int32) = (0 : Int32)) from by decide)) ?_
      show Steps p.tables e below (T17.setTop (mkF m 149 #[.val (.int p1), .val (.int p2), .val (.int ((p2 &&& (2147483647 : Int32)) % (26 : Int32))), .val (.int ((65 : Int32) + ((p2 &&& (2147483647 : Int32)) % (26 : Int32)))), .val (.int ((97 : Int32) + ((p2 &&& (2147483647 : Int32)) % (26 : Int32)))), .val (.int (1 : Int32)), .val (.long (p1.toInt64 - (65 : Int64))), .second, .val (.int (0 : Int32)), .val (.int (own_low p1)), .val (.int (1 : Int32)), .val (.int (1 : Int32))] [])) t
      refine XS.iconst X17.here hx rfl (hb hby at_149) ?_
      show Steps p.tables e below (T17.setTop (mkF m 150 #[.val (.int p1), .val (.int p2), .val (.int ((p2 &&& (2147483647 : Int32)) % (26 : Int32))), .val (.int ((65 : Int32) + ((p2 &&& (2147483647 : Int32)) % (26 : Int32)))), .val (.int ((97 : Int32) + ((p2 &&& (2147483647 : Int32)) % (26 : Int32)))), .val (.int (1 : Int32)), .val (.long (p1.toInt64 - (65 : Int64))), .second, .val (.int (0 : Int32)), .val (.int (own_low p1)), .val (.int (1 : Int32)), .val (.int (1 : Int32))] [(.int (1 : Int32))])) t
      refine XS.goto X17.here hx rfl (pc0 := 150) (pc' := 154) rfl (hb hby at_150) (by decide) (by decide) ?_
      show Steps p.tables e below (T17.setTop (mkF m 154 #[.val (.int p1), .val (.int p2), .val (.int ((p2 &&& (2147483647 : Int32)) % (26 : Int32))), .val (.int ((65 : Int32) + ((p2 &&& (2147483647 : Int32)) % (26 : Int32)))), .val (.int ((97 : Int32) + ((p2 &&& (2147483647 : Int32)) % (26 : Int32)))), .val (.int (1 : Int32)), .val (.long (p1.toInt64 - (65 : Int64))), .second, .val (.int (0 : Int32)), .val (.int (own_low p1)), .val (.int (1 : Int32)), .val (.int (1 : Int32))] [(.int (1 : Int32))])) t
      exact k)
    obtain ⟨fs, hr, hrun, hended, hW, hsame⟩ := X17.leave (v := some (.int (1 : Int32))) (fun h => by rw [Bd.returns] at h; cases h)
    refine ⟨_, _, pre23 _ ?_, hrun, hended, _, _, rfl, ?_, ⟨_, rfl⟩, hW, hsame.mono (by decide) (by decide)⟩
    · show Steps p.tables e below (T17.setTop (mkF m 154 #[.val (.int p1), .val (.int p2), .val (.int ((p2 &&& (2147483647 : Int32)) % (26 : Int32))), .val (.int ((65 : Int32) + ((p2 &&& (2147483647 : Int32)) % (26 : Int32)))), .val (.int ((97 : Int32) + ((p2 &&& (2147483647 : Int32)) % (26 : Int32)))), .val (.int (1 : Int32)), .val (.long (p1.toInt64 - (65 : Int64))), .second, .val (.int (0 : Int32)), .val (.int (own_low p1)), .val (.int (1 : Int32)), .val (.int (1 : Int32))] [(.int (1 : Int32))])) _
      exact retN X17 hx (t := .boolean) Bd.returns (by simp) (hb hby at_154) hr
    · show Q0 Z p1 p2 h0 n0 _ T17.heap _
      rw [eh17]
      exact ⟨rfl, N17⟩
  · skip
    have pre25 : ∀ t, Steps p.tables e below (T6.setTop (mkF m 66 #[.val (.int p1), .val (.int p2), .val (.int ((p2 &&& (2147483647 : Int32)) % (26 : Int32))), .val (.int ((65 : Int32) + ((p2 &&& (2147483647 : Int32)) % (26 : Int32)))), .val (.int ((97 : Int32) + ((p2 &&& (2147483647 : Int32)) % (26 : Int32)))), .val (.int (1 : Int32)), .val (.long (p1.toInt64 - (65 : Int64))), .second, .unset, .unset, .unset, .unset] [(.int (XT.cmpL (p1.toInt64 - (65 : Int64)) (26 : Int64)))])) t → Steps p.tables e below (s₁.setTop (entryFrame m #[(.int p1), (.int p2)] maxLocals)) t := fun t k => pre10 t (by
      show Steps p.tables e below (T6.setTop (mkF m 57 #[.val (.int p1), .val (.int p2), .val (.int ((p2 &&& (2147483647 : Int32)) % (26 : Int32))), .val (.int ((65 : Int32) + ((p2 &&& (2147483647 : Int32)) % (26 : Int32)))), .val (.int ((97 : Int32) + ((p2 &&& (2147483647 : Int32)) % (26 : Int32)))), .val (.int (1 : Int32)), .val (.long (p1.toInt64 - (65 : Int64))), .second, .unset, .unset, .unset, .unset] [(.int (XT.cmpL (p1.toInt64 - (65 : Int64)) (0 : Int64)))])) t
      refine XS.ifNo X6.here hx rfl (hb hby at_57) rfl (XT.ll_lt_f hc57_9) ?_
      show Steps p.tables e below (T6.setTop (mkF m 60 #[.val (.int p1), .val (.int p2), .val (.int ((p2 &&& (2147483647 : Int32)) % (26 : Int32))), .val (.int ((65 : Int32) + ((p2 &&& (2147483647 : Int32)) % (26 : Int32)))), .val (.int ((97 : Int32) + ((p2 &&& (2147483647 : Int32)) % (26 : Int32)))), .val (.int (1 : Int32)), .val (.long (p1.toInt64 - (65 : Int64))), .second, .unset, .unset, .unset, .unset] [])) t
      refine XT.lload X6.here hx rfl (hb hby at_60) rfl ?_
      show Steps p.tables e below (T6.setTop (mkF m 62 #[.val (.int p1), .val (.int p2), .val (.int ((p2 &&& (2147483647 : Int32)) % (26 : Int32))), .val (.int ((65 : Int32) + ((p2 &&& (2147483647 : Int32)) % (26 : Int32)))), .val (.int ((97 : Int32) + ((p2 &&& (2147483647 : Int32)) % (26 : Int32)))), .val (.int (1 : Int32)), .val (.long (p1.toInt64 - (65 : Int64))), .second, .unset, .unset, .unset, .unset] [(.long (p1.toInt64 - (65 : Int64)))])) t
      refine X6.ldc2Long hx hown (mvT hZ (hw _ (List.mem_of_getElem? (i := 6) rfl))) (g := (mkF m 62 #[.val (.int p1), .val (.int p2), .val (.int ((p2 &&& (2147483647 : Int32)) % (26 : Int32))), .val (.int ((65 : Int32) + ((p2 &&& (2147483647 : Int32)) % (26 : Int32)))), .val (.int ((97 : Int32) + ((p2 &&& (2147483647 : Int32)) % (26 : Int32)))), .val (.int (1 : Int32)), .val (.long (p1.toInt64 - (65 : Int64))), .second, .unset, .unset, .unset, .unset] [(.long (p1.toInt64 - (65 : Int64)))])) rfl (hb hby at_62) _ ?_
      show Steps p.tables e below (T6.setTop (mkF m 65 #[.val (.int p1), .val (.int p2), .val (.int ((p2 &&& (2147483647 : Int32)) % (26 : Int32))), .val (.int ((65 : Int32) + ((p2 &&& (2147483647 : Int32)) % (26 : Int32)))), .val (.int ((97 : Int32) + ((p2 &&& (2147483647 : Int32)) % (26 : Int32)))), .val (.int (1 : Int32)), .val (.long (p1.toInt64 - (65 : Int64))), .second, .unset, .unset, .unset, .unset] [(.long (26 : Int64)), (.long (p1.toInt64 - (65 : Int64)))])) t
      refine XT.lcmp X6.here hx rfl (hb hby at_65) rfl ?_
      show Steps p.tables e below (T6.setTop (mkF m 66 #[.val (.int p1), .val (.int p2), .val (.int ((p2 &&& (2147483647 : Int32)) % (26 : Int32))), .val (.int ((65 : Int32) + ((p2 &&& (2147483647 : Int32)) % (26 : Int32)))), .val (.int ((97 : Int32) + ((p2 &&& (2147483647 : Int32)) % (26 : Int32)))), .val (.int (1 : Int32)), .val (.long (p1.toInt64 - (65 : Int64))), .second, .unset, .unset, .unset, .unset] [(.int (XT.cmpL (p1.toInt64 - (65 : Int64)) (26 : Int64)))])) t
      exact k)
    by_cases hc66_24 : (p1.toInt64 - (65 : Int64)) < (26 : Int64)
    · skip
      have pre26 : ∀ t, Steps p.tables e below (T6.setTop (mkF m 77 #[.val (.int p1), .val (.int p2), .val (.int ((p2 &&& (2147483647 : Int32)) % (26 : Int32))), .val (.int ((65 : Int32) + ((p2 &&& (2147483647 : Int32)) % (26 : Int32)))), .val (.int ((97 : Int32) + ((p2 &&& (2147483647 : Int32)) % (26 : Int32)))), .val (.int (1 : Int32)), .val (.long (p1.toInt64 - (65 : Int64))), .second, .val (.int (1 : Int32)), .unset, .unset, .unset] [(.int p1)])) t → Steps p.tables e below (s₁.setTop (entryFrame m #[(.int p1), (.int p2)] maxLocals)) t := fun t k => pre25 t (by
        show Steps p.tables e below (T6.setTop (mkF m 66 #[.val (.int p1), .val (.int p2), .val (.int ((p2 &&& (2147483647 : Int32)) % (26 : Int32))), .val (.int ((65 : Int32) + ((p2 &&& (2147483647 : Int32)) % (26 : Int32)))), .val (.int ((97 : Int32) + ((p2 &&& (2147483647 : Int32)) % (26 : Int32)))), .val (.int (1 : Int32)), .val (.long (p1.toInt64 - (65 : Int64))), .second, .unset, .unset, .unset, .unset] [(.int (XT.cmpL (p1.toInt64 - (65 : Int64)) (26 : Int64)))])) t
        refine XS.ifNo X6.here hx rfl (hb hby at_66) rfl (XT.ll_ge_f hc66_24) ?_
        show Steps p.tables e below (T6.setTop (mkF m 69 #[.val (.int p1), .val (.int p2), .val (.int ((p2 &&& (2147483647 : Int32)) % (26 : Int32))), .val (.int ((65 : Int32) + ((p2 &&& (2147483647 : Int32)) % (26 : Int32)))), .val (.int ((97 : Int32) + ((p2 &&& (2147483647 : Int32)) % (26 : Int32)))), .val (.int (1 : Int32)), .val (.long (p1.toInt64 - (65 : Int64))), .second, .unset, .unset, .unset, .unset] [])) t
        refine XS.iconst X6.here hx rfl (hb hby at_69) ?_
        show Steps p.tables e below (T6.setTop (mkF m 70 #[.val (.int p1), .val (.int p2), .val (.int ((p2 &&& (2147483647 : Int32)) % (26 : Int32))), .val (.int ((65 : Int32) + ((p2 &&& (2147483647 : Int32)) % (26 : Int32)))), .val (.int ((97 : Int32) + ((p2 &&& (2147483647 : Int32)) % (26 : Int32)))), .val (.int (1 : Int32)), .val (.long (p1.toInt64 - (65 : Int64))), .second, .unset, .unset, .unset, .unset] [(.int (1 : Int32))])) t
        refine XS.goto X6.here hx rfl (pc0 := 70) (pc' := 74) rfl (hb hby at_70) (by decide) (by decide) ?_
        show Steps p.tables e below (T6.setTop (mkF m 74 #[.val (.int p1), .val (.int p2), .val (.int ((p2 &&& (2147483647 : Int32)) % (26 : Int32))), .val (.int ((65 : Int32) + ((p2 &&& (2147483647 : Int32)) % (26 : Int32)))), .val (.int ((97 : Int32) + ((p2 &&& (2147483647 : Int32)) % (26 : Int32)))), .val (.int (1 : Int32)), .val (.long (p1.toInt64 - (65 : Int64))), .second, .unset, .unset, .unset, .unset] [(.int (1 : Int32))])) t
        refine XS.istore X6.here hx rfl (hb hby at_74) rfl (l' := #[.val (.int p1), .val (.int p2), .val (.int ((p2 &&& (2147483647 : Int32)) % (26 : Int32))), .val (.int ((65 : Int32) + ((p2 &&& (2147483647 : Int32)) % (26 : Int32)))), .val (.int ((97 : Int32) + ((p2 &&& (2147483647 : Int32)) % (26 : Int32)))), .val (.int (1 : Int32)), .val (.long (p1.toInt64 - (65 : Int64))), .second, .val (.int (1 : Int32)), .unset, .unset, .unset]) rfl ?_
        show Steps p.tables e below (T6.setTop (mkF m 76 #[.val (.int p1), .val (.int p2), .val (.int ((p2 &&& (2147483647 : Int32)) % (26 : Int32))), .val (.int ((65 : Int32) + ((p2 &&& (2147483647 : Int32)) % (26 : Int32)))), .val (.int ((97 : Int32) + ((p2 &&& (2147483647 : Int32)) % (26 : Int32)))), .val (.int (1 : Int32)), .val (.long (p1.toInt64 - (65 : Int64))), .second, .val (.int (1 : Int32)), .unset, .unset, .unset] [])) t
        refine XS.iloadN X6.here hx rfl (hb hby at_76) rfl ?_
        show Steps p.tables e below (T6.setTop (mkF m 77 #[.val (.int p1), .val (.int p2), .val (.int ((p2 &&& (2147483647 : Int32)) % (26 : Int32))), .val (.int ((65 : Int32) + ((p2 &&& (2147483647 : Int32)) % (26 : Int32)))), .val (.int ((97 : Int32) + ((p2 &&& (2147483647 : Int32)) % (26 : Int32)))), .val (.int (1 : Int32)), .val (.long (p1.toInt64 - (65 : Int64))), .second, .val (.int (1 : Int32)), .unset, .unset, .unset] [(.int p1)])) t
        exact k)
      obtain ⟨_, _, ⟨T27, L27, k27, n27⟩, -, X27, ⟨Lc27, hQ27, l27, y27, z27⟩, st27⟩ := Jvm.LawKit.callS X6 hx (y := (⟨"com/example/charset_resolve/charsetresolve/sniff/Ascii", "toLowerCase", "(I)I"⟩ : MethodName)) hown (mvT hZ (hw _ (List.mem_of_getElem? (i := 1) rfl))) (mvT hZ (hw _ (List.mem_of_getElem? (i := 2) rfl))) (mvT hZ (hw _ (List.mem_of_getElem? (i := 3) rfl))) (mvT hZ (hw _ (List.mem_of_getElem? (i := 4) rfl))) (by decide) (backOf (W := 0) (rm1 l Z a0 hw [] p1 h0 n0 Z0 ) hZ (hw _ (List.mem_of_getElem? (i := 4) rfl)) (hw _ (List.mem_of_getElem? (i := 3) rfl)) (by decide) (by decide)) (g := (mkF m 77 #[.val (.int p1), .val (.int p2), .val (.int ((p2 &&& (2147483647 : Int32)) % (26 : Int32))), .val (.int ((65 : Int32) + ((p2 &&& (2147483647 : Int32)) % (26 : Int32)))), .val (.int ((97 : Int32) + ((p2 &&& (2147483647 : Int32)) % (26 : Int32)))), .val (.int (1 : Int32)), .val (.long (p1.toInt64 - (65 : Int64))), .second, .val (.int (1 : Int32)), .unset, .unset, .unset] [(.int p1)])) rfl (by rw [hml]; rfl) (argsL := [(.int p1)]) (rest := []) (lenOf pd_oIcI rfl) rfl (by show 2 * 0 + _ ≤ _; exact Nat.le_of_eq rfl) (hb hby at_77) (fun _ _ => ⟨rfl, eh6, (by decide : 0 + 0 ≤ _), (by decide : 0 + 0 ≤ _)⟩)
      dsimp only [Pt.U, Pt.locs, Pt.cells, Pt.slots] at X27 l27 y27 z27 st27 hQ27
      subst l27 y27 z27
      obtain ⟨rfl, N27q, eh27⟩ := hQ27
      have N27 := Fr.app N6 N27q
      have pre28 : ∀ t, Steps p.tables e below (T27.setTop (mkF m 80 #[.val (.int p1), .val (.int p2), .val (.int ((p2 &&& (2147483647 : Int32)) % (26 : Int32))), .val (.int ((65 : Int32) + ((p2 &&& (2147483647 : Int32)) % (26 : Int32)))), .val (.int ((97 : Int32) + ((p2 &&& (2147483647 : Int32)) % (26 : Int32)))), .val (.int (1 : Int32)), .val (.long (p1.toInt64 - (65 : Int64))), .second, .val (.int (1 : Int32)), .unset, .unset, .unset] [(.int (own_low p1))])) t → Steps p.tables e below (s₁.setTop (entryFrame m #[(.int p1), (.int p2)] maxLocals)) t := fun t k => pre26 t (st27 _ k)
      have pre31 : ∀ t, Steps p.tables e below (T27.setTop (mkF m 119 #[.val (.int p1), .val (.int p2), .val (.int ((p2 &&& (2147483647 : Int32)) % (26 : Int32))), .val (.int ((65 : Int32) + ((p2 &&& (2147483647 : Int32)) % (26 : Int32)))), .val (.int ((97 : Int32) + ((p2 &&& (2147483647 : Int32)) % (26 : Int32)))), .val (.int (1 : Int32)), .val (.long (p1.toInt64 - (65 : Int64))), .second, .val (.int (1 : Int32)), .val (.int (own_low p1)), .val (.int (1 : Int32)), .unset] [(.int (own_low p1))])) t → Steps p.tables e below (s₁.setTop (entryFrame m #[(.int p1), (.int p2)] maxLocals)) t := fun t k => pre28 t (by
        show Steps p.tables e below (T27.setTop (mkF m 80 #[.val (.int p1), .val (.int p2), .val (.int ((p2 &&& (2147483647 : Int32)) % (26 : Int32))), .val (.int ((65 : Int32) + ((p2 &&& (2147483647 : Int32)) % (26 : Int32)))), .val (.int ((97 : Int32) + ((p2 &&& (2147483647 : Int32)) % (26 : Int32)))), .val (.int (1 : Int32)), .val (.long (p1.toInt64 - (65 : Int64))), .second, .val (.int (1 : Int32)), .unset, .unset, .unset] [(.int (own_low p1))])) t
        refine XS.istore X27.here hx rfl (hb hby at_80) rfl (l' := #[.val (.int p1), .val (.int p2), .val (.int ((p2 &&& (2147483647 : Int32)) % (26 : Int32))), .val (.int ((65 : Int32) + ((p2 &&& (2147483647 : Int32)) % (26 : Int32)))), .val (.int ((97 : Int32) + ((p2 &&& (2147483647 : Int32)) % (26 : Int32)))), .val (.int (1 : Int32)), .val (.long (p1.toInt64 - (65 : Int64))), .second, .val (.int (1 : Int32)), .val (.int (own_low p1)), .unset, .unset]) rfl ?_
        show Steps p.tables e below (T27.setTop (mkF m 82 #[.val (.int p1), .val (.int p2), .val (.int ((p2 &&& (2147483647 : Int32)) % (26 : Int32))), .val (.int ((65 : Int32) + ((p2 &&& (2147483647 : Int32)) % (26 : Int32)))), .val (.int ((97 : Int32) + ((p2 &&& (2147483647 : Int32)) % (26 : Int32)))), .val (.int (1 : Int32)), .val (.long (p1.toInt64 - (65 : Int64))), .second, .val (.int (1 : Int32)), .val (.int (own_low p1)), .unset, .unset] [])) t
        refine XS.iload X27.here hx rfl (hb hby at_82) rfl ?_
        show Steps p.tables e below (T27.setTop (mkF m 84 #[.val (.int p1), .val (.int p2), .val (.int ((p2 &&& (2147483647 : Int32)) % (26 : Int32))), .val (.int ((65 : Int32) + ((p2 &&& (2147483647 : Int32)) % (26 : Int32)))), .val (.int ((97 : Int32) + ((p2 &&& (2147483647 : Int32)) % (26 : Int32)))), .val (.int (1 : Int32)), .val (.long (p1.toInt64 - (65 : Int64))), .second, .val (.int (1 : Int32)), .val (.int (own_low p1)), .unset, .unset] [(.int (1 : Int32))])) t
        refine XS.ifNo X27.here hx rfl (hb hby at_84) rfl (XT.i0_eq_f (show ¬ ((1 : Int32) = (0 : Int32)) from by decide)) ?_
        show Steps p.tables e below (T27.setTop (mkF m 87 #[.val (.int p1), .val (.int p2), .val (.int ((p2 &&& (2147483647 : Int32)) % (26 : Int32))), .val (.int ((65 : Int32) + ((p2 &&& (2147483647 : Int32)) % (26 : Int32)))), .val (.int ((97 : Int32) + ((p2 &&& (2147483647 : Int32)) % (26 : Int32)))), .val (.int (1 : Int32)), .val (.long (p1.toInt64 - (65 : Int64))), .second, .val (.int (1 : Int32)), .val (.int (own_low p1)), .unset, .unset] [])) t
        refine XS.iload X27.here hx rfl (hb hby at_87) rfl ?_
        show Steps p.tables e below (T27.setTop (mkF m 89 #[.val (.int p1), .val (.int p2), .val (.int ((p2 &&& (2147483647 : Int32)) % (26 : Int32))), .val (.int ((65 : Int32) + ((p2 &&& (2147483647 : Int32)) % (26 : Int32)))), .val (.int ((97 : Int32) + ((p2 &&& (2147483647 : Int32)) % (26 : Int32)))), .val (.int (1 : Int32)), .val (.long (p1.toInt64 - (65 : Int64))), .second, .val (.int (1 : Int32)), .val (.int (own_low p1)), .unset, .unset] [(.int (own_low p1))])) t
        refine XS.iloadN X27.here hx rfl (hb hby at_89) rfl ?_
        show Steps p.tables e below (T27.setTop (mkF m 90 #[.val (.int p1), .val (.int p2), .val (.int ((p2 &&& (2147483647 : Int32)) % (26 : Int32))), .val (.int ((65 : Int32) + ((p2 &&& (2147483647 : Int32)) % (26 : Int32)))), .val (.int ((97 : Int32) + ((p2 &&& (2147483647 : Int32)) % (26 : Int32)))), .val (.int (1 : Int32)), .val (.long (p1.toInt64 - (65 : Int64))), .second, .val (.int (1 : Int32)), .val (.int (own_low p1)), .unset, .unset] [(.int p1), (.int (own_low p1))])) t
        refine XS.bipush X27.here hx rfl (hb hby at_90) ?_
        show Steps p.tables e below (T27.setTop (mkF m 92 #[.val (.int p1), .val (.int p2), .val (.int ((p2 &&& (2147483647 : Int32)) % (26 : Int32))), .val (.int ((65 : Int32) + ((p2 &&& (2147483647 : Int32)) % (26 : Int32)))), .val (.int ((97 : Int32) + ((p2 &&& (2147483647 : Int32)) % (26 : Int32)))), .val (.int (1 : Int32)), .val (.long (p1.toInt64 - (65 : Int64))), .second, .val (.int (1 : Int32)), .val (.int (own_low p1)), .unset, .unset] [(.int (32 : Int32)), (.int p1), (.int (own_low p1))])) t
        refine XS.iadd X27.here hx rfl (hb hby at_92) rfl ?_
        show Steps p.tables e below (T27.setTop (mkF m 93 #[.val (.int p1), .val (.int p2), .val (.int ((p2 &&& (2147483647 : Int32)) % (26 : Int32))), .val (.int ((65 : Int32) + ((p2 &&& (2147483647 : Int32)) % (26 : Int32)))), .val (.int ((97 : Int32) + ((p2 &&& (2147483647 : Int32)) % (26 : Int32)))), .val (.int (1 : Int32)), .val (.long (p1.toInt64 - (65 : Int64))), .second, .val (.int (1 : Int32)), .val (.int (own_low p1)), .unset, .unset] [(.int (p1 + (32 : Int32))), (.int (own_low p1))])) t
        refine XS.icmpNo X27.here hx rfl (hb hby at_93) rfl (XT.ii_ne_f (show (own_low p1) = (p1 + (32 : Int32)) from own_up (by assumption) (by assumption))) ?_
        show Steps p.tables e below (T27.setTop (mkF m 96 #[.val (.int p1), .val (.int p2), .val (.int ((p2 &&& (2147483647 : Int32)) % (26 : Int32))), .val (.int ((65 : Int32) + ((p2 &&& (2147483647 : Int32)) % (26 : Int32)))), .val (.int ((97 : Int32) + ((p2 &&& (2147483647 : Int32)) % (26 : Int32)))), .val (.int (1 : Int32)), .val (.long (p1.toInt64 - (65 : Int64))), .second, .val (.int (1 : Int32)), .val (.int (own_low p1)), .unset, .unset] [])) t
        refine XS.iconst X27.here hx rfl (hb hby at_96) ?_
        show Steps p.tables e below (T27.setTop (mkF m 97 #[.val (.int p1), .val (.int p2), .val (.int ((p2 &&& (2147483647 : Int32)) % (26 : Int32))), .val (.int ((65 : Int32) + ((p2 &&& (2147483647 : Int32)) % (26 : Int32)))), .val (.int ((97 : Int32) + ((p2 &&& (2147483647 : Int32)) % (26 : Int32)))), .val (.int (1 : Int32)), .val (.long (p1.toInt64 - (65 : Int64))), .second, .val (.int (1 : Int32)), .val (.int (own_low p1)), .unset, .unset] [(.int (1 : Int32))])) t
        refine XS.goto X27.here hx rfl (pc0 := 97) (pc' := 115) rfl (hb hby at_97) (by decide) (by decide) ?_
        show Steps p.tables e below (T27.setTop (mkF m 115 #[.val (.int p1), .val (.int p2), .val (.int ((p2 &&& (2147483647 : Int32)) % (26 : Int32))), .val (.int ((65 : Int32) + ((p2 &&& (2147483647 : Int32)) % (26 : Int32)))), .val (.int ((97 : Int32) + ((p2 &&& (2147483647 : Int32)) % (26 : Int32)))), .val (.int (1 : Int32)), .val (.long (p1.toInt64 - (65 : Int64))), .second, .val (.int (1 : Int32)), .val (.int (own_low p1)), .unset, .unset] [(.int (1 : Int32))])) t
        refine XS.istore X27.here hx rfl (hb hby at_115) rfl (l' := #[.val (.int p1), .val (.int p2), .val (.int ((p2 &&& (2147483647 : Int32)) % (26 : Int32))), .val (.int ((65 : Int32) + ((p2 &&& (2147483647 : Int32)) % (26 : Int32)))), .val (.int ((97 : Int32) + ((p2 &&& (2147483647 : Int32)) % (26 : Int32)))), .val (.int (1 : Int32)), .val (.long (p1.toInt64 - (65 : Int64))), .second, .val (.int (1 : Int32)), .val (.int (own_low p1)), .val (.int (1 : Int32)), .unset]) rfl ?_
        show Steps p.tables e below (T27.setTop (mkF m 117 #[.val (.int p1), .val (.int p2), .val (.int ((p2 &&& (2147483647 : Int32)) % (26 : Int32))), .val (.int ((65 : Int32) + ((p2 &&& (2147483647 : Int32)) % (26 : Int32)))), .val (.int ((97 : Int32) + ((p2 &&& (2147483647 : Int32)) % (26 : Int32)))), .val (.int (1 : Int32)), .val (.long (p1.toInt64 - (65 : Int64))), .second, .val (.int (1 : Int32)), .val (.int (own_low p1)), .val (.int (1 : Int32)), .unset] [])) t
        refine XS.iload X27.here hx rfl (hb hby at_117) rfl ?_
        show Steps p.tables e below (T27.setTop (mkF m 119 #[.val (.int p1), .val (.int p2), .val (.int ((p2 &&& (2147483647 : Int32)) % (26 : Int32))), .val (.int ((65 : Int32) + ((p2 &&& (2147483647 : Int32)) % (26 : Int32)))), .val (.int ((97 : Int32) + ((p2 &&& (2147483647 : Int32)) % (26 : Int32)))), .val (.int (1 : Int32)), .val (.long (p1.toInt64 - (65 : Int64))), .second, .val (.int (1 : Int32)), .val (.int (own_low p1)), .val (.int (1 : Int32)), .unset] [(.int (own_low p1))])) t
        exact k)
      obtain ⟨_, _, ⟨T32, L32, k32, n32⟩, -, X32, ⟨Lc32, hQ32, l32, y32, z32⟩, st32⟩ := Jvm.LawKit.callS X27 hx (y := (⟨"com/example/charset_resolve/charsetresolve/sniff/Ascii", "toLowerCase", "(I)I"⟩ : MethodName)) hown (mvT hZ (hw _ (List.mem_of_getElem? (i := 1) rfl))) (mvT hZ (hw _ (List.mem_of_getElem? (i := 2) rfl))) (mvT hZ (hw _ (List.mem_of_getElem? (i := 3) rfl))) (mvT hZ (hw _ (List.mem_of_getElem? (i := 4) rfl))) (by decide) (backOf (W := 0) (rm1 l Z a0 hw [] (own_low p1) h0 n0 Z0 ) hZ (hw _ (List.mem_of_getElem? (i := 4) rfl)) (hw _ (List.mem_of_getElem? (i := 3) rfl)) (by decide) (by decide)) (g := (mkF m 119 #[.val (.int p1), .val (.int p2), .val (.int ((p2 &&& (2147483647 : Int32)) % (26 : Int32))), .val (.int ((65 : Int32) + ((p2 &&& (2147483647 : Int32)) % (26 : Int32)))), .val (.int ((97 : Int32) + ((p2 &&& (2147483647 : Int32)) % (26 : Int32)))), .val (.int (1 : Int32)), .val (.long (p1.toInt64 - (65 : Int64))), .second, .val (.int (1 : Int32)), .val (.int (own_low p1)), .val (.int (1 : Int32)), .unset] [(.int (own_low p1))])) rfl (by rw [hml]; rfl) (argsL := [(.int (own_low p1))]) (rest := []) (lenOf pd_oIcI rfl) rfl (by show 2 * 0 + _ ≤ _; exact Nat.le_of_eq rfl) (hb hby at_119) (fun _ _ => ⟨rfl, eh27, (by decide : 0 + 0 ≤ _), (by decide : 0 + 0 ≤ _)⟩)
      dsimp only [Pt.U, Pt.locs, Pt.cells, Pt.slots] at X32 l32 y32 z32 st32 hQ32
      subst l32 y32 z32
      obtain ⟨rfl, N32q, eh32⟩ := hQ32
      have N32 := Fr.app N27 N32q
      have pre33 : ∀ t, Steps p.tables e below (T32.setTop (mkF m 122 #[.val (.int p1), .val (.int p2), .val (.int ((p2 &&& (2147483647 : Int32)) % (26 : Int32))), .val (.int ((65 : Int32) + ((p2 &&& (2147483647 : Int32)) % (26 : Int32)))), .val (.int ((97 : Int32) + ((p2 &&& (2147483647 : Int32)) % (26 : Int32)))), .val (.int (1 : Int32)), .val (.long (p1.toInt64 - (65 : Int64))), .second, .val (.int (1 : Int32)), .val (.int (own_low p1)), .val (.int (1 : Int32)), .unset] [(.int (own_low (own_low p1)))])) t → Steps p.tables e below (s₁.setTop (entryFrame m #[(.int p1), (.int p2)] maxLocals)) t := fun t k => pre31 t (st32 _ k)
      have pre38 : ∀ t, Steps p.tables e below (T32.setTop (mkF m 154 #[.val (.int p1), .val (.int p2), .val (.int ((p2 &&& (2147483647 : Int32)) % (26 : Int32))), .val (.int ((65 : Int32) + ((p2 &&& (2147483647 : Int32)) % (26 : Int32)))), .val (.int ((97 : Int32) + ((p2 &&& (2147483647 : Int32)) % (26 : Int32)))), .val (.int (1 : Int32)), .val (.long (p1.toInt64 - (65 : Int64))), .second, .val (.int (1 : Int32)), .val (.int (own_low p1)), .val (.int (1 : Int32)), .val (.int (1 : Int32))] [(.int (1 : Int32))])) t → Steps p.tables e below (s₁.setTop (entryFrame m #[(.int p1), (.int p2)] maxLocals)) t := fun t k => pre33 t (by
        show Steps p.tables e below (T32.setTop (mkF m 122 #[.val (.int p1), .val (.int p2), .val (.int ((p2 &&& (2147483647 : Int32)) % (26 : Int32))), .val (.int ((65 : Int32) + ((p2 &&& (2147483647 : Int32)) % (26 : Int32)))), .val (.int ((97 : Int32) + ((p2 &&& (2147483647 : Int32)) % (26 : Int32)))), .val (.int (1 : Int32)), .val (.long (p1.toInt64 - (65 : Int64))), .second, .val (.int (1 : Int32)), .val (.int (own_low p1)), .val (.int (1 : Int32)), .unset] [(.int (own_low (own_low p1)))])) t
        refine XS.iload X32.here hx rfl (hb hby at_122) rfl ?_
        show Steps p.tables e below (T32.setTop (mkF m 124 #[.val (.int p1), .val (.int p2), .val (.int ((p2 &&& (2147483647 : Int32)) % (26 : Int32))), .val (.int ((65 : Int32) + ((p2 &&& (2147483647 : Int32)) % (26 : Int32)))), .val (.int ((97 : Int32) + ((p2 &&& (2147483647 : Int32)) % (26 : Int32)))), .val (.int (1 : Int32)), .val (.long (p1.toInt64 - (65 : Int64))), .second, .val (.int (1 : Int32)), .val (.int (own_low p1)), .val (.int (1 : Int32)), .unset] [(.int (own_low p1)), (.int (own_low (own_low p1)))])) t
        refine XS.icmpNo X32.here hx rfl (hb hby at_124) rfl (XT.ii_ne_f (show (own_low (own_low p1)) = (own_low p1) from own_idem _)) ?_
        show Steps p.tables e below (T32.setTop (mkF m 127 #[.val (.int p1), .val (.int p2), .val (.int ((p2 &&& (2147483647 : Int32)) % (26 : Int32))), .val (.int ((65 : Int32) + ((p2 &&& (2147483647 : Int32)) % (26 : Int32)))), .val (.int ((97 : Int32) + ((p2 &&& (2147483647 : Int32)) % (26 : Int32)))), .val (.int (1 : Int32)), .val (.long (p1.toInt64 - (65 : Int64))), .second, .val (.int (1 : Int32)), .val (.int (own_low p1)), .val (.int (1 : Int32)), .unset] [])) t
        refine XS.iconst X32.here hx rfl (hb hby at_127) ?_
        show Steps p.tables e below (T32.setTop (mkF m 128 #[.val (.int p1), .val (.int p2), .val (.int ((p2 &&& (2147483647 : Int32)) % (26 : Int32))), .val (.int ((65 : Int32) + ((p2 &&& (2147483647 : Int32)) % (26 : Int32)))), .val (.int ((97 : Int32) + ((p2 &&& (2147483647 : Int32)) % (26 : Int32)))), .val (.int (1 : Int32)), .val (.long (p1.toInt64 - (65 : Int64))), .second, .val (.int (1 : Int32)), .val (.int (own_low p1)), .val (.int (1 : Int32)), .unset] [(.int (1 : Int32))])) t
        refine XS.goto X32.here hx rfl (pc0 := 128) (pc' := 132) rfl (hb hby at_128) (by decide) (by decide) ?_
        show Steps p.tables e below (T32.setTop (mkF m 132 #[.val (.int p1), .val (.int p2), .val (.int ((p2 &&& (2147483647 : Int32)) % (26 : Int32))), .val (.int ((65 : Int32) + ((p2 &&& (2147483647 : Int32)) % (26 : Int32)))), .val (.int ((97 : Int32) + ((p2 &&& (2147483647 : Int32)) % (26 : Int32)))), .val (.int (1 : Int32)), .val (.long (p1.toInt64 - (65 : Int64))), .second, .val (.int (1 : Int32)), .val (.int (own_low p1)), .val (.int (1 : Int32)), .unset] [(.int (1 : Int32))])) t
        refine XS.istore X32.here hx rfl (hb hby at_132) rfl (l' := #[.val (.int p1), .val (.int p2), .val (.int ((p2 &&& (2147483647 : Int32)) % (26 : Int32))), .val (.int ((65 : Int32) + ((p2 &&& (2147483647 : Int32)) % (26 : Int32)))), .val (.int ((97 : Int32) + ((p2 &&& (2147483647 : Int32)) % (26 : Int32)))), .val (.int (1 : Int32)), .val (.long (p1.toInt64 - (65 : Int64))), .second, .val (.int (1 : Int32)), .val (.int (own_low p1)), .val (.int (1 : Int32)), .val (.int (1 : Int32))]) rfl ?_
        show Steps p.tables e below (T32.setTop (mkF m 134 #[.val (.int p1), .val (.int p2), .val (.int ((p2 &&& (2147483647 : Int32)) % (26 : Int32))), .val (.int ((65 : Int32) + ((p2 &&& (2147483647 : Int32)) % (26 : Int32)))), .val (.int ((97 : Int32) + ((p2 &&& (2147483647 : Int32)) % (26 : Int32)))), .val (.int (1 : Int32)), .val (.long (p1.toInt64 - (65 : Int64))), .second, .val (.int (1 : Int32)), .val (.int (own_low p1)), .val (.int (1 : Int32)), .val (.int (1 : Int32))] [])) t
        refine XS.iload X32.here hx rfl (hb hby at_134) rfl ?_
        show Steps p.tables e below (T32.setTop (mkF m 136 #[.val (.int p1), .val (.int p2), .val (.int ((p2 &&& (2147483647 : Int32)) % (26 : Int32))), .val (.int ((65 : Int32) + ((p2 &&& (2147483647 : Int32)) % (26 : Int32)))), .val (.int ((97 : Int32) + ((p2 &&& (2147483647 : Int32)) % (26 : Int32)))), .val (.int (1 : Int32)), .val (.long (p1.toInt64 - (65 : Int64))), .second, .val (.int (1 : Int32)), .val (.int (own_low p1)), .val (.int (1 : Int32)), .val (.int (1 : Int32))] [(.int (1 : Int32))])) t
        refine XS.ifNo X32.here hx rfl (hb hby at_136) rfl (XT.i0_eq_f (show ¬ ((1 : Int32) = (0 : Int32)) from by decide)) ?_
        show Steps p.tables e below (T32.setTop (mkF m 139 #[.val (.int p1), .val (.int p2), .val (.int ((p2 &&& (2147483647 : Int32)) % (26 : Int32))), .val (.int ((65 : Int32) + ((p2 &&& (2147483647 : Int32)) % (26 : Int32)))), .val (.int ((97 : Int32) + ((p2 &&& (2147483647 : Int32)) % (26 : Int32)))), .val (.int (1 : Int32)), .val (.long (p1.toInt64 - (65 : Int64))), .second, .val (.int (1 : Int32)), .val (.int (own_low p1)), .val (.int (1 : Int32)), .val (.int (1 : Int32))] [])) t
        refine XS.iload X32.here hx rfl (hb hby at_139) rfl ?_
        show Steps p.tables e below (T32.setTop (mkF m 141 #[.val (.int p1), .val (.int p2), .val (.int ((p2 &&& (2147483647 : Int32)) % (26 : Int32))), .val (.int ((65 : Int32) + ((p2 &&& (2147483647 : Int32)) % (26 : Int32)))), .val (.int ((97 : Int32) + ((p2 &&& (2147483647 : Int32)) % (26 : Int32)))), .val (.int (1 : Int32)), .val (.long (p1.toInt64 - (65 : Int64))), .second, .val (.int (1 : Int32)), .val (.int (own_low p1)), .val (.int (1 : Int32)), .val (.int (1 : Int32))] [(.int (1 : Int32))])) t
        refine XS.ifNo X32.here hx rfl (hb hby at_141) rfl (XT.i0_eq_f (show ¬ ((1 : Int32) = (0 : Int32)) from by decide)) ?_
        show Steps p.tables e below (T32.setTop (mkF m 144 #[.val (.int p1), .val (.int p2), .val (.int ((p2 &&& (2147483647 : Int32)) % (26 : Int32))), .val (.int ((65 : Int32) + ((p2 &&& (2147483647 : Int32)) % (26 : Int32)))), .val (.int ((97 : Int32) + ((p2 &&& (2147483647 : Int32)) % (26 : Int32)))), .val (.int (1 : Int32)), .val (.long (p1.toInt64 - (65 : Int64))), .second, .val (.int (1 : Int32)), .val (.int (own_low p1)), .val (.int (1 : Int32)), .val (.int (1 : Int32))] [])) t
        refine XS.iload X32.here hx rfl (hb hby at_144) rfl ?_
        show Steps p.tables e below (T32.setTop (mkF m 146 #[.val (.int p1), .val (.int p2), .val (.int ((p2 &&& (2147483647 : Int32)) % (26 : Int32))), .val (.int ((65 : Int32) + ((p2 &&& (2147483647 : Int32)) % (26 : Int32)))), .val (.int ((97 : Int32) + ((p2 &&& (2147483647 : Int32)) % (26 : Int32)))), .val (.int (1 : Int32)), .val (.long (p1.toInt64 - (65 : Int64))), .second, .val (.int (1 : Int32)), .val (.int (own_low p1)), .val (.int (1 : Int32)), .val (.int (1 : Int32))] [(.int (1 : Int32))])) t
        refine XS.ifNo X32.here hx rfl (hb hby at_146) rfl (XT.i0_eq_f (show ¬ ((1 : Int32) = (0 : Int32)) from by decide)) ?_
        show Steps p.tables e below (T32.setTop (mkF m 149 #[.val (.int p1), .val (.int p2), .val (.int ((p2 &&& (2147483647 : Int32)) % (26 : Int32))), .val (.int ((65 : Int32) + ((p2 &&& (2147483647 : Int32)) % (26 : Int32)))), .val (.int ((97 : Int32) + ((p2 &&& (2147483647 : Int32)) % (26 : Int32)))), .val (.int (1 : Int32)), .val (.long (p1.toInt64 - (65 : Int64))), .second, .val (.int (1 : Int32)), .val (.int (own_low p1)), .val (.int (1 : Int32)), .val (.int (1 : Int32))] [])) t
        refine XS.iconst X32.here hx rfl (hb hby at_149) ?_
        show Steps p.tables e below (T32.setTop (mkF m 150 #[.val (.int p1), .val (.int p2), .val (.int ((p2 &&& (2147483647 : Int32)) % (26 : Int32))), .val (.int ((65 : Int32) + ((p2 &&& (2147483647 : Int32)) % (26 : Int32)))), .val (.int ((97 : Int32) + ((p2 &&& (2147483647 : Int32)) % (26 : Int32)))), .val (.int (1 : Int32)), .val (.long (p1.toInt64 - (65 : Int64))), .second, .val (.int (1 : Int32)), .val (.int (own_low p1)), .val (.int (1 : Int32)), .val (.int (1 : Int32))] [(.int (1 : Int32))])) t
        refine XS.goto X32.here hx rfl (pc0 := 150) (pc' := 154) rfl (hb hby at_150) (by decide) (by decide) ?_
        show Steps p.tables e below (T32.setTop (mkF m 154 #[.val (.int p1), .val (.int p2), .val (.int ((p2 &&& (2147483647 : Int32)) % (26 : Int32))), .val (.int ((65 : Int32) + ((p2 &&& (2147483647 : Int32)) % (26 : Int32)))), .val (.int ((97 : Int32) + ((p2 &&& (2147483647 : Int32)) % (26 : Int32)))), .val (.int (1 : Int32)), .val (.long (p1.toInt64 - (65 : Int64))), .second, .val (.int (1 : Int32)), .val (.int (own_low p1)), .val (.int (1 : Int32)), .val (.int (1 : Int32))] [(.int (1 : Int32))])) t
        exact k)
      obtain ⟨fs, hr, hrun, hended, hW, hsame⟩ := X32.leave (v := some (.int (1 : Int32))) (fun h => by rw [Bd.returns] at h; cases h)
      refine ⟨_, _, pre38 _ ?_, hrun, hended, _, _, rfl, ?_, ⟨_, rfl⟩, hW, hsame.mono (by decide) (by decide)⟩
      · show Steps p.tables e below (T32.setTop (mkF m 154 #[.val (.int p1), .val (.int p2), .val (.int ((p2 &&& (2147483647 : Int32)) % (26 : Int32))), .val (.int ((65 : Int32) + ((p2 &&& (2147483647 : Int32)) % (26 : Int32)))), .val (.int ((97 : Int32) + ((p2 &&& (2147483647 : Int32)) % (26 : Int32)))), .val (.int (1 : Int32)), .val (.long (p1.toInt64 - (65 : Int64))), .second, .val (.int (1 : Int32)), .val (.int (own_low p1)), .val (.int (1 : Int32)), .val (.int (1 : Int32))] [(.int (1 : Int32))])) _
        exact retN X32 hx (t := .boolean) Bd.returns (by simp) (hb hby at_154) hr
      · show Q0 Z p1 p2 h0 n0 _ T32.heap _
        rw [eh32]
        exact ⟨rfl, N32⟩
    · skip
      have pre39 : ∀ t, Steps p.tables e below (T6.setTop (mkF m 77 #[.val (.int p1), .val (.int p2), .val (.int ((p2 &&& (2147483647 : Int32)) % (26 : Int32))), .val (.int ((65 : Int32) + ((p2 &&& (2147483647 : Int32)) % (26 : Int32)))), .val (.int ((97 : Int32) + ((p2 &&& (2147483647 : Int32)) % (26 : Int32)))), .val (.int (1 : Int32)), .val (.long (p1.toInt64 - (65 : Int64))), .second, .val (.int (0 : Int32)), .unset, .unset, .unset] [(.int p1)])) t → Steps p.tables e below (s₁.setTop (entryFrame m #[(.int p1), (.int p2)] maxLocals)) t := fun t k => pre25 t (by
        show Steps p.tables e below (T6.setTop (mkF m 66 #[.val (.int p1), .val (.int p2), .val (.int ((p2 &&& (2147483647 : Int32)) % (26 : Int32))), .val (.int ((65 : Int32) + ((p2 &&& (2147483647 : Int32)) % (26 : Int32)))), .val (.int ((97 : Int32) + ((p2 &&& (2147483647 : Int32)) % (26 : Int32)))), .val (.int (1 : Int32)), .val (.long (p1.toInt64 - (65 : Int64))), .second, .unset, .unset, .unset, .unset] [(.int (XT.cmpL (p1.toInt64 - (65 : Int64)) (26 : Int64)))])) t
        refine XS.ifYes X6.here hx rfl (pc0 := 66) (pc' := 73) rfl (hb hby at_66) rfl (XT.ll_ge_t hc66_24) (by decide) (by decide) ?_
        show Steps p.tables e below (T6.setTop (mkF m 73 #[.val (.int p1), .val (.int p2), .val (.int ((p2 &&& (2147483647 : Int32)) % (26 : Int32))), .val (.int ((65 : Int32) + ((p2 &&& (2147483647 : Int32)) % (26 : Int32)))), .val (.int ((97 : Int32) + ((p2 &&& (2147483647 : Int32)) % (26 : Int32)))), .val (.int (1 : Int32)), .val (.long (p1.toInt64 - (65 : Int64))), .second, .unset, .unset, .unset, .unset] [])) t
        refine XS.iconst X6.here hx rfl (hb hby at_73) ?_
        show Steps p.tables e below (T6.setTop (mkF m 74 #[.val (.int p1), .val (.int p2), .val (.int ((p2 &&& (2147483647 : Int32)) % (26 : Int32))), .val (.int ((65 : Int32) + ((p2 &&& (2147483647 : Int32)) % (26 : Int32)))), .val (.int ((97 : Int32) + ((p2 &&& (2147483647 : Int32)) % (26 : Int32)))), .val (.int (1 : Int32)), .val (.long (p1.toInt64 - (65 : Int64))), .second, .unset, .unset, .unset, .unset] [(.int (0 : Int32))])) t
        refine XS.istore X6.here hx rfl (hb hby at_74) rfl (l' := #[.val (.int p1), .val (.int p2), .val (.int ((p2 &&& (2147483647 : Int32)) % (26 : Int32))), .val (.int ((65 : Int32) + ((p2 &&& (2147483647 : Int32)) % (26 : Int32)))), .val (.int ((97 : Int32) + ((p2 &&& (2147483647 : Int32)) % (26 : Int32)))), .val (.int (1 : Int32)), .val (.long (p1.toInt64 - (65 : Int64))), .second, .val (.int (0 : Int32)), .unset, .unset, .unset]) rfl ?_
        show Steps p.tables e below (T6.setTop (mkF m 76 #[.val (.int p1), .val (.int p2), .val (.int ((p2 &&& (2147483647 : Int32)) % (26 : Int32))), .val (.int ((65 : Int32) + ((p2 &&& (2147483647 : Int32)) % (26 : Int32)))), .val (.int ((97 : Int32) + ((p2 &&& (2147483647 : Int32)) % (26 : Int32)))), .val (.int (1 : Int32)), .val (.long (p1.toInt64 - (65 : Int64))), .second, .val (.int (0 : Int32)), .unset, .unset, .unset] [])) t
        refine XS.iloadN X6.here hx rfl (hb hby at_76) rfl ?_
        show Steps p.tables e below (T6.setTop (mkF m 77 #[.val (.int p1), .val (.int p2), .val (.int ((p2 &&& (2147483647 : Int32)) % (26 : Int32))), .val (.int ((65 : Int32) + ((p2 &&& (2147483647 : Int32)) % (26 : Int32)))), .val (.int ((97 : Int32) + ((p2 &&& (2147483647 : Int32)) % (26 : Int32)))), .val (.int (1 : Int32)), .val (.long (p1.toInt64 - (65 : Int64))), .second, .val (.int (0 : Int32)), .unset, .unset, .unset] [(.int p1)])) t
        exact k)
      obtain ⟨_, _, ⟨T40, L40, k40, n40⟩, -, X40, ⟨Lc40, hQ40, l40, y40, z40⟩, st40⟩ := Jvm.LawKit.callS X6 hx (y := (⟨"com/example/charset_resolve/charsetresolve/sniff/Ascii", "toLowerCase", "(I)I"⟩ : MethodName)) hown (mvT hZ (hw _ (List.mem_of_getElem? (i := 1) rfl))) (mvT hZ (hw _ (List.mem_of_getElem? (i := 2) rfl))) (mvT hZ (hw _ (List.mem_of_getElem? (i := 3) rfl))) (mvT hZ (hw _ (List.mem_of_getElem? (i := 4) rfl))) (by decide) (backOf (W := 0) (rm1 l Z a0 hw [] p1 h0 n0 Z0 ) hZ (hw _ (List.mem_of_getElem? (i := 4) rfl)) (hw _ (List.mem_of_getElem? (i := 3) rfl)) (by decide) (by decide)) (g := (mkF m 77 #[.val (.int p1), .val (.int p2), .val (.int ((p2 &&& (2147483647 : Int32)) % (26 : Int32))), .val (.int ((65 : Int32) + ((p2 &&& (2147483647 : Int32)) % (26 : Int32)))), .val (.int ((97 : Int32) + ((p2 &&& (2147483647 : Int32)) % (26 : Int32)))), .val (.int (1 : Int32)), .val (.long (p1.toInt64 - (65 : Int64))), .second, .val (.int (0 : Int32)), .unset, .unset, .unset] [(.int p1)])) rfl (by rw [hml]; rfl) (argsL := [(.int p1)]) (rest := []) (lenOf pd_oIcI rfl) rfl (by show 2 * 0 + _ ≤ _; exact Nat.le_of_eq rfl) (hb hby at_77) (fun _ _ => ⟨rfl, eh6, (by decide : 0 + 0 ≤ _), (by decide : 0 + 0 ≤ _)⟩)
      dsimp only [Pt.U, Pt.locs, Pt.cells, Pt.slots] at X40 l40 y40 z40 st40 hQ40
      subst l40 y40 z40
      obtain ⟨rfl, N40q, eh40⟩ := hQ40
      have N40 := Fr.app N6 N40q
      have pre41 : ∀ t, Steps p.tables e below (T40.setTop (mkF m 80 #[.val (.int p1), .val (.int p2), .val (.int ((p2 &&& (2147483647 : Int32)) % (26 : Int32))), .val (.int ((65 : Int32) + ((p2 &&& (2147483647 : Int32)) % (26 : Int32)))), .val (.int ((97 : Int32) + ((p2 &&& (2147483647 : Int32)) % (26 : Int32)))), .val (.int (1 : Int32)), .val (.long (p1.toInt64 - (65 : Int64))), .second, .val (.int (0 : Int32)), .unset, .unset, .unset] [(.int (own_low p1))])) t → Steps p.tables e below (s₁.setTop (entryFrame m #[(.int p1), (.int p2)] maxLocals)) t := fun t k => pre39 t (st40 _ k)
      have pre44 : ∀ t, Steps p.tables e below (T40.setTop (mkF m 119 #[.val (.int p1), .val (.int p2), .val (.int ((p2 &&& (2147483647 : Int32)) % (26 : Int32))), .val (.int ((65 : Int32) + ((p2 &&& (2147483647 : Int32)) % (26 : Int32)))), .val (.int ((97 : Int32) + ((p2 &&& (2147483647 : Int32)) % (26 : Int32)))), .val (.int (1 : Int32)), .val (.long (p1.toInt64 - (65 : Int64))), .second, .val (.int (0 : Int32)), .val (.int (own_low p1)), .val (.int (1 : Int32)), .unset] [(.int (own_low p1))])) t → Steps p.tables e below (s₁.setTop (entryFrame m #[(.int p1), (.int p2)] maxLocals)) t := fun t k => pre41 t (by
        show Steps p.tables e below (T40.setTop (mkF m 80 #[.val (.int p1), .val (.int p2), .val (.int ((p2 &&& (2147483647 : Int32)) % (26 : Int32))), .val (.int ((65 : Int32) + ((p2 &&& (2147483647 : Int32)) % (26 : Int32)))), .val (.int ((97 : Int32) + ((p2 &&& (2147483647 : Int32)) % (26 : Int32)))), .val (.int (1 : Int32)), .val (.long (p1.toInt64 - (65 : Int64))), .second, .val (.int (0 : Int32)), .unset, .unset, .unset] [(.int (own_low p1))])) t
        refine XS.istore X40.here hx rfl (hb hby at_80) rfl (l' := #[.val (.int p1), .val (.int p2), .val (.int ((p2 &&& (2147483647 : Int32)) % (26 : Int32))), .val (.int ((65 : Int32) + ((p2 &&& (2147483647 : Int32)) % (26 : Int32)))), .val (.int ((97 : Int32) + ((p2 &&& (2147483647 : Int32)) % (26 : Int32)))), .val (.int (1 : Int32)), .val (.long (p1.toInt64 - (65 : Int64))), .second, .val (.int (0 : Int32)), .val (.int (own_low p1)), .unset, .unset]) rfl ?_
        show Steps p.tables e below (T40.setTop (mkF m 82 #[.val (.int p1), .val (.int p2), .val (.int ((p2 &&& (2147483647 : Int32)) % (26 : Int32))), .val (.int ((65 : Int32) + ((p2 &&& (2147483647 : Int32)) % (26 : Int32)))), .val (.int ((97 : Int32) + ((p2 &&& (2147483647 : Int32)) % (26 : Int32)))), .val (.int (1 : Int32)), .val (.long (p1.toInt64 - (65 : Int64))), .second, .val (.int (0 : Int32)), .val (.int (own_low p1)), .unset, .unset] [])) t
        refine XS.iload X40.here hx rfl (hb hby at_82) rfl ?_
        show Steps p.tables e below (T40.setTop (mkF m 84 #[.val (.int p1), .val (.int p2), .val (.int ((p2 &&& (2147483647 : Int32)) % (26 : Int32))), .val (.int ((65 : Int32) + ((p2 &&& (2147483647 : Int32)) % (26 : Int32)))), .val (.int ((97 : Int32) + ((p2 &&& (2147483647 : Int32)) % (26 : Int32)))), .val (.int (1 : Int32)), .val (.long (p1.toInt64 - (65 : Int64))), .second, .val (.int (0 : Int32)), .val (.int (own_low p1)), .unset, .unset] [(.int (0 : Int32))])) t
        refine XS.ifYes X40.here hx rfl (pc0 := 84) (pc' := 104) rfl (hb hby at_84) rfl (XT.i0_eq_t (show (0 : Int32) = (0 : Int32) from by decide)) (by decide) (by decide) ?_
        show Steps p.tables e below (T40.setTop (mkF m 104 #[.val (.int p1), .val (.int p2), .val (.int ((p2 &&& (2147483647 : Int32)) % (26 : Int32))), .val (.int ((65 : Int32) + ((p2 &&& (2147483647 : Int32)) % (26 : Int32)))), .val (.int ((97 : Int32) + ((p2 &&& (2147483647 : Int32)) % (26 : Int32)))), .val (.int (1 : Int32)), .val (.long (p1.toInt64 - (65 : Int64))), .second, .val (.int (0 : Int32)), .val (.int (own_low p1)), .unset, .unset] [])) t
        refine XS.iload X40.here hx rfl (hb hby at_104) rfl ?_
        show Steps p.tables e below (T40.setTop (mkF m 106 #[.val (.int p1), .val (.int p2), .val (.int ((p2 &&& (2147483647 : Int32)) % (26 : Int32))), .val (.int ((65 : Int32) + ((p2 &&& (2147483647 : Int32)) % (26 : Int32)))), .val (.int ((97 : Int32) + ((p2 &&& (2147483647 : Int32)) % (26 : Int32)))), .val (.int (1 : Int32)), .val (.long (p1.toInt64 - (65 : Int64))), .second, .val (.int (0 : Int32)), .val (.int (own_low p1)), .unset, .unset] [(.int (own_low p1))])) t
        refine XS.iloadN X40.here hx rfl (hb hby at_106) rfl ?_
        show Steps p.tables e below (T40.setTop (mkF m 107 #[.val (.int p1), .val (.int p2), .val (.int ((p2 &&& (2147483647 : Int32)) % (26 : Int32))), .val (.int ((65 : Int32) + ((p2 &&& (2147483647 : Int32)) % (26 : Int32)))), .val (.int ((97 : Int32) + ((p2 &&& (2147483647 : Int32)) % (26 : Int32)))), .val (.int (1 : Int32)), .val (.long (p1.toInt64 - (65 : Int64))), .second, .val (.int (0 : Int32)), .val (.int (own_low p1)), .unset, .unset] [(.int p1), (.int (own_low p1))])) t
        refine XS.icmpNo X40.here hx rfl (hb hby at_107) rfl (XT.ii_ne_f (show (own_low p1) = p1 from by first | exact own_lo (by assumption) | exact own_hi (by assumption))) ?_
        show Steps p.tables e below (T40.setTop (mkF m 110 #[.val (.int p1), .val (.int p2), .val (.int ((p2 &&& (2147483647 : Int32)) % (26 : Int32))), .val (.int ((65 : Int32) + ((p2 &&& (2147483647 : Int32)) % (26 : Int32)))), .val (.int ((97 : Int32) + ((p2 &&& (2147483647 : Int32)) % (26 : Int32)))), .val (.int (1 : Int32)), .val (.long (p1.toInt64 - (65 : Int64))), .second, .val (.int (0 : Int32)), .val (.int (own_low p1)), .unset, .unset] [])) t
        refine XS.iconst X40.here hx rfl (hb hby at_110) ?_
        show Steps p.tables e below (T40.setTop (mkF m 111 #[.val (.int p1), .val (.int p2), .val (.int ((p2 &&& (2147483647 : Int32)) % (26 : Int32))), .val (.int ((65 : Int32) + ((p2 &&& (2147483647 : Int32)) % (26 : Int32)))), .val (.int ((97 : Int32) + ((p2 &&& (2147483647 : Int32)) % (26 : Int32)))), .val (.int (1 : Int32)), .val (.long (p1.toInt64 - (65 : Int64))), .second, .val (.int (0 : Int32)), .val (.int (own_low p1)), .unset, .unset] [(.int (1 : Int32))])) t
        refine XS.goto X40.here hx rfl (pc0 := 111) (pc' := 115) rfl (hb hby at_111) (by decide) (by decide) ?_
        show Steps p.tables e below (T40.setTop (mkF m 115 #[.val (.int p1), .val (.int p2), .val (.int ((p2 &&& (2147483647 : Int32)) % (26 : Int32))), .val (.int ((65 : Int32) + ((p2 &&& (2147483647 : Int32)) % (26 : Int32)))), .val (.int ((97 : Int32) + ((p2 &&& (2147483647 : Int32)) % (26 : Int32)))), .val (.int (1 : Int32)), .val (.long (p1.toInt64 - (65 : Int64))), .second, .val (.int (0 : Int32)), .val (.int (own_low p1)), .unset, .unset] [(.int (1 : Int32))])) t
        refine XS.istore X40.here hx rfl (hb hby at_115) rfl (l' := #[.val (.int p1), .val (.int p2), .val (.int ((p2 &&& (2147483647 : Int32)) % (26 : Int32))), .val (.int ((65 : Int32) + ((p2 &&& (2147483647 : Int32)) % (26 : Int32)))), .val (.int ((97 : Int32) + ((p2 &&& (2147483647 : Int32)) % (26 : Int32)))), .val (.int (1 : Int32)), .val (.long (p1.toInt64 - (65 : Int64))), .second, .val (.int (0 : Int32)), .val (.int (own_low p1)), .val (.int (1 : Int32)), .unset]) rfl ?_
        show Steps p.tables e below (T40.setTop (mkF m 117 #[.val (.int p1), .val (.int p2), .val (.int ((p2 &&& (2147483647 : Int32)) % (26 : Int32))), .val (.int ((65 : Int32) + ((p2 &&& (2147483647 : Int32)) % (26 : Int32)))), .val (.int ((97 : Int32) + ((p2 &&& (2147483647 : Int32)) % (26 : Int32)))), .val (.int (1 : Int32)), .val (.long (p1.toInt64 - (65 : Int64))), .second, .val (.int (0 : Int32)), .val (.int (own_low p1)), .val (.int (1 : Int32)), .unset] [])) t
        refine XS.iload X40.here hx rfl (hb hby at_117) rfl ?_
        show Steps p.tables e below (T40.setTop (mkF m 119 #[.val (.int p1), .val (.int p2), .val (.int ((p2 &&& (2147483647 : Int32)) % (26 : Int32))), .val (.int ((65 : Int32) + ((p2 &&& (2147483647 : Int32)) % (26 : Int32)))), .val (.int ((97 : Int32) + ((p2 &&& (2147483647 : Int32)) % (26 : Int32)))), .val (.int (1 : Int32)), .val (.long (p1.toInt64 - (65 : Int64))), .second, .val (.int (0 : Int32)), .val (.int (own_low p1)), .val (.int (1 : Int32)), .unset] [(.int (own_low p1))])) t
        exact k)
      obtain ⟨_, _, ⟨T45, L45, k45, n45⟩, -, X45, ⟨Lc45, hQ45, l45, y45, z45⟩, st45⟩ := Jvm.LawKit.callS X40 hx (y := (⟨"com/example/charset_resolve/charsetresolve/sniff/Ascii", "toLowerCase", "(I)I"⟩ : MethodName)) hown (mvT hZ (hw _ (List.mem_of_getElem? (i := 1) rfl))) (mvT hZ (hw _ (List.mem_of_getElem? (i := 2) rfl))) (mvT hZ (hw _ (List.mem_of_getElem? (i := 3) rfl))) (mvT hZ (hw _ (List.mem_of_getElem? (i := 4) rfl))) (by decide) (backOf (W := 0) (rm1 l Z a0 hw [] (own_low p1) h0 n0 Z0 ) hZ (hw _ (List.mem_of_getElem? (i := 4) rfl)) (hw _ (List.mem_of_getElem? (i := 3) rfl)) (by decide) (by decide)) (g := (mkF m 119 #[.val (.int p1), .val (.int p2), .val (.int ((p2 &&& (2147483647 : Int32)) % (26 : Int32))), .val (.int ((65 : Int32) + ((p2 &&& (2147483647 : Int32)) % (26 : Int32)))), .val (.int ((97 : Int32) + ((p2 &&& (2147483647 : Int32)) % (26 : Int32)))), .val (.int (1 : Int32)), .val (.long (p1.toInt64 - (65 : Int64))), .second, .val (.int (0 : Int32)), .val (.int (own_low p1)), .val (.int (1 : Int32)), .unset] [(.int (own_low p1))])) rfl (by rw [hml]; rfl) (argsL := [(.int (own_low p1))]) (rest := []) (lenOf pd_oIcI rfl) rfl (by show 2 * 0 + _ ≤ _; exact Nat.le_of_eq rfl) (hb hby at_119) (fun _ _ => ⟨rfl, eh40, (by decide : 0 + 0 ≤ _), (by decide : 0 + 0 ≤ _)⟩)
      dsimp only [Pt.U, Pt.locs, Pt.cells, Pt.slots] at X45 l45 y45 z45 st45 hQ45
      subst l45 y45 z45
      obtain ⟨rfl, N45q, eh45⟩ := hQ45
      have N45 := Fr.app N40 N45q
      have pre46 : ∀ t, Steps p.tables e below (T45.setTop (mkF m 122 #[.val (.int p1), .val (.int p2), .val (.int ((p2 &&& (2147483647 : Int32)) % (26 : Int32))), .val (.int ((65 : Int32) + ((p2 &&& (2147483647 : Int32)) % (26 : Int32)))), .val (.int ((97 : Int32) + ((p2 &&& (2147483647 : Int32)) % (26 : Int32)))), .val (.int (1 : Int32)), .val (.long (p1.toInt64 - (65 : Int64))), .second, .val (.int (0 : Int32)), .val (.int (own_low p1)), .val (.int (1 : Int32)), .unset] [(.int (own_low (own_low p1)))])) t → Steps p.tables e below (s₁.setTop (entryFrame m #[(.int p1), (.int p2)] maxLocals)) t := fun t k => pre44 t (st45 _ k)
      have pre51 : ∀ t, Steps p.tables e below (T45.setTop (mkF m 154 #[.val (.int p1), .val (.int p2), .val (.int ((p2 &&& (2147483647 : Int32)) % (26 : Int32))), .val (.int ((65 : Int32) + ((p2 &&& (2147483647 : Int32)) % (26 : Int32)))), .val (.int ((97 : Int32) + ((p2 &&& (2147483647 : Int32)) % (26 : Int32)))), .val (.int (1 : Int32)), .val (.long (p1.toInt64 - (65 : Int64))), .second, .val (.int (0 : Int32)), .val (.int (own_low p1)), .val (.int (1 : Int32)), .val (.int (1 : Int32))] [(.int (1 : Int32))])) t → Steps p.tables e below (s₁.setTop (entryFrame m #[(.int p1), (.int p2)] maxLocals)) t := fun t k => pre46 t (by
        show Steps p.tables e below (T45.setTop (mkF m 122 #[.val (.int p1), .val (.int p2), .val (.int ((p2 &&& (2147483647 : Int32)) % (26 : Int32))), .val (.int ((65 : Int32) + ((p2 &&& (2147483647 : Int32)) % (26 : Int32)))), .val (.int ((97 : Int32) + ((p2 &&& (2147483647 : Int32)) % (26 : Int32)))), .val (.int (1 : Int32)), .val (.long (p1.toInt64 - (65 : Int64))), .second, .val (.int (0 : Int32)), .val (.int (own_low p1)), .val (.int (1 : Int32)), .unset] [(.int (own_low (own_low p1)))])) t
        refine XS.iload X45.here hx rfl (hb hby at_122) rfl ?_
        show Steps p.tables e below (T45.setTop (mkF m 124 #[.val (.int p1), .val (.int p2), .val (.int ((p2 &&& (2147483647 : Int32)) % (26 : Int32))), .val (.int ((65 : Int32) + ((p2 &&& (2147483647 : Int32)) % (26 : Int32)))), .val (.int ((97 : Int32) + ((p2 &&& (2147483647 : Int32)) % (26 : Int32)))), .val (.int (1 : Int32)), .val (.long (p1.toInt64 - (65 : Int64))), .second, .val (.int (0 : Int32)), .val (.int (own_low p1)), .val (.int (1 : Int32)), .unset] [(.int (own_low p1)), (.int (own_low (own_low p1)))])) t
        refine XS.icmpNo X45.here hx rfl (hb hby at_124) rfl (XT.ii_ne_f (show (own_low (own_low p1)) = (own_low p1) from own_idem _)) ?_
        show Steps p.tables e below (T45.setTop (mkF m 127 #[.val (.int p1), .val (.int p2), .val (.int ((p2 &&& (2147483647 : Int32)) % (26 : Int32))), .val (.int ((65 : Int32) + ((p2 &&& (2147483647 : Int32)) % (26 : Int32)))), .val (.int ((97 : Int32) + ((p2 &&& (2147483647 : Int32)) % (26 : Int32)))), .val (.int (1 : Int32)), .val (.long (p1.toInt64 - (65 : Int64))), .second, .val (.int (0 : Int32)), .val (.int (own_low p1)), .val (.int (1 : Int32)), .unset] [])) t
        refine XS.iconst X45.here hx rfl (hb hby at_127) ?_
        show Steps p.tables e below (T45.setTop (mkF m 128 #[.val (.int p1), .val (.int p2), .val (.int ((p2 &&& (2147483647 : Int32)) % (26 : Int32))), .val (.int ((65 : Int32) + ((p2 &&& (2147483647 : Int32)) % (26 : Int32)))), .val (.int ((97 : Int32) + ((p2 &&& (2147483647 : Int32)) % (26 : Int32)))), .val (.int (1 : Int32)), .val (.long (p1.toInt64 - (65 : Int64))), .second, .val (.int (0 : Int32)), .val (.int (own_low p1)), .val (.int (1 : Int32)), .unset] [(.int (1 : Int32))])) t
        refine XS.goto X45.here hx rfl (pc0 := 128) (pc' := 132) rfl (hb hby at_128) (by decide) (by decide) ?_
        show Steps p.tables e below (T45.setTop (mkF m 132 #[.val (.int p1), .val (.int p2), .val (.int ((p2 &&& (2147483647 : Int32)) % (26 : Int32))), .val (.int ((65 : Int32) + ((p2 &&& (2147483647 : Int32)) % (26 : Int32)))), .val (.int ((97 : Int32) + ((p2 &&& (2147483647 : Int32)) % (26 : Int32)))), .val (.int (1 : Int32)), .val (.long (p1.toInt64 - (65 : Int64))), .second, .val (.int (0 : Int32)), .val (.int (own_low p1)), .val (.int (1 : Int32)), .unset] [(.int (1 : Int32))])) t
        refine XS.istore X45.here hx rfl (hb hby at_132) rfl (l' := #[.val (.int p1), .val (.int p2), .val (.int ((p2 &&& (2147483647 : Int32)) % (26 : Int32))), .val (.int ((65 : Int32) + ((p2 &&& (2147483647 : Int32)) % (26 : Int32)))), .val (.int ((97 : Int32) + ((p2 &&& (2147483647 : Int32)) % (26 : Int32)))), .val (.int (1 : Int32)), .val (.long (p1.toInt64 - (65 : Int64))), .second, .val (.int (0 : Int32)), .val (.int (own_low p1)), .val (.int (1 : Int32)), .val (.int (1 : Int32))]) rfl ?_
        show Steps p.tables e below (T45.setTop (mkF m 134 #[.val (.int p1), .val (.int p2), .val (.int ((p2 &&& (2147483647 : Int32)) % (26 : Int32))), .val (.int ((65 : Int32) + ((p2 &&& (2147483647 : Int32)) % (26 : Int32)))), .val (.int ((97 : Int32) + ((p2 &&& (2147483647 : Int32)) % (26 : Int32)))), .val (.int (1 : Int32)), .val (.long (p1.toInt64 - (65 : Int64))), .second, .val (.int (0 : Int32)), .val (.int (own_low p1)), .val (.int (1 : Int32)), .val (.int (1 : Int32))] [])) t
        refine XS.iload X45.here hx rfl (hb hby at_134) rfl ?_
        show Steps p.tables e below (T45.setTop (mkF m 136 #[.val (.int p1), .val (.int p2), .val (.int ((p2 &&& (2147483647 : Int32)) % (26 : Int32))), .val (.int ((65 : Int32) + ((p2 &&& (2147483647 : Int32)) % (26 : Int32)))), .val (.int ((97 : Int32) + ((p2 &&& (2147483647 : Int32)) % (26 : Int32)))), .val (.int (1 : Int32)), .val (.long (p1.toInt64 - (65 : Int64))), .second, .val (.int (0 : Int32)), .val (.int (own_low p1)), .val (.int (1 : Int32)), .val (.int (1 : Int32))] [(.int (1 : Int32))])) t
        refine XS.ifNo X45.here hx rfl (hb hby at_136) rfl (XT.i0_eq_f (show ¬ ((1 : Int32) = (0 : Int32)) from by decide)) ?_
        show Steps p.tables e below (T45.setTop (mkF m 139 #[.val (.int p1), .val (.int p2), .val (.int ((p2 &&& (2147483647 : Int32)) % (26 : Int32))), .val (.int ((65 : Int32) + ((p2 &&& (2147483647 : Int32)) % (26 : Int32)))), .val (.int ((97 : Int32) + ((p2 &&& (2147483647 : Int32)) % (26 : Int32)))), .val (.int (1 : Int32)), .val (.long (p1.toInt64 - (65 : Int64))), .second, .val (.int (0 : Int32)), .val (.int (own_low p1)), .val (.int (1 : Int32)), .val (.int (1 : Int32))] [])) t
        refine XS.iload X45.here hx rfl (hb hby at_139) rfl ?_
        show Steps p.tables e below (T45.setTop (mkF m 141 #[.val (.int p1), .val (.int p2), .val (.int ((p2 &&& (2147483647 : Int32)) % (26 : Int32))), .val (.int ((65 : Int32) + ((p2 &&& (2147483647 : Int32)) % (26 : Int32)))), .val (.int ((97 : Int32) + ((p2 &&& (2147483647 : Int32)) % (26 : Int32)))), .val (.int (1 : Int32)), .val (.long (p1.toInt64 - (65 : Int64))), .second, .val (.int (0 : Int32)), .val (.int (own_low p1)), .val (.int (1 : Int32)), .val (.int (1 : Int32))] [(.int (1 : Int32))])) t
        refine XS.ifNo X45.here hx rfl (hb hby at_141) rfl (XT.i0_eq_f (show ¬ ((1 : Int32) = (0 : Int32)) from by decide)) ?_
        show Steps p.tables e below (T45.setTop (mkF m 144 #[.val (.int p1), .val (.int p2), .val (.int ((p2 &&& (2147483647 : Int32)) % (26 : Int32))), .val (.int ((65 : Int32) + ((p2 &&& (2147483647 : Int32)) % (26 : Int32)))), .val (.int ((97 : Int32) + ((p2 &&& (2147483647 : Int32)) % (26 : Int32)))), .val (.int (1 : Int32)), .val (.long (p1.toInt64 - (65 : Int64))), .second, .val (.int (0 : Int32)), .val (.int (own_low p1)), .val (.int (1 : Int32)), .val (.int (1 : Int32))] [])) t
        refine XS.iload X45.here hx rfl (hb hby at_144) rfl ?_
        show Steps p.tables e below (T45.setTop (mkF m 146 #[.val (.int p1), .val (.int p2), .val (.int ((p2 &&& (2147483647 : Int32)) % (26 : Int32))), .val (.int ((65 : Int32) + ((p2 &&& (2147483647 : Int32)) % (26 : Int32)))), .val (.int ((97 : Int32) + ((p2 &&& (2147483647 : Int32)) % (26 : Int32)))), .val (.int (1 : Int32)), .val (.long (p1.toInt64 - (65 : Int64))), .second, .val (.int (0 : Int32)), .val (.int (own_low p1)), .val (.int (1 : Int32)), .val (.int (1 : Int32))] [(.int (1 : Int32))])) t
        refine XS.ifNo X45.here hx rfl (hb hby at_146) rfl (XT.i0_eq_f (show ¬ ((1 : Int32) = (0 : Int32)) from by decide)) ?_
        show Steps p.tables e below (T45.setTop (mkF m 149 #[.val (.int p1), .val (.int p2), .val (.int ((p2 &&& (2147483647 : Int32)) % (26 : Int32))), .val (.int ((65 : Int32) + ((p2 &&& (2147483647 : Int32)) % (26 : Int32)))), .val (.int ((97 : Int32) + ((p2 &&& (2147483647 : Int32)) % (26 : Int32)))), .val (.int (1 : Int32)), .val (.long (p1.toInt64 - (65 : Int64))), .second, .val (.int (0 : Int32)), .val (.int (own_low p1)), .val (.int (1 : Int32)), .val (.int (1 : Int32))] [])) t
        refine XS.iconst X45.here hx rfl (hb hby at_149) ?_
        show Steps p.tables e below (T45.setTop (mkF m 150 #[.val (.int p1), .val (.int p2), .val (.int ((p2 &&& (2147483647 : Int32)) % (26 : Int32))), .val (.int ((65 : Int32) + ((p2 &&& (2147483647 : Int32)) % (26 : Int32)))), .val (.int ((97 : Int32) + ((p2 &&& (2147483647 : Int32)) % (26 : Int32)))), .val (.int (1 : Int32)), .val (.long (p1.toInt64 - (65 : Int64))), .second, .val (.int (0 : Int32)), .val (.int (own_low p1)), .val (.int (1 : Int32)), .val (.int (1 : Int32))] [(.int (1 : Int32))])) t
        refine XS.goto X45.here hx rfl (pc0 := 150) (pc' := 154) rfl (hb hby at_150) (by decide) (by decide) ?_
        show Steps p.tables e below (T45.setTop (mkF m 154 #[.val (.int p1), .val (.int p2), .val (.int ((p2 &&& (2147483647 : Int32)) % (26 : Int32))), .val (.int ((65 : Int32) + ((p2 &&& (2147483647 : Int32)) % (26 : Int32)))), .val (.int ((97 : Int32) + ((p2 &&& (2147483647 : Int32)) % (26 : Int32)))), .val (.int (1 : Int32)), .val (.long (p1.toInt64 - (65 : Int64))), .second, .val (.int (0 : Int32)), .val (.int (own_low p1)), .val (.int (1 : Int32)), .val (.int (1 : Int32))] [(.int (1 : Int32))])) t
        exact k)
      obtain ⟨fs, hr, hrun, hended, hW, hsame⟩ := X45.leave (v := some (.int (1 : Int32))) (fun h => by rw [Bd.returns] at h; cases h)
      refine ⟨_, _, pre51 _ ?_, hrun, hended, _, _, rfl, ?_, ⟨_, rfl⟩, hW, hsame.mono (by decide) (by decide)⟩
      · show Steps p.tables e below (T45.setTop (mkF m 154 #[.val (.int p1), .val (.int p2), .val (.int ((p2 &&& (2147483647 : Int32)) % (26 : Int32))), .val (.int ((65 : Int32) + ((p2 &&& (2147483647 : Int32)) % (26 : Int32)))), .val (.int ((97 : Int32) + ((p2 &&& (2147483647 : Int32)) % (26 : Int32)))), .val (.int (1 : Int32)), .val (.long (p1.toInt64 - (65 : Int64))), .second, .val (.int (0 : Int32)), .val (.int (own_low p1)), .val (.int (1 : Int32)), .val (.int (1 : Int32))] [(.int (1 : Int32))])) _
        exact retN X45 hx (t := .boolean) Bd.returns (by simp) (hb hby at_154) hr
      · show Q0 Z p1 p2 h0 n0 _ T45.heap _
        rw [eh45]
        exact ⟨rfl, N45⟩
set_option maxRecDepth 65536 in
set_option maxHeartbeats 40000000 in
theorem comes_1 {Post : Tables → Env → Array Value → State → Outcome → State → Prop} (hpost : ∀ tb e args s v u, (limb_1_1.after args s (.returned v) u = true ∧ limb_1_2.after args s (.returned v) u = true ∧ True) → FrameEnd s (.returned v) u (Jvm.fieldLocs frame_1_writes args s ++ Jvm.arrayLocs frame_1_arrays args s ++ Jvm.staticLocs frame_1_statics s) 0 0 → Post tb e args s (.returned v) u) :
    ArmFor flags0 classFile x code maxLocals ret World_1 tables_1 room_1 Calls_1 rest_1 Pre_1 Post := by
  intro l hfl _ _ p e ha hc hk s m args below hf hA hF happ hP
  obtain ⟨hcalls, hrest, hpre⟩ := hP
  obtain ⟨-, -, -, hnamed, -, -, -, hat⟩ := (Spec.applies_iff hf).mp happ
  obtain ⟨hg, hn⟩ := and_e (Cond.before_iff.mp (show (Jvm.Cond.and given_1 narrow_1).before args s = true from hpre))
  obtain ⟨ga0, gb0⟩ := and_e hg
  obtain ⟨ga1, gb1⟩ := and_e gb0
  obtain ⟨w0, w1, rfl⟩ : ∃ w0 w1 : Value, args = #[w0, w1] := by
    have hs : args.size = 2 := by simpa [Cond.value, given_1] using ga0
    obtain ⟨L⟩ := args
    match L, hs with
    | [w0, w1], _ => exact ⟨w0, w1, rfl⟩
  have hw := fun d (hd : d ∈ tables_1) => atoms_spec (ws := Jvm.Cond.code x code maxLocals ret :: tables_1) hat d (List.mem_cons_of_mem _ hd)
  obtain ⟨i0, ei0⟩ := is_v ga1
  obtain rfl : w0 = (.int i0) := Option.some.inj ei0
  obtain ⟨i1, ei1⟩ := is_v gb1
  obtain rfl : w1 = (.int i1) := Option.some.inj ei1
  obtain ⟨n, o, h1, h2, h3, _, L, rfl, ⟨rfl, N⟩, hq⟩ := rm0 l s _ hw tables_1 i0 i1 s.heap s.heap.size (Nat.le_refl _) p e ha hc hk s m _ below hf ((Spec.applies_iff_loose hf).mp happ).1 ⟨rfl, State.Warmed39.refl s, rfl⟩ trivial
  refine ⟨n, _, h1, h2, h3, hpost _ _ _ _ _ _ ⟨Cond.after_iff.mpr rfl, Cond.after_iff.mpr (eq_i res_at (Term.int_eval (1)) rfl), trivial⟩ ⟨hq.1, hq.2.1, (hq.2.2.sift fun y hy => Or.inr (N y hy)).mono (by decide) (by decide)⟩⟩
theorem main_1_1 : Claimed_1_1 := comes_1 fun _ _ _ _ _ _ h hF => ⟨h.1, hF⟩
theorem main_1_2 : Claimed_1_2 := comes_1 fun _ _ _ _ _ _ h hF => ⟨h.2.1, hF⟩
end Jvm.Pilot.@@N@@
namespace Jvm.Pilot.@@N@@
open Jvm Jvm.ClassFile Sem Op Lib Jvm.Free Jvm.Stand Jvm.Pilot.@@N@@.Jvm.D
/-! MADE BY PROGRAM (witnessworld.py) out of the Statement's table words and the real class files: 9 classes; the members and pool entries that the words name. The judged class is class 1, her method 1. -/
namespace start1
open Jvm.ClassFile
def u (s : String) : CpInfo := .utf8 (stringToUtf16 s)
/-- a pool by its gaps: so many unusable entries, then the entry; so many at the end -/
def gap : Nat → List CpInfo → List CpInfo
  | 0, r => r
  | n + 1, r => .unusable :: gap n r
def poolList (es : List (Nat × CpInfo)) (last : Nat) : List CpInfo := es.foldr (fun e r => gap e.1 (e.2 :: r)) (gap last [])
def pool (es : List (Nat × CpInfo)) (last : Nat) : Array CpInfo := ⟨poolList es last⟩
def fileOf (pool : Array CpInfo) (this : Nat) (attrs : Array Attribute := #[]) (ms : Array MethodInfo := #[]) (fl : Nat := 33) (sup : Nat := 0) (ifs : Array Nat := #[]) (fds : Array FieldInfo := #[]) : ClassFile where
  minorVersion := 0
  majorVersion := 65
  constantPool := pool
  accessFlags := fl
  thisClass := this
  superClass := sup
  interfaces := ifs
  fields := fds
  methods := ms
  attributes := attrs
def plain (name : String) (sup : Option ClassId) : Class where
  name := name
  kind := .ordinary
  loader := none
  accessFlags := 33
  super := sup
  interfaces := #[]
  cf := none
  fields := #[]
  methods := #[]
  instanceTypes := #[]
  staticTypes := #[]
  resolved := #[]
  callSites := []
  init := .initialized
  statics := none
  mirror := none

def pool0 : Array CpInfo := pool [(5, u "<init>"), (0, u "()V"), (1, .class_ 10), (1, u "java/lang/Object")] 113

def k0m0 : Method := { name := "<init>", desc := "()V", sig := { parameters := [], returnType := none }, accessFlags := 1, code := none }
/-- java/lang/Object -/
def k0 : Class := { plain "java/lang/Object" none with
  accessFlags := 33
  interfaces := #[]
  cf := some (fileOf pool0 8 #[] #[{ accessFlags := 1, nameIndex := 5, descriptorIndex := 6, attributes := #[] }] 33 0 #[] #[])
  fields := #[]
  methods := #[k0m0]
  instanceTypes := #[]
  staticTypes := #[]
  resolved := Array.replicate 124 none
  statics := none }

def pool1 : Array CpInfo := pool [(2, .class_ 4), (1, u "java/lang/Object"), (0, u "<init>"), (0, u "()V"), (0, .integer 2147483647), (0, .methodref 9 10), (0, .class_ 11), (0, .nameAndType 12 13), (0, u "com/example/charset_resolve/charsetresolve/sniff/Ascii"), (0, u "toLowerCase"), (0, u "(I)I"), (0, .long 65), (1, .long 26), (1, .class_ 19), (0, u "com/example/charset_resolve/charsetresolve/sniff/AsciiToLowerCasePinLaw"), (2, u "law"), (0, u "(II)Z")] 3

def k1m0 : Method := { name := "<init>", desc := "()V", sig := { parameters := [], returnType := none }, accessFlags := 2, code := none }
def k1c1 : Code := { maxStack := 4, maxLocals := 12, code := code, exceptionTable := #[], attributes := #[] }
def k1m1 : Method := { name := "law", desc := "(II)Z", sig := { parameters := [.int, .int], returnType := some .boolean }, accessFlags := 9, code := some k1c1 }
/-- com/example/charset_resolve/charsetresolve/sniff/AsciiToLowerCasePinLaw -/
def k1 : Class := { plain "com/example/charset_resolve/charsetresolve/sniff/AsciiToLowerCasePinLaw" (some 0) with
  accessFlags := 49
  interfaces := #[]
  cf := some (fileOf pool1 18 #[] #[{ accessFlags := 2, nameIndex := 5, descriptorIndex := 6, attributes := #[] }, { accessFlags := 9, nameIndex := 22, descriptorIndex := 23, attributes := #[] }] 49 2 #[] #[])
  fields := #[]
  methods := #[k1m0, k1m1]
  instanceTypes := #[]
  staticTypes := #[]
  resolved := Array.replicate 27 none
  statics := none }

def pool2 : Array CpInfo := pool [(2, .class_ 4), (1, u "java/lang/Object"), (0, u "<init>"), (0, u "()V"), (0, .class_ 8), (0, u "com/example/charset_resolve/charsetresolve/sniff/Ascii"), (5, u "toLowerCase"), (0, u "(I)I")] 2

def k2m0 : Method := { name := "<init>", desc := "()V", sig := { parameters := [], returnType := none }, accessFlags := 2, code := none }
def k2c1 : Code := { maxStack := 2, maxLocals := 1, code := prog_28_method_3_code, exceptionTable := #[], attributes := #[] }
def k2m1 : Method := { name := "toLowerCase", desc := "(I)I", sig := { parameters := [.int], returnType := some .int }, accessFlags := 8, code := some k2c1 }
/-- com/example/charset_resolve/charsetresolve/sniff/Ascii -/
def k2 : Class := { plain "com/example/charset_resolve/charsetresolve/sniff/Ascii" (some 0) with
  accessFlags := 48
  interfaces := #[]
  cf := some (fileOf pool2 7 #[] #[{ accessFlags := 2, nameIndex := 5, descriptorIndex := 6, attributes := #[] }, { accessFlags := 8, nameIndex := 14, descriptorIndex := 15, attributes := #[] }] 48 2 #[] #[])
  fields := #[]
  methods := #[k2m0, k2m1]
  instanceTypes := #[]
  staticTypes := #[]
  resolved := Array.replicate 18 none
  statics := none }

def pool3 : Array CpInfo := pool [(1, u "java/lang/Cloneable"), (0, .class_ 1), (0, u "java/lang/Object"), (0, .class_ 3)] 3

/-- java/lang/Cloneable -/
def k3 : Class := { plain "java/lang/Cloneable" (some 0) with
  accessFlags := 1537
  interfaces := #[]
  cf := some (fileOf pool3 2 #[] #[] 1537 4 #[] #[])
  fields := #[]
  methods := #[]
  instanceTypes := #[]
  staticTypes := #[]
  resolved := Array.replicate 8 none
  statics := none }

def pool4 : Array CpInfo := pool [(1, u "java/io/Serializable"), (0, .class_ 1), (0, u "java/lang/Object"), (0, .class_ 3)] 3

/-- java/io/Serializable -/
def k4 : Class := { plain "java/io/Serializable" (some 0) with
  accessFlags := 1537
  interfaces := #[]
  cf := some (fileOf pool4 2 #[] #[] 1537 4 #[] #[])
  fields := #[]
  methods := #[]
  instanceTypes := #[]
  staticTypes := #[]
  resolved := Array.replicate 8 none
  statics := none }

/-- the primitive byte -/
def k5 : Class := { plain "byte" none with kind := .primitive 'B', accessFlags := 0x411 }
/-- [B -/
def k6 : Class := { plain "[B" (some 0) with kind := .array 5 .byte, interfaces := #[3, 4], accessFlags := 1041 }

/-- the primitive int -/
def k7 : Class := { plain "int" none with kind := .primitive 'I', accessFlags := 0x411 }
/-- [I -/
def k8 : Class := { plain "[I" (some 0) with kind := .array 7 .int, interfaces := #[3, 4], accessFlags := 1041 }

def heap : Heap := #[]
def classes : Array Class := #[k0, k1, k2, k3, k4, k5, k6, k7, k8]
def interned : List (Array UInt16 × Addr) := []
def slotsUsed : Nat := 0
def theMethod : MethodId := ⟨1, 1⟩
def args0 : Array Value := #[.int 5, .int 9]
def aboutOver (below : List Frame) : State where
  vm := { classes := classes, interned := interned.toArray }
  heap := heap
  slotsUsed := slotsUsed
  threads := #[{ frames := .invoking theMethod args0 :: below }]
def below0 : List Frame := [.native { method := ⟨0, 0⟩, args := #[] }]
def about1 : State := aboutOver below0
def p0 : Program := .bare "" "" ""
def e0 : Env := launch0.env 0 0 0
theorem w_frames : about1.frames = Frame.invoking theMethod args0 :: below0 := rfl
set_option maxRecDepth 65536 in
theorem w_args : argsFit about1.vm theMethod args0 = true := by decide +kernel
set_option maxRecDepth 65536 in
theorem w_heap : heapFits about1 = true := by decide +kernel
set_option maxRecDepth 65536 in
theorem w_runnable : about1.curStatus? = some .runnable := by decide +kernel
set_option maxRecDepth 65536 in
theorem w_alone : about1.alone = true := by decide +kernel
set_option maxRecDepth 65536 in
theorem w_named : about1.methodNamed? x = some theMethod := by decide +kernel
set_option maxRecDepth 65536 in
theorem w_hears : about1.hears theMethod below0 = true := by decide +kernel
set_option maxRecDepth 65536 in
theorem w_ripe : about1.ripe theMethod args0 below0 = true := by decide +kernel
theorem w_running : about1.status = .running := rfl
set_option maxRecDepth 65536 in
theorem w_room : about1.hasRoom e0.platform room_1 = true :=
  launch0.hasRoom_least _ room_1 (by decide +kernel) (by decide +kernel) (by decide +kernel) (by decide +kernel) (by decide +kernel) (by decide +kernel)
theorem allAtoms_all (ts : List Jvm.Cond) (a : Array Jvm.Value) (st : Jvm.State) : (allAtoms ts).before a st = ts.all (fun c => c.before a st) := by
  induction ts with
  | nil => rfl
  | cons c t ih =>
    show (Jvm.Cond.and c (allAtoms t)).before a st = _
    rw [Jvm.Cond.before_and, ih, List.all_cons]
def words1 : List Jvm.Cond := Jvm.Cond.code x code maxLocals ret :: tables_1
/-- a 'code' word, met by the world's own term for the bytes: nothing is compared byte by byte -/
theorem code_word {y : MethodName} {bytes : ByteArray} {mx : Nat} {rt : Option FieldType} {a : Array Value} {s : State} {m : MethodId} {meth : Method} {c : Code} (h1 : s.methodNamed? y = some m) (h2 : s.vm.method? m = some meth) (h3 : meth.code = some c) (h4 : c.code = bytes)
    (h5 : (c.maxLocals == mx && c.exceptionTable.isEmpty && decide (c.maxStack ≤ mostOperands) && decide (meth.sig.returnType = rt) && !meth.locks && decide (parseMethodDescriptor y.desc = some meth.sig)) = true) : (Jvm.Cond.code y bytes mx rt).before a s = true := by
  simp only [Bool.and_eq_true, beq_iff_eq, Bool.not_eq_true', decide_eq_true_eq] at h5
  obtain ⟨⟨⟨⟨⟨g1, g2⟩, g3⟩, g4⟩, g5⟩, g6⟩ := h5
  simp [Cond.before, Cond.holds, Cond.value, h1, h2, h3, h4, g1, g2, g3, g4, g5, g6]
def isCode : Jvm.Cond → Bool
  | .code _ _ _ _ => true
  | _ => false
theorem all_split {L : List Jvm.Cond} {P : Jvm.Cond → Bool} (h1 : L.all (fun c => isCode c || P c) = true) (h2 : ∀ c ∈ L.filter isCode, P c = true) : L.all P = true := by
  refine List.all_eq_true.mpr fun c hc => ?_
  have h := List.all_eq_true.mp h1 c hc
  rcases Bool.eq_false_or_eq_true (isCode c) with hi | hi
  · exact h2 c (List.mem_filter.mpr ⟨hc, hi⟩)
  · simpa [hi] using h
set_option maxRecDepth 65536 in
theorem w_c0 : (Jvm.Cond.code x code maxLocals ret).before args0 about1 = true := code_word (m := ⟨1, 1⟩) (meth := k1m1) (c := k1c1) (by decide +kernel) rfl rfl rfl (by decide +kernel)
set_option maxRecDepth 65536 in
theorem w_c1 : (Jvm.Cond.code ({ cls := "com/example/charset_resolve/charsetresolve/sniff/Ascii", name := "toLowerCase", desc := "(I)I" } : Jvm.MethodName) prog_28_method_3_code (1 : Nat) (Option.some Jvm.ClassFile.FieldType.int)).before args0 about1 = true := code_word (m := ⟨2, 1⟩) (meth := k2m1) (c := k2c1) (by decide +kernel) rfl rfl rfl (by decide +kernel)
def codes1 : List Jvm.Cond := [Jvm.Cond.code x code maxLocals ret, Jvm.Cond.code ({ cls := "com/example/charset_resolve/charsetresolve/sniff/Ascii", name := "toLowerCase", desc := "(I)I" } : Jvm.MethodName) prog_28_method_3_code (1 : Nat) (Option.some Jvm.ClassFile.FieldType.int)]
set_option maxRecDepth 65536 in
theorem codes_eq : words1.filter isCode = codes1 := rfl
theorem w_codes : ∀ c ∈ words1.filter isCode, c.before args0 about1 = true := by
  rw [codes_eq]
  intro c hc
  simp only [codes1, List.mem_cons, List.not_mem_nil, or_false] at hc
  rcases hc with rfl | rfl
  · exact w_c0
  · exact w_c1
set_option maxRecDepth 65536 in
theorem w_t1 : words1.all (fun c => isCode c || c.before args0 about1) = true := by decide +kernel
theorem w_tables : (allAtoms (Jvm.Cond.code x code maxLocals ret :: tables_1)).before args0 about1 = true := by
  rw [allAtoms_all]
  show words1.all (fun c => c.before args0 about1) = true
  refine all_split ?_ w_codes
  rw [w_t1]
set_option maxRecDepth 65536 in
theorem w_case : (Jvm.Cond.and given_1 narrow_1).before args0 about1 = true := by decide +kernel
theorem w_applies : (headSpec (Jvm.Cond.code x code maxLocals ret :: tables_1) room_1).applies x e0.platform about1 = true :=
  (Spec.applies_iff w_frames).mpr ⟨w_running, w_runnable, w_alone, w_named, w_hears, w_ripe, w_room, w_tables⟩
theorem atStart : AtStart classFile x code maxLocals ret World_1 tables_1 room_1 Calls_1 rest_1 Pre_1 launch0 p0 e0 about1 theMethod args0 below0 :=
  ⟨lists_1, trivial, launch0.admits_env _ _ _, launch0.least_env, fairChoices_fair.cas, fairChoices_fair.clock, w_frames, w_args, w_heap, w_applies, trivial, trivial, w_case⟩
end start1
theorem witness_1 : WitnessClaimed_1 := ⟨start1.p0, start1.e0, start1.about1, start1.theMethod, start1.args0, start1.below0, start1.atStart⟩
end Jvm.Pilot.@@N@@
