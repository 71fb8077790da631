import JvmDerived
import JvmDerived.Pilot.@@N@@Statement
import JvmDerived.Pilot.@@N@@Code
set_option linter.unusedVariables false
set_option linter.unusedSimpArgs false
@@BLOCK:NumsL.lean.txt@@
namespace Jvm.RoadKit
open Sem ClassFile Op Lib Jvm.Stand Jvm.Free Jvm.LawKit
section New
variable {p : Program} {l : Launch} {e : Env} {R : Room} {s : State} {m : MethodId} {args : Array Value} {below : List Frame} {meth : Method} {c : Code} {T : State} {locs : List Loc} {cells slots : Nat}
theorem retI (X : Stand p l e R s m args below meth c T locs cells slots) (hx : p.tables.exec = Jvm.exec) {pc : Nat} {Ls : Array Slot} {z : Int32} {rest : List Value} (hret : meth.sig.returnType = some .int) (hd : decode c.code pc = .ok (.ireturn, 1)) {fs : List Frame}
    (hl : ∀ (f : JFrame) (acts : List Action), f.method = m → f.locked = none → f.entered = [] → (doReturn e (T.setTop f) acts (some (.int z))).1 = T.setFrames fs) : Steps p.tables e below (T.setTop (mkF m pc Ls (.int z :: rest))) (T.setFrames fs) := by
  have hm' : T.vm.method? m = some meth := X.method'
  have hn : narrow .int (.int z) = .int z := rfl
  show Steps p.tables e below (T.setTop { method := m, pc := pc, locals := Ls, stack := _ :: rest, locked := none }) _
  jvm_step X.here [X.here.top, hx, hd, hm', hret, hn]
  first | (intro acts; rw [hl _ acts rfl rfl rfl]) | rw [hl _ _ rfl rfl rfl]
  exact Steps.refl _
end New
end Jvm.RoadKit
namespace Jvm.Pilot.@@N@@
open Jvm Jvm.ClassFile Sem Op Lib Jvm.Free Jvm.Stand Jvm.LawKit Jvm.RoadKit Bundle Jvm.Pilot.@@N@@.Jvm.D
section Own
variable {p : Program} {l : Launch} {e : Env} {R : Room} {s : State} {m : MethodId} {args : Array Value} {below : List Frame} {meth : Method} {c : Code} {T : State} {locs : List Loc} {cells slots : Nat} {Z : State} {h : Heap} {a : Addr} {k : ClassId} {n : Int32} {vs : List Value} {dv : Value} {ty : FieldType}
theorem own_caload (X : Stand p l e R s m args below meth c T locs cells slots) (hx : p.tables.exec = Jvm.exec) (hZ : Z.Warmed39 s.vm) (eT : T.heap = h) (V : Arv Z h a k .char n vs dv) {j : Int32} {v : Value} (hj : ¬ j < 0 ∧ j < n) (hv : vs.getD j.toNatClampNeg dv = v) {g : JFrame} (hg : g.method = m) {rest : List Value} (hs : g.stack = .int j :: .ref a :: rest) (hd : decode c.code g.pc = .ok (.caload, 1)) :
    ∀ target, Steps p.tables e below (T.setTop { g with pc := g.pc + 1, stack := v :: rest }) target → Steps p.tables e below (T.setTop g) target := by
  obtain ⟨cl, Ar, -, S, -, H, -⟩ := V
  exact X.caload hx (j := j) (v := v) (by rw [eT]; exact Ar.1) (State.isArrayOf_alike hZ.alike Ar.2.1) Ar.2.2 (inb_of S hj) (H.at (inb_of S hj) hv) hg hs hd
theorem own_iaload (X : Stand p l e R s m args below meth c T locs cells slots) (hx : p.tables.exec = Jvm.exec) (hZ : Z.Warmed39 s.vm) (eT : T.heap = h) (V : Arv Z h a k .int n vs dv) {j : Int32} {v : Value} (hj : ¬ j < 0 ∧ j < n) (hv : vs.getD j.toNatClampNeg dv = v) {g : JFrame} (hg : g.method = m) {rest : List Value} (hs : g.stack = .int j :: .ref a :: rest) (hd : decode c.code g.pc = .ok (.iaload, 1)) :
    ∀ target, Steps p.tables e below (T.setTop { g with pc := g.pc + 1, stack := v :: rest }) target → Steps p.tables e below (T.setTop g) target := by
  obtain ⟨cl, Ar, -, S, -, H, -⟩ := V
  exact X.iaload hx (j := j) (v := v) (by rw [eT]; exact Ar.1) (State.isArrayOf_alike hZ.alike Ar.2.1) Ar.2.2 (inb_of S hj) (H.at (inb_of S hj) hv) hg hs hd
theorem own_baload (X : Stand p l e R s m args below meth c T locs cells slots) (hx : p.tables.exec = Jvm.exec) (hZ : Z.Warmed39 s.vm) (eT : T.heap = h) (V : Arv Z h a k .byte n vs dv) {j : Int32} {v : Value} (hj : ¬ j < 0 ∧ j < n) (hv : vs.getD j.toNatClampNeg dv = v) {g : JFrame} (hg : g.method = m) {rest : List Value} (hs : g.stack = .int j :: .ref a :: rest) (hd : decode c.code g.pc = .ok (.baload, 1)) :
    ∀ target, Steps p.tables e below (T.setTop { g with pc := g.pc + 1, stack := v :: rest }) target → Steps p.tables e below (T.setTop g) target := by
  obtain ⟨cl, Ar, -, S, -, H, -⟩ := V
  exact X.baloadBytes hx (j := j) (v := v) (by rw [eT]; exact Ar.1) (State.isArrayOf_alike hZ.alike Ar.2.1) Ar.2.2 (inb_of S hj) (H.at (inb_of S hj) hv) hg hs hd
theorem own_alen (X : Stand p l e R s m args below meth c T locs cells slots) (hx : p.tables.exec = Jvm.exec) (hZ : Z.Warmed39 s.vm) (eT : T.heap = h) (V : Arv Z h a k ty n vs dv) {g : JFrame} (hg : g.method = m) {rest : List Value} (hs : g.stack = .ref a :: rest) (hd : decode c.code g.pc = .ok (.arraylength, 1)) :
    ∀ target, Steps p.tables e below (T.setTop { g with pc := g.pc + 1, stack := .int n :: rest }) target → Steps p.tables e below (T.setTop g) target := by
  obtain ⟨cl, Ar, -, S, N, -, -⟩ := V
  intro target q
  refine X.arraylength hx (by rw [eT]; exact Ar.1) (State.isArrayOf_alike hZ.alike Ar.2.1) hg hs hd target ?_
  rw [len_of S N]; exact q
end Own

def own_min (a b : Int32) : Int32 := if b < a then b else a
def own_max (a b : Int32) : Int32 := if a < b then b else a
def own_minJ (a b : Int64) : Int64 := if b < a then b else a
def own_le (x v : Int32) : Int32 := if v < x then (0 : Int32) else (1 : Int32)
def own_fa0 (v : Int32) : Int32 := (0 : Int32)
def own_fa1 (x0 v : Int32) : Int32 := if v < x0 then (0 : Int32) else (1 : Int32)
def own_fa2 (x0 x1 v : Int32) : Int32 := if v < x1 then (if v < x0 then (0 : Int32) else (1 : Int32)) else (2 : Int32)
def own_fa3 (x0 x1 x2 v : Int32) : Int32 := if v < x1 then (if v < x0 then (0 : Int32) else (1 : Int32)) else (if v < x2 then (2 : Int32) else (3 : Int32))
def own_fa4 (x0 x1 x2 x3 v : Int32) : Int32 := if v < x2 then (if v < x1 then (if v < x0 then (0 : Int32) else (1 : Int32)) else (2 : Int32)) else (if v < x3 then (3 : Int32) else (4 : Int32))
theorem own_lt {c : Int32} (n : Int32) (h1 : ¬ c < n) (h2 : ¬ n = c) : n < c := by
  rw [Int32.lt_iff_toInt_lt] at *; rw [← Int32.toInt_inj] at h2; omega
theorem own_up {c n m : Int32} (h : n < c) (hm : m.toInt = n.toInt + 1) : ¬ c < m := by
  rw [Int32.lt_iff_toInt_lt] at *; omega
theorem own_cap4 {c : Int32} (h : ¬ c < (0 : Int32) ∧ c < (5 : Int32)) : c.toNatClampNeg ≤ 4 := by
  obtain ⟨h1, h2⟩ := h
  rw [Int32.lt_iff_toInt_lt] at h1 h2
  have z5 : (5 : Int32).toInt = 5 := by decide
  simp only [Int32.toNatClampNeg]; omega
theorem own_cp (n : Int32) : ¬ (((XT.ushr n (3 : Int32)) &&& (3 : Int32)) + (1 : Int32)) < (1 : Int32) ∧ (((XT.ushr n (3 : Int32)) &&& (3 : Int32)) + (1 : Int32)) < (5 : Int32) := by
  generalize (XT.ushr n (3 : Int32)) = m
  have e : (m &&& (3 : Int32)).toInt = m.toInt % 2 ^ 2 := Jvm.Kit.i32_mask m _ (k := 2) (by decide) (by decide)
  have z1 : (1 : Int32).toInt = 1 := by decide
  have z5 : (5 : Int32).toInt = 5 := by decide
  have e2 : ((m &&& (3 : Int32)) + (1 : Int32)).toInt = (m &&& (3 : Int32)).toInt + 1 := by rw [Jvm.Kit.i32_add (by omega) (by omega), z1]
  rw [Int32.lt_iff_toInt_lt, Int32.lt_iff_toInt_lt]; omega
theorem own_cp0 {c : Int32} (h : ¬ c < (1 : Int32)) : ¬ c < (0 : Int32) := by
  rw [Int32.lt_iff_toInt_lt] at *
  have z0 : (0 : Int32).toInt = 0 := by decide
  have z1 : (1 : Int32).toInt = 1 := by decide
  omega
theorem own_no (a b : Int32) (hab : a.toInt ≤ b.toInt) {c : Int32} (h : ¬ a < c) : ¬ b < c := by
  rw [Int32.lt_iff_toInt_lt] at *; omega
theorem own_mm {a b : Int32} : (own_min a b).toInt ≤ (own_max a b).toInt ∧ (own_min a b).toInt ≤ a.toInt ∧ (own_min a b).toInt ≤ b.toInt ∧ a.toInt ≤ (own_max a b).toInt ∧ b.toInt ≤ (own_max a b).toInt ∧ (own_min a b = a ∨ own_min a b = b) ∧ (own_max a b = a ∨ own_max a b = b) := by
  unfold own_min own_max
  by_cases h1 : b < a
  · have h2 : ¬ a < b := by rw [Int32.lt_iff_toInt_lt] at *; omega
    rw [if_pos h1, if_neg h2]; rw [Int32.lt_iff_toInt_lt] at *; simp; omega
  · by_cases h2 : a < b
    · rw [if_neg h1, if_pos h2]; rw [Int32.lt_iff_toInt_lt] at *; simp; omega
    · rw [if_neg h1, if_neg h2]; rw [Int32.lt_iff_toInt_lt] at *; simp; omega
theorem own_sorted (a b c d : Int32) : ¬ (own_min (own_min (own_max a b) (own_max c d)) (own_max (own_min a b) (own_min c d))) < (own_min (own_min a b) (own_min c d)) ∧ ¬ (own_max (own_min (own_max a b) (own_max c d)) (own_max (own_min a b) (own_min c d))) < (own_min (own_min (own_max a b) (own_max c d)) (own_max (own_min a b) (own_min c d))) ∧ ¬ (own_max (own_max a b) (own_max c d)) < (own_max (own_min (own_max a b) (own_max c d)) (own_max (own_min a b) (own_min c d))) := by
  have h1 := own_mm (a := a) (b := b)
  have h2 := own_mm (a := c) (b := d)
  generalize own_min a b = x0 at *
  generalize own_max a b = x1 at *
  generalize own_min c d = x2 at *
  generalize own_max c d = x3 at *
  have h3 := own_mm (a := x0) (b := x2)
  have h4 := own_mm (a := x1) (b := x3)
  generalize own_min x0 x2 = s0 at *
  generalize own_max x0 x2 = y2 at *
  generalize own_min x1 x3 = y1 at *
  generalize own_max x1 x3 = s3 at *
  have h5 := own_mm (a := y1) (b := y2)
  generalize own_min y1 y2 = s1 at *
  generalize own_max y1 y2 = s2 at *
  simp only [Int32.lt_iff_toInt_lt, ← Int32.toInt_inj] at *
  omega
theorem own_f1 (x0 v : Int32) : own_fa1 x0 v = ((0 : Int32) + own_le x0 v) := by
  unfold own_fa1 own_le; by_cases h : v < x0
  · simp only [if_pos h]; rfl
  · simp only [if_neg h]; rfl
theorem own_f2 {x0 x1 : Int32} (v : Int32) (h1 : ¬ x1 < x0) : own_fa2 x0 x1 v = (((0 : Int32) + own_le x0 v) + own_le x1 v) := by
  unfold own_fa2 own_le
  simp only [Int32.lt_iff_toInt_lt] at *
  repeat' split
  all_goals first | rfl | omega
theorem own_f3 {x0 x1 x2 : Int32} (v : Int32) (h1 : ¬ x1 < x0) (h2 : ¬ x2 < x1) : own_fa3 x0 x1 x2 v = ((((0 : Int32) + own_le x0 v) + own_le x1 v) + own_le x2 v) := by
  unfold own_fa3 own_le
  simp only [Int32.lt_iff_toInt_lt] at *
  repeat' split
  all_goals first | rfl | omega
theorem own_f4 {x0 x1 x2 x3 : Int32} (v : Int32) (h1 : ¬ x1 < x0) (h2 : ¬ x2 < x1) (h3 : ¬ x3 < x2) : own_fa4 x0 x1 x2 x3 v = (((((0 : Int32) + own_le x0 v) + own_le x1 v) + own_le x2 v) + own_le x3 v) := by
  unfold own_fa4 own_le
  simp only [Int32.lt_iff_toInt_lt] at *
  repeat' split
  all_goals first | rfl | omega

theorem own_in {c : Int32} (n : Int32) {j : Int32} (h : ¬ c < n) (hj : j < n) : j < c := by
  rw [Int32.lt_iff_toInt_lt] at *; omega
theorem ef_1 (m : MethodId) (p1 : Int32) (p2 : Int32) : entryFrame m #[(.int p1), (.int p2)] 2 = mkF m 0 #[.val (.int p1), .val (.int p2)] [] := by first | (simp [entryFrame, mkF, argsToLocals, Value.category]; done) | rfl
theorem d1_0 : decode jdk_29_method_69_code 0 = .ok (.iload_n 0, 1) := by decide +kernel
theorem d1_1 : decode jdk_29_method_69_code 1 = .ok (.iload_n 1, 1) := by decide +kernel
theorem d1_2 : decode jdk_29_method_69_code 2 = .ok (.if_icmp .gt 7, 3) := by decide +kernel
theorem d1_9 : decode jdk_29_method_69_code 9 = .ok (.iload_n 1, 1) := by decide +kernel
theorem d1_10 : decode jdk_29_method_69_code 10 = .ok (.ireturn, 1) := by decide +kernel
theorem d1_5 : decode jdk_29_method_69_code 5 = .ok (.iload_n 0, 1) := by decide +kernel
theorem d1_6 : decode jdk_29_method_69_code 6 = .ok (.goto 4, 3) := by decide +kernel
def Q1 (Z : State) (p1 : Int32) (p2 : Int32) (h0 : Heap) (n0 : Nat) (v : Option Value) (h : Heap) (L : List Loc) : Prop := v = some (.int (own_min p1 p2)) ∧ Fr n0 L ∧ h = h0
set_option maxRecDepth 65536 in
set_option maxHeartbeats 40000000 in
theorem rm1 (l : Launch) (Z : State) (a0 : Array Value) (hw : ∀ d ∈ tables_1, d.before a0 Z = true) (ws : List Jvm.Cond) (p1 : Int32) (p2 : Int32) (h0 : Heap) (n0 : Nat) (Z0 : n0 ≤ h0.size) :
    MetFree l (⟨"java/lang/Math", "min", "(II)I"⟩ : MethodName) (head1 (Jvm.Cond.code (⟨"java/lang/Math", "min", "(II)I"⟩ : MethodName) jdk_29_method_69_code 2 (some .int) :: ws) ({ frames := 0, cells := 0, slots := 0, locals := 0 } : Room)) (fun a U => a = #[(.int p1), (.int p2)] ∧ Z.Warmed39 U.vm ∧ U.heap = h0) (fun _ _ _ _ _ => True) (fun _ U o U' => ∃ v L, o = .returned v ∧ Q1 Z p1 p2 h0 n0 v U'.heap L ∧ FrameEnd U o U' L ({ frames := 0, cells := 0, slots := 0, locals := 0 } : Room).cells ({ frames := 0, cells := 0, slots := 0, locals := 0 } : Room).slots) := by
  refine MetFree.of_bodySF (Jvm.Free.JP.mathPlain rfl (by decide +kernel)) hisR ?_
  intro p e s m args below meth c s₁ Bd hml0 hP hK
  obtain ⟨rfl, hZ, hh⟩ := hP
  have hx := Bd.exec
  have hby := Bd.bytes
  have hml : c.maxLocals = 2 := hml0
  have hown : s.vm.findClass "java/lang/Math" = some m.cls := findClass_of_methodNamed Bd.named
  have hnm := (name_of_methodNamed Bd.named Bd.method).1
  have X0 : Stand p l e ({ frames := 0, cells := 0, slots := 0, locals := 0 } : Room) s m #[(.int p1), (.int p2)] below meth c s₁ [] 0 0 := Stand.of_body Bd
  have eh0 : s₁.heap = h0 := by rw [← hh, Bd.state]; rfl
  have N0 := Fr.nil n0
  have pre0 : ∀ t, Steps p.tables e below (s₁.setTop (mkF m 0 #[.val (.int p1), .val (.int p2)] [])) t → Steps p.tables e below (s₁.setTop (entryFrame m #[(.int p1), (.int p2)] 2)) t := fun t k => castTop (ef_1 m p1 p2) k
  have pre2 : ∀ t, Steps p.tables e below (s₁.setTop (mkF m 2 #[.val (.int p1), .val (.int p2)] [(.int p2), (.int p1)])) t → Steps p.tables e below (s₁.setTop (entryFrame m #[(.int p1), (.int p2)] 2)) t := fun t k => pre0 t (by
    show Steps p.tables e below (s₁.setTop (mkF m 0 #[.val (.int p1), .val (.int p2)] [])) t
    refine XS.iloadN X0.here hx rfl (hb hby d1_0) rfl ?_
    show Steps p.tables e below (s₁.setTop (mkF m 1 #[.val (.int p1), .val (.int p2)] [(.int p1)])) t
    refine XS.iloadN X0.here hx rfl (hb hby d1_1) rfl ?_
    show Steps p.tables e below (s₁.setTop (mkF m 2 #[.val (.int p1), .val (.int p2)] [(.int p2), (.int p1)])) t
    exact k)
  by_cases hc2_1 : p2 < p1
  · skip
    have pre3 : ∀ t, Steps p.tables e below (s₁.setTop (mkF m 10 #[.val (.int p1), .val (.int p2)] [(.int p2)])) t → Steps p.tables e below (s₁.setTop (entryFrame m #[(.int p1), (.int p2)] 2)) t := fun t k => pre2 t (by
      show Steps p.tables e below (s₁.setTop (mkF m 2 #[.val (.int p1), .val (.int p2)] [(.int p2), (.int p1)])) t
      refine XS.icmpYes X0.here hx rfl (pc0 := 2) (pc' := 9) rfl (hb hby d1_2) rfl (XT.ii_gt_t hc2_1) (by decide) (by decide) ?_
      show Steps p.tables e below (s₁.setTop (mkF m 9 #[.val (.int p1), .val (.int p2)] [])) t
      refine XS.iloadN X0.here hx rfl (hb hby d1_9) rfl ?_
      show Steps p.tables e below (s₁.setTop (mkF m 10 #[.val (.int p1), .val (.int p2)] [(.int p2)])) t
      exact k)
    obtain ⟨fs, hr, hrun, hended, hW, hsame⟩ := X0.leave (v := some (.int p2)) (fun h => by rw [Bd.returns] at h; cases h)
    refine ⟨_, _, pre3 _ ?_, hrun, hended, _, _, rfl, ?_, ⟨_, rfl⟩, hW, hsame.mono (by decide) (by decide)⟩
    · show Steps p.tables e below (s₁.setTop (mkF m 10 #[.val (.int p1), .val (.int p2)] [(.int p2)])) _
      exact retI X0 hx Bd.returns (hb hby d1_10) hr
    · show Q1 Z p1 p2 h0 n0 _ s₁.heap _
      rw [eh0]
      exact ⟨(congrArg (fun z => some (Value.int z)) (show p2 = (own_min p1 p2) from (by simp only [own_min, if_pos hc2_1]))), N0, rfl⟩
  · skip
    have pre4 : ∀ t, Steps p.tables e below (s₁.setTop (mkF m 10 #[.val (.int p1), .val (.int p2)] [(.int p1)])) t → Steps p.tables e below (s₁.setTop (entryFrame m #[(.int p1), (.int p2)] 2)) t := fun t k => pre2 t (by
      show Steps p.tables e below (s₁.setTop (mkF m 2 #[.val (.int p1), .val (.int p2)] [(.int p2), (.int p1)])) t
      refine XS.icmpNo X0.here hx rfl (hb hby d1_2) rfl (XT.ii_gt_f hc2_1) ?_
      show Steps p.tables e below (s₁.setTop (mkF m 5 #[.val (.int p1), .val (.int p2)] [])) t
      refine XS.iloadN X0.here hx rfl (hb hby d1_5) rfl ?_
      show Steps p.tables e below (s₁.setTop (mkF m 6 #[.val (.int p1), .val (.int p2)] [(.int p1)])) t
      refine XS.goto X0.here hx rfl (pc0 := 6) (pc' := 10) rfl (hb hby d1_6) (by decide) (by decide) ?_
      show Steps p.tables e below (s₁.setTop (mkF m 10 #[.val (.int p1), .val (.int p2)] [(.int p1)])) t
      exact k)
    obtain ⟨fs, hr, hrun, hended, hW, hsame⟩ := X0.leave (v := some (.int p1)) (fun h => by rw [Bd.returns] at h; cases h)
    refine ⟨_, _, pre4 _ ?_, hrun, hended, _, _, rfl, ?_, ⟨_, rfl⟩, hW, hsame.mono (by decide) (by decide)⟩
    · show Steps p.tables e below (s₁.setTop (mkF m 10 #[.val (.int p1), .val (.int p2)] [(.int p1)])) _
      exact retI X0 hx Bd.returns (hb hby d1_10) hr
    · show Q1 Z p1 p2 h0 n0 _ s₁.heap _
      rw [eh0]
      exact ⟨(congrArg (fun z => some (Value.int z)) (show p1 = (own_min p1 p2) from (by simp only [own_min, if_neg hc2_1]))), N0, rfl⟩
theorem ef_2 (m : MethodId) (p1 : Int32) (p2 : Int32) : entryFrame m #[(.int p1), (.int p2)] 2 = mkF m 0 #[.val (.int p1), .val (.int p2)] [] := by first | (simp [entryFrame, mkF, argsToLocals, Value.category]; done) | rfl
theorem d2_0 : decode jdk_29_method_65_code 0 = .ok (.iload_n 0, 1) := by decide +kernel
theorem d2_1 : decode jdk_29_method_65_code 1 = .ok (.iload_n 1, 1) := by decide +kernel
theorem d2_2 : decode jdk_29_method_65_code 2 = .ok (.if_icmp .lt 7, 3) := by decide +kernel
theorem d2_9 : decode jdk_29_method_65_code 9 = .ok (.iload_n 1, 1) := by decide +kernel
theorem d2_10 : decode jdk_29_method_65_code 10 = .ok (.ireturn, 1) := by decide +kernel
theorem d2_5 : decode jdk_29_method_65_code 5 = .ok (.iload_n 0, 1) := by decide +kernel
theorem d2_6 : decode jdk_29_method_65_code 6 = .ok (.goto 4, 3) := by decide +kernel
def Q2 (Z : State) (p1 : Int32) (p2 : Int32) (h0 : Heap) (n0 : Nat) (v : Option Value) (h : Heap) (L : List Loc) : Prop := v = some (.int (own_max p1 p2)) ∧ Fr n0 L ∧ h = h0
set_option maxRecDepth 65536 in
set_option maxHeartbeats 40000000 in
theorem rm2 (l : Launch) (Z : State) (a0 : Array Value) (hw : ∀ d ∈ tables_1, d.before a0 Z = true) (ws : List Jvm.Cond) (p1 : Int32) (p2 : Int32) (h0 : Heap) (n0 : Nat) (Z0 : n0 ≤ h0.size) :
    MetFree l (⟨"java/lang/Math", "max", "(II)I"⟩ : MethodName) (head1 (Jvm.Cond.code (⟨"java/lang/Math", "max", "(II)I"⟩ : MethodName) jdk_29_method_65_code 2 (some .int) :: ws) ({ frames := 0, cells := 0, slots := 0, locals := 0 } : Room)) (fun a U => a = #[(.int p1), (.int p2)] ∧ Z.Warmed39 U.vm ∧ U.heap = h0) (fun _ _ _ _ _ => True) (fun _ U o U' => ∃ v L, o = .returned v ∧ Q2 Z p1 p2 h0 n0 v U'.heap L ∧ FrameEnd U o U' L ({ frames := 0, cells := 0, slots := 0, locals := 0 } : Room).cells ({ frames := 0, cells := 0, slots := 0, locals := 0 } : Room).slots) := by
  refine MetFree.of_bodySF (Jvm.Free.JP.mathPlain rfl (by decide +kernel)) hisR ?_
  intro p e s m args below meth c s₁ Bd hml0 hP hK
  obtain ⟨rfl, hZ, hh⟩ := hP
  have hx := Bd.exec
  have hby := Bd.bytes
  have hml : c.maxLocals = 2 := hml0
  have hown : s.vm.findClass "java/lang/Math" = some m.cls := findClass_of_methodNamed Bd.named
  have hnm := (name_of_methodNamed Bd.named Bd.method).1
  have X0 : Stand p l e ({ frames := 0, cells := 0, slots := 0, locals := 0 } : Room) s m #[(.int p1), (.int p2)] below meth c s₁ [] 0 0 := Stand.of_body Bd
  have eh0 : s₁.heap = h0 := by rw [← hh, Bd.state]; rfl
  have N0 := Fr.nil n0
  have pre0 : ∀ t, Steps p.tables e below (s₁.setTop (mkF m 0 #[.val (.int p1), .val (.int p2)] [])) t → Steps p.tables e below (s₁.setTop (entryFrame m #[(.int p1), (.int p2)] 2)) t := fun t k => castTop (ef_2 m p1 p2) k
  have pre2 : ∀ t, Steps p.tables e below (s₁.setTop (mkF m 2 #[.val (.int p1), .val (.int p2)] [(.int p2), (.int p1)])) t → Steps p.tables e below (s₁.setTop (entryFrame m #[(.int p1), (.int p2)] 2)) t := fun t k => pre0 t (by
    show Steps p.tables e below (s₁.setTop (mkF m 0 #[.val (.int p1), .val (.int p2)] [])) t
    refine XS.iloadN X0.here hx rfl (hb hby d2_0) rfl ?_
    show Steps p.tables e below (s₁.setTop (mkF m 1 #[.val (.int p1), .val (.int p2)] [(.int p1)])) t
    refine XS.iloadN X0.here hx rfl (hb hby d2_1) rfl ?_
    show Steps p.tables e below (s₁.setTop (mkF m 2 #[.val (.int p1), .val (.int p2)] [(.int p2), (.int p1)])) t
    exact k)
  by_cases hc2_1 : p1 < p2
  · skip
    have pre3 : ∀ t, Steps p.tables e below (s₁.setTop (mkF m 10 #[.val (.int p1), .val (.int p2)] [(.int p2)])) t → Steps p.tables e below (s₁.setTop (entryFrame m #[(.int p1), (.int p2)] 2)) t := fun t k => pre2 t (by
      show Steps p.tables e below (s₁.setTop (mkF m 2 #[.val (.int p1), .val (.int p2)] [(.int p2), (.int p1)])) t
      refine XS.icmpYes X0.here hx rfl (pc0 := 2) (pc' := 9) rfl (hb hby d2_2) rfl (XT.ii_lt_t hc2_1) (by decide) (by decide) ?_
      show Steps p.tables e below (s₁.setTop (mkF m 9 #[.val (.int p1), .val (.int p2)] [])) t
      refine XS.iloadN X0.here hx rfl (hb hby d2_9) rfl ?_
      show Steps p.tables e below (s₁.setTop (mkF m 10 #[.val (.int p1), .val (.int p2)] [(.int p2)])) t
      exact k)
    obtain ⟨fs, hr, hrun, hended, hW, hsame⟩ := X0.leave (v := some (.int p2)) (fun h => by rw [Bd.returns] at h; cases h)
    refine ⟨_, _, pre3 _ ?_, hrun, hended, _, _, rfl, ?_, ⟨_, rfl⟩, hW, hsame.mono (by decide) (by decide)⟩
    · show Steps p.tables e below (s₁.setTop (mkF m 10 #[.val (.int p1), .val (.int p2)] [(.int p2)])) _
      exact retI X0 hx Bd.returns (hb hby d2_10) hr
    · show Q2 Z p1 p2 h0 n0 _ s₁.heap _
      rw [eh0]
      exact ⟨(congrArg (fun z => some (Value.int z)) (show p2 = (own_max p1 p2) from (by simp only [own_max, if_pos hc2_1]))), N0, rfl⟩
  · skip
    have pre4 : ∀ t, Steps p.tables e below (s₁.setTop (mkF m 10 #[.val (.int p1), .val (.int p2)] [(.int p1)])) t → Steps p.tables e below (s₁.setTop (entryFrame m #[(.int p1), (.int p2)] 2)) t := fun t k => pre2 t (by
      show Steps p.tables e below (s₁.setTop (mkF m 2 #[.val (.int p1), .val (.int p2)] [(.int p2), (.int p1)])) t
      refine XS.icmpNo X0.here hx rfl (hb hby d2_2) rfl (XT.ii_lt_f hc2_1) ?_
      show Steps p.tables e below (s₁.setTop (mkF m 5 #[.val (.int p1), .val (.int p2)] [])) t
      refine XS.iloadN X0.here hx rfl (hb hby d2_5) rfl ?_
      show Steps p.tables e below (s₁.setTop (mkF m 6 #[.val (.int p1), .val (.int p2)] [(.int p1)])) t
      refine XS.goto X0.here hx rfl (pc0 := 6) (pc' := 10) rfl (hb hby d2_6) (by decide) (by decide) ?_
      show Steps p.tables e below (s₁.setTop (mkF m 10 #[.val (.int p1), .val (.int p2)] [(.int p1)])) t
      exact k)
    obtain ⟨fs, hr, hrun, hended, hW, hsame⟩ := X0.leave (v := some (.int p1)) (fun h => by rw [Bd.returns] at h; cases h)
    refine ⟨_, _, pre4 _ ?_, hrun, hended, _, _, rfl, ?_, ⟨_, rfl⟩, hW, hsame.mono (by decide) (by decide)⟩
    · show Steps p.tables e below (s₁.setTop (mkF m 10 #[.val (.int p1), .val (.int p2)] [(.int p1)])) _
      exact retI X0 hx Bd.returns (hb hby d2_10) hr
    · show Q2 Z p1 p2 h0 n0 _ s₁.heap _
      rw [eh0]
      exact ⟨(congrArg (fun z => some (Value.int z)) (show p1 = (own_max p1 p2) from (by simp only [own_max, if_neg hc2_1]))), N0, rfl⟩
theorem ef_7 (m : MethodId) (q1 : Int64) (q2 : Int64) : entryFrame m #[(.long q1), (.long q2)] 4 = mkF m 0 #[.val (.long q1), .second, .val (.long q2), .second] [] := by first | (simp [entryFrame, mkF, argsToLocals, Value.category]; done) | rfl
theorem d7_0 : decode jdk_29_method_70_code 0 = .ok (.lload_n 0, 1) := by decide +kernel
theorem d7_1 : decode jdk_29_method_70_code 1 = .ok (.lload_n 2, 1) := by decide +kernel
theorem d7_2 : decode jdk_29_method_70_code 2 = .ok (.lcmp, 1) := by decide +kernel
theorem d7_3 : decode jdk_29_method_70_code 3 = .ok (.ifCond .gt 7, 3) := by decide +kernel
theorem d7_10 : decode jdk_29_method_70_code 10 = .ok (.lload_n 2, 1) := by decide +kernel
theorem d7_11 : decode jdk_29_method_70_code 11 = .ok (.lreturn, 1) := by decide +kernel
theorem d7_6 : decode jdk_29_method_70_code 6 = .ok (.lload_n 0, 1) := by decide +kernel
theorem d7_7 : decode jdk_29_method_70_code 7 = .ok (.goto 4, 3) := by decide +kernel
def Q7 (Z : State) (q1 : Int64) (q2 : Int64) (h0 : Heap) (n0 : Nat) (v : Option Value) (h : Heap) (L : List Loc) : Prop := v = some (.long (own_minJ q1 q2)) ∧ Fr n0 L ∧ h = h0
set_option maxRecDepth 65536 in
set_option maxHeartbeats 40000000 in
theorem rm7 (l : Launch) (Z : State) (a0 : Array Value) (hw : ∀ d ∈ tables_1, d.before a0 Z = true) (ws : List Jvm.Cond) (q1 : Int64) (q2 : Int64) (h0 : Heap) (n0 : Nat) (Z0 : n0 ≤ h0.size) :
    MetFree l (⟨"java/lang/Math", "min", "(JJ)J"⟩ : MethodName) (head1 (Jvm.Cond.code (⟨"java/lang/Math", "min", "(JJ)J"⟩ : MethodName) jdk_29_method_70_code 4 (some .long) :: ws) ({ frames := 0, cells := 0, slots := 0, locals := 0 } : Room)) (fun a U => a = #[(.long q1), (.long q2)] ∧ Z.Warmed39 U.vm ∧ U.heap = h0) (fun _ _ _ _ _ => True) (fun _ U o U' => ∃ v L, o = .returned v ∧ Q7 Z q1 q2 h0 n0 v U'.heap L ∧ FrameEnd U o U' L ({ frames := 0, cells := 0, slots := 0, locals := 0 } : Room).cells ({ frames := 0, cells := 0, slots := 0, locals := 0 } : Room).slots) := by
  refine MetFree.of_bodySF (Jvm.Free.JP.mathPlain rfl (by decide +kernel)) hisR ?_
  intro p e s m args below meth c s₁ Bd hml0 hP hK
  obtain ⟨rfl, hZ, hh⟩ := hP
  have hx := Bd.exec
  have hby := Bd.bytes
  have hml : c.maxLocals = 4 := hml0
  have hown : s.vm.findClass "java/lang/Math" = some m.cls := findClass_of_methodNamed Bd.named
  have hnm := (name_of_methodNamed Bd.named Bd.method).1
  have X0 : Stand p l e ({ frames := 0, cells := 0, slots := 0, locals := 0 } : Room) s m #[(.long q1), (.long q2)] below meth c s₁ [] 0 0 := Stand.of_body Bd
  have eh0 : s₁.heap = h0 := by rw [← hh, Bd.state]; rfl
  have N0 := Fr.nil n0
  have pre0 : ∀ t, Steps p.tables e below (s₁.setTop (mkF m 0 #[.val (.long q1), .second, .val (.long q2), .second] [])) t → Steps p.tables e below (s₁.setTop (entryFrame m #[(.long q1), (.long q2)] 4)) t := fun t k => castTop (ef_7 m q1 q2) k
  have pre2 : ∀ t, Steps p.tables e below (s₁.setTop (mkF m 3 #[.val (.long q1), .second, .val (.long q2), .second] [(.int (XT.cmpL q1 q2))])) t → Steps p.tables e below (s₁.setTop (entryFrame m #[(.long q1), (.long q2)] 4)) t := fun t k => pre0 t (by
    show Steps p.tables e below (s₁.setTop (mkF m 0 #[.val (.long q1), .second, .val (.long q2), .second] [])) t
    refine XT.lloadN X0.here hx rfl (hb hby d7_0) rfl ?_
    show Steps p.tables e below (s₁.setTop (mkF m 1 #[.val (.long q1), .second, .val (.long q2), .second] [(.long q1)])) t
    refine XT.lloadN X0.here hx rfl (hb hby d7_1) rfl ?_
    show Steps p.tables e below (s₁.setTop (mkF m 2 #[.val (.long q1), .second, .val (.long q2), .second] [(.long q2), (.long q1)])) t
    refine XT.lcmp X0.here hx rfl (hb hby d7_2) rfl ?_
    show Steps p.tables e below (s₁.setTop (mkF m 3 #[.val (.long q1), .second, .val (.long q2), .second] [(.int (XT.cmpL q1 q2))])) t
    exact k)
  by_cases hc3_1 : q2 < q1
  · skip
    have pre3 : ∀ t, Steps p.tables e below (s₁.setTop (mkF m 11 #[.val (.long q1), .second, .val (.long q2), .second] [(.long q2)])) t → Steps p.tables e below (s₁.setTop (entryFrame m #[(.long q1), (.long q2)] 4)) t := fun t k => pre2 t (by
      show Steps p.tables e below (s₁.setTop (mkF m 3 #[.val (.long q1), .second, .val (.long q2), .second] [(.int (XT.cmpL q1 q2))])) t
      refine XS.ifYes X0.here hx rfl (pc0 := 3) (pc' := 10) rfl (hb hby d7_3) rfl (XT.ll_gt_t hc3_1) (by decide) (by decide) ?_
      show Steps p.tables e below (s₁.setTop (mkF m 10 #[.val (.long q1), .second, .val (.long q2), .second] [])) t
      refine XT.lloadN X0.here hx rfl (hb hby d7_10) rfl ?_
      show Steps p.tables e below (s₁.setTop (mkF m 11 #[.val (.long q1), .second, .val (.long q2), .second] [(.long q2)])) t
      exact k)
    obtain ⟨fs, hr, hrun, hended, hW, hsame⟩ := X0.leave (v := some (.long q2)) (fun h => by rw [Bd.returns] at h; cases h)
    refine ⟨_, _, pre3 _ ?_, hrun, hended, _, _, rfl, ?_, ⟨_, rfl⟩, hW, hsame.mono (by decide) (by decide)⟩
    · show Steps p.tables e below (s₁.setTop (mkF m 11 #[.val (.long q1), .second, .val (.long q2), .second] [(.long q2)])) _
      jvm_step X0.here [X0.here.top, hx, (hb hby d7_11), X0.method', Bd.returns, narrow]
      first | (intro acts; rw [hr _ acts rfl rfl rfl]) | rw [hr _ _ rfl rfl rfl]
      exact Steps.refl _
    · show Q7 Z q1 q2 h0 n0 _ s₁.heap _
      rw [eh0]
      exact ⟨(congrArg (fun z => some (Value.long z)) (show q2 = (own_minJ q1 q2) from (by simp only [own_minJ, if_pos hc3_1]))), N0, rfl⟩
  · skip
    have pre4 : ∀ t, Steps p.tables e below (s₁.setTop (mkF m 11 #[.val (.long q1), .second, .val (.long q2), .second] [(.long q1)])) t → Steps p.tables e below (s₁.setTop (entryFrame m #[(.long q1), (.long q2)] 4)) t := fun t k => pre2 t (by
      show Steps p.tables e below (s₁.setTop (mkF m 3 #[.val (.long q1), .second, .val (.long q2), .second] [(.int (XT.cmpL q1 q2))])) t
      refine XS.ifNo X0.here hx rfl (hb hby d7_3) rfl (XT.ll_gt_f hc3_1) ?_
      show Steps p.tables e below (s₁.setTop (mkF m 6 #[.val (.long q1), .second, .val (.long q2), .second] [])) t
      refine XT.lloadN X0.here hx rfl (hb hby d7_6) rfl ?_
      show Steps p.tables e below (s₁.setTop (mkF m 7 #[.val (.long q1), .second, .val (.long q2), .second] [(.long q1)])) t
      refine XS.goto X0.here hx rfl (pc0 := 7) (pc' := 11) rfl (hb hby d7_7) (by decide) (by decide) ?_
      show Steps p.tables e below (s₁.setTop (mkF m 11 #[.val (.long q1), .second, .val (.long q2), .second] [(.long q1)])) t
      exact k)
    obtain ⟨fs, hr, hrun, hended, hW, hsame⟩ := X0.leave (v := some (.long q1)) (fun h => by rw [Bd.returns] at h; cases h)
    refine ⟨_, _, pre4 _ ?_, hrun, hended, _, _, rfl, ?_, ⟨_, rfl⟩, hW, hsame.mono (by decide) (by decide)⟩
    · show Steps p.tables e below (s₁.setTop (mkF m 11 #[.val (.long q1), .second, .val (.long q2), .second] [(.long q1)])) _
      jvm_step X0.here [X0.here.top, hx, (hb hby d7_11), X0.method', Bd.returns, narrow]
      first | (intro acts; rw [hr _ acts rfl rfl rfl]) | rw [hr _ _ rfl rfl rfl]
      exact Steps.refl _
    · show Q7 Z q1 q2 h0 n0 _ s₁.heap _
      rw [eh0]
      exact ⟨(congrArg (fun z => some (Value.long z)) (show q1 = (own_minJ q1 q2) from (by simp only [own_minJ, if_neg hc3_1]))), N0, rfl⟩
theorem ef_6 (m : MethodId) (p1 : Int32) (p2 : Int32) : entryFrame m #[(.int p1), (.int p2)] 2 = mkF m 0 #[.val (.int p1), .val (.int p2)] [] := by first | (simp [entryFrame, mkF, argsToLocals, Value.category]; done) | rfl
theorem pn_com_example_interlace_interlace_core_IntColumnFirstAbovePinLaw : plainName "com/example/interlace/interlace/core/IntColumnFirstAbovePinLaw" = true := by first | (simp [plainName, overriddenIn]; done) | decide +kernel
theorem d6_0 : decode method_2_code 0 = .ok (.iload_n 0, 1) := by decide +kernel
theorem d6_1 : decode method_2_code 1 = .ok (.iload_n 1, 1) := by decide +kernel
theorem d6_2 : decode method_2_code 2 = .ok (.if_icmp .gt 7, 3) := by decide +kernel
theorem d6_9 : decode method_2_code 9 = .ok (.iconst 0, 1) := by decide +kernel
theorem d6_10 : decode method_2_code 10 = .ok (.ireturn, 1) := by decide +kernel
theorem d6_5 : decode method_2_code 5 = .ok (.iconst 1, 1) := by decide +kernel
theorem d6_6 : decode method_2_code 6 = .ok (.goto 4, 3) := by decide +kernel
def Q6 (Z : State) (p1 : Int32) (p2 : Int32) (h0 : Heap) (n0 : Nat) (v : Option Value) (h : Heap) (L : List Loc) : Prop := v = some (.int (own_le p1 p2)) ∧ Fr n0 L ∧ h = h0
set_option maxRecDepth 65536 in
set_option maxHeartbeats 40000000 in
theorem rm6 (l : Launch) (Z : State) (a0 : Array Value) (hw : ∀ d ∈ tables_1, d.before a0 Z = true) (ws : List Jvm.Cond) (p1 : Int32) (p2 : Int32) (h0 : Heap) (n0 : Nat) (Z0 : n0 ≤ h0.size) :
    MetFree l (⟨"com/example/interlace/interlace/core/IntColumnFirstAbovePinLaw", "le", "(II)I"⟩ : MethodName) (head1 (Jvm.Cond.code (⟨"com/example/interlace/interlace/core/IntColumnFirstAbovePinLaw", "le", "(II)I"⟩ : MethodName) method_2_code 2 (some .int) :: ws) ({ frames := 0, cells := 0, slots := 0, locals := 0 } : Room)) (fun a U => a = #[(.int p1), (.int p2)] ∧ Z.Warmed39 U.vm ∧ U.heap = h0) (fun _ _ _ _ _ => True) (fun _ U o U' => ∃ v L, o = .returned v ∧ Q6 Z p1 p2 h0 n0 v U'.heap L ∧ FrameEnd U o U' L ({ frames := 0, cells := 0, slots := 0, locals := 0 } : Room).cells ({ frames := 0, cells := 0, slots := 0, locals := 0 } : Room).slots) := by
  refine MetFree.of_bodySF (plainFor_of_name pn_com_example_interlace_interlace_core_IntColumnFirstAbovePinLaw) hisR ?_
  intro p e s m args below meth c s₁ Bd hml0 hP hK
  obtain ⟨rfl, hZ, hh⟩ := hP
  have hx := Bd.exec
  have hby := Bd.bytes
  have hml : c.maxLocals = 2 := hml0
  have hown : s.vm.findClass "com/example/interlace/interlace/core/IntColumnFirstAbovePinLaw" = some m.cls := findClass_of_methodNamed Bd.named
  have hnm := (name_of_methodNamed Bd.named Bd.method).1
  have X0 : Stand p l e ({ frames := 0, cells := 0, slots := 0, locals := 0 } : Room) s m #[(.int p1), (.int p2)] below meth c s₁ [] 0 0 := Stand.of_body Bd
  have eh0 : s₁.heap = h0 := by rw [← hh, Bd.state]; rfl
  have N0 := Fr.nil n0
  have pre0 : ∀ t, Steps p.tables e below (s₁.setTop (mkF m 0 #[.val (.int p1), .val (.int p2)] [])) t → Steps p.tables e below (s₁.setTop (entryFrame m #[(.int p1), (.int p2)] 2)) t := fun t k => castTop (ef_6 m p1 p2) k
  have pre2 : ∀ t, Steps p.tables e below (s₁.setTop (mkF m 2 #[.val (.int p1), .val (.int p2)] [(.int p2), (.int p1)])) t → Steps p.tables e below (s₁.setTop (entryFrame m #[(.int p1), (.int p2)] 2)) t := fun t k => pre0 t (by
    show Steps p.tables e below (s₁.setTop (mkF m 0 #[.val (.int p1), .val (.int p2)] [])) t
    refine XS.iloadN X0.here hx rfl (hb hby d6_0) rfl ?_
    show Steps p.tables e below (s₁.setTop (mkF m 1 #[.val (.int p1), .val (.int p2)] [(.int p1)])) t
    refine XS.iloadN X0.here hx rfl (hb hby d6_1) rfl ?_
    show Steps p.tables e below (s₁.setTop (mkF m 2 #[.val (.int p1), .val (.int p2)] [(.int p2), (.int p1)])) t
    exact k)
  by_cases hc2_1 : p2 < p1
  · skip
    have pre3 : ∀ t, Steps p.tables e below (s₁.setTop (mkF m 10 #[.val (.int p1), .val (.int p2)] [(.int (0 : Int32))])) t → Steps p.tables e below (s₁.setTop (entryFrame m #[(.int p1), (.int p2)] 2)) t := fun t k => pre2 t (by
      show Steps p.tables e below (s₁.setTop (mkF m 2 #[.val (.int p1), .val (.int p2)] [(.int p2), (.int p1)])) t
      refine XS.icmpYes X0.here hx rfl (pc0 := 2) (pc' := 9) rfl (hb hby d6_2) rfl (XT.ii_gt_t hc2_1) (by decide) (by decide) ?_
      show Steps p.tables e below (s₁.setTop (mkF m 9 #[.val (.int p1), .val (.int p2)] [])) t
      refine XS.iconst X0.here hx rfl (hb hby d6_9) ?_
      show Steps p.tables e below (s₁.setTop (mkF m 10 #[.val (.int p1), .val (.int p2)] [(.int (0 : Int32))])) t
      exact k)
    obtain ⟨fs, hr, hrun, hended, hW, hsame⟩ := X0.leave (v := some (.int (0 : Int32))) (fun h => by rw [Bd.returns] at h; cases h)
    refine ⟨_, _, pre3 _ ?_, hrun, hended, _, _, rfl, ?_, ⟨_, rfl⟩, hW, hsame.mono (by decide) (by decide)⟩
    · show Steps p.tables e below (s₁.setTop (mkF m 10 #[.val (.int p1), .val (.int p2)] [(.int (0 : Int32))])) _
      exact retI X0 hx Bd.returns (hb hby d6_10) hr
    · show Q6 Z p1 p2 h0 n0 _ s₁.heap _
      rw [eh0]
      exact ⟨(congrArg (fun z => some (Value.int z)) (show (0 : Int32) = (own_le p1 p2) from (by simp only [own_le, if_pos hc2_1]))), N0, rfl⟩
  · skip
    have pre4 : ∀ t, Steps p.tables e below (s₁.setTop (mkF m 10 #[.val (.int p1), .val (.int p2)] [(.int (1 : Int32))])) t → Steps p.tables e below (s₁.setTop (entryFrame m #[(.int p1), (.int p2)] 2)) t := fun t k => pre2 t (by
      show Steps p.tables e below (s₁.setTop (mkF m 2 #[.val (.int p1), .val (.int p2)] [(.int p2), (.int p1)])) t
      refine XS.icmpNo X0.here hx rfl (hb hby d6_2) rfl (XT.ii_gt_f hc2_1) ?_
      show Steps p.tables e below (s₁.setTop (mkF m 5 #[.val (.int p1), .val (.int p2)] [])) t
      refine XS.iconst X0.here hx rfl (hb hby d6_5) ?_
      show Steps p.tables e below (s₁.setTop (mkF m 6 #[.val (.int p1), .val (.int p2)] [(.int (1 : Int32))])) t
      refine XS.goto X0.here hx rfl (pc0 := 6) (pc' := 10) rfl (hb hby d6_6) (by decide) (by decide) ?_
      show Steps p.tables e below (s₁.setTop (mkF m 10 #[.val (.int p1), .val (.int p2)] [(.int (1 : Int32))])) t
      exact k)
    obtain ⟨fs, hr, hrun, hended, hW, hsame⟩ := X0.leave (v := some (.int (1 : Int32))) (fun h => by rw [Bd.returns] at h; cases h)
    refine ⟨_, _, pre4 _ ?_, hrun, hended, _, _, rfl, ?_, ⟨_, rfl⟩, hW, hsame.mono (by decide) (by decide)⟩
    · show Steps p.tables e below (s₁.setTop (mkF m 10 #[.val (.int p1), .val (.int p2)] [(.int (1 : Int32))])) _
      exact retI X0 hx Bd.returns (hb hby d6_10) hr
    · show Q6 Z p1 p2 h0 n0 _ s₁.heap _
      rw [eh0]
      exact ⟨(congrArg (fun z => some (Value.int z)) (show (1 : Int32) = (own_le p1 p2) from (by simp only [own_le, if_neg hc2_1]))), N0, rfl⟩
theorem ef_CP1 (m : MethodId) (a1 : Addr) : entryFrame m #[(.ref a1), (.int (2 : Int32))] 3 = mkF m 0 #[.val (.ref a1), .val (.int (2 : Int32)), .unset] [] := by first | (simp [entryFrame, mkF, argsToLocals, Value.category]; done) | rfl
theorem pn_java_util_Arrays : plainName "java/util/Arrays" = true := by first | (simp [plainName, overriddenIn]; done) | decide +kernel
theorem d8_0 : decode jdk_65_method_123_code 0 = .ok (.iload_n 1, 1) := by decide +kernel
theorem d8_1 : decode jdk_65_method_123_code 1 = .ok (.aload_n 0, 1) := by decide +kernel
theorem d8_2 : decode jdk_65_method_123_code 2 = .ok (.arraylength, 1) := by decide +kernel
theorem d8_3 : decode jdk_65_method_123_code 3 = .ok (.if_icmp .ne 11, 3) := by decide +kernel
theorem d8_14 : decode jdk_65_method_123_code 14 = .ok (.iload_n 1, 1) := by decide +kernel
theorem d8_15 : decode jdk_65_method_123_code 15 = .ok (.newarray .int, 2) := by decide +kernel
theorem d8_17 : decode jdk_65_method_123_code 17 = .ok (.astore_n 2, 1) := by decide +kernel
theorem d8_18 : decode jdk_65_method_123_code 18 = .ok (.aload_n 0, 1) := by decide +kernel
theorem d8_19 : decode jdk_65_method_123_code 19 = .ok (.iconst 0, 1) := by decide +kernel
theorem d8_20 : decode jdk_65_method_123_code 20 = .ok (.aload_n 2, 1) := by decide +kernel
theorem d8_21 : decode jdk_65_method_123_code 21 = .ok (.iconst 0, 1) := by decide +kernel
theorem d8_22 : decode jdk_65_method_123_code 22 = .ok (.aload_n 0, 1) := by decide +kernel
theorem d8_23 : decode jdk_65_method_123_code 23 = .ok (.arraylength, 1) := by decide +kernel
theorem d8_24 : decode jdk_65_method_123_code 24 = .ok (.iload_n 1, 1) := by decide +kernel
theorem d8_25 : decode jdk_65_method_123_code 25 = .ok (.invokestatic 304, 3) := by decide +kernel
theorem pd_oIIcI : parseMethodDescriptor "(II)I" = some ⟨[.int, .int], some .int⟩ := by decide +kernel
theorem d8_28 : decode jdk_65_method_123_code 28 = .ok (.invokestatic 150, 3) := by decide +kernel
theorem d8_31 : decode jdk_65_method_123_code 31 = .ok (.aload_n 2, 1) := by decide +kernel
theorem d8_32 : decode jdk_65_method_123_code 32 = .ok (.areturn, 1) := by decide +kernel
def QCP1 (Z : State) (a1 : Addr) (kk : ClassId) (x0 : Int32) (h0 : Heap) (n0 : Nat) (v : Option Value) (h : Heap) (L : List Loc) : Prop := ∃ bb : Addr, ∃ kn : ClassId, v = some (.ref bb) ∧ Fr n0 L ∧ Keep h0 h [] ∧ h0.size ≤ bb ∧ Arv Z h bb kn .int (2 : Int32) [(.int x0), (.int (0 : Int32)), (.int (0 : Int32)), (.int (0 : Int32))] (.int (0 : Int32))
set_option maxRecDepth 65536 in
set_option maxHeartbeats 40000000 in
theorem rmCP1 (l : Launch) (Z : State) (a0 : Array Value) (hw : ∀ d ∈ tables_1, d.before a0 Z = true) (ws : List Jvm.Cond) (a1 : Addr) (kk : ClassId) (x0 : Int32) (h0 : Heap) (n0 : Nat) (Z0 : n0 ≤ h0.size) (V_a1 : Arv Z h0 a1 kk .int (1 : Int32) [(.int x0), (.int (0 : Int32)), (.int (0 : Int32)), (.int (0 : Int32))] (.int (0 : Int32))) :
    MetFree l (⟨"java/util/Arrays", "copyOf", "([II)[I"⟩ : MethodName) (head1 (Jvm.Cond.code (⟨"java/util/Arrays", "copyOf", "([II)[I"⟩ : MethodName) jdk_65_method_123_code 3 (some (.array .int)) :: ws) ({ frames := 1, cells := 1, slots := 2, locals := 18 } : Room)) (fun a U => a = #[(.ref a1), (.int (2 : Int32))] ∧ Z.Warmed39 U.vm ∧ U.heap = h0) (fun _ _ _ _ _ => True) (fun _ U o U' => ∃ v L, o = .returned v ∧ QCP1 Z a1 kk x0 h0 n0 v U'.heap L ∧ FrameEnd U o U' L ({ frames := 1, cells := 1, slots := 2, locals := 18 } : Room).cells ({ frames := 1, cells := 1, slots := 2, locals := 18 } : Room).slots) := by
  refine MetFree.of_bodySF (plainFor_of_name pn_java_util_Arrays) hisR ?_
  intro p e s m args below meth c s₁ Bd hml0 hP hK
  obtain ⟨rfl, hZ, hh⟩ := hP
  have hx := Bd.exec
  have hby := Bd.bytes
  have hml : c.maxLocals = 3 := hml0
  have hown : s.vm.findClass "java/util/Arrays" = some m.cls := findClass_of_methodNamed Bd.named
  have hnm := (name_of_methodNamed Bd.named Bd.method).1
  have X0 : Stand p l e ({ frames := 1, cells := 1, slots := 2, locals := 18 } : Room) s m #[(.ref a1), (.int (2 : Int32))] below meth c s₁ [] 0 0 := Stand.of_body Bd
  have eh0 : s₁.heap = h0 := by rw [← hh, Bd.state]; rfl
  have N0 := Fr.nil n0
  have pre0 : ∀ t, Steps p.tables e below (s₁.setTop (mkF m 0 #[.val (.ref a1), .val (.int (2 : Int32)), .unset] [])) t → Steps p.tables e below (s₁.setTop (entryFrame m #[(.ref a1), (.int (2 : Int32))] 3)) t := fun t k => castTop (ef_CP1 m a1) k
  have K0 : Keep h0 h0 [] := Keep.refl _ _
  have pre2 : ∀ t, Steps p.tables e below (s₁.setTop (mkF m 15 #[.val (.ref a1), .val (.int (2 : Int32)), .unset] [(.int (2 : Int32))])) t → Steps p.tables e below (s₁.setTop (entryFrame m #[(.ref a1), (.int (2 : Int32))] 3)) t := fun t k => pre0 t (by
    show Steps p.tables e below (s₁.setTop (mkF m 0 #[.val (.ref a1), .val (.int (2 : Int32)), .unset] [])) t
    refine XS.iloadN X0.here hx rfl (hb hby d8_0) rfl ?_
    show Steps p.tables e below (s₁.setTop (mkF m 1 #[.val (.ref a1), .val (.int (2 : Int32)), .unset] [(.int (2 : Int32))])) t
    refine XS.aloadN X0.here hx rfl (hb hby d8_1) rfl rfl ?_
    show Steps p.tables e below (s₁.setTop (mkF m 2 #[.val (.ref a1), .val (.int (2 : Int32)), .unset] [(.ref a1), (.int (2 : Int32))])) t
    refine own_alen X0 hx hZ eh0 V_a1 (g := (mkF m 2 #[.val (.ref a1), .val (.int (2 : Int32)), .unset] [(.ref a1), (.int (2 : Int32))])) rfl rfl (hb hby d8_2) _ ?_
    show Steps p.tables e below (s₁.setTop (mkF m 3 #[.val (.ref a1), .val (.int (2 : Int32)), .unset] [(.int (1 : Int32)), (.int (2 : Int32))])) t
    refine XS.icmpYes X0.here hx rfl (pc0 := 3) (pc' := 14) rfl (hb hby d8_3) rfl (XT.ii_ne_t (show ¬ ((2 : Int32) = (1 : Int32)) from by decide)) (by decide) (by decide) ?_
    show Steps p.tables e below (s₁.setTop (mkF m 14 #[.val (.ref a1), .val (.int (2 : Int32)), .unset] [])) t
    refine XS.iloadN X0.here hx rfl (hb hby d8_14) rfl ?_
    show Steps p.tables e below (s₁.setTop (mkF m 15 #[.val (.ref a1), .val (.int (2 : Int32)), .unset] [(.int (2 : Int32))])) t
    exact k)
  obtain ⟨T3, h3, k3, X3, eh3, E3, A3, st3⟩ := newP X0 hx hZ (hw _ (List.mem_of_getElem? (i := 16) rfl)) eh0 (g := (mkF m 15 #[.val (.ref a1), .val (.int (2 : Int32)), .unset] [(.int (2 : Int32))])) rfl (hb hby d8_15) rfl (by decide) (cap := 2) (by decide) (by decide) (by decide) (by decide)
  obtain ⟨b3, gg3⟩ : ∃ z, z = h0.size := ⟨_, rfl⟩
  rw [← gg3] at A3 st3
  have V_a1__3 : Arv Z h3 a1 kk .int (1 : Int32) [(.int x0), (.int (0 : Int32)), (.int (0 : Int32)), (.int (0 : Int32))] (.int (0 : Int32)) := V_a1.ext E3
  have sz3 : n0 ≤ h3.size := Nat.le_trans Z0 E3.1
  have K3 : Keep h0 h3 [] := K0.ext E3
  have g_b3 : n0 ≤ b3 := Nat.le_trans Z0 (Nat.le_of_eq gg3.symm)
  have bo_b3 : h0.size ≤ b3 := Nat.le_trans K0.1 (Nat.le_of_eq gg3.symm)
  have ne_a1_b3 : a1 ≠ b3 := Nat.ne_of_lt (Nat.lt_of_lt_of_le V_a1.lt (Nat.le_of_eq gg3.symm))
  have V_b3 : Arv Z h3 b3 k3 .int (2 : Int32) [(.int (0 : Int32)), (.int (0 : Int32)), (.int (0 : Int32)), (.int (0 : Int32))] (.int (0 : Int32)) := (Arv.new A3 (by decide)).pad (pad_rep [] (.int (0 : Int32)) 4)
  have pre4 : ∀ t, Steps p.tables e below (T3.setTop (mkF m 17 #[.val (.ref a1), .val (.int (2 : Int32)), .unset] [(.ref b3)])) t → Steps p.tables e below (s₁.setTop (entryFrame m #[(.ref a1), (.int (2 : Int32))] 3)) t := fun t k => pre2 t (st3 _ k)
  have pre5 : ∀ t, Steps p.tables e below (T3.setTop (mkF m 25 #[.val (.ref a1), .val (.int (2 : Int32)), .val (.ref b3)] [(.int (2 : Int32)), (.int (1 : Int32)), (.int (0 : Int32)), (.ref b3), (.int (0 : Int32)), (.ref a1)])) t → Steps p.tables e below (s₁.setTop (entryFrame m #[(.ref a1), (.int (2 : Int32))] 3)) t := fun t k => pre4 t (by
    show Steps p.tables e below (T3.setTop (mkF m 17 #[.val (.ref a1), .val (.int (2 : Int32)), .unset] [(.ref b3)])) t
    refine XS.astoreN X3.here hx rfl (hb hby d8_17) rfl rfl (l' := #[.val (.ref a1), .val (.int (2 : Int32)), .val (.ref b3)]) rfl ?_
    show Steps p.tables e below (T3.setTop (mkF m 18 #[.val (.ref a1), .val (.int (2 : Int32)), .val (.ref b3)] [])) t
    refine XS.aloadN X3.here hx rfl (hb hby d8_18) rfl rfl ?_
    show Steps p.tables e below (T3.setTop (mkF m 19 #[.val (.ref a1), .val (.int (2 : Int32)), .val (.ref b3)] [(.ref a1)])) t
    refine XS.iconst X3.here hx rfl (hb hby d8_19) ?_
    show Steps p.tables e below (T3.setTop (mkF m 20 #[.val (.ref a1), .val (.int (2 : Int32)), .val (.ref b3)] [(.int (0 : Int32)), (.ref a1)])) t
    refine XS.aloadN X3.here hx rfl (hb hby d8_20) rfl rfl ?_
    show Steps p.tables e below (T3.setTop (mkF m 21 #[.val (.ref a1), .val (.int (2 : Int32)), .val (.ref b3)] [(.ref b3), (.int (0 : Int32)), (.ref a1)])) t
    refine XS.iconst X3.here hx rfl (hb hby d8_21) ?_
    show Steps p.tables e below (T3.setTop (mkF m 22 #[.val (.ref a1), .val (.int (2 : Int32)), .val (.ref b3)] [(.int (0 : Int32)), (.ref b3), (.int (0 : Int32)), (.ref a1)])) t
    refine XS.aloadN X3.here hx rfl (hb hby d8_22) rfl rfl ?_
    show Steps p.tables e below (T3.setTop (mkF m 23 #[.val (.ref a1), .val (.int (2 : Int32)), .val (.ref b3)] [(.ref a1), (.int (0 : Int32)), (.ref b3), (.int (0 : Int32)), (.ref a1)])) t
    refine own_alen X3 hx hZ eh3 V_a1__3 (g := (mkF m 23 #[.val (.ref a1), .val (.int (2 : Int32)), .val (.ref b3)] [(.ref a1), (.int (0 : Int32)), (.ref b3), (.int (0 : Int32)), (.ref a1)])) rfl rfl (hb hby d8_23) _ ?_
    show Steps p.tables e below (T3.setTop (mkF m 24 #[.val (.ref a1), .val (.int (2 : Int32)), .val (.ref b3)] [(.int (1 : Int32)), (.int (0 : Int32)), (.ref b3), (.int (0 : Int32)), (.ref a1)])) t
    refine XS.iloadN X3.here hx rfl (hb hby d8_24) rfl ?_
    show Steps p.tables e below (T3.setTop (mkF m 25 #[.val (.ref a1), .val (.int (2 : Int32)), .val (.ref b3)] [(.int (2 : Int32)), (.int (1 : Int32)), (.int (0 : Int32)), (.ref b3), (.int (0 : Int32)), (.ref a1)])) t
    exact k)
  obtain ⟨_, _, ⟨T6, L6, k6, n6⟩, -, X6, ⟨Lc6, hQ6, l6, y6, z6⟩, st6⟩ := Jvm.LawKit.callS X3 hx (y := (⟨"java/lang/Math", "min", "(II)I"⟩ : MethodName)) hown (mvT hZ (hw _ (List.mem_of_getElem? (i := 40) rfl))) (mvT hZ (hw _ (List.mem_of_getElem? (i := 1) rfl))) (mvT hZ (hw _ (List.mem_of_getElem? (i := 2) rfl))) (mvT hZ (hw _ (List.mem_of_getElem? (i := 3) rfl))) (by decide) (backOf (W := 4) (rm1 l Z a0 hw [] (1 : Int32) (2 : Int32) h3 n0 sz3 ) hZ (hw _ (List.mem_of_getElem? (i := 3) rfl)) (hw _ (List.mem_of_getElem? (i := 2) rfl)) (by decide) (by decide)) (g := (mkF m 25 #[.val (.ref a1), .val (.int (2 : Int32)), .val (.ref b3)] [(.int (2 : Int32)), (.int (1 : Int32)), (.int (0 : Int32)), (.ref b3), (.int (0 : Int32)), (.ref a1)])) rfl (by rw [hml]; rfl) (argsL := [(.int (1 : Int32)), (.int (2 : Int32))]) (rest := [(.int (0 : Int32)), (.ref b3), (.int (0 : Int32)), (.ref a1)]) (lenOf pd_oIIcI rfl) rfl (by show 2 * 0 + _ ≤ _; exact Nat.le_of_eq rfl) (hb hby d8_25) (fun _ _ => ⟨rfl, eh3, (by decide : 1 + 0 ≤ _), (by decide : 2 + 0 ≤ _)⟩)
  dsimp only [Pt.U, Pt.locs, Pt.cells, Pt.slots] at X6 l6 y6 z6 st6 hQ6
  subst l6 y6 z6
  obtain ⟨rfl, N6q, eh6⟩ := hQ6
  have N6 := Fr.app N0 N6q
  have pre7 : ∀ t, Steps p.tables e below (T6.setTop (mkF m 28 #[.val (.ref a1), .val (.int (2 : Int32)), .val (.ref b3)] [(.int (own_min (1 : Int32) (2 : Int32))), (.int (0 : Int32)), (.ref b3), (.int (0 : Int32)), (.ref a1)])) t → Steps p.tables e below (s₁.setTop (entryFrame m #[(.ref a1), (.int (2 : Int32))] 3)) t := fun t k => pre5 t (st6 _ k)
  have hl8 : (own_min (1 : Int32) (2 : Int32)) = (1 : Int32) := by decide
  rw [hl8] at pre7
  obtain ⟨T9, h9, Lq9, X9, eh9, N9, Kq9, Vq9, st9⟩ := cpA X6 hx hZ hown (hw _ (List.mem_of_getElem? (i := 41) rfl)) (hw _ (List.mem_of_getElem? (i := 44) rfl)) (hw _ (List.mem_of_getElem? (i := 42) rfl)) (hw _ (List.mem_of_getElem? (i := 43) rfl)) eh6 V_a1__3 V_b3 (us := [(.int x0)]) (Or.inl ⟨rfl, rfl⟩) (by decide) (by decide) (by decide) (by decide) (by decide) rfl (by decide) N6 g_b3 (g := (mkF m 28 #[.val (.ref a1), .val (.int (2 : Int32)), .val (.ref b3)] [(.int (1 : Int32)), (.int (0 : Int32)), (.ref b3), (.int (0 : Int32)), (.ref a1)])) rfl (by rw [hml]; rfl) rfl (hb hby d8_28) (by decide) (W := 0) (by show 2 * 0 + _ ≤ _; exact Nat.le_of_eq rfl) (by decide)
  have V_a1__9 : Arv Z h9 a1 kk .int (1 : Int32) [(.int x0), (.int (0 : Int32)), (.int (0 : Int32)), (.int (0 : Int32))] (.int (0 : Int32)) := V_a1__3.keep Kq9 (ninS ne_a1_b3 nin0)
  have V_b3__9 : Arv Z h9 b3 k3 .int (2 : Int32) [(.int x0), (.int (0 : Int32)), (.int (0 : Int32)), (.int (0 : Int32))] (.int (0 : Int32)) := Vq9
  have sz9 : n0 ≤ h9.size := Nat.le_trans sz3 Kq9.1
  have K9 : Keep h0 h9 [] := K3.trans Kq9 (allS (Or.inr bo_b3) all0)
  have pre10 : ∀ t, Steps p.tables e below (T9.setTop (mkF m 31 #[.val (.ref a1), .val (.int (2 : Int32)), .val (.ref b3)] [])) t → Steps p.tables e below (s₁.setTop (entryFrame m #[(.ref a1), (.int (2 : Int32))] 3)) t := fun t k => pre7 t (st9 _ k)
  have pre11 : ∀ t, Steps p.tables e below (T9.setTop (mkF m 32 #[.val (.ref a1), .val (.int (2 : Int32)), .val (.ref b3)] [(.ref b3)])) t → Steps p.tables e below (s₁.setTop (entryFrame m #[(.ref a1), (.int (2 : Int32))] 3)) t := fun t k => pre10 t (by
    show Steps p.tables e below (T9.setTop (mkF m 31 #[.val (.ref a1), .val (.int (2 : Int32)), .val (.ref b3)] [])) t
    refine XS.aloadN X9.here hx rfl (hb hby d8_31) rfl rfl ?_
    show Steps p.tables e below (T9.setTop (mkF m 32 #[.val (.ref a1), .val (.int (2 : Int32)), .val (.ref b3)] [(.ref b3)])) t
    exact k)
  obtain ⟨fs, hr, hrun, hended, hW, hsame⟩ := X9.leave (v := some (.ref b3)) (fun h => by rw [Bd.returns] at h; cases h)
  refine ⟨_, _, pre11 _ ?_, hrun, hended, _, _, rfl, ?_, ⟨_, rfl⟩, hW, hsame.mono (by decide) (by decide)⟩
  · show Steps p.tables e below (T9.setTop (mkF m 32 #[.val (.ref a1), .val (.int (2 : Int32)), .val (.ref b3)] [(.ref b3)])) _
    jvm_step X9.here [X9.here.top, hx, (hb hby d8_32), X9.method', Bd.returns, Value.isRef, FieldType.isReference]
    first | (intro acts; rw [hr _ acts rfl rfl rfl]) | rw [hr _ _ rfl rfl rfl]
    exact Steps.refl _
  · show QCP1 Z a1 kk x0 h0 n0 _ T9.heap _
    rw [eh9]
    exact ⟨b3, k3, rfl, N9, K9, bo_b3, V_b3__9⟩
theorem ef_CP2 (m : MethodId) (a1 : Addr) : entryFrame m #[(.ref a1), (.int (4 : Int32))] 3 = mkF m 0 #[.val (.ref a1), .val (.int (4 : Int32)), .unset] [] := by first | (simp [entryFrame, mkF, argsToLocals, Value.category]; done) | rfl
def QCP2 (Z : State) (a1 : Addr) (kk : ClassId) (x0 : Int32) (x1 : Int32) (h0 : Heap) (n0 : Nat) (v : Option Value) (h : Heap) (L : List Loc) : Prop := ∃ bb : Addr, ∃ kn : ClassId, v = some (.ref bb) ∧ Fr n0 L ∧ Keep h0 h [] ∧ h0.size ≤ bb ∧ Arv Z h bb kn .int (4 : Int32) [(.int x0), (.int x1), (.int (0 : Int32)), (.int (0 : Int32))] (.int (0 : Int32))
set_option maxRecDepth 65536 in
set_option maxHeartbeats 40000000 in
theorem rmCP2 (l : Launch) (Z : State) (a0 : Array Value) (hw : ∀ d ∈ tables_1, d.before a0 Z = true) (ws : List Jvm.Cond) (a1 : Addr) (kk : ClassId) (x0 : Int32) (x1 : Int32) (h0 : Heap) (n0 : Nat) (Z0 : n0 ≤ h0.size) (V_a1 : Arv Z h0 a1 kk .int (2 : Int32) [(.int x0), (.int x1), (.int (0 : Int32)), (.int (0 : Int32))] (.int (0 : Int32))) :
    MetFree l (⟨"java/util/Arrays", "copyOf", "([II)[I"⟩ : MethodName) (head1 (Jvm.Cond.code (⟨"java/util/Arrays", "copyOf", "([II)[I"⟩ : MethodName) jdk_65_method_123_code 3 (some (.array .int)) :: ws) ({ frames := 1, cells := 1, slots := 4, locals := 18 } : Room)) (fun a U => a = #[(.ref a1), (.int (4 : Int32))] ∧ Z.Warmed39 U.vm ∧ U.heap = h0) (fun _ _ _ _ _ => True) (fun _ U o U' => ∃ v L, o = .returned v ∧ QCP2 Z a1 kk x0 x1 h0 n0 v U'.heap L ∧ FrameEnd U o U' L ({ frames := 1, cells := 1, slots := 4, locals := 18 } : Room).cells ({ frames := 1, cells := 1, slots := 4, locals := 18 } : Room).slots) := by
  refine MetFree.of_bodySF (plainFor_of_name pn_java_util_Arrays) hisR ?_
  intro p e s m args below meth c s₁ Bd hml0 hP hK
  obtain ⟨rfl, hZ, hh⟩ := hP
  have hx := Bd.exec
  have hby := Bd.bytes
  have hml : c.maxLocals = 3 := hml0
  have hown : s.vm.findClass "java/util/Arrays" = some m.cls := findClass_of_methodNamed Bd.named
  have hnm := (name_of_methodNamed Bd.named Bd.method).1
  have X0 : Stand p l e ({ frames := 1, cells := 1, slots := 4, locals := 18 } : Room) s m #[(.ref a1), (.int (4 : Int32))] below meth c s₁ [] 0 0 := Stand.of_body Bd
  have eh0 : s₁.heap = h0 := by rw [← hh, Bd.state]; rfl
  have N0 := Fr.nil n0
  have pre0 : ∀ t, Steps p.tables e below (s₁.setTop (mkF m 0 #[.val (.ref a1), .val (.int (4 : Int32)), .unset] [])) t → Steps p.tables e below (s₁.setTop (entryFrame m #[(.ref a1), (.int (4 : Int32))] 3)) t := fun t k => castTop (ef_CP2 m a1) k
  have K0 : Keep h0 h0 [] := Keep.refl _ _
  have pre2 : ∀ t, Steps p.tables e below (s₁.setTop (mkF m 15 #[.val (.ref a1), .val (.int (4 : Int32)), .unset] [(.int (4 : Int32))])) t → Steps p.tables e below (s₁.setTop (entryFrame m #[(.ref a1), (.int (4 : Int32))] 3)) t := fun t k => pre0 t (by
    show Steps p.tables e below (s₁.setTop (mkF m 0 #[.val (.ref a1), .val (.int (4 : Int32)), .unset] [])) t
    refine XS.iloadN X0.here hx rfl (hb hby d8_0) rfl ?_
    show Steps p.tables e below (s₁.setTop (mkF m 1 #[.val (.ref a1), .val (.int (4 : Int32)), .unset] [(.int (4 : Int32))])) t
    refine XS.aloadN X0.here hx rfl (hb hby d8_1) rfl rfl ?_
    show Steps p.tables e below (s₁.setTop (mkF m 2 #[.val (.ref a1), .val (.int (4 : Int32)), .unset] [(.ref a1), (.int (4 : Int32))])) t
    refine own_alen X0 hx hZ eh0 V_a1 (g := (mkF m 2 #[.val (.ref a1), .val (.int (4 : Int32)), .unset] [(.ref a1), (.int (4 : Int32))])) rfl rfl (hb hby d8_2) _ ?_
    show Steps p.tables e below (s₁.setTop (mkF m 3 #[.val (.ref a1), .val (.int (4 : Int32)), .unset] [(.int (2 : Int32)), (.int (4 : Int32))])) t
    refine XS.icmpYes X0.here hx rfl (pc0 := 3) (pc' := 14) rfl (hb hby d8_3) rfl (XT.ii_ne_t (show ¬ ((4 : Int32) = (2 : Int32)) from by decide)) (by decide) (by decide) ?_
    show Steps p.tables e below (s₁.setTop (mkF m 14 #[.val (.ref a1), .val (.int (4 : Int32)), .unset] [])) t
    refine XS.iloadN X0.here hx rfl (hb hby d8_14) rfl ?_
    show Steps p.tables e below (s₁.setTop (mkF m 15 #[.val (.ref a1), .val (.int (4 : Int32)), .unset] [(.int (4 : Int32))])) t
    exact k)
  obtain ⟨T3, h3, k3, X3, eh3, E3, A3, st3⟩ := newP X0 hx hZ (hw _ (List.mem_of_getElem? (i := 16) rfl)) eh0 (g := (mkF m 15 #[.val (.ref a1), .val (.int (4 : Int32)), .unset] [(.int (4 : Int32))])) rfl (hb hby d8_15) rfl (by decide) (cap := 4) (by decide) (by decide) (by decide) (by decide)
  obtain ⟨b3, gg3⟩ : ∃ z, z = h0.size := ⟨_, rfl⟩
  rw [← gg3] at A3 st3
  have V_a1__3 : Arv Z h3 a1 kk .int (2 : Int32) [(.int x0), (.int x1), (.int (0 : Int32)), (.int (0 : Int32))] (.int (0 : Int32)) := V_a1.ext E3
  have sz3 : n0 ≤ h3.size := Nat.le_trans Z0 E3.1
  have K3 : Keep h0 h3 [] := K0.ext E3
  have g_b3 : n0 ≤ b3 := Nat.le_trans Z0 (Nat.le_of_eq gg3.symm)
  have bo_b3 : h0.size ≤ b3 := Nat.le_trans K0.1 (Nat.le_of_eq gg3.symm)
  have ne_a1_b3 : a1 ≠ b3 := Nat.ne_of_lt (Nat.lt_of_lt_of_le V_a1.lt (Nat.le_of_eq gg3.symm))
  have V_b3 : Arv Z h3 b3 k3 .int (4 : Int32) [(.int (0 : Int32)), (.int (0 : Int32)), (.int (0 : Int32)), (.int (0 : Int32))] (.int (0 : Int32)) := (Arv.new A3 (by decide)).pad (pad_rep [] (.int (0 : Int32)) 4)
  have pre4 : ∀ t, Steps p.tables e below (T3.setTop (mkF m 17 #[.val (.ref a1), .val (.int (4 : Int32)), .unset] [(.ref b3)])) t → Steps p.tables e below (s₁.setTop (entryFrame m #[(.ref a1), (.int (4 : Int32))] 3)) t := fun t k => pre2 t (st3 _ k)
  have pre5 : ∀ t, Steps p.tables e below (T3.setTop (mkF m 25 #[.val (.ref a1), .val (.int (4 : Int32)), .val (.ref b3)] [(.int (4 : Int32)), (.int (2 : Int32)), (.int (0 : Int32)), (.ref b3), (.int (0 : Int32)), (.ref a1)])) t → Steps p.tables e below (s₁.setTop (entryFrame m #[(.ref a1), (.int (4 : Int32))] 3)) t := fun t k => pre4 t (by
    show Steps p.tables e below (T3.setTop (mkF m 17 #[.val (.ref a1), .val (.int (4 : Int32)), .unset] [(.ref b3)])) t
    refine XS.astoreN X3.here hx rfl (hb hby d8_17) rfl rfl (l' := #[.val (.ref a1), .val (.int (4 : Int32)), .val (.ref b3)]) rfl ?_
    show Steps p.tables e below (T3.setTop (mkF m 18 #[.val (.ref a1), .val (.int (4 : Int32)), .val (.ref b3)] [])) t
    refine XS.aloadN X3.here hx rfl (hb hby d8_18) rfl rfl ?_
    show Steps p.tables e below (T3.setTop (mkF m 19 #[.val (.ref a1), .val (.int (4 : Int32)), .val (.ref b3)] [(.ref a1)])) t
    refine XS.iconst X3.here hx rfl (hb hby d8_19) ?_
    show Steps p.tables e below (T3.setTop (mkF m 20 #[.val (.ref a1), .val (.int (4 : Int32)), .val (.ref b3)] [(.int (0 : Int32)), (.ref a1)])) t
    refine XS.aloadN X3.here hx rfl (hb hby d8_20) rfl rfl ?_
    show Steps p.tables e below (T3.setTop (mkF m 21 #[.val (.ref a1), .val (.int (4 : Int32)), .val (.ref b3)] [(.ref b3), (.int (0 : Int32)), (.ref a1)])) t
    refine XS.iconst X3.here hx rfl (hb hby d8_21) ?_
    show Steps p.tables e below (T3.setTop (mkF m 22 #[.val (.ref a1), .val (.int (4 : Int32)), .val (.ref b3)] [(.int (0 : Int32)), (.ref b3), (.int (0 : Int32)), (.ref a1)])) t
    refine XS.aloadN X3.here hx rfl (hb hby d8_22) rfl rfl ?_
    show Steps p.tables e below (T3.setTop (mkF m 23 #[.val (.ref a1), .val (.int (4 : Int32)), .val (.ref b3)] [(.ref a1), (.int (0 : Int32)), (.ref b3), (.int (0 : Int32)), (.ref a1)])) t
    refine own_alen X3 hx hZ eh3 V_a1__3 (g := (mkF m 23 #[.val (.ref a1), .val (.int (4 : Int32)), .val (.ref b3)] [(.ref a1), (.int (0 : Int32)), (.ref b3), (.int (0 : Int32)), (.ref a1)])) rfl rfl (hb hby d8_23) _ ?_
    show Steps p.tables e below (T3.setTop (mkF m 24 #[.val (.ref a1), .val (.int (4 : Int32)), .val (.ref b3)] [(.int (2 : Int32)), (.int (0 : Int32)), (.ref b3), (.int (0 : Int32)), (.ref a1)])) t
    refine XS.iloadN X3.here hx rfl (hb hby d8_24) rfl ?_
    show Steps p.tables e below (T3.setTop (mkF m 25 #[.val (.ref a1), .val (.int (4 : Int32)), .val (.ref b3)] [(.int (4 : Int32)), (.int (2 : Int32)), (.int (0 : Int32)), (.ref b3), (.int (0 : Int32)), (.ref a1)])) t
    exact k)
  obtain ⟨_, _, ⟨T6, L6, k6, n6⟩, -, X6, ⟨Lc6, hQ6, l6, y6, z6⟩, st6⟩ := Jvm.LawKit.callS X3 hx (y := (⟨"java/lang/Math", "min", "(II)I"⟩ : MethodName)) hown (mvT hZ (hw _ (List.mem_of_getElem? (i := 40) rfl))) (mvT hZ (hw _ (List.mem_of_getElem? (i := 1) rfl))) (mvT hZ (hw _ (List.mem_of_getElem? (i := 2) rfl))) (mvT hZ (hw _ (List.mem_of_getElem? (i := 3) rfl))) (by decide) (backOf (W := 4) (rm1 l Z a0 hw [] (2 : Int32) (4 : Int32) h3 n0 sz3 ) hZ (hw _ (List.mem_of_getElem? (i := 3) rfl)) (hw _ (List.mem_of_getElem? (i := 2) rfl)) (by decide) (by decide)) (g := (mkF m 25 #[.val (.ref a1), .val (.int (4 : Int32)), .val (.ref b3)] [(.int (4 : Int32)), (.int (2 : Int32)), (.int (0 : Int32)), (.ref b3), (.int (0 : Int32)), (.ref a1)])) rfl (by rw [hml]; rfl) (argsL := [(.int (2 : Int32)), (.int (4 : Int32))]) (rest := [(.int (0 : Int32)), (.ref b3), (.int (0 : Int32)), (.ref a1)]) (lenOf pd_oIIcI rfl) rfl (by show 2 * 0 + _ ≤ _; exact Nat.le_of_eq rfl) (hb hby d8_25) (fun _ _ => ⟨rfl, eh3, (by decide : 1 + 0 ≤ _), (by decide : 4 + 0 ≤ _)⟩)
  dsimp only [Pt.U, Pt.locs, Pt.cells, Pt.slots] at X6 l6 y6 z6 st6 hQ6
  subst l6 y6 z6
  obtain ⟨rfl, N6q, eh6⟩ := hQ6
  have N6 := Fr.app N0 N6q
  have pre7 : ∀ t, Steps p.tables e below (T6.setTop (mkF m 28 #[.val (.ref a1), .val (.int (4 : Int32)), .val (.ref b3)] [(.int (own_min (2 : Int32) (4 : Int32))), (.int (0 : Int32)), (.ref b3), (.int (0 : Int32)), (.ref a1)])) t → Steps p.tables e below (s₁.setTop (entryFrame m #[(.ref a1), (.int (4 : Int32))] 3)) t := fun t k => pre5 t (st6 _ k)
  have hl8 : (own_min (2 : Int32) (4 : Int32)) = (2 : Int32) := by decide
  rw [hl8] at pre7
  obtain ⟨T9, h9, Lq9, X9, eh9, N9, Kq9, Vq9, st9⟩ := cpA X6 hx hZ hown (hw _ (List.mem_of_getElem? (i := 41) rfl)) (hw _ (List.mem_of_getElem? (i := 44) rfl)) (hw _ (List.mem_of_getElem? (i := 42) rfl)) (hw _ (List.mem_of_getElem? (i := 43) rfl)) eh6 V_a1__3 V_b3 (us := [(.int x0), (.int x1)]) (Or.inl ⟨rfl, rfl⟩) (by decide) (by decide) (by decide) (by decide) (by decide) rfl (by decide) N6 g_b3 (g := (mkF m 28 #[.val (.ref a1), .val (.int (4 : Int32)), .val (.ref b3)] [(.int (2 : Int32)), (.int (0 : Int32)), (.ref b3), (.int (0 : Int32)), (.ref a1)])) rfl (by rw [hml]; rfl) rfl (hb hby d8_28) (by decide) (W := 0) (by show 2 * 0 + _ ≤ _; exact Nat.le_of_eq rfl) (by decide)
  have V_a1__9 : Arv Z h9 a1 kk .int (2 : Int32) [(.int x0), (.int x1), (.int (0 : Int32)), (.int (0 : Int32))] (.int (0 : Int32)) := V_a1__3.keep Kq9 (ninS ne_a1_b3 nin0)
  have V_b3__9 : Arv Z h9 b3 k3 .int (4 : Int32) [(.int x0), (.int x1), (.int (0 : Int32)), (.int (0 : Int32))] (.int (0 : Int32)) := Vq9
  have sz9 : n0 ≤ h9.size := Nat.le_trans sz3 Kq9.1
  have K9 : Keep h0 h9 [] := K3.trans Kq9 (allS (Or.inr bo_b3) all0)
  have pre10 : ∀ t, Steps p.tables e below (T9.setTop (mkF m 31 #[.val (.ref a1), .val (.int (4 : Int32)), .val (.ref b3)] [])) t → Steps p.tables e below (s₁.setTop (entryFrame m #[(.ref a1), (.int (4 : Int32))] 3)) t := fun t k => pre7 t (st9 _ k)
  have pre11 : ∀ t, Steps p.tables e below (T9.setTop (mkF m 32 #[.val (.ref a1), .val (.int (4 : Int32)), .val (.ref b3)] [(.ref b3)])) t → Steps p.tables e below (s₁.setTop (entryFrame m #[(.ref a1), (.int (4 : Int32))] 3)) t := fun t k => pre10 t (by
    show Steps p.tables e below (T9.setTop (mkF m 31 #[.val (.ref a1), .val (.int (4 : Int32)), .val (.ref b3)] [])) t
    refine XS.aloadN X9.here hx rfl (hb hby d8_31) rfl rfl ?_
    show Steps p.tables e below (T9.setTop (mkF m 32 #[.val (.ref a1), .val (.int (4 : Int32)), .val (.ref b3)] [(.ref b3)])) t
    exact k)
  obtain ⟨fs, hr, hrun, hended, hW, hsame⟩ := X9.leave (v := some (.ref b3)) (fun h => by rw [Bd.returns] at h; cases h)
  refine ⟨_, _, pre11 _ ?_, hrun, hended, _, _, rfl, ?_, ⟨_, rfl⟩, hW, hsame.mono (by decide) (by decide)⟩
  · show Steps p.tables e below (T9.setTop (mkF m 32 #[.val (.ref a1), .val (.int (4 : Int32)), .val (.ref b3)] [(.ref b3)])) _
    jvm_step X9.here [X9.here.top, hx, (hb hby d8_32), X9.method', Bd.returns, Value.isRef, FieldType.isReference]
    first | (intro acts; rw [hr _ acts rfl rfl rfl]) | rw [hr _ _ rfl rfl rfl]
    exact Steps.refl _
  · show QCP2 Z a1 kk x0 x1 h0 n0 _ T9.heap _
    rw [eh9]
    exact ⟨b3, k3, rfl, N9, K9, bo_b3, V_b3__9⟩
theorem ef_CP3 (m : MethodId) (a1 : Addr) : entryFrame m #[(.ref a1), (.int (6 : Int32))] 3 = mkF m 0 #[.val (.ref a1), .val (.int (6 : Int32)), .unset] [] := by first | (simp [entryFrame, mkF, argsToLocals, Value.category]; done) | rfl
def QCP3 (Z : State) (a1 : Addr) (kk : ClassId) (x0 : Int32) (x1 : Int32) (x2 : Int32) (h0 : Heap) (n0 : Nat) (v : Option Value) (h : Heap) (L : List Loc) : Prop := ∃ bb : Addr, ∃ kn : ClassId, v = some (.ref bb) ∧ Fr n0 L ∧ Keep h0 h [] ∧ h0.size ≤ bb ∧ Arv Z h bb kn .int (6 : Int32) [(.int x0), (.int x1), (.int x2), (.int (0 : Int32))] (.int (0 : Int32))
set_option maxRecDepth 65536 in
set_option maxHeartbeats 40000000 in
theorem rmCP3 (l : Launch) (Z : State) (a0 : Array Value) (hw : ∀ d ∈ tables_1, d.before a0 Z = true) (ws : List Jvm.Cond) (a1 : Addr) (kk : ClassId) (x0 : Int32) (x1 : Int32) (x2 : Int32) (h0 : Heap) (n0 : Nat) (Z0 : n0 ≤ h0.size) (V_a1 : Arv Z h0 a1 kk .int (3 : Int32) [(.int x0), (.int x1), (.int x2), (.int (0 : Int32))] (.int (0 : Int32))) :
    MetFree l (⟨"java/util/Arrays", "copyOf", "([II)[I"⟩ : MethodName) (head1 (Jvm.Cond.code (⟨"java/util/Arrays", "copyOf", "([II)[I"⟩ : MethodName) jdk_65_method_123_code 3 (some (.array .int)) :: ws) ({ frames := 1, cells := 1, slots := 6, locals := 18 } : Room)) (fun a U => a = #[(.ref a1), (.int (6 : Int32))] ∧ Z.Warmed39 U.vm ∧ U.heap = h0) (fun _ _ _ _ _ => True) (fun _ U o U' => ∃ v L, o = .returned v ∧ QCP3 Z a1 kk x0 x1 x2 h0 n0 v U'.heap L ∧ FrameEnd U o U' L ({ frames := 1, cells := 1, slots := 6, locals := 18 } : Room).cells ({ frames := 1, cells := 1, slots := 6, locals := 18 } : Room).slots) := by
  refine MetFree.of_bodySF (plainFor_of_name pn_java_util_Arrays) hisR ?_
  intro p e s m args below meth c s₁ Bd hml0 hP hK
  obtain ⟨rfl, hZ, hh⟩ := hP
  have hx := Bd.exec
  have hby := Bd.bytes
  have hml : c.maxLocals = 3 := hml0
  have hown : s.vm.findClass "java/util/Arrays" = some m.cls := findClass_of_methodNamed Bd.named
  have hnm := (name_of_methodNamed Bd.named Bd.method).1
  have X0 : Stand p l e ({ frames := 1, cells := 1, slots := 6, locals := 18 } : Room) s m #[(.ref a1), (.int (6 : Int32))] below meth c s₁ [] 0 0 := Stand.of_body Bd
  have eh0 : s₁.heap = h0 := by rw [← hh, Bd.state]; rfl
  have N0 := Fr.nil n0
  have pre0 : ∀ t, Steps p.tables e below (s₁.setTop (mkF m 0 #[.val (.ref a1), .val (.int (6 : Int32)), .unset] [])) t → Steps p.tables e below (s₁.setTop (entryFrame m #[(.ref a1), (.int (6 : Int32))] 3)) t := fun t k => castTop (ef_CP3 m a1) k
  have K0 : Keep h0 h0 [] := Keep.refl _ _
  have pre2 : ∀ t, Steps p.tables e below (s₁.setTop (mkF m 15 #[.val (.ref a1), .val (.int (6 : Int32)), .unset] [(.int (6 : Int32))])) t → Steps p.tables e below (s₁.setTop (entryFrame m #[(.ref a1), (.int (6 : Int32))] 3)) t := fun t k => pre0 t (by
    show Steps p.tables e below (s₁.setTop (mkF m 0 #[.val (.ref a1), .val (.int (6 : Int32)), .unset] [])) t
    refine XS.iloadN X0.here hx rfl (hb hby d8_0) rfl ?_
    show Steps p.tables e below (s₁.setTop (mkF m 1 #[.val (.ref a1), .val (.int (6 : Int32)), .unset] [(.int (6 : Int32))])) t
    refine XS.aloadN X0.here hx rfl (hb hby d8_1) rfl rfl ?_
    show Steps p.tables e below (s₁.setTop (mkF m 2 #[.val (.ref a1), .val (.int (6 : Int32)), .unset] [(.ref a1), (.int (6 : Int32))])) t
    refine own_alen X0 hx hZ eh0 V_a1 (g := (mkF m 2 #[.val (.ref a1), .val (.int (6 : Int32)), .unset] [(.ref a1), (.int (6 : Int32))])) rfl rfl (hb hby d8_2) _ ?_
    show Steps p.tables e below (s₁.setTop (mkF m 3 #[.val (.ref a1), .val (.int (6 : Int32)), .unset] [(.int (3 : Int32)), (.int (6 : Int32))])) t
    refine XS.icmpYes X0.here hx rfl (pc0 := 3) (pc' := 14) rfl (hb hby d8_3) rfl (XT.ii_ne_t (show ¬ ((6 : Int32) = (3 : Int32)) from by decide)) (by decide) (by decide) ?_
    show Steps p.tables e below (s₁.setTop (mkF m 14 #[.val (.ref a1), .val (.int (6 : Int32)), .unset] [])) t
    refine XS.iloadN X0.here hx rfl (hb hby d8_14) rfl ?_
    show Steps p.tables e below (s₁.setTop (mkF m 15 #[.val (.ref a1), .val (.int (6 : Int32)), .unset] [(.int (6 : Int32))])) t
    exact k)
  obtain ⟨T3, h3, k3, X3, eh3, E3, A3, st3⟩ := newP X0 hx hZ (hw _ (List.mem_of_getElem? (i := 16) rfl)) eh0 (g := (mkF m 15 #[.val (.ref a1), .val (.int (6 : Int32)), .unset] [(.int (6 : Int32))])) rfl (hb hby d8_15) rfl (by decide) (cap := 6) (by decide) (by decide) (by decide) (by decide)
  obtain ⟨b3, gg3⟩ : ∃ z, z = h0.size := ⟨_, rfl⟩
  rw [← gg3] at A3 st3
  have V_a1__3 : Arv Z h3 a1 kk .int (3 : Int32) [(.int x0), (.int x1), (.int x2), (.int (0 : Int32))] (.int (0 : Int32)) := V_a1.ext E3
  have sz3 : n0 ≤ h3.size := Nat.le_trans Z0 E3.1
  have K3 : Keep h0 h3 [] := K0.ext E3
  have g_b3 : n0 ≤ b3 := Nat.le_trans Z0 (Nat.le_of_eq gg3.symm)
  have bo_b3 : h0.size ≤ b3 := Nat.le_trans K0.1 (Nat.le_of_eq gg3.symm)
  have ne_a1_b3 : a1 ≠ b3 := Nat.ne_of_lt (Nat.lt_of_lt_of_le V_a1.lt (Nat.le_of_eq gg3.symm))
  have V_b3 : Arv Z h3 b3 k3 .int (6 : Int32) [(.int (0 : Int32)), (.int (0 : Int32)), (.int (0 : Int32)), (.int (0 : Int32))] (.int (0 : Int32)) := (Arv.new A3 (by decide)).pad (pad_rep [] (.int (0 : Int32)) 4)
  have pre4 : ∀ t, Steps p.tables e below (T3.setTop (mkF m 17 #[.val (.ref a1), .val (.int (6 : Int32)), .unset] [(.ref b3)])) t → Steps p.tables e below (s₁.setTop (entryFrame m #[(.ref a1), (.int (6 : Int32))] 3)) t := fun t k => pre2 t (st3 _ k)
  have pre5 : ∀ t, Steps p.tables e below (T3.setTop (mkF m 25 #[.val (.ref a1), .val (.int (6 : Int32)), .val (.ref b3)] [(.int (6 : Int32)), (.int (3 : Int32)), (.int (0 : Int32)), (.ref b3), (.int (0 : Int32)), (.ref a1)])) t → Steps p.tables e below (s₁.setTop (entryFrame m #[(.ref a1), (.int (6 : Int32))] 3)) t := fun t k => pre4 t (by
    show Steps p.tables e below (T3.setTop (mkF m 17 #[.val (.ref a1), .val (.int (6 : Int32)), .unset] [(.ref b3)])) t
    refine XS.astoreN X3.here hx rfl (hb hby d8_17) rfl rfl (l' := #[.val (.ref a1), .val (.int (6 : Int32)), .val (.ref b3)]) rfl ?_
    show Steps p.tables e below (T3.setTop (mkF m 18 #[.val (.ref a1), .val (.int (6 : Int32)), .val (.ref b3)] [])) t
    refine XS.aloadN X3.here hx rfl (hb hby d8_18) rfl rfl ?_
    show Steps p.tables e below (T3.setTop (mkF m 19 #[.val (.ref a1), .val (.int (6 : Int32)), .val (.ref b3)] [(.ref a1)])) t
    refine XS.iconst X3.here hx rfl (hb hby d8_19) ?_
    show Steps p.tables e below (T3.setTop (mkF m 20 #[.val (.ref a1), .val (.int (6 : Int32)), .val (.ref b3)] [(.int (0 : Int32)), (.ref a1)])) t
    refine XS.aloadN X3.here hx rfl (hb hby d8_20) rfl rfl ?_
    show Steps p.tables e below (T3.setTop (mkF m 21 #[.val (.ref a1), .val (.int (6 : Int32)), .val (.ref b3)] [(.ref b3), (.int (0 : Int32)), (.ref a1)])) t
    refine XS.iconst X3.here hx rfl (hb hby d8_21) ?_
    show Steps p.tables e below (T3.setTop (mkF m 22 #[.val (.ref a1), .val (.int (6 : Int32)), .val (.ref b3)] [(.int (0 : Int32)), (.ref b3), (.int (0 : Int32)), (.ref a1)])) t
    refine XS.aloadN X3.here hx rfl (hb hby d8_22) rfl rfl ?_
    show Steps p.tables e below (T3.setTop (mkF m 23 #[.val (.ref a1), .val (.int (6 : Int32)), .val (.ref b3)] [(.ref a1), (.int (0 : Int32)), (.ref b3), (.int (0 : Int32)), (.ref a1)])) t
    refine own_alen X3 hx hZ eh3 V_a1__3 (g := (mkF m 23 #[.val (.ref a1), .val (.int (6 : Int32)), .val (.ref b3)] [(.ref a1), (.int (0 : Int32)), (.ref b3), (.int (0 : Int32)), (.ref a1)])) rfl rfl (hb hby d8_23) _ ?_
    show Steps p.tables e below (T3.setTop (mkF m 24 #[.val (.ref a1), .val (.int (6 : Int32)), .val (.ref b3)] [(.int (3 : Int32)), (.int (0 : Int32)), (.ref b3), (.int (0 : Int32)), (.ref a1)])) t
    refine XS.iloadN X3.here hx rfl (hb hby d8_24) rfl ?_
    show Steps p.tables e below (T3.setTop (mkF m 25 #[.val (.ref a1), .val (.int (6 : Int32)), .val (.ref b3)] [(.int (6 : Int32)), (.int (3 : Int32)), (.int (0 : Int32)), (.ref b3), (.int (0 : Int32)), (.ref a1)])) t
    exact k)
  obtain ⟨_, _, ⟨T6, L6, k6, n6⟩, -, X6, ⟨Lc6, hQ6, l6, y6, z6⟩, st6⟩ := Jvm.LawKit.callS X3 hx (y := (⟨"java/lang/Math", "min", "(II)I"⟩ : MethodName)) hown (mvT hZ (hw _ (List.mem_of_getElem? (i := 40) rfl))) (mvT hZ (hw _ (List.mem_of_getElem? (i := 1) rfl))) (mvT hZ (hw _ (List.mem_of_getElem? (i := 2) rfl))) (mvT hZ (hw _ (List.mem_of_getElem? (i := 3) rfl))) (by decide) (backOf (W := 4) (rm1 l Z a0 hw [] (3 : Int32) (6 : Int32) h3 n0 sz3 ) hZ (hw _ (List.mem_of_getElem? (i := 3) rfl)) (hw _ (List.mem_of_getElem? (i := 2) rfl)) (by decide) (by decide)) (g := (mkF m 25 #[.val (.ref a1), .val (.int (6 : Int32)), .val (.ref b3)] [(.int (6 : Int32)), (.int (3 : Int32)), (.int (0 : Int32)), (.ref b3), (.int (0 : Int32)), (.ref a1)])) rfl (by rw [hml]; rfl) (argsL := [(.int (3 : Int32)), (.int (6 : Int32))]) (rest := [(.int (0 : Int32)), (.ref b3), (.int (0 : Int32)), (.ref a1)]) (lenOf pd_oIIcI rfl) rfl (by show 2 * 0 + _ ≤ _; exact Nat.le_of_eq rfl) (hb hby d8_25) (fun _ _ => ⟨rfl, eh3, (by decide : 1 + 0 ≤ _), (by decide : 6 + 0 ≤ _)⟩)
  dsimp only [Pt.U, Pt.locs, Pt.cells, Pt.slots] at X6 l6 y6 z6 st6 hQ6
  subst l6 y6 z6
  obtain ⟨rfl, N6q, eh6⟩ := hQ6
  have N6 := Fr.app N0 N6q
  have pre7 : ∀ t, Steps p.tables e below (T6.setTop (mkF m 28 #[.val (.ref a1), .val (.int (6 : Int32)), .val (.ref b3)] [(.int (own_min (3 : Int32) (6 : Int32))), (.int (0 : Int32)), (.ref b3), (.int (0 : Int32)), (.ref a1)])) t → Steps p.tables e below (s₁.setTop (entryFrame m #[(.ref a1), (.int (6 : Int32))] 3)) t := fun t k => pre5 t (st6 _ k)
  have hl8 : (own_min (3 : Int32) (6 : Int32)) = (3 : Int32) := by decide
  rw [hl8] at pre7
  obtain ⟨T9, h9, Lq9, X9, eh9, N9, Kq9, Vq9, st9⟩ := cpA X6 hx hZ hown (hw _ (List.mem_of_getElem? (i := 41) rfl)) (hw _ (List.mem_of_getElem? (i := 44) rfl)) (hw _ (List.mem_of_getElem? (i := 42) rfl)) (hw _ (List.mem_of_getElem? (i := 43) rfl)) eh6 V_a1__3 V_b3 (us := [(.int x0), (.int x1), (.int x2)]) (Or.inl ⟨rfl, rfl⟩) (by decide) (by decide) (by decide) (by decide) (by decide) rfl (by decide) N6 g_b3 (g := (mkF m 28 #[.val (.ref a1), .val (.int (6 : Int32)), .val (.ref b3)] [(.int (3 : Int32)), (.int (0 : Int32)), (.ref b3), (.int (0 : Int32)), (.ref a1)])) rfl (by rw [hml]; rfl) rfl (hb hby d8_28) (by decide) (W := 0) (by show 2 * 0 + _ ≤ _; exact Nat.le_of_eq rfl) (by decide)
  have V_a1__9 : Arv Z h9 a1 kk .int (3 : Int32) [(.int x0), (.int x1), (.int x2), (.int (0 : Int32))] (.int (0 : Int32)) := V_a1__3.keep Kq9 (ninS ne_a1_b3 nin0)
  have V_b3__9 : Arv Z h9 b3 k3 .int (6 : Int32) [(.int x0), (.int x1), (.int x2), (.int (0 : Int32))] (.int (0 : Int32)) := Vq9
  have sz9 : n0 ≤ h9.size := Nat.le_trans sz3 Kq9.1
  have K9 : Keep h0 h9 [] := K3.trans Kq9 (allS (Or.inr bo_b3) all0)
  have pre10 : ∀ t, Steps p.tables e below (T9.setTop (mkF m 31 #[.val (.ref a1), .val (.int (6 : Int32)), .val (.ref b3)] [])) t → Steps p.tables e below (s₁.setTop (entryFrame m #[(.ref a1), (.int (6 : Int32))] 3)) t := fun t k => pre7 t (st9 _ k)
  have pre11 : ∀ t, Steps p.tables e below (T9.setTop (mkF m 32 #[.val (.ref a1), .val (.int (6 : Int32)), .val (.ref b3)] [(.ref b3)])) t → Steps p.tables e below (s₁.setTop (entryFrame m #[(.ref a1), (.int (6 : Int32))] 3)) t := fun t k => pre10 t (by
    show Steps p.tables e below (T9.setTop (mkF m 31 #[.val (.ref a1), .val (.int (6 : Int32)), .val (.ref b3)] [])) t
    refine XS.aloadN X9.here hx rfl (hb hby d8_31) rfl rfl ?_
    show Steps p.tables e below (T9.setTop (mkF m 32 #[.val (.ref a1), .val (.int (6 : Int32)), .val (.ref b3)] [(.ref b3)])) t
    exact k)
  obtain ⟨fs, hr, hrun, hended, hW, hsame⟩ := X9.leave (v := some (.ref b3)) (fun h => by rw [Bd.returns] at h; cases h)
  refine ⟨_, _, pre11 _ ?_, hrun, hended, _, _, rfl, ?_, ⟨_, rfl⟩, hW, hsame.mono (by decide) (by decide)⟩
  · show Steps p.tables e below (T9.setTop (mkF m 32 #[.val (.ref a1), .val (.int (6 : Int32)), .val (.ref b3)] [(.ref b3)])) _
    jvm_step X9.here [X9.here.top, hx, (hb hby d8_32), X9.method', Bd.returns, Value.isRef, FieldType.isReference]
    first | (intro acts; rw [hr _ acts rfl rfl rfl]) | rw [hr _ _ rfl rfl rfl]
    exact Steps.refl _
  · show QCP3 Z a1 kk x0 x1 x2 h0 n0 _ T9.heap _
    rw [eh9]
    exact ⟨b3, k3, rfl, N9, K9, bo_b3, V_b3__9⟩
theorem ef_3 (m : MethodId) (a1 : Addr) (p2 : Int32) : entryFrame m #[(.ref a1), (.int p2)] 2 = mkF m 0 #[.val (.ref a1), .val (.int p2)] [] := by first | (simp [entryFrame, mkF, argsToLocals, Value.category]; done) | rfl
theorem pn_com_example_interlace_interlace_core_IntColumn : plainName "com/example/interlace/interlace/core/IntColumn" = true := by first | (simp [plainName, overriddenIn]; done) | decide +kernel
theorem d3_0 : decode prog_78_method_2_code 0 = .ok (.aload_n 0, 1) := by decide +kernel
theorem d3_1 : decode prog_78_method_2_code 1 = .ok (.invokespecial 9, 3) := by decide +kernel
theorem d3_4 : decode prog_78_method_2_code 4 = .ok (.aload_n 0, 1) := by decide +kernel
theorem d3_5 : decode prog_78_method_2_code 5 = .ok (.iload_n 1, 1) := by decide +kernel
theorem d3_6 : decode prog_78_method_2_code 6 = .ok (.newarray .int, 2) := by decide +kernel
theorem d3_8 : decode prog_78_method_2_code 8 = .ok (.putfield 14, 3) := by decide +kernel
theorem d3_11 : decode prog_78_method_2_code 11 = .ok (.return_, 1) := by decide +kernel
def Q3 (Z : State) (a1 : Addr) (p2 : Int32) (u1 : Value) (u2 : Value) (h0 : Heap) (n0 : Nat) (v : Option Value) (h : Heap) (L : List Loc) : Prop := ∃ ar : Addr, ∃ kk : ClassId, v = none ∧ Fr n0 L ∧ Keep h0 h [a1] ∧ h0.size ≤ ar ∧ Exa Z h a1 "com/example/interlace/interlace/core/IntColumn" ∧ Fld Z h a1 "com/example/interlace/interlace/core/IntColumn" "values" "[I" (.ref ar) ∧ Fld Z h a1 "com/example/interlace/interlace/core/IntColumn" "size" "I" u2 ∧ Arv Z h ar kk .int p2 [(.int (0 : Int32)), (.int (0 : Int32)), (.int (0 : Int32)), (.int (0 : Int32))] (.int (0 : Int32))
set_option maxRecDepth 65536 in
set_option maxHeartbeats 40000000 in
theorem rm3 (l : Launch) (Z : State) (a0 : Array Value) (hw : ∀ d ∈ tables_1, d.before a0 Z = true) (ws : List Jvm.Cond) (a1 : Addr) (p2 : Int32) (u1 : Value) (u2 : Value) (h0 : Heap) (n0 : Nat) (Z0 : n0 ≤ h0.size) (E_a1 : Exa Z h0 a1 "com/example/interlace/interlace/core/IntColumn") (F_values_a1 : Fld Z h0 a1 "com/example/interlace/interlace/core/IntColumn" "values" "[I" u1) (F_size_a1 : Fld Z h0 a1 "com/example/interlace/interlace/core/IntColumn" "size" "I" u2) (g_a1 : n0 ≤ a1) (hc0 : ¬ p2 < (0 : Int32)) (hc4 : p2.toNatClampNeg ≤ 4) :
    MetFree l (⟨"com/example/interlace/interlace/core/IntColumn", "<init>", "(I)V"⟩ : MethodName) (head1 (Jvm.Cond.code (⟨"com/example/interlace/interlace/core/IntColumn", "<init>", "(I)V"⟩ : MethodName) prog_78_method_2_code 2 none :: ws) ({ frames := 1, cells := 1, slots := 4, locals := 12 } : Room)) (fun a U => a = #[(.ref a1), (.int p2)] ∧ Z.Warmed39 U.vm ∧ U.heap = h0) (fun _ _ _ _ _ => True) (fun _ U o U' => ∃ v L, o = .returned v ∧ Q3 Z a1 p2 u1 u2 h0 n0 v U'.heap L ∧ FrameEnd U o U' L ({ frames := 1, cells := 1, slots := 4, locals := 12 } : Room).cells ({ frames := 1, cells := 1, slots := 4, locals := 12 } : Room).slots) := by
  refine MetFree.of_bodySF (plainFor_of_name pn_com_example_interlace_interlace_core_IntColumn) hisR ?_
  intro p e s m args below meth c s₁ Bd hml0 hP hK
  obtain ⟨rfl, hZ, hh⟩ := hP
  have hx := Bd.exec
  have hby := Bd.bytes
  have hml : c.maxLocals = 2 := hml0
  have hown : s.vm.findClass "com/example/interlace/interlace/core/IntColumn" = some m.cls := findClass_of_methodNamed Bd.named
  have hnm := (name_of_methodNamed Bd.named Bd.method).1
  have X0 : Stand p l e ({ frames := 1, cells := 1, slots := 4, locals := 12 } : Room) s m #[(.ref a1), (.int p2)] below meth c s₁ [] 0 0 := Stand.of_body Bd
  have eh0 : s₁.heap = h0 := by rw [← hh, Bd.state]; rfl
  have N0 := Fr.nil n0
  have pre0 : ∀ t, Steps p.tables e below (s₁.setTop (mkF m 0 #[.val (.ref a1), .val (.int p2)] [])) t → Steps p.tables e below (s₁.setTop (entryFrame m #[(.ref a1), (.int p2)] 2)) t := fun t k => castTop (ef_3 m a1 p2) k
  have K0 : Keep h0 h0 [a1] := Keep.refl _ _
  have pre1 : ∀ t, Steps p.tables e below (s₁.setTop (mkF m 1 #[.val (.ref a1), .val (.int p2)] [(.ref a1)])) t → Steps p.tables e below (s₁.setTop (entryFrame m #[(.ref a1), (.int p2)] 2)) t := fun t k => pre0 t (by
    show Steps p.tables e below (s₁.setTop (mkF m 0 #[.val (.ref a1), .val (.int p2)] [])) t
    refine XS.aloadN X0.here hx rfl (hb hby d3_0) rfl rfl ?_
    show Steps p.tables e below (s₁.setTop (mkF m 1 #[.val (.ref a1), .val (.int p2)] [(.ref a1)])) t
    exact k)
  obtain ⟨T2, X2, eh2, st2⟩ := initO X0 hx hZ hown (hw _ (List.mem_of_getElem? (i := 13) rfl)) (hw _ (List.mem_of_getElem? (i := 14) rfl)) (hw _ (List.mem_of_getElem? (i := 15) rfl)) eh0 (g := (mkF m 1 #[.val (.ref a1), .val (.int p2)] [(.ref a1)])) rfl (by rw [hml]; rfl) rfl (hb hby d3_1) (by decide) (W := 0) (by show 2 * 0 + _ ≤ _; exact Nat.le_of_eq rfl) (by decide)
  have pre3 : ∀ t, Steps p.tables e below (T2.setTop (mkF m 4 #[.val (.ref a1), .val (.int p2)] [])) t → Steps p.tables e below (s₁.setTop (entryFrame m #[(.ref a1), (.int p2)] 2)) t := fun t k => pre1 t (st2 _ k)
  have pre4 : ∀ t, Steps p.tables e below (T2.setTop (mkF m 6 #[.val (.ref a1), .val (.int p2)] [(.int p2), (.ref a1)])) t → Steps p.tables e below (s₁.setTop (entryFrame m #[(.ref a1), (.int p2)] 2)) t := fun t k => pre3 t (by
    show Steps p.tables e below (T2.setTop (mkF m 4 #[.val (.ref a1), .val (.int p2)] [])) t
    refine XS.aloadN X2.here hx rfl (hb hby d3_4) rfl rfl ?_
    show Steps p.tables e below (T2.setTop (mkF m 5 #[.val (.ref a1), .val (.int p2)] [(.ref a1)])) t
    refine XS.iloadN X2.here hx rfl (hb hby d3_5) rfl ?_
    show Steps p.tables e below (T2.setTop (mkF m 6 #[.val (.ref a1), .val (.int p2)] [(.int p2), (.ref a1)])) t
    exact k)
  obtain ⟨T5, h5, k5, X5, eh5, E5, A5, st5⟩ := newP X2 hx hZ (hw _ (List.mem_of_getElem? (i := 16) rfl)) eh2 (g := (mkF m 6 #[.val (.ref a1), .val (.int p2)] [(.int p2), (.ref a1)])) rfl (hb hby d3_6) rfl hc0 (cap := 4) hc4 (by decide) (by decide) (by decide)
  obtain ⟨b5, gg5⟩ : ∃ z, z = h0.size := ⟨_, rfl⟩
  rw [← gg5] at A5 st5
  have E_a1__5 : Exa Z h5 a1 "com/example/interlace/interlace/core/IntColumn" := E_a1.ext E5
  have F_values_a1__5 : Fld Z h5 a1 "com/example/interlace/interlace/core/IntColumn" "values" "[I" u1 := F_values_a1.ext E5
  have F_size_a1__5 : Fld Z h5 a1 "com/example/interlace/interlace/core/IntColumn" "size" "I" u2 := F_size_a1.ext E5
  have sz5 : n0 ≤ h5.size := Nat.le_trans Z0 E5.1
  have K5 : Keep h0 h5 [a1] := K0.ext E5
  have g_b5 : n0 ≤ b5 := Nat.le_trans Z0 (Nat.le_of_eq gg5.symm)
  have bo_b5 : h0.size ≤ b5 := Nat.le_trans K0.1 (Nat.le_of_eq gg5.symm)
  have ne_a1_b5 : a1 ≠ b5 := Nat.ne_of_lt (Nat.lt_of_lt_of_le E_a1.lt (Nat.le_of_eq gg5.symm))
  have V_b5 : Arv Z h5 b5 k5 .int p2 [(.int (0 : Int32)), (.int (0 : Int32)), (.int (0 : Int32)), (.int (0 : Int32))] (.int (0 : Int32)) := (Arv.new A5 hc0).pad (pad_rep [] (.int (0 : Int32)) 4)
  have pre6 : ∀ t, Steps p.tables e below (T5.setTop (mkF m 8 #[.val (.ref a1), .val (.int p2)] [(.ref b5), (.ref a1)])) t → Steps p.tables e below (s₁.setTop (entryFrame m #[(.ref a1), (.int p2)] 2)) t := fun t k => pre4 t (st5 _ k)
  obtain ⟨T7, h7, X7, eh7, W7, st7⟩ := putF X5 hx hZ hown (host := "") (Or.inl (hw _ (List.mem_of_getElem? (i := 17) rfl))) Via.refl eh5 F_values_a1__5 E_a1__5 (Or.inl (hw _ (List.mem_of_getElem? (i := 18) rfl))) (hw _ (List.mem_of_getElem? (i := 8) rfl)) (ty := (.array .int)) (by decide) rfl rfl (g := (mkF m 8 #[.val (.ref a1), .val (.int p2)] [(.ref b5), (.ref a1)])) rfl rfl (hb hby d3_8)
  have E_a1__7 : Exa Z h7 a1 "com/example/interlace/interlace/core/IntColumn" := E_a1__5.wr W7
  have F_size_a1__7 : Fld Z h7 a1 "com/example/interlace/interlace/core/IntColumn" "size" "I" u2 := F_size_a1__5.other W7 (Or.inr (slot_ne (Or.inl (hw _ (List.mem_of_getElem? (i := 25) rfl))) (Or.inl (hw _ (List.mem_of_getElem? (i := 18) rfl))) (by decide) (t := .int) (t' := (.array .int)) (by decide) (by decide)))
  have V_b5__7 : Arv Z h7 b5 k5 .int p2 [(.int (0 : Int32)), (.int (0 : Int32)), (.int (0 : Int32)), (.int (0 : Int32))] (.int (0 : Int32)) := V_b5.other W7 (Ne.symm ne_a1_b5)
  have sz7 : n0 ≤ h7.size := Nat.le_trans sz5 (Keep.of_wr W7).1
  have K7 : Keep h0 h7 [a1] := K5.wr W7 (Or.inl (List.mem_of_getElem? (i := 0) rfl))
  have N7 := Fr.snoc X7 N0 g_a1
  have F_values_a1__7 : Fld Z h7 a1 "com/example/interlace/interlace/core/IntColumn" "values" "[I" (.ref b5) := F_values_a1__5.same W7
  have pre8 : ∀ t, Steps p.tables e below (T7.setTop (mkF m 11 #[.val (.ref a1), .val (.int p2)] [])) t → Steps p.tables e below (s₁.setTop (entryFrame m #[(.ref a1), (.int p2)] 2)) t := fun t k => pre6 t (st7 _ k)
  obtain ⟨fs, hr, hrun, hended, hW, hsame⟩ := X7.leave (v := none) (fun _ => rfl)
  refine ⟨_, _, pre8 _ ?_, hrun, hended, _, _, rfl, ?_, ⟨_, rfl⟩, hW, hsame.mono (by decide) (by decide)⟩
  · show Steps p.tables e below (T7.setTop (mkF m 11 #[.val (.ref a1), .val (.int p2)] [])) _
    exact X7.returnOut hx Bd.returns (hb hby d3_11) hr
  · show Q3 Z a1 p2 u1 u2 h0 n0 _ T7.heap _
    rw [eh7]
    exact ⟨b5, k5, rfl, N7, K7, bo_b5, E_a1__7, F_values_a1__7, F_size_a1__7, V_b5__7⟩
theorem ef_AD0 (m : MethodId) (a1 : Addr) (p2 : Int32) : entryFrame m #[(.ref a1), (.int p2)] 2 = mkF m 0 #[.val (.ref a1), .val (.int p2)] [] := by first | (simp [entryFrame, mkF, argsToLocals, Value.category]; done) | rfl
theorem d5_0 : decode prog_78_method_3_code 0 = .ok (.aload_n 0, 1) := by decide +kernel
theorem d5_1 : decode prog_78_method_3_code 1 = .ok (.getfield 18, 3) := by decide +kernel
theorem d5_4 : decode prog_78_method_3_code 4 = .ok (.aload_n 0, 1) := by decide +kernel
theorem d5_5 : decode prog_78_method_3_code 5 = .ok (.getfield 14, 3) := by decide +kernel
theorem d5_8 : decode prog_78_method_3_code 8 = .ok (.arraylength, 1) := by decide +kernel
theorem d5_9 : decode prog_78_method_3_code 9 = .ok (.if_icmp .ne 49, 3) := by decide +kernel
theorem d5_58 : decode prog_78_method_3_code 58 = .ok (.aload_n 0, 1) := by decide +kernel
theorem d5_59 : decode prog_78_method_3_code 59 = .ok (.getfield 14, 3) := by decide +kernel
theorem d5_62 : decode prog_78_method_3_code 62 = .ok (.aload_n 0, 1) := by decide +kernel
theorem d5_63 : decode prog_78_method_3_code 63 = .ok (.dup, 1) := by decide +kernel
theorem d5_64 : decode prog_78_method_3_code 64 = .ok (.getfield 18, 3) := by decide +kernel
theorem d5_67 : decode prog_78_method_3_code 67 = .ok (.dup_x1, 1) := by decide +kernel
theorem d5_68 : decode prog_78_method_3_code 68 = .ok (.iconst 1, 1) := by decide +kernel
theorem d5_69 : decode prog_78_method_3_code 69 = .ok (.iadd, 1) := by decide +kernel
theorem d5_70 : decode prog_78_method_3_code 70 = .ok (.putfield 18, 3) := by decide +kernel
theorem d5_73 : decode prog_78_method_3_code 73 = .ok (.iload_n 1, 1) := by decide +kernel
theorem d5_74 : decode prog_78_method_3_code 74 = .ok (.iastore, 1) := by decide +kernel
theorem d5_75 : decode prog_78_method_3_code 75 = .ok (.return_, 1) := by decide +kernel
def QAD0 (Z : State) (a1 : Addr) (p2 : Int32) (ar : Addr) (kk : ClassId) (cap : Int32) (h0 : Heap) (n0 : Nat) (v : Option Value) (h : Heap) (L : List Loc) : Prop := ∃ ar2 : Addr, ∃ kk2 : ClassId, ∃ cap2 : Int32, v = none ∧ Fr n0 L ∧ Keep h0 h [a1, ar] ∧ Exa Z h a1 "com/example/interlace/interlace/core/IntColumn" ∧ Fld Z h a1 "com/example/interlace/interlace/core/IntColumn" "values" "[I" (.ref ar2) ∧ Fld Z h a1 "com/example/interlace/interlace/core/IntColumn" "size" "I" (.int (1 : Int32)) ∧ Arv Z h ar2 kk2 .int cap2 [(.int p2), (.int (0 : Int32)), (.int (0 : Int32)), (.int (0 : Int32))] (.int (0 : Int32)) ∧ n0 ≤ ar2 ∧ a1 ≠ ar2 ∧ ¬ cap2 < (1 : Int32) ∧ ¬ cap2 < (1 : Int32)
set_option maxRecDepth 65536 in
set_option maxHeartbeats 40000000 in
theorem rmAD0 (l : Launch) (Z : State) (a0 : Array Value) (hw : ∀ d ∈ tables_1, d.before a0 Z = true) (ws : List Jvm.Cond) (a1 : Addr) (p2 : Int32) (ar : Addr) (kk : ClassId) (cap : Int32) (h0 : Heap) (n0 : Nat) (Z0 : n0 ≤ h0.size) (E_a1 : Exa Z h0 a1 "com/example/interlace/interlace/core/IntColumn") (F_values_a1 : Fld Z h0 a1 "com/example/interlace/interlace/core/IntColumn" "values" "[I" (.ref ar)) (F_size_a1 : Fld Z h0 a1 "com/example/interlace/interlace/core/IntColumn" "size" "I" (.int (0 : Int32))) (V_ar : Arv Z h0 ar kk .int cap [(.int (0 : Int32)), (.int (0 : Int32)), (.int (0 : Int32)), (.int (0 : Int32))] (.int (0 : Int32))) (g_a1 : n0 ≤ a1) (g_ar : n0 ≤ ar) (ne_a1_ar : a1 ≠ ar) (hcap : ¬ cap < (0 : Int32)) (hc1 : ¬ cap < (1 : Int32)) :
    MetFree l (⟨"com/example/interlace/interlace/core/IntColumn", "add", "(I)V"⟩ : MethodName) (head1 (Jvm.Cond.code (⟨"com/example/interlace/interlace/core/IntColumn", "add", "(I)V"⟩ : MethodName) prog_78_method_3_code 2 none :: ws) ({ frames := 0, cells := 0, slots := 0, locals := 0 } : Room)) (fun a U => a = #[(.ref a1), (.int p2)] ∧ Z.Warmed39 U.vm ∧ U.heap = h0) (fun _ _ _ _ _ => True) (fun _ U o U' => ∃ v L, o = .returned v ∧ QAD0 Z a1 p2 ar kk cap h0 n0 v U'.heap L ∧ FrameEnd U o U' L ({ frames := 0, cells := 0, slots := 0, locals := 0 } : Room).cells ({ frames := 0, cells := 0, slots := 0, locals := 0 } : Room).slots) := by
  refine MetFree.of_bodySF (plainFor_of_name pn_com_example_interlace_interlace_core_IntColumn) hisR ?_
  intro p e s m args below meth c s₁ Bd hml0 hP hK
  obtain ⟨rfl, hZ, hh⟩ := hP
  have hx := Bd.exec
  have hby := Bd.bytes
  have hml : c.maxLocals = 2 := hml0
  have hown : s.vm.findClass "com/example/interlace/interlace/core/IntColumn" = some m.cls := findClass_of_methodNamed Bd.named
  have hnm := (name_of_methodNamed Bd.named Bd.method).1
  have X0 : Stand p l e ({ frames := 0, cells := 0, slots := 0, locals := 0 } : Room) s m #[(.ref a1), (.int p2)] below meth c s₁ [] 0 0 := Stand.of_body Bd
  have eh0 : s₁.heap = h0 := by rw [← hh, Bd.state]; rfl
  have N0 := Fr.nil n0
  have pre0 : ∀ t, Steps p.tables e below (s₁.setTop (mkF m 0 #[.val (.ref a1), .val (.int p2)] [])) t → Steps p.tables e below (s₁.setTop (entryFrame m #[(.ref a1), (.int p2)] 2)) t := fun t k => castTop (ef_AD0 m a1 p2) k
  have K0 : Keep h0 h0 [a1, ar] := Keep.refl _ _
  have hne : ¬ (0 : Int32) = cap := fun q => hc1 (by rw [← q]; decide)
  have pre1 : ∀ t, Steps p.tables e below (s₁.setTop (mkF m 1 #[.val (.ref a1), .val (.int p2)] [(.ref a1)])) t → Steps p.tables e below (s₁.setTop (entryFrame m #[(.ref a1), (.int p2)] 2)) t := fun t k => pre0 t (by
    show Steps p.tables e below (s₁.setTop (mkF m 0 #[.val (.ref a1), .val (.int p2)] [])) t
    refine XS.aloadN X0.here hx rfl (hb hby d5_0) rfl rfl ?_
    show Steps p.tables e below (s₁.setTop (mkF m 1 #[.val (.ref a1), .val (.int p2)] [(.ref a1)])) t
    exact k)
  obtain ⟨T2, X2, eh2, st2⟩ := getF X0 hx hZ hown (host := "") (Or.inl (hw _ (List.mem_of_getElem? (i := 24) rfl))) Via.refl eh0 F_size_a1 (g := (mkF m 1 #[.val (.ref a1), .val (.int p2)] [(.ref a1)])) rfl rfl (hb hby d5_1)
  have pre3 : ∀ t, Steps p.tables e below (T2.setTop (mkF m 4 #[.val (.ref a1), .val (.int p2)] [(.int (0 : Int32))])) t → Steps p.tables e below (s₁.setTop (entryFrame m #[(.ref a1), (.int p2)] 2)) t := fun t k => pre1 t (st2 _ k)
  have pre4 : ∀ t, Steps p.tables e below (T2.setTop (mkF m 5 #[.val (.ref a1), .val (.int p2)] [(.ref a1), (.int (0 : Int32))])) t → Steps p.tables e below (s₁.setTop (entryFrame m #[(.ref a1), (.int p2)] 2)) t := fun t k => pre3 t (by
    show Steps p.tables e below (T2.setTop (mkF m 4 #[.val (.ref a1), .val (.int p2)] [(.int (0 : Int32))])) t
    refine XS.aloadN X2.here hx rfl (hb hby d5_4) rfl rfl ?_
    show Steps p.tables e below (T2.setTop (mkF m 5 #[.val (.ref a1), .val (.int p2)] [(.ref a1), (.int (0 : Int32))])) t
    exact k)
  obtain ⟨T5, X5, eh5, st5⟩ := getF X2 hx hZ hown (host := "") (Or.inl (hw _ (List.mem_of_getElem? (i := 17) rfl))) Via.refl eh2 F_values_a1 (g := (mkF m 5 #[.val (.ref a1), .val (.int p2)] [(.ref a1), (.int (0 : Int32))])) rfl rfl (hb hby d5_5)
  have pre6 : ∀ t, Steps p.tables e below (T5.setTop (mkF m 8 #[.val (.ref a1), .val (.int p2)] [(.ref ar), (.int (0 : Int32))])) t → Steps p.tables e below (s₁.setTop (entryFrame m #[(.ref a1), (.int p2)] 2)) t := fun t k => pre4 t (st5 _ k)
  have pre8 : ∀ t, Steps p.tables e below (T5.setTop (mkF m 59 #[.val (.ref a1), .val (.int p2)] [(.ref a1)])) t → Steps p.tables e below (s₁.setTop (entryFrame m #[(.ref a1), (.int p2)] 2)) t := fun t k => pre6 t (by
    show Steps p.tables e below (T5.setTop (mkF m 8 #[.val (.ref a1), .val (.int p2)] [(.ref ar), (.int (0 : Int32))])) t
    refine own_alen X5 hx hZ eh5 V_ar (g := (mkF m 8 #[.val (.ref a1), .val (.int p2)] [(.ref ar), (.int (0 : Int32))])) rfl rfl (hb hby d5_8) _ ?_
    show Steps p.tables e below (T5.setTop (mkF m 9 #[.val (.ref a1), .val (.int p2)] [(.int cap), (.int (0 : Int32))])) t
    refine XS.icmpYes X5.here hx rfl (pc0 := 9) (pc' := 58) rfl (hb hby d5_9) rfl (XT.ii_ne_t (show ¬ ((0 : Int32) = cap) from hne)) (by decide) (by decide) ?_
    show Steps p.tables e below (T5.setTop (mkF m 58 #[.val (.ref a1), .val (.int p2)] [])) t
    refine XS.aloadN X5.here hx rfl (hb hby d5_58) rfl rfl ?_
    show Steps p.tables e below (T5.setTop (mkF m 59 #[.val (.ref a1), .val (.int p2)] [(.ref a1)])) t
    exact k)
  obtain ⟨T9, X9, eh9, st9⟩ := getF X5 hx hZ hown (host := "") (Or.inl (hw _ (List.mem_of_getElem? (i := 17) rfl))) Via.refl eh5 F_values_a1 (g := (mkF m 59 #[.val (.ref a1), .val (.int p2)] [(.ref a1)])) rfl rfl (hb hby d5_59)
  have pre10 : ∀ t, Steps p.tables e below (T9.setTop (mkF m 62 #[.val (.ref a1), .val (.int p2)] [(.ref ar)])) t → Steps p.tables e below (s₁.setTop (entryFrame m #[(.ref a1), (.int p2)] 2)) t := fun t k => pre8 t (st9 _ k)
  have pre11 : ∀ t, Steps p.tables e below (T9.setTop (mkF m 64 #[.val (.ref a1), .val (.int p2)] [(.ref a1), (.ref a1), (.ref ar)])) t → Steps p.tables e below (s₁.setTop (entryFrame m #[(.ref a1), (.int p2)] 2)) t := fun t k => pre10 t (by
    show Steps p.tables e below (T9.setTop (mkF m 62 #[.val (.ref a1), .val (.int p2)] [(.ref ar)])) t
    refine XS.aloadN X9.here hx rfl (hb hby d5_62) rfl rfl ?_
    show Steps p.tables e below (T9.setTop (mkF m 63 #[.val (.ref a1), .val (.int p2)] [(.ref a1), (.ref ar)])) t
    refine XS.dup X9.here hx rfl (hb hby d5_63) rfl rfl ?_
    show Steps p.tables e below (T9.setTop (mkF m 64 #[.val (.ref a1), .val (.int p2)] [(.ref a1), (.ref a1), (.ref ar)])) t
    exact k)
  obtain ⟨T12, X12, eh12, st12⟩ := getF X9 hx hZ hown (host := "") (Or.inl (hw _ (List.mem_of_getElem? (i := 24) rfl))) Via.refl eh9 F_size_a1 (g := (mkF m 64 #[.val (.ref a1), .val (.int p2)] [(.ref a1), (.ref a1), (.ref ar)])) rfl rfl (hb hby d5_64)
  have pre13 : ∀ t, Steps p.tables e below (T12.setTop (mkF m 67 #[.val (.ref a1), .val (.int p2)] [(.int (0 : Int32)), (.ref a1), (.ref ar)])) t → Steps p.tables e below (s₁.setTop (entryFrame m #[(.ref a1), (.int p2)] 2)) t := fun t k => pre11 t (st12 _ k)
  have pre14 : ∀ t, Steps p.tables e below (T12.setTop (mkF m 70 #[.val (.ref a1), .val (.int p2)] [(.int (1 : Int32)), (.ref a1), (.int (0 : Int32)), (.ref ar)])) t → Steps p.tables e below (s₁.setTop (entryFrame m #[(.ref a1), (.int p2)] 2)) t := fun t k => pre13 t (by
    show Steps p.tables e below (T12.setTop (mkF m 67 #[.val (.ref a1), .val (.int p2)] [(.int (0 : Int32)), (.ref a1), (.ref ar)])) t
    refine XT.dupX1 X12.here hx rfl (hb hby d5_67) rfl rfl rfl ?_
    show Steps p.tables e below (T12.setTop (mkF m 68 #[.val (.ref a1), .val (.int p2)] [(.int (0 : Int32)), (.ref a1), (.int (0 : Int32)), (.ref ar)])) t
    refine XS.iconst X12.here hx rfl (hb hby d5_68) ?_
    show Steps p.tables e below (T12.setTop (mkF m 69 #[.val (.ref a1), .val (.int p2)] [(.int (1 : Int32)), (.int (0 : Int32)), (.ref a1), (.int (0 : Int32)), (.ref ar)])) t
    refine XS.iadd X12.here hx rfl (hb hby d5_69) rfl ?_
    show Steps p.tables e below (T12.setTop (mkF m 70 #[.val (.ref a1), .val (.int p2)] [(.int (1 : Int32)), (.ref a1), (.int (0 : Int32)), (.ref ar)])) t
    exact k)
  obtain ⟨T15, h15, X15, eh15, W15, st15⟩ := putF X12 hx hZ hown (host := "") (Or.inl (hw _ (List.mem_of_getElem? (i := 24) rfl))) Via.refl eh12 F_size_a1 E_a1 (Or.inl (hw _ (List.mem_of_getElem? (i := 25) rfl))) (hw _ (List.mem_of_getElem? (i := 8) rfl)) (ty := .int) (by decide) rfl rfl (g := (mkF m 70 #[.val (.ref a1), .val (.int p2)] [(.int (1 : Int32)), (.ref a1), (.int (0 : Int32)), (.ref ar)])) rfl rfl (hb hby d5_70)
  have E_a1__15 : Exa Z h15 a1 "com/example/interlace/interlace/core/IntColumn" := E_a1.wr W15
  have F_values_a1__15 : Fld Z h15 a1 "com/example/interlace/interlace/core/IntColumn" "values" "[I" (.ref ar) := F_values_a1.other W15 (Or.inr (slot_ne (Or.inl (hw _ (List.mem_of_getElem? (i := 18) rfl))) (Or.inl (hw _ (List.mem_of_getElem? (i := 25) rfl))) (by decide) (t := (.array .int)) (t' := .int) (by decide) (by decide)))
  have V_ar__15 : Arv Z h15 ar kk .int cap [(.int (0 : Int32)), (.int (0 : Int32)), (.int (0 : Int32)), (.int (0 : Int32))] (.int (0 : Int32)) := V_ar.other W15 (Ne.symm ne_a1_ar)
  have sz15 : n0 ≤ h15.size := Nat.le_trans Z0 (Keep.of_wr W15).1
  have K15 : Keep h0 h15 [a1, ar] := K0.wr W15 (Or.inl (List.mem_of_getElem? (i := 0) rfl))
  have N15 := Fr.snoc X15 N0 g_a1
  have F_size_a1__15 : Fld Z h15 a1 "com/example/interlace/interlace/core/IntColumn" "size" "I" (.int (1 : Int32)) := F_size_a1.same W15
  have pre16 : ∀ t, Steps p.tables e below (T15.setTop (mkF m 73 #[.val (.ref a1), .val (.int p2)] [(.int (0 : Int32)), (.ref ar)])) t → Steps p.tables e below (s₁.setTop (entryFrame m #[(.ref a1), (.int p2)] 2)) t := fun t k => pre14 t (st15 _ k)
  have pre17 : ∀ t, Steps p.tables e below (T15.setTop (mkF m 74 #[.val (.ref a1), .val (.int p2)] [(.int p2), (.int (0 : Int32)), (.ref ar)])) t → Steps p.tables e below (s₁.setTop (entryFrame m #[(.ref a1), (.int p2)] 2)) t := fun t k => pre16 t (by
    show Steps p.tables e below (T15.setTop (mkF m 73 #[.val (.ref a1), .val (.int p2)] [(.int (0 : Int32)), (.ref ar)])) t
    refine XS.iloadN X15.here hx rfl (hb hby d5_73) rfl ?_
    show Steps p.tables e below (T15.setTop (mkF m 74 #[.val (.ref a1), .val (.int p2)] [(.int p2), (.int (0 : Int32)), (.ref ar)])) t
    exact k)
  obtain ⟨cl18, Ar18, q18, S18, N18q, H18, G18⟩ := V_ar__15
  have hin18 : ¬ ((0 : Int32) < 0 ∨ cl18.slots.size ≤ ((0 : Int32)).toNatClampNeg) := inb_of S18 ⟨by decide, own_lt _ hcap (by assumption)⟩
  obtain ⟨T18, h18, X18, eh18, W18, st18⟩ := stI X15 hx hZ eh15 Ar18 (j := (0 : Int32)) hin18 (g := (mkF m 74 #[.val (.ref a1), .val (.int p2)] [(.int p2), (.int (0 : Int32)), (.ref ar)])) rfl rfl (hb hby d5_74)
  have E_a1__18 : Exa Z h18 a1 "com/example/interlace/interlace/core/IntColumn" := E_a1__15.wr W18
  have F_values_a1__18 : Fld Z h18 a1 "com/example/interlace/interlace/core/IntColumn" "values" "[I" (.ref ar) := F_values_a1__15.other W18 (Or.inl ne_a1_ar)
  have F_size_a1__18 : Fld Z h18 a1 "com/example/interlace/interlace/core/IntColumn" "size" "I" (.int (1 : Int32)) := F_size_a1__15.other W18 (Or.inl ne_a1_ar)
  have sz18 : n0 ≤ h18.size := Nat.le_trans sz15 (Keep.of_wr W18).1
  have K18 : Keep h0 h18 [a1, ar] := K15.wr W18 (Or.inl (List.mem_of_getElem? (i := 1) rfl))
  have N18 := Fr.snoc X18 N15 g_ar
  have V_ar__18 : Arv Z h18 ar kk .int cap [(.int p2), (.int (0 : Int32)), (.int (0 : Int32)), (.int (0 : Int32))] (.int (0 : Int32)) := Arv.set Ar18 q18 S18 N18q H18 G18 rfl W18 0 rfl (Nat.le_of_ble_eq_true rfl)
  have pre19 : ∀ t, Steps p.tables e below (T18.setTop (mkF m 75 #[.val (.ref a1), .val (.int p2)] [])) t → Steps p.tables e below (s₁.setTop (entryFrame m #[(.ref a1), (.int p2)] 2)) t := fun t k => pre17 t (st18 _ k)
  obtain ⟨fs, hr, hrun, hended, hW, hsame⟩ := X18.leave (v := none) (fun _ => rfl)
  refine ⟨_, _, pre19 _ ?_, hrun, hended, _, _, rfl, ?_, ⟨_, rfl⟩, hW, hsame.mono (by decide) (by decide)⟩
  · show Steps p.tables e below (T18.setTop (mkF m 75 #[.val (.ref a1), .val (.int p2)] [])) _
    exact X18.returnOut hx Bd.returns (hb hby d5_75) hr
  · show QAD0 Z a1 p2 ar kk cap h0 n0 _ T18.heap _
    rw [eh18]
    exact ⟨ar, kk, cap, rfl, N18, K18, E_a1__18, F_values_a1__18, F_size_a1__18, V_ar__18, g_ar, ne_a1_ar, (own_up (own_lt (0 : Int32) hcap (by assumption)) (by decide)), hc1⟩
theorem ef_AD1 (m : MethodId) (a1 : Addr) (p2 : Int32) : entryFrame m #[(.ref a1), (.int p2)] 2 = mkF m 0 #[.val (.ref a1), .val (.int p2)] [] := by first | (simp [entryFrame, mkF, argsToLocals, Value.category]; done) | rfl
theorem d5_12 : decode prog_78_method_3_code 12 = .ok (.aload_n 0, 1) := by decide +kernel
theorem d5_13 : decode prog_78_method_3_code 13 = .ok (.getfield 18, 3) := by decide +kernel
theorem d5_16 : decode prog_78_method_3_code 16 = .ok (.ldc 22, 2) := by decide +kernel
theorem d5_18 : decode prog_78_method_3_code 18 = .ok (.if_icmp .ne 13, 3) := by decide +kernel
theorem d5_31 : decode prog_78_method_3_code 31 = .ok (.aload_n 0, 1) := by decide +kernel
theorem d5_32 : decode prog_78_method_3_code 32 = .ok (.aload_n 0, 1) := by decide +kernel
theorem d5_33 : decode prog_78_method_3_code 33 = .ok (.getfield 14, 3) := by decide +kernel
theorem d5_36 : decode prog_78_method_3_code 36 = .ok (.ldc2_w 30, 3) := by decide +kernel
theorem d5_39 : decode prog_78_method_3_code 39 = .ok (.aload_n 0, 1) := by decide +kernel
theorem d5_40 : decode prog_78_method_3_code 40 = .ok (.getfield 18, 3) := by decide +kernel
theorem d5_43 : decode prog_78_method_3_code 43 = .ok (.i2l, 1) := by decide +kernel
theorem d5_44 : decode prog_78_method_3_code 44 = .ok (.lmul, 1) := by decide +kernel
theorem d5_45 : decode prog_78_method_3_code 45 = .ok (.ldc2_w 32, 3) := by decide +kernel
theorem d5_48 : decode prog_78_method_3_code 48 = .ok (.invokestatic 34, 3) := by decide +kernel
theorem pd_oJJcJ : parseMethodDescriptor "(JJ)J" = some ⟨[.long, .long], some .long⟩ := by decide +kernel
theorem d5_51 : decode prog_78_method_3_code 51 = .ok (.l2i, 1) := by decide +kernel
theorem d5_52 : decode prog_78_method_3_code 52 = .ok (.invokestatic 40, 3) := by decide +kernel
theorem pd_oaIIcaI : parseMethodDescriptor "([II)[I" = some ⟨[(.array .int), .int], some (.array .int)⟩ := by decide +kernel
theorem d5_55 : decode prog_78_method_3_code 55 = .ok (.putfield 14, 3) := by decide +kernel
def QAD1 (Z : State) (a1 : Addr) (p2 : Int32) (ar : Addr) (kk : ClassId) (cap : Int32) (x0 : Int32) (h0 : Heap) (n0 : Nat) (v : Option Value) (h : Heap) (L : List Loc) : Prop := ∃ ar2 : Addr, ∃ kk2 : ClassId, ∃ cap2 : Int32, v = none ∧ Fr n0 L ∧ Keep h0 h [a1, ar] ∧ Exa Z h a1 "com/example/interlace/interlace/core/IntColumn" ∧ Fld Z h a1 "com/example/interlace/interlace/core/IntColumn" "values" "[I" (.ref ar2) ∧ Fld Z h a1 "com/example/interlace/interlace/core/IntColumn" "size" "I" (.int (2 : Int32)) ∧ Arv Z h ar2 kk2 .int cap2 [(.int x0), (.int p2), (.int (0 : Int32)), (.int (0 : Int32))] (.int (0 : Int32)) ∧ n0 ≤ ar2 ∧ a1 ≠ ar2 ∧ ¬ cap2 < (2 : Int32) ∧ ¬ cap2 < (1 : Int32)
set_option maxRecDepth 65536 in
set_option maxHeartbeats 40000000 in
theorem rmAD1 (l : Launch) (Z : State) (a0 : Array Value) (hw : ∀ d ∈ tables_1, d.before a0 Z = true) (ws : List Jvm.Cond) (a1 : Addr) (p2 : Int32) (ar : Addr) (kk : ClassId) (cap : Int32) (x0 : Int32) (h0 : Heap) (n0 : Nat) (Z0 : n0 ≤ h0.size) (E_a1 : Exa Z h0 a1 "com/example/interlace/interlace/core/IntColumn") (F_values_a1 : Fld Z h0 a1 "com/example/interlace/interlace/core/IntColumn" "values" "[I" (.ref ar)) (F_size_a1 : Fld Z h0 a1 "com/example/interlace/interlace/core/IntColumn" "size" "I" (.int (1 : Int32))) (V_ar : Arv Z h0 ar kk .int cap [(.int x0), (.int (0 : Int32)), (.int (0 : Int32)), (.int (0 : Int32))] (.int (0 : Int32))) (g_a1 : n0 ≤ a1) (g_ar : n0 ≤ ar) (ne_a1_ar : a1 ≠ ar) (hcap : ¬ cap < (1 : Int32)) (hc1 : ¬ cap < (1 : Int32)) :
    MetFree l (⟨"com/example/interlace/interlace/core/IntColumn", "add", "(I)V"⟩ : MethodName) (head1 (Jvm.Cond.code (⟨"com/example/interlace/interlace/core/IntColumn", "add", "(I)V"⟩ : MethodName) prog_78_method_3_code 2 none :: ws) ({ frames := 2, cells := 1, slots := 2, locals := 33 } : Room)) (fun a U => a = #[(.ref a1), (.int p2)] ∧ Z.Warmed39 U.vm ∧ U.heap = h0) (fun _ _ _ _ _ => True) (fun _ U o U' => ∃ v L, o = .returned v ∧ QAD1 Z a1 p2 ar kk cap x0 h0 n0 v U'.heap L ∧ FrameEnd U o U' L ({ frames := 2, cells := 1, slots := 2, locals := 33 } : Room).cells ({ frames := 2, cells := 1, slots := 2, locals := 33 } : Room).slots) := by
  refine MetFree.of_bodySF (plainFor_of_name pn_com_example_interlace_interlace_core_IntColumn) hisR ?_
  intro p e s m args below meth c s₁ Bd hml0 hP hK
  obtain ⟨rfl, hZ, hh⟩ := hP
  have hx := Bd.exec
  have hby := Bd.bytes
  have hml : c.maxLocals = 2 := hml0
  have hown : s.vm.findClass "com/example/interlace/interlace/core/IntColumn" = some m.cls := findClass_of_methodNamed Bd.named
  have hnm := (name_of_methodNamed Bd.named Bd.method).1
  have X0 : Stand p l e ({ frames := 2, cells := 1, slots := 2, locals := 33 } : Room) s m #[(.ref a1), (.int p2)] below meth c s₁ [] 0 0 := Stand.of_body Bd
  have eh0 : s₁.heap = h0 := by rw [← hh, Bd.state]; rfl
  have N0 := Fr.nil n0
  have pre0 : ∀ t, Steps p.tables e below (s₁.setTop (mkF m 0 #[.val (.ref a1), .val (.int p2)] [])) t → Steps p.tables e below (s₁.setTop (entryFrame m #[(.ref a1), (.int p2)] 2)) t := fun t k => castTop (ef_AD1 m a1 p2) k
  have K0 : Keep h0 h0 [a1, ar] := Keep.refl _ _
  have pre1 : ∀ t, Steps p.tables e below (s₁.setTop (mkF m 1 #[.val (.ref a1), .val (.int p2)] [(.ref a1)])) t → Steps p.tables e below (s₁.setTop (entryFrame m #[(.ref a1), (.int p2)] 2)) t := fun t k => pre0 t (by
    show Steps p.tables e below (s₁.setTop (mkF m 0 #[.val (.ref a1), .val (.int p2)] [])) t
    refine XS.aloadN X0.here hx rfl (hb hby d5_0) rfl rfl ?_
    show Steps p.tables e below (s₁.setTop (mkF m 1 #[.val (.ref a1), .val (.int p2)] [(.ref a1)])) t
    exact k)
  obtain ⟨T2, X2, eh2, st2⟩ := getF X0 hx hZ hown (host := "") (Or.inl (hw _ (List.mem_of_getElem? (i := 24) rfl))) Via.refl eh0 F_size_a1 (g := (mkF m 1 #[.val (.ref a1), .val (.int p2)] [(.ref a1)])) rfl rfl (hb hby d5_1)
  have pre3 : ∀ t, Steps p.tables e below (T2.setTop (mkF m 4 #[.val (.ref a1), .val (.int p2)] [(.int (1 : Int32))])) t → Steps p.tables e below (s₁.setTop (entryFrame m #[(.ref a1), (.int p2)] 2)) t := fun t k => pre1 t (st2 _ k)
  have pre4 : ∀ t, Steps p.tables e below (T2.setTop (mkF m 5 #[.val (.ref a1), .val (.int p2)] [(.ref a1), (.int (1 : Int32))])) t → Steps p.tables e below (s₁.setTop (entryFrame m #[(.ref a1), (.int p2)] 2)) t := fun t k => pre3 t (by
    show Steps p.tables e below (T2.setTop (mkF m 4 #[.val (.ref a1), .val (.int p2)] [(.int (1 : Int32))])) t
    refine XS.aloadN X2.here hx rfl (hb hby d5_4) rfl rfl ?_
    show Steps p.tables e below (T2.setTop (mkF m 5 #[.val (.ref a1), .val (.int p2)] [(.ref a1), (.int (1 : Int32))])) t
    exact k)
  obtain ⟨T5, X5, eh5, st5⟩ := getF X2 hx hZ hown (host := "") (Or.inl (hw _ (List.mem_of_getElem? (i := 17) rfl))) Via.refl eh2 F_values_a1 (g := (mkF m 5 #[.val (.ref a1), .val (.int p2)] [(.ref a1), (.int (1 : Int32))])) rfl rfl (hb hby d5_5)
  have pre6 : ∀ t, Steps p.tables e below (T5.setTop (mkF m 8 #[.val (.ref a1), .val (.int p2)] [(.ref ar), (.int (1 : Int32))])) t → Steps p.tables e below (s₁.setTop (entryFrame m #[(.ref a1), (.int p2)] 2)) t := fun t k => pre4 t (st5 _ k)
  have pre8 : ∀ t, Steps p.tables e below (T5.setTop (mkF m 9 #[.val (.ref a1), .val (.int p2)] [(.int cap), (.int (1 : Int32))])) t → Steps p.tables e below (s₁.setTop (entryFrame m #[(.ref a1), (.int p2)] 2)) t := fun t k => pre6 t (by
    show Steps p.tables e below (T5.setTop (mkF m 8 #[.val (.ref a1), .val (.int p2)] [(.ref ar), (.int (1 : Int32))])) t
    refine own_alen X5 hx hZ eh5 V_ar (g := (mkF m 8 #[.val (.ref a1), .val (.int p2)] [(.ref ar), (.int (1 : Int32))])) rfl rfl (hb hby d5_8) _ ?_
    show Steps p.tables e below (T5.setTop (mkF m 9 #[.val (.ref a1), .val (.int p2)] [(.int cap), (.int (1 : Int32))])) t
    exact k)
  by_cases hc9_7 : (1 : Int32) = cap
  · skip
    have V_arL : Arv Z h0 ar kk .int (1 : Int32) [(.int x0), (.int (0 : Int32)), (.int (0 : Int32)), (.int (0 : Int32))] (.int (0 : Int32)) := by rw [hc9_7]; exact V_ar
    have pre9 : ∀ t, Steps p.tables e below (T5.setTop (mkF m 13 #[.val (.ref a1), .val (.int p2)] [(.ref a1)])) t → Steps p.tables e below (s₁.setTop (entryFrame m #[(.ref a1), (.int p2)] 2)) t := fun t k => pre8 t (by
      show Steps p.tables e below (T5.setTop (mkF m 9 #[.val (.ref a1), .val (.int p2)] [(.int cap), (.int (1 : Int32))])) t
      refine XS.icmpNo X5.here hx rfl (hb hby d5_9) rfl (XT.ii_ne_f hc9_7) ?_
      show Steps p.tables e below (T5.setTop (mkF m 12 #[.val (.ref a1), .val (.int p2)] [])) t
      refine XS.aloadN X5.here hx rfl (hb hby d5_12) rfl rfl ?_
      show Steps p.tables e below (T5.setTop (mkF m 13 #[.val (.ref a1), .val (.int p2)] [(.ref a1)])) t
      exact k)
    obtain ⟨T10, X10, eh10, st10⟩ := getF X5 hx hZ hown (host := "") (Or.inl (hw _ (List.mem_of_getElem? (i := 24) rfl))) Via.refl eh5 F_size_a1 (g := (mkF m 13 #[.val (.ref a1), .val (.int p2)] [(.ref a1)])) rfl rfl (hb hby d5_13)
    have pre11 : ∀ t, Steps p.tables e below (T10.setTop (mkF m 16 #[.val (.ref a1), .val (.int p2)] [(.int (1 : Int32))])) t → Steps p.tables e below (s₁.setTop (entryFrame m #[(.ref a1), (.int p2)] 2)) t := fun t k => pre9 t (st10 _ k)
    have pre13 : ∀ t, Steps p.tables e below (T10.setTop (mkF m 33 #[.val (.ref a1), .val (.int p2)] [(.ref a1), (.ref a1)])) t → Steps p.tables e below (s₁.setTop (entryFrame m #[(.ref a1), (.int p2)] 2)) t := fun t k => pre11 t (by
      show Steps p.tables e below (T10.setTop (mkF m 16 #[.val (.ref a1), .val (.int p2)] [(.int (1 : Int32))])) t
      refine X10.ldcInt hx hown (mvT hZ (hw _ (List.mem_of_getElem? (i := 30) rfl))) (g := (mkF m 16 #[.val (.ref a1), .val (.int p2)] [(.int (1 : Int32))])) rfl (hb hby d5_16) _ ?_
      show Steps p.tables e below (T10.setTop (mkF m 18 #[.val (.ref a1), .val (.int p2)] [(.int (2147483639 : Int32)), (.int (1 : Int32))])) t
      refine XS.icmpYes X10.here hx rfl (pc0 := 18) (pc' := 31) rfl (hb hby d5_18) rfl (XT.ii_ne_t (show ¬ ((1 : Int32) = (2147483639 : Int32)) from by decide)) (by decide) (by decide) ?_
      show Steps p.tables e below (T10.setTop (mkF m 31 #[.val (.ref a1), .val (.int p2)] [])) t
      refine XS.aloadN X10.here hx rfl (hb hby d5_31) rfl rfl ?_
      show Steps p.tables e below (T10.setTop (mkF m 32 #[.val (.ref a1), .val (.int p2)] [(.ref a1)])) t
      refine XS.aloadN X10.here hx rfl (hb hby d5_32) rfl rfl ?_
      show Steps p.tables e below (T10.setTop (mkF m 33 #[.val (.ref a1), .val (.int p2)] [(.ref a1), (.ref a1)])) t
      exact k)
    obtain ⟨T14, X14, eh14, st14⟩ := getF X10 hx hZ hown (host := "") (Or.inl (hw _ (List.mem_of_getElem? (i := 17) rfl))) Via.refl eh10 F_values_a1 (g := (mkF m 33 #[.val (.ref a1), .val (.int p2)] [(.ref a1), (.ref a1)])) rfl rfl (hb hby d5_33)
    have pre15 : ∀ t, Steps p.tables e below (T14.setTop (mkF m 36 #[.val (.ref a1), .val (.int p2)] [(.ref ar), (.ref a1)])) t → Steps p.tables e below (s₁.setTop (entryFrame m #[(.ref a1), (.int p2)] 2)) t := fun t k => pre13 t (st14 _ k)
    have pre16 : ∀ t, Steps p.tables e below (T14.setTop (mkF m 40 #[.val (.ref a1), .val (.int p2)] [(.ref a1), (.long (2 : Int64)), (.ref ar), (.ref a1)])) t → Steps p.tables e below (s₁.setTop (entryFrame m #[(.ref a1), (.int p2)] 2)) t := fun t k => pre15 t (by
      show Steps p.tables e below (T14.setTop (mkF m 36 #[.val (.ref a1), .val (.int p2)] [(.ref ar), (.ref a1)])) t
      refine X14.ldc2Long hx hown (mvT hZ (hw _ (List.mem_of_getElem? (i := 31) rfl))) (g := (mkF m 36 #[.val (.ref a1), .val (.int p2)] [(.ref ar), (.ref a1)])) rfl (hb hby d5_36) _ ?_
      show Steps p.tables e below (T14.setTop (mkF m 39 #[.val (.ref a1), .val (.int p2)] [(.long (2 : Int64)), (.ref ar), (.ref a1)])) t
      refine XS.aloadN X14.here hx rfl (hb hby d5_39) rfl rfl ?_
      show Steps p.tables e below (T14.setTop (mkF m 40 #[.val (.ref a1), .val (.int p2)] [(.ref a1), (.long (2 : Int64)), (.ref ar), (.ref a1)])) t
      exact k)
    obtain ⟨T17, X17, eh17, st17⟩ := getF X14 hx hZ hown (host := "") (Or.inl (hw _ (List.mem_of_getElem? (i := 24) rfl))) Via.refl eh14 F_size_a1 (g := (mkF m 40 #[.val (.ref a1), .val (.int p2)] [(.ref a1), (.long (2 : Int64)), (.ref ar), (.ref a1)])) rfl rfl (hb hby d5_40)
    have pre18 : ∀ t, Steps p.tables e below (T17.setTop (mkF m 43 #[.val (.ref a1), .val (.int p2)] [(.int (1 : Int32)), (.long (2 : Int64)), (.ref ar), (.ref a1)])) t → Steps p.tables e below (s₁.setTop (entryFrame m #[(.ref a1), (.int p2)] 2)) t := fun t k => pre16 t (st17 _ k)
    have pre19 : ∀ t, Steps p.tables e below (T17.setTop (mkF m 48 #[.val (.ref a1), .val (.int p2)] [(.long (2147483639 : Int64)), (.long ((2 : Int64) * (1 : Int32).toInt64)), (.ref ar), (.ref a1)])) t → Steps p.tables e below (s₁.setTop (entryFrame m #[(.ref a1), (.int p2)] 2)) t := fun t k => pre18 t (by
      show Steps p.tables e below (T17.setTop (mkF m 43 #[.val (.ref a1), .val (.int p2)] [(.int (1 : Int32)), (.long (2 : Int64)), (.ref ar), (.ref a1)])) t
      refine XT.i2l X17.here hx rfl (hb hby d5_43) rfl ?_
      show Steps p.tables e below (T17.setTop (mkF m 44 #[.val (.ref a1), .val (.int p2)] [(.long (1 : Int32).toInt64), (.long (2 : Int64)), (.ref ar), (.ref a1)])) t
      refine XT.lmul X17.here hx rfl (hb hby d5_44) rfl ?_
      show Steps p.tables e below (T17.setTop (mkF m 45 #[.val (.ref a1), .val (.int p2)] [(.long ((2 : Int64) * (1 : Int32).toInt64)), (.ref ar), (.ref a1)])) t
      refine X17.ldc2Long hx hown (mvT hZ (hw _ (List.mem_of_getElem? (i := 32) rfl))) (g := (mkF m 45 #[.val (.ref a1), .val (.int p2)] [(.long ((2 : Int64) * (1 : Int32).toInt64)), (.ref ar), (.ref a1)])) rfl (hb hby d5_45) _ ?_
      show Steps p.tables e below (T17.setTop (mkF m 48 #[.val (.ref a1), .val (.int p2)] [(.long (2147483639 : Int64)), (.long ((2 : Int64) * (1 : Int32).toInt64)), (.ref ar), (.ref a1)])) t
      exact k)
    obtain ⟨_, _, ⟨T20, L20, k20, n20⟩, -, X20, ⟨Lc20, hQ20, l20, y20, z20⟩, st20⟩ := Jvm.LawKit.callS X17 hx (y := (⟨"java/lang/Math", "min", "(JJ)J"⟩ : MethodName)) hown (mvT hZ (hw _ (List.mem_of_getElem? (i := 33) rfl))) (mvT hZ (hw _ (List.mem_of_getElem? (i := 34) rfl))) (mvT hZ (hw _ (List.mem_of_getElem? (i := 2) rfl))) (mvT hZ (hw _ (List.mem_of_getElem? (i := 35) rfl))) (by decide) (backOf (W := 2) (rm7 l Z a0 hw [] ((2 : Int64) * (1 : Int32).toInt64) (2147483639 : Int64) h0 n0 Z0 ) hZ (hw _ (List.mem_of_getElem? (i := 35) rfl)) (hw _ (List.mem_of_getElem? (i := 2) rfl)) (by decide) (by decide)) (g := (mkF m 48 #[.val (.ref a1), .val (.int p2)] [(.long (2147483639 : Int64)), (.long ((2 : Int64) * (1 : Int32).toInt64)), (.ref ar), (.ref a1)])) rfl (by rw [hml]; rfl) (argsL := [(.long ((2 : Int64) * (1 : Int32).toInt64)), (.long (2147483639 : Int64))]) (rest := [(.ref ar), (.ref a1)]) (lenOf pd_oJJcJ rfl) rfl (by show 2 * 0 + _ ≤ _; exact Nat.le_of_eq rfl) (hb hby d5_48) (fun _ _ => ⟨rfl, eh17, (by decide : 0 + 0 ≤ _), (by decide : 0 + 0 ≤ _)⟩)
    dsimp only [Pt.U, Pt.locs, Pt.cells, Pt.slots] at X20 l20 y20 z20 st20 hQ20
    subst l20 y20 z20
    obtain ⟨rfl, N20q, eh20⟩ := hQ20
    have N20 := Fr.app N0 N20q
    have pre21 : ∀ t, Steps p.tables e below (T20.setTop (mkF m 51 #[.val (.ref a1), .val (.int p2)] [(.long (own_minJ ((2 : Int64) * (1 : Int32).toInt64) (2147483639 : Int64))), (.ref ar), (.ref a1)])) t → Steps p.tables e below (s₁.setTop (entryFrame m #[(.ref a1), (.int p2)] 2)) t := fun t k => pre19 t (st20 _ k)
    have pre22 : ∀ t, Steps p.tables e below (T20.setTop (mkF m 52 #[.val (.ref a1), .val (.int p2)] [(.int (own_minJ ((2 : Int64) * (1 : Int32).toInt64) (2147483639 : Int64)).toInt32), (.ref ar), (.ref a1)])) t → Steps p.tables e below (s₁.setTop (entryFrame m #[(.ref a1), (.int p2)] 2)) t := fun t k => pre21 t (by
      show Steps p.tables e below (T20.setTop (mkF m 51 #[.val (.ref a1), .val (.int p2)] [(.long (own_minJ ((2 : Int64) * (1 : Int32).toInt64) (2147483639 : Int64))), (.ref ar), (.ref a1)])) t
      refine XT.l2i X20.here hx rfl (hb hby d5_51) rfl ?_
      show Steps p.tables e below (T20.setTop (mkF m 52 #[.val (.ref a1), .val (.int p2)] [(.int (own_minJ ((2 : Int64) * (1 : Int32).toInt64) (2147483639 : Int64)).toInt32), (.ref ar), (.ref a1)])) t
      exact k)
    have hl23 : (own_minJ ((2 : Int64) * (1 : Int32).toInt64) (2147483639 : Int64)).toInt32 = (2 : Int32) := by decide
    rw [hl23] at pre22
    obtain ⟨_, _, ⟨T24, L24, k24, n24⟩, -, X24, ⟨Lc24, hQ24, l24, y24, z24⟩, st24⟩ := Jvm.LawKit.callS X20 hx (y := (⟨"java/util/Arrays", "copyOf", "([II)[I"⟩ : MethodName)) hown (mvT hZ (hw _ (List.mem_of_getElem? (i := 36) rfl))) (mvT hZ (hw _ (List.mem_of_getElem? (i := 37) rfl))) (mvT hZ (hw _ (List.mem_of_getElem? (i := 38) rfl))) (mvT hZ (hw _ (List.mem_of_getElem? (i := 39) rfl))) (by decide) (backOf (W := 1) (rmCP1 l Z a0 hw [] ar kk x0 h0 n0 Z0 V_arL) hZ (hw _ (List.mem_of_getElem? (i := 39) rfl)) (hw _ (List.mem_of_getElem? (i := 38) rfl)) (by decide) (by decide)) (g := (mkF m 52 #[.val (.ref a1), .val (.int p2)] [(.int (2 : Int32)), (.ref ar), (.ref a1)])) rfl (by rw [hml]; rfl) (argsL := [(.ref ar), (.int (2 : Int32))]) (rest := [(.ref a1)]) (lenOf pd_oaIIcaI rfl) rfl (by show 2 * 0 + _ ≤ _; exact Nat.le_of_eq rfl) (hb hby d5_52) (fun _ _ => ⟨rfl, eh20, (by decide : 0 + 1 ≤ _), (by decide : 0 + 2 ≤ _)⟩)
    dsimp only [Pt.U, Pt.locs, Pt.cells, Pt.slots] at X24 l24 y24 z24 st24 hQ24
    subst l24 y24 z24
    obtain ⟨bb_24, kn_24, rfl, N24q, Kq24, P24_1, P24_2⟩ := hQ24
    have E_a1__24 : Exa Z T24.heap a1 "com/example/interlace/interlace/core/IntColumn" := E_a1.keep Kq24
    have F_values_a1__24 : Fld Z T24.heap a1 "com/example/interlace/interlace/core/IntColumn" "values" "[I" (.ref ar) := F_values_a1.keep Kq24 nin0
    have F_size_a1__24 : Fld Z T24.heap a1 "com/example/interlace/interlace/core/IntColumn" "size" "I" (.int (1 : Int32)) := F_size_a1.keep Kq24 nin0
    have V_arL__24 : Arv Z T24.heap ar kk .int (1 : Int32) [(.int x0), (.int (0 : Int32)), (.int (0 : Int32)), (.int (0 : Int32))] (.int (0 : Int32)) := V_arL.keep Kq24 nin0
    have bo_bb_24 : h0.size ≤ bb_24 := Nat.le_trans K0.1 P24_1
    have ne_a1_bb_24 : a1 ≠ bb_24 := Nat.ne_of_lt (Nat.lt_of_lt_of_le E_a1.lt P24_1)
    have ne_ar_bb_24 : ar ≠ bb_24 := Nat.ne_of_lt (Nat.lt_of_lt_of_le V_arL.lt P24_1)
    have g_bb_24 : n0 ≤ bb_24 := Nat.le_trans Z0 P24_1
    have sz24 : n0 ≤ T24.heap.size := Nat.le_trans Z0 Kq24.1
    have K24 : Keep h0 T24.heap [a1, ar] := K0.trans Kq24 all0
    have N24 := Fr.app N20 N24q
    have pre25 : ∀ t, Steps p.tables e below (T24.setTop (mkF m 55 #[.val (.ref a1), .val (.int p2)] [(.ref bb_24), (.ref a1)])) t → Steps p.tables e below (s₁.setTop (entryFrame m #[(.ref a1), (.int p2)] 2)) t := fun t k => pre22 t (st24 _ k)
    obtain ⟨T26, h26, X26, eh26, W26, st26⟩ := putF X24 hx hZ hown (host := "") (Or.inl (hw _ (List.mem_of_getElem? (i := 17) rfl))) Via.refl rfl F_values_a1__24 E_a1__24 (Or.inl (hw _ (List.mem_of_getElem? (i := 18) rfl))) (hw _ (List.mem_of_getElem? (i := 8) rfl)) (ty := (.array .int)) (by decide) rfl rfl (g := (mkF m 55 #[.val (.ref a1), .val (.int p2)] [(.ref bb_24), (.ref a1)])) rfl rfl (hb hby d5_55)
    have E_a1__26 : Exa Z h26 a1 "com/example/interlace/interlace/core/IntColumn" := E_a1__24.wr W26
    have F_size_a1__26 : Fld Z h26 a1 "com/example/interlace/interlace/core/IntColumn" "size" "I" (.int (1 : Int32)) := F_size_a1__24.other W26 (Or.inr (slot_ne (Or.inl (hw _ (List.mem_of_getElem? (i := 25) rfl))) (Or.inl (hw _ (List.mem_of_getElem? (i := 18) rfl))) (by decide) (t := .int) (t' := (.array .int)) (by decide) (by decide)))
    have V_arL__26 : Arv Z h26 ar kk .int (1 : Int32) [(.int x0), (.int (0 : Int32)), (.int (0 : Int32)), (.int (0 : Int32))] (.int (0 : Int32)) := V_arL__24.other W26 (Ne.symm ne_a1_ar)
    have P24_2__26 : Arv Z h26 bb_24 kn_24 .int (2 : Int32) [(.int x0), (.int (0 : Int32)), (.int (0 : Int32)), (.int (0 : Int32))] (.int (0 : Int32)) := P24_2.other W26 (Ne.symm ne_a1_bb_24)
    have sz26 : n0 ≤ h26.size := Nat.le_trans sz24 (Keep.of_wr W26).1
    have K26 : Keep h0 h26 [a1, ar] := K24.wr W26 (Or.inl (List.mem_of_getElem? (i := 0) rfl))
    have N26 := Fr.snoc X26 N24 g_a1
    have F_values_a1__26 : Fld Z h26 a1 "com/example/interlace/interlace/core/IntColumn" "values" "[I" (.ref bb_24) := F_values_a1__24.same W26
    have pre27 : ∀ t, Steps p.tables e below (T26.setTop (mkF m 58 #[.val (.ref a1), .val (.int p2)] [])) t → Steps p.tables e below (s₁.setTop (entryFrame m #[(.ref a1), (.int p2)] 2)) t := fun t k => pre25 t (st26 _ k)
    have pre28 : ∀ t, Steps p.tables e below (T26.setTop (mkF m 59 #[.val (.ref a1), .val (.int p2)] [(.ref a1)])) t → Steps p.tables e below (s₁.setTop (entryFrame m #[(.ref a1), (.int p2)] 2)) t := fun t k => pre27 t (by
      show Steps p.tables e below (T26.setTop (mkF m 58 #[.val (.ref a1), .val (.int p2)] [])) t
      refine XS.aloadN X26.here hx rfl (hb hby d5_58) rfl rfl ?_
      show Steps p.tables e below (T26.setTop (mkF m 59 #[.val (.ref a1), .val (.int p2)] [(.ref a1)])) t
      exact k)
    obtain ⟨T29, X29, eh29, st29⟩ := getF X26 hx hZ hown (host := "") (Or.inl (hw _ (List.mem_of_getElem? (i := 17) rfl))) Via.refl eh26 F_values_a1__26 (g := (mkF m 59 #[.val (.ref a1), .val (.int p2)] [(.ref a1)])) rfl rfl (hb hby d5_59)
    have pre30 : ∀ t, Steps p.tables e below (T29.setTop (mkF m 62 #[.val (.ref a1), .val (.int p2)] [(.ref bb_24)])) t → Steps p.tables e below (s₁.setTop (entryFrame m #[(.ref a1), (.int p2)] 2)) t := fun t k => pre28 t (st29 _ k)
    have pre31 : ∀ t, Steps p.tables e below (T29.setTop (mkF m 64 #[.val (.ref a1), .val (.int p2)] [(.ref a1), (.ref a1), (.ref bb_24)])) t → Steps p.tables e below (s₁.setTop (entryFrame m #[(.ref a1), (.int p2)] 2)) t := fun t k => pre30 t (by
      show Steps p.tables e below (T29.setTop (mkF m 62 #[.val (.ref a1), .val (.int p2)] [(.ref bb_24)])) t
      refine XS.aloadN X29.here hx rfl (hb hby d5_62) rfl rfl ?_
      show Steps p.tables e below (T29.setTop (mkF m 63 #[.val (.ref a1), .val (.int p2)] [(.ref a1), (.ref bb_24)])) t
      refine XS.dup X29.here hx rfl (hb hby d5_63) rfl rfl ?_
      show Steps p.tables e below (T29.setTop (mkF m 64 #[.val (.ref a1), .val (.int p2)] [(.ref a1), (.ref a1), (.ref bb_24)])) t
      exact k)
    obtain ⟨T32, X32, eh32, st32⟩ := getF X29 hx hZ hown (host := "") (Or.inl (hw _ (List.mem_of_getElem? (i := 24) rfl))) Via.refl eh29 F_size_a1__26 (g := (mkF m 64 #[.val (.ref a1), .val (.int p2)] [(.ref a1), (.ref a1), (.ref bb_24)])) rfl rfl (hb hby d5_64)
    have pre33 : ∀ t, Steps p.tables e below (T32.setTop (mkF m 67 #[.val (.ref a1), .val (.int p2)] [(.int (1 : Int32)), (.ref a1), (.ref bb_24)])) t → Steps p.tables e below (s₁.setTop (entryFrame m #[(.ref a1), (.int p2)] 2)) t := fun t k => pre31 t (st32 _ k)
    have pre34 : ∀ t, Steps p.tables e below (T32.setTop (mkF m 70 #[.val (.ref a1), .val (.int p2)] [(.int (2 : Int32)), (.ref a1), (.int (1 : Int32)), (.ref bb_24)])) t → Steps p.tables e below (s₁.setTop (entryFrame m #[(.ref a1), (.int p2)] 2)) t := fun t k => pre33 t (by
      show Steps p.tables e below (T32.setTop (mkF m 67 #[.val (.ref a1), .val (.int p2)] [(.int (1 : Int32)), (.ref a1), (.ref bb_24)])) t
      refine XT.dupX1 X32.here hx rfl (hb hby d5_67) rfl rfl rfl ?_
      show Steps p.tables e below (T32.setTop (mkF m 68 #[.val (.ref a1), .val (.int p2)] [(.int (1 : Int32)), (.ref a1), (.int (1 : Int32)), (.ref bb_24)])) t
      refine XS.iconst X32.here hx rfl (hb hby d5_68) ?_
      show Steps p.tables e below (T32.setTop (mkF m 69 #[.val (.ref a1), .val (.int p2)] [(.int (1 : Int32)), (.int (1 : Int32)), (.ref a1), (.int (1 : Int32)), (.ref bb_24)])) t
      refine XS.iadd X32.here hx rfl (hb hby d5_69) rfl ?_
      show Steps p.tables e below (T32.setTop (mkF m 70 #[.val (.ref a1), .val (.int p2)] [(.int (2 : Int32)), (.ref a1), (.int (1 : Int32)), (.ref bb_24)])) t
      exact k)
    obtain ⟨T35, h35, X35, eh35, W35, st35⟩ := putF X32 hx hZ hown (host := "") (Or.inl (hw _ (List.mem_of_getElem? (i := 24) rfl))) Via.refl eh32 F_size_a1__26 E_a1__26 (Or.inl (hw _ (List.mem_of_getElem? (i := 25) rfl))) (hw _ (List.mem_of_getElem? (i := 8) rfl)) (ty := .int) (by decide) rfl rfl (g := (mkF m 70 #[.val (.ref a1), .val (.int p2)] [(.int (2 : Int32)), (.ref a1), (.int (1 : Int32)), (.ref bb_24)])) rfl rfl (hb hby d5_70)
    have E_a1__35 : Exa Z h35 a1 "com/example/interlace/interlace/core/IntColumn" := E_a1__26.wr W35
    have F_values_a1__35 : Fld Z h35 a1 "com/example/interlace/interlace/core/IntColumn" "values" "[I" (.ref bb_24) := F_values_a1__26.other W35 (Or.inr (slot_ne (Or.inl (hw _ (List.mem_of_getElem? (i := 18) rfl))) (Or.inl (hw _ (List.mem_of_getElem? (i := 25) rfl))) (by decide) (t := (.array .int)) (t' := .int) (by decide) (by decide)))
    have V_arL__35 : Arv Z h35 ar kk .int (1 : Int32) [(.int x0), (.int (0 : Int32)), (.int (0 : Int32)), (.int (0 : Int32))] (.int (0 : Int32)) := V_arL__26.other W35 (Ne.symm ne_a1_ar)
    have P24_2__35 : Arv Z h35 bb_24 kn_24 .int (2 : Int32) [(.int x0), (.int (0 : Int32)), (.int (0 : Int32)), (.int (0 : Int32))] (.int (0 : Int32)) := P24_2__26.other W35 (Ne.symm ne_a1_bb_24)
    have sz35 : n0 ≤ h35.size := Nat.le_trans sz26 (Keep.of_wr W35).1
    have K35 : Keep h0 h35 [a1, ar] := K26.wr W35 (Or.inl (List.mem_of_getElem? (i := 0) rfl))
    have N35 := Fr.snoc X35 N26 g_a1
    have F_size_a1__35 : Fld Z h35 a1 "com/example/interlace/interlace/core/IntColumn" "size" "I" (.int (2 : Int32)) := F_size_a1__26.same W35
    have pre36 : ∀ t, Steps p.tables e below (T35.setTop (mkF m 73 #[.val (.ref a1), .val (.int p2)] [(.int (1 : Int32)), (.ref bb_24)])) t → Steps p.tables e below (s₁.setTop (entryFrame m #[(.ref a1), (.int p2)] 2)) t := fun t k => pre34 t (st35 _ k)
    have pre37 : ∀ t, Steps p.tables e below (T35.setTop (mkF m 74 #[.val (.ref a1), .val (.int p2)] [(.int p2), (.int (1 : Int32)), (.ref bb_24)])) t → Steps p.tables e below (s₁.setTop (entryFrame m #[(.ref a1), (.int p2)] 2)) t := fun t k => pre36 t (by
      show Steps p.tables e below (T35.setTop (mkF m 73 #[.val (.ref a1), .val (.int p2)] [(.int (1 : Int32)), (.ref bb_24)])) t
      refine XS.iloadN X35.here hx rfl (hb hby d5_73) rfl ?_
      show Steps p.tables e below (T35.setTop (mkF m 74 #[.val (.ref a1), .val (.int p2)] [(.int p2), (.int (1 : Int32)), (.ref bb_24)])) t
      exact k)
    obtain ⟨cl38, Ar38, q38, S38, N38q, H38, G38⟩ := P24_2__35
    have hin38 : ¬ ((1 : Int32) < 0 ∨ cl38.slots.size ≤ ((1 : Int32)).toNatClampNeg) := inb_of S38 ⟨by decide, by decide⟩
    obtain ⟨T38, h38, X38, eh38, W38, st38⟩ := stI X35 hx hZ eh35 Ar38 (j := (1 : Int32)) hin38 (g := (mkF m 74 #[.val (.ref a1), .val (.int p2)] [(.int p2), (.int (1 : Int32)), (.ref bb_24)])) rfl rfl (hb hby d5_74)
    have E_a1__38 : Exa Z h38 a1 "com/example/interlace/interlace/core/IntColumn" := E_a1__35.wr W38
    have F_values_a1__38 : Fld Z h38 a1 "com/example/interlace/interlace/core/IntColumn" "values" "[I" (.ref bb_24) := F_values_a1__35.other W38 (Or.inl ne_a1_bb_24)
    have F_size_a1__38 : Fld Z h38 a1 "com/example/interlace/interlace/core/IntColumn" "size" "I" (.int (2 : Int32)) := F_size_a1__35.other W38 (Or.inl ne_a1_bb_24)
    have V_arL__38 : Arv Z h38 ar kk .int (1 : Int32) [(.int x0), (.int (0 : Int32)), (.int (0 : Int32)), (.int (0 : Int32))] (.int (0 : Int32)) := V_arL__35.other W38 ne_ar_bb_24
    have sz38 : n0 ≤ h38.size := Nat.le_trans sz35 (Keep.of_wr W38).1
    have K38 : Keep h0 h38 [a1, ar] := K35.wr W38 (Or.inr bo_bb_24)
    have N38 := Fr.snoc X38 N35 g_bb_24
    have V_bb_24__38 : Arv Z h38 bb_24 kn_24 .int (2 : Int32) [(.int x0), (.int p2), (.int (0 : Int32)), (.int (0 : Int32))] (.int (0 : Int32)) := Arv.set Ar38 q38 S38 N38q H38 G38 rfl W38 1 rfl (Nat.le_of_ble_eq_true rfl)
    have pre39 : ∀ t, Steps p.tables e below (T38.setTop (mkF m 75 #[.val (.ref a1), .val (.int p2)] [])) t → Steps p.tables e below (s₁.setTop (entryFrame m #[(.ref a1), (.int p2)] 2)) t := fun t k => pre37 t (st38 _ k)
    obtain ⟨fs, hr, hrun, hended, hW, hsame⟩ := X38.leave (v := none) (fun _ => rfl)
    refine ⟨_, _, pre39 _ ?_, hrun, hended, _, _, rfl, ?_, ⟨_, rfl⟩, hW, hsame.mono (by decide) (by decide)⟩
    · show Steps p.tables e below (T38.setTop (mkF m 75 #[.val (.ref a1), .val (.int p2)] [])) _
      exact X38.returnOut hx Bd.returns (hb hby d5_75) hr
    · show QAD1 Z a1 p2 ar kk cap x0 h0 n0 _ T38.heap _
      rw [eh38]
      exact ⟨bb_24, kn_24, (2 : Int32), rfl, N38, K38, E_a1__38, F_values_a1__38, F_size_a1__38, V_bb_24__38, g_bb_24, ne_a1_bb_24, (by decide), (by decide)⟩
  · skip
    have pre40 : ∀ t, Steps p.tables e below (T5.setTop (mkF m 59 #[.val (.ref a1), .val (.int p2)] [(.ref a1)])) t → Steps p.tables e below (s₁.setTop (entryFrame m #[(.ref a1), (.int p2)] 2)) t := fun t k => pre8 t (by
      show Steps p.tables e below (T5.setTop (mkF m 9 #[.val (.ref a1), .val (.int p2)] [(.int cap), (.int (1 : Int32))])) t
      refine XS.icmpYes X5.here hx rfl (pc0 := 9) (pc' := 58) rfl (hb hby d5_9) rfl (XT.ii_ne_t hc9_7) (by decide) (by decide) ?_
      show Steps p.tables e below (T5.setTop (mkF m 58 #[.val (.ref a1), .val (.int p2)] [])) t
      refine XS.aloadN X5.here hx rfl (hb hby d5_58) rfl rfl ?_
      show Steps p.tables e below (T5.setTop (mkF m 59 #[.val (.ref a1), .val (.int p2)] [(.ref a1)])) t
      exact k)
    obtain ⟨T41, X41, eh41, st41⟩ := getF X5 hx hZ hown (host := "") (Or.inl (hw _ (List.mem_of_getElem? (i := 17) rfl))) Via.refl eh5 F_values_a1 (g := (mkF m 59 #[.val (.ref a1), .val (.int p2)] [(.ref a1)])) rfl rfl (hb hby d5_59)
    have pre42 : ∀ t, Steps p.tables e below (T41.setTop (mkF m 62 #[.val (.ref a1), .val (.int p2)] [(.ref ar)])) t → Steps p.tables e below (s₁.setTop (entryFrame m #[(.ref a1), (.int p2)] 2)) t := fun t k => pre40 t (st41 _ k)
    have pre43 : ∀ t, Steps p.tables e below (T41.setTop (mkF m 64 #[.val (.ref a1), .val (.int p2)] [(.ref a1), (.ref a1), (.ref ar)])) t → Steps p.tables e below (s₁.setTop (entryFrame m #[(.ref a1), (.int p2)] 2)) t := fun t k => pre42 t (by
      show Steps p.tables e below (T41.setTop (mkF m 62 #[.val (.ref a1), .val (.int p2)] [(.ref ar)])) t
      refine XS.aloadN X41.here hx rfl (hb hby d5_62) rfl rfl ?_
      show Steps p.tables e below (T41.setTop (mkF m 63 #[.val (.ref a1), .val (.int p2)] [(.ref a1), (.ref ar)])) t
      refine XS.dup X41.here hx rfl (hb hby d5_63) rfl rfl ?_
      show Steps p.tables e below (T41.setTop (mkF m 64 #[.val (.ref a1), .val (.int p2)] [(.ref a1), (.ref a1), (.ref ar)])) t
      exact k)
    obtain ⟨T44, X44, eh44, st44⟩ := getF X41 hx hZ hown (host := "") (Or.inl (hw _ (List.mem_of_getElem? (i := 24) rfl))) Via.refl eh41 F_size_a1 (g := (mkF m 64 #[.val (.ref a1), .val (.int p2)] [(.ref a1), (.ref a1), (.ref ar)])) rfl rfl (hb hby d5_64)
    have pre45 : ∀ t, Steps p.tables e below (T44.setTop (mkF m 67 #[.val (.ref a1), .val (.int p2)] [(.int (1 : Int32)), (.ref a1), (.ref ar)])) t → Steps p.tables e below (s₁.setTop (entryFrame m #[(.ref a1), (.int p2)] 2)) t := fun t k => pre43 t (st44 _ k)
    have pre46 : ∀ t, Steps p.tables e below (T44.setTop (mkF m 70 #[.val (.ref a1), .val (.int p2)] [(.int (2 : Int32)), (.ref a1), (.int (1 : Int32)), (.ref ar)])) t → Steps p.tables e below (s₁.setTop (entryFrame m #[(.ref a1), (.int p2)] 2)) t := fun t k => pre45 t (by
      show Steps p.tables e below (T44.setTop (mkF m 67 #[.val (.ref a1), .val (.int p2)] [(.int (1 : Int32)), (.ref a1), (.ref ar)])) t
      refine XT.dupX1 X44.here hx rfl (hb hby d5_67) rfl rfl rfl ?_
      show Steps p.tables e below (T44.setTop (mkF m 68 #[.val (.ref a1), .val (.int p2)] [(.int (1 : Int32)), (.ref a1), (.int (1 : Int32)), (.ref ar)])) t
      refine XS.iconst X44.here hx rfl (hb hby d5_68) ?_
      show Steps p.tables e below (T44.setTop (mkF m 69 #[.val (.ref a1), .val (.int p2)] [(.int (1 : Int32)), (.int (1 : Int32)), (.ref a1), (.int (1 : Int32)), (.ref ar)])) t
      refine XS.iadd X44.here hx rfl (hb hby d5_69) rfl ?_
      show Steps p.tables e below (T44.setTop (mkF m 70 #[.val (.ref a1), .val (.int p2)] [(.int (2 : Int32)), (.ref a1), (.int (1 : Int32)), (.ref ar)])) t
      exact k)
    obtain ⟨T47, h47, X47, eh47, W47, st47⟩ := putF X44 hx hZ hown (host := "") (Or.inl (hw _ (List.mem_of_getElem? (i := 24) rfl))) Via.refl eh44 F_size_a1 E_a1 (Or.inl (hw _ (List.mem_of_getElem? (i := 25) rfl))) (hw _ (List.mem_of_getElem? (i := 8) rfl)) (ty := .int) (by decide) rfl rfl (g := (mkF m 70 #[.val (.ref a1), .val (.int p2)] [(.int (2 : Int32)), (.ref a1), (.int (1 : Int32)), (.ref ar)])) rfl rfl (hb hby d5_70)
    have E_a1__47 : Exa Z h47 a1 "com/example/interlace/interlace/core/IntColumn" := E_a1.wr W47
    have F_values_a1__47 : Fld Z h47 a1 "com/example/interlace/interlace/core/IntColumn" "values" "[I" (.ref ar) := F_values_a1.other W47 (Or.inr (slot_ne (Or.inl (hw _ (List.mem_of_getElem? (i := 18) rfl))) (Or.inl (hw _ (List.mem_of_getElem? (i := 25) rfl))) (by decide) (t := (.array .int)) (t' := .int) (by decide) (by decide)))
    have V_ar__47 : Arv Z h47 ar kk .int cap [(.int x0), (.int (0 : Int32)), (.int (0 : Int32)), (.int (0 : Int32))] (.int (0 : Int32)) := V_ar.other W47 (Ne.symm ne_a1_ar)
    have sz47 : n0 ≤ h47.size := Nat.le_trans Z0 (Keep.of_wr W47).1
    have K47 : Keep h0 h47 [a1, ar] := K0.wr W47 (Or.inl (List.mem_of_getElem? (i := 0) rfl))
    have N47 := Fr.snoc X47 N0 g_a1
    have F_size_a1__47 : Fld Z h47 a1 "com/example/interlace/interlace/core/IntColumn" "size" "I" (.int (2 : Int32)) := F_size_a1.same W47
    have pre48 : ∀ t, Steps p.tables e below (T47.setTop (mkF m 73 #[.val (.ref a1), .val (.int p2)] [(.int (1 : Int32)), (.ref ar)])) t → Steps p.tables e below (s₁.setTop (entryFrame m #[(.ref a1), (.int p2)] 2)) t := fun t k => pre46 t (st47 _ k)
    have pre49 : ∀ t, Steps p.tables e below (T47.setTop (mkF m 74 #[.val (.ref a1), .val (.int p2)] [(.int p2), (.int (1 : Int32)), (.ref ar)])) t → Steps p.tables e below (s₁.setTop (entryFrame m #[(.ref a1), (.int p2)] 2)) t := fun t k => pre48 t (by
      show Steps p.tables e below (T47.setTop (mkF m 73 #[.val (.ref a1), .val (.int p2)] [(.int (1 : Int32)), (.ref ar)])) t
      refine XS.iloadN X47.here hx rfl (hb hby d5_73) rfl ?_
      show Steps p.tables e below (T47.setTop (mkF m 74 #[.val (.ref a1), .val (.int p2)] [(.int p2), (.int (1 : Int32)), (.ref ar)])) t
      exact k)
    obtain ⟨cl50, Ar50, q50, S50, N50q, H50, G50⟩ := V_ar__47
    have hin50 : ¬ ((1 : Int32) < 0 ∨ cl50.slots.size ≤ ((1 : Int32)).toNatClampNeg) := inb_of S50 ⟨by decide, own_lt _ hcap (by assumption)⟩
    obtain ⟨T50, h50, X50, eh50, W50, st50⟩ := stI X47 hx hZ eh47 Ar50 (j := (1 : Int32)) hin50 (g := (mkF m 74 #[.val (.ref a1), .val (.int p2)] [(.int p2), (.int (1 : Int32)), (.ref ar)])) rfl rfl (hb hby d5_74)
    have E_a1__50 : Exa Z h50 a1 "com/example/interlace/interlace/core/IntColumn" := E_a1__47.wr W50
    have F_values_a1__50 : Fld Z h50 a1 "com/example/interlace/interlace/core/IntColumn" "values" "[I" (.ref ar) := F_values_a1__47.other W50 (Or.inl ne_a1_ar)
    have F_size_a1__50 : Fld Z h50 a1 "com/example/interlace/interlace/core/IntColumn" "size" "I" (.int (2 : Int32)) := F_size_a1__47.other W50 (Or.inl ne_a1_ar)
    have sz50 : n0 ≤ h50.size := Nat.le_trans sz47 (Keep.of_wr W50).1
    have K50 : Keep h0 h50 [a1, ar] := K47.wr W50 (Or.inl (List.mem_of_getElem? (i := 1) rfl))
    have N50 := Fr.snoc X50 N47 g_ar
    have V_ar__50 : Arv Z h50 ar kk .int cap [(.int x0), (.int p2), (.int (0 : Int32)), (.int (0 : Int32))] (.int (0 : Int32)) := Arv.set Ar50 q50 S50 N50q H50 G50 rfl W50 1 rfl (Nat.le_of_ble_eq_true rfl)
    have pre51 : ∀ t, Steps p.tables e below (T50.setTop (mkF m 75 #[.val (.ref a1), .val (.int p2)] [])) t → Steps p.tables e below (s₁.setTop (entryFrame m #[(.ref a1), (.int p2)] 2)) t := fun t k => pre49 t (st50 _ k)
    obtain ⟨fs, hr, hrun, hended, hW, hsame⟩ := X50.leave (v := none) (fun _ => rfl)
    refine ⟨_, _, pre51 _ ?_, hrun, hended, _, _, rfl, ?_, ⟨_, rfl⟩, hW, hsame.mono (by decide) (by decide)⟩
    · show Steps p.tables e below (T50.setTop (mkF m 75 #[.val (.ref a1), .val (.int p2)] [])) _
      exact X50.returnOut hx Bd.returns (hb hby d5_75) hr
    · show QAD1 Z a1 p2 ar kk cap x0 h0 n0 _ T50.heap _
      rw [eh50]
      exact ⟨ar, kk, cap, rfl, N50, K50, E_a1__50, F_values_a1__50, F_size_a1__50, V_ar__50, g_ar, ne_a1_ar, (own_up (own_lt (1 : Int32) hcap (by assumption)) (by decide)), hc1⟩
theorem ef_AD2 (m : MethodId) (a1 : Addr) (p2 : Int32) : entryFrame m #[(.ref a1), (.int p2)] 2 = mkF m 0 #[.val (.ref a1), .val (.int p2)] [] := by first | (simp [entryFrame, mkF, argsToLocals, Value.category]; done) | rfl
def QAD2 (Z : State) (a1 : Addr) (p2 : Int32) (ar : Addr) (kk : ClassId) (cap : Int32) (x0 : Int32) (x1 : Int32) (h0 : Heap) (n0 : Nat) (v : Option Value) (h : Heap) (L : List Loc) : Prop := ∃ ar2 : Addr, ∃ kk2 : ClassId, ∃ cap2 : Int32, v = none ∧ Fr n0 L ∧ Keep h0 h [a1, ar] ∧ Exa Z h a1 "com/example/interlace/interlace/core/IntColumn" ∧ Fld Z h a1 "com/example/interlace/interlace/core/IntColumn" "values" "[I" (.ref ar2) ∧ Fld Z h a1 "com/example/interlace/interlace/core/IntColumn" "size" "I" (.int (3 : Int32)) ∧ Arv Z h ar2 kk2 .int cap2 [(.int x0), (.int x1), (.int p2), (.int (0 : Int32))] (.int (0 : Int32)) ∧ n0 ≤ ar2 ∧ a1 ≠ ar2 ∧ ¬ cap2 < (3 : Int32) ∧ ¬ cap2 < (1 : Int32)
set_option maxRecDepth 65536 in
set_option maxHeartbeats 40000000 in
theorem rmAD2 (l : Launch) (Z : State) (a0 : Array Value) (hw : ∀ d ∈ tables_1, d.before a0 Z = true) (ws : List Jvm.Cond) (a1 : Addr) (p2 : Int32) (ar : Addr) (kk : ClassId) (cap : Int32) (x0 : Int32) (x1 : Int32) (h0 : Heap) (n0 : Nat) (Z0 : n0 ≤ h0.size) (E_a1 : Exa Z h0 a1 "com/example/interlace/interlace/core/IntColumn") (F_values_a1 : Fld Z h0 a1 "com/example/interlace/interlace/core/IntColumn" "values" "[I" (.ref ar)) (F_size_a1 : Fld Z h0 a1 "com/example/interlace/interlace/core/IntColumn" "size" "I" (.int (2 : Int32))) (V_ar : Arv Z h0 ar kk .int cap [(.int x0), (.int x1), (.int (0 : Int32)), (.int (0 : Int32))] (.int (0 : Int32))) (g_a1 : n0 ≤ a1) (g_ar : n0 ≤ ar) (ne_a1_ar : a1 ≠ ar) (hcap : ¬ cap < (2 : Int32)) (hc1 : ¬ cap < (1 : Int32)) :
    MetFree l (⟨"com/example/interlace/interlace/core/IntColumn", "add", "(I)V"⟩ : MethodName) (head1 (Jvm.Cond.code (⟨"com/example/interlace/interlace/core/IntColumn", "add", "(I)V"⟩ : MethodName) prog_78_method_3_code 2 none :: ws) ({ frames := 2, cells := 1, slots := 4, locals := 33 } : Room)) (fun a U => a = #[(.ref a1), (.int p2)] ∧ Z.Warmed39 U.vm ∧ U.heap = h0) (fun _ _ _ _ _ => True) (fun _ U o U' => ∃ v L, o = .returned v ∧ QAD2 Z a1 p2 ar kk cap x0 x1 h0 n0 v U'.heap L ∧ FrameEnd U o U' L ({ frames := 2, cells := 1, slots := 4, locals := 33 } : Room).cells ({ frames := 2, cells := 1, slots := 4, locals := 33 } : Room).slots) := by
  refine MetFree.of_bodySF (plainFor_of_name pn_com_example_interlace_interlace_core_IntColumn) hisR ?_
  intro p e s m args below meth c s₁ Bd hml0 hP hK
  obtain ⟨rfl, hZ, hh⟩ := hP
  have hx := Bd.exec
  have hby := Bd.bytes
  have hml : c.maxLocals = 2 := hml0
  have hown : s.vm.findClass "com/example/interlace/interlace/core/IntColumn" = some m.cls := findClass_of_methodNamed Bd.named
  have hnm := (name_of_methodNamed Bd.named Bd.method).1
  have X0 : Stand p l e ({ frames := 2, cells := 1, slots := 4, locals := 33 } : Room) s m #[(.ref a1), (.int p2)] below meth c s₁ [] 0 0 := Stand.of_body Bd
  have eh0 : s₁.heap = h0 := by rw [← hh, Bd.state]; rfl
  have N0 := Fr.nil n0
  have pre0 : ∀ t, Steps p.tables e below (s₁.setTop (mkF m 0 #[.val (.ref a1), .val (.int p2)] [])) t → Steps p.tables e below (s₁.setTop (entryFrame m #[(.ref a1), (.int p2)] 2)) t := fun t k => castTop (ef_AD2 m a1 p2) k
  have K0 : Keep h0 h0 [a1, ar] := Keep.refl _ _
  have pre1 : ∀ t, Steps p.tables e below (s₁.setTop (mkF m 1 #[.val (.ref a1), .val (.int p2)] [(.ref a1)])) t → Steps p.tables e below (s₁.setTop (entryFrame m #[(.ref a1), (.int p2)] 2)) t := fun t k => pre0 t (by
    show Steps p.tables e below (s₁.setTop (mkF m 0 #[.val (.ref a1), .val (.int p2)] [])) t
    refine XS.aloadN X0.here hx rfl (hb hby d5_0) rfl rfl ?_
    show Steps p.tables e below (s₁.setTop (mkF m 1 #[.val (.ref a1), .val (.int p2)] [(.ref a1)])) t
    exact k)
  obtain ⟨T2, X2, eh2, st2⟩ := getF X0 hx hZ hown (host := "") (Or.inl (hw _ (List.mem_of_getElem? (i := 24) rfl))) Via.refl eh0 F_size_a1 (g := (mkF m 1 #[.val (.ref a1), .val (.int p2)] [(.ref a1)])) rfl rfl (hb hby d5_1)
  have pre3 : ∀ t, Steps p.tables e below (T2.setTop (mkF m 4 #[.val (.ref a1), .val (.int p2)] [(.int (2 : Int32))])) t → Steps p.tables e below (s₁.setTop (entryFrame m #[(.ref a1), (.int p2)] 2)) t := fun t k => pre1 t (st2 _ k)
  have pre4 : ∀ t, Steps p.tables e below (T2.setTop (mkF m 5 #[.val (.ref a1), .val (.int p2)] [(.ref a1), (.int (2 : Int32))])) t → Steps p.tables e below (s₁.setTop (entryFrame m #[(.ref a1), (.int p2)] 2)) t := fun t k => pre3 t (by
    show Steps p.tables e below (T2.setTop (mkF m 4 #[.val (.ref a1), .val (.int p2)] [(.int (2 : Int32))])) t
    refine XS.aloadN X2.here hx rfl (hb hby d5_4) rfl rfl ?_
    show Steps p.tables e below (T2.setTop (mkF m 5 #[.val (.ref a1), .val (.int p2)] [(.ref a1), (.int (2 : Int32))])) t
    exact k)
  obtain ⟨T5, X5, eh5, st5⟩ := getF X2 hx hZ hown (host := "") (Or.inl (hw _ (List.mem_of_getElem? (i := 17) rfl))) Via.refl eh2 F_values_a1 (g := (mkF m 5 #[.val (.ref a1), .val (.int p2)] [(.ref a1), (.int (2 : Int32))])) rfl rfl (hb hby d5_5)
  have pre6 : ∀ t, Steps p.tables e below (T5.setTop (mkF m 8 #[.val (.ref a1), .val (.int p2)] [(.ref ar), (.int (2 : Int32))])) t → Steps p.tables e below (s₁.setTop (entryFrame m #[(.ref a1), (.int p2)] 2)) t := fun t k => pre4 t (st5 _ k)
  have pre8 : ∀ t, Steps p.tables e below (T5.setTop (mkF m 9 #[.val (.ref a1), .val (.int p2)] [(.int cap), (.int (2 : Int32))])) t → Steps p.tables e below (s₁.setTop (entryFrame m #[(.ref a1), (.int p2)] 2)) t := fun t k => pre6 t (by
    show Steps p.tables e below (T5.setTop (mkF m 8 #[.val (.ref a1), .val (.int p2)] [(.ref ar), (.int (2 : Int32))])) t
    refine own_alen X5 hx hZ eh5 V_ar (g := (mkF m 8 #[.val (.ref a1), .val (.int p2)] [(.ref ar), (.int (2 : Int32))])) rfl rfl (hb hby d5_8) _ ?_
    show Steps p.tables e below (T5.setTop (mkF m 9 #[.val (.ref a1), .val (.int p2)] [(.int cap), (.int (2 : Int32))])) t
    exact k)
  by_cases hc9_7 : (2 : Int32) = cap
  · skip
    have V_arL : Arv Z h0 ar kk .int (2 : Int32) [(.int x0), (.int x1), (.int (0 : Int32)), (.int (0 : Int32))] (.int (0 : Int32)) := by rw [hc9_7]; exact V_ar
    have pre9 : ∀ t, Steps p.tables e below (T5.setTop (mkF m 13 #[.val (.ref a1), .val (.int p2)] [(.ref a1)])) t → Steps p.tables e below (s₁.setTop (entryFrame m #[(.ref a1), (.int p2)] 2)) t := fun t k => pre8 t (by
      show Steps p.tables e below (T5.setTop (mkF m 9 #[.val (.ref a1), .val (.int p2)] [(.int cap), (.int (2 : Int32))])) t
      refine XS.icmpNo X5.here hx rfl (hb hby d5_9) rfl (XT.ii_ne_f hc9_7) ?_
      show Steps p.tables e below (T5.setTop (mkF m 12 #[.val (.ref a1), .val (.int p2)] [])) t
      refine XS.aloadN X5.here hx rfl (hb hby d5_12) rfl rfl ?_
      show Steps p.tables e below (T5.setTop (mkF m 13 #[.val (.ref a1), .val (.int p2)] [(.ref a1)])) t
      exact k)
    obtain ⟨T10, X10, eh10, st10⟩ := getF X5 hx hZ hown (host := "") (Or.inl (hw _ (List.mem_of_getElem? (i := 24) rfl))) Via.refl eh5 F_size_a1 (g := (mkF m 13 #[.val (.ref a1), .val (.int p2)] [(.ref a1)])) rfl rfl (hb hby d5_13)
    have pre11 : ∀ t, Steps p.tables e below (T10.setTop (mkF m 16 #[.val (.ref a1), .val (.int p2)] [(.int (2 : Int32))])) t → Steps p.tables e below (s₁.setTop (entryFrame m #[(.ref a1), (.int p2)] 2)) t := fun t k => pre9 t (st10 _ k)
    have pre13 : ∀ t, Steps p.tables e below (T10.setTop (mkF m 33 #[.val (.ref a1), .val (.int p2)] [(.ref a1), (.ref a1)])) t → Steps p.tables e below (s₁.setTop (entryFrame m #[(.ref a1), (.int p2)] 2)) t := fun t k => pre11 t (by
      show Steps p.tables e below (T10.setTop (mkF m 16 #[.val (.ref a1), .val (.int p2)] [(.int (2 : Int32))])) t
      refine X10.ldcInt hx hown (mvT hZ (hw _ (List.mem_of_getElem? (i := 30) rfl))) (g := (mkF m 16 #[.val (.ref a1), .val (.int p2)] [(.int (2 : Int32))])) rfl (hb hby d5_16) _ ?_
      show Steps p.tables e below (T10.setTop (mkF m 18 #[.val (.ref a1), .val (.int p2)] [(.int (2147483639 : Int32)), (.int (2 : Int32))])) t
      refine XS.icmpYes X10.here hx rfl (pc0 := 18) (pc' := 31) rfl (hb hby d5_18) rfl (XT.ii_ne_t (show ¬ ((2 : Int32) = (2147483639 : Int32)) from by decide)) (by decide) (by decide) ?_
      show Steps p.tables e below (T10.setTop (mkF m 31 #[.val (.ref a1), .val (.int p2)] [])) t
      refine XS.aloadN X10.here hx rfl (hb hby d5_31) rfl rfl ?_
      show Steps p.tables e below (T10.setTop (mkF m 32 #[.val (.ref a1), .val (.int p2)] [(.ref a1)])) t
      refine XS.aloadN X10.here hx rfl (hb hby d5_32) rfl rfl ?_
      show Steps p.tables e below (T10.setTop (mkF m 33 #[.val (.ref a1), .val (.int p2)] [(.ref a1), (.ref a1)])) t
      exact k)
    obtain ⟨T14, X14, eh14, st14⟩ := getF X10 hx hZ hown (host := "") (Or.inl (hw _ (List.mem_of_getElem? (i := 17) rfl))) Via.refl eh10 F_values_a1 (g := (mkF m 33 #[.val (.ref a1), .val (.int p2)] [(.ref a1), (.ref a1)])) rfl rfl (hb hby d5_33)
    have pre15 : ∀ t, Steps p.tables e below (T14.setTop (mkF m 36 #[.val (.ref a1), .val (.int p2)] [(.ref ar), (.ref a1)])) t → Steps p.tables e below (s₁.setTop (entryFrame m #[(.ref a1), (.int p2)] 2)) t := fun t k => pre13 t (st14 _ k)
    have pre16 : ∀ t, Steps p.tables e below (T14.setTop (mkF m 40 #[.val (.ref a1), .val (.int p2)] [(.ref a1), (.long (2 : Int64)), (.ref ar), (.ref a1)])) t → Steps p.tables e below (s₁.setTop (entryFrame m #[(.ref a1), (.int p2)] 2)) t := fun t k => pre15 t (by
      show Steps p.tables e below (T14.setTop (mkF m 36 #[.val (.ref a1), .val (.int p2)] [(.ref ar), (.ref a1)])) t
      refine X14.ldc2Long hx hown (mvT hZ (hw _ (List.mem_of_getElem? (i := 31) rfl))) (g := (mkF m 36 #[.val (.ref a1), .val (.int p2)] [(.ref ar), (.ref a1)])) rfl (hb hby d5_36) _ ?_
      show Steps p.tables e below (T14.setTop (mkF m 39 #[.val (.ref a1), .val (.int p2)] [(.long (2 : Int64)), (.ref ar), (.ref a1)])) t
      refine XS.aloadN X14.here hx rfl (hb hby d5_39) rfl rfl ?_
      show Steps p.tables e below (T14.setTop (mkF m 40 #[.val (.ref a1), .val (.int p2)] [(.ref a1), (.long (2 : Int64)), (.ref ar), (.ref a1)])) t
      exact k)
    obtain ⟨T17, X17, eh17, st17⟩ := getF X14 hx hZ hown (host := "") (Or.inl (hw _ (List.mem_of_getElem? (i := 24) rfl))) Via.refl eh14 F_size_a1 (g := (mkF m 40 #[.val (.ref a1), .val (.int p2)] [(.ref a1), (.long (2 : Int64)), (.ref ar), (.ref a1)])) rfl rfl (hb hby d5_40)
    have pre18 : ∀ t, Steps p.tables e below (T17.setTop (mkF m 43 #[.val (.ref a1), .val (.int p2)] [(.int (2 : Int32)), (.long (2 : Int64)), (.ref ar), (.ref a1)])) t → Steps p.tables e below (s₁.setTop (entryFrame m #[(.ref a1), (.int p2)] 2)) t := fun t k => pre16 t (st17 _ k)
    have pre19 : ∀ t, Steps p.tables e below (T17.setTop (mkF m 48 #[.val (.ref a1), .val (.int p2)] [(.long (2147483639 : Int64)), (.long ((2 : Int64) * (2 : Int32).toInt64)), (.ref ar), (.ref a1)])) t → Steps p.tables e below (s₁.setTop (entryFrame m #[(.ref a1), (.int p2)] 2)) t := fun t k => pre18 t (by
      show Steps p.tables e below (T17.setTop (mkF m 43 #[.val (.ref a1), .val (.int p2)] [(.int (2 : Int32)), (.long (2 : Int64)), (.ref ar), (.ref a1)])) t
      refine XT.i2l X17.here hx rfl (hb hby d5_43) rfl ?_
      show Steps p.tables e below (T17.setTop (mkF m 44 #[.val (.ref a1), .val (.int p2)] [(.long (2 : Int32).toInt64), (.long (2 : Int64)), (.ref ar), (.ref a1)])) t
      refine XT.lmul X17.here hx rfl (hb hby d5_44) rfl ?_
      show Steps p.tables e below (T17.setTop (mkF m 45 #[.val (.ref a1), .val (.int p2)] [(.long ((2 : Int64) * (2 : Int32).toInt64)), (.ref ar), (.ref a1)])) t
      refine X17.ldc2Long hx hown (mvT hZ (hw _ (List.mem_of_getElem? (i := 32) rfl))) (g := (mkF m 45 #[.val (.ref a1), .val (.int p2)] [(.long ((2 : Int64) * (2 : Int32).toInt64)), (.ref ar), (.ref a1)])) rfl (hb hby d5_45) _ ?_
      show Steps p.tables e below (T17.setTop (mkF m 48 #[.val (.ref a1), .val (.int p2)] [(.long (2147483639 : Int64)), (.long ((2 : Int64) * (2 : Int32).toInt64)), (.ref ar), (.ref a1)])) t
      exact k)
    obtain ⟨_, _, ⟨T20, L20, k20, n20⟩, -, X20, ⟨Lc20, hQ20, l20, y20, z20⟩, st20⟩ := Jvm.LawKit.callS X17 hx (y := (⟨"java/lang/Math", "min", "(JJ)J"⟩ : MethodName)) hown (mvT hZ (hw _ (List.mem_of_getElem? (i := 33) rfl))) (mvT hZ (hw _ (List.mem_of_getElem? (i := 34) rfl))) (mvT hZ (hw _ (List.mem_of_getElem? (i := 2) rfl))) (mvT hZ (hw _ (List.mem_of_getElem? (i := 35) rfl))) (by decide) (backOf (W := 2) (rm7 l Z a0 hw [] ((2 : Int64) * (2 : Int32).toInt64) (2147483639 : Int64) h0 n0 Z0 ) hZ (hw _ (List.mem_of_getElem? (i := 35) rfl)) (hw _ (List.mem_of_getElem? (i := 2) rfl)) (by decide) (by decide)) (g := (mkF m 48 #[.val (.ref a1), .val (.int p2)] [(.long (2147483639 : Int64)), (.long ((2 : Int64) * (2 : Int32).toInt64)), (.ref ar), (.ref a1)])) rfl (by rw [hml]; rfl) (argsL := [(.long ((2 : Int64) * (2 : Int32).toInt64)), (.long (2147483639 : Int64))]) (rest := [(.ref ar), (.ref a1)]) (lenOf pd_oJJcJ rfl) rfl (by show 2 * 0 + _ ≤ _; exact Nat.le_of_eq rfl) (hb hby d5_48) (fun _ _ => ⟨rfl, eh17, (by decide : 0 + 0 ≤ _), (by decide : 0 + 0 ≤ _)⟩)
    dsimp only [Pt.U, Pt.locs, Pt.cells, Pt.slots] at X20 l20 y20 z20 st20 hQ20
    subst l20 y20 z20
    obtain ⟨rfl, N20q, eh20⟩ := hQ20
    have N20 := Fr.app N0 N20q
    have pre21 : ∀ t, Steps p.tables e below (T20.setTop (mkF m 51 #[.val (.ref a1), .val (.int p2)] [(.long (own_minJ ((2 : Int64) * (2 : Int32).toInt64) (2147483639 : Int64))), (.ref ar), (.ref a1)])) t → Steps p.tables e below (s₁.setTop (entryFrame m #[(.ref a1), (.int p2)] 2)) t := fun t k => pre19 t (st20 _ k)
    have pre22 : ∀ t, Steps p.tables e below (T20.setTop (mkF m 52 #[.val (.ref a1), .val (.int p2)] [(.int (own_minJ ((2 : Int64) * (2 : Int32).toInt64) (2147483639 : Int64)).toInt32), (.ref ar), (.ref a1)])) t → Steps p.tables e below (s₁.setTop (entryFrame m #[(.ref a1), (.int p2)] 2)) t := fun t k => pre21 t (by
      show Steps p.tables e below (T20.setTop (mkF m 51 #[.val (.ref a1), .val (.int p2)] [(.long (own_minJ ((2 : Int64) * (2 : Int32).toInt64) (2147483639 : Int64))), (.ref ar), (.ref a1)])) t
      refine XT.l2i X20.here hx rfl (hb hby d5_51) rfl ?_
      show Steps p.tables e below (T20.setTop (mkF m 52 #[.val (.ref a1), .val (.int p2)] [(.int (own_minJ ((2 : Int64) * (2 : Int32).toInt64) (2147483639 : Int64)).toInt32), (.ref ar), (.ref a1)])) t
      exact k)
    have hl23 : (own_minJ ((2 : Int64) * (2 : Int32).toInt64) (2147483639 : Int64)).toInt32 = (4 : Int32) := by decide
    rw [hl23] at pre22
    obtain ⟨_, _, ⟨T24, L24, k24, n24⟩, -, X24, ⟨Lc24, hQ24, l24, y24, z24⟩, st24⟩ := Jvm.LawKit.callS X20 hx (y := (⟨"java/util/Arrays", "copyOf", "([II)[I"⟩ : MethodName)) hown (mvT hZ (hw _ (List.mem_of_getElem? (i := 36) rfl))) (mvT hZ (hw _ (List.mem_of_getElem? (i := 37) rfl))) (mvT hZ (hw _ (List.mem_of_getElem? (i := 38) rfl))) (mvT hZ (hw _ (List.mem_of_getElem? (i := 39) rfl))) (by decide) (backOf (W := 1) (rmCP2 l Z a0 hw [] ar kk x0 x1 h0 n0 Z0 V_arL) hZ (hw _ (List.mem_of_getElem? (i := 39) rfl)) (hw _ (List.mem_of_getElem? (i := 38) rfl)) (by decide) (by decide)) (g := (mkF m 52 #[.val (.ref a1), .val (.int p2)] [(.int (4 : Int32)), (.ref ar), (.ref a1)])) rfl (by rw [hml]; rfl) (argsL := [(.ref ar), (.int (4 : Int32))]) (rest := [(.ref a1)]) (lenOf pd_oaIIcaI rfl) rfl (by show 2 * 0 + _ ≤ _; exact Nat.le_of_eq rfl) (hb hby d5_52) (fun _ _ => ⟨rfl, eh20, (by decide : 0 + 1 ≤ _), (by decide : 0 + 4 ≤ _)⟩)
    dsimp only [Pt.U, Pt.locs, Pt.cells, Pt.slots] at X24 l24 y24 z24 st24 hQ24
    subst l24 y24 z24
    obtain ⟨bb_24, kn_24, rfl, N24q, Kq24, P24_1, P24_2⟩ := hQ24
    have E_a1__24 : Exa Z T24.heap a1 "com/example/interlace/interlace/core/IntColumn" := E_a1.keep Kq24
    have F_values_a1__24 : Fld Z T24.heap a1 "com/example/interlace/interlace/core/IntColumn" "values" "[I" (.ref ar) := F_values_a1.keep Kq24 nin0
    have F_size_a1__24 : Fld Z T24.heap a1 "com/example/interlace/interlace/core/IntColumn" "size" "I" (.int (2 : Int32)) := F_size_a1.keep Kq24 nin0
    have V_arL__24 : Arv Z T24.heap ar kk .int (2 : Int32) [(.int x0), (.int x1), (.int (0 : Int32)), (.int (0 : Int32))] (.int (0 : Int32)) := V_arL.keep Kq24 nin0
    have bo_bb_24 : h0.size ≤ bb_24 := Nat.le_trans K0.1 P24_1
    have ne_a1_bb_24 : a1 ≠ bb_24 := Nat.ne_of_lt (Nat.lt_of_lt_of_le E_a1.lt P24_1)
    have ne_ar_bb_24 : ar ≠ bb_24 := Nat.ne_of_lt (Nat.lt_of_lt_of_le V_arL.lt P24_1)
    have g_bb_24 : n0 ≤ bb_24 := Nat.le_trans Z0 P24_1
    have sz24 : n0 ≤ T24.heap.size := Nat.le_trans Z0 Kq24.1
    have K24 : Keep h0 T24.heap [a1, ar] := K0.trans Kq24 all0
    have N24 := Fr.app N20 N24q
    have pre25 : ∀ t, Steps p.tables e below (T24.setTop (mkF m 55 #[.val (.ref a1), .val (.int p2)] [(.ref bb_24), (.ref a1)])) t → Steps p.tables e below (s₁.setTop (entryFrame m #[(.ref a1), (.int p2)] 2)) t := fun t k => pre22 t (st24 _ k)
    obtain ⟨T26, h26, X26, eh26, W26, st26⟩ := putF X24 hx hZ hown (host := "") (Or.inl (hw _ (List.mem_of_getElem? (i := 17) rfl))) Via.refl rfl F_values_a1__24 E_a1__24 (Or.inl (hw _ (List.mem_of_getElem? (i := 18) rfl))) (hw _ (List.mem_of_getElem? (i := 8) rfl)) (ty := (.array .int)) (by decide) rfl rfl (g := (mkF m 55 #[.val (.ref a1), .val (.int p2)] [(.ref bb_24), (.ref a1)])) rfl rfl (hb hby d5_55)
    have E_a1__26 : Exa Z h26 a1 "com/example/interlace/interlace/core/IntColumn" := E_a1__24.wr W26
    have F_size_a1__26 : Fld Z h26 a1 "com/example/interlace/interlace/core/IntColumn" "size" "I" (.int (2 : Int32)) := F_size_a1__24.other W26 (Or.inr (slot_ne (Or.inl (hw _ (List.mem_of_getElem? (i := 25) rfl))) (Or.inl (hw _ (List.mem_of_getElem? (i := 18) rfl))) (by decide) (t := .int) (t' := (.array .int)) (by decide) (by decide)))
    have V_arL__26 : Arv Z h26 ar kk .int (2 : Int32) [(.int x0), (.int x1), (.int (0 : Int32)), (.int (0 : Int32))] (.int (0 : Int32)) := V_arL__24.other W26 (Ne.symm ne_a1_ar)
    have P24_2__26 : Arv Z h26 bb_24 kn_24 .int (4 : Int32) [(.int x0), (.int x1), (.int (0 : Int32)), (.int (0 : Int32))] (.int (0 : Int32)) := P24_2.other W26 (Ne.symm ne_a1_bb_24)
    have sz26 : n0 ≤ h26.size := Nat.le_trans sz24 (Keep.of_wr W26).1
    have K26 : Keep h0 h26 [a1, ar] := K24.wr W26 (Or.inl (List.mem_of_getElem? (i := 0) rfl))
    have N26 := Fr.snoc X26 N24 g_a1
    have F_values_a1__26 : Fld Z h26 a1 "com/example/interlace/interlace/core/IntColumn" "values" "[I" (.ref bb_24) := F_values_a1__24.same W26
    have pre27 : ∀ t, Steps p.tables e below (T26.setTop (mkF m 58 #[.val (.ref a1), .val (.int p2)] [])) t → Steps p.tables e below (s₁.setTop (entryFrame m #[(.ref a1), (.int p2)] 2)) t := fun t k => pre25 t (st26 _ k)
    have pre28 : ∀ t, Steps p.tables e below (T26.setTop (mkF m 59 #[.val (.ref a1), .val (.int p2)] [(.ref a1)])) t → Steps p.tables e below (s₁.setTop (entryFrame m #[(.ref a1), (.int p2)] 2)) t := fun t k => pre27 t (by
      show Steps p.tables e below (T26.setTop (mkF m 58 #[.val (.ref a1), .val (.int p2)] [])) t
      refine XS.aloadN X26.here hx rfl (hb hby d5_58) rfl rfl ?_
      show Steps p.tables e below (T26.setTop (mkF m 59 #[.val (.ref a1), .val (.int p2)] [(.ref a1)])) t
      exact k)
    obtain ⟨T29, X29, eh29, st29⟩ := getF X26 hx hZ hown (host := "") (Or.inl (hw _ (List.mem_of_getElem? (i := 17) rfl))) Via.refl eh26 F_values_a1__26 (g := (mkF m 59 #[.val (.ref a1), .val (.int p2)] [(.ref a1)])) rfl rfl (hb hby d5_59)
    have pre30 : ∀ t, Steps p.tables e below (T29.setTop (mkF m 62 #[.val (.ref a1), .val (.int p2)] [(.ref bb_24)])) t → Steps p.tables e below (s₁.setTop (entryFrame m #[(.ref a1), (.int p2)] 2)) t := fun t k => pre28 t (st29 _ k)
    have pre31 : ∀ t, Steps p.tables e below (T29.setTop (mkF m 64 #[.val (.ref a1), .val (.int p2)] [(.ref a1), (.ref a1), (.ref bb_24)])) t → Steps p.tables e below (s₁.setTop (entryFrame m #[(.ref a1), (.int p2)] 2)) t := fun t k => pre30 t (by
      show Steps p.tables e below (T29.setTop (mkF m 62 #[.val (.ref a1), .val (.int p2)] [(.ref bb_24)])) t
      refine XS.aloadN X29.here hx rfl (hb hby d5_62) rfl rfl ?_
      show Steps p.tables e below (T29.setTop (mkF m 63 #[.val (.ref a1), .val (.int p2)] [(.ref a1), (.ref bb_24)])) t
      refine XS.dup X29.here hx rfl (hb hby d5_63) rfl rfl ?_
      show Steps p.tables e below (T29.setTop (mkF m 64 #[.val (.ref a1), .val (.int p2)] [(.ref a1), (.ref a1), (.ref bb_24)])) t
      exact k)
    obtain ⟨T32, X32, eh32, st32⟩ := getF X29 hx hZ hown (host := "") (Or.inl (hw _ (List.mem_of_getElem? (i := 24) rfl))) Via.refl eh29 F_size_a1__26 (g := (mkF m 64 #[.val (.ref a1), .val (.int p2)] [(.ref a1), (.ref a1), (.ref bb_24)])) rfl rfl (hb hby d5_64)
    have pre33 : ∀ t, Steps p.tables e below (T32.setTop (mkF m 67 #[.val (.ref a1), .val (.int p2)] [(.int (2 : Int32)), (.ref a1), (.ref bb_24)])) t → Steps p.tables e below (s₁.setTop (entryFrame m #[(.ref a1), (.int p2)] 2)) t := fun t k => pre31 t (st32 _ k)
    have pre34 : ∀ t, Steps p.tables e below (T32.setTop (mkF m 70 #[.val (.ref a1), .val (.int p2)] [(.int (3 : Int32)), (.ref a1), (.int (2 : Int32)), (.ref bb_24)])) t → Steps p.tables e below (s₁.setTop (entryFrame m #[(.ref a1), (.int p2)] 2)) t := fun t k => pre33 t (by
      show Steps p.tables e below (T32.setTop (mkF m 67 #[.val (.ref a1), .val (.int p2)] [(.int (2 : Int32)), (.ref a1), (.ref bb_24)])) t
      refine XT.dupX1 X32.here hx rfl (hb hby d5_67) rfl rfl rfl ?_
      show Steps p.tables e below (T32.setTop (mkF m 68 #[.val (.ref a1), .val (.int p2)] [(.int (2 : Int32)), (.ref a1), (.int (2 : Int32)), (.ref bb_24)])) t
      refine XS.iconst X32.here hx rfl (hb hby d5_68) ?_
      show Steps p.tables e below (T32.setTop (mkF m 69 #[.val (.ref a1), .val (.int p2)] [(.int (1 : Int32)), (.int (2 : Int32)), (.ref a1), (.int (2 : Int32)), (.ref bb_24)])) t
      refine XS.iadd X32.here hx rfl (hb hby d5_69) rfl ?_
      show Steps p.tables e below (T32.setTop (mkF m 70 #[.val (.ref a1), .val (.int p2)] [(.int (3 : Int32)), (.ref a1), (.int (2 : Int32)), (.ref bb_24)])) t
      exact k)
    obtain ⟨T35, h35, X35, eh35, W35, st35⟩ := putF X32 hx hZ hown (host := "") (Or.inl (hw _ (List.mem_of_getElem? (i := 24) rfl))) Via.refl eh32 F_size_a1__26 E_a1__26 (Or.inl (hw _ (List.mem_of_getElem? (i := 25) rfl))) (hw _ (List.mem_of_getElem? (i := 8) rfl)) (ty := .int) (by decide) rfl rfl (g := (mkF m 70 #[.val (.ref a1), .val (.int p2)] [(.int (3 : Int32)), (.ref a1), (.int (2 : Int32)), (.ref bb_24)])) rfl rfl (hb hby d5_70)
    have E_a1__35 : Exa Z h35 a1 "com/example/interlace/interlace/core/IntColumn" := E_a1__26.wr W35
    have F_values_a1__35 : Fld Z h35 a1 "com/example/interlace/interlace/core/IntColumn" "values" "[I" (.ref bb_24) := F_values_a1__26.other W35 (Or.inr (slot_ne (Or.inl (hw _ (List.mem_of_getElem? (i := 18) rfl))) (Or.inl (hw _ (List.mem_of_getElem? (i := 25) rfl))) (by decide) (t := (.array .int)) (t' := .int) (by decide) (by decide)))
    have V_arL__35 : Arv Z h35 ar kk .int (2 : Int32) [(.int x0), (.int x1), (.int (0 : Int32)), (.int (0 : Int32))] (.int (0 : Int32)) := V_arL__26.other W35 (Ne.symm ne_a1_ar)
    have P24_2__35 : Arv Z h35 bb_24 kn_24 .int (4 : Int32) [(.int x0), (.int x1), (.int (0 : Int32)), (.int (0 : Int32))] (.int (0 : Int32)) := P24_2__26.other W35 (Ne.symm ne_a1_bb_24)
    have sz35 : n0 ≤ h35.size := Nat.le_trans sz26 (Keep.of_wr W35).1
    have K35 : Keep h0 h35 [a1, ar] := K26.wr W35 (Or.inl (List.mem_of_getElem? (i := 0) rfl))
    have N35 := Fr.snoc X35 N26 g_a1
    have F_size_a1__35 : Fld Z h35 a1 "com/example/interlace/interlace/core/IntColumn" "size" "I" (.int (3 : Int32)) := F_size_a1__26.same W35
    have pre36 : ∀ t, Steps p.tables e below (T35.setTop (mkF m 73 #[.val (.ref a1), .val (.int p2)] [(.int (2 : Int32)), (.ref bb_24)])) t → Steps p.tables e below (s₁.setTop (entryFrame m #[(.ref a1), (.int p2)] 2)) t := fun t k => pre34 t (st35 _ k)
    have pre37 : ∀ t, Steps p.tables e below (T35.setTop (mkF m 74 #[.val (.ref a1), .val (.int p2)] [(.int p2), (.int (2 : Int32)), (.ref bb_24)])) t → Steps p.tables e below (s₁.setTop (entryFrame m #[(.ref a1), (.int p2)] 2)) t := fun t k => pre36 t (by
      show Steps p.tables e below (T35.setTop (mkF m 73 #[.val (.ref a1), .val (.int p2)] [(.int (2 : Int32)), (.ref bb_24)])) t
      refine XS.iloadN X35.here hx rfl (hb hby d5_73) rfl ?_
      show Steps p.tables e below (T35.setTop (mkF m 74 #[.val (.ref a1), .val (.int p2)] [(.int p2), (.int (2 : Int32)), (.ref bb_24)])) t
      exact k)
    obtain ⟨cl38, Ar38, q38, S38, N38q, H38, G38⟩ := P24_2__35
    have hin38 : ¬ ((2 : Int32) < 0 ∨ cl38.slots.size ≤ ((2 : Int32)).toNatClampNeg) := inb_of S38 ⟨by decide, by decide⟩
    obtain ⟨T38, h38, X38, eh38, W38, st38⟩ := stI X35 hx hZ eh35 Ar38 (j := (2 : Int32)) hin38 (g := (mkF m 74 #[.val (.ref a1), .val (.int p2)] [(.int p2), (.int (2 : Int32)), (.ref bb_24)])) rfl rfl (hb hby d5_74)
    have E_a1__38 : Exa Z h38 a1 "com/example/interlace/interlace/core/IntColumn" := E_a1__35.wr W38
    have F_values_a1__38 : Fld Z h38 a1 "com/example/interlace/interlace/core/IntColumn" "values" "[I" (.ref bb_24) := F_values_a1__35.other W38 (Or.inl ne_a1_bb_24)
    have F_size_a1__38 : Fld Z h38 a1 "com/example/interlace/interlace/core/IntColumn" "size" "I" (.int (3 : Int32)) := F_size_a1__35.other W38 (Or.inl ne_a1_bb_24)
    have V_arL__38 : Arv Z h38 ar kk .int (2 : Int32) [(.int x0), (.int x1), (.int (0 : Int32)), (.int (0 : Int32))] (.int (0 : Int32)) := V_arL__35.other W38 ne_ar_bb_24
    have sz38 : n0 ≤ h38.size := Nat.le_trans sz35 (Keep.of_wr W38).1
    have K38 : Keep h0 h38 [a1, ar] := K35.wr W38 (Or.inr bo_bb_24)
    have N38 := Fr.snoc X38 N35 g_bb_24
    have V_bb_24__38 : Arv Z h38 bb_24 kn_24 .int (4 : Int32) [(.int x0), (.int x1), (.int p2), (.int (0 : Int32))] (.int (0 : Int32)) := Arv.set Ar38 q38 S38 N38q H38 G38 rfl W38 2 rfl (Nat.le_of_ble_eq_true rfl)
    have pre39 : ∀ t, Steps p.tables e below (T38.setTop (mkF m 75 #[.val (.ref a1), .val (.int p2)] [])) t → Steps p.tables e below (s₁.setTop (entryFrame m #[(.ref a1), (.int p2)] 2)) t := fun t k => pre37 t (st38 _ k)
    obtain ⟨fs, hr, hrun, hended, hW, hsame⟩ := X38.leave (v := none) (fun _ => rfl)
    refine ⟨_, _, pre39 _ ?_, hrun, hended, _, _, rfl, ?_, ⟨_, rfl⟩, hW, hsame.mono (by decide) (by decide)⟩
    · show Steps p.tables e below (T38.setTop (mkF m 75 #[.val (.ref a1), .val (.int p2)] [])) _
      exact X38.returnOut hx Bd.returns (hb hby d5_75) hr
    · show QAD2 Z a1 p2 ar kk cap x0 x1 h0 n0 _ T38.heap _
      rw [eh38]
      exact ⟨bb_24, kn_24, (4 : Int32), rfl, N38, K38, E_a1__38, F_values_a1__38, F_size_a1__38, V_bb_24__38, g_bb_24, ne_a1_bb_24, (by decide), (by decide)⟩
  · skip
    have pre40 : ∀ t, Steps p.tables e below (T5.setTop (mkF m 59 #[.val (.ref a1), .val (.int p2)] [(.ref a1)])) t → Steps p.tables e below (s₁.setTop (entryFrame m #[(.ref a1), (.int p2)] 2)) t := fun t k => pre8 t (by
      show Steps p.tables e below (T5.setTop (mkF m 9 #[.val (.ref a1), .val (.int p2)] [(.int cap), (.int (2 : Int32))])) t
      refine XS.icmpYes X5.here hx rfl (pc0 := 9) (pc' := 58) rfl (hb hby d5_9) rfl (XT.ii_ne_t hc9_7) (by decide) (by decide) ?_
      show Steps p.tables e below (T5.setTop (mkF m 58 #[.val (.ref a1), .val (.int p2)] [])) t
      refine XS.aloadN X5.here hx rfl (hb hby d5_58) rfl rfl ?_
      show Steps p.tables e below (T5.setTop (mkF m 59 #[.val (.ref a1), .val (.int p2)] [(.ref a1)])) t
      exact k)
    obtain ⟨T41, X41, eh41, st41⟩ := getF X5 hx hZ hown (host := "") (Or.inl (hw _ (List.mem_of_getElem? (i := 17) rfl))) Via.refl eh5 F_values_a1 (g := (mkF m 59 #[.val (.ref a1), .val (.int p2)] [(.ref a1)])) rfl rfl (hb hby d5_59)
    have pre42 : ∀ t, Steps p.tables e below (T41.setTop (mkF m 62 #[.val (.ref a1), .val (.int p2)] [(.ref ar)])) t → Steps p.tables e below (s₁.setTop (entryFrame m #[(.ref a1), (.int p2)] 2)) t := fun t k => pre40 t (st41 _ k)
    have pre43 : ∀ t, Steps p.tables e below (T41.setTop (mkF m 64 #[.val (.ref a1), .val (.int p2)] [(.ref a1), (.ref a1), (.ref ar)])) t → Steps p.tables e below (s₁.setTop (entryFrame m #[(.ref a1), (.int p2)] 2)) t := fun t k => pre42 t (by
      show Steps p.tables e below (T41.setTop (mkF m 62 #[.val (.ref a1), .val (.int p2)] [(.ref ar)])) t
      refine XS.aloadN X41.here hx rfl (hb hby d5_62) rfl rfl ?_
      show Steps p.tables e below (T41.setTop (mkF m 63 #[.val (.ref a1), .val (.int p2)] [(.ref a1), (.ref ar)])) t
      refine XS.dup X41.here hx rfl (hb hby d5_63) rfl rfl ?_
      show Steps p.tables e below (T41.setTop (mkF m 64 #[.val (.ref a1), .val (.int p2)] [(.ref a1), (.ref a1), (.ref ar)])) t
      exact k)
    obtain ⟨T44, X44, eh44, st44⟩ := getF X41 hx hZ hown (host := "") (Or.inl (hw _ (List.mem_of_getElem? (i := 24) rfl))) Via.refl eh41 F_size_a1 (g := (mkF m 64 #[.val (.ref a1), .val (.int p2)] [(.ref a1), (.ref a1), (.ref ar)])) rfl rfl (hb hby d5_64)
    have pre45 : ∀ t, Steps p.tables e below (T44.setTop (mkF m 67 #[.val (.ref a1), .val (.int p2)] [(.int (2 : Int32)), (.ref a1), (.ref ar)])) t → Steps p.tables e below (s₁.setTop (entryFrame m #[(.ref a1), (.int p2)] 2)) t := fun t k => pre43 t (st44 _ k)
    have pre46 : ∀ t, Steps p.tables e below (T44.setTop (mkF m 70 #[.val (.ref a1), .val (.int p2)] [(.int (3 : Int32)), (.ref a1), (.int (2 : Int32)), (.ref ar)])) t → Steps p.tables e below (s₁.setTop (entryFrame m #[(.ref a1), (.int p2)] 2)) t := fun t k => pre45 t (by
      show Steps p.tables e below (T44.setTop (mkF m 67 #[.val (.ref a1), .val (.int p2)] [(.int (2 : Int32)), (.ref a1), (.ref ar)])) t
      refine XT.dupX1 X44.here hx rfl (hb hby d5_67) rfl rfl rfl ?_
      show Steps p.tables e below (T44.setTop (mkF m 68 #[.val (.ref a1), .val (.int p2)] [(.int (2 : Int32)), (.ref a1), (.int (2 : Int32)), (.ref ar)])) t
      refine XS.iconst X44.here hx rfl (hb hby d5_68) ?_
      show Steps p.tables e below (T44.setTop (mkF m 69 #[.val (.ref a1), .val (.int p2)] [(.int (1 : Int32)), (.int (2 : Int32)), (.ref a1), (.int (2 : Int32)), (.ref ar)])) t
      refine XS.iadd X44.here hx rfl (hb hby d5_69) rfl ?_
      show Steps p.tables e below (T44.setTop (mkF m 70 #[.val (.ref a1), .val (.int p2)] [(.int (3 : Int32)), (.ref a1), (.int (2 : Int32)), (.ref ar)])) t
      exact k)
    obtain ⟨T47, h47, X47, eh47, W47, st47⟩ := putF X44 hx hZ hown (host := "") (Or.inl (hw _ (List.mem_of_getElem? (i := 24) rfl))) Via.refl eh44 F_size_a1 E_a1 (Or.inl (hw _ (List.mem_of_getElem? (i := 25) rfl))) (hw _ (List.mem_of_getElem? (i := 8) rfl)) (ty := .int) (by decide) rfl rfl (g := (mkF m 70 #[.val (.ref a1), .val (.int p2)] [(.int (3 : Int32)), (.ref a1), (.int (2 : Int32)), (.ref ar)])) rfl rfl (hb hby d5_70)
    have E_a1__47 : Exa Z h47 a1 "com/example/interlace/interlace/core/IntColumn" := E_a1.wr W47
    have F_values_a1__47 : Fld Z h47 a1 "com/example/interlace/interlace/core/IntColumn" "values" "[I" (.ref ar) := F_values_a1.other W47 (Or.inr (slot_ne (Or.inl (hw _ (List.mem_of_getElem? (i := 18) rfl))) (Or.inl (hw _ (List.mem_of_getElem? (i := 25) rfl))) (by decide) (t := (.array .int)) (t' := .int) (by decide) (by decide)))
    have V_ar__47 : Arv Z h47 ar kk .int cap [(.int x0), (.int x1), (.int (0 : Int32)), (.int (0 : Int32))] (.int (0 : Int32)) := V_ar.other W47 (Ne.symm ne_a1_ar)
    have sz47 : n0 ≤ h47.size := Nat.le_trans Z0 (Keep.of_wr W47).1
    have K47 : Keep h0 h47 [a1, ar] := K0.wr W47 (Or.inl (List.mem_of_getElem? (i := 0) rfl))
    have N47 := Fr.snoc X47 N0 g_a1
    have F_size_a1__47 : Fld Z h47 a1 "com/example/interlace/interlace/core/IntColumn" "size" "I" (.int (3 : Int32)) := F_size_a1.same W47
    have pre48 : ∀ t, Steps p.tables e below (T47.setTop (mkF m 73 #[.val (.ref a1), .val (.int p2)] [(.int (2 : Int32)), (.ref ar)])) t → Steps p.tables e below (s₁.setTop (entryFrame m #[(.ref a1), (.int p2)] 2)) t := fun t k => pre46 t (st47 _ k)
    have pre49 : ∀ t, Steps p.tables e below (T47.setTop (mkF m 74 #[.val (.ref a1), .val (.int p2)] [(.int p2), (.int (2 : Int32)), (.ref ar)])) t → Steps p.tables e below (s₁.setTop (entryFrame m #[(.ref a1), (.int p2)] 2)) t := fun t k => pre48 t (by
      show Steps p.tables e below (T47.setTop (mkF m 73 #[.val (.ref a1), .val (.int p2)] [(.int (2 : Int32)), (.ref ar)])) t
      refine XS.iloadN X47.here hx rfl (hb hby d5_73) rfl ?_
      show Steps p.tables e below (T47.setTop (mkF m 74 #[.val (.ref a1), .val (.int p2)] [(.int p2), (.int (2 : Int32)), (.ref ar)])) t
      exact k)
    obtain ⟨cl50, Ar50, q50, S50, N50q, H50, G50⟩ := V_ar__47
    have hin50 : ¬ ((2 : Int32) < 0 ∨ cl50.slots.size ≤ ((2 : Int32)).toNatClampNeg) := inb_of S50 ⟨by decide, own_lt _ hcap (by assumption)⟩
    obtain ⟨T50, h50, X50, eh50, W50, st50⟩ := stI X47 hx hZ eh47 Ar50 (j := (2 : Int32)) hin50 (g := (mkF m 74 #[.val (.ref a1), .val (.int p2)] [(.int p2), (.int (2 : Int32)), (.ref ar)])) rfl rfl (hb hby d5_74)
    have E_a1__50 : Exa Z h50 a1 "com/example/interlace/interlace/core/IntColumn" := E_a1__47.wr W50
    have F_values_a1__50 : Fld Z h50 a1 "com/example/interlace/interlace/core/IntColumn" "values" "[I" (.ref ar) := F_values_a1__47.other W50 (Or.inl ne_a1_ar)
    have F_size_a1__50 : Fld Z h50 a1 "com/example/interlace/interlace/core/IntColumn" "size" "I" (.int (3 : Int32)) := F_size_a1__47.other W50 (Or.inl ne_a1_ar)
    have sz50 : n0 ≤ h50.size := Nat.le_trans sz47 (Keep.of_wr W50).1
    have K50 : Keep h0 h50 [a1, ar] := K47.wr W50 (Or.inl (List.mem_of_getElem? (i := 1) rfl))
    have N50 := Fr.snoc X50 N47 g_ar
    have V_ar__50 : Arv Z h50 ar kk .int cap [(.int x0), (.int x1), (.int p2), (.int (0 : Int32))] (.int (0 : Int32)) := Arv.set Ar50 q50 S50 N50q H50 G50 rfl W50 2 rfl (Nat.le_of_ble_eq_true rfl)
    have pre51 : ∀ t, Steps p.tables e below (T50.setTop (mkF m 75 #[.val (.ref a1), .val (.int p2)] [])) t → Steps p.tables e below (s₁.setTop (entryFrame m #[(.ref a1), (.int p2)] 2)) t := fun t k => pre49 t (st50 _ k)
    obtain ⟨fs, hr, hrun, hended, hW, hsame⟩ := X50.leave (v := none) (fun _ => rfl)
    refine ⟨_, _, pre51 _ ?_, hrun, hended, _, _, rfl, ?_, ⟨_, rfl⟩, hW, hsame.mono (by decide) (by decide)⟩
    · show Steps p.tables e below (T50.setTop (mkF m 75 #[.val (.ref a1), .val (.int p2)] [])) _
      exact X50.returnOut hx Bd.returns (hb hby d5_75) hr
    · show QAD2 Z a1 p2 ar kk cap x0 x1 h0 n0 _ T50.heap _
      rw [eh50]
      exact ⟨ar, kk, cap, rfl, N50, K50, E_a1__50, F_values_a1__50, F_size_a1__50, V_ar__50, g_ar, ne_a1_ar, (own_up (own_lt (2 : Int32) hcap (by assumption)) (by decide)), hc1⟩
theorem ef_AD3 (m : MethodId) (a1 : Addr) (p2 : Int32) : entryFrame m #[(.ref a1), (.int p2)] 2 = mkF m 0 #[.val (.ref a1), .val (.int p2)] [] := by first | (simp [entryFrame, mkF, argsToLocals, Value.category]; done) | rfl
def QAD3 (Z : State) (a1 : Addr) (p2 : Int32) (ar : Addr) (kk : ClassId) (cap : Int32) (x0 : Int32) (x1 : Int32) (x2 : Int32) (h0 : Heap) (n0 : Nat) (v : Option Value) (h : Heap) (L : List Loc) : Prop := ∃ ar2 : Addr, ∃ kk2 : ClassId, ∃ cap2 : Int32, v = none ∧ Fr n0 L ∧ Keep h0 h [a1, ar] ∧ Exa Z h a1 "com/example/interlace/interlace/core/IntColumn" ∧ Fld Z h a1 "com/example/interlace/interlace/core/IntColumn" "values" "[I" (.ref ar2) ∧ Fld Z h a1 "com/example/interlace/interlace/core/IntColumn" "size" "I" (.int (4 : Int32)) ∧ Arv Z h ar2 kk2 .int cap2 [(.int x0), (.int x1), (.int x2), (.int p2)] (.int (0 : Int32)) ∧ n0 ≤ ar2 ∧ a1 ≠ ar2 ∧ ¬ cap2 < (4 : Int32) ∧ ¬ cap2 < (1 : Int32)
set_option maxRecDepth 65536 in
set_option maxHeartbeats 40000000 in
theorem rmAD3 (l : Launch) (Z : State) (a0 : Array Value) (hw : ∀ d ∈ tables_1, d.before a0 Z = true) (ws : List Jvm.Cond) (a1 : Addr) (p2 : Int32) (ar : Addr) (kk : ClassId) (cap : Int32) (x0 : Int32) (x1 : Int32) (x2 : Int32) (h0 : Heap) (n0 : Nat) (Z0 : n0 ≤ h0.size) (E_a1 : Exa Z h0 a1 "com/example/interlace/interlace/core/IntColumn") (F_values_a1 : Fld Z h0 a1 "com/example/interlace/interlace/core/IntColumn" "values" "[I" (.ref ar)) (F_size_a1 : Fld Z h0 a1 "com/example/interlace/interlace/core/IntColumn" "size" "I" (.int (3 : Int32))) (V_ar : Arv Z h0 ar kk .int cap [(.int x0), (.int x1), (.int x2), (.int (0 : Int32))] (.int (0 : Int32))) (g_a1 : n0 ≤ a1) (g_ar : n0 ≤ ar) (ne_a1_ar : a1 ≠ ar) (hcap : ¬ cap < (3 : Int32)) (hc1 : ¬ cap < (1 : Int32)) :
    MetFree l (⟨"com/example/interlace/interlace/core/IntColumn", "add", "(I)V"⟩ : MethodName) (head1 (Jvm.Cond.code (⟨"com/example/interlace/interlace/core/IntColumn", "add", "(I)V"⟩ : MethodName) prog_78_method_3_code 2 none :: ws) ({ frames := 2, cells := 1, slots := 6, locals := 33 } : Room)) (fun a U => a = #[(.ref a1), (.int p2)] ∧ Z.Warmed39 U.vm ∧ U.heap = h0) (fun _ _ _ _ _ => True) (fun _ U o U' => ∃ v L, o = .returned v ∧ QAD3 Z a1 p2 ar kk cap x0 x1 x2 h0 n0 v U'.heap L ∧ FrameEnd U o U' L ({ frames := 2, cells := 1, slots := 6, locals := 33 } : Room).cells ({ frames := 2, cells := 1, slots := 6, locals := 33 } : Room).slots) := by
  refine MetFree.of_bodySF (plainFor_of_name pn_com_example_interlace_interlace_core_IntColumn) hisR ?_
  intro p e s m args below meth c s₁ Bd hml0 hP hK
  obtain ⟨rfl, hZ, hh⟩ := hP
  have hx := Bd.exec
  have hby := Bd.bytes
  have hml : c.maxLocals = 2 := hml0
  have hown : s.vm.findClass "com/example/interlace/interlace/core/IntColumn" = some m.cls := findClass_of_methodNamed Bd.named
  have hnm := (name_of_methodNamed Bd.named Bd.method).1
  have X0 : Stand p l e ({ frames := 2, cells := 1, slots := 6, locals := 33 } : Room) s m #[(.ref a1), (.int p2)] below meth c s₁ [] 0 0 := Stand.of_body Bd
  have eh0 : s₁.heap = h0 := by rw [← hh, Bd.state]; rfl
  have N0 := Fr.nil n0
  have pre0 : ∀ t, Steps p.tables e below (s₁.setTop (mkF m 0 #[.val (.ref a1), .val (.int p2)] [])) t → Steps p.tables e below (s₁.setTop (entryFrame m #[(.ref a1), (.int p2)] 2)) t := fun t k => castTop (ef_AD3 m a1 p2) k
  have K0 : Keep h0 h0 [a1, ar] := Keep.refl _ _
  have pre1 : ∀ t, Steps p.tables e below (s₁.setTop (mkF m 1 #[.val (.ref a1), .val (.int p2)] [(.ref a1)])) t → Steps p.tables e below (s₁.setTop (entryFrame m #[(.ref a1), (.int p2)] 2)) t := fun t k => pre0 t (by
    show Steps p.tables e below (s₁.setTop (mkF m 0 #[.val (.ref a1), .val (.int p2)] [])) t
    refine XS.aloadN X0.here hx rfl (hb hby d5_0) rfl rfl ?_
    show Steps p.tables e below (s₁.setTop (mkF m 1 #[.val (.ref a1), .val (.int p2)] [(.ref a1)])) t
    exact k)
  obtain ⟨T2, X2, eh2, st2⟩ := getF X0 hx hZ hown (host := "") (Or.inl (hw _ (List.mem_of_getElem? (i := 24) rfl))) Via.refl eh0 F_size_a1 (g := (mkF m 1 #[.val (.ref a1), .val (.int p2)] [(.ref a1)])) rfl rfl (hb hby d5_1)
  have pre3 : ∀ t, Steps p.tables e below (T2.setTop (mkF m 4 #[.val (.ref a1), .val (.int p2)] [(.int (3 : Int32))])) t → Steps p.tables e below (s₁.setTop (entryFrame m #[(.ref a1), (.int p2)] 2)) t := fun t k => pre1 t (st2 _ k)
  have pre4 : ∀ t, Steps p.tables e below (T2.setTop (mkF m 5 #[.val (.ref a1), .val (.int p2)] [(.ref a1), (.int (3 : Int32))])) t → Steps p.tables e below (s₁.setTop (entryFrame m #[(.ref a1), (.int p2)] 2)) t := fun t k => pre3 t (by
    show Steps p.tables e below (T2.setTop (mkF m 4 #[.val (.ref a1), .val (.int p2)] [(.int (3 : Int32))])) t
    refine XS.aloadN X2.here hx rfl (hb hby d5_4) rfl rfl ?_
    show Steps p.tables e below (T2.setTop (mkF m 5 #[.val (.ref a1), .val (.int p2)] [(.ref a1), (.int (3 : Int32))])) t
    exact k)
  obtain ⟨T5, X5, eh5, st5⟩ := getF X2 hx hZ hown (host := "") (Or.inl (hw _ (List.mem_of_getElem? (i := 17) rfl))) Via.refl eh2 F_values_a1 (g := (mkF m 5 #[.val (.ref a1), .val (.int p2)] [(.ref a1), (.int (3 : Int32))])) rfl rfl (hb hby d5_5)
  have pre6 : ∀ t, Steps p.tables e below (T5.setTop (mkF m 8 #[.val (.ref a1), .val (.int p2)] [(.ref ar), (.int (3 : Int32))])) t → Steps p.tables e below (s₁.setTop (entryFrame m #[(.ref a1), (.int p2)] 2)) t := fun t k => pre4 t (st5 _ k)
  have pre8 : ∀ t, Steps p.tables e below (T5.setTop (mkF m 9 #[.val (.ref a1), .val (.int p2)] [(.int cap), (.int (3 : Int32))])) t → Steps p.tables e below (s₁.setTop (entryFrame m #[(.ref a1), (.int p2)] 2)) t := fun t k => pre6 t (by
    show Steps p.tables e below (T5.setTop (mkF m 8 #[.val (.ref a1), .val (.int p2)] [(.ref ar), (.int (3 : Int32))])) t
    refine own_alen X5 hx hZ eh5 V_ar (g := (mkF m 8 #[.val (.ref a1), .val (.int p2)] [(.ref ar), (.int (3 : Int32))])) rfl rfl (hb hby d5_8) _ ?_
    show Steps p.tables e below (T5.setTop (mkF m 9 #[.val (.ref a1), .val (.int p2)] [(.int cap), (.int (3 : Int32))])) t
    exact k)
  by_cases hc9_7 : (3 : Int32) = cap
  · skip
    have V_arL : Arv Z h0 ar kk .int (3 : Int32) [(.int x0), (.int x1), (.int x2), (.int (0 : Int32))] (.int (0 : Int32)) := by rw [hc9_7]; exact V_ar
    have pre9 : ∀ t, Steps p.tables e below (T5.setTop (mkF m 13 #[.val (.ref a1), .val (.int p2)] [(.ref a1)])) t → Steps p.tables e below (s₁.setTop (entryFrame m #[(.ref a1), (.int p2)] 2)) t := fun t k => pre8 t (by
      show Steps p.tables e below (T5.setTop (mkF m 9 #[.val (.ref a1), .val (.int p2)] [(.int cap), (.int (3 : Int32))])) t
      refine XS.icmpNo X5.here hx rfl (hb hby d5_9) rfl (XT.ii_ne_f hc9_7) ?_
      show Steps p.tables e below (T5.setTop (mkF m 12 #[.val (.ref a1), .val (.int p2)] [])) t
      refine XS.aloadN X5.here hx rfl (hb hby d5_12) rfl rfl ?_
      show Steps p.tables e below (T5.setTop (mkF m 13 #[.val (.ref a1), .val (.int p2)] [(.ref a1)])) t
      exact k)
    obtain ⟨T10, X10, eh10, st10⟩ := getF X5 hx hZ hown (host := "") (Or.inl (hw _ (List.mem_of_getElem? (i := 24) rfl))) Via.refl eh5 F_size_a1 (g := (mkF m 13 #[.val (.ref a1), .val (.int p2)] [(.ref a1)])) rfl rfl (hb hby d5_13)
    have pre11 : ∀ t, Steps p.tables e below (T10.setTop (mkF m 16 #[.val (.ref a1), .val (.int p2)] [(.int (3 : Int32))])) t → Steps p.tables e below (s₁.setTop (entryFrame m #[(.ref a1), (.int p2)] 2)) t := fun t k => pre9 t (st10 _ k)
    have pre13 : ∀ t, Steps p.tables e below (T10.setTop (mkF m 33 #[.val (.ref a1), .val (.int p2)] [(.ref a1), (.ref a1)])) t → Steps p.tables e below (s₁.setTop (entryFrame m #[(.ref a1), (.int p2)] 2)) t := fun t k => pre11 t (by
      show Steps p.tables e below (T10.setTop (mkF m 16 #[.val (.ref a1), .val (.int p2)] [(.int (3 : Int32))])) t
      refine X10.ldcInt hx hown (mvT hZ (hw _ (List.mem_of_getElem? (i := 30) rfl))) (g := (mkF m 16 #[.val (.ref a1), .val (.int p2)] [(.int (3 : Int32))])) rfl (hb hby d5_16) _ ?_
      show Steps p.tables e below (T10.setTop (mkF m 18 #[.val (.ref a1), .val (.int p2)] [(.int (2147483639 : Int32)), (.int (3 : Int32))])) t
      refine XS.icmpYes X10.here hx rfl (pc0 := 18) (pc' := 31) rfl (hb hby d5_18) rfl (XT.ii_ne_t (show ¬ ((3 : Int32) = (2147483639 : Int32)) from by decide)) (by decide) (by decide) ?_
      show Steps p.tables e below (T10.setTop (mkF m 31 #[.val (.ref a1), .val (.int p2)] [])) t
      refine XS.aloadN X10.here hx rfl (hb hby d5_31) rfl rfl ?_
      show Steps p.tables e below (T10.setTop (mkF m 32 #[.val (.ref a1), .val (.int p2)] [(.ref a1)])) t
      refine XS.aloadN X10.here hx rfl (hb hby d5_32) rfl rfl ?_
      show Steps p.tables e below (T10.setTop (mkF m 33 #[.val (.ref a1), .val (.int p2)] [(.ref a1), (.ref a1)])) t
      exact k)
    obtain ⟨T14, X14, eh14, st14⟩ := getF X10 hx hZ hown (host := "") (Or.inl (hw _ (List.mem_of_getElem? (i := 17) rfl))) Via.refl eh10 F_values_a1 (g := (mkF m 33 #[.val (.ref a1), .val (.int p2)] [(.ref a1), (.ref a1)])) rfl rfl (hb hby d5_33)
    have pre15 : ∀ t, Steps p.tables e below (T14.setTop (mkF m 36 #[.val (.ref a1), .val (.int p2)] [(.ref ar), (.ref a1)])) t → Steps p.tables e below (s₁.setTop (entryFrame m #[(.ref a1), (.int p2)] 2)) t := fun t k => pre13 t (st14 _ k)
    have pre16 : ∀ t, Steps p.tables e below (T14.setTop (mkF m 40 #[.val (.ref a1), .val (.int p2)] [(.ref a1), (.long (2 : Int64)), (.ref ar), (.ref a1)])) t → Steps p.tables e below (s₁.setTop (entryFrame m #[(.ref a1), (.int p2)] 2)) t := fun t k => pre15 t (by
      show Steps p.tables e below (T14.setTop (mkF m 36 #[.val (.ref a1), .val (.int p2)] [(.ref ar), (.ref a1)])) t
      refine X14.ldc2Long hx hown (mvT hZ (hw _ (List.mem_of_getElem? (i := 31) rfl))) (g := (mkF m 36 #[.val (.ref a1), .val (.int p2)] [(.ref ar), (.ref a1)])) rfl (hb hby d5_36) _ ?_
      show Steps p.tables e below (T14.setTop (mkF m 39 #[.val (.ref a1), .val (.int p2)] [(.long (2 : Int64)), (.ref ar), (.ref a1)])) t
      refine XS.aloadN X14.here hx rfl (hb hby d5_39) rfl rfl ?_
      show Steps p.tables e below (T14.setTop (mkF m 40 #[.val (.ref a1), .val (.int p2)] [(.ref a1), (.long (2 : Int64)), (.ref ar), (.ref a1)])) t
      exact k)
    obtain ⟨T17, X17, eh17, st17⟩ := getF X14 hx hZ hown (host := "") (Or.inl (hw _ (List.mem_of_getElem? (i := 24) rfl))) Via.refl eh14 F_size_a1 (g := (mkF m 40 #[.val (.ref a1), .val (.int p2)] [(.ref a1), (.long (2 : Int64)), (.ref ar), (.ref a1)])) rfl rfl (hb hby d5_40)
    have pre18 : ∀ t, Steps p.tables e below (T17.setTop (mkF m 43 #[.val (.ref a1), .val (.int p2)] [(.int (3 : Int32)), (.long (2 : Int64)), (.ref ar), (.ref a1)])) t → Steps p.tables e below (s₁.setTop (entryFrame m #[(.ref a1), (.int p2)] 2)) t := fun t k => pre16 t (st17 _ k)
    have pre19 : ∀ t, Steps p.tables e below (T17.setTop (mkF m 48 #[.val (.ref a1), .val (.int p2)] [(.long (2147483639 : Int64)), (.long ((2 : Int64) * (3 : Int32).toInt64)), (.ref ar), (.ref a1)])) t → Steps p.tables e below (s₁.setTop (entryFrame m #[(.ref a1), (.int p2)] 2)) t := fun t k => pre18 t (by
      show Steps p.tables e below (T17.setTop (mkF m 43 #[.val (.ref a1), .val (.int p2)] [(.int (3 : Int32)), (.long (2 : Int64)), (.ref ar), (.ref a1)])) t
      refine XT.i2l X17.here hx rfl (hb hby d5_43) rfl ?_
      show Steps p.tables e below (T17.setTop (mkF m 44 #[.val (.ref a1), .val (.int p2)] [(.long (3 : Int32).toInt64), (.long (2 : Int64)), (.ref ar), (.ref a1)])) t
      refine XT.lmul X17.here hx rfl (hb hby d5_44) rfl ?_
      show Steps p.tables e below (T17.setTop (mkF m 45 #[.val (.ref a1), .val (.int p2)] [(.long ((2 : Int64) * (3 : Int32).toInt64)), (.ref ar), (.ref a1)])) t
      refine X17.ldc2Long hx hown (mvT hZ (hw _ (List.mem_of_getElem? (i := 32) rfl))) (g := (mkF m 45 #[.val (.ref a1), .val (.int p2)] [(.long ((2 : Int64) * (3 : Int32).toInt64)), (.ref ar), (.ref a1)])) rfl (hb hby d5_45) _ ?_
      show Steps p.tables e below (T17.setTop (mkF m 48 #[.val (.ref a1), .val (.int p2)] [(.long (2147483639 : Int64)), (.long ((2 : Int64) * (3 : Int32).toInt64)), (.ref ar), (.ref a1)])) t
      exact k)
    obtain ⟨_, _, ⟨T20, L20, k20, n20⟩, -, X20, ⟨Lc20, hQ20, l20, y20, z20⟩, st20⟩ := Jvm.LawKit.callS X17 hx (y := (⟨"java/lang/Math", "min", "(JJ)J"⟩ : MethodName)) hown (mvT hZ (hw _ (List.mem_of_getElem? (i := 33) rfl))) (mvT hZ (hw _ (List.mem_of_getElem? (i := 34) rfl))) (mvT hZ (hw _ (List.mem_of_getElem? (i := 2) rfl))) (mvT hZ (hw _ (List.mem_of_getElem? (i := 35) rfl))) (by decide) (backOf (W := 2) (rm7 l Z a0 hw [] ((2 : Int64) * (3 : Int32).toInt64) (2147483639 : Int64) h0 n0 Z0 ) hZ (hw _ (List.mem_of_getElem? (i := 35) rfl)) (hw _ (List.mem_of_getElem? (i := 2) rfl)) (by decide) (by decide)) (g := (mkF m 48 #[.val (.ref a1), .val (.int p2)] [(.long (2147483639 : Int64)), (.long ((2 : Int64) * (3 : Int32).toInt64)), (.ref ar), (.ref a1)])) rfl (by rw [hml]; rfl) (argsL := [(.long ((2 : Int64) * (3 : Int32).toInt64)), (.long (2147483639 : Int64))]) (rest := [(.ref ar), (.ref a1)]) (lenOf pd_oJJcJ rfl) rfl (by show 2 * 0 + _ ≤ _; exact Nat.le_of_eq rfl) (hb hby d5_48) (fun _ _ => ⟨rfl, eh17, (by decide : 0 + 0 ≤ _), (by decide : 0 + 0 ≤ _)⟩)
    dsimp only [Pt.U, Pt.locs, Pt.cells, Pt.slots] at X20 l20 y20 z20 st20 hQ20
    subst l20 y20 z20
    obtain ⟨rfl, N20q, eh20⟩ := hQ20
    have N20 := Fr.app N0 N20q
    have pre21 : ∀ t, Steps p.tables e below (T20.setTop (mkF m 51 #[.val (.ref a1), .val (.int p2)] [(.long (own_minJ ((2 : Int64) * (3 : Int32).toInt64) (2147483639 : Int64))), (.ref ar), (.ref a1)])) t → Steps p.tables e below (s₁.setTop (entryFrame m #[(.ref a1), (.int p2)] 2)) t := fun t k => pre19 t (st20 _ k)
    have pre22 : ∀ t, Steps p.tables e below (T20.setTop (mkF m 52 #[.val (.ref a1), .val (.int p2)] [(.int (own_minJ ((2 : Int64) * (3 : Int32).toInt64) (2147483639 : Int64)).toInt32), (.ref ar), (.ref a1)])) t → Steps p.tables e below (s₁.setTop (entryFrame m #[(.ref a1), (.int p2)] 2)) t := fun t k => pre21 t (by
      show Steps p.tables e below (T20.setTop (mkF m 51 #[.val (.ref a1), .val (.int p2)] [(.long (own_minJ ((2 : Int64) * (3 : Int32).toInt64) (2147483639 : Int64))), (.ref ar), (.ref a1)])) t
      refine XT.l2i X20.here hx rfl (hb hby d5_51) rfl ?_
      show Steps p.tables e below (T20.setTop (mkF m 52 #[.val (.ref a1), .val (.int p2)] [(.int (own_minJ ((2 : Int64) * (3 : Int32).toInt64) (2147483639 : Int64)).toInt32), (.ref ar), (.ref a1)])) t
      exact k)
    have hl23 : (own_minJ ((2 : Int64) * (3 : Int32).toInt64) (2147483639 : Int64)).toInt32 = (6 : Int32) := by decide
    rw [hl23] at pre22
    obtain ⟨_, _, ⟨T24, L24, k24, n24⟩, -, X24, ⟨Lc24, hQ24, l24, y24, z24⟩, st24⟩ := Jvm.LawKit.callS X20 hx (y := (⟨"java/util/Arrays", "copyOf", "([II)[I"⟩ : MethodName)) hown (mvT hZ (hw _ (List.mem_of_getElem? (i := 36) rfl))) (mvT hZ (hw _ (List.mem_of_getElem? (i := 37) rfl))) (mvT hZ (hw _ (List.mem_of_getElem? (i := 38) rfl))) (mvT hZ (hw _ (List.mem_of_getElem? (i := 39) rfl))) (by decide) (backOf (W := 1) (rmCP3 l Z a0 hw [] ar kk x0 x1 x2 h0 n0 Z0 V_arL) hZ (hw _ (List.mem_of_getElem? (i := 39) rfl)) (hw _ (List.mem_of_getElem? (i := 38) rfl)) (by decide) (by decide)) (g := (mkF m 52 #[.val (.ref a1), .val (.int p2)] [(.int (6 : Int32)), (.ref ar), (.ref a1)])) rfl (by rw [hml]; rfl) (argsL := [(.ref ar), (.int (6 : Int32))]) (rest := [(.ref a1)]) (lenOf pd_oaIIcaI rfl) rfl (by show 2 * 0 + _ ≤ _; exact Nat.le_of_eq rfl) (hb hby d5_52) (fun _ _ => ⟨rfl, eh20, (by decide : 0 + 1 ≤ _), (by decide : 0 + 6 ≤ _)⟩)
    dsimp only [Pt.U, Pt.locs, Pt.cells, Pt.slots] at X24 l24 y24 z24 st24 hQ24
    subst l24 y24 z24
    obtain ⟨bb_24, kn_24, rfl, N24q, Kq24, P24_1, P24_2⟩ := hQ24
    have E_a1__24 : Exa Z T24.heap a1 "com/example/interlace/interlace/core/IntColumn" := E_a1.keep Kq24
    have F_values_a1__24 : Fld Z T24.heap a1 "com/example/interlace/interlace/core/IntColumn" "values" "[I" (.ref ar) := F_values_a1.keep Kq24 nin0
    have F_size_a1__24 : Fld Z T24.heap a1 "com/example/interlace/interlace/core/IntColumn" "size" "I" (.int (3 : Int32)) := F_size_a1.keep Kq24 nin0
    have V_arL__24 : Arv Z T24.heap ar kk .int (3 : Int32) [(.int x0), (.int x1), (.int x2), (.int (0 : Int32))] (.int (0 : Int32)) := V_arL.keep Kq24 nin0
    have bo_bb_24 : h0.size ≤ bb_24 := Nat.le_trans K0.1 P24_1
    have ne_a1_bb_24 : a1 ≠ bb_24 := Nat.ne_of_lt (Nat.lt_of_lt_of_le E_a1.lt P24_1)
    have ne_ar_bb_24 : ar ≠ bb_24 := Nat.ne_of_lt (Nat.lt_of_lt_of_le V_arL.lt P24_1)
    have g_bb_24 : n0 ≤ bb_24 := Nat.le_trans Z0 P24_1
    have sz24 : n0 ≤ T24.heap.size := Nat.le_trans Z0 Kq24.1
    have K24 : Keep h0 T24.heap [a1, ar] := K0.trans Kq24 all0
    have N24 := Fr.app N20 N24q
    have pre25 : ∀ t, Steps p.tables e below (T24.setTop (mkF m 55 #[.val (.ref a1), .val (.int p2)] [(.ref bb_24), (.ref a1)])) t → Steps p.tables e below (s₁.setTop (entryFrame m #[(.ref a1), (.int p2)] 2)) t := fun t k => pre22 t (st24 _ k)
    obtain ⟨T26, h26, X26, eh26, W26, st26⟩ := putF X24 hx hZ hown (host := "") (Or.inl (hw _ (List.mem_of_getElem? (i := 17) rfl))) Via.refl rfl F_values_a1__24 E_a1__24 (Or.inl (hw _ (List.mem_of_getElem? (i := 18) rfl))) (hw _ (List.mem_of_getElem? (i := 8) rfl)) (ty := (.array .int)) (by decide) rfl rfl (g := (mkF m 55 #[.val (.ref a1), .val (.int p2)] [(.ref bb_24), (.ref a1)])) rfl rfl (hb hby d5_55)
    have E_a1__26 : Exa Z h26 a1 "com/example/interlace/interlace/core/IntColumn" := E_a1__24.wr W26
    have F_size_a1__26 : Fld Z h26 a1 "com/example/interlace/interlace/core/IntColumn" "size" "I" (.int (3 : Int32)) := F_size_a1__24.other W26 (Or.inr (slot_ne (Or.inl (hw _ (List.mem_of_getElem? (i := 25) rfl))) (Or.inl (hw _ (List.mem_of_getElem? (i := 18) rfl))) (by decide) (t := .int) (t' := (.array .int)) (by decide) (by decide)))
    have V_arL__26 : Arv Z h26 ar kk .int (3 : Int32) [(.int x0), (.int x1), (.int x2), (.int (0 : Int32))] (.int (0 : Int32)) := V_arL__24.other W26 (Ne.symm ne_a1_ar)
    have P24_2__26 : Arv Z h26 bb_24 kn_24 .int (6 : Int32) [(.int x0), (.int x1), (.int x2), (.int (0 : Int32))] (.int (0 : Int32)) := P24_2.other W26 (Ne.symm ne_a1_bb_24)
    have sz26 : n0 ≤ h26.size := Nat.le_trans sz24 (Keep.of_wr W26).1
    have K26 : Keep h0 h26 [a1, ar] := K24.wr W26 (Or.inl (List.mem_of_getElem? (i := 0) rfl))
    have N26 := Fr.snoc X26 N24 g_a1
    have F_values_a1__26 : Fld Z h26 a1 "com/example/interlace/interlace/core/IntColumn" "values" "[I" (.ref bb_24) := F_values_a1__24.same W26
    have pre27 : ∀ t, Steps p.tables e below (T26.setTop (mkF m 58 #[.val (.ref a1), .val (.int p2)] [])) t → Steps p.tables e below (s₁.setTop (entryFrame m #[(.ref a1), (.int p2)] 2)) t := fun t k => pre25 t (st26 _ k)
    have pre28 : ∀ t, Steps p.tables e below (T26.setTop (mkF m 59 #[.val (.ref a1), .val (.int p2)] [(.ref a1)])) t → Steps p.tables e below (s₁.setTop (entryFrame m #[(.ref a1), (.int p2)] 2)) t := fun t k => pre27 t (by
      show Steps p.tables e below (T26.setTop (mkF m 58 #[.val (.ref a1), .val (.int p2)] [])) t
      refine XS.aloadN X26.here hx rfl (hb hby d5_58) rfl rfl ?_
      show Steps p.tables e below (T26.setTop (mkF m 59 #[.val (.ref a1), .val (.int p2)] [(.ref a1)])) t
      exact k)
    obtain ⟨T29, X29, eh29, st29⟩ := getF X26 hx hZ hown (host := "") (Or.inl (hw _ (List.mem_of_getElem? (i := 17) rfl))) Via.refl eh26 F_values_a1__26 (g := (mkF m 59 #[.val (.ref a1), .val (.int p2)] [(.ref a1)])) rfl rfl (hb hby d5_59)
    have pre30 : ∀ t, Steps p.tables e below (T29.setTop (mkF m 62 #[.val (.ref a1), .val (.int p2)] [(.ref bb_24)])) t → Steps p.tables e below (s₁.setTop (entryFrame m #[(.ref a1), (.int p2)] 2)) t := fun t k => pre28 t (st29 _ k)
    have pre31 : ∀ t, Steps p.tables e below (T29.setTop (mkF m 64 #[.val (.ref a1), .val (.int p2)] [(.ref a1), (.ref a1), (.ref bb_24)])) t → Steps p.tables e below (s₁.setTop (entryFrame m #[(.ref a1), (.int p2)] 2)) t := fun t k => pre30 t (by
      show Steps p.tables e below (T29.setTop (mkF m 62 #[.val (.ref a1), .val (.int p2)] [(.ref bb_24)])) t
      refine XS.aloadN X29.here hx rfl (hb hby d5_62) rfl rfl ?_
      show Steps p.tables e below (T29.setTop (mkF m 63 #[.val (.ref a1), .val (.int p2)] [(.ref a1), (.ref bb_24)])) t
      refine XS.dup X29.here hx rfl (hb hby d5_63) rfl rfl ?_
      show Steps p.tables e below (T29.setTop (mkF m 64 #[.val (.ref a1), .val (.int p2)] [(.ref a1), (.ref a1), (.ref bb_24)])) t
      exact k)
    obtain ⟨T32, X32, eh32, st32⟩ := getF X29 hx hZ hown (host := "") (Or.inl (hw _ (List.mem_of_getElem? (i := 24) rfl))) Via.refl eh29 F_size_a1__26 (g := (mkF m 64 #[.val (.ref a1), .val (.int p2)] [(.ref a1), (.ref a1), (.ref bb_24)])) rfl rfl (hb hby d5_64)
    have pre33 : ∀ t, Steps p.tables e below (T32.setTop (mkF m 67 #[.val (.ref a1), .val (.int p2)] [(.int (3 : Int32)), (.ref a1), (.ref bb_24)])) t → Steps p.tables e below (s₁.setTop (entryFrame m #[(.ref a1), (.int p2)] 2)) t := fun t k => pre31 t (st32 _ k)
    have pre34 : ∀ t, Steps p.tables e below (T32.setTop (mkF m 70 #[.val (.ref a1), .val (.int p2)] [(.int (4 : Int32)), (.ref a1), (.int (3 : Int32)), (.ref bb_24)])) t → Steps p.tables e below (s₁.setTop (entryFrame m #[(.ref a1), (.int p2)] 2)) t := fun t k => pre33 t (by
      show Steps p.tables e below (T32.setTop (mkF m 67 #[.val (.ref a1), .val (.int p2)] [(.int (3 : Int32)), (.ref a1), (.ref bb_24)])) t
      refine XT.dupX1 X32.here hx rfl (hb hby d5_67) rfl rfl rfl ?_
      show Steps p.tables e below (T32.setTop (mkF m 68 #[.val (.ref a1), .val (.int p2)] [(.int (3 : Int32)), (.ref a1), (.int (3 : Int32)), (.ref bb_24)])) t
      refine XS.iconst X32.here hx rfl (hb hby d5_68) ?_
      show Steps p.tables e below (T32.setTop (mkF m 69 #[.val (.ref a1), .val (.int p2)] [(.int (1 : Int32)), (.int (3 : Int32)), (.ref a1), (.int (3 : Int32)), (.ref bb_24)])) t
      refine XS.iadd X32.here hx rfl (hb hby d5_69) rfl ?_
      show Steps p.tables e below (T32.setTop (mkF m 70 #[.val (.ref a1), .val (.int p2)] [(.int (4 : Int32)), (.ref a1), (.int (3 : Int32)), (.ref bb_24)])) t
      exact k)
    obtain ⟨T35, h35, X35, eh35, W35, st35⟩ := putF X32 hx hZ hown (host := "") (Or.inl (hw _ (List.mem_of_getElem? (i := 24) rfl))) Via.refl eh32 F_size_a1__26 E_a1__26 (Or.inl (hw _ (List.mem_of_getElem? (i := 25) rfl))) (hw _ (List.mem_of_getElem? (i := 8) rfl)) (ty := .int) (by decide) rfl rfl (g := (mkF m 70 #[.val (.ref a1), .val (.int p2)] [(.int (4 : Int32)), (.ref a1), (.int (3 : Int32)), (.ref bb_24)])) rfl rfl (hb hby d5_70)
    have E_a1__35 : Exa Z h35 a1 "com/example/interlace/interlace/core/IntColumn" := E_a1__26.wr W35
    have F_values_a1__35 : Fld Z h35 a1 "com/example/interlace/interlace/core/IntColumn" "values" "[I" (.ref bb_24) := F_values_a1__26.other W35 (Or.inr (slot_ne (Or.inl (hw _ (List.mem_of_getElem? (i := 18) rfl))) (Or.inl (hw _ (List.mem_of_getElem? (i := 25) rfl))) (by decide) (t := (.array .int)) (t' := .int) (by decide) (by decide)))
    have V_arL__35 : Arv Z h35 ar kk .int (3 : Int32) [(.int x0), (.int x1), (.int x2), (.int (0 : Int32))] (.int (0 : Int32)) := V_arL__26.other W35 (Ne.symm ne_a1_ar)
    have P24_2__35 : Arv Z h35 bb_24 kn_24 .int (6 : Int32) [(.int x0), (.int x1), (.int x2), (.int (0 : Int32))] (.int (0 : Int32)) := P24_2__26.other W35 (Ne.symm ne_a1_bb_24)
    have sz35 : n0 ≤ h35.size := Nat.le_trans sz26 (Keep.of_wr W35).1
    have K35 : Keep h0 h35 [a1, ar] := K26.wr W35 (Or.inl (List.mem_of_getElem? (i := 0) rfl))
    have N35 := Fr.snoc X35 N26 g_a1
    have F_size_a1__35 : Fld Z h35 a1 "com/example/interlace/interlace/core/IntColumn" "size" "I" (.int (4 : Int32)) := F_size_a1__26.same W35
    have pre36 : ∀ t, Steps p.tables e below (T35.setTop (mkF m 73 #[.val (.ref a1), .val (.int p2)] [(.int (3 : Int32)), (.ref bb_24)])) t → Steps p.tables e below (s₁.setTop (entryFrame m #[(.ref a1), (.int p2)] 2)) t := fun t k => pre34 t (st35 _ k)
    have pre37 : ∀ t, Steps p.tables e below (T35.setTop (mkF m 74 #[.val (.ref a1), .val (.int p2)] [(.int p2), (.int (3 : Int32)), (.ref bb_24)])) t → Steps p.tables e below (s₁.setTop (entryFrame m #[(.ref a1), (.int p2)] 2)) t := fun t k => pre36 t (by
      show Steps p.tables e below (T35.setTop (mkF m 73 #[.val (.ref a1), .val (.int p2)] [(.int (3 : Int32)), (.ref bb_24)])) t
      refine XS.iloadN X35.here hx rfl (hb hby d5_73) rfl ?_
      show Steps p.tables e below (T35.setTop (mkF m 74 #[.val (.ref a1), .val (.int p2)] [(.int p2), (.int (3 : Int32)), (.ref bb_24)])) t
      exact k)
    obtain ⟨cl38, Ar38, q38, S38, N38q, H38, G38⟩ := P24_2__35
    have hin38 : ¬ ((3 : Int32) < 0 ∨ cl38.slots.size ≤ ((3 : Int32)).toNatClampNeg) := inb_of S38 ⟨by decide, by decide⟩
    obtain ⟨T38, h38, X38, eh38, W38, st38⟩ := stI X35 hx hZ eh35 Ar38 (j := (3 : Int32)) hin38 (g := (mkF m 74 #[.val (.ref a1), .val (.int p2)] [(.int p2), (.int (3 : Int32)), (.ref bb_24)])) rfl rfl (hb hby d5_74)
    have E_a1__38 : Exa Z h38 a1 "com/example/interlace/interlace/core/IntColumn" := E_a1__35.wr W38
    have F_values_a1__38 : Fld Z h38 a1 "com/example/interlace/interlace/core/IntColumn" "values" "[I" (.ref bb_24) := F_values_a1__35.other W38 (Or.inl ne_a1_bb_24)
    have F_size_a1__38 : Fld Z h38 a1 "com/example/interlace/interlace/core/IntColumn" "size" "I" (.int (4 : Int32)) := F_size_a1__35.other W38 (Or.inl ne_a1_bb_24)
    have V_arL__38 : Arv Z h38 ar kk .int (3 : Int32) [(.int x0), (.int x1), (.int x2), (.int (0 : Int32))] (.int (0 : Int32)) := V_arL__35.other W38 ne_ar_bb_24
    have sz38 : n0 ≤ h38.size := Nat.le_trans sz35 (Keep.of_wr W38).1
    have K38 : Keep h0 h38 [a1, ar] := K35.wr W38 (Or.inr bo_bb_24)
    have N38 := Fr.snoc X38 N35 g_bb_24
    have V_bb_24__38 : Arv Z h38 bb_24 kn_24 .int (6 : Int32) [(.int x0), (.int x1), (.int x2), (.int p2)] (.int (0 : Int32)) := Arv.set Ar38 q38 S38 N38q H38 G38 rfl W38 3 rfl (Nat.le_of_ble_eq_true rfl)
    have pre39 : ∀ t, Steps p.tables e below (T38.setTop (mkF m 75 #[.val (.ref a1), .val (.int p2)] [])) t → Steps p.tables e below (s₁.setTop (entryFrame m #[(.ref a1), (.int p2)] 2)) t := fun t k => pre37 t (st38 _ k)
    obtain ⟨fs, hr, hrun, hended, hW, hsame⟩ := X38.leave (v := none) (fun _ => rfl)
    refine ⟨_, _, pre39 _ ?_, hrun, hended, _, _, rfl, ?_, ⟨_, rfl⟩, hW, hsame.mono (by decide) (by decide)⟩
    · show Steps p.tables e below (T38.setTop (mkF m 75 #[.val (.ref a1), .val (.int p2)] [])) _
      exact X38.returnOut hx Bd.returns (hb hby d5_75) hr
    · show QAD3 Z a1 p2 ar kk cap x0 x1 x2 h0 n0 _ T38.heap _
      rw [eh38]
      exact ⟨bb_24, kn_24, (6 : Int32), rfl, N38, K38, E_a1__38, F_values_a1__38, F_size_a1__38, V_bb_24__38, g_bb_24, ne_a1_bb_24, (by decide), (by decide)⟩
  · skip
    have pre40 : ∀ t, Steps p.tables e below (T5.setTop (mkF m 59 #[.val (.ref a1), .val (.int p2)] [(.ref a1)])) t → Steps p.tables e below (s₁.setTop (entryFrame m #[(.ref a1), (.int p2)] 2)) t := fun t k => pre8 t (by
      show Steps p.tables e below (T5.setTop (mkF m 9 #[.val (.ref a1), .val (.int p2)] [(.int cap), (.int (3 : Int32))])) t
      refine XS.icmpYes X5.here hx rfl (pc0 := 9) (pc' := 58) rfl (hb hby d5_9) rfl (XT.ii_ne_t hc9_7) (by decide) (by decide) ?_
      show Steps p.tables e below (T5.setTop (mkF m 58 #[.val (.ref a1), .val (.int p2)] [])) t
      refine XS.aloadN X5.here hx rfl (hb hby d5_58) rfl rfl ?_
      show Steps p.tables e below (T5.setTop (mkF m 59 #[.val (.ref a1), .val (.int p2)] [(.ref a1)])) t
      exact k)
    obtain ⟨T41, X41, eh41, st41⟩ := getF X5 hx hZ hown (host := "") (Or.inl (hw _ (List.mem_of_getElem? (i := 17) rfl))) Via.refl eh5 F_values_a1 (g := (mkF m 59 #[.val (.ref a1), .val (.int p2)] [(.ref a1)])) rfl rfl (hb hby d5_59)
    have pre42 : ∀ t, Steps p.tables e below (T41.setTop (mkF m 62 #[.val (.ref a1), .val (.int p2)] [(.ref ar)])) t → Steps p.tables e below (s₁.setTop (entryFrame m #[(.ref a1), (.int p2)] 2)) t := fun t k => pre40 t (st41 _ k)
    have pre43 : ∀ t, Steps p.tables e below (T41.setTop (mkF m 64 #[.val (.ref a1), .val (.int p2)] [(.ref a1), (.ref a1), (.ref ar)])) t → Steps p.tables e below (s₁.setTop (entryFrame m #[(.ref a1), (.int p2)] 2)) t := fun t k => pre42 t (by
      show Steps p.tables e below (T41.setTop (mkF m 62 #[.val (.ref a1), .val (.int p2)] [(.ref ar)])) t
      refine XS.aloadN X41.here hx rfl (hb hby d5_62) rfl rfl ?_
      show Steps p.tables e below (T41.setTop (mkF m 63 #[.val (.ref a1), .val (.int p2)] [(.ref a1), (.ref ar)])) t
      refine XS.dup X41.here hx rfl (hb hby d5_63) rfl rfl ?_
      show Steps p.tables e below (T41.setTop (mkF m 64 #[.val (.ref a1), .val (.int p2)] [(.ref a1), (.ref a1), (.ref ar)])) t
      exact k)
    obtain ⟨T44, X44, eh44, st44⟩ := getF X41 hx hZ hown (host := "") (Or.inl (hw _ (List.mem_of_getElem? (i := 24) rfl))) Via.refl eh41 F_size_a1 (g := (mkF m 64 #[.val (.ref a1), .val (.int p2)] [(.ref a1), (.ref a1), (.ref ar)])) rfl rfl (hb hby d5_64)
    have pre45 : ∀ t, Steps p.tables e below (T44.setTop (mkF m 67 #[.val (.ref a1), .val (.int p2)] [(.int (3 : Int32)), (.ref a1), (.ref ar)])) t → Steps p.tables e below (s₁.setTop (entryFrame m #[(.ref a1), (.int p2)] 2)) t := fun t k => pre43 t (st44 _ k)
    have pre46 : ∀ t, Steps p.tables e below (T44.setTop (mkF m 70 #[.val (.ref a1), .val (.int p2)] [(.int (4 : Int32)), (.ref a1), (.int (3 : Int32)), (.ref ar)])) t → Steps p.tables e below (s₁.setTop (entryFrame m #[(.ref a1), (.int p2)] 2)) t := fun t k => pre45 t (by
      show Steps p.tables e below (T44.setTop (mkF m 67 #[.val (.ref a1), .val (.int p2)] [(.int (3 : Int32)), (.ref a1), (.ref ar)])) t
      refine XT.dupX1 X44.here hx rfl (hb hby d5_67) rfl rfl rfl ?_
      show Steps p.tables e below (T44.setTop (mkF m 68 #[.val (.ref a1), .val (.int p2)] [(.int (3 : Int32)), (.ref a1), (.int (3 : Int32)), (.ref ar)])) t
      refine XS.iconst X44.here hx rfl (hb hby d5_68) ?_
      show Steps p.tables e below (T44.setTop (mkF m 69 #[.val (.ref a1), .val (.int p2)] [(.int (1 : Int32)), (.int (3 : Int32)), (.ref a1), (.int (3 : Int32)), (.ref ar)])) t
      refine XS.iadd X44.here hx rfl (hb hby d5_69) rfl ?_
      show Steps p.tables e below (T44.setTop (mkF m 70 #[.val (.ref a1), .val (.int p2)] [(.int (4 : Int32)), (.ref a1), (.int (3 : Int32)), (.ref ar)])) t
      exact k)
    obtain ⟨T47, h47, X47, eh47, W47, st47⟩ := putF X44 hx hZ hown (host := "") (Or.inl (hw _ (List.mem_of_getElem? (i := 24) rfl))) Via.refl eh44 F_size_a1 E_a1 (Or.inl (hw _ (List.mem_of_getElem? (i := 25) rfl))) (hw _ (List.mem_of_getElem? (i := 8) rfl)) (ty := .int) (by decide) rfl rfl (g := (mkF m 70 #[.val (.ref a1), .val (.int p2)] [(.int (4 : Int32)), (.ref a1), (.int (3 : Int32)), (.ref ar)])) rfl rfl (hb hby d5_70)
    have E_a1__47 : Exa Z h47 a1 "com/example/interlace/interlace/core/IntColumn" := E_a1.wr W47
    have F_values_a1__47 : Fld Z h47 a1 "com/example/interlace/interlace/core/IntColumn" "values" "[I" (.ref ar) := F_values_a1.other W47 (Or.inr (slot_ne (Or.inl (hw _ (List.mem_of_getElem? (i := 18) rfl))) (Or.inl (hw _ (List.mem_of_getElem? (i := 25) rfl))) (by decide) (t := (.array .int)) (t' := .int) (by decide) (by decide)))
    have V_ar__47 : Arv Z h47 ar kk .int cap [(.int x0), (.int x1), (.int x2), (.int (0 : Int32))] (.int (0 : Int32)) := V_ar.other W47 (Ne.symm ne_a1_ar)
    have sz47 : n0 ≤ h47.size := Nat.le_trans Z0 (Keep.of_wr W47).1
    have K47 : Keep h0 h47 [a1, ar] := K0.wr W47 (Or.inl (List.mem_of_getElem? (i := 0) rfl))
    have N47 := Fr.snoc X47 N0 g_a1
    have F_size_a1__47 : Fld Z h47 a1 "com/example/interlace/interlace/core/IntColumn" "size" "I" (.int (4 : Int32)) := F_size_a1.same W47
    have pre48 : ∀ t, Steps p.tables e below (T47.setTop (mkF m 73 #[.val (.ref a1), .val (.int p2)] [(.int (3 : Int32)), (.ref ar)])) t → Steps p.tables e below (s₁.setTop (entryFrame m #[(.ref a1), (.int p2)] 2)) t := fun t k => pre46 t (st47 _ k)
    have pre49 : ∀ t, Steps p.tables e below (T47.setTop (mkF m 74 #[.val (.ref a1), .val (.int p2)] [(.int p2), (.int (3 : Int32)), (.ref ar)])) t → Steps p.tables e below (s₁.setTop (entryFrame m #[(.ref a1), (.int p2)] 2)) t := fun t k => pre48 t (by
      show Steps p.tables e below (T47.setTop (mkF m 73 #[.val (.ref a1), .val (.int p2)] [(.int (3 : Int32)), (.ref ar)])) t
      refine XS.iloadN X47.here hx rfl (hb hby d5_73) rfl ?_
      show Steps p.tables e below (T47.setTop (mkF m 74 #[.val (.ref a1), .val (.int p2)] [(.int p2), (.int (3 : Int32)), (.ref ar)])) t
      exact k)
    obtain ⟨cl50, Ar50, q50, S50, N50q, H50, G50⟩ := V_ar__47
    have hin50 : ¬ ((3 : Int32) < 0 ∨ cl50.slots.size ≤ ((3 : Int32)).toNatClampNeg) := inb_of S50 ⟨by decide, own_lt _ hcap (by assumption)⟩
    obtain ⟨T50, h50, X50, eh50, W50, st50⟩ := stI X47 hx hZ eh47 Ar50 (j := (3 : Int32)) hin50 (g := (mkF m 74 #[.val (.ref a1), .val (.int p2)] [(.int p2), (.int (3 : Int32)), (.ref ar)])) rfl rfl (hb hby d5_74)
    have E_a1__50 : Exa Z h50 a1 "com/example/interlace/interlace/core/IntColumn" := E_a1__47.wr W50
    have F_values_a1__50 : Fld Z h50 a1 "com/example/interlace/interlace/core/IntColumn" "values" "[I" (.ref ar) := F_values_a1__47.other W50 (Or.inl ne_a1_ar)
    have F_size_a1__50 : Fld Z h50 a1 "com/example/interlace/interlace/core/IntColumn" "size" "I" (.int (4 : Int32)) := F_size_a1__47.other W50 (Or.inl ne_a1_ar)
    have sz50 : n0 ≤ h50.size := Nat.le_trans sz47 (Keep.of_wr W50).1
    have K50 : Keep h0 h50 [a1, ar] := K47.wr W50 (Or.inl (List.mem_of_getElem? (i := 1) rfl))
    have N50 := Fr.snoc X50 N47 g_ar
    have V_ar__50 : Arv Z h50 ar kk .int cap [(.int x0), (.int x1), (.int x2), (.int p2)] (.int (0 : Int32)) := Arv.set Ar50 q50 S50 N50q H50 G50 rfl W50 3 rfl (Nat.le_of_ble_eq_true rfl)
    have pre51 : ∀ t, Steps p.tables e below (T50.setTop (mkF m 75 #[.val (.ref a1), .val (.int p2)] [])) t → Steps p.tables e below (s₁.setTop (entryFrame m #[(.ref a1), (.int p2)] 2)) t := fun t k => pre49 t (st50 _ k)
    obtain ⟨fs, hr, hrun, hended, hW, hsame⟩ := X50.leave (v := none) (fun _ => rfl)
    refine ⟨_, _, pre51 _ ?_, hrun, hended, _, _, rfl, ?_, ⟨_, rfl⟩, hW, hsame.mono (by decide) (by decide)⟩
    · show Steps p.tables e below (T50.setTop (mkF m 75 #[.val (.ref a1), .val (.int p2)] [])) _
      exact X50.returnOut hx Bd.returns (hb hby d5_75) hr
    · show QAD3 Z a1 p2 ar kk cap x0 x1 x2 h0 n0 _ T50.heap _
      rw [eh50]
      exact ⟨ar, kk, cap, rfl, N50, K50, E_a1__50, F_values_a1__50, F_size_a1__50, V_ar__50, g_ar, ne_a1_ar, (own_up (own_lt (3 : Int32) hcap (by assumption)) (by decide)), hc1⟩
theorem ef_FA0 (m : MethodId) (a1 : Addr) (p2 : Int32) : entryFrame m #[(.ref a1), (.int p2)] 5 = mkF m 0 #[.val (.ref a1), .val (.int p2), .unset, .unset, .unset] [] := by first | (simp [entryFrame, mkF, argsToLocals, Value.category]; done) | rfl
theorem d9_0 : decode prog_78_method_8_code 0 = .ok (.iconst 0, 1) := by decide +kernel
theorem d9_1 : decode prog_78_method_8_code 1 = .ok (.istore_n 2, 1) := by decide +kernel
theorem d9_2 : decode prog_78_method_8_code 2 = .ok (.aload_n 0, 1) := by decide +kernel
theorem d9_3 : decode prog_78_method_8_code 3 = .ok (.getfield 18, 3) := by decide +kernel
theorem d9_6 : decode prog_78_method_8_code 6 = .ok (.istore_n 3, 1) := by decide +kernel
theorem d9_7 : decode prog_78_method_8_code 7 = .ok (.iload_n 2, 1) := by decide +kernel
theorem d9_8 : decode prog_78_method_8_code 8 = .ok (.iload_n 3, 1) := by decide +kernel
theorem d9_9 : decode prog_78_method_8_code 9 = .ok (.if_icmp .ge 35, 3) := by decide +kernel
theorem d9_44 : decode prog_78_method_8_code 44 = .ok (.iload_n 2, 1) := by decide +kernel
theorem d9_45 : decode prog_78_method_8_code 45 = .ok (.ireturn, 1) := by decide +kernel
def QFA0 (Z : State) (a1 : Addr) (p2 : Int32) (ar : Addr) (kk : ClassId) (cap : Int32) (h0 : Heap) (n0 : Nat) (v : Option Value) (h : Heap) (L : List Loc) : Prop := v = some (.int (own_fa0 p2)) ∧ Fr n0 L ∧ h = h0
set_option maxRecDepth 65536 in
set_option maxHeartbeats 40000000 in
theorem rmFA0 (l : Launch) (Z : State) (a0 : Array Value) (hw : ∀ d ∈ tables_1, d.before a0 Z = true) (ws : List Jvm.Cond) (a1 : Addr) (p2 : Int32) (ar : Addr) (kk : ClassId) (cap : Int32) (h0 : Heap) (n0 : Nat) (Z0 : n0 ≤ h0.size) (F_values_a1 : Fld Z h0 a1 "com/example/interlace/interlace/core/IntColumn" "values" "[I" (.ref ar)) (F_size_a1 : Fld Z h0 a1 "com/example/interlace/interlace/core/IntColumn" "size" "I" (.int (0 : Int32))) (V_ar : Arv Z h0 ar kk .int cap [(.int (0 : Int32)), (.int (0 : Int32)), (.int (0 : Int32)), (.int (0 : Int32))] (.int (0 : Int32))) (hcap : ¬ cap < (0 : Int32)) :
    MetFree l (⟨"com/example/interlace/interlace/core/IntColumn", "firstAbove", "(I)I"⟩ : MethodName) (head1 (Jvm.Cond.code (⟨"com/example/interlace/interlace/core/IntColumn", "firstAbove", "(I)I"⟩ : MethodName) prog_78_method_8_code 5 (some .int) :: ws) ({ frames := 0, cells := 0, slots := 0, locals := 0 } : Room)) (fun a U => a = #[(.ref a1), (.int p2)] ∧ Z.Warmed39 U.vm ∧ U.heap = h0) (fun _ _ _ _ _ => True) (fun _ U o U' => ∃ v L, o = .returned v ∧ QFA0 Z a1 p2 ar kk cap h0 n0 v U'.heap L ∧ FrameEnd U o U' L ({ frames := 0, cells := 0, slots := 0, locals := 0 } : Room).cells ({ frames := 0, cells := 0, slots := 0, locals := 0 } : Room).slots) := by
  refine MetFree.of_bodySF (plainFor_of_name pn_com_example_interlace_interlace_core_IntColumn) hisR ?_
  intro p e s m args below meth c s₁ Bd hml0 hP hK
  obtain ⟨rfl, hZ, hh⟩ := hP
  have hx := Bd.exec
  have hby := Bd.bytes
  have hml : c.maxLocals = 5 := hml0
  have hown : s.vm.findClass "com/example/interlace/interlace/core/IntColumn" = some m.cls := findClass_of_methodNamed Bd.named
  have hnm := (name_of_methodNamed Bd.named Bd.method).1
  have X0 : Stand p l e ({ frames := 0, cells := 0, slots := 0, locals := 0 } : Room) s m #[(.ref a1), (.int p2)] below meth c s₁ [] 0 0 := Stand.of_body Bd
  have eh0 : s₁.heap = h0 := by rw [← hh, Bd.state]; rfl
  have N0 := Fr.nil n0
  have pre0 : ∀ t, Steps p.tables e below (s₁.setTop (mkF m 0 #[.val (.ref a1), .val (.int p2), .unset, .unset, .unset] [])) t → Steps p.tables e below (s₁.setTop (entryFrame m #[(.ref a1), (.int p2)] 5)) t := fun t k => castTop (ef_FA0 m a1 p2) k
  have pre1 : ∀ t, Steps p.tables e below (s₁.setTop (mkF m 3 #[.val (.ref a1), .val (.int p2), .val (.int (0 : Int32)), .unset, .unset] [(.ref a1)])) t → Steps p.tables e below (s₁.setTop (entryFrame m #[(.ref a1), (.int p2)] 5)) t := fun t k => pre0 t (by
    show Steps p.tables e below (s₁.setTop (mkF m 0 #[.val (.ref a1), .val (.int p2), .unset, .unset, .unset] [])) t
    refine XS.iconst X0.here hx rfl (hb hby d9_0) ?_
    show Steps p.tables e below (s₁.setTop (mkF m 1 #[.val (.ref a1), .val (.int p2), .unset, .unset, .unset] [(.int (0 : Int32))])) t
    refine XS.istoreN X0.here hx rfl (hb hby d9_1) rfl (l' := #[.val (.ref a1), .val (.int p2), .val (.int (0 : Int32)), .unset, .unset]) rfl ?_
    show Steps p.tables e below (s₁.setTop (mkF m 2 #[.val (.ref a1), .val (.int p2), .val (.int (0 : Int32)), .unset, .unset] [])) t
    refine XS.aloadN X0.here hx rfl (hb hby d9_2) rfl rfl ?_
    show Steps p.tables e below (s₁.setTop (mkF m 3 #[.val (.ref a1), .val (.int p2), .val (.int (0 : Int32)), .unset, .unset] [(.ref a1)])) t
    exact k)
  obtain ⟨T2, X2, eh2, st2⟩ := getF X0 hx hZ hown (host := "") (Or.inl (hw _ (List.mem_of_getElem? (i := 24) rfl))) Via.refl eh0 F_size_a1 (g := (mkF m 3 #[.val (.ref a1), .val (.int p2), .val (.int (0 : Int32)), .unset, .unset] [(.ref a1)])) rfl rfl (hb hby d9_3)
  have pre3 : ∀ t, Steps p.tables e below (T2.setTop (mkF m 6 #[.val (.ref a1), .val (.int p2), .val (.int (0 : Int32)), .unset, .unset] [(.int (0 : Int32))])) t → Steps p.tables e below (s₁.setTop (entryFrame m #[(.ref a1), (.int p2)] 5)) t := fun t k => pre1 t (st2 _ k)
  have pre5 : ∀ t, Steps p.tables e below (T2.setTop (mkF m 45 #[.val (.ref a1), .val (.int p2), .val (.int (0 : Int32)), .val (.int (0 : Int32)), .unset] [(.int (0 : Int32))])) t → Steps p.tables e below (s₁.setTop (entryFrame m #[(.ref a1), (.int p2)] 5)) t := fun t k => pre3 t (by
    show Steps p.tables e below (T2.setTop (mkF m 6 #[.val (.ref a1), .val (.int p2), .val (.int (0 : Int32)), .unset, .unset] [(.int (0 : Int32))])) t
    refine XS.istoreN X2.here hx rfl (hb hby d9_6) rfl (l' := #[.val (.ref a1), .val (.int p2), .val (.int (0 : Int32)), .val (.int (0 : Int32)), .unset]) rfl ?_
    show Steps p.tables e below (T2.setTop (mkF m 7 #[.val (.ref a1), .val (.int p2), .val (.int (0 : Int32)), .val (.int (0 : Int32)), .unset] [])) t
    refine XS.iloadN X2.here hx rfl (hb hby d9_7) rfl ?_
    show Steps p.tables e below (T2.setTop (mkF m 8 #[.val (.ref a1), .val (.int p2), .val (.int (0 : Int32)), .val (.int (0 : Int32)), .unset] [(.int (0 : Int32))])) t
    refine XS.iloadN X2.here hx rfl (hb hby d9_8) rfl ?_
    show Steps p.tables e below (T2.setTop (mkF m 9 #[.val (.ref a1), .val (.int p2), .val (.int (0 : Int32)), .val (.int (0 : Int32)), .unset] [(.int (0 : Int32)), (.int (0 : Int32))])) t
    refine XS.icmpYes X2.here hx rfl (pc0 := 9) (pc' := 44) rfl (hb hby d9_9) rfl (XT.ii_ge_t (show ¬ ((0 : Int32) < (0 : Int32)) from by decide)) (by decide) (by decide) ?_
    show Steps p.tables e below (T2.setTop (mkF m 44 #[.val (.ref a1), .val (.int p2), .val (.int (0 : Int32)), .val (.int (0 : Int32)), .unset] [])) t
    refine XS.iloadN X2.here hx rfl (hb hby d9_44) rfl ?_
    show Steps p.tables e below (T2.setTop (mkF m 45 #[.val (.ref a1), .val (.int p2), .val (.int (0 : Int32)), .val (.int (0 : Int32)), .unset] [(.int (0 : Int32))])) t
    exact k)
  obtain ⟨fs, hr, hrun, hended, hW, hsame⟩ := X2.leave (v := some (.int (0 : Int32))) (fun h => by rw [Bd.returns] at h; cases h)
  refine ⟨_, _, pre5 _ ?_, hrun, hended, _, _, rfl, ?_, ⟨_, rfl⟩, hW, hsame.mono (by decide) (by decide)⟩
  · show Steps p.tables e below (T2.setTop (mkF m 45 #[.val (.ref a1), .val (.int p2), .val (.int (0 : Int32)), .val (.int (0 : Int32)), .unset] [(.int (0 : Int32))])) _
    exact retI X2 hx Bd.returns (hb hby d9_45) hr
  · show QFA0 Z a1 p2 ar kk cap h0 n0 _ T2.heap _
    rw [eh2]
    exact ⟨(congrArg (fun z => some (Value.int z)) (show (0 : Int32) = (own_fa0 p2) from (by simp only [own_fa0]))), N0, rfl⟩
theorem ef_FA1 (m : MethodId) (a1 : Addr) (p2 : Int32) : entryFrame m #[(.ref a1), (.int p2)] 5 = mkF m 0 #[.val (.ref a1), .val (.int p2), .unset, .unset, .unset] [] := by first | (simp [entryFrame, mkF, argsToLocals, Value.category]; done) | rfl
theorem d9_12 : decode prog_78_method_8_code 12 = .ok (.iload_n 2, 1) := by decide +kernel
theorem d9_13 : decode prog_78_method_8_code 13 = .ok (.iload_n 3, 1) := by decide +kernel
theorem d9_14 : decode prog_78_method_8_code 14 = .ok (.iadd, 1) := by decide +kernel
theorem d9_15 : decode prog_78_method_8_code 15 = .ok (.iconst 1, 1) := by decide +kernel
theorem d9_16 : decode prog_78_method_8_code 16 = .ok (.iushr, 1) := by decide +kernel
theorem d9_17 : decode prog_78_method_8_code 17 = .ok (.istore 4, 2) := by decide +kernel
theorem d9_19 : decode prog_78_method_8_code 19 = .ok (.aload_n 0, 1) := by decide +kernel
theorem d9_20 : decode prog_78_method_8_code 20 = .ok (.getfield 14, 3) := by decide +kernel
theorem d9_23 : decode prog_78_method_8_code 23 = .ok (.iload 4, 2) := by decide +kernel
theorem d9_25 : decode prog_78_method_8_code 25 = .ok (.iaload, 1) := by decide +kernel
theorem d9_26 : decode prog_78_method_8_code 26 = .ok (.iload_n 1, 1) := by decide +kernel
theorem d9_27 : decode prog_78_method_8_code 27 = .ok (.if_icmp .gt 11, 3) := by decide +kernel
theorem d9_38 : decode prog_78_method_8_code 38 = .ok (.iload 4, 2) := by decide +kernel
theorem d9_40 : decode prog_78_method_8_code 40 = .ok (.istore_n 3, 1) := by decide +kernel
theorem d9_41 : decode prog_78_method_8_code 41 = .ok (.goto (-34), 3) := by decide +kernel
theorem d9_30 : decode prog_78_method_8_code 30 = .ok (.iload 4, 2) := by decide +kernel
theorem d9_32 : decode prog_78_method_8_code 32 = .ok (.iconst 1, 1) := by decide +kernel
theorem d9_33 : decode prog_78_method_8_code 33 = .ok (.iadd, 1) := by decide +kernel
theorem d9_34 : decode prog_78_method_8_code 34 = .ok (.istore_n 2, 1) := by decide +kernel
theorem d9_35 : decode prog_78_method_8_code 35 = .ok (.goto 6, 3) := by decide +kernel
def QFA1 (Z : State) (a1 : Addr) (p2 : Int32) (ar : Addr) (kk : ClassId) (cap : Int32) (x0 : Int32) (h0 : Heap) (n0 : Nat) (v : Option Value) (h : Heap) (L : List Loc) : Prop := v = some (.int (own_fa1 x0 p2)) ∧ Fr n0 L ∧ h = h0
set_option maxRecDepth 65536 in
set_option maxHeartbeats 40000000 in
theorem rmFA1 (l : Launch) (Z : State) (a0 : Array Value) (hw : ∀ d ∈ tables_1, d.before a0 Z = true) (ws : List Jvm.Cond) (a1 : Addr) (p2 : Int32) (ar : Addr) (kk : ClassId) (cap : Int32) (x0 : Int32) (h0 : Heap) (n0 : Nat) (Z0 : n0 ≤ h0.size) (F_values_a1 : Fld Z h0 a1 "com/example/interlace/interlace/core/IntColumn" "values" "[I" (.ref ar)) (F_size_a1 : Fld Z h0 a1 "com/example/interlace/interlace/core/IntColumn" "size" "I" (.int (1 : Int32))) (V_ar : Arv Z h0 ar kk .int cap [(.int x0), (.int (0 : Int32)), (.int (0 : Int32)), (.int (0 : Int32))] (.int (0 : Int32))) (hcap : ¬ cap < (1 : Int32)) :
    MetFree l (⟨"com/example/interlace/interlace/core/IntColumn", "firstAbove", "(I)I"⟩ : MethodName) (head1 (Jvm.Cond.code (⟨"com/example/interlace/interlace/core/IntColumn", "firstAbove", "(I)I"⟩ : MethodName) prog_78_method_8_code 5 (some .int) :: ws) ({ frames := 0, cells := 0, slots := 0, locals := 0 } : Room)) (fun a U => a = #[(.ref a1), (.int p2)] ∧ Z.Warmed39 U.vm ∧ U.heap = h0) (fun _ _ _ _ _ => True) (fun _ U o U' => ∃ v L, o = .returned v ∧ QFA1 Z a1 p2 ar kk cap x0 h0 n0 v U'.heap L ∧ FrameEnd U o U' L ({ frames := 0, cells := 0, slots := 0, locals := 0 } : Room).cells ({ frames := 0, cells := 0, slots := 0, locals := 0 } : Room).slots) := by
  refine MetFree.of_bodySF (plainFor_of_name pn_com_example_interlace_interlace_core_IntColumn) hisR ?_
  intro p e s m args below meth c s₁ Bd hml0 hP hK
  obtain ⟨rfl, hZ, hh⟩ := hP
  have hx := Bd.exec
  have hby := Bd.bytes
  have hml : c.maxLocals = 5 := hml0
  have hown : s.vm.findClass "com/example/interlace/interlace/core/IntColumn" = some m.cls := findClass_of_methodNamed Bd.named
  have hnm := (name_of_methodNamed Bd.named Bd.method).1
  have X0 : Stand p l e ({ frames := 0, cells := 0, slots := 0, locals := 0 } : Room) s m #[(.ref a1), (.int p2)] below meth c s₁ [] 0 0 := Stand.of_body Bd
  have eh0 : s₁.heap = h0 := by rw [← hh, Bd.state]; rfl
  have N0 := Fr.nil n0
  have pre0 : ∀ t, Steps p.tables e below (s₁.setTop (mkF m 0 #[.val (.ref a1), .val (.int p2), .unset, .unset, .unset] [])) t → Steps p.tables e below (s₁.setTop (entryFrame m #[(.ref a1), (.int p2)] 5)) t := fun t k => castTop (ef_FA1 m a1 p2) k
  have pre1 : ∀ t, Steps p.tables e below (s₁.setTop (mkF m 3 #[.val (.ref a1), .val (.int p2), .val (.int (0 : Int32)), .unset, .unset] [(.ref a1)])) t → Steps p.tables e below (s₁.setTop (entryFrame m #[(.ref a1), (.int p2)] 5)) t := fun t k => pre0 t (by
    show Steps p.tables e below (s₁.setTop (mkF m 0 #[.val (.ref a1), .val (.int p2), .unset, .unset, .unset] [])) t
    refine XS.iconst X0.here hx rfl (hb hby d9_0) ?_
    show Steps p.tables e below (s₁.setTop (mkF m 1 #[.val (.ref a1), .val (.int p2), .unset, .unset, .unset] [(.int (0 : Int32))])) t
    refine XS.istoreN X0.here hx rfl (hb hby d9_1) rfl (l' := #[.val (.ref a1), .val (.int p2), .val (.int (0 : Int32)), .unset, .unset]) rfl ?_
    show Steps p.tables e below (s₁.setTop (mkF m 2 #[.val (.ref a1), .val (.int p2), .val (.int (0 : Int32)), .unset, .unset] [])) t
    refine XS.aloadN X0.here hx rfl (hb hby d9_2) rfl rfl ?_
    show Steps p.tables e below (s₁.setTop (mkF m 3 #[.val (.ref a1), .val (.int p2), .val (.int (0 : Int32)), .unset, .unset] [(.ref a1)])) t
    exact k)
  obtain ⟨T2, X2, eh2, st2⟩ := getF X0 hx hZ hown (host := "") (Or.inl (hw _ (List.mem_of_getElem? (i := 24) rfl))) Via.refl eh0 F_size_a1 (g := (mkF m 3 #[.val (.ref a1), .val (.int p2), .val (.int (0 : Int32)), .unset, .unset] [(.ref a1)])) rfl rfl (hb hby d9_3)
  have pre3 : ∀ t, Steps p.tables e below (T2.setTop (mkF m 6 #[.val (.ref a1), .val (.int p2), .val (.int (0 : Int32)), .unset, .unset] [(.int (1 : Int32))])) t → Steps p.tables e below (s₁.setTop (entryFrame m #[(.ref a1), (.int p2)] 5)) t := fun t k => pre1 t (st2 _ k)
  have pre5 : ∀ t, Steps p.tables e below (T2.setTop (mkF m 20 #[.val (.ref a1), .val (.int p2), .val (.int (0 : Int32)), .val (.int (1 : Int32)), .val (.int (0 : Int32))] [(.ref a1)])) t → Steps p.tables e below (s₁.setTop (entryFrame m #[(.ref a1), (.int p2)] 5)) t := fun t k => pre3 t (by
    show Steps p.tables e below (T2.setTop (mkF m 6 #[.val (.ref a1), .val (.int p2), .val (.int (0 : Int32)), .unset, .unset] [(.int (1 : Int32))])) t
    refine XS.istoreN X2.here hx rfl (hb hby d9_6) rfl (l' := #[.val (.ref a1), .val (.int p2), .val (.int (0 : Int32)), .val (.int (1 : Int32)), .unset]) rfl ?_
    show Steps p.tables e below (T2.setTop (mkF m 7 #[.val (.ref a1), .val (.int p2), .val (.int (0 : Int32)), .val (.int (1 : Int32)), .unset] [])) t
    refine XS.iloadN X2.here hx rfl (hb hby d9_7) rfl ?_
    show Steps p.tables e below (T2.setTop (mkF m 8 #[.val (.ref a1), .val (.int p2), .val (.int (0 : Int32)), .val (.int (1 : Int32)), .unset] [(.int (0 : Int32))])) t
    refine XS.iloadN X2.here hx rfl (hb hby d9_8) rfl ?_
    show Steps p.tables e below (T2.setTop (mkF m 9 #[.val (.ref a1), .val (.int p2), .val (.int (0 : Int32)), .val (.int (1 : Int32)), .unset] [(.int (1 : Int32)), (.int (0 : Int32))])) t
    refine XS.icmpNo X2.here hx rfl (hb hby d9_9) rfl (XT.ii_ge_f (show (0 : Int32) < (1 : Int32) from by decide)) ?_
    show Steps p.tables e below (T2.setTop (mkF m 12 #[.val (.ref a1), .val (.int p2), .val (.int (0 : Int32)), .val (.int (1 : Int32)), .unset] [])) t
    refine XS.iloadN X2.here hx rfl (hb hby d9_12) rfl ?_
    show Steps p.tables e below (T2.setTop (mkF m 13 #[.val (.ref a1), .val (.int p2), .val (.int (0 : Int32)), .val (.int (1 : Int32)), .unset] [(.int (0 : Int32))])) t
    refine XS.iloadN X2.here hx rfl (hb hby d9_13) rfl ?_
    show Steps p.tables e below (T2.setTop (mkF m 14 #[.val (.ref a1), .val (.int p2), .val (.int (0 : Int32)), .val (.int (1 : Int32)), .unset] [(.int (1 : Int32)), (.int (0 : Int32))])) t
    refine XS.iadd X2.here hx rfl (hb hby d9_14) rfl ?_
    show Steps p.tables e below (T2.setTop (mkF m 15 #[.val (.ref a1), .val (.int p2), .val (.int (0 : Int32)), .val (.int (1 : Int32)), .unset] [(.int (1 : Int32))])) t
    refine XS.iconst X2.here hx rfl (hb hby d9_15) ?_
    show Steps p.tables e below (T2.setTop (mkF m 16 #[.val (.ref a1), .val (.int p2), .val (.int (0 : Int32)), .val (.int (1 : Int32)), .unset] [(.int (1 : Int32)), (.int (1 : Int32))])) t
    refine XT.iushr X2.here hx rfl (hb hby d9_16) rfl ?_
    show Steps p.tables e below (T2.setTop (mkF m 17 #[.val (.ref a1), .val (.int p2), .val (.int (0 : Int32)), .val (.int (1 : Int32)), .unset] [(.int (0 : Int32))])) t
    refine XS.istore X2.here hx rfl (hb hby d9_17) rfl (l' := #[.val (.ref a1), .val (.int p2), .val (.int (0 : Int32)), .val (.int (1 : Int32)), .val (.int (0 : Int32))]) rfl ?_
    show Steps p.tables e below (T2.setTop (mkF m 19 #[.val (.ref a1), .val (.int p2), .val (.int (0 : Int32)), .val (.int (1 : Int32)), .val (.int (0 : Int32))] [])) t
    refine XS.aloadN X2.here hx rfl (hb hby d9_19) rfl rfl ?_
    show Steps p.tables e below (T2.setTop (mkF m 20 #[.val (.ref a1), .val (.int p2), .val (.int (0 : Int32)), .val (.int (1 : Int32)), .val (.int (0 : Int32))] [(.ref a1)])) t
    exact k)
  obtain ⟨T6, X6, eh6, st6⟩ := getF X2 hx hZ hown (host := "") (Or.inl (hw _ (List.mem_of_getElem? (i := 17) rfl))) Via.refl eh2 F_values_a1 (g := (mkF m 20 #[.val (.ref a1), .val (.int p2), .val (.int (0 : Int32)), .val (.int (1 : Int32)), .val (.int (0 : Int32))] [(.ref a1)])) rfl rfl (hb hby d9_20)
  have pre7 : ∀ t, Steps p.tables e below (T6.setTop (mkF m 23 #[.val (.ref a1), .val (.int p2), .val (.int (0 : Int32)), .val (.int (1 : Int32)), .val (.int (0 : Int32))] [(.ref ar)])) t → Steps p.tables e below (s₁.setTop (entryFrame m #[(.ref a1), (.int p2)] 5)) t := fun t k => pre5 t (st6 _ k)
  have pre9 : ∀ t, Steps p.tables e below (T6.setTop (mkF m 27 #[.val (.ref a1), .val (.int p2), .val (.int (0 : Int32)), .val (.int (1 : Int32)), .val (.int (0 : Int32))] [(.int p2), (.int x0)])) t → Steps p.tables e below (s₁.setTop (entryFrame m #[(.ref a1), (.int p2)] 5)) t := fun t k => pre7 t (by
    show Steps p.tables e below (T6.setTop (mkF m 23 #[.val (.ref a1), .val (.int p2), .val (.int (0 : Int32)), .val (.int (1 : Int32)), .val (.int (0 : Int32))] [(.ref ar)])) t
    refine XS.iload X6.here hx rfl (hb hby d9_23) rfl ?_
    show Steps p.tables e below (T6.setTop (mkF m 25 #[.val (.ref a1), .val (.int p2), .val (.int (0 : Int32)), .val (.int (1 : Int32)), .val (.int (0 : Int32))] [(.int (0 : Int32)), (.ref ar)])) t
    refine own_iaload X6 hx hZ eh6 V_ar (j := (0 : Int32)) (v := (.int x0)) ⟨by decide, own_in (1 : Int32) hcap (by decide)⟩ rfl (g := (mkF m 25 #[.val (.ref a1), .val (.int p2), .val (.int (0 : Int32)), .val (.int (1 : Int32)), .val (.int (0 : Int32))] [(.int (0 : Int32)), (.ref ar)])) rfl rfl (hb hby d9_25) _ ?_
    show Steps p.tables e below (T6.setTop (mkF m 26 #[.val (.ref a1), .val (.int p2), .val (.int (0 : Int32)), .val (.int (1 : Int32)), .val (.int (0 : Int32))] [(.int x0)])) t
    refine XS.iloadN X6.here hx rfl (hb hby d9_26) rfl ?_
    show Steps p.tables e below (T6.setTop (mkF m 27 #[.val (.ref a1), .val (.int p2), .val (.int (0 : Int32)), .val (.int (1 : Int32)), .val (.int (0 : Int32))] [(.int p2), (.int x0)])) t
    exact k)
  by_cases hc27_8 : p2 < x0
  · skip
    have pre11 : ∀ t, Steps p.tables e below (T6.setTop (mkF m 45 #[.val (.ref a1), .val (.int p2), .val (.int (0 : Int32)), .val (.int (0 : Int32)), .val (.int (0 : Int32))] [(.int (0 : Int32))])) t → Steps p.tables e below (s₁.setTop (entryFrame m #[(.ref a1), (.int p2)] 5)) t := fun t k => pre9 t (by
      show Steps p.tables e below (T6.setTop (mkF m 27 #[.val (.ref a1), .val (.int p2), .val (.int (0 : Int32)), .val (.int (1 : Int32)), .val (.int (0 : Int32))] [(.int p2), (.int x0)])) t
      refine XS.icmpYes X6.here hx rfl (pc0 := 27) (pc' := 38) rfl (hb hby d9_27) rfl (XT.ii_gt_t hc27_8) (by decide) (by decide) ?_
      show Steps p.tables e below (T6.setTop (mkF m 38 #[.val (.ref a1), .val (.int p2), .val (.int (0 : Int32)), .val (.int (1 : Int32)), .val (.int (0 : Int32))] [])) t
      refine XS.iload X6.here hx rfl (hb hby d9_38) rfl ?_
      show Steps p.tables e below (T6.setTop (mkF m 40 #[.val (.ref a1), .val (.int p2), .val (.int (0 : Int32)), .val (.int (1 : Int32)), .val (.int (0 : Int32))] [(.int (0 : Int32))])) t
      refine XS.istoreN X6.here hx rfl (hb hby d9_40) rfl (l' := #[.val (.ref a1), .val (.int p2), .val (.int (0 : Int32)), .val (.int (0 : Int32)), .val (.int (0 : Int32))]) rfl ?_
      show Steps p.tables e below (T6.setTop (mkF m 41 #[.val (.ref a1), .val (.int p2), .val (.int (0 : Int32)), .val (.int (0 : Int32)), .val (.int (0 : Int32))] [])) t
      refine XS.goto X6.here hx rfl (pc0 := 41) (pc' := 7) rfl (hb hby d9_41) (by decide) (by decide) ?_
      show Steps p.tables e below (T6.setTop (mkF m 7 #[.val (.ref a1), .val (.int p2), .val (.int (0 : Int32)), .val (.int (0 : Int32)), .val (.int (0 : Int32))] [])) t
      refine XS.iloadN X6.here hx rfl (hb hby d9_7) rfl ?_
      show Steps p.tables e below (T6.setTop (mkF m 8 #[.val (.ref a1), .val (.int p2), .val (.int (0 : Int32)), .val (.int (0 : Int32)), .val (.int (0 : Int32))] [(.int (0 : Int32))])) t
      refine XS.iloadN X6.here hx rfl (hb hby d9_8) rfl ?_
      show Steps p.tables e below (T6.setTop (mkF m 9 #[.val (.ref a1), .val (.int p2), .val (.int (0 : Int32)), .val (.int (0 : Int32)), .val (.int (0 : Int32))] [(.int (0 : Int32)), (.int (0 : Int32))])) t
      refine XS.icmpYes X6.here hx rfl (pc0 := 9) (pc' := 44) rfl (hb hby d9_9) rfl (XT.ii_ge_t (show ¬ ((0 : Int32) < (0 : Int32)) from by decide)) (by decide) (by decide) ?_
      show Steps p.tables e below (T6.setTop (mkF m 44 #[.val (.ref a1), .val (.int p2), .val (.int (0 : Int32)), .val (.int (0 : Int32)), .val (.int (0 : Int32))] [])) t
      refine XS.iloadN X6.here hx rfl (hb hby d9_44) rfl ?_
      show Steps p.tables e below (T6.setTop (mkF m 45 #[.val (.ref a1), .val (.int p2), .val (.int (0 : Int32)), .val (.int (0 : Int32)), .val (.int (0 : Int32))] [(.int (0 : Int32))])) t
      exact k)
    obtain ⟨fs, hr, hrun, hended, hW, hsame⟩ := X6.leave (v := some (.int (0 : Int32))) (fun h => by rw [Bd.returns] at h; cases h)
    refine ⟨_, _, pre11 _ ?_, hrun, hended, _, _, rfl, ?_, ⟨_, rfl⟩, hW, hsame.mono (by decide) (by decide)⟩
    · show Steps p.tables e below (T6.setTop (mkF m 45 #[.val (.ref a1), .val (.int p2), .val (.int (0 : Int32)), .val (.int (0 : Int32)), .val (.int (0 : Int32))] [(.int (0 : Int32))])) _
      exact retI X6 hx Bd.returns (hb hby d9_45) hr
    · show QFA1 Z a1 p2 ar kk cap x0 h0 n0 _ T6.heap _
      rw [eh6]
      exact ⟨(congrArg (fun z => some (Value.int z)) (show (0 : Int32) = (own_fa1 x0 p2) from (by simp only [own_fa1, if_pos hc27_8]))), N0, rfl⟩
  · skip
    have pre13 : ∀ t, Steps p.tables e below (T6.setTop (mkF m 45 #[.val (.ref a1), .val (.int p2), .val (.int (1 : Int32)), .val (.int (1 : Int32)), .val (.int (0 : Int32))] [(.int (1 : Int32))])) t → Steps p.tables e below (s₁.setTop (entryFrame m #[(.ref a1), (.int p2)] 5)) t := fun t k => pre9 t (by
      show Steps p.tables e below (T6.setTop (mkF m 27 #[.val (.ref a1), .val (.int p2), .val (.int (0 : Int32)), .val (.int (1 : Int32)), .val (.int (0 : Int32))] [(.int p2), (.int x0)])) t
      refine XS.icmpNo X6.here hx rfl (hb hby d9_27) rfl (XT.ii_gt_f hc27_8) ?_
      show Steps p.tables e below (T6.setTop (mkF m 30 #[.val (.ref a1), .val (.int p2), .val (.int (0 : Int32)), .val (.int (1 : Int32)), .val (.int (0 : Int32))] [])) t
      refine XS.iload X6.here hx rfl (hb hby d9_30) rfl ?_
      show Steps p.tables e below (T6.setTop (mkF m 32 #[.val (.ref a1), .val (.int p2), .val (.int (0 : Int32)), .val (.int (1 : Int32)), .val (.int (0 : Int32))] [(.int (0 : Int32))])) t
      refine XS.iconst X6.here hx rfl (hb hby d9_32) ?_
      show Steps p.tables e below (T6.setTop (mkF m 33 #[.val (.ref a1), .val (.int p2), .val (.int (0 : Int32)), .val (.int (1 : Int32)), .val (.int (0 : Int32))] [(.int (1 : Int32)), (.int (0 : Int32))])) t
      refine XS.iadd X6.here hx rfl (hb hby d9_33) rfl ?_
      show Steps p.tables e below (T6.setTop (mkF m 34 #[.val (.ref a1), .val (.int p2), .val (.int (0 : Int32)), .val (.int (1 : Int32)), .val (.int (0 : Int32))] [(.int (1 : Int32))])) t
      refine XS.istoreN X6.here hx rfl (hb hby d9_34) rfl (l' := #[.val (.ref a1), .val (.int p2), .val (.int (1 : Int32)), .val (.int (1 : Int32)), .val (.int (0 : Int32))]) rfl ?_
      show Steps p.tables e below (T6.setTop (mkF m 35 #[.val (.ref a1), .val (.int p2), .val (.int (1 : Int32)), .val (.int (1 : Int32)), .val (.int (0 : Int32))] [])) t
      refine XS.goto X6.here hx rfl (pc0 := 35) (pc' := 41) rfl (hb hby d9_35) (by decide) (by decide) ?_
      show Steps p.tables e below (T6.setTop (mkF m 41 #[.val (.ref a1), .val (.int p2), .val (.int (1 : Int32)), .val (.int (1 : Int32)), .val (.int (0 : Int32))] [])) t
      refine XS.goto X6.here hx rfl (pc0 := 41) (pc' := 7) rfl (hb hby d9_41) (by decide) (by decide) ?_
      show Steps p.tables e below (T6.setTop (mkF m 7 #[.val (.ref a1), .val (.int p2), .val (.int (1 : Int32)), .val (.int (1 : Int32)), .val (.int (0 : Int32))] [])) t
      refine XS.iloadN X6.here hx rfl (hb hby d9_7) rfl ?_
      show Steps p.tables e below (T6.setTop (mkF m 8 #[.val (.ref a1), .val (.int p2), .val (.int (1 : Int32)), .val (.int (1 : Int32)), .val (.int (0 : Int32))] [(.int (1 : Int32))])) t
      refine XS.iloadN X6.here hx rfl (hb hby d9_8) rfl ?_
      show Steps p.tables e below (T6.setTop (mkF m 9 #[.val (.ref a1), .val (.int p2), .val (.int (1 : Int32)), .val (.int (1 : Int32)), .val (.int (0 : Int32))] [(.int (1 : Int32)), (.int (1 : Int32))])) t
      refine XS.icmpYes X6.here hx rfl (pc0 := 9) (pc' := 44) rfl (hb hby d9_9) rfl (XT.ii_ge_t (show ¬ ((1 : Int32) < (1 : Int32)) from by decide)) (by decide) (by decide) ?_
      show Steps p.tables e below (T6.setTop (mkF m 44 #[.val (.ref a1), .val (.int p2), .val (.int (1 : Int32)), .val (.int (1 : Int32)), .val (.int (0 : Int32))] [])) t
      refine XS.iloadN X6.here hx rfl (hb hby d9_44) rfl ?_
      show Steps p.tables e below (T6.setTop (mkF m 45 #[.val (.ref a1), .val (.int p2), .val (.int (1 : Int32)), .val (.int (1 : Int32)), .val (.int (0 : Int32))] [(.int (1 : Int32))])) t
      exact k)
    obtain ⟨fs, hr, hrun, hended, hW, hsame⟩ := X6.leave (v := some (.int (1 : Int32))) (fun h => by rw [Bd.returns] at h; cases h)
    refine ⟨_, _, pre13 _ ?_, hrun, hended, _, _, rfl, ?_, ⟨_, rfl⟩, hW, hsame.mono (by decide) (by decide)⟩
    · show Steps p.tables e below (T6.setTop (mkF m 45 #[.val (.ref a1), .val (.int p2), .val (.int (1 : Int32)), .val (.int (1 : Int32)), .val (.int (0 : Int32))] [(.int (1 : Int32))])) _
      exact retI X6 hx Bd.returns (hb hby d9_45) hr
    · show QFA1 Z a1 p2 ar kk cap x0 h0 n0 _ T6.heap _
      rw [eh6]
      exact ⟨(congrArg (fun z => some (Value.int z)) (show (1 : Int32) = (own_fa1 x0 p2) from (by simp only [own_fa1, if_neg hc27_8]))), N0, rfl⟩
theorem ef_FA2 (m : MethodId) (a1 : Addr) (p2 : Int32) : entryFrame m #[(.ref a1), (.int p2)] 5 = mkF m 0 #[.val (.ref a1), .val (.int p2), .unset, .unset, .unset] [] := by first | (simp [entryFrame, mkF, argsToLocals, Value.category]; done) | rfl
def QFA2 (Z : State) (a1 : Addr) (p2 : Int32) (ar : Addr) (kk : ClassId) (cap : Int32) (x0 : Int32) (x1 : Int32) (h0 : Heap) (n0 : Nat) (v : Option Value) (h : Heap) (L : List Loc) : Prop := v = some (.int (own_fa2 x0 x1 p2)) ∧ Fr n0 L ∧ h = h0
set_option maxRecDepth 65536 in
set_option maxHeartbeats 40000000 in
theorem rmFA2 (l : Launch) (Z : State) (a0 : Array Value) (hw : ∀ d ∈ tables_1, d.before a0 Z = true) (ws : List Jvm.Cond) (a1 : Addr) (p2 : Int32) (ar : Addr) (kk : ClassId) (cap : Int32) (x0 : Int32) (x1 : Int32) (h0 : Heap) (n0 : Nat) (Z0 : n0 ≤ h0.size) (F_values_a1 : Fld Z h0 a1 "com/example/interlace/interlace/core/IntColumn" "values" "[I" (.ref ar)) (F_size_a1 : Fld Z h0 a1 "com/example/interlace/interlace/core/IntColumn" "size" "I" (.int (2 : Int32))) (V_ar : Arv Z h0 ar kk .int cap [(.int x0), (.int x1), (.int (0 : Int32)), (.int (0 : Int32))] (.int (0 : Int32))) (hcap : ¬ cap < (2 : Int32)) :
    MetFree l (⟨"com/example/interlace/interlace/core/IntColumn", "firstAbove", "(I)I"⟩ : MethodName) (head1 (Jvm.Cond.code (⟨"com/example/interlace/interlace/core/IntColumn", "firstAbove", "(I)I"⟩ : MethodName) prog_78_method_8_code 5 (some .int) :: ws) ({ frames := 0, cells := 0, slots := 0, locals := 0 } : Room)) (fun a U => a = #[(.ref a1), (.int p2)] ∧ Z.Warmed39 U.vm ∧ U.heap = h0) (fun _ _ _ _ _ => True) (fun _ U o U' => ∃ v L, o = .returned v ∧ QFA2 Z a1 p2 ar kk cap x0 x1 h0 n0 v U'.heap L ∧ FrameEnd U o U' L ({ frames := 0, cells := 0, slots := 0, locals := 0 } : Room).cells ({ frames := 0, cells := 0, slots := 0, locals := 0 } : Room).slots) := by
  refine MetFree.of_bodySF (plainFor_of_name pn_com_example_interlace_interlace_core_IntColumn) hisR ?_
  intro p e s m args below meth c s₁ Bd hml0 hP hK
  obtain ⟨rfl, hZ, hh⟩ := hP
  have hx := Bd.exec
  have hby := Bd.bytes
  have hml : c.maxLocals = 5 := hml0
  have hown : s.vm.findClass "com/example/interlace/interlace/core/IntColumn" = some m.cls := findClass_of_methodNamed Bd.named
  have hnm := (name_of_methodNamed Bd.named Bd.method).1
  have X0 : Stand p l e ({ frames := 0, cells := 0, slots := 0, locals := 0 } : Room) s m #[(.ref a1), (.int p2)] below meth c s₁ [] 0 0 := Stand.of_body Bd
  have eh0 : s₁.heap = h0 := by rw [← hh, Bd.state]; rfl
  have N0 := Fr.nil n0
  have pre0 : ∀ t, Steps p.tables e below (s₁.setTop (mkF m 0 #[.val (.ref a1), .val (.int p2), .unset, .unset, .unset] [])) t → Steps p.tables e below (s₁.setTop (entryFrame m #[(.ref a1), (.int p2)] 5)) t := fun t k => castTop (ef_FA2 m a1 p2) k
  have pre1 : ∀ t, Steps p.tables e below (s₁.setTop (mkF m 3 #[.val (.ref a1), .val (.int p2), .val (.int (0 : Int32)), .unset, .unset] [(.ref a1)])) t → Steps p.tables e below (s₁.setTop (entryFrame m #[(.ref a1), (.int p2)] 5)) t := fun t k => pre0 t (by
    show Steps p.tables e below (s₁.setTop (mkF m 0 #[.val (.ref a1), .val (.int p2), .unset, .unset, .unset] [])) t
    refine XS.iconst X0.here hx rfl (hb hby d9_0) ?_
    show Steps p.tables e below (s₁.setTop (mkF m 1 #[.val (.ref a1), .val (.int p2), .unset, .unset, .unset] [(.int (0 : Int32))])) t
    refine XS.istoreN X0.here hx rfl (hb hby d9_1) rfl (l' := #[.val (.ref a1), .val (.int p2), .val (.int (0 : Int32)), .unset, .unset]) rfl ?_
    show Steps p.tables e below (s₁.setTop (mkF m 2 #[.val (.ref a1), .val (.int p2), .val (.int (0 : Int32)), .unset, .unset] [])) t
    refine XS.aloadN X0.here hx rfl (hb hby d9_2) rfl rfl ?_
    show Steps p.tables e below (s₁.setTop (mkF m 3 #[.val (.ref a1), .val (.int p2), .val (.int (0 : Int32)), .unset, .unset] [(.ref a1)])) t
    exact k)
  obtain ⟨T2, X2, eh2, st2⟩ := getF X0 hx hZ hown (host := "") (Or.inl (hw _ (List.mem_of_getElem? (i := 24) rfl))) Via.refl eh0 F_size_a1 (g := (mkF m 3 #[.val (.ref a1), .val (.int p2), .val (.int (0 : Int32)), .unset, .unset] [(.ref a1)])) rfl rfl (hb hby d9_3)
  have pre3 : ∀ t, Steps p.tables e below (T2.setTop (mkF m 6 #[.val (.ref a1), .val (.int p2), .val (.int (0 : Int32)), .unset, .unset] [(.int (2 : Int32))])) t → Steps p.tables e below (s₁.setTop (entryFrame m #[(.ref a1), (.int p2)] 5)) t := fun t k => pre1 t (st2 _ k)
  have pre5 : ∀ t, Steps p.tables e below (T2.setTop (mkF m 20 #[.val (.ref a1), .val (.int p2), .val (.int (0 : Int32)), .val (.int (2 : Int32)), .val (.int (1 : Int32))] [(.ref a1)])) t → Steps p.tables e below (s₁.setTop (entryFrame m #[(.ref a1), (.int p2)] 5)) t := fun t k => pre3 t (by
    show Steps p.tables e below (T2.setTop (mkF m 6 #[.val (.ref a1), .val (.int p2), .val (.int (0 : Int32)), .unset, .unset] [(.int (2 : Int32))])) t
    refine XS.istoreN X2.here hx rfl (hb hby d9_6) rfl (l' := #[.val (.ref a1), .val (.int p2), .val (.int (0 : Int32)), .val (.int (2 : Int32)), .unset]) rfl ?_
    show Steps p.tables e below (T2.setTop (mkF m 7 #[.val (.ref a1), .val (.int p2), .val (.int (0 : Int32)), .val (.int (2 : Int32)), .unset] [])) t
    refine XS.iloadN X2.here hx rfl (hb hby d9_7) rfl ?_
    show Steps p.tables e below (T2.setTop (mkF m 8 #[.val (.ref a1), .val (.int p2), .val (.int (0 : Int32)), .val (.int (2 : Int32)), .unset] [(.int (0 : Int32))])) t
    refine XS.iloadN X2.here hx rfl (hb hby d9_8) rfl ?_
    show Steps p.tables e below (T2.setTop (mkF m 9 #[.val (.ref a1), .val (.int p2), .val (.int (0 : Int32)), .val (.int (2 : Int32)), .unset] [(.int (2 : Int32)), (.int (0 : Int32))])) t
    refine XS.icmpNo X2.here hx rfl (hb hby d9_9) rfl (XT.ii_ge_f (show (0 : Int32) < (2 : Int32) from by decide)) ?_
    show Steps p.tables e below (T2.setTop (mkF m 12 #[.val (.ref a1), .val (.int p2), .val (.int (0 : Int32)), .val (.int (2 : Int32)), .unset] [])) t
    refine XS.iloadN X2.here hx rfl (hb hby d9_12) rfl ?_
    show Steps p.tables e below (T2.setTop (mkF m 13 #[.val (.ref a1), .val (.int p2), .val (.int (0 : Int32)), .val (.int (2 : Int32)), .unset] [(.int (0 : Int32))])) t
    refine XS.iloadN X2.here hx rfl (hb hby d9_13) rfl ?_
    show Steps p.tables e below (T2.setTop (mkF m 14 #[.val (.ref a1), .val (.int p2), .val (.int (0 : Int32)), .val (.int (2 : Int32)), .unset] [(.int (2 : Int32)), (.int (0 : Int32))])) t
    refine XS.iadd X2.here hx rfl (hb hby d9_14) rfl ?_
    show Steps p.tables e below (T2.setTop (mkF m 15 #[.val (.ref a1), .val (.int p2), .val (.int (0 : Int32)), .val (.int (2 : Int32)), .unset] [(.int (2 : Int32))])) t
    refine XS.iconst X2.here hx rfl (hb hby d9_15) ?_
    show Steps p.tables e below (T2.setTop (mkF m 16 #[.val (.ref a1), .val (.int p2), .val (.int (0 : Int32)), .val (.int (2 : Int32)), .unset] [(.int (1 : Int32)), (.int (2 : Int32))])) t
    refine XT.iushr X2.here hx rfl (hb hby d9_16) rfl ?_
    show Steps p.tables e below (T2.setTop (mkF m 17 #[.val (.ref a1), .val (.int p2), .val (.int (0 : Int32)), .val (.int (2 : Int32)), .unset] [(.int (1 : Int32))])) t
    refine XS.istore X2.here hx rfl (hb hby d9_17) rfl (l' := #[.val (.ref a1), .val (.int p2), .val (.int (0 : Int32)), .val (.int (2 : Int32)), .val (.int (1 : Int32))]) rfl ?_
    show Steps p.tables e below (T2.setTop (mkF m 19 #[.val (.ref a1), .val (.int p2), .val (.int (0 : Int32)), .val (.int (2 : Int32)), .val (.int (1 : Int32))] [])) t
    refine XS.aloadN X2.here hx rfl (hb hby d9_19) rfl rfl ?_
    show Steps p.tables e below (T2.setTop (mkF m 20 #[.val (.ref a1), .val (.int p2), .val (.int (0 : Int32)), .val (.int (2 : Int32)), .val (.int (1 : Int32))] [(.ref a1)])) t
    exact k)
  obtain ⟨T6, X6, eh6, st6⟩ := getF X2 hx hZ hown (host := "") (Or.inl (hw _ (List.mem_of_getElem? (i := 17) rfl))) Via.refl eh2 F_values_a1 (g := (mkF m 20 #[.val (.ref a1), .val (.int p2), .val (.int (0 : Int32)), .val (.int (2 : Int32)), .val (.int (1 : Int32))] [(.ref a1)])) rfl rfl (hb hby d9_20)
  have pre7 : ∀ t, Steps p.tables e below (T6.setTop (mkF m 23 #[.val (.ref a1), .val (.int p2), .val (.int (0 : Int32)), .val (.int (2 : Int32)), .val (.int (1 : Int32))] [(.ref ar)])) t → Steps p.tables e below (s₁.setTop (entryFrame m #[(.ref a1), (.int p2)] 5)) t := fun t k => pre5 t (st6 _ k)
  have pre9 : ∀ t, Steps p.tables e below (T6.setTop (mkF m 27 #[.val (.ref a1), .val (.int p2), .val (.int (0 : Int32)), .val (.int (2 : Int32)), .val (.int (1 : Int32))] [(.int p2), (.int x1)])) t → Steps p.tables e below (s₁.setTop (entryFrame m #[(.ref a1), (.int p2)] 5)) t := fun t k => pre7 t (by
    show Steps p.tables e below (T6.setTop (mkF m 23 #[.val (.ref a1), .val (.int p2), .val (.int (0 : Int32)), .val (.int (2 : Int32)), .val (.int (1 : Int32))] [(.ref ar)])) t
    refine XS.iload X6.here hx rfl (hb hby d9_23) rfl ?_
    show Steps p.tables e below (T6.setTop (mkF m 25 #[.val (.ref a1), .val (.int p2), .val (.int (0 : Int32)), .val (.int (2 : Int32)), .val (.int (1 : Int32))] [(.int (1 : Int32)), (.ref ar)])) t
    refine own_iaload X6 hx hZ eh6 V_ar (j := (1 : Int32)) (v := (.int x1)) ⟨by decide, own_in (2 : Int32) hcap (by decide)⟩ rfl (g := (mkF m 25 #[.val (.ref a1), .val (.int p2), .val (.int (0 : Int32)), .val (.int (2 : Int32)), .val (.int (1 : Int32))] [(.int (1 : Int32)), (.ref ar)])) rfl rfl (hb hby d9_25) _ ?_
    show Steps p.tables e below (T6.setTop (mkF m 26 #[.val (.ref a1), .val (.int p2), .val (.int (0 : Int32)), .val (.int (2 : Int32)), .val (.int (1 : Int32))] [(.int x1)])) t
    refine XS.iloadN X6.here hx rfl (hb hby d9_26) rfl ?_
    show Steps p.tables e below (T6.setTop (mkF m 27 #[.val (.ref a1), .val (.int p2), .val (.int (0 : Int32)), .val (.int (2 : Int32)), .val (.int (1 : Int32))] [(.int p2), (.int x1)])) t
    exact k)
  by_cases hc27_8 : p2 < x1
  · skip
    have pre11 : ∀ t, Steps p.tables e below (T6.setTop (mkF m 20 #[.val (.ref a1), .val (.int p2), .val (.int (0 : Int32)), .val (.int (1 : Int32)), .val (.int (0 : Int32))] [(.ref a1)])) t → Steps p.tables e below (s₁.setTop (entryFrame m #[(.ref a1), (.int p2)] 5)) t := fun t k => pre9 t (by
      show Steps p.tables e below (T6.setTop (mkF m 27 #[.val (.ref a1), .val (.int p2), .val (.int (0 : Int32)), .val (.int (2 : Int32)), .val (.int (1 : Int32))] [(.int p2), (.int x1)])) t
      refine XS.icmpYes X6.here hx rfl (pc0 := 27) (pc' := 38) rfl (hb hby d9_27) rfl (XT.ii_gt_t hc27_8) (by decide) (by decide) ?_
      show Steps p.tables e below (T6.setTop (mkF m 38 #[.val (.ref a1), .val (.int p2), .val (.int (0 : Int32)), .val (.int (2 : Int32)), .val (.int (1 : Int32))] [])) t
      refine XS.iload X6.here hx rfl (hb hby d9_38) rfl ?_
      show Steps p.tables e below (T6.setTop (mkF m 40 #[.val (.ref a1), .val (.int p2), .val (.int (0 : Int32)), .val (.int (2 : Int32)), .val (.int (1 : Int32))] [(.int (1 : Int32))])) t
      refine XS.istoreN X6.here hx rfl (hb hby d9_40) rfl (l' := #[.val (.ref a1), .val (.int p2), .val (.int (0 : Int32)), .val (.int (1 : Int32)), .val (.int (1 : Int32))]) rfl ?_
      show Steps p.tables e below (T6.setTop (mkF m 41 #[.val (.ref a1), .val (.int p2), .val (.int (0 : Int32)), .val (.int (1 : Int32)), .val (.int (1 : Int32))] [])) t
      refine XS.goto X6.here hx rfl (pc0 := 41) (pc' := 7) rfl (hb hby d9_41) (by decide) (by decide) ?_
      show Steps p.tables e below (T6.setTop (mkF m 7 #[.val (.ref a1), .val (.int p2), .val (.int (0 : Int32)), .val (.int (1 : Int32)), .val (.int (1 : Int32))] [])) t
      refine XS.iloadN X6.here hx rfl (hb hby d9_7) rfl ?_
      show Steps p.tables e below (T6.setTop (mkF m 8 #[.val (.ref a1), .val (.int p2), .val (.int (0 : Int32)), .val (.int (1 : Int32)), .val (.int (1 : Int32))] [(.int (0 : Int32))])) t
      refine XS.iloadN X6.here hx rfl (hb hby d9_8) rfl ?_
      show Steps p.tables e below (T6.setTop (mkF m 9 #[.val (.ref a1), .val (.int p2), .val (.int (0 : Int32)), .val (.int (1 : Int32)), .val (.int (1 : Int32))] [(.int (1 : Int32)), (.int (0 : Int32))])) t
      refine XS.icmpNo X6.here hx rfl (hb hby d9_9) rfl (XT.ii_ge_f (show (0 : Int32) < (1 : Int32) from by decide)) ?_
      show Steps p.tables e below (T6.setTop (mkF m 12 #[.val (.ref a1), .val (.int p2), .val (.int (0 : Int32)), .val (.int (1 : Int32)), .val (.int (1 : Int32))] [])) t
      refine XS.iloadN X6.here hx rfl (hb hby d9_12) rfl ?_
      show Steps p.tables e below (T6.setTop (mkF m 13 #[.val (.ref a1), .val (.int p2), .val (.int (0 : Int32)), .val (.int (1 : Int32)), .val (.int (1 : Int32))] [(.int (0 : Int32))])) t
      refine XS.iloadN X6.here hx rfl (hb hby d9_13) rfl ?_
      show Steps p.tables e below (T6.setTop (mkF m 14 #[.val (.ref a1), .val (.int p2), .val (.int (0 : Int32)), .val (.int (1 : Int32)), .val (.int (1 : Int32))] [(.int (1 : Int32)), (.int (0 : Int32))])) t
      refine XS.iadd X6.here hx rfl (hb hby d9_14) rfl ?_
      show Steps p.tables e below (T6.setTop (mkF m 15 #[.val (.ref a1), .val (.int p2), .val (.int (0 : Int32)), .val (.int (1 : Int32)), .val (.int (1 : Int32))] [(.int (1 : Int32))])) t
      refine XS.iconst X6.here hx rfl (hb hby d9_15) ?_
      show Steps p.tables e below (T6.setTop (mkF m 16 #[.val (.ref a1), .val (.int p2), .val (.int (0 : Int32)), .val (.int (1 : Int32)), .val (.int (1 : Int32))] [(.int (1 : Int32)), (.int (1 : Int32))])) t
      refine XT.iushr X6.here hx rfl (hb hby d9_16) rfl ?_
      show Steps p.tables e below (T6.setTop (mkF m 17 #[.val (.ref a1), .val (.int p2), .val (.int (0 : Int32)), .val (.int (1 : Int32)), .val (.int (1 : Int32))] [(.int (0 : Int32))])) t
      refine XS.istore X6.here hx rfl (hb hby d9_17) rfl (l' := #[.val (.ref a1), .val (.int p2), .val (.int (0 : Int32)), .val (.int (1 : Int32)), .val (.int (0 : Int32))]) rfl ?_
      show Steps p.tables e below (T6.setTop (mkF m 19 #[.val (.ref a1), .val (.int p2), .val (.int (0 : Int32)), .val (.int (1 : Int32)), .val (.int (0 : Int32))] [])) t
      refine XS.aloadN X6.here hx rfl (hb hby d9_19) rfl rfl ?_
      show Steps p.tables e below (T6.setTop (mkF m 20 #[.val (.ref a1), .val (.int p2), .val (.int (0 : Int32)), .val (.int (1 : Int32)), .val (.int (0 : Int32))] [(.ref a1)])) t
      exact k)
    obtain ⟨T12, X12, eh12, st12⟩ := getF X6 hx hZ hown (host := "") (Or.inl (hw _ (List.mem_of_getElem? (i := 17) rfl))) Via.refl eh6 F_values_a1 (g := (mkF m 20 #[.val (.ref a1), .val (.int p2), .val (.int (0 : Int32)), .val (.int (1 : Int32)), .val (.int (0 : Int32))] [(.ref a1)])) rfl rfl (hb hby d9_20)
    have pre13 : ∀ t, Steps p.tables e below (T12.setTop (mkF m 23 #[.val (.ref a1), .val (.int p2), .val (.int (0 : Int32)), .val (.int (1 : Int32)), .val (.int (0 : Int32))] [(.ref ar)])) t → Steps p.tables e below (s₁.setTop (entryFrame m #[(.ref a1), (.int p2)] 5)) t := fun t k => pre11 t (st12 _ k)
    have pre15 : ∀ t, Steps p.tables e below (T12.setTop (mkF m 27 #[.val (.ref a1), .val (.int p2), .val (.int (0 : Int32)), .val (.int (1 : Int32)), .val (.int (0 : Int32))] [(.int p2), (.int x0)])) t → Steps p.tables e below (s₁.setTop (entryFrame m #[(.ref a1), (.int p2)] 5)) t := fun t k => pre13 t (by
      show Steps p.tables e below (T12.setTop (mkF m 23 #[.val (.ref a1), .val (.int p2), .val (.int (0 : Int32)), .val (.int (1 : Int32)), .val (.int (0 : Int32))] [(.ref ar)])) t
      refine XS.iload X12.here hx rfl (hb hby d9_23) rfl ?_
      show Steps p.tables e below (T12.setTop (mkF m 25 #[.val (.ref a1), .val (.int p2), .val (.int (0 : Int32)), .val (.int (1 : Int32)), .val (.int (0 : Int32))] [(.int (0 : Int32)), (.ref ar)])) t
      refine own_iaload X12 hx hZ eh12 V_ar (j := (0 : Int32)) (v := (.int x0)) ⟨by decide, own_in (2 : Int32) hcap (by decide)⟩ rfl (g := (mkF m 25 #[.val (.ref a1), .val (.int p2), .val (.int (0 : Int32)), .val (.int (1 : Int32)), .val (.int (0 : Int32))] [(.int (0 : Int32)), (.ref ar)])) rfl rfl (hb hby d9_25) _ ?_
      show Steps p.tables e below (T12.setTop (mkF m 26 #[.val (.ref a1), .val (.int p2), .val (.int (0 : Int32)), .val (.int (1 : Int32)), .val (.int (0 : Int32))] [(.int x0)])) t
      refine XS.iloadN X12.here hx rfl (hb hby d9_26) rfl ?_
      show Steps p.tables e below (T12.setTop (mkF m 27 #[.val (.ref a1), .val (.int p2), .val (.int (0 : Int32)), .val (.int (1 : Int32)), .val (.int (0 : Int32))] [(.int p2), (.int x0)])) t
      exact k)
    by_cases hc27_14 : p2 < x0
    · skip
      have pre17 : ∀ t, Steps p.tables e below (T12.setTop (mkF m 45 #[.val (.ref a1), .val (.int p2), .val (.int (0 : Int32)), .val (.int (0 : Int32)), .val (.int (0 : Int32))] [(.int (0 : Int32))])) t → Steps p.tables e below (s₁.setTop (entryFrame m #[(.ref a1), (.int p2)] 5)) t := fun t k => pre15 t (by
        show Steps p.tables e below (T12.setTop (mkF m 27 #[.val (.ref a1), .val (.int p2), .val (.int (0 : Int32)), .val (.int (1 : Int32)), .val (.int (0 : Int32))] [(.int p2), (.int x0)])) t
        refine XS.icmpYes X12.here hx rfl (pc0 := 27) (pc' := 38) rfl (hb hby d9_27) rfl (XT.ii_gt_t hc27_14) (by decide) (by decide) ?_
        show Steps p.tables e below (T12.setTop (mkF m 38 #[.val (.ref a1), .val (.int p2), .val (.int (0 : Int32)), .val (.int (1 : Int32)), .val (.int (0 : Int32))] [])) t
        refine XS.iload X12.here hx rfl (hb hby d9_38) rfl ?_
        show Steps p.tables e below (T12.setTop (mkF m 40 #[.val (.ref a1), .val (.int p2), .val (.int (0 : Int32)), .val (.int (1 : Int32)), .val (.int (0 : Int32))] [(.int (0 : Int32))])) t
        refine XS.istoreN X12.here hx rfl (hb hby d9_40) rfl (l' := #[.val (.ref a1), .val (.int p2), .val (.int (0 : Int32)), .val (.int (0 : Int32)), .val (.int (0 : Int32))]) rfl ?_
        show Steps p.tables e below (T12.setTop (mkF m 41 #[.val (.ref a1), .val (.int p2), .val (.int (0 : Int32)), .val (.int (0 : Int32)), .val (.int (0 : Int32))] [])) t
        refine XS.goto X12.here hx rfl (pc0 := 41) (pc' := 7) rfl (hb hby d9_41) (by decide) (by decide) ?_
        show Steps p.tables e below (T12.setTop (mkF m 7 #[.val (.ref a1), .val (.int p2), .val (.int (0 : Int32)), .val (.int (0 : Int32)), .val (.int (0 : Int32))] [])) t
        refine XS.iloadN X12.here hx rfl (hb hby d9_7) rfl ?_
        show Steps p.tables e below (T12.setTop (mkF m 8 #[.val (.ref a1), .val (.int p2), .val (.int (0 : Int32)), .val (.int (0 : Int32)), .val (.int (0 : Int32))] [(.int (0 : Int32))])) t
        refine XS.iloadN X12.here hx rfl (hb hby d9_8) rfl ?_
        show Steps p.tables e below (T12.setTop (mkF m 9 #[.val (.ref a1), .val (.int p2), .val (.int (0 : Int32)), .val (.int (0 : Int32)), .val (.int (0 : Int32))] [(.int (0 : Int32)), (.int (0 : Int32))])) t
        refine XS.icmpYes X12.here hx rfl (pc0 := 9) (pc' := 44) rfl (hb hby d9_9) rfl (XT.ii_ge_t (show ¬ ((0 : Int32) < (0 : Int32)) from by decide)) (by decide) (by decide) ?_
        show Steps p.tables e below (T12.setTop (mkF m 44 #[.val (.ref a1), .val (.int p2), .val (.int (0 : Int32)), .val (.int (0 : Int32)), .val (.int (0 : Int32))] [])) t
        refine XS.iloadN X12.here hx rfl (hb hby d9_44) rfl ?_
        show Steps p.tables e below (T12.setTop (mkF m 45 #[.val (.ref a1), .val (.int p2), .val (.int (0 : Int32)), .val (.int (0 : Int32)), .val (.int (0 : Int32))] [(.int (0 : Int32))])) t
        exact k)
      obtain ⟨fs, hr, hrun, hended, hW, hsame⟩ := X12.leave (v := some (.int (0 : Int32))) (fun h => by rw [Bd.returns] at h; cases h)
      refine ⟨_, _, pre17 _ ?_, hrun, hended, _, _, rfl, ?_, ⟨_, rfl⟩, hW, hsame.mono (by decide) (by decide)⟩
      · show Steps p.tables e below (T12.setTop (mkF m 45 #[.val (.ref a1), .val (.int p2), .val (.int (0 : Int32)), .val (.int (0 : Int32)), .val (.int (0 : Int32))] [(.int (0 : Int32))])) _
        exact retI X12 hx Bd.returns (hb hby d9_45) hr
      · show QFA2 Z a1 p2 ar kk cap x0 x1 h0 n0 _ T12.heap _
        rw [eh12]
        exact ⟨(congrArg (fun z => some (Value.int z)) (show (0 : Int32) = (own_fa2 x0 x1 p2) from (by simp only [own_fa2, if_pos hc27_8, if_pos hc27_14]))), N0, rfl⟩
    · skip
      have pre19 : ∀ t, Steps p.tables e below (T12.setTop (mkF m 45 #[.val (.ref a1), .val (.int p2), .val (.int (1 : Int32)), .val (.int (1 : Int32)), .val (.int (0 : Int32))] [(.int (1 : Int32))])) t → Steps p.tables e below (s₁.setTop (entryFrame m #[(.ref a1), (.int p2)] 5)) t := fun t k => pre15 t (by
        show Steps p.tables e below (T12.setTop (mkF m 27 #[.val (.ref a1), .val (.int p2), .val (.int (0 : Int32)), .val (.int (1 : Int32)), .val (.int (0 : Int32))] [(.int p2), (.int x0)])) t
        refine XS.icmpNo X12.here hx rfl (hb hby d9_27) rfl (XT.ii_gt_f hc27_14) ?_
        show Steps p.tables e below (T12.setTop (mkF m 30 #[.val (.ref a1), .val (.int p2), .val (.int (0 : Int32)), .val (.int (1 : Int32)), .val (.int (0 : Int32))] [])) t
        refine XS.iload X12.here hx rfl (hb hby d9_30) rfl ?_
        show Steps p.tables e below (T12.setTop (mkF m 32 #[.val (.ref a1), .val (.int p2), .val (.int (0 : Int32)), .val (.int (1 : Int32)), .val (.int (0 : Int32))] [(.int (0 : Int32))])) t
        refine XS.iconst X12.here hx rfl (hb hby d9_32) ?_
        show Steps p.tables e below (T12.setTop (mkF m 33 #[.val (.ref a1), .val (.int p2), .val (.int (0 : Int32)), .val (.int (1 : Int32)), .val (.int (0 : Int32))] [(.int (1 : Int32)), (.int (0 : Int32))])) t
        refine XS.iadd X12.here hx rfl (hb hby d9_33) rfl ?_
        show Steps p.tables e below (T12.setTop (mkF m 34 #[.val (.ref a1), .val (.int p2), .val (.int (0 : Int32)), .val (.int (1 : Int32)), .val (.int (0 : Int32))] [(.int (1 : Int32))])) t
        refine XS.istoreN X12.here hx rfl (hb hby d9_34) rfl (l' := #[.val (.ref a1), .val (.int p2), .val (.int (1 : Int32)), .val (.int (1 : Int32)), .val (.int (0 : Int32))]) rfl ?_
        show Steps p.tables e below (T12.setTop (mkF m 35 #[.val (.ref a1), .val (.int p2), .val (.int (1 : Int32)), .val (.int (1 : Int32)), .val (.int (0 : Int32))] [])) t
        refine XS.goto X12.here hx rfl (pc0 := 35) (pc' := 41) rfl (hb hby d9_35) (by decide) (by decide) ?_
        show Steps p.tables e below (T12.setTop (mkF m 41 #[.val (.ref a1), .val (.int p2), .val (.int (1 : Int32)), .val (.int (1 : Int32)), .val (.int (0 : Int32))] [])) t
        refine XS.goto X12.here hx rfl (pc0 := 41) (pc' := 7) rfl (hb hby d9_41) (by decide) (by decide) ?_
        show Steps p.tables e below (T12.setTop (mkF m 7 #[.val (.ref a1), .val (.int p2), .val (.int (1 : Int32)), .val (.int (1 : Int32)), .val (.int (0 : Int32))] [])) t
        refine XS.iloadN X12.here hx rfl (hb hby d9_7) rfl ?_
        show Steps p.tables e below (T12.setTop (mkF m 8 #[.val (.ref a1), .val (.int p2), .val (.int (1 : Int32)), .val (.int (1 : Int32)), .val (.int (0 : Int32))] [(.int (1 : Int32))])) t
        refine XS.iloadN X12.here hx rfl (hb hby d9_8) rfl ?_
        show Steps p.tables e below (T12.setTop (mkF m 9 #[.val (.ref a1), .val (.int p2), .val (.int (1 : Int32)), .val (.int (1 : Int32)), .val (.int (0 : Int32))] [(.int (1 : Int32)), (.int (1 : Int32))])) t
        refine XS.icmpYes X12.here hx rfl (pc0 := 9) (pc' := 44) rfl (hb hby d9_9) rfl (XT.ii_ge_t (show ¬ ((1 : Int32) < (1 : Int32)) from by decide)) (by decide) (by decide) ?_
        show Steps p.tables e below (T12.setTop (mkF m 44 #[.val (.ref a1), .val (.int p2), .val (.int (1 : Int32)), .val (.int (1 : Int32)), .val (.int (0 : Int32))] [])) t
        refine XS.iloadN X12.here hx rfl (hb hby d9_44) rfl ?_
        show Steps p.tables e below (T12.setTop (mkF m 45 #[.val (.ref a1), .val (.int p2), .val (.int (1 : Int32)), .val (.int (1 : Int32)), .val (.int (0 : Int32))] [(.int (1 : Int32))])) t
        exact k)
      obtain ⟨fs, hr, hrun, hended, hW, hsame⟩ := X12.leave (v := some (.int (1 : Int32))) (fun h => by rw [Bd.returns] at h; cases h)
      refine ⟨_, _, pre19 _ ?_, hrun, hended, _, _, rfl, ?_, ⟨_, rfl⟩, hW, hsame.mono (by decide) (by decide)⟩
      · show Steps p.tables e below (T12.setTop (mkF m 45 #[.val (.ref a1), .val (.int p2), .val (.int (1 : Int32)), .val (.int (1 : Int32)), .val (.int (0 : Int32))] [(.int (1 : Int32))])) _
        exact retI X12 hx Bd.returns (hb hby d9_45) hr
      · show QFA2 Z a1 p2 ar kk cap x0 x1 h0 n0 _ T12.heap _
        rw [eh12]
        exact ⟨(congrArg (fun z => some (Value.int z)) (show (1 : Int32) = (own_fa2 x0 x1 p2) from (by simp only [own_fa2, if_pos hc27_8, if_neg hc27_14]))), N0, rfl⟩
  · skip
    have pre21 : ∀ t, Steps p.tables e below (T6.setTop (mkF m 45 #[.val (.ref a1), .val (.int p2), .val (.int (2 : Int32)), .val (.int (2 : Int32)), .val (.int (1 : Int32))] [(.int (2 : Int32))])) t → Steps p.tables e below (s₁.setTop (entryFrame m #[(.ref a1), (.int p2)] 5)) t := fun t k => pre9 t (by
      show Steps p.tables e below (T6.setTop (mkF m 27 #[.val (.ref a1), .val (.int p2), .val (.int (0 : Int32)), .val (.int (2 : Int32)), .val (.int (1 : Int32))] [(.int p2), (.int x1)])) t
      refine XS.icmpNo X6.here hx rfl (hb hby d9_27) rfl (XT.ii_gt_f hc27_8) ?_
      show Steps p.tables e below (T6.setTop (mkF m 30 #[.val (.ref a1), .val (.int p2), .val (.int (0 : Int32)), .val (.int (2 : Int32)), .val (.int (1 : Int32))] [])) t
      refine XS.iload X6.here hx rfl (hb hby d9_30) rfl ?_
      show Steps p.tables e below (T6.setTop (mkF m 32 #[.val (.ref a1), .val (.int p2), .val (.int (0 : Int32)), .val (.int (2 : Int32)), .val (.int (1 : Int32))] [(.int (1 : Int32))])) t
      refine XS.iconst X6.here hx rfl (hb hby d9_32) ?_
      show Steps p.tables e below (T6.setTop (mkF m 33 #[.val (.ref a1), .val (.int p2), .val (.int (0 : Int32)), .val (.int (2 : Int32)), .val (.int (1 : Int32))] [(.int (1 : Int32)), (.int (1 : Int32))])) t
      refine XS.iadd X6.here hx rfl (hb hby d9_33) rfl ?_
      show Steps p.tables e below (T6.setTop (mkF m 34 #[.val (.ref a1), .val (.int p2), .val (.int (0 : Int32)), .val (.int (2 : Int32)), .val (.int (1 : Int32))] [(.int (2 : Int32))])) t
      refine XS.istoreN X6.here hx rfl (hb hby d9_34) rfl (l' := #[.val (.ref a1), .val (.int p2), .val (.int (2 : Int32)), .val (.int (2 : Int32)), .val (.int (1 : Int32))]) rfl ?_
      show Steps p.tables e below (T6.setTop (mkF m 35 #[.val (.ref a1), .val (.int p2), .val (.int (2 : Int32)), .val (.int (2 : Int32)), .val (.int (1 : Int32))] [])) t
      refine XS.goto X6.here hx rfl (pc0 := 35) (pc' := 41) rfl (hb hby d9_35) (by decide) (by decide) ?_
      show Steps p.tables e below (T6.setTop (mkF m 41 #[.val (.ref a1), .val (.int p2), .val (.int (2 : Int32)), .val (.int (2 : Int32)), .val (.int (1 : Int32))] [])) t
      refine XS.goto X6.here hx rfl (pc0 := 41) (pc' := 7) rfl (hb hby d9_41) (by decide) (by decide) ?_
      show Steps p.tables e below (T6.setTop (mkF m 7 #[.val (.ref a1), .val (.int p2), .val (.int (2 : Int32)), .val (.int (2 : Int32)), .val (.int (1 : Int32))] [])) t
      refine XS.iloadN X6.here hx rfl (hb hby d9_7) rfl ?_
      show Steps p.tables e below (T6.setTop (mkF m 8 #[.val (.ref a1), .val (.int p2), .val (.int (2 : Int32)), .val (.int (2 : Int32)), .val (.int (1 : Int32))] [(.int (2 : Int32))])) t
      refine XS.iloadN X6.here hx rfl (hb hby d9_8) rfl ?_
      show Steps p.tables e below (T6.setTop (mkF m 9 #[.val (.ref a1), .val (.int p2), .val (.int (2 : Int32)), .val (.int (2 : Int32)), .val (.int (1 : Int32))] [(.int (2 : Int32)), (.int (2 : Int32))])) t
      refine XS.icmpYes X6.here hx rfl (pc0 := 9) (pc' := 44) rfl (hb hby d9_9) rfl (XT.ii_ge_t (show ¬ ((2 : Int32) < (2 : Int32)) from by decide)) (by decide) (by decide) ?_
      show Steps p.tables e below (T6.setTop (mkF m 44 #[.val (.ref a1), .val (.int p2), .val (.int (2 : Int32)), .val (.int (2 : Int32)), .val (.int (1 : Int32))] [])) t
      refine XS.iloadN X6.here hx rfl (hb hby d9_44) rfl ?_
      show Steps p.tables e below (T6.setTop (mkF m 45 #[.val (.ref a1), .val (.int p2), .val (.int (2 : Int32)), .val (.int (2 : Int32)), .val (.int (1 : Int32))] [(.int (2 : Int32))])) t
      exact k)
    obtain ⟨fs, hr, hrun, hended, hW, hsame⟩ := X6.leave (v := some (.int (2 : Int32))) (fun h => by rw [Bd.returns] at h; cases h)
    refine ⟨_, _, pre21 _ ?_, hrun, hended, _, _, rfl, ?_, ⟨_, rfl⟩, hW, hsame.mono (by decide) (by decide)⟩
    · show Steps p.tables e below (T6.setTop (mkF m 45 #[.val (.ref a1), .val (.int p2), .val (.int (2 : Int32)), .val (.int (2 : Int32)), .val (.int (1 : Int32))] [(.int (2 : Int32))])) _
      exact retI X6 hx Bd.returns (hb hby d9_45) hr
    · show QFA2 Z a1 p2 ar kk cap x0 x1 h0 n0 _ T6.heap _
      rw [eh6]
      exact ⟨(congrArg (fun z => some (Value.int z)) (show (2 : Int32) = (own_fa2 x0 x1 p2) from (by simp only [own_fa2, if_neg hc27_8]))), N0, rfl⟩
theorem ef_FA3 (m : MethodId) (a1 : Addr) (p2 : Int32) : entryFrame m #[(.ref a1), (.int p2)] 5 = mkF m 0 #[.val (.ref a1), .val (.int p2), .unset, .unset, .unset] [] := by first | (simp [entryFrame, mkF, argsToLocals, Value.category]; done) | rfl
def QFA3 (Z : State) (a1 : Addr) (p2 : Int32) (ar : Addr) (kk : ClassId) (cap : Int32) (x0 : Int32) (x1 : Int32) (x2 : Int32) (h0 : Heap) (n0 : Nat) (v : Option Value) (h : Heap) (L : List Loc) : Prop := v = some (.int (own_fa3 x0 x1 x2 p2)) ∧ Fr n0 L ∧ h = h0
set_option maxRecDepth 65536 in
set_option maxHeartbeats 40000000 in
theorem rmFA3 (l : Launch) (Z : State) (a0 : Array Value) (hw : ∀ d ∈ tables_1, d.before a0 Z = true) (ws : List Jvm.Cond) (a1 : Addr) (p2 : Int32) (ar : Addr) (kk : ClassId) (cap : Int32) (x0 : Int32) (x1 : Int32) (x2 : Int32) (h0 : Heap) (n0 : Nat) (Z0 : n0 ≤ h0.size) (F_values_a1 : Fld Z h0 a1 "com/example/interlace/interlace/core/IntColumn" "values" "[I" (.ref ar)) (F_size_a1 : Fld Z h0 a1 "com/example/interlace/interlace/core/IntColumn" "size" "I" (.int (3 : Int32))) (V_ar : Arv Z h0 ar kk .int cap [(.int x0), (.int x1), (.int x2), (.int (0 : Int32))] (.int (0 : Int32))) (hcap : ¬ cap < (3 : Int32)) :
    MetFree l (⟨"com/example/interlace/interlace/core/IntColumn", "firstAbove", "(I)I"⟩ : MethodName) (head1 (Jvm.Cond.code (⟨"com/example/interlace/interlace/core/IntColumn", "firstAbove", "(I)I"⟩ : MethodName) prog_78_method_8_code 5 (some .int) :: ws) ({ frames := 0, cells := 0, slots := 0, locals := 0 } : Room)) (fun a U => a = #[(.ref a1), (.int p2)] ∧ Z.Warmed39 U.vm ∧ U.heap = h0) (fun _ _ _ _ _ => True) (fun _ U o U' => ∃ v L, o = .returned v ∧ QFA3 Z a1 p2 ar kk cap x0 x1 x2 h0 n0 v U'.heap L ∧ FrameEnd U o U' L ({ frames := 0, cells := 0, slots := 0, locals := 0 } : Room).cells ({ frames := 0, cells := 0, slots := 0, locals := 0 } : Room).slots) := by
  refine MetFree.of_bodySF (plainFor_of_name pn_com_example_interlace_interlace_core_IntColumn) hisR ?_
  intro p e s m args below meth c s₁ Bd hml0 hP hK
  obtain ⟨rfl, hZ, hh⟩ := hP
  have hx := Bd.exec
  have hby := Bd.bytes
  have hml : c.maxLocals = 5 := hml0
  have hown : s.vm.findClass "com/example/interlace/interlace/core/IntColumn" = some m.cls := findClass_of_methodNamed Bd.named
  have hnm := (name_of_methodNamed Bd.named Bd.method).1
  have X0 : Stand p l e ({ frames := 0, cells := 0, slots := 0, locals := 0 } : Room) s m #[(.ref a1), (.int p2)] below meth c s₁ [] 0 0 := Stand.of_body Bd
  have eh0 : s₁.heap = h0 := by rw [← hh, Bd.state]; rfl
  have N0 := Fr.nil n0
  have pre0 : ∀ t, Steps p.tables e below (s₁.setTop (mkF m 0 #[.val (.ref a1), .val (.int p2), .unset, .unset, .unset] [])) t → Steps p.tables e below (s₁.setTop (entryFrame m #[(.ref a1), (.int p2)] 5)) t := fun t k => castTop (ef_FA3 m a1 p2) k
  have pre1 : ∀ t, Steps p.tables e below (s₁.setTop (mkF m 3 #[.val (.ref a1), .val (.int p2), .val (.int (0 : Int32)), .unset, .unset] [(.ref a1)])) t → Steps p.tables e below (s₁.setTop (entryFrame m #[(.ref a1), (.int p2)] 5)) t := fun t k => pre0 t (by
    show Steps p.tables e below (s₁.setTop (mkF m 0 #[.val (.ref a1), .val (.int p2), .unset, .unset, .unset] [])) t
    refine XS.iconst X0.here hx rfl (hb hby d9_0) ?_
    show Steps p.tables e below (s₁.setTop (mkF m 1 #[.val (.ref a1), .val (.int p2), .unset, .unset, .unset] [(.int (0 : Int32))])) t
    refine XS.istoreN X0.here hx rfl (hb hby d9_1) rfl (l' := #[.val (.ref a1), .val (.int p2), .val (.int (0 : Int32)), .unset, .unset]) rfl ?_
    show Steps p.tables e below (s₁.setTop (mkF m 2 #[.val (.ref a1), .val (.int p2), .val (.int (0 : Int32)), .unset, .unset] [])) t
    refine XS.aloadN X0.here hx rfl (hb hby d9_2) rfl rfl ?_
    show Steps p.tables e below (s₁.setTop (mkF m 3 #[.val (.ref a1), .val (.int p2), .val (.int (0 : Int32)), .unset, .unset] [(.ref a1)])) t
    exact k)
  obtain ⟨T2, X2, eh2, st2⟩ := getF X0 hx hZ hown (host := "") (Or.inl (hw _ (List.mem_of_getElem? (i := 24) rfl))) Via.refl eh0 F_size_a1 (g := (mkF m 3 #[.val (.ref a1), .val (.int p2), .val (.int (0 : Int32)), .unset, .unset] [(.ref a1)])) rfl rfl (hb hby d9_3)
  have pre3 : ∀ t, Steps p.tables e below (T2.setTop (mkF m 6 #[.val (.ref a1), .val (.int p2), .val (.int (0 : Int32)), .unset, .unset] [(.int (3 : Int32))])) t → Steps p.tables e below (s₁.setTop (entryFrame m #[(.ref a1), (.int p2)] 5)) t := fun t k => pre1 t (st2 _ k)
  have pre5 : ∀ t, Steps p.tables e below (T2.setTop (mkF m 20 #[.val (.ref a1), .val (.int p2), .val (.int (0 : Int32)), .val (.int (3 : Int32)), .val (.int (1 : Int32))] [(.ref a1)])) t → Steps p.tables e below (s₁.setTop (entryFrame m #[(.ref a1), (.int p2)] 5)) t := fun t k => pre3 t (by
    show Steps p.tables e below (T2.setTop (mkF m 6 #[.val (.ref a1), .val (.int p2), .val (.int (0 : Int32)), .unset, .unset] [(.int (3 : Int32))])) t
    refine XS.istoreN X2.here hx rfl (hb hby d9_6) rfl (l' := #[.val (.ref a1), .val (.int p2), .val (.int (0 : Int32)), .val (.int (3 : Int32)), .unset]) rfl ?_
    show Steps p.tables e below (T2.setTop (mkF m 7 #[.val (.ref a1), .val (.int p2), .val (.int (0 : Int32)), .val (.int (3 : Int32)), .unset] [])) t
    refine XS.iloadN X2.here hx rfl (hb hby d9_7) rfl ?_
    show Steps p.tables e below (T2.setTop (mkF m 8 #[.val (.ref a1), .val (.int p2), .val (.int (0 : Int32)), .val (.int (3 : Int32)), .unset] [(.int (0 : Int32))])) t
    refine XS.iloadN X2.here hx rfl (hb hby d9_8) rfl ?_
    show Steps p.tables e below (T2.setTop (mkF m 9 #[.val (.ref a1), .val (.int p2), .val (.int (0 : Int32)), .val (.int (3 : Int32)), .unset] [(.int (3 : Int32)), (.int (0 : Int32))])) t
    refine XS.icmpNo X2.here hx rfl (hb hby d9_9) rfl (XT.ii_ge_f (show (0 : Int32) < (3 : Int32) from by decide)) ?_
    show Steps p.tables e below (T2.setTop (mkF m 12 #[.val (.ref a1), .val (.int p2), .val (.int (0 : Int32)), .val (.int (3 : Int32)), .unset] [])) t
    refine XS.iloadN X2.here hx rfl (hb hby d9_12) rfl ?_
    show Steps p.tables e below (T2.setTop (mkF m 13 #[.val (.ref a1), .val (.int p2), .val (.int (0 : Int32)), .val (.int (3 : Int32)), .unset] [(.int (0 : Int32))])) t
    refine XS.iloadN X2.here hx rfl (hb hby d9_13) rfl ?_
    show Steps p.tables e below (T2.setTop (mkF m 14 #[.val (.ref a1), .val (.int p2), .val (.int (0 : Int32)), .val (.int (3 : Int32)), .unset] [(.int (3 : Int32)), (.int (0 : Int32))])) t
    refine XS.iadd X2.here hx rfl (hb hby d9_14) rfl ?_
    show Steps p.tables e below (T2.setTop (mkF m 15 #[.val (.ref a1), .val (.int p2), .val (.int (0 : Int32)), .val (.int (3 : Int32)), .unset] [(.int (3 : Int32))])) t
    refine XS.iconst X2.here hx rfl (hb hby d9_15) ?_
    show Steps p.tables e below (T2.setTop (mkF m 16 #[.val (.ref a1), .val (.int p2), .val (.int (0 : Int32)), .val (.int (3 : Int32)), .unset] [(.int (1 : Int32)), (.int (3 : Int32))])) t
    refine XT.iushr X2.here hx rfl (hb hby d9_16) rfl ?_
    show Steps p.tables e below (T2.setTop (mkF m 17 #[.val (.ref a1), .val (.int p2), .val (.int (0 : Int32)), .val (.int (3 : Int32)), .unset] [(.int (1 : Int32))])) t
    refine XS.istore X2.here hx rfl (hb hby d9_17) rfl (l' := #[.val (.ref a1), .val (.int p2), .val (.int (0 : Int32)), .val (.int (3 : Int32)), .val (.int (1 : Int32))]) rfl ?_
    show Steps p.tables e below (T2.setTop (mkF m 19 #[.val (.ref a1), .val (.int p2), .val (.int (0 : Int32)), .val (.int (3 : Int32)), .val (.int (1 : Int32))] [])) t
    refine XS.aloadN X2.here hx rfl (hb hby d9_19) rfl rfl ?_
    show Steps p.tables e below (T2.setTop (mkF m 20 #[.val (.ref a1), .val (.int p2), .val (.int (0 : Int32)), .val (.int (3 : Int32)), .val (.int (1 : Int32))] [(.ref a1)])) t
    exact k)
  obtain ⟨T6, X6, eh6, st6⟩ := getF X2 hx hZ hown (host := "") (Or.inl (hw _ (List.mem_of_getElem? (i := 17) rfl))) Via.refl eh2 F_values_a1 (g := (mkF m 20 #[.val (.ref a1), .val (.int p2), .val (.int (0 : Int32)), .val (.int (3 : Int32)), .val (.int (1 : Int32))] [(.ref a1)])) rfl rfl (hb hby d9_20)
  have pre7 : ∀ t, Steps p.tables e below (T6.setTop (mkF m 23 #[.val (.ref a1), .val (.int p2), .val (.int (0 : Int32)), .val (.int (3 : Int32)), .val (.int (1 : Int32))] [(.ref ar)])) t → Steps p.tables e below (s₁.setTop (entryFrame m #[(.ref a1), (.int p2)] 5)) t := fun t k => pre5 t (st6 _ k)
  have pre9 : ∀ t, Steps p.tables e below (T6.setTop (mkF m 27 #[.val (.ref a1), .val (.int p2), .val (.int (0 : Int32)), .val (.int (3 : Int32)), .val (.int (1 : Int32))] [(.int p2), (.int x1)])) t → Steps p.tables e below (s₁.setTop (entryFrame m #[(.ref a1), (.int p2)] 5)) t := fun t k => pre7 t (by
    show Steps p.tables e below (T6.setTop (mkF m 23 #[.val (.ref a1), .val (.int p2), .val (.int (0 : Int32)), .val (.int (3 : Int32)), .val (.int (1 : Int32))] [(.ref ar)])) t
    refine XS.iload X6.here hx rfl (hb hby d9_23) rfl ?_
    show Steps p.tables e below (T6.setTop (mkF m 25 #[.val (.ref a1), .val (.int p2), .val (.int (0 : Int32)), .val (.int (3 : Int32)), .val (.int (1 : Int32))] [(.int (1 : Int32)), (.ref ar)])) t
    refine own_iaload X6 hx hZ eh6 V_ar (j := (1 : Int32)) (v := (.int x1)) ⟨by decide, own_in (3 : Int32) hcap (by decide)⟩ rfl (g := (mkF m 25 #[.val (.ref a1), .val (.int p2), .val (.int (0 : Int32)), .val (.int (3 : Int32)), .val (.int (1 : Int32))] [(.int (1 : Int32)), (.ref ar)])) rfl rfl (hb hby d9_25) _ ?_
    show Steps p.tables e below (T6.setTop (mkF m 26 #[.val (.ref a1), .val (.int p2), .val (.int (0 : Int32)), .val (.int (3 : Int32)), .val (.int (1 : Int32))] [(.int x1)])) t
    refine XS.iloadN X6.here hx rfl (hb hby d9_26) rfl ?_
    show Steps p.tables e below (T6.setTop (mkF m 27 #[.val (.ref a1), .val (.int p2), .val (.int (0 : Int32)), .val (.int (3 : Int32)), .val (.int (1 : Int32))] [(.int p2), (.int x1)])) t
    exact k)
  by_cases hc27_8 : p2 < x1
  · skip
    have pre11 : ∀ t, Steps p.tables e below (T6.setTop (mkF m 20 #[.val (.ref a1), .val (.int p2), .val (.int (0 : Int32)), .val (.int (1 : Int32)), .val (.int (0 : Int32))] [(.ref a1)])) t → Steps p.tables e below (s₁.setTop (entryFrame m #[(.ref a1), (.int p2)] 5)) t := fun t k => pre9 t (by
      show Steps p.tables e below (T6.setTop (mkF m 27 #[.val (.ref a1), .val (.int p2), .val (.int (0 : Int32)), .val (.int (3 : Int32)), .val (.int (1 : Int32))] [(.int p2), (.int x1)])) t
      refine XS.icmpYes X6.here hx rfl (pc0 := 27) (pc' := 38) rfl (hb hby d9_27) rfl (XT.ii_gt_t hc27_8) (by decide) (by decide) ?_
      show Steps p.tables e below (T6.setTop (mkF m 38 #[.val (.ref a1), .val (.int p2), .val (.int (0 : Int32)), .val (.int (3 : Int32)), .val (.int (1 : Int32))] [])) t
      refine XS.iload X6.here hx rfl (hb hby d9_38) rfl ?_
      show Steps p.tables e below (T6.setTop (mkF m 40 #[.val (.ref a1), .val (.int p2), .val (.int (0 : Int32)), .val (.int (3 : Int32)), .val (.int (1 : Int32))] [(.int (1 : Int32))])) t
      refine XS.istoreN X6.here hx rfl (hb hby d9_40) rfl (l' := #[.val (.ref a1), .val (.int p2), .val (.int (0 : Int32)), .val (.int (1 : Int32)), .val (.int (1 : Int32))]) rfl ?_
      show Steps p.tables e below (T6.setTop (mkF m 41 #[.val (.ref a1), .val (.int p2), .val (.int (0 : Int32)), .val (.int (1 : Int32)), .val (.int (1 : Int32))] [])) t
      refine XS.goto X6.here hx rfl (pc0 := 41) (pc' := 7) rfl (hb hby d9_41) (by decide) (by decide) ?_
      show Steps p.tables e below (T6.setTop (mkF m 7 #[.val (.ref a1), .val (.int p2), .val (.int (0 : Int32)), .val (.int (1 : Int32)), .val (.int (1 : Int32))] [])) t
      refine XS.iloadN X6.here hx rfl (hb hby d9_7) rfl ?_
      show Steps p.tables e below (T6.setTop (mkF m 8 #[.val (.ref a1), .val (.int p2), .val (.int (0 : Int32)), .val (.int (1 : Int32)), .val (.int (1 : Int32))] [(.int (0 : Int32))])) t
      refine XS.iloadN X6.here hx rfl (hb hby d9_8) rfl ?_
      show Steps p.tables e below (T6.setTop (mkF m 9 #[.val (.ref a1), .val (.int p2), .val (.int (0 : Int32)), .val (.int (1 : Int32)), .val (.int (1 : Int32))] [(.int (1 : Int32)), (.int (0 : Int32))])) t
      refine XS.icmpNo X6.here hx rfl (hb hby d9_9) rfl (XT.ii_ge_f (show (0 : Int32) < (1 : Int32) from by decide)) ?_
      show Steps p.tables e below (T6.setTop (mkF m 12 #[.val (.ref a1), .val (.int p2), .val (.int (0 : Int32)), .val (.int (1 : Int32)), .val (.int (1 : Int32))] [])) t
      refine XS.iloadN X6.here hx rfl (hb hby d9_12) rfl ?_
      show Steps p.tables e below (T6.setTop (mkF m 13 #[.val (.ref a1), .val (.int p2), .val (.int (0 : Int32)), .val (.int (1 : Int32)), .val (.int (1 : Int32))] [(.int (0 : Int32))])) t
      refine XS.iloadN X6.here hx rfl (hb hby d9_13) rfl ?_
      show Steps p.tables e below (T6.setTop (mkF m 14 #[.val (.ref a1), .val (.int p2), .val (.int (0 : Int32)), .val (.int (1 : Int32)), .val (.int (1 : Int32))] [(.int (1 : Int32)), (.int (0 : Int32))])) t
      refine XS.iadd X6.here hx rfl (hb hby d9_14) rfl ?_
      show Steps p.tables e below (T6.setTop (mkF m 15 #[.val (.ref a1), .val (.int p2), .val (.int (0 : Int32)), .val (.int (1 : Int32)), .val (.int (1 : Int32))] [(.int (1 : Int32))])) t
      refine XS.iconst X6.here hx rfl (hb hby d9_15) ?_
      show Steps p.tables e below (T6.setTop (mkF m 16 #[.val (.ref a1), .val (.int p2), .val (.int (0 : Int32)), .val (.int (1 : Int32)), .val (.int (1 : Int32))] [(.int (1 : Int32)), (.int (1 : Int32))])) t
      refine XT.iushr X6.here hx rfl (hb hby d9_16) rfl ?_
      show Steps p.tables e below (T6.setTop (mkF m 17 #[.val (.ref a1), .val (.int p2), .val (.int (0 : Int32)), .val (.int (1 : Int32)), .val (.int (1 : Int32))] [(.int (0 : Int32))])) t
      refine XS.istore X6.here hx rfl (hb hby d9_17) rfl (l' := #[.val (.ref a1), .val (.int p2), .val (.int (0 : Int32)), .val (.int (1 : Int32)), .val (.int (0 : Int32))]) rfl ?_
      show Steps p.tables e below (T6.setTop (mkF m 19 #[.val (.ref a1), .val (.int p2), .val (.int (0 : Int32)), .val (.int (1 : Int32)), .val (.int (0 : Int32))] [])) t
      refine XS.aloadN X6.here hx rfl (hb hby d9_19) rfl rfl ?_
      show Steps p.tables e below (T6.setTop (mkF m 20 #[.val (.ref a1), .val (.int p2), .val (.int (0 : Int32)), .val (.int (1 : Int32)), .val (.int (0 : Int32))] [(.ref a1)])) t
      exact k)
    obtain ⟨T12, X12, eh12, st12⟩ := getF X6 hx hZ hown (host := "") (Or.inl (hw _ (List.mem_of_getElem? (i := 17) rfl))) Via.refl eh6 F_values_a1 (g := (mkF m 20 #[.val (.ref a1), .val (.int p2), .val (.int (0 : Int32)), .val (.int (1 : Int32)), .val (.int (0 : Int32))] [(.ref a1)])) rfl rfl (hb hby d9_20)
    have pre13 : ∀ t, Steps p.tables e below (T12.setTop (mkF m 23 #[.val (.ref a1), .val (.int p2), .val (.int (0 : Int32)), .val (.int (1 : Int32)), .val (.int (0 : Int32))] [(.ref ar)])) t → Steps p.tables e below (s₁.setTop (entryFrame m #[(.ref a1), (.int p2)] 5)) t := fun t k => pre11 t (st12 _ k)
    have pre15 : ∀ t, Steps p.tables e below (T12.setTop (mkF m 27 #[.val (.ref a1), .val (.int p2), .val (.int (0 : Int32)), .val (.int (1 : Int32)), .val (.int (0 : Int32))] [(.int p2), (.int x0)])) t → Steps p.tables e below (s₁.setTop (entryFrame m #[(.ref a1), (.int p2)] 5)) t := fun t k => pre13 t (by
      show Steps p.tables e below (T12.setTop (mkF m 23 #[.val (.ref a1), .val (.int p2), .val (.int (0 : Int32)), .val (.int (1 : Int32)), .val (.int (0 : Int32))] [(.ref ar)])) t
      refine XS.iload X12.here hx rfl (hb hby d9_23) rfl ?_
      show Steps p.tables e below (T12.setTop (mkF m 25 #[.val (.ref a1), .val (.int p2), .val (.int (0 : Int32)), .val (.int (1 : Int32)), .val (.int (0 : Int32))] [(.int (0 : Int32)), (.ref ar)])) t
      refine own_iaload X12 hx hZ eh12 V_ar (j := (0 : Int32)) (v := (.int x0)) ⟨by decide, own_in (3 : Int32) hcap (by decide)⟩ rfl (g := (mkF m 25 #[.val (.ref a1), .val (.int p2), .val (.int (0 : Int32)), .val (.int (1 : Int32)), .val (.int (0 : Int32))] [(.int (0 : Int32)), (.ref ar)])) rfl rfl (hb hby d9_25) _ ?_
      show Steps p.tables e below (T12.setTop (mkF m 26 #[.val (.ref a1), .val (.int p2), .val (.int (0 : Int32)), .val (.int (1 : Int32)), .val (.int (0 : Int32))] [(.int x0)])) t
      refine XS.iloadN X12.here hx rfl (hb hby d9_26) rfl ?_
      show Steps p.tables e below (T12.setTop (mkF m 27 #[.val (.ref a1), .val (.int p2), .val (.int (0 : Int32)), .val (.int (1 : Int32)), .val (.int (0 : Int32))] [(.int p2), (.int x0)])) t
      exact k)
    by_cases hc27_14 : p2 < x0
    · skip
      have pre17 : ∀ t, Steps p.tables e below (T12.setTop (mkF m 45 #[.val (.ref a1), .val (.int p2), .val (.int (0 : Int32)), .val (.int (0 : Int32)), .val (.int (0 : Int32))] [(.int (0 : Int32))])) t → Steps p.tables e below (s₁.setTop (entryFrame m #[(.ref a1), (.int p2)] 5)) t := fun t k => pre15 t (by
        show Steps p.tables e below (T12.setTop (mkF m 27 #[.val (.ref a1), .val (.int p2), .val (.int (0 : Int32)), .val (.int (1 : Int32)), .val (.int (0 : Int32))] [(.int p2), (.int x0)])) t
        refine XS.icmpYes X12.here hx rfl (pc0 := 27) (pc' := 38) rfl (hb hby d9_27) rfl (XT.ii_gt_t hc27_14) (by decide) (by decide) ?_
        show Steps p.tables e below (T12.setTop (mkF m 38 #[.val (.ref a1), .val (.int p2), .val (.int (0 : Int32)), .val (.int (1 : Int32)), .val (.int (0 : Int32))] [])) t
        refine XS.iload X12.here hx rfl (hb hby d9_38) rfl ?_
        show Steps p.tables e below (T12.setTop (mkF m 40 #[.val (.ref a1), .val (.int p2), .val (.int (0 : Int32)), .val (.int (1 : Int32)), .val (.int (0 : Int32))] [(.int (0 : Int32))])) t
        refine XS.istoreN X12.here hx rfl (hb hby d9_40) rfl (l' := #[.val (.ref a1), .val (.int p2), .val (.int (0 : Int32)), .val (.int (0 : Int32)), .val (.int (0 : Int32))]) rfl ?_
        show Steps p.tables e below (T12.setTop (mkF m 41 #[.val (.ref a1), .val (.int p2), .val (.int (0 : Int32)), .val (.int (0 : Int32)), .val (.int (0 : Int32))] [])) t
        refine XS.goto X12.here hx rfl (pc0 := 41) (pc' := 7) rfl (hb hby d9_41) (by decide) (by decide) ?_
        show Steps p.tables e below (T12.setTop (mkF m 7 #[.val (.ref a1), .val (.int p2), .val (.int (0 : Int32)), .val (.int (0 : Int32)), .val (.int (0 : Int32))] [])) t
        refine XS.iloadN X12.here hx rfl (hb hby d9_7) rfl ?_
        show Steps p.tables e below (T12.setTop (mkF m 8 #[.val (.ref a1), .val (.int p2), .val (.int (0 : Int32)), .val (.int (0 : Int32)), .val (.int (0 : Int32))] [(.int (0 : Int32))])) t
        refine XS.iloadN X12.here hx rfl (hb hby d9_8) rfl ?_
        show Steps p.tables e below (T12.setTop (mkF m 9 #[.val (.ref a1), .val (.int p2), .val (.int (0 : Int32)), .val (.int (0 : Int32)), .val (.int (0 : Int32))] [(.int (0 : Int32)), (.int (0 : Int32))])) t
        refine XS.icmpYes X12.here hx rfl (pc0 := 9) (pc' := 44) rfl (hb hby d9_9) rfl (XT.ii_ge_t (show ¬ ((0 : Int32) < (0 : Int32)) from by decide)) (by decide) (by decide) ?_
        show Steps p.tables e below (T12.setTop (mkF m 44 #[.val (.ref a1), .val (.int p2), .val (.int (0 : Int32)), .val (.int (0 : Int32)), .val (.int (0 : Int32))] [])) t
        refine XS.iloadN X12.here hx rfl (hb hby d9_44) rfl ?_
        show Steps p.tables e below (T12.setTop (mkF m 45 #[.val (.ref a1), .val (.int p2), .val (.int (0 : Int32)), .val (.int (0 : Int32)), .val (.int (0 : Int32))] [(.int (0 : Int32))])) t
        exact k)
      obtain ⟨fs, hr, hrun, hended, hW, hsame⟩ := X12.leave (v := some (.int (0 : Int32))) (fun h => by rw [Bd.returns] at h; cases h)
      refine ⟨_, _, pre17 _ ?_, hrun, hended, _, _, rfl, ?_, ⟨_, rfl⟩, hW, hsame.mono (by decide) (by decide)⟩
      · show Steps p.tables e below (T12.setTop (mkF m 45 #[.val (.ref a1), .val (.int p2), .val (.int (0 : Int32)), .val (.int (0 : Int32)), .val (.int (0 : Int32))] [(.int (0 : Int32))])) _
        exact retI X12 hx Bd.returns (hb hby d9_45) hr
      · show QFA3 Z a1 p2 ar kk cap x0 x1 x2 h0 n0 _ T12.heap _
        rw [eh12]
        exact ⟨(congrArg (fun z => some (Value.int z)) (show (0 : Int32) = (own_fa3 x0 x1 x2 p2) from (by simp only [own_fa3, if_pos hc27_8, if_pos hc27_14]))), N0, rfl⟩
    · skip
      have pre19 : ∀ t, Steps p.tables e below (T12.setTop (mkF m 45 #[.val (.ref a1), .val (.int p2), .val (.int (1 : Int32)), .val (.int (1 : Int32)), .val (.int (0 : Int32))] [(.int (1 : Int32))])) t → Steps p.tables e below (s₁.setTop (entryFrame m #[(.ref a1), (.int p2)] 5)) t := fun t k => pre15 t (by
        show Steps p.tables e below (T12.setTop (mkF m 27 #[.val (.ref a1), .val (.int p2), .val (.int (0 : Int32)), .val (.int (1 : Int32)), .val (.int (0 : Int32))] [(.int p2), (.int x0)])) t
        refine XS.icmpNo X12.here hx rfl (hb hby d9_27) rfl (XT.ii_gt_f hc27_14) ?_
        show Steps p.tables e below (T12.setTop (mkF m 30 #[.val (.ref a1), .val (.int p2), .val (.int (0 : Int32)), .val (.int (1 : Int32)), .val (.int (0 : Int32))] [])) t
        refine XS.iload X12.here hx rfl (hb hby d9_30) rfl ?_
        show Steps p.tables e below (T12.setTop (mkF m 32 #[.val (.ref a1), .val (.int p2), .val (.int (0 : Int32)), .val (.int (1 : Int32)), .val (.int (0 : Int32))] [(.int (0 : Int32))])) t
        refine XS.iconst X12.here hx rfl (hb hby d9_32) ?_
        show Steps p.tables e below (T12.setTop (mkF m 33 #[.val (.ref a1), .val (.int p2), .val (.int (0 : Int32)), .val (.int (1 : Int32)), .val (.int (0 : Int32))] [(.int (1 : Int32)), (.int (0 : Int32))])) t
        refine XS.iadd X12.here hx rfl (hb hby d9_33) rfl ?_
        show Steps p.tables e below (T12.setTop (mkF m 34 #[.val (.ref a1), .val (.int p2), .val (.int (0 : Int32)), .val (.int (1 : Int32)), .val (.int (0 : Int32))] [(.int (1 : Int32))])) t
        refine XS.istoreN X12.here hx rfl (hb hby d9_34) rfl (l' := #[.val (.ref a1), .val (.int p2), .val (.int (1 : Int32)), .val (.int (1 : Int32)), .val (.int (0 : Int32))]) rfl ?_
        show Steps p.tables e below (T12.setTop (mkF m 35 #[.val (.ref a1), .val (.int p2), .val (.int (1 : Int32)), .val (.int (1 : Int32)), .val (.int (0 : Int32))] [])) t
        refine XS.goto X12.here hx rfl (pc0 := 35) (pc' := 41) rfl (hb hby d9_35) (by decide) (by decide) ?_
        show Steps p.tables e below (T12.setTop (mkF m 41 #[.val (.ref a1), .val (.int p2), .val (.int (1 : Int32)), .val (.int (1 : Int32)), .val (.int (0 : Int32))] [])) t
        refine XS.goto X12.here hx rfl (pc0 := 41) (pc' := 7) rfl (hb hby d9_41) (by decide) (by decide) ?_
        show Steps p.tables e below (T12.setTop (mkF m 7 #[.val (.ref a1), .val (.int p2), .val (.int (1 : Int32)), .val (.int (1 : Int32)), .val (.int (0 : Int32))] [])) t
        refine XS.iloadN X12.here hx rfl (hb hby d9_7) rfl ?_
        show Steps p.tables e below (T12.setTop (mkF m 8 #[.val (.ref a1), .val (.int p2), .val (.int (1 : Int32)), .val (.int (1 : Int32)), .val (.int (0 : Int32))] [(.int (1 : Int32))])) t
        refine XS.iloadN X12.here hx rfl (hb hby d9_8) rfl ?_
        show Steps p.tables e below (T12.setTop (mkF m 9 #[.val (.ref a1), .val (.int p2), .val (.int (1 : Int32)), .val (.int (1 : Int32)), .val (.int (0 : Int32))] [(.int (1 : Int32)), (.int (1 : Int32))])) t
        refine XS.icmpYes X12.here hx rfl (pc0 := 9) (pc' := 44) rfl (hb hby d9_9) rfl (XT.ii_ge_t (show ¬ ((1 : Int32) < (1 : Int32)) from by decide)) (by decide) (by decide) ?_
        show Steps p.tables e below (T12.setTop (mkF m 44 #[.val (.ref a1), .val (.int p2), .val (.int (1 : Int32)), .val (.int (1 : Int32)), .val (.int (0 : Int32))] [])) t
        refine XS.iloadN X12.here hx rfl (hb hby d9_44) rfl ?_
        show Steps p.tables e below (T12.setTop (mkF m 45 #[.val (.ref a1), .val (.int p2), .val (.int (1 : Int32)), .val (.int (1 : Int32)), .val (.int (0 : Int32))] [(.int (1 : Int32))])) t
        exact k)
      obtain ⟨fs, hr, hrun, hended, hW, hsame⟩ := X12.leave (v := some (.int (1 : Int32))) (fun h => by rw [Bd.returns] at h; cases h)
      refine ⟨_, _, pre19 _ ?_, hrun, hended, _, _, rfl, ?_, ⟨_, rfl⟩, hW, hsame.mono (by decide) (by decide)⟩
      · show Steps p.tables e below (T12.setTop (mkF m 45 #[.val (.ref a1), .val (.int p2), .val (.int (1 : Int32)), .val (.int (1 : Int32)), .val (.int (0 : Int32))] [(.int (1 : Int32))])) _
        exact retI X12 hx Bd.returns (hb hby d9_45) hr
      · show QFA3 Z a1 p2 ar kk cap x0 x1 x2 h0 n0 _ T12.heap _
        rw [eh12]
        exact ⟨(congrArg (fun z => some (Value.int z)) (show (1 : Int32) = (own_fa3 x0 x1 x2 p2) from (by simp only [own_fa3, if_pos hc27_8, if_neg hc27_14]))), N0, rfl⟩
  · skip
    have pre21 : ∀ t, Steps p.tables e below (T6.setTop (mkF m 20 #[.val (.ref a1), .val (.int p2), .val (.int (2 : Int32)), .val (.int (3 : Int32)), .val (.int (2 : Int32))] [(.ref a1)])) t → Steps p.tables e below (s₁.setTop (entryFrame m #[(.ref a1), (.int p2)] 5)) t := fun t k => pre9 t (by
      show Steps p.tables e below (T6.setTop (mkF m 27 #[.val (.ref a1), .val (.int p2), .val (.int (0 : Int32)), .val (.int (3 : Int32)), .val (.int (1 : Int32))] [(.int p2), (.int x1)])) t
      refine XS.icmpNo X6.here hx rfl (hb hby d9_27) rfl (XT.ii_gt_f hc27_8) ?_
      show Steps p.tables e below (T6.setTop (mkF m 30 #[.val (.ref a1), .val (.int p2), .val (.int (0 : Int32)), .val (.int (3 : Int32)), .val (.int (1 : Int32))] [])) t
      refine XS.iload X6.here hx rfl (hb hby d9_30) rfl ?_
      show Steps p.tables e below (T6.setTop (mkF m 32 #[.val (.ref a1), .val (.int p2), .val (.int (0 : Int32)), .val (.int (3 : Int32)), .val (.int (1 : Int32))] [(.int (1 : Int32))])) t
      refine XS.iconst X6.here hx rfl (hb hby d9_32) ?_
      show Steps p.tables e below (T6.setTop (mkF m 33 #[.val (.ref a1), .val (.int p2), .val (.int (0 : Int32)), .val (.int (3 : Int32)), .val (.int (1 : Int32))] [(.int (1 : Int32)), (.int (1 : Int32))])) t
      refine XS.iadd X6.here hx rfl (hb hby d9_33) rfl ?_
      show Steps p.tables e below (T6.setTop (mkF m 34 #[.val (.ref a1), .val (.int p2), .val (.int (0 : Int32)), .val (.int (3 : Int32)), .val (.int (1 : Int32))] [(.int (2 : Int32))])) t
      refine XS.istoreN X6.here hx rfl (hb hby d9_34) rfl (l' := #[.val (.ref a1), .val (.int p2), .val (.int (2 : Int32)), .val (.int (3 : Int32)), .val (.int (1 : Int32))]) rfl ?_
      show Steps p.tables e below (T6.setTop (mkF m 35 #[.val (.ref a1), .val (.int p2), .val (.int (2 : Int32)), .val (.int (3 : Int32)), .val (.int (1 : Int32))] [])) t
      refine XS.goto X6.here hx rfl (pc0 := 35) (pc' := 41) rfl (hb hby d9_35) (by decide) (by decide) ?_
      show Steps p.tables e below (T6.setTop (mkF m 41 #[.val (.ref a1), .val (.int p2), .val (.int (2 : Int32)), .val (.int (3 : Int32)), .val (.int (1 : Int32))] [])) t
      refine XS.goto X6.here hx rfl (pc0 := 41) (pc' := 7) rfl (hb hby d9_41) (by decide) (by decide) ?_
      show Steps p.tables e below (T6.setTop (mkF m 7 #[.val (.ref a1), .val (.int p2), .val (.int (2 : Int32)), .val (.int (3 : Int32)), .val (.int (1 : Int32))] [])) t
      refine XS.iloadN X6.here hx rfl (hb hby d9_7) rfl ?_
      show Steps p.tables e below (T6.setTop (mkF m 8 #[.val (.ref a1), .val (.int p2), .val (.int (2 : Int32)), .val (.int (3 : Int32)), .val (.int (1 : Int32))] [(.int (2 : Int32))])) t
      refine XS.iloadN X6.here hx rfl (hb hby d9_8) rfl ?_
      show Steps p.tables e below (T6.setTop (mkF m 9 #[.val (.ref a1), .val (.int p2), .val (.int (2 : Int32)), .val (.int (3 : Int32)), .val (.int (1 : Int32))] [(.int (3 : Int32)), (.int (2 : Int32))])) t
      refine XS.icmpNo X6.here hx rfl (hb hby d9_9) rfl (XT.ii_ge_f (show (2 : Int32) < (3 : Int32) from by decide)) ?_
      show Steps p.tables e below (T6.setTop (mkF m 12 #[.val (.ref a1), .val (.int p2), .val (.int (2 : Int32)), .val (.int (3 : Int32)), .val (.int (1 : Int32))] [])) t
      refine XS.iloadN X6.here hx rfl (hb hby d9_12) rfl ?_
      show Steps p.tables e below (T6.setTop (mkF m 13 #[.val (.ref a1), .val (.int p2), .val (.int (2 : Int32)), .val (.int (3 : Int32)), .val (.int (1 : Int32))] [(.int (2 : Int32))])) t
      refine XS.iloadN X6.here hx rfl (hb hby d9_13) rfl ?_
      show Steps p.tables e below (T6.setTop (mkF m 14 #[.val (.ref a1), .val (.int p2), .val (.int (2 : Int32)), .val (.int (3 : Int32)), .val (.int (1 : Int32))] [(.int (3 : Int32)), (.int (2 : Int32))])) t
      refine XS.iadd X6.here hx rfl (hb hby d9_14) rfl ?_
      show Steps p.tables e below (T6.setTop (mkF m 15 #[.val (.ref a1), .val (.int p2), .val (.int (2 : Int32)), .val (.int (3 : Int32)), .val (.int (1 : Int32))] [(.int (5 : Int32))])) t
      refine XS.iconst X6.here hx rfl (hb hby d9_15) ?_
      show Steps p.tables e below (T6.setTop (mkF m 16 #[.val (.ref a1), .val (.int p2), .val (.int (2 : Int32)), .val (.int (3 : Int32)), .val (.int (1 : Int32))] [(.int (1 : Int32)), (.int (5 : Int32))])) t
      refine XT.iushr X6.here hx rfl (hb hby d9_16) rfl ?_
      show Steps p.tables e below (T6.setTop (mkF m 17 #[.val (.ref a1), .val (.int p2), .val (.int (2 : Int32)), .val (.int (3 : Int32)), .val (.int (1 : Int32))] [(.int (2 : Int32))])) t
      refine XS.istore X6.here hx rfl (hb hby d9_17) rfl (l' := #[.val (.ref a1), .val (.int p2), .val (.int (2 : Int32)), .val (.int (3 : Int32)), .val (.int (2 : Int32))]) rfl ?_
      show Steps p.tables e below (T6.setTop (mkF m 19 #[.val (.ref a1), .val (.int p2), .val (.int (2 : Int32)), .val (.int (3 : Int32)), .val (.int (2 : Int32))] [])) t
      refine XS.aloadN X6.here hx rfl (hb hby d9_19) rfl rfl ?_
      show Steps p.tables e below (T6.setTop (mkF m 20 #[.val (.ref a1), .val (.int p2), .val (.int (2 : Int32)), .val (.int (3 : Int32)), .val (.int (2 : Int32))] [(.ref a1)])) t
      exact k)
    obtain ⟨T22, X22, eh22, st22⟩ := getF X6 hx hZ hown (host := "") (Or.inl (hw _ (List.mem_of_getElem? (i := 17) rfl))) Via.refl eh6 F_values_a1 (g := (mkF m 20 #[.val (.ref a1), .val (.int p2), .val (.int (2 : Int32)), .val (.int (3 : Int32)), .val (.int (2 : Int32))] [(.ref a1)])) rfl rfl (hb hby d9_20)
    have pre23 : ∀ t, Steps p.tables e below (T22.setTop (mkF m 23 #[.val (.ref a1), .val (.int p2), .val (.int (2 : Int32)), .val (.int (3 : Int32)), .val (.int (2 : Int32))] [(.ref ar)])) t → Steps p.tables e below (s₁.setTop (entryFrame m #[(.ref a1), (.int p2)] 5)) t := fun t k => pre21 t (st22 _ k)
    have pre25 : ∀ t, Steps p.tables e below (T22.setTop (mkF m 27 #[.val (.ref a1), .val (.int p2), .val (.int (2 : Int32)), .val (.int (3 : Int32)), .val (.int (2 : Int32))] [(.int p2), (.int x2)])) t → Steps p.tables e below (s₁.setTop (entryFrame m #[(.ref a1), (.int p2)] 5)) t := fun t k => pre23 t (by
      show Steps p.tables e below (T22.setTop (mkF m 23 #[.val (.ref a1), .val (.int p2), .val (.int (2 : Int32)), .val (.int (3 : Int32)), .val (.int (2 : Int32))] [(.ref ar)])) t
      refine XS.iload X22.here hx rfl (hb hby d9_23) rfl ?_
      show Steps p.tables e below (T22.setTop (mkF m 25 #[.val (.ref a1), .val (.int p2), .val (.int (2 : Int32)), .val (.int (3 : Int32)), .val (.int (2 : Int32))] [(.int (2 : Int32)), (.ref ar)])) t
      refine own_iaload X22 hx hZ eh22 V_ar (j := (2 : Int32)) (v := (.int x2)) ⟨by decide, own_in (3 : Int32) hcap (by decide)⟩ rfl (g := (mkF m 25 #[.val (.ref a1), .val (.int p2), .val (.int (2 : Int32)), .val (.int (3 : Int32)), .val (.int (2 : Int32))] [(.int (2 : Int32)), (.ref ar)])) rfl rfl (hb hby d9_25) _ ?_
      show Steps p.tables e below (T22.setTop (mkF m 26 #[.val (.ref a1), .val (.int p2), .val (.int (2 : Int32)), .val (.int (3 : Int32)), .val (.int (2 : Int32))] [(.int x2)])) t
      refine XS.iloadN X22.here hx rfl (hb hby d9_26) rfl ?_
      show Steps p.tables e below (T22.setTop (mkF m 27 #[.val (.ref a1), .val (.int p2), .val (.int (2 : Int32)), .val (.int (3 : Int32)), .val (.int (2 : Int32))] [(.int p2), (.int x2)])) t
      exact k)
    by_cases hc27_24 : p2 < x2
    · skip
      have pre27 : ∀ t, Steps p.tables e below (T22.setTop (mkF m 45 #[.val (.ref a1), .val (.int p2), .val (.int (2 : Int32)), .val (.int (2 : Int32)), .val (.int (2 : Int32))] [(.int (2 : Int32))])) t → Steps p.tables e below (s₁.setTop (entryFrame m #[(.ref a1), (.int p2)] 5)) t := fun t k => pre25 t (by
        show Steps p.tables e below (T22.setTop (mkF m 27 #[.val (.ref a1), .val (.int p2), .val (.int (2 : Int32)), .val (.int (3 : Int32)), .val (.int (2 : Int32))] [(.int p2), (.int x2)])) t
        refine XS.icmpYes X22.here hx rfl (pc0 := 27) (pc' := 38) rfl (hb hby d9_27) rfl (XT.ii_gt_t hc27_24) (by decide) (by decide) ?_
        show Steps p.tables e below (T22.setTop (mkF m 38 #[.val (.ref a1), .val (.int p2), .val (.int (2 : Int32)), .val (.int (3 : Int32)), .val (.int (2 : Int32))] [])) t
        refine XS.iload X22.here hx rfl (hb hby d9_38) rfl ?_
        show Steps p.tables e below (T22.setTop (mkF m 40 #[.val (.ref a1), .val (.int p2), .val (.int (2 : Int32)), .val (.int (3 : Int32)), .val (.int (2 : Int32))] [(.int (2 : Int32))])) t
        refine XS.istoreN X22.here hx rfl (hb hby d9_40) rfl (l' := #[.val (.ref a1), .val (.int p2), .val (.int (2 : Int32)), .val (.int (2 : Int32)), .val (.int (2 : Int32))]) rfl ?_
        show Steps p.tables e below (T22.setTop (mkF m 41 #[.val (.ref a1), .val (.int p2), .val (.int (2 : Int32)), .val (.int (2 : Int32)), .val (.int (2 : Int32))] [])) t
        refine XS.goto X22.here hx rfl (pc0 := 41) (pc' := 7) rfl (hb hby d9_41) (by decide) (by decide) ?_
        show Steps p.tables e below (T22.setTop (mkF m 7 #[.val (.ref a1), .val (.int p2), .val (.int (2 : Int32)), .val (.int (2 : Int32)), .val (.int (2 : Int32))] [])) t
        refine XS.iloadN X22.here hx rfl (hb hby d9_7) rfl ?_
        show Steps p.tables e below (T22.setTop (mkF m 8 #[.val (.ref a1), .val (.int p2), .val (.int (2 : Int32)), .val (.int (2 : Int32)), .val (.int (2 : Int32))] [(.int (2 : Int32))])) t
        refine XS.iloadN X22.here hx rfl (hb hby d9_8) rfl ?_
        show Steps p.tables e below (T22.setTop (mkF m 9 #[.val (.ref a1), .val (.int p2), .val (.int (2 : Int32)), .val (.int (2 : Int32)), .val (.int (2 : Int32))] [(.int (2 : Int32)), (.int (2 : Int32))])) t
        refine XS.icmpYes X22.here hx rfl (pc0 := 9) (pc' := 44) rfl (hb hby d9_9) rfl (XT.ii_ge_t (show ¬ ((2 : Int32) < (2 : Int32)) from by decide)) (by decide) (by decide) ?_
        show Steps p.tables e below (T22.setTop (mkF m 44 #[.val (.ref a1), .val (.int p2), .val (.int (2 : Int32)), .val (.int (2 : Int32)), .val (.int (2 : Int32))] [])) t
        refine XS.iloadN X22.here hx rfl (hb hby d9_44) rfl ?_
        show Steps p.tables e below (T22.setTop (mkF m 45 #[.val (.ref a1), .val (.int p2), .val (.int (2 : Int32)), .val (.int (2 : Int32)), .val (.int (2 : Int32))] [(.int (2 : Int32))])) t
        exact k)
      obtain ⟨fs, hr, hrun, hended, hW, hsame⟩ := X22.leave (v := some (.int (2 : Int32))) (fun h => by rw [Bd.returns] at h; cases h)
      refine ⟨_, _, pre27 _ ?_, hrun, hended, _, _, rfl, ?_, ⟨_, rfl⟩, hW, hsame.mono (by decide) (by decide)⟩
      · show Steps p.tables e below (T22.setTop (mkF m 45 #[.val (.ref a1), .val (.int p2), .val (.int (2 : Int32)), .val (.int (2 : Int32)), .val (.int (2 : Int32))] [(.int (2 : Int32))])) _
        exact retI X22 hx Bd.returns (hb hby d9_45) hr
      · show QFA3 Z a1 p2 ar kk cap x0 x1 x2 h0 n0 _ T22.heap _
        rw [eh22]
        exact ⟨(congrArg (fun z => some (Value.int z)) (show (2 : Int32) = (own_fa3 x0 x1 x2 p2) from (by simp only [own_fa3, if_neg hc27_8, if_pos hc27_24]))), N0, rfl⟩
    · skip
      have pre29 : ∀ t, Steps p.tables e below (T22.setTop (mkF m 45 #[.val (.ref a1), .val (.int p2), .val (.int (3 : Int32)), .val (.int (3 : Int32)), .val (.int (2 : Int32))] [(.int (3 : Int32))])) t → Steps p.tables e below (s₁.setTop (entryFrame m #[(.ref a1), (.int p2)] 5)) t := fun t k => pre25 t (by
        show Steps p.tables e below (T22.setTop (mkF m 27 #[.val (.ref a1), .val (.int p2), .val (.int (2 : Int32)), .val (.int (3 : Int32)), .val (.int (2 : Int32))] [(.int p2), (.int x2)])) t
        refine XS.icmpNo X22.here hx rfl (hb hby d9_27) rfl (XT.ii_gt_f hc27_24) ?_
        show Steps p.tables e below (T22.setTop (mkF m 30 #[.val (.ref a1), .val (.int p2), .val (.int (2 : Int32)), .val (.int (3 : Int32)), .val (.int (2 : Int32))] [])) t
        refine XS.iload X22.here hx rfl (hb hby d9_30) rfl ?_
        show Steps p.tables e below (T22.setTop (mkF m 32 #[.val (.ref a1), .val (.int p2), .val (.int (2 : Int32)), .val (.int (3 : Int32)), .val (.int (2 : Int32))] [(.int (2 : Int32))])) t
        refine XS.iconst X22.here hx rfl (hb hby d9_32) ?_
        show Steps p.tables e below (T22.setTop (mkF m 33 #[.val (.ref a1), .val (.int p2), .val (.int (2 : Int32)), .val (.int (3 : Int32)), .val (.int (2 : Int32))] [(.int (1 : Int32)), (.int (2 : Int32))])) t
        refine XS.iadd X22.here hx rfl (hb hby d9_33) rfl ?_
        show Steps p.tables e below (T22.setTop (mkF m 34 #[.val (.ref a1), .val (.int p2), .val (.int (2 : Int32)), .val (.int (3 : Int32)), .val (.int (2 : Int32))] [(.int (3 : Int32))])) t
        refine XS.istoreN X22.here hx rfl (hb hby d9_34) rfl (l' := #[.val (.ref a1), .val (.int p2), .val (.int (3 : Int32)), .val (.int (3 : Int32)), .val (.int (2 : Int32))]) rfl ?_
        show Steps p.tables e below (T22.setTop (mkF m 35 #[.val (.ref a1), .val (.int p2), .val (.int (3 : Int32)), .val (.int (3 : Int32)), .val (.int (2 : Int32))] [])) t
        refine XS.goto X22.here hx rfl (pc0 := 35) (pc' := 41) rfl (hb hby d9_35) (by decide) (by decide) ?_
        show Steps p.tables e below (T22.setTop (mkF m 41 #[.val (.ref a1), .val (.int p2), .val (.int (3 : Int32)), .val (.int (3 : Int32)), .val (.int (2 : Int32))] [])) t
        refine XS.goto X22.here hx rfl (pc0 := 41) (pc' := 7) rfl (hb hby d9_41) (by decide) (by decide) ?_
        show Steps p.tables e below (T22.setTop (mkF m 7 #[.val (.ref a1), .val (.int p2), .val (.int (3 : Int32)), .val (.int (3 : Int32)), .val (.int (2 : Int32))] [])) t
        refine XS.iloadN X22.here hx rfl (hb hby d9_7) rfl ?_
        show Steps p.tables e below (T22.setTop (mkF m 8 #[.val (.ref a1), .val (.int p2), .val (.int (3 : Int32)), .val (.int (3 : Int32)), .val (.int (2 : Int32))] [(.int (3 : Int32))])) t
        refine XS.iloadN X22.here hx rfl (hb hby d9_8) rfl ?_
        show Steps p.tables e below (T22.setTop (mkF m 9 #[.val (.ref a1), .val (.int p2), .val (.int (3 : Int32)), .val (.int (3 : Int32)), .val (.int (2 : Int32))] [(.int (3 : Int32)), (.int (3 : Int32))])) t
        refine XS.icmpYes X22.here hx rfl (pc0 := 9) (pc' := 44) rfl (hb hby d9_9) rfl (XT.ii_ge_t (show ¬ ((3 : Int32) < (3 : Int32)) from by decide)) (by decide) (by decide) ?_
        show Steps p.tables e below (T22.setTop (mkF m 44 #[.val (.ref a1), .val (.int p2), .val (.int (3 : Int32)), .val (.int (3 : Int32)), .val (.int (2 : Int32))] [])) t
        refine XS.iloadN X22.here hx rfl (hb hby d9_44) rfl ?_
        show Steps p.tables e below (T22.setTop (mkF m 45 #[.val (.ref a1), .val (.int p2), .val (.int (3 : Int32)), .val (.int (3 : Int32)), .val (.int (2 : Int32))] [(.int (3 : Int32))])) t
        exact k)
      obtain ⟨fs, hr, hrun, hended, hW, hsame⟩ := X22.leave (v := some (.int (3 : Int32))) (fun h => by rw [Bd.returns] at h; cases h)
      refine ⟨_, _, pre29 _ ?_, hrun, hended, _, _, rfl, ?_, ⟨_, rfl⟩, hW, hsame.mono (by decide) (by decide)⟩
      · show Steps p.tables e below (T22.setTop (mkF m 45 #[.val (.ref a1), .val (.int p2), .val (.int (3 : Int32)), .val (.int (3 : Int32)), .val (.int (2 : Int32))] [(.int (3 : Int32))])) _
        exact retI X22 hx Bd.returns (hb hby d9_45) hr
      · show QFA3 Z a1 p2 ar kk cap x0 x1 x2 h0 n0 _ T22.heap _
        rw [eh22]
        exact ⟨(congrArg (fun z => some (Value.int z)) (show (3 : Int32) = (own_fa3 x0 x1 x2 p2) from (by simp only [own_fa3, if_neg hc27_8, if_neg hc27_24]))), N0, rfl⟩
theorem ef_FA4 (m : MethodId) (a1 : Addr) (p2 : Int32) : entryFrame m #[(.ref a1), (.int p2)] 5 = mkF m 0 #[.val (.ref a1), .val (.int p2), .unset, .unset, .unset] [] := by first | (simp [entryFrame, mkF, argsToLocals, Value.category]; done) | rfl
def QFA4 (Z : State) (a1 : Addr) (p2 : Int32) (ar : Addr) (kk : ClassId) (cap : Int32) (x0 : Int32) (x1 : Int32) (x2 : Int32) (x3 : Int32) (h0 : Heap) (n0 : Nat) (v : Option Value) (h : Heap) (L : List Loc) : Prop := v = some (.int (own_fa4 x0 x1 x2 x3 p2)) ∧ Fr n0 L ∧ h = h0
set_option maxRecDepth 65536 in
set_option maxHeartbeats 40000000 in
theorem rmFA4 (l : Launch) (Z : State) (a0 : Array Value) (hw : ∀ d ∈ tables_1, d.before a0 Z = true) (ws : List Jvm.Cond) (a1 : Addr) (p2 : Int32) (ar : Addr) (kk : ClassId) (cap : Int32) (x0 : Int32) (x1 : Int32) (x2 : Int32) (x3 : Int32) (h0 : Heap) (n0 : Nat) (Z0 : n0 ≤ h0.size) (F_values_a1 : Fld Z h0 a1 "com/example/interlace/interlace/core/IntColumn" "values" "[I" (.ref ar)) (F_size_a1 : Fld Z h0 a1 "com/example/interlace/interlace/core/IntColumn" "size" "I" (.int (4 : Int32))) (V_ar : Arv Z h0 ar kk .int cap [(.int x0), (.int x1), (.int x2), (.int x3)] (.int (0 : Int32))) (hcap : ¬ cap < (4 : Int32)) :
    MetFree l (⟨"com/example/interlace/interlace/core/IntColumn", "firstAbove", "(I)I"⟩ : MethodName) (head1 (Jvm.Cond.code (⟨"com/example/interlace/interlace/core/IntColumn", "firstAbove", "(I)I"⟩ : MethodName) prog_78_method_8_code 5 (some .int) :: ws) ({ frames := 0, cells := 0, slots := 0, locals := 0 } : Room)) (fun a U => a = #[(.ref a1), (.int p2)] ∧ Z.Warmed39 U.vm ∧ U.heap = h0) (fun _ _ _ _ _ => True) (fun _ U o U' => ∃ v L, o = .returned v ∧ QFA4 Z a1 p2 ar kk cap x0 x1 x2 x3 h0 n0 v U'.heap L ∧ FrameEnd U o U' L ({ frames := 0, cells := 0, slots := 0, locals := 0 } : Room).cells ({ frames := 0, cells := 0, slots := 0, locals := 0 } : Room).slots) := by
  refine MetFree.of_bodySF (plainFor_of_name pn_com_example_interlace_interlace_core_IntColumn) hisR ?_
  intro p e s m args below meth c s₁ Bd hml0 hP hK
  obtain ⟨rfl, hZ, hh⟩ := hP
  have hx := Bd.exec
  have hby := Bd.bytes
  have hml : c.maxLocals = 5 := hml0
  have hown : s.vm.findClass "com/example/interlace/interlace/core/IntColumn" = some m.cls := findClass_of_methodNamed Bd.named
  have hnm := (name_of_methodNamed Bd.named Bd.method).1
  have X0 : Stand p l e ({ frames := 0, cells := 0, slots := 0, locals := 0 } : Room) s m #[(.ref a1), (.int p2)] below meth c s₁ [] 0 0 := Stand.of_body Bd
  have eh0 : s₁.heap = h0 := by rw [← hh, Bd.state]; rfl
  have N0 := Fr.nil n0
  have pre0 : ∀ t, Steps p.tables e below (s₁.setTop (mkF m 0 #[.val (.ref a1), .val (.int p2), .unset, .unset, .unset] [])) t → Steps p.tables e below (s₁.setTop (entryFrame m #[(.ref a1), (.int p2)] 5)) t := fun t k => castTop (ef_FA4 m a1 p2) k
  have pre1 : ∀ t, Steps p.tables e below (s₁.setTop (mkF m 3 #[.val (.ref a1), .val (.int p2), .val (.int (0 : Int32)), .unset, .unset] [(.ref a1)])) t → Steps p.tables e below (s₁.setTop (entryFrame m #[(.ref a1), (.int p2)] 5)) t := fun t k => pre0 t (by
    show Steps p.tables e below (s₁.setTop (mkF m 0 #[.val (.ref a1), .val (.int p2), .unset, .unset, .unset] [])) t
    refine XS.iconst X0.here hx rfl (hb hby d9_0) ?_
    show Steps p.tables e below (s₁.setTop (mkF m 1 #[.val (.ref a1), .val (.int p2), .unset, .unset, .unset] [(.int (0 : Int32))])) t
    refine XS.istoreN X0.here hx rfl (hb hby d9_1) rfl (l' := #[.val (.ref a1), .val (.int p2), .val (.int (0 : Int32)), .unset, .unset]) rfl ?_
    show Steps p.tables e below (s₁.setTop (mkF m 2 #[.val (.ref a1), .val (.int p2), .val (.int (0 : Int32)), .unset, .unset] [])) t
    refine XS.aloadN X0.here hx rfl (hb hby d9_2) rfl rfl ?_
    show Steps p.tables e below (s₁.setTop (mkF m 3 #[.val (.ref a1), .val (.int p2), .val (.int (0 : Int32)), .unset, .unset] [(.ref a1)])) t
    exact k)
  obtain ⟨T2, X2, eh2, st2⟩ := getF X0 hx hZ hown (host := "") (Or.inl (hw _ (List.mem_of_getElem? (i := 24) rfl))) Via.refl eh0 F_size_a1 (g := (mkF m 3 #[.val (.ref a1), .val (.int p2), .val (.int (0 : Int32)), .unset, .unset] [(.ref a1)])) rfl rfl (hb hby d9_3)
  have pre3 : ∀ t, Steps p.tables e below (T2.setTop (mkF m 6 #[.val (.ref a1), .val (.int p2), .val (.int (0 : Int32)), .unset, .unset] [(.int (4 : Int32))])) t → Steps p.tables e below (s₁.setTop (entryFrame m #[(.ref a1), (.int p2)] 5)) t := fun t k => pre1 t (st2 _ k)
  have pre5 : ∀ t, Steps p.tables e below (T2.setTop (mkF m 20 #[.val (.ref a1), .val (.int p2), .val (.int (0 : Int32)), .val (.int (4 : Int32)), .val (.int (2 : Int32))] [(.ref a1)])) t → Steps p.tables e below (s₁.setTop (entryFrame m #[(.ref a1), (.int p2)] 5)) t := fun t k => pre3 t (by
    show Steps p.tables e below (T2.setTop (mkF m 6 #[.val (.ref a1), .val (.int p2), .val (.int (0 : Int32)), .unset, .unset] [(.int (4 : Int32))])) t
    refine XS.istoreN X2.here hx rfl (hb hby d9_6) rfl (l' := #[.val (.ref a1), .val (.int p2), .val (.int (0 : Int32)), .val (.int (4 : Int32)), .unset]) rfl ?_
    show Steps p.tables e below (T2.setTop (mkF m 7 #[.val (.ref a1), .val (.int p2), .val (.int (0 : Int32)), .val (.int (4 : Int32)), .unset] [])) t
    refine XS.iloadN X2.here hx rfl (hb hby d9_7) rfl ?_
    show Steps p.tables e below (T2.setTop (mkF m 8 #[.val (.ref a1), .val (.int p2), .val (.int (0 : Int32)), .val (.int (4 : Int32)), .unset] [(.int (0 : Int32))])) t
    refine XS.iloadN X2.here hx rfl (hb hby d9_8) rfl ?_
    show Steps p.tables e below (T2.setTop (mkF m 9 #[.val (.ref a1), .val (.int p2), .val (.int (0 : Int32)), .val (.int (4 : Int32)), .unset] [(.int (4 : Int32)), (.int (0 : Int32))])) t
    refine XS.icmpNo X2.here hx rfl (hb hby d9_9) rfl (XT.ii_ge_f (show (0 : Int32) < (4 : Int32) from by decide)) ?_
    show Steps p.tables e below (T2.setTop (mkF m 12 #[.val (.ref a1), .val (.int p2), .val (.int (0 : Int32)), .val (.int (4 : Int32)), .unset] [])) t
    refine XS.iloadN X2.here hx rfl (hb hby d9_12) rfl ?_
    show Steps p.tables e below (T2.setTop (mkF m 13 #[.val (.ref a1), .val (.int p2), .val (.int (0 : Int32)), .val (.int (4 : Int32)), .unset] [(.int (0 : Int32))])) t
    refine XS.iloadN X2.here hx rfl (hb hby d9_13) rfl ?_
    show Steps p.tables e below (T2.setTop (mkF m 14 #[.val (.ref a1), .val (.int p2), .val (.int (0 : Int32)), .val (.int (4 : Int32)), .unset] [(.int (4 : Int32)), (.int (0 : Int32))])) t
    refine XS.iadd X2.here hx rfl (hb hby d9_14) rfl ?_
    show Steps p.tables e below (T2.setTop (mkF m 15 #[.val (.ref a1), .val (.int p2), .val (.int (0 : Int32)), .val (.int (4 : Int32)), .unset] [(.int (4 : Int32))])) t
    refine XS.iconst X2.here hx rfl (hb hby d9_15) ?_
    show Steps p.tables e below (T2.setTop (mkF m 16 #[.val (.ref a1), .val (.int p2), .val (.int (0 : Int32)), .val (.int (4 : Int32)), .unset] [(.int (1 : Int32)), (.int (4 : Int32))])) t
    refine XT.iushr X2.here hx rfl (hb hby d9_16) rfl ?_
    show Steps p.tables e below (T2.setTop (mkF m 17 #[.val (.ref a1), .val (.int p2), .val (.int (0 : Int32)), .val (.int (4 : Int32)), .unset] [(.int (2 : Int32))])) t
    refine XS.istore X2.here hx rfl (hb hby d9_17) rfl (l' := #[.val (.ref a1), .val (.int p2), .val (.int (0 : Int32)), .val (.int (4 : Int32)), .val (.int (2 : Int32))]) rfl ?_
    show Steps p.tables e below (T2.setTop (mkF m 19 #[.val (.ref a1), .val (.int p2), .val (.int (0 : Int32)), .val (.int (4 : Int32)), .val (.int (2 : Int32))] [])) t
    refine XS.aloadN X2.here hx rfl (hb hby d9_19) rfl rfl ?_
    show Steps p.tables e below (T2.setTop (mkF m 20 #[.val (.ref a1), .val (.int p2), .val (.int (0 : Int32)), .val (.int (4 : Int32)), .val (.int (2 : Int32))] [(.ref a1)])) t
    exact k)
  obtain ⟨T6, X6, eh6, st6⟩ := getF X2 hx hZ hown (host := "") (Or.inl (hw _ (List.mem_of_getElem? (i := 17) rfl))) Via.refl eh2 F_values_a1 (g := (mkF m 20 #[.val (.ref a1), .val (.int p2), .val (.int (0 : Int32)), .val (.int (4 : Int32)), .val (.int (2 : Int32))] [(.ref a1)])) rfl rfl (hb hby d9_20)
  have pre7 : ∀ t, Steps p.tables e below (T6.setTop (mkF m 23 #[.val (.ref a1), .val (.int p2), .val (.int (0 : Int32)), .val (.int (4 : Int32)), .val (.int (2 : Int32))] [(.ref ar)])) t → Steps p.tables e below (s₁.setTop (entryFrame m #[(.ref a1), (.int p2)] 5)) t := fun t k => pre5 t (st6 _ k)
  have pre9 : ∀ t, Steps p.tables e below (T6.setTop (mkF m 27 #[.val (.ref a1), .val (.int p2), .val (.int (0 : Int32)), .val (.int (4 : Int32)), .val (.int (2 : Int32))] [(.int p2), (.int x2)])) t → Steps p.tables e below (s₁.setTop (entryFrame m #[(.ref a1), (.int p2)] 5)) t := fun t k => pre7 t (by
    show Steps p.tables e below (T6.setTop (mkF m 23 #[.val (.ref a1), .val (.int p2), .val (.int (0 : Int32)), .val (.int (4 : Int32)), .val (.int (2 : Int32))] [(.ref ar)])) t
    refine XS.iload X6.here hx rfl (hb hby d9_23) rfl ?_
    show Steps p.tables e below (T6.setTop (mkF m 25 #[.val (.ref a1), .val (.int p2), .val (.int (0 : Int32)), .val (.int (4 : Int32)), .val (.int (2 : Int32))] [(.int (2 : Int32)), (.ref ar)])) t
    refine own_iaload X6 hx hZ eh6 V_ar (j := (2 : Int32)) (v := (.int x2)) ⟨by decide, own_in (4 : Int32) hcap (by decide)⟩ rfl (g := (mkF m 25 #[.val (.ref a1), .val (.int p2), .val (.int (0 : Int32)), .val (.int (4 : Int32)), .val (.int (2 : Int32))] [(.int (2 : Int32)), (.ref ar)])) rfl rfl (hb hby d9_25) _ ?_
    show Steps p.tables e below (T6.setTop (mkF m 26 #[.val (.ref a1), .val (.int p2), .val (.int (0 : Int32)), .val (.int (4 : Int32)), .val (.int (2 : Int32))] [(.int x2)])) t
    refine XS.iloadN X6.here hx rfl (hb hby d9_26) rfl ?_
    show Steps p.tables e below (T6.setTop (mkF m 27 #[.val (.ref a1), .val (.int p2), .val (.int (0 : Int32)), .val (.int (4 : Int32)), .val (.int (2 : Int32))] [(.int p2), (.int x2)])) t
    exact k)
  by_cases hc27_8 : p2 < x2
  · skip
    have pre11 : ∀ t, Steps p.tables e below (T6.setTop (mkF m 20 #[.val (.ref a1), .val (.int p2), .val (.int (0 : Int32)), .val (.int (2 : Int32)), .val (.int (1 : Int32))] [(.ref a1)])) t → Steps p.tables e below (s₁.setTop (entryFrame m #[(.ref a1), (.int p2)] 5)) t := fun t k => pre9 t (by
      show Steps p.tables e below (T6.setTop (mkF m 27 #[.val (.ref a1), .val (.int p2), .val (.int (0 : Int32)), .val (.int (4 : Int32)), .val (.int (2 : Int32))] [(.int p2), (.int x2)])) t
      refine XS.icmpYes X6.here hx rfl (pc0 := 27) (pc' := 38) rfl (hb hby d9_27) rfl (XT.ii_gt_t hc27_8) (by decide) (by decide) ?_
      show Steps p.tables e below (T6.setTop (mkF m 38 #[.val (.ref a1), .val (.int p2), .val (.int (0 : Int32)), .val (.int (4 : Int32)), .val (.int (2 : Int32))] [])) t
      refine XS.iload X6.here hx rfl (hb hby d9_38) rfl ?_
      show Steps p.tables e below (T6.setTop (mkF m 40 #[.val (.ref a1), .val (.int p2), .val (.int (0 : Int32)), .val (.int (4 : Int32)), .val (.int (2 : Int32))] [(.int (2 : Int32))])) t
      refine XS.istoreN X6.here hx rfl (hb hby d9_40) rfl (l' := #[.val (.ref a1), .val (.int p2), .val (.int (0 : Int32)), .val (.int (2 : Int32)), .val (.int (2 : Int32))]) rfl ?_
      show Steps p.tables e below (T6.setTop (mkF m 41 #[.val (.ref a1), .val (.int p2), .val (.int (0 : Int32)), .val (.int (2 : Int32)), .val (.int (2 : Int32))] [])) t
      refine XS.goto X6.here hx rfl (pc0 := 41) (pc' := 7) rfl (hb hby d9_41) (by decide) (by decide) ?_
      show Steps p.tables e below (T6.setTop (mkF m 7 #[.val (.ref a1), .val (.int p2), .val (.int (0 : Int32)), .val (.int (2 : Int32)), .val (.int (2 : Int32))] [])) t
      refine XS.iloadN X6.here hx rfl (hb hby d9_7) rfl ?_
      show Steps p.tables e below (T6.setTop (mkF m 8 #[.val (.ref a1), .val (.int p2), .val (.int (0 : Int32)), .val (.int (2 : Int32)), .val (.int (2 : Int32))] [(.int (0 : Int32))])) t
      refine XS.iloadN X6.here hx rfl (hb hby d9_8) rfl ?_
      show Steps p.tables e below (T6.setTop (mkF m 9 #[.val (.ref a1), .val (.int p2), .val (.int (0 : Int32)), .val (.int (2 : Int32)), .val (.int (2 : Int32))] [(.int (2 : Int32)), (.int (0 : Int32))])) t
      refine XS.icmpNo X6.here hx rfl (hb hby d9_9) rfl (XT.ii_ge_f (show (0 : Int32) < (2 : Int32) from by decide)) ?_
      show Steps p.tables e below (T6.setTop (mkF m 12 #[.val (.ref a1), .val (.int p2), .val (.int (0 : Int32)), .val (.int (2 : Int32)), .val (.int (2 : Int32))] [])) t
      refine XS.iloadN X6.here hx rfl (hb hby d9_12) rfl ?_
      show Steps p.tables e below (T6.setTop (mkF m 13 #[.val (.ref a1), .val (.int p2), .val (.int (0 : Int32)), .val (.int (2 : Int32)), .val (.int (2 : Int32))] [(.int (0 : Int32))])) t
      refine XS.iloadN X6.here hx rfl (hb hby d9_13) rfl ?_
      show Steps p.tables e below (T6.setTop (mkF m 14 #[.val (.ref a1), .val (.int p2), .val (.int (0 : Int32)), .val (.int (2 : Int32)), .val (.int (2 : Int32))] [(.int (2 : Int32)), (.int (0 : Int32))])) t
      refine XS.iadd X6.here hx rfl (hb hby d9_14) rfl ?_
      show Steps p.tables e below (T6.setTop (mkF m 15 #[.val (.ref a1), .val (.int p2), .val (.int (0 : Int32)), .val (.int (2 : Int32)), .val (.int (2 : Int32))] [(.int (2 : Int32))])) t
      refine XS.iconst X6.here hx rfl (hb hby d9_15) ?_
      show Steps p.tables e below (T6.setTop (mkF m 16 #[.val (.ref a1), .val (.int p2), .val (.int (0 : Int32)), .val (.int (2 : Int32)), .val (.int (2 : Int32))] [(.int (1 : Int32)), (.int (2 : Int32))])) t
      refine XT.iushr X6.here hx rfl (hb hby d9_16) rfl ?_
      show Steps p.tables e below (T6.setTop (mkF m 17 #[.val (.ref a1), .val (.int p2), .val (.int (0 : Int32)), .val (.int (2 : Int32)), .val (.int (2 : Int32))] [(.int (1 : Int32))])) t
      refine XS.istore X6.here hx rfl (hb hby d9_17) rfl (l' := #[.val (.ref a1), .val (.int p2), .val (.int (0 : Int32)), .val (.int (2 : Int32)), .val (.int (1 : Int32))]) rfl ?_
      show Steps p.tables e below (T6.setTop (mkF m 19 #[.val (.ref a1), .val (.int p2), .val (.int (0 : Int32)), .val (.int (2 : Int32)), .val (.int (1 : Int32))] [])) t
      refine XS.aloadN X6.here hx rfl (hb hby d9_19) rfl rfl ?_
      show Steps p.tables e below (T6.setTop (mkF m 20 #[.val (.ref a1), .val (.int p2), .val (.int (0 : Int32)), .val (.int (2 : Int32)), .val (.int (1 : Int32))] [(.ref a1)])) t
      exact k)
    obtain ⟨T12, X12, eh12, st12⟩ := getF X6 hx hZ hown (host := "") (Or.inl (hw _ (List.mem_of_getElem? (i := 17) rfl))) Via.refl eh6 F_values_a1 (g := (mkF m 20 #[.val (.ref a1), .val (.int p2), .val (.int (0 : Int32)), .val (.int (2 : Int32)), .val (.int (1 : Int32))] [(.ref a1)])) rfl rfl (hb hby d9_20)
    have pre13 : ∀ t, Steps p.tables e below (T12.setTop (mkF m 23 #[.val (.ref a1), .val (.int p2), .val (.int (0 : Int32)), .val (.int (2 : Int32)), .val (.int (1 : Int32))] [(.ref ar)])) t → Steps p.tables e below (s₁.setTop (entryFrame m #[(.ref a1), (.int p2)] 5)) t := fun t k => pre11 t (st12 _ k)
    have pre15 : ∀ t, Steps p.tables e below (T12.setTop (mkF m 27 #[.val (.ref a1), .val (.int p2), .val (.int (0 : Int32)), .val (.int (2 : Int32)), .val (.int (1 : Int32))] [(.int p2), (.int x1)])) t → Steps p.tables e below (s₁.setTop (entryFrame m #[(.ref a1), (.int p2)] 5)) t := fun t k => pre13 t (by
      show Steps p.tables e below (T12.setTop (mkF m 23 #[.val (.ref a1), .val (.int p2), .val (.int (0 : Int32)), .val (.int (2 : Int32)), .val (.int (1 : Int32))] [(.ref ar)])) t
      refine XS.iload X12.here hx rfl (hb hby d9_23) rfl ?_
      show Steps p.tables e below (T12.setTop (mkF m 25 #[.val (.ref a1), .val (.int p2), .val (.int (0 : Int32)), .val (.int (2 : Int32)), .val (.int (1 : Int32))] [(.int (1 : Int32)), (.ref ar)])) t
      refine own_iaload X12 hx hZ eh12 V_ar (j := (1 : Int32)) (v := (.int x1)) ⟨by decide, own_in (4 : Int32) hcap (by decide)⟩ rfl (g := (mkF m 25 #[.val (.ref a1), .val (.int p2), .val (.int (0 : Int32)), .val (.int (2 : Int32)), .val (.int (1 : Int32))] [(.int (1 : Int32)), (.ref ar)])) rfl rfl (hb hby d9_25) _ ?_
      show Steps p.tables e below (T12.setTop (mkF m 26 #[.val (.ref a1), .val (.int p2), .val (.int (0 : Int32)), .val (.int (2 : Int32)), .val (.int (1 : Int32))] [(.int x1)])) t
      refine XS.iloadN X12.here hx rfl (hb hby d9_26) rfl ?_
      show Steps p.tables e below (T12.setTop (mkF m 27 #[.val (.ref a1), .val (.int p2), .val (.int (0 : Int32)), .val (.int (2 : Int32)), .val (.int (1 : Int32))] [(.int p2), (.int x1)])) t
      exact k)
    by_cases hc27_14 : p2 < x1
    · skip
      have pre17 : ∀ t, Steps p.tables e below (T12.setTop (mkF m 20 #[.val (.ref a1), .val (.int p2), .val (.int (0 : Int32)), .val (.int (1 : Int32)), .val (.int (0 : Int32))] [(.ref a1)])) t → Steps p.tables e below (s₁.setTop (entryFrame m #[(.ref a1), (.int p2)] 5)) t := fun t k => pre15 t (by
        show Steps p.tables e below (T12.setTop (mkF m 27 #[.val (.ref a1), .val (.int p2), .val (.int (0 : Int32)), .val (.int (2 : Int32)), .val (.int (1 : Int32))] [(.int p2), (.int x1)])) t
        refine XS.icmpYes X12.here hx rfl (pc0 := 27) (pc' := 38) rfl (hb hby d9_27) rfl (XT.ii_gt_t hc27_14) (by decide) (by decide) ?_
        show Steps p.tables e below (T12.setTop (mkF m 38 #[.val (.ref a1), .val (.int p2), .val (.int (0 : Int32)), .val (.int (2 : Int32)), .val (.int (1 : Int32))] [])) t
        refine XS.iload X12.here hx rfl (hb hby d9_38) rfl ?_
        show Steps p.tables e below (T12.setTop (mkF m 40 #[.val (.ref a1), .val (.int p2), .val (.int (0 : Int32)), .val (.int (2 : Int32)), .val (.int (1 : Int32))] [(.int (1 : Int32))])) t
        refine XS.istoreN X12.here hx rfl (hb hby d9_40) rfl (l' := #[.val (.ref a1), .val (.int p2), .val (.int (0 : Int32)), .val (.int (1 : Int32)), .val (.int (1 : Int32))]) rfl ?_
        show Steps p.tables e below (T12.setTop (mkF m 41 #[.val (.ref a1), .val (.int p2), .val (.int (0 : Int32)), .val (.int (1 : Int32)), .val (.int (1 : Int32))] [])) t
        refine XS.goto X12.here hx rfl (pc0 := 41) (pc' := 7) rfl (hb hby d9_41) (by decide) (by decide) ?_
        show Steps p.tables e below (T12.setTop (mkF m 7 #[.val (.ref a1), .val (.int p2), .val (.int (0 : Int32)), .val (.int (1 : Int32)), .val (.int (1 : Int32))] [])) t
        refine XS.iloadN X12.here hx rfl (hb hby d9_7) rfl ?_
        show Steps p.tables e below (T12.setTop (mkF m 8 #[.val (.ref a1), .val (.int p2), .val (.int (0 : Int32)), .val (.int (1 : Int32)), .val (.int (1 : Int32))] [(.int (0 : Int32))])) t
        refine XS.iloadN X12.here hx rfl (hb hby d9_8) rfl ?_
        show Steps p.tables e below (T12.setTop (mkF m 9 #[.val (.ref a1), .val (.int p2), .val (.int (0 : Int32)), .val (.int (1 : Int32)), .val (.int (1 : Int32))] [(.int (1 : Int32)), (.int (0 : Int32))])) t
        refine XS.icmpNo X12.here hx rfl (hb hby d9_9) rfl (XT.ii_ge_f (show (0 : Int32) < (1 : Int32) from by decide)) ?_
        show Steps p.tables e below (T12.setTop (mkF m 12 #[.val (.ref a1), .val (.int p2), .val (.int (0 : Int32)), .val (.int (1 : Int32)), .val (.int (1 : Int32))] [])) t
        refine XS.iloadN X12.here hx rfl (hb hby d9_12) rfl ?_
        show Steps p.tables e below (T12.setTop (mkF m 13 #[.val (.ref a1), .val (.int p2), .val (.int (0 : Int32)), .val (.int (1 : Int32)), .val (.int (1 : Int32))] [(.int (0 : Int32))])) t
        refine XS.iloadN X12.here hx rfl (hb hby d9_13) rfl ?_
        show Steps p.tables e below (T12.setTop (mkF m 14 #[.val (.ref a1), .val (.int p2), .val (.int (0 : Int32)), .val (.int (1 : Int32)), .val (.int (1 : Int32))] [(.int (1 : Int32)), (.int (0 : Int32))])) t
        refine XS.iadd X12.here hx rfl (hb hby d9_14) rfl ?_
        show Steps p.tables e below (T12.setTop (mkF m 15 #[.val (.ref a1), .val (.int p2), .val (.int (0 : Int32)), .val (.int (1 : Int32)), .val (.int (1 : Int32))] [(.int (1 : Int32))])) t
        refine XS.iconst X12.here hx rfl (hb hby d9_15) ?_
        show Steps p.tables e below (T12.setTop (mkF m 16 #[.val (.ref a1), .val (.int p2), .val (.int (0 : Int32)), .val (.int (1 : Int32)), .val (.int (1 : Int32))] [(.int (1 : Int32)), (.int (1 : Int32))])) t
        refine XT.iushr X12.here hx rfl (hb hby d9_16) rfl ?_
        show Steps p.tables e below (T12.setTop (mkF m 17 #[.val (.ref a1), .val (.int p2), .val (.int (0 : Int32)), .val (.int (1 : Int32)), .val (.int (1 : Int32))] [(.int (0 : Int32))])) t
        refine XS.istore X12.here hx rfl (hb hby d9_17) rfl (l' := #[.val (.ref a1), .val (.int p2), .val (.int (0 : Int32)), .val (.int (1 : Int32)), .val (.int (0 : Int32))]) rfl ?_
        show Steps p.tables e below (T12.setTop (mkF m 19 #[.val (.ref a1), .val (.int p2), .val (.int (0 : Int32)), .val (.int (1 : Int32)), .val (.int (0 : Int32))] [])) t
        refine XS.aloadN X12.here hx rfl (hb hby d9_19) rfl rfl ?_
        show Steps p.tables e below (T12.setTop (mkF m 20 #[.val (.ref a1), .val (.int p2), .val (.int (0 : Int32)), .val (.int (1 : Int32)), .val (.int (0 : Int32))] [(.ref a1)])) t
        exact k)
      obtain ⟨T18, X18, eh18, st18⟩ := getF X12 hx hZ hown (host := "") (Or.inl (hw _ (List.mem_of_getElem? (i := 17) rfl))) Via.refl eh12 F_values_a1 (g := (mkF m 20 #[.val (.ref a1), .val (.int p2), .val (.int (0 : Int32)), .val (.int (1 : Int32)), .val (.int (0 : Int32))] [(.ref a1)])) rfl rfl (hb hby d9_20)
      have pre19 : ∀ t, Steps p.tables e below (T18.setTop (mkF m 23 #[.val (.ref a1), .val (.int p2), .val (.int (0 : Int32)), .val (.int (1 : Int32)), .val (.int (0 : Int32))] [(.ref ar)])) t → Steps p.tables e below (s₁.setTop (entryFrame m #[(.ref a1), (.int p2)] 5)) t := fun t k => pre17 t (st18 _ k)
      have pre21 : ∀ t, Steps p.tables e below (T18.setTop (mkF m 27 #[.val (.ref a1), .val (.int p2), .val (.int (0 : Int32)), .val (.int (1 : Int32)), .val (.int (0 : Int32))] [(.int p2), (.int x0)])) t → Steps p.tables e below (s₁.setTop (entryFrame m #[(.ref a1), (.int p2)] 5)) t := fun t k => pre19 t (by
        show Steps p.tables e below (T18.setTop (mkF m 23 #[.val (.ref a1), .val (.int p2), .val (.int (0 : Int32)), .val (.int (1 : Int32)), .val (.int (0 : Int32))] [(.ref ar)])) t
        refine XS.iload X18.here hx rfl (hb hby d9_23) rfl ?_
        show Steps p.tables e below (T18.setTop (mkF m 25 #[.val (.ref a1), .val (.int p2), .val (.int (0 : Int32)), .val (.int (1 : Int32)), .val (.int (0 : Int32))] [(.int (0 : Int32)), (.ref ar)])) t
        refine own_iaload X18 hx hZ eh18 V_ar (j := (0 : Int32)) (v := (.int x0)) ⟨by decide, own_in (4 : Int32) hcap (by decide)⟩ rfl (g := (mkF m 25 #[.val (.ref a1), .val (.int p2), .val (.int (0 : Int32)), .val (.int (1 : Int32)), .val (.int (0 : Int32))] [(.int (0 : Int32)), (.ref ar)])) rfl rfl (hb hby d9_25) _ ?_
        show Steps p.tables e below (T18.setTop (mkF m 26 #[.val (.ref a1), .val (.int p2), .val (.int (0 : Int32)), .val (.int (1 : Int32)), .val (.int (0 : Int32))] [(.int x0)])) t
        refine XS.iloadN X18.here hx rfl (hb hby d9_26) rfl ?_
        show Steps p.tables e below (T18.setTop (mkF m 27 #[.val (.ref a1), .val (.int p2), .val (.int (0 : Int32)), .val (.int (1 : Int32)), .val (.int (0 : Int32))] [(.int p2), (.int x0)])) t
        exact k)
      by_cases hc27_20 : p2 < x0
      · skip
        have pre23 : ∀ t, Steps p.tables e below (T18.setTop (mkF m 45 #[.val (.ref a1), .val (.int p2), .val (.int (0 : Int32)), .val (.int (0 : Int32)), .val (.int (0 : Int32))] [(.int (0 : Int32))])) t → Steps p.tables e below (s₁.setTop (entryFrame m #[(.ref a1), (.int p2)] 5)) t := fun t k => pre21 t (by
          show Steps p.tables e below (T18.setTop (mkF m 27 #[.val (.ref a1), .val (.int p2), .val (.int (0 : Int32)), .val (.int (1 : Int32)), .val (.int (0 : Int32))] [(.int p2), (.int x0)])) t
          refine XS.icmpYes X18.here hx rfl (pc0 := 27) (pc' := 38) rfl (hb hby d9_27) rfl (XT.ii_gt_t hc27_20) (by decide) (by decide) ?_
          show Steps p.tables e below (T18.setTop (mkF m 38 #[.val (.ref a1), .val (.int p2), .val (.int (0 : Int32)), .val (.int (1 : Int32)), .val (.int (0 : Int32))] [])) t
          refine XS.iload X18.here hx rfl (hb hby d9_38) rfl ?_
          show Steps p.tables e below (T18.setTop (mkF m 40 #[.val (.ref a1), .val (.int p2), .val (.int (0 : Int32)), .val (.int (1 : Int32)), .val (.int (0 : Int32))] [(.int (0 : Int32))])) t
          refine XS.istoreN X18.here hx rfl (hb hby d9_40) rfl (l' := #[.val (.ref a1), .val (.int p2), .val (.int (0 : Int32)), .val (.int (0 : Int32)), .val (.int (0 : Int32))]) rfl ?_
          show Steps p.tables e below (T18.setTop (mkF m 41 #[.val (.ref a1), .val (.int p2), .val (.int (0 : Int32)), .val (.int (0 : Int32)), .val (.int (0 : Int32))] [])) t
          refine XS.goto X18.here hx rfl (pc0 := 41) (pc' := 7) rfl (hb hby d9_41) (by decide) (by decide) ?_
          show Steps p.tables e below (T18.setTop (mkF m 7 #[.val (.ref a1), .val (.int p2), .val (.int (0 : Int32)), .val (.int (0 : Int32)), .val (.int (0 : Int32))] [])) t
          refine XS.iloadN X18.here hx rfl (hb hby d9_7) rfl ?_
          show Steps p.tables e below (T18.setTop (mkF m 8 #[.val (.ref a1), .val (.int p2), .val (.int (0 : Int32)), .val (.int (0 : Int32)), .val (.int (0 : Int32))] [(.int (0 : Int32))])) t
          refine XS.iloadN X18.here hx rfl (hb hby d9_8) rfl ?_
          show Steps p.tables e below (T18.setTop (mkF m 9 #[.val (.ref a1), .val (.int p2), .val (.int (0 : Int32)), .val (.int (0 : Int32)), .val (.int (0 : Int32))] [(.int (0 : Int32)), (.int (0 : Int32))])) t
          refine XS.icmpYes X18.here hx rfl (pc0 := 9) (pc' := 44) rfl (hb hby d9_9) rfl (XT.ii_ge_t (show ¬ ((0 : Int32) < (0 : Int32)) from by decide)) (by decide) (by decide) ?_
          show Steps p.tables e below (T18.setTop (mkF m 44 #[.val (.ref a1), .val (.int p2), .val (.int (0 : Int32)), .val (.int (0 : Int32)), .val (.int (0 : Int32))] [])) t
          refine XS.iloadN X18.here hx rfl (hb hby d9_44) rfl ?_
          show Steps p.tables e below (T18.setTop (mkF m 45 #[.val (.ref a1), .val (.int p2), .val (.int (0 : Int32)), .val (.int (0 : Int32)), .val (.int (0 : Int32))] [(.int (0 : Int32))])) t
          exact k)
        obtain ⟨fs, hr, hrun, hended, hW, hsame⟩ := X18.leave (v := some (.int (0 : Int32))) (fun h => by rw [Bd.returns] at h; cases h)
        refine ⟨_, _, pre23 _ ?_, hrun, hended, _, _, rfl, ?_, ⟨_, rfl⟩, hW, hsame.mono (by decide) (by decide)⟩
        · show Steps p.tables e below (T18.setTop (mkF m 45 #[.val (.ref a1), .val (.int p2), .val (.int (0 : Int32)), .val (.int (0 : Int32)), .val (.int (0 : Int32))] [(.int (0 : Int32))])) _
          exact retI X18 hx Bd.returns (hb hby d9_45) hr
        · show QFA4 Z a1 p2 ar kk cap x0 x1 x2 x3 h0 n0 _ T18.heap _
          rw [eh18]
          exact ⟨(congrArg (fun z => some (Value.int z)) (show (0 : Int32) = (own_fa4 x0 x1 x2 x3 p2) from (by simp only [own_fa4, if_pos hc27_8, if_pos hc27_14, if_pos hc27_20]))), N0, rfl⟩
      · skip
        have pre25 : ∀ t, Steps p.tables e below (T18.setTop (mkF m 45 #[.val (.ref a1), .val (.int p2), .val (.int (1 : Int32)), .val (.int (1 : Int32)), .val (.int (0 : Int32))] [(.int (1 : Int32))])) t → Steps p.tables e below (s₁.setTop (entryFrame m #[(.ref a1), (.int p2)] 5)) t := fun t k => pre21 t (by
          show Steps p.tables e below (T18.setTop (mkF m 27 #[.val (.ref a1), .val (.int p2), .val (.int (0 : Int32)), .val (.int (1 : Int32)), .val (.int (0 : Int32))] [(.int p2), (.int x0)])) t
          refine XS.icmpNo X18.here hx rfl (hb hby d9_27) rfl (XT.ii_gt_f hc27_20) ?_
          show Steps p.tables e below (T18.setTop (mkF m 30 #[.val (.ref a1), .val (.int p2), .val (.int (0 : Int32)), .val (.int (1 : Int32)), .val (.int (0 : Int32))] [])) t
          refine XS.iload X18.here hx rfl (hb hby d9_30) rfl ?_
          show Steps p.tables e below (T18.setTop (mkF m 32 #[.val (.ref a1), .val (.int p2), .val (.int (0 : Int32)), .val (.int (1 : Int32)), .val (.int (0 : Int32))] [(.int (0 : Int32))])) t
          refine XS.iconst X18.here hx rfl (hb hby d9_32) ?_
          show Steps p.tables e below (T18.setTop (mkF m 33 #[.val (.ref a1), .val (.int p2), .val (.int (0 : Int32)), .val (.int (1 : Int32)), .val (.int (0 : Int32))] [(.int (1 : Int32)), (.int (0 : Int32))])) t
          refine XS.iadd X18.here hx rfl (hb hby d9_33) rfl ?_
          show Steps p.tables e below (T18.setTop (mkF m 34 #[.val (.ref a1), .val (.int p2), .val (.int (0 : Int32)), .val (.int (1 : Int32)), .val (.int (0 : Int32))] [(.int (1 : Int32))])) t
          refine XS.istoreN X18.here hx rfl (hb hby d9_34) rfl (l' := #[.val (.ref a1), .val (.int p2), .val (.int (1 : Int32)), .val (.int (1 : Int32)), .val (.int (0 : Int32))]) rfl ?_
          show Steps p.tables e below (T18.setTop (mkF m 35 #[.val (.ref a1), .val (.int p2), .val (.int (1 : Int32)), .val (.int (1 : Int32)), .val (.int (0 : Int32))] [])) t
          refine XS.goto X18.here hx rfl (pc0 := 35) (pc' := 41) rfl (hb hby d9_35) (by decide) (by decide) ?_
          show Steps p.tables e below (T18.setTop (mkF m 41 #[.val (.ref a1), .val (.int p2), .val (.int (1 : Int32)), .val (.int (1 : Int32)), .val (.int (0 : Int32))] [])) t
          refine XS.goto X18.here hx rfl (pc0 := 41) (pc' := 7) rfl (hb hby d9_41) (by decide) (by decide) ?_
          show Steps p.tables e below (T18.setTop (mkF m 7 #[.val (.ref a1), .val (.int p2), .val (.int (1 : Int32)), .val (.int (1 : Int32)), .val (.int (0 : Int32))] [])) t
          refine XS.iloadN X18.here hx rfl (hb hby d9_7) rfl ?_
          show Steps p.tables e below (T18.setTop (mkF m 8 #[.val (.ref a1), .val (.int p2), .val (.int (1 : Int32)), .val (.int (1 : Int32)), .val (.int (0 : Int32))] [(.int (1 : Int32))])) t
          refine XS.iloadN X18.here hx rfl (hb hby d9_8) rfl ?_
          show Steps p.tables e below (T18.setTop (mkF m 9 #[.val (.ref a1), .val (.int p2), .val (.int (1 : Int32)), .val (.int (1 : Int32)), .val (.int (0 : Int32))] [(.int (1 : Int32)), (.int (1 : Int32))])) t
          refine XS.icmpYes X18.here hx rfl (pc0 := 9) (pc' := 44) rfl (hb hby d9_9) rfl (XT.ii_ge_t (show ¬ ((1 : Int32) < (1 : Int32)) from by decide)) (by decide) (by decide) ?_
          show Steps p.tables e below (T18.setTop (mkF m 44 #[.val (.ref a1), .val (.int p2), .val (.int (1 : Int32)), .val (.int (1 : Int32)), .val (.int (0 : Int32))] [])) t
          refine XS.iloadN X18.here hx rfl (hb hby d9_44) rfl ?_
          show Steps p.tables e below (T18.setTop (mkF m 45 #[.val (.ref a1), .val (.int p2), .val (.int (1 : Int32)), .val (.int (1 : Int32)), .val (.int (0 : Int32))] [(.int (1 : Int32))])) t
          exact k)
        obtain ⟨fs, hr, hrun, hended, hW, hsame⟩ := X18.leave (v := some (.int (1 : Int32))) (fun h => by rw [Bd.returns] at h; cases h)
        refine ⟨_, _, pre25 _ ?_, hrun, hended, _, _, rfl, ?_, ⟨_, rfl⟩, hW, hsame.mono (by decide) (by decide)⟩
        · show Steps p.tables e below (T18.setTop (mkF m 45 #[.val (.ref a1), .val (.int p2), .val (.int (1 : Int32)), .val (.int (1 : Int32)), .val (.int (0 : Int32))] [(.int (1 : Int32))])) _
          exact retI X18 hx Bd.returns (hb hby d9_45) hr
        · show QFA4 Z a1 p2 ar kk cap x0 x1 x2 x3 h0 n0 _ T18.heap _
          rw [eh18]
          exact ⟨(congrArg (fun z => some (Value.int z)) (show (1 : Int32) = (own_fa4 x0 x1 x2 x3 p2) from (by simp only [own_fa4, if_pos hc27_8, if_pos hc27_14, if_neg hc27_20]))), N0, rfl⟩
    · skip
      have pre27 : ∀ t, Steps p.tables e below (T12.setTop (mkF m 45 #[.val (.ref a1), .val (.int p2), .val (.int (2 : Int32)), .val (.int (2 : Int32)), .val (.int (1 : Int32))] [(.int (2 : Int32))])) t → Steps p.tables e below (s₁.setTop (entryFrame m #[(.ref a1), (.int p2)] 5)) t := fun t k => pre15 t (by
        show Steps p.tables e below (T12.setTop (mkF m 27 #[.val (.ref a1), .val (.int p2), .val (.int (0 : Int32)), .val (.int (2 : Int32)), .val (.int (1 : Int32))] [(.int p2), (.int x1)])) t
        refine XS.icmpNo X12.here hx rfl (hb hby d9_27) rfl (XT.ii_gt_f hc27_14) ?_
        show Steps p.tables e below (T12.setTop (mkF m 30 #[.val (.ref a1), .val (.int p2), .val (.int (0 : Int32)), .val (.int (2 : Int32)), .val (.int (1 : Int32))] [])) t
        refine XS.iload X12.here hx rfl (hb hby d9_30) rfl ?_
        show Steps p.tables e below (T12.setTop (mkF m 32 #[.val (.ref a1), .val (.int p2), .val (.int (0 : Int32)), .val (.int (2 : Int32)), .val (.int (1 : Int32))] [(.int (1 : Int32))])) t
        refine XS.iconst X12.here hx rfl (hb hby d9_32) ?_
        show Steps p.tables e below (T12.setTop (mkF m 33 #[.val (.ref a1), .val (.int p2), .val (.int (0 : Int32)), .val (.int (2 : Int32)), .val (.int (1 : Int32))] [(.int (1 : Int32)), (.int (1 : Int32))])) t
        refine XS.iadd X12.here hx rfl (hb hby d9_33) rfl ?_
        show Steps p.tables e below (T12.setTop (mkF m 34 #[.val (.ref a1), .val (.int p2), .val (.int (0 : Int32)), .val (.int (2 : Int32)), .val (.int (1 : Int32))] [(.int (2 : Int32))])) t
        refine XS.istoreN X12.here hx rfl (hb hby d9_34) rfl (l' := #[.val (.ref a1), .val (.int p2), .val (.int (2 : Int32)), .val (.int (2 : Int32)), .val (.int (1 : Int32))]) rfl ?_
        show Steps p.tables e below (T12.setTop (mkF m 35 #[.val (.ref a1), .val (.int p2), .val (.int (2 : Int32)), .val (.int (2 : Int32)), .val (.int (1 : Int32))] [])) t
        refine XS.goto X12.here hx rfl (pc0 := 35) (pc' := 41) rfl (hb hby d9_35) (by decide) (by decide) ?_
        show Steps p.tables e below (T12.setTop (mkF m 41 #[.val (.ref a1), .val (.int p2), .val (.int (2 : Int32)), .val (.int (2 : Int32)), .val (.int (1 : Int32))] [])) t
        refine XS.goto X12.here hx rfl (pc0 := 41) (pc' := 7) rfl (hb hby d9_41) (by decide) (by decide) ?_
        show Steps p.tables e below (T12.setTop (mkF m 7 #[.val (.ref a1), .val (.int p2), .val (.int (2 : Int32)), .val (.int (2 : Int32)), .val (.int (1 : Int32))] [])) t
        refine XS.iloadN X12.here hx rfl (hb hby d9_7) rfl ?_
        show Steps p.tables e below (T12.setTop (mkF m 8 #[.val (.ref a1), .val (.int p2), .val (.int (2 : Int32)), .val (.int (2 : Int32)), .val (.int (1 : Int32))] [(.int (2 : Int32))])) t
        refine XS.iloadN X12.here hx rfl (hb hby d9_8) rfl ?_
        show Steps p.tables e below (T12.setTop (mkF m 9 #[.val (.ref a1), .val (.int p2), .val (.int (2 : Int32)), .val (.int (2 : Int32)), .val (.int (1 : Int32))] [(.int (2 : Int32)), (.int (2 : Int32))])) t
        refine XS.icmpYes X12.here hx rfl (pc0 := 9) (pc' := 44) rfl (hb hby d9_9) rfl (XT.ii_ge_t (show ¬ ((2 : Int32) < (2 : Int32)) from by decide)) (by decide) (by decide) ?_
        show Steps p.tables e below (T12.setTop (mkF m 44 #[.val (.ref a1), .val (.int p2), .val (.int (2 : Int32)), .val (.int (2 : Int32)), .val (.int (1 : Int32))] [])) t
        refine XS.iloadN X12.here hx rfl (hb hby d9_44) rfl ?_
        show Steps p.tables e below (T12.setTop (mkF m 45 #[.val (.ref a1), .val (.int p2), .val (.int (2 : Int32)), .val (.int (2 : Int32)), .val (.int (1 : Int32))] [(.int (2 : Int32))])) t
        exact k)
      obtain ⟨fs, hr, hrun, hended, hW, hsame⟩ := X12.leave (v := some (.int (2 : Int32))) (fun h => by rw [Bd.returns] at h; cases h)
      refine ⟨_, _, pre27 _ ?_, hrun, hended, _, _, rfl, ?_, ⟨_, rfl⟩, hW, hsame.mono (by decide) (by decide)⟩
      · show Steps p.tables e below (T12.setTop (mkF m 45 #[.val (.ref a1), .val (.int p2), .val (.int (2 : Int32)), .val (.int (2 : Int32)), .val (.int (1 : Int32))] [(.int (2 : Int32))])) _
        exact retI X12 hx Bd.returns (hb hby d9_45) hr
      · show QFA4 Z a1 p2 ar kk cap x0 x1 x2 x3 h0 n0 _ T12.heap _
        rw [eh12]
        exact ⟨(congrArg (fun z => some (Value.int z)) (show (2 : Int32) = (own_fa4 x0 x1 x2 x3 p2) from (by simp only [own_fa4, if_pos hc27_8, if_neg hc27_14]))), N0, rfl⟩
  · skip
    have pre29 : ∀ t, Steps p.tables e below (T6.setTop (mkF m 20 #[.val (.ref a1), .val (.int p2), .val (.int (3 : Int32)), .val (.int (4 : Int32)), .val (.int (3 : Int32))] [(.ref a1)])) t → Steps p.tables e below (s₁.setTop (entryFrame m #[(.ref a1), (.int p2)] 5)) t := fun t k => pre9 t (by
      show Steps p.tables e below (T6.setTop (mkF m 27 #[.val (.ref a1), .val (.int p2), .val (.int (0 : Int32)), .val (.int (4 : Int32)), .val (.int (2 : Int32))] [(.int p2), (.int x2)])) t
      refine XS.icmpNo X6.here hx rfl (hb hby d9_27) rfl (XT.ii_gt_f hc27_8) ?_
      show Steps p.tables e below (T6.setTop (mkF m 30 #[.val (.ref a1), .val (.int p2), .val (.int (0 : Int32)), .val (.int (4 : Int32)), .val (.int (2 : Int32))] [])) t
      refine XS.iload X6.here hx rfl (hb hby d9_30) rfl ?_
      show Steps p.tables e below (T6.setTop (mkF m 32 #[.val (.ref a1), .val (.int p2), .val (.int (0 : Int32)), .val (.int (4 : Int32)), .val (.int (2 : Int32))] [(.int (2 : Int32))])) t
      refine XS.iconst X6.here hx rfl (hb hby d9_32) ?_
      show Steps p.tables e below (T6.setTop (mkF m 33 #[.val (.ref a1), .val (.int p2), .val (.int (0 : Int32)), .val (.int (4 : Int32)), .val (.int (2 : Int32))] [(.int (1 : Int32)), (.int (2 : Int32))])) t
      refine XS.iadd X6.here hx rfl (hb hby d9_33) rfl ?_
      show Steps p.tables e below (T6.setTop (mkF m 34 #[.val (.ref a1), .val (.int p2), .val (.int (0 : Int32)), .val (.int (4 : Int32)), .val (.int (2 : Int32))] [(.int (3 : Int32))])) t
      refine XS.istoreN X6.here hx rfl (hb hby d9_34) rfl (l' := #[.val (.ref a1), .val (.int p2), .val (.int (3 : Int32)), .val (.int (4 : Int32)), .val (.int (2 : Int32))]) rfl ?_
      show Steps p.tables e below (T6.setTop (mkF m 35 #[.val (.ref a1), .val (.int p2), .val (.int (3 : Int32)), .val (.int (4 : Int32)), .val (.int (2 : Int32))] [])) t
      refine XS.goto X6.here hx rfl (pc0 := 35) (pc' := 41) rfl (hb hby d9_35) (by decide) (by decide) ?_
      show Steps p.tables e below (T6.setTop (mkF m 41 #[.val (.ref a1), .val (.int p2), .val (.int (3 : Int32)), .val (.int (4 : Int32)), .val (.int (2 : Int32))] [])) t
      refine XS.goto X6.here hx rfl (pc0 := 41) (pc' := 7) rfl (hb hby d9_41) (by decide) (by decide) ?_
      show Steps p.tables e below (T6.setTop (mkF m 7 #[.val (.ref a1), .val (.int p2), .val (.int (3 : Int32)), .val (.int (4 : Int32)), .val (.int (2 : Int32))] [])) t
      refine XS.iloadN X6.here hx rfl (hb hby d9_7) rfl ?_
      show Steps p.tables e below (T6.setTop (mkF m 8 #[.val (.ref a1), .val (.int p2), .val (.int (3 : Int32)), .val (.int (4 : Int32)), .val (.int (2 : Int32))] [(.int (3 : Int32))])) t
      refine XS.iloadN X6.here hx rfl (hb hby d9_8) rfl ?_
      show Steps p.tables e below (T6.setTop (mkF m 9 #[.val (.ref a1), .val (.int p2), .val (.int (3 : Int32)), .val (.int (4 : Int32)), .val (.int (2 : Int32))] [(.int (4 : Int32)), (.int (3 : Int32))])) t
      refine XS.icmpNo X6.here hx rfl (hb hby d9_9) rfl (XT.ii_ge_f (show (3 : Int32) < (4 : Int32) from by decide)) ?_
      show Steps p.tables e below (T6.setTop (mkF m 12 #[.val (.ref a1), .val (.int p2), .val (.int (3 : Int32)), .val (.int (4 : Int32)), .val (.int (2 : Int32))] [])) t
      refine XS.iloadN X6.here hx rfl (hb hby d9_12) rfl ?_
      show Steps p.tables e below (T6.setTop (mkF m 13 #[.val (.ref a1), .val (.int p2), .val (.int (3 : Int32)), .val (.int (4 : Int32)), .val (.int (2 : Int32))] [(.int (3 : Int32))])) t
      refine XS.iloadN X6.here hx rfl (hb hby d9_13) rfl ?_
      show Steps p.tables e below (T6.setTop (mkF m 14 #[.val (.ref a1), .val (.int p2), .val (.int (3 : Int32)), .val (.int (4 : Int32)), .val (.int (2 : Int32))] [(.int (4 : Int32)), (.int (3 : Int32))])) t
      refine XS.iadd X6.here hx rfl (hb hby d9_14) rfl ?_
      show Steps p.tables e below (T6.setTop (mkF m 15 #[.val (.ref a1), .val (.int p2), .val (.int (3 : Int32)), .val (.int (4 : Int32)), .val (.int (2 : Int32))] [(.int (7 : Int32))])) t
      refine XS.iconst X6.here hx rfl (hb hby d9_15) ?_
      show Steps p.tables e below (T6.setTop (mkF m 16 #[.val (.ref a1), .val (.int p2), .val (.int (3 : Int32)), .val (.int (4 : Int32)), .val (.int (2 : Int32))] [(.int (1 : Int32)), (.int (7 : Int32))])) t
      refine XT.iushr X6.here hx rfl (hb hby d9_16) rfl ?_
      show Steps p.tables e below (T6.setTop (mkF m 17 #[.val (.ref a1), .val (.int p2), .val (.int (3 : Int32)), .val (.int (4 : Int32)), .val (.int (2 : Int32))] [(.int (3 : Int32))])) t
      refine XS.istore X6.here hx rfl (hb hby d9_17) rfl (l' := #[.val (.ref a1), .val (.int p2), .val (.int (3 : Int32)), .val (.int (4 : Int32)), .val (.int (3 : Int32))]) rfl ?_
      show Steps p.tables e below (T6.setTop (mkF m 19 #[.val (.ref a1), .val (.int p2), .val (.int (3 : Int32)), .val (.int (4 : Int32)), .val (.int (3 : Int32))] [])) t
      refine XS.aloadN X6.here hx rfl (hb hby d9_19) rfl rfl ?_
      show Steps p.tables e below (T6.setTop (mkF m 20 #[.val (.ref a1), .val (.int p2), .val (.int (3 : Int32)), .val (.int (4 : Int32)), .val (.int (3 : Int32))] [(.ref a1)])) t
      exact k)
    obtain ⟨T30, X30, eh30, st30⟩ := getF X6 hx hZ hown (host := "") (Or.inl (hw _ (List.mem_of_getElem? (i := 17) rfl))) Via.refl eh6 F_values_a1 (g := (mkF m 20 #[.val (.ref a1), .val (.int p2), .val (.int (3 : Int32)), .val (.int (4 : Int32)), .val (.int (3 : Int32))] [(.ref a1)])) rfl rfl (hb hby d9_20)
    have pre31 : ∀ t, Steps p.tables e below (T30.setTop (mkF m 23 #[.val (.ref a1), .val (.int p2), .val (.int (3 : Int32)), .val (.int (4 : Int32)), .val (.int (3 : Int32))] [(.ref ar)])) t → Steps p.tables e below (s₁.setTop (entryFrame m #[(.ref a1), (.int p2)] 5)) t := fun t k => pre29 t (st30 _ k)
    have pre33 : ∀ t, Steps p.tables e below (T30.setTop (mkF m 27 #[.val (.ref a1), .val (.int p2), .val (.int (3 : Int32)), .val (.int (4 : Int32)), .val (.int (3 : Int32))] [(.int p2), (.int x3)])) t → Steps p.tables e below (s₁.setTop (entryFrame m #[(.ref a1), (.int p2)] 5)) t := fun t k => pre31 t (by
      show Steps p.tables e below (T30.setTop (mkF m 23 #[.val (.ref a1), .val (.int p2), .val (.int (3 : Int32)), .val (.int (4 : Int32)), .val (.int (3 : Int32))] [(.ref ar)])) t
      refine XS.iload X30.here hx rfl (hb hby d9_23) rfl ?_
      show Steps p.tables e below (T30.setTop (mkF m 25 #[.val (.ref a1), .val (.int p2), .val (.int (3 : Int32)), .val (.int (4 : Int32)), .val (.int (3 : Int32))] [(.int (3 : Int32)), (.ref ar)])) t
      refine own_iaload X30 hx hZ eh30 V_ar (j := (3 : Int32)) (v := (.int x3)) ⟨by decide, own_in (4 : Int32) hcap (by decide)⟩ rfl (g := (mkF m 25 #[.val (.ref a1), .val (.int p2), .val (.int (3 : Int32)), .val (.int (4 : Int32)), .val (.int (3 : Int32))] [(.int (3 : Int32)), (.ref ar)])) rfl rfl (hb hby d9_25) _ ?_
      show Steps p.tables e below (T30.setTop (mkF m 26 #[.val (.ref a1), .val (.int p2), .val (.int (3 : Int32)), .val (.int (4 : Int32)), .val (.int (3 : Int32))] [(.int x3)])) t
      refine XS.iloadN X30.here hx rfl (hb hby d9_26) rfl ?_
      show Steps p.tables e below (T30.setTop (mkF m 27 #[.val (.ref a1), .val (.int p2), .val (.int (3 : Int32)), .val (.int (4 : Int32)), .val (.int (3 : Int32))] [(.int p2), (.int x3)])) t
      exact k)
    by_cases hc27_32 : p2 < x3
    · skip
      have pre35 : ∀ t, Steps p.tables e below (T30.setTop (mkF m 45 #[.val (.ref a1), .val (.int p2), .val (.int (3 : Int32)), .val (.int (3 : Int32)), .val (.int (3 : Int32))] [(.int (3 : Int32))])) t → Steps p.tables e below (s₁.setTop (entryFrame m #[(.ref a1), (.int p2)] 5)) t := fun t k => pre33 t (by
        show Steps p.tables e below (T30.setTop (mkF m 27 #[.val (.ref a1), .val (.int p2), .val (.int (3 : Int32)), .val (.int (4 : Int32)), .val (.int (3 : Int32))] [(.int p2), (.int x3)])) t
        refine XS.icmpYes X30.here hx rfl (pc0 := 27) (pc' := 38) rfl (hb hby d9_27) rfl (XT.ii_gt_t hc27_32) (by decide) (by decide) ?_
        show Steps p.tables e below (T30.setTop (mkF m 38 #[.val (.ref a1), .val (.int p2), .val (.int (3 : Int32)), .val (.int (4 : Int32)), .val (.int (3 : Int32))] [])) t
        refine XS.iload X30.here hx rfl (hb hby d9_38) rfl ?_
        show Steps p.tables e below (T30.setTop (mkF m 40 #[.val (.ref a1), .val (.int p2), .val (.int (3 : Int32)), .val (.int (4 : Int32)), .val (.int (3 : Int32))] [(.int (3 : Int32))])) t
        refine XS.istoreN X30.here hx rfl (hb hby d9_40) rfl (l' := #[.val (.ref a1), .val (.int p2), .val (.int (3 : Int32)), .val (.int (3 : Int32)), .val (.int (3 : Int32))]) rfl ?_
        show Steps p.tables e below (T30.setTop (mkF m 41 #[.val (.ref a1), .val (.int p2), .val (.int (3 : Int32)), .val (.int (3 : Int32)), .val (.int (3 : Int32))] [])) t
        refine XS.goto X30.here hx rfl (pc0 := 41) (pc' := 7) rfl (hb hby d9_41) (by decide) (by decide) ?_
        show Steps p.tables e below (T30.setTop (mkF m 7 #[.val (.ref a1), .val (.int p2), .val (.int (3 : Int32)), .val (.int (3 : Int32)), .val (.int (3 : Int32))] [])) t
        refine XS.iloadN X30.here hx rfl (hb hby d9_7) rfl ?_
        show Steps p.tables e below (T30.setTop (mkF m 8 #[.val (.ref a1), .val (.int p2), .val (.int (3 : Int32)), .val (.int (3 : Int32)), .val (.int (3 : Int32))] [(.int (3 : Int32))])) t
        refine XS.iloadN X30.here hx rfl (hb hby d9_8) rfl ?_
        show Steps p.tables e below (T30.setTop (mkF m 9 #[.val (.ref a1), .val (.int p2), .val (.int (3 : Int32)), .val (.int (3 : Int32)), .val (.int (3 : Int32))] [(.int (3 : Int32)), (.int (3 : Int32))])) t
        refine XS.icmpYes X30.here hx rfl (pc0 := 9) (pc' := 44) rfl (hb hby d9_9) rfl (XT.ii_ge_t (show ¬ ((3 : Int32) < (3 : Int32)) from by decide)) (by decide) (by decide) ?_
        show Steps p.tables e below (T30.setTop (mkF m 44 #[.val (.ref a1), .val (.int p2), .val (.int (3 : Int32)), .val (.int (3 : Int32)), .val (.int (3 : Int32))] [])) t
        refine XS.iloadN X30.here hx rfl (hb hby d9_44) rfl ?_
        show Steps p.tables e below (T30.setTop (mkF m 45 #[.val (.ref a1), .val (.int p2), .val (.int (3 : Int32)), .val (.int (3 : Int32)), .val (.int (3 : Int32))] [(.int (3 : Int32))])) t
        exact k)
      obtain ⟨fs, hr, hrun, hended, hW, hsame⟩ := X30.leave (v := some (.int (3 : Int32))) (fun h => by rw [Bd.returns] at h; cases h)
      refine ⟨_, _, pre35 _ ?_, hrun, hended, _, _, rfl, ?_, ⟨_, rfl⟩, hW, hsame.mono (by decide) (by decide)⟩
      · show Steps p.tables e below (T30.setTop (mkF m 45 #[.val (.ref a1), .val (.int p2), .val (.int (3 : Int32)), .val (.int (3 : Int32)), .val (.int (3 : Int32))] [(.int (3 : Int32))])) _
        exact retI X30 hx Bd.returns (hb hby d9_45) hr
      · show QFA4 Z a1 p2 ar kk cap x0 x1 x2 x3 h0 n0 _ T30.heap _
        rw [eh30]
        exact ⟨(congrArg (fun z => some (Value.int z)) (show (3 : Int32) = (own_fa4 x0 x1 x2 x3 p2) from (by simp only [own_fa4, if_neg hc27_8, if_pos hc27_32]))), N0, rfl⟩
    · skip
      have pre37 : ∀ t, Steps p.tables e below (T30.setTop (mkF m 45 #[.val (.ref a1), .val (.int p2), .val (.int (4 : Int32)), .val (.int (4 : Int32)), .val (.int (3 : Int32))] [(.int (4 : Int32))])) t → Steps p.tables e below (s₁.setTop (entryFrame m #[(.ref a1), (.int p2)] 5)) t := fun t k => pre33 t (by
        show Steps p.tables e below (T30.setTop (mkF m 27 #[.val (.ref a1), .val (.int p2), .val (.int (3 : Int32)), .val (.int (4 : Int32)), .val (.int (3 : Int32))] [(.int p2), (.int x3)])) t
        refine XS.icmpNo X30.here hx rfl (hb hby d9_27) rfl (XT.ii_gt_f hc27_32) ?_
        show Steps p.tables e below (T30.setTop (mkF m 30 #[.val (.ref a1), .val (.int p2), .val (.int (3 : Int32)), .val (.int (4 : Int32)), .val (.int (3 : Int32))] [])) t
        refine XS.iload X30.here hx rfl (hb hby d9_30) rfl ?_
        show Steps p.tables e below (T30.setTop (mkF m 32 #[.val (.ref a1), .val (.int p2), .val (.int (3 : Int32)), .val (.int (4 : Int32)), .val (.int (3 : Int32))] [(.int (3 : Int32))])) t
        refine XS.iconst X30.here hx rfl (hb hby d9_32) ?_
        show Steps p.tables e below (T30.setTop (mkF m 33 #[.val (.ref a1), .val (.int p2), .val (.int (3 : Int32)), .val (.int (4 : Int32)), .val (.int (3 : Int32))] [(.int (1 : Int32)), (.int (3 : Int32))])) t
        refine XS.iadd X30.here hx rfl (hb hby d9_33) rfl ?_
        show Steps p.tables e below (T30.setTop (mkF m 34 #[.val (.ref a1), .val (.int p2), .val (.int (3 : Int32)), .val (.int (4 : Int32)), .val (.int (3 : Int32))] [(.int (4 : Int32))])) t
        refine XS.istoreN X30.here hx rfl (hb hby d9_34) rfl (l' := #[.val (.ref a1), .val (.int p2), .val (.int (4 : Int32)), .val (.int (4 : Int32)), .val (.int (3 : Int32))]) rfl ?_
        show Steps p.tables e below (T30.setTop (mkF m 35 #[.val (.ref a1), .val (.int p2), .val (.int (4 : Int32)), .val (.int (4 : Int32)), .val (.int (3 : Int32))] [])) t
        refine XS.goto X30.here hx rfl (pc0 := 35) (pc' := 41) rfl (hb hby d9_35) (by decide) (by decide) ?_
        show Steps p.tables e below (T30.setTop (mkF m 41 #[.val (.ref a1), .val (.int p2), .val (.int (4 : Int32)), .val (.int (4 : Int32)), .val (.int (3 : Int32))] [])) t
        refine XS.goto X30.here hx rfl (pc0 := 41) (pc' := 7) rfl (hb hby d9_41) (by decide) (by decide) ?_
        show Steps p.tables e below (T30.setTop (mkF m 7 #[.val (.ref a1), .val (.int p2), .val (.int (4 : Int32)), .val (.int (4 : Int32)), .val (.int (3 : Int32))] [])) t
        refine XS.iloadN X30.here hx rfl (hb hby d9_7) rfl ?_
        show Steps p.tables e below (T30.setTop (mkF m 8 #[.val (.ref a1), .val (.int p2), .val (.int (4 : Int32)), .val (.int (4 : Int32)), .val (.int (3 : Int32))] [(.int (4 : Int32))])) t
        refine XS.iloadN X30.here hx rfl (hb hby d9_8) rfl ?_
        show Steps p.tables e below (T30.setTop (mkF m 9 #[.val (.ref a1), .val (.int p2), .val (.int (4 : Int32)), .val (.int (4 : Int32)), .val (.int (3 : Int32))] [(.int (4 : Int32)), (.int (4 : Int32))])) t
        refine XS.icmpYes X30.here hx rfl (pc0 := 9) (pc' := 44) rfl (hb hby d9_9) rfl (XT.ii_ge_t (show ¬ ((4 : Int32) < (4 : Int32)) from by decide)) (by decide) (by decide) ?_
        show Steps p.tables e below (T30.setTop (mkF m 44 #[.val (.ref a1), .val (.int p2), .val (.int (4 : Int32)), .val (.int (4 : Int32)), .val (.int (3 : Int32))] [])) t
        refine XS.iloadN X30.here hx rfl (hb hby d9_44) rfl ?_
        show Steps p.tables e below (T30.setTop (mkF m 45 #[.val (.ref a1), .val (.int p2), .val (.int (4 : Int32)), .val (.int (4 : Int32)), .val (.int (3 : Int32))] [(.int (4 : Int32))])) t
        exact k)
      obtain ⟨fs, hr, hrun, hended, hW, hsame⟩ := X30.leave (v := some (.int (4 : Int32))) (fun h => by rw [Bd.returns] at h; cases h)
      refine ⟨_, _, pre37 _ ?_, hrun, hended, _, _, rfl, ?_, ⟨_, rfl⟩, hW, hsame.mono (by decide) (by decide)⟩
      · show Steps p.tables e below (T30.setTop (mkF m 45 #[.val (.ref a1), .val (.int p2), .val (.int (4 : Int32)), .val (.int (4 : Int32)), .val (.int (3 : Int32))] [(.int (4 : Int32))])) _
        exact retI X30 hx Bd.returns (hb hby d9_45) hr
      · show QFA4 Z a1 p2 ar kk cap x0 x1 x2 x3 h0 n0 _ T30.heap _
        rw [eh30]
        exact ⟨(congrArg (fun z => some (Value.int z)) (show (4 : Int32) = (own_fa4 x0 x1 x2 x3 p2) from (by simp only [own_fa4, if_neg hc27_8, if_neg hc27_32]))), N0, rfl⟩
theorem ef_0 (m : MethodId) (p1 : Int32) (p2 : Int32) (p3 : Int32) (p4 : Int32) (p5 : Int32) (p6 : Int32) : entryFrame m #[(.int p1), (.int p2), (.int p3), (.int p4), (.int p5), (.int p6)] maxLocals = mkF m 0 #[.val (.int p1), .val (.int p2), .val (.int p3), .val (.int p4), .val (.int p5), .val (.int p6), .unset, .unset, .unset, .unset, .unset, .unset, .unset, .unset, .unset, .unset, .unset, .unset, .unset, .unset] [] := by first | (simp [entryFrame, mkF, argsToLocals, Value.category, maxLocals]; done) | rfl
theorem pd_oIcV : parseMethodDescriptor "(I)V" = some ⟨[.int], none⟩ := by decide +kernel
theorem pd_oIcI : parseMethodDescriptor "(I)I" = some ⟨[.int], some .int⟩ := by decide +kernel
def Q0 (Z : State) (p1 : Int32) (p2 : Int32) (p3 : Int32) (p4 : Int32) (p5 : Int32) (p6 : Int32) (h0 : Heap) (n0 : Nat) (v : Option Value) (h : Heap) (L : List Loc) : Prop := v = some (.int (1 : Int32)) ∧ Fr n0 L
set_option maxRecDepth 65536 in
set_option maxHeartbeats 40000000 in
theorem rm0 (l : Launch) (Z : State) (a0 : Array Value) (hw : ∀ d ∈ tables_1, d.before a0 Z = true) (ws : List Jvm.Cond) (p1 : Int32) (p2 : Int32) (p3 : Int32) (p4 : Int32) (p5 : Int32) (p6 : Int32) (h0 : Heap) (n0 : Nat) (Z0 : n0 ≤ h0.size) :
    MetFree l x (head1 (Jvm.Cond.code x code maxLocals ret :: ws) room_1) (fun a U => a = #[(.int p1), (.int p2), (.int p3), (.int p4), (.int p5), (.int p6)] ∧ Z.Warmed39 U.vm ∧ U.heap = h0) (fun _ _ _ _ _ => True) (fun _ U o U' => ∃ v L, o = .returned v ∧ Q0 Z p1 p2 p3 p4 p5 p6 h0 n0 v U'.heap L ∧ FrameEnd U o U' L room_1.cells room_1.slots) := by
  refine MetFree.of_bodySF (plainFor_of_name pn_com_example_interlace_interlace_core_IntColumnFirstAbovePinLaw) hisR ?_
  intro p e s m args below meth c s₁ Bd hml0 hP hK
  obtain ⟨rfl, hZ, hh⟩ := hP
  have hx := Bd.exec
  have hby := Bd.bytes
  have hml : c.maxLocals = 20 := hml0
  have hown : s.vm.findClass "com/example/interlace/interlace/core/IntColumnFirstAbovePinLaw" = some m.cls := findClass_of_methodNamed Bd.named
  have hnm := (name_of_methodNamed Bd.named Bd.method).1
  have X0 : Stand p l e room_1 s m #[(.int p1), (.int p2), (.int p3), (.int p4), (.int p5), (.int p6)] below meth c s₁ [] 0 0 := Stand.of_body Bd
  have eh0 : s₁.heap = h0 := by rw [← hh, Bd.state]; rfl
  have N0 := Fr.nil n0
  have pre0 : ∀ t, Steps p.tables e below (s₁.setTop (mkF m 0 #[.val (.int p1), .val (.int p2), .val (.int p3), .val (.int p4), .val (.int p5), .val (.int p6), .unset, .unset, .unset, .unset, .unset, .unset, .unset, .unset, .unset, .unset, .unset, .unset, .unset, .unset] [])) t → Steps p.tables e below (s₁.setTop (entryFrame m #[(.int p1), (.int p2), (.int p3), (.int p4), (.int p5), (.int p6)] maxLocals)) t := fun t k => castTop (ef_0 m p1 p2 p3 p4 p5 p6) k
  have pre1 : ∀ t, Steps p.tables e below (s₁.setTop (mkF m 9 #[.val (.int p1), .val (.int p2), .val (.int p3), .val (.int p4), .val (.int p5), .val (.int p6), .val (.int ((p6 &&& (7 : Int32)) % (5 : Int32))), .unset, .unset, .unset, .unset, .unset, .unset, .unset, .unset, .unset, .unset, .unset, .unset, .unset] [])) t → Steps p.tables e below (s₁.setTop (entryFrame m #[(.int p1), (.int p2), (.int p3), (.int p4), (.int p5), (.int p6)] maxLocals)) t := fun t k => pre0 t (by
    show Steps p.tables e below (s₁.setTop (mkF m 0 #[.val (.int p1), .val (.int p2), .val (.int p3), .val (.int p4), .val (.int p5), .val (.int p6), .unset, .unset, .unset, .unset, .unset, .unset, .unset, .unset, .unset, .unset, .unset, .unset, .unset, .unset] [])) t
    refine XS.iload X0.here hx rfl (hb hby at_0) rfl ?_
    show Steps p.tables e below (s₁.setTop (mkF m 2 #[.val (.int p1), .val (.int p2), .val (.int p3), .val (.int p4), .val (.int p5), .val (.int p6), .unset, .unset, .unset, .unset, .unset, .unset, .unset, .unset, .unset, .unset, .unset, .unset, .unset, .unset] [(.int p6)])) t
    refine XS.bipush X0.here hx rfl (hb hby at_2) ?_
    show Steps p.tables e below (s₁.setTop (mkF m 4 #[.val (.int p1), .val (.int p2), .val (.int p3), .val (.int p4), .val (.int p5), .val (.int p6), .unset, .unset, .unset, .unset, .unset, .unset, .unset, .unset, .unset, .unset, .unset, .unset, .unset, .unset] [(.int (7 : Int32)), (.int p6)])) t
    refine XS.iand X0.here hx rfl (hb hby at_4) rfl ?_
    show Steps p.tables e below (s₁.setTop (mkF m 5 #[.val (.int p1), .val (.int p2), .val (.int p3), .val (.int p4), .val (.int p5), .val (.int p6), .unset, .unset, .unset, .unset, .unset, .unset, .unset, .unset, .unset, .unset, .unset, .unset, .unset, .unset] [(.int (p6 &&& (7 : Int32)))])) t
    refine XS.iconst X0.here hx rfl (hb hby at_5) ?_
    show Steps p.tables e below (s₁.setTop (mkF m 6 #[.val (.int p1), .val (.int p2), .val (.int p3), .val (.int p4), .val (.int p5), .val (.int p6), .unset, .unset, .unset, .unset, .unset, .unset, .unset, .unset, .unset, .unset, .unset, .unset, .unset, .unset] [(.int (5 : Int32)), (.int (p6 &&& (7 : Int32)))])) t
    refine iremM X0 hx rfl (hb hby at_6) rfl (by decide) ?_
    show Steps p.tables e below (s₁.setTop (mkF m 7 #[.val (.int p1), .val (.int p2), .val (.int p3), .val (.int p4), .val (.int p5), .val (.int p6), .unset, .unset, .unset, .unset, .unset, .unset, .unset, .unset, .unset, .unset, .unset, .unset, .unset, .unset] [(.int ((p6 &&& (7 : Int32)) % (5 : Int32)))])) t
    refine XS.istore X0.here hx rfl (hb hby at_7) rfl (l' := #[.val (.int p1), .val (.int p2), .val (.int p3), .val (.int p4), .val (.int p5), .val (.int p6), .val (.int ((p6 &&& (7 : Int32)) % (5 : Int32))), .unset, .unset, .unset, .unset, .unset, .unset, .unset, .unset, .unset, .unset, .unset, .unset, .unset]) rfl ?_
    show Steps p.tables e below (s₁.setTop (mkF m 9 #[.val (.int p1), .val (.int p2), .val (.int p3), .val (.int p4), .val (.int p5), .val (.int p6), .val (.int ((p6 &&& (7 : Int32)) % (5 : Int32))), .unset, .unset, .unset, .unset, .unset, .unset, .unset, .unset, .unset, .unset, .unset, .unset, .unset] [])) t
    exact k)
  obtain ⟨cnt, h_cnt⟩ : ∃ z : Int32, z = ((p6 &&& (7 : Int32)) % (5 : Int32)) := ⟨_, rfl⟩
  rw [← h_cnt] at pre1
  skip
  have pre2 : ∀ t, Steps p.tables e below (s₁.setTop (mkF m 19 #[.val (.int p1), .val (.int p2), .val (.int p3), .val (.int p4), .val (.int p5), .val (.int p6), .val (.int cnt), .val (.int (((XT.ushr p6 (3 : Int32)) &&& (3 : Int32)) + (1 : Int32))), .unset, .unset, .unset, .unset, .unset, .unset, .unset, .unset, .unset, .unset, .unset, .unset] [])) t → Steps p.tables e below (s₁.setTop (entryFrame m #[(.int p1), (.int p2), (.int p3), (.int p4), (.int p5), (.int p6)] maxLocals)) t := fun t k => pre1 t (by
    show Steps p.tables e below (s₁.setTop (mkF m 9 #[.val (.int p1), .val (.int p2), .val (.int p3), .val (.int p4), .val (.int p5), .val (.int p6), .val (.int cnt), .unset, .unset, .unset, .unset, .unset, .unset, .unset, .unset, .unset, .unset, .unset, .unset, .unset] [])) t
    refine XS.iload X0.here hx rfl (hb hby at_9) rfl ?_
    show Steps p.tables e below (s₁.setTop (mkF m 11 #[.val (.int p1), .val (.int p2), .val (.int p3), .val (.int p4), .val (.int p5), .val (.int p6), .val (.int cnt), .unset, .unset, .unset, .unset, .unset, .unset, .unset, .unset, .unset, .unset, .unset, .unset, .unset] [(.int p6)])) t
    refine XS.iconst X0.here hx rfl (hb hby at_11) ?_
    show Steps p.tables e below (s₁.setTop (mkF m 12 #[.val (.int p1), .val (.int p2), .val (.int p3), .val (.int p4), .val (.int p5), .val (.int p6), .val (.int cnt), .unset, .unset, .unset, .unset, .unset, .unset, .unset, .unset, .unset, .unset, .unset, .unset, .unset] [(.int (3 : Int32)), (.int p6)])) t
    refine XT.iushr X0.here hx rfl (hb hby at_12) rfl ?_
    show Steps p.tables e below (s₁.setTop (mkF m 13 #[.val (.int p1), .val (.int p2), .val (.int p3), .val (.int p4), .val (.int p5), .val (.int p6), .val (.int cnt), .unset, .unset, .unset, .unset, .unset, .unset, .unset, .unset, .unset, .unset, .unset, .unset, .unset] [(.int (XT.ushr p6 (3 : Int32)))])) t
    refine XS.iconst X0.here hx rfl (hb hby at_13) ?_
    show Steps p.tables e below (s₁.setTop (mkF m 14 #[.val (.int p1), .val (.int p2), .val (.int p3), .val (.int p4), .val (.int p5), .val (.int p6), .val (.int cnt), .unset, .unset, .unset, .unset, .unset, .unset, .unset, .unset, .unset, .unset, .unset, .unset, .unset] [(.int (3 : Int32)), (.int (XT.ushr p6 (3 : Int32)))])) t
    refine XS.iand X0.here hx rfl (hb hby at_14) rfl ?_
    show Steps p.tables e below (s₁.setTop (mkF m 15 #[.val (.int p1), .val (.int p2), .val (.int p3), .val (.int p4), .val (.int p5), .val (.int p6), .val (.int cnt), .unset, .unset, .unset, .unset, .unset, .unset, .unset, .unset, .unset, .unset, .unset, .unset, .unset] [(.int ((XT.ushr p6 (3 : Int32)) &&& (3 : Int32)))])) t
    refine XS.iconst X0.here hx rfl (hb hby at_15) ?_
    show Steps p.tables e below (s₁.setTop (mkF m 16 #[.val (.int p1), .val (.int p2), .val (.int p3), .val (.int p4), .val (.int p5), .val (.int p6), .val (.int cnt), .unset, .unset, .unset, .unset, .unset, .unset, .unset, .unset, .unset, .unset, .unset, .unset, .unset] [(.int (1 : Int32)), (.int ((XT.ushr p6 (3 : Int32)) &&& (3 : Int32)))])) t
    refine XS.iadd X0.here hx rfl (hb hby at_16) rfl ?_
    show Steps p.tables e below (s₁.setTop (mkF m 17 #[.val (.int p1), .val (.int p2), .val (.int p3), .val (.int p4), .val (.int p5), .val (.int p6), .val (.int cnt), .unset, .unset, .unset, .unset, .unset, .unset, .unset, .unset, .unset, .unset, .unset, .unset, .unset] [(.int (((XT.ushr p6 (3 : Int32)) &&& (3 : Int32)) + (1 : Int32)))])) t
    refine XS.istore X0.here hx rfl (hb hby at_17) rfl (l' := #[.val (.int p1), .val (.int p2), .val (.int p3), .val (.int p4), .val (.int p5), .val (.int p6), .val (.int cnt), .val (.int (((XT.ushr p6 (3 : Int32)) &&& (3 : Int32)) + (1 : Int32))), .unset, .unset, .unset, .unset, .unset, .unset, .unset, .unset, .unset, .unset, .unset, .unset]) rfl ?_
    show Steps p.tables e below (s₁.setTop (mkF m 19 #[.val (.int p1), .val (.int p2), .val (.int p3), .val (.int p4), .val (.int p5), .val (.int p6), .val (.int cnt), .val (.int (((XT.ushr p6 (3 : Int32)) &&& (3 : Int32)) + (1 : Int32))), .unset, .unset, .unset, .unset, .unset, .unset, .unset, .unset, .unset, .unset, .unset, .unset] [])) t
    exact k)
  obtain ⟨cp, h_cp⟩ : ∃ z : Int32, z = (((XT.ushr p6 (3 : Int32)) &&& (3 : Int32)) + (1 : Int32)) := ⟨_, rfl⟩
  rw [← h_cp] at pre2
  have hcp : ¬ cp < (1 : Int32) ∧ cp < (5 : Int32) := by rw [h_cp]; exact own_cp _
  have pre3 : ∀ t, Steps p.tables e below (s₁.setTop (mkF m 21 #[.val (.int p1), .val (.int p2), .val (.int p3), .val (.int p4), .val (.int p5), .val (.int p6), .val (.int cnt), .val (.int cp), .unset, .unset, .unset, .unset, .unset, .unset, .unset, .unset, .unset, .unset, .unset, .unset] [(.int p2), (.int p1)])) t → Steps p.tables e below (s₁.setTop (entryFrame m #[(.int p1), (.int p2), (.int p3), (.int p4), (.int p5), (.int p6)] maxLocals)) t := fun t k => pre2 t (by
    show Steps p.tables e below (s₁.setTop (mkF m 19 #[.val (.int p1), .val (.int p2), .val (.int p3), .val (.int p4), .val (.int p5), .val (.int p6), .val (.int cnt), .val (.int cp), .unset, .unset, .unset, .unset, .unset, .unset, .unset, .unset, .unset, .unset, .unset, .unset] [])) t
    refine XS.iloadN X0.here hx rfl (hb hby at_19) rfl ?_
    show Steps p.tables e below (s₁.setTop (mkF m 20 #[.val (.int p1), .val (.int p2), .val (.int p3), .val (.int p4), .val (.int p5), .val (.int p6), .val (.int cnt), .val (.int cp), .unset, .unset, .unset, .unset, .unset, .unset, .unset, .unset, .unset, .unset, .unset, .unset] [(.int p1)])) t
    refine XS.iloadN X0.here hx rfl (hb hby at_20) rfl ?_
    show Steps p.tables e below (s₁.setTop (mkF m 21 #[.val (.int p1), .val (.int p2), .val (.int p3), .val (.int p4), .val (.int p5), .val (.int p6), .val (.int cnt), .val (.int cp), .unset, .unset, .unset, .unset, .unset, .unset, .unset, .unset, .unset, .unset, .unset, .unset] [(.int p2), (.int p1)])) t
    exact k)
  obtain ⟨_, _, ⟨T4, L4, k4, n4⟩, -, X4, ⟨Lc4, hQ4, l4, y4, z4⟩, st4⟩ := Jvm.LawKit.callS X0 hx (y := (⟨"java/lang/Math", "min", "(II)I"⟩ : MethodName)) hown (mvT hZ (hw _ (List.mem_of_getElem? (i := 0) rfl))) (mvT hZ (hw _ (List.mem_of_getElem? (i := 1) rfl))) (mvT hZ (hw _ (List.mem_of_getElem? (i := 2) rfl))) (mvT hZ (hw _ (List.mem_of_getElem? (i := 3) rfl))) (by decide) (backOf (W := 0) (rm1 l Z a0 hw [] p1 p2 h0 n0 Z0 ) hZ (hw _ (List.mem_of_getElem? (i := 3) rfl)) (hw _ (List.mem_of_getElem? (i := 2) rfl)) (by decide) (by decide)) (g := (mkF m 21 #[.val (.int p1), .val (.int p2), .val (.int p3), .val (.int p4), .val (.int p5), .val (.int p6), .val (.int cnt), .val (.int cp), .unset, .unset, .unset, .unset, .unset, .unset, .unset, .unset, .unset, .unset, .unset, .unset] [(.int p2), (.int p1)])) rfl (by rw [hml]; rfl) (argsL := [(.int p1), (.int p2)]) (rest := []) (lenOf pd_oIIcI rfl) rfl (by show 2 * 0 + _ ≤ _; exact Nat.le_of_eq rfl) (hb hby at_21) (fun _ _ => ⟨rfl, eh0, (by decide : 0 + 0 ≤ _), (by decide : 0 + 0 ≤ _)⟩)
  dsimp only [Pt.U, Pt.locs, Pt.cells, Pt.slots] at X4 l4 y4 z4 st4 hQ4
  subst l4 y4 z4
  obtain ⟨rfl, N4q, eh4⟩ := hQ4
  have N4 := Fr.app N0 N4q
  have pre5 : ∀ t, Steps p.tables e below (T4.setTop (mkF m 24 #[.val (.int p1), .val (.int p2), .val (.int p3), .val (.int p4), .val (.int p5), .val (.int p6), .val (.int cnt), .val (.int cp), .unset, .unset, .unset, .unset, .unset, .unset, .unset, .unset, .unset, .unset, .unset, .unset] [(.int (own_min p1 p2))])) t → Steps p.tables e below (s₁.setTop (entryFrame m #[(.int p1), (.int p2), (.int p3), (.int p4), (.int p5), (.int p6)] maxLocals)) t := fun t k => pre3 t (st4 _ k)
  have pre6 : ∀ t, Steps p.tables e below (T4.setTop (mkF m 28 #[.val (.int p1), .val (.int p2), .val (.int p3), .val (.int p4), .val (.int p5), .val (.int p6), .val (.int cnt), .val (.int cp), .val (.int (own_min p1 p2)), .unset, .unset, .unset, .unset, .unset, .unset, .unset, .unset, .unset, .unset, .unset] [(.int p2), (.int p1)])) t → Steps p.tables e below (s₁.setTop (entryFrame m #[(.int p1), (.int p2), (.int p3), (.int p4), (.int p5), (.int p6)] maxLocals)) t := fun t k => pre5 t (by
    show Steps p.tables e below (T4.setTop (mkF m 24 #[.val (.int p1), .val (.int p2), .val (.int p3), .val (.int p4), .val (.int p5), .val (.int p6), .val (.int cnt), .val (.int cp), .unset, .unset, .unset, .unset, .unset, .unset, .unset, .unset, .unset, .unset, .unset, .unset] [(.int (own_min p1 p2))])) t
    refine XS.istore X4.here hx rfl (hb hby at_24) rfl (l' := #[.val (.int p1), .val (.int p2), .val (.int p3), .val (.int p4), .val (.int p5), .val (.int p6), .val (.int cnt), .val (.int cp), .val (.int (own_min p1 p2)), .unset, .unset, .unset, .unset, .unset, .unset, .unset, .unset, .unset, .unset, .unset]) rfl ?_
    show Steps p.tables e below (T4.setTop (mkF m 26 #[.val (.int p1), .val (.int p2), .val (.int p3), .val (.int p4), .val (.int p5), .val (.int p6), .val (.int cnt), .val (.int cp), .val (.int (own_min p1 p2)), .unset, .unset, .unset, .unset, .unset, .unset, .unset, .unset, .unset, .unset, .unset] [])) t
    refine XS.iloadN X4.here hx rfl (hb hby at_26) rfl ?_
    show Steps p.tables e below (T4.setTop (mkF m 27 #[.val (.int p1), .val (.int p2), .val (.int p3), .val (.int p4), .val (.int p5), .val (.int p6), .val (.int cnt), .val (.int cp), .val (.int (own_min p1 p2)), .unset, .unset, .unset, .unset, .unset, .unset, .unset, .unset, .unset, .unset, .unset] [(.int p1)])) t
    refine XS.iloadN X4.here hx rfl (hb hby at_27) rfl ?_
    show Steps p.tables e below (T4.setTop (mkF m 28 #[.val (.int p1), .val (.int p2), .val (.int p3), .val (.int p4), .val (.int p5), .val (.int p6), .val (.int cnt), .val (.int cp), .val (.int (own_min p1 p2)), .unset, .unset, .unset, .unset, .unset, .unset, .unset, .unset, .unset, .unset, .unset] [(.int p2), (.int p1)])) t
    exact k)
  obtain ⟨_, _, ⟨T7, L7, k7, n7⟩, -, X7, ⟨Lc7, hQ7, l7, y7, z7⟩, st7⟩ := Jvm.LawKit.callS X4 hx (y := (⟨"java/lang/Math", "max", "(II)I"⟩ : MethodName)) hown (mvT hZ (hw _ (List.mem_of_getElem? (i := 4) rfl))) (mvT hZ (hw _ (List.mem_of_getElem? (i := 5) rfl))) (mvT hZ (hw _ (List.mem_of_getElem? (i := 2) rfl))) (mvT hZ (hw _ (List.mem_of_getElem? (i := 6) rfl))) (by decide) (backOf (W := 0) (rm2 l Z a0 hw [] p1 p2 h0 n0 Z0 ) hZ (hw _ (List.mem_of_getElem? (i := 6) rfl)) (hw _ (List.mem_of_getElem? (i := 2) rfl)) (by decide) (by decide)) (g := (mkF m 28 #[.val (.int p1), .val (.int p2), .val (.int p3), .val (.int p4), .val (.int p5), .val (.int p6), .val (.int cnt), .val (.int cp), .val (.int (own_min p1 p2)), .unset, .unset, .unset, .unset, .unset, .unset, .unset, .unset, .unset, .unset, .unset] [(.int p2), (.int p1)])) rfl (by rw [hml]; rfl) (argsL := [(.int p1), (.int p2)]) (rest := []) (lenOf pd_oIIcI rfl) rfl (by show 2 * 0 + _ ≤ _; exact Nat.le_of_eq rfl) (hb hby at_28) (fun _ _ => ⟨rfl, eh4, (by decide : 0 + 0 ≤ _), (by decide : 0 + 0 ≤ _)⟩)
  dsimp only [Pt.U, Pt.locs, Pt.cells, Pt.slots] at X7 l7 y7 z7 st7 hQ7
  subst l7 y7 z7
  obtain ⟨rfl, N7q, eh7⟩ := hQ7
  have N7 := Fr.app N4 N7q
  have pre8 : ∀ t, Steps p.tables e below (T7.setTop (mkF m 31 #[.val (.int p1), .val (.int p2), .val (.int p3), .val (.int p4), .val (.int p5), .val (.int p6), .val (.int cnt), .val (.int cp), .val (.int (own_min p1 p2)), .unset, .unset, .unset, .unset, .unset, .unset, .unset, .unset, .unset, .unset, .unset] [(.int (own_max p1 p2))])) t → Steps p.tables e below (s₁.setTop (entryFrame m #[(.int p1), (.int p2), (.int p3), (.int p4), (.int p5), (.int p6)] maxLocals)) t := fun t k => pre6 t (st7 _ k)
  have pre9 : ∀ t, Steps p.tables e below (T7.setTop (mkF m 35 #[.val (.int p1), .val (.int p2), .val (.int p3), .val (.int p4), .val (.int p5), .val (.int p6), .val (.int cnt), .val (.int cp), .val (.int (own_min p1 p2)), .val (.int (own_max p1 p2)), .unset, .unset, .unset, .unset, .unset, .unset, .unset, .unset, .unset, .unset] [(.int p4), (.int p3)])) t → Steps p.tables e below (s₁.setTop (entryFrame m #[(.int p1), (.int p2), (.int p3), (.int p4), (.int p5), (.int p6)] maxLocals)) t := fun t k => pre8 t (by
    show Steps p.tables e below (T7.setTop (mkF m 31 #[.val (.int p1), .val (.int p2), .val (.int p3), .val (.int p4), .val (.int p5), .val (.int p6), .val (.int cnt), .val (.int cp), .val (.int (own_min p1 p2)), .unset, .unset, .unset, .unset, .unset, .unset, .unset, .unset, .unset, .unset, .unset] [(.int (own_max p1 p2))])) t
    refine XS.istore X7.here hx rfl (hb hby at_31) rfl (l' := #[.val (.int p1), .val (.int p2), .val (.int p3), .val (.int p4), .val (.int p5), .val (.int p6), .val (.int cnt), .val (.int cp), .val (.int (own_min p1 p2)), .val (.int (own_max p1 p2)), .unset, .unset, .unset, .unset, .unset, .unset, .unset, .unset, .unset, .unset]) rfl ?_
    show Steps p.tables e below (T7.setTop (mkF m 33 #[.val (.int p1), .val (.int p2), .val (.int p3), .val (.int p4), .val (.int p5), .val (.int p6), .val (.int cnt), .val (.int cp), .val (.int (own_min p1 p2)), .val (.int (own_max p1 p2)), .unset, .unset, .unset, .unset, .unset, .unset, .unset, .unset, .unset, .unset] [])) t
    refine XS.iloadN X7.here hx rfl (hb hby at_33) rfl ?_
    show Steps p.tables e below (T7.setTop (mkF m 34 #[.val (.int p1), .val (.int p2), .val (.int p3), .val (.int p4), .val (.int p5), .val (.int p6), .val (.int cnt), .val (.int cp), .val (.int (own_min p1 p2)), .val (.int (own_max p1 p2)), .unset, .unset, .unset, .unset, .unset, .unset, .unset, .unset, .unset, .unset] [(.int p3)])) t
    refine XS.iloadN X7.here hx rfl (hb hby at_34) rfl ?_
    show Steps p.tables e below (T7.setTop (mkF m 35 #[.val (.int p1), .val (.int p2), .val (.int p3), .val (.int p4), .val (.int p5), .val (.int p6), .val (.int cnt), .val (.int cp), .val (.int (own_min p1 p2)), .val (.int (own_max p1 p2)), .unset, .unset, .unset, .unset, .unset, .unset, .unset, .unset, .unset, .unset] [(.int p4), (.int p3)])) t
    exact k)
  obtain ⟨_, _, ⟨T10, L10, k10, n10⟩, -, X10, ⟨Lc10, hQ10, l10, y10, z10⟩, st10⟩ := Jvm.LawKit.callS X7 hx (y := (⟨"java/lang/Math", "min", "(II)I"⟩ : MethodName)) hown (mvT hZ (hw _ (List.mem_of_getElem? (i := 0) rfl))) (mvT hZ (hw _ (List.mem_of_getElem? (i := 1) rfl))) (mvT hZ (hw _ (List.mem_of_getElem? (i := 2) rfl))) (mvT hZ (hw _ (List.mem_of_getElem? (i := 3) rfl))) (by decide) (backOf (W := 0) (rm1 l Z a0 hw [] p3 p4 h0 n0 Z0 ) hZ (hw _ (List.mem_of_getElem? (i := 3) rfl)) (hw _ (List.mem_of_getElem? (i := 2) rfl)) (by decide) (by decide)) (g := (mkF m 35 #[.val (.int p1), .val (.int p2), .val (.int p3), .val (.int p4), .val (.int p5), .val (.int p6), .val (.int cnt), .val (.int cp), .val (.int (own_min p1 p2)), .val (.int (own_max p1 p2)), .unset, .unset, .unset, .unset, .unset, .unset, .unset, .unset, .unset, .unset] [(.int p4), (.int p3)])) rfl (by rw [hml]; rfl) (argsL := [(.int p3), (.int p4)]) (rest := []) (lenOf pd_oIIcI rfl) rfl (by show 2 * 0 + _ ≤ _; exact Nat.le_of_eq rfl) (hb hby at_35) (fun _ _ => ⟨rfl, eh7, (by decide : 0 + 0 ≤ _), (by decide : 0 + 0 ≤ _)⟩)
  dsimp only [Pt.U, Pt.locs, Pt.cells, Pt.slots] at X10 l10 y10 z10 st10 hQ10
  subst l10 y10 z10
  obtain ⟨rfl, N10q, eh10⟩ := hQ10
  have N10 := Fr.app N7 N10q
  have pre11 : ∀ t, Steps p.tables e below (T10.setTop (mkF m 38 #[.val (.int p1), .val (.int p2), .val (.int p3), .val (.int p4), .val (.int p5), .val (.int p6), .val (.int cnt), .val (.int cp), .val (.int (own_min p1 p2)), .val (.int (own_max p1 p2)), .unset, .unset, .unset, .unset, .unset, .unset, .unset, .unset, .unset, .unset] [(.int (own_min p3 p4))])) t → Steps p.tables e below (s₁.setTop (entryFrame m #[(.int p1), (.int p2), (.int p3), (.int p4), (.int p5), (.int p6)] maxLocals)) t := fun t k => pre9 t (st10 _ k)
  have pre12 : ∀ t, Steps p.tables e below (T10.setTop (mkF m 42 #[.val (.int p1), .val (.int p2), .val (.int p3), .val (.int p4), .val (.int p5), .val (.int p6), .val (.int cnt), .val (.int cp), .val (.int (own_min p1 p2)), .val (.int (own_max p1 p2)), .val (.int (own_min p3 p4)), .unset, .unset, .unset, .unset, .unset, .unset, .unset, .unset, .unset] [(.int p4), (.int p3)])) t → Steps p.tables e below (s₁.setTop (entryFrame m #[(.int p1), (.int p2), (.int p3), (.int p4), (.int p5), (.int p6)] maxLocals)) t := fun t k => pre11 t (by
    show Steps p.tables e below (T10.setTop (mkF m 38 #[.val (.int p1), .val (.int p2), .val (.int p3), .val (.int p4), .val (.int p5), .val (.int p6), .val (.int cnt), .val (.int cp), .val (.int (own_min p1 p2)), .val (.int (own_max p1 p2)), .unset, .unset, .unset, .unset, .unset, .unset, .unset, .unset, .unset, .unset] [(.int (own_min p3 p4))])) t
    refine XS.istore X10.here hx rfl (hb hby at_38) rfl (l' := #[.val (.int p1), .val (.int p2), .val (.int p3), .val (.int p4), .val (.int p5), .val (.int p6), .val (.int cnt), .val (.int cp), .val (.int (own_min p1 p2)), .val (.int (own_max p1 p2)), .val (.int (own_min p3 p4)), .unset, .unset, .unset, .unset, .unset, .unset, .unset, .unset, .unset]) rfl ?_
    show Steps p.tables e below (T10.setTop (mkF m 40 #[.val (.int p1), .val (.int p2), .val (.int p3), .val (.int p4), .val (.int p5), .val (.int p6), .val (.int cnt), .val (.int cp), .val (.int (own_min p1 p2)), .val (.int (own_max p1 p2)), .val (.int (own_min p3 p4)), .unset, .unset, .unset, .unset, .unset, .unset, .unset, .unset, .unset] [])) t
    refine XS.iloadN X10.here hx rfl (hb hby at_40) rfl ?_
    show Steps p.tables e below (T10.setTop (mkF m 41 #[.val (.int p1), .val (.int p2), .val (.int p3), .val (.int p4), .val (.int p5), .val (.int p6), .val (.int cnt), .val (.int cp), .val (.int (own_min p1 p2)), .val (.int (own_max p1 p2)), .val (.int (own_min p3 p4)), .unset, .unset, .unset, .unset, .unset, .unset, .unset, .unset, .unset] [(.int p3)])) t
    refine XS.iloadN X10.here hx rfl (hb hby at_41) rfl ?_
    show Steps p.tables e below (T10.setTop (mkF m 42 #[.val (.int p1), .val (.int p2), .val (.int p3), .val (.int p4), .val (.int p5), .val (.int p6), .val (.int cnt), .val (.int cp), .val (.int (own_min p1 p2)), .val (.int (own_max p1 p2)), .val (.int (own_min p3 p4)), .unset, .unset, .unset, .unset, .unset, .unset, .unset, .unset, .unset] [(.int p4), (.int p3)])) t
    exact k)
  obtain ⟨_, _, ⟨T13, L13, k13, n13⟩, -, X13, ⟨Lc13, hQ13, l13, y13, z13⟩, st13⟩ := Jvm.LawKit.callS X10 hx (y := (⟨"java/lang/Math", "max", "(II)I"⟩ : MethodName)) hown (mvT hZ (hw _ (List.mem_of_getElem? (i := 4) rfl))) (mvT hZ (hw _ (List.mem_of_getElem? (i := 5) rfl))) (mvT hZ (hw _ (List.mem_of_getElem? (i := 2) rfl))) (mvT hZ (hw _ (List.mem_of_getElem? (i := 6) rfl))) (by decide) (backOf (W := 0) (rm2 l Z a0 hw [] p3 p4 h0 n0 Z0 ) hZ (hw _ (List.mem_of_getElem? (i := 6) rfl)) (hw _ (List.mem_of_getElem? (i := 2) rfl)) (by decide) (by decide)) (g := (mkF m 42 #[.val (.int p1), .val (.int p2), .val (.int p3), .val (.int p4), .val (.int p5), .val (.int p6), .val (.int cnt), .val (.int cp), .val (.int (own_min p1 p2)), .val (.int (own_max p1 p2)), .val (.int (own_min p3 p4)), .unset, .unset, .unset, .unset, .unset, .unset, .unset, .unset, .unset] [(.int p4), (.int p3)])) rfl (by rw [hml]; rfl) (argsL := [(.int p3), (.int p4)]) (rest := []) (lenOf pd_oIIcI rfl) rfl (by show 2 * 0 + _ ≤ _; exact Nat.le_of_eq rfl) (hb hby at_42) (fun _ _ => ⟨rfl, eh10, (by decide : 0 + 0 ≤ _), (by decide : 0 + 0 ≤ _)⟩)
  dsimp only [Pt.U, Pt.locs, Pt.cells, Pt.slots] at X13 l13 y13 z13 st13 hQ13
  subst l13 y13 z13
  obtain ⟨rfl, N13q, eh13⟩ := hQ13
  have N13 := Fr.app N10 N13q
  have pre14 : ∀ t, Steps p.tables e below (T13.setTop (mkF m 45 #[.val (.int p1), .val (.int p2), .val (.int p3), .val (.int p4), .val (.int p5), .val (.int p6), .val (.int cnt), .val (.int cp), .val (.int (own_min p1 p2)), .val (.int (own_max p1 p2)), .val (.int (own_min p3 p4)), .unset, .unset, .unset, .unset, .unset, .unset, .unset, .unset, .unset] [(.int (own_max p3 p4))])) t → Steps p.tables e below (s₁.setTop (entryFrame m #[(.int p1), (.int p2), (.int p3), (.int p4), (.int p5), (.int p6)] maxLocals)) t := fun t k => pre12 t (st13 _ k)
  have pre15 : ∀ t, Steps p.tables e below (T13.setTop (mkF m 51 #[.val (.int p1), .val (.int p2), .val (.int p3), .val (.int p4), .val (.int p5), .val (.int p6), .val (.int cnt), .val (.int cp), .val (.int (own_min p1 p2)), .val (.int (own_max p1 p2)), .val (.int (own_min p3 p4)), .val (.int (own_max p3 p4)), .unset, .unset, .unset, .unset, .unset, .unset, .unset, .unset] [(.int (own_min p3 p4)), (.int (own_min p1 p2))])) t → Steps p.tables e below (s₁.setTop (entryFrame m #[(.int p1), (.int p2), (.int p3), (.int p4), (.int p5), (.int p6)] maxLocals)) t := fun t k => pre14 t (by
    show Steps p.tables e below (T13.setTop (mkF m 45 #[.val (.int p1), .val (.int p2), .val (.int p3), .val (.int p4), .val (.int p5), .val (.int p6), .val (.int cnt), .val (.int cp), .val (.int (own_min p1 p2)), .val (.int (own_max p1 p2)), .val (.int (own_min p3 p4)), .unset, .unset, .unset, .unset, .unset, .unset, .unset, .unset, .unset] [(.int (own_max p3 p4))])) t
    refine XS.istore X13.here hx rfl (hb hby at_45) rfl (l' := #[.val (.int p1), .val (.int p2), .val (.int p3), .val (.int p4), .val (.int p5), .val (.int p6), .val (.int cnt), .val (.int cp), .val (.int (own_min p1 p2)), .val (.int (own_max p1 p2)), .val (.int (own_min p3 p4)), .val (.int (own_max p3 p4)), .unset, .unset, .unset, .unset, .unset, .unset, .unset, .unset]) rfl ?_
    show Steps p.tables e below (T13.setTop (mkF m 47 #[.val (.int p1), .val (.int p2), .val (.int p3), .val (.int p4), .val (.int p5), .val (.int p6), .val (.int cnt), .val (.int cp), .val (.int (own_min p1 p2)), .val (.int (own_max p1 p2)), .val (.int (own_min p3 p4)), .val (.int (own_max p3 p4)), .unset, .unset, .unset, .unset, .unset, .unset, .unset, .unset] [])) t
    refine XS.iload X13.here hx rfl (hb hby at_47) rfl ?_
    show Steps p.tables e below (T13.setTop (mkF m 49 #[.val (.int p1), .val (.int p2), .val (.int p3), .val (.int p4), .val (.int p5), .val (.int p6), .val (.int cnt), .val (.int cp), .val (.int (own_min p1 p2)), .val (.int (own_max p1 p2)), .val (.int (own_min p3 p4)), .val (.int (own_max p3 p4)), .unset, .unset, .unset, .unset, .unset, .unset, .unset, .unset] [(.int (own_min p1 p2))])) t
    refine XS.iload X13.here hx rfl (hb hby at_49) rfl ?_
    show Steps p.tables e below (T13.setTop (mkF m 51 #[.val (.int p1), .val (.int p2), .val (.int p3), .val (.int p4), .val (.int p5), .val (.int p6), .val (.int cnt), .val (.int cp), .val (.int (own_min p1 p2)), .val (.int (own_max p1 p2)), .val (.int (own_min p3 p4)), .val (.int (own_max p3 p4)), .unset, .unset, .unset, .unset, .unset, .unset, .unset, .unset] [(.int (own_min p3 p4)), (.int (own_min p1 p2))])) t
    exact k)
  obtain ⟨_, _, ⟨T16, L16, k16, n16⟩, -, X16, ⟨Lc16, hQ16, l16, y16, z16⟩, st16⟩ := Jvm.LawKit.callS X13 hx (y := (⟨"java/lang/Math", "min", "(II)I"⟩ : MethodName)) hown (mvT hZ (hw _ (List.mem_of_getElem? (i := 0) rfl))) (mvT hZ (hw _ (List.mem_of_getElem? (i := 1) rfl))) (mvT hZ (hw _ (List.mem_of_getElem? (i := 2) rfl))) (mvT hZ (hw _ (List.mem_of_getElem? (i := 3) rfl))) (by decide) (backOf (W := 0) (rm1 l Z a0 hw [] (own_min p1 p2) (own_min p3 p4) h0 n0 Z0 ) hZ (hw _ (List.mem_of_getElem? (i := 3) rfl)) (hw _ (List.mem_of_getElem? (i := 2) rfl)) (by decide) (by decide)) (g := (mkF m 51 #[.val (.int p1), .val (.int p2), .val (.int p3), .val (.int p4), .val (.int p5), .val (.int p6), .val (.int cnt), .val (.int cp), .val (.int (own_min p1 p2)), .val (.int (own_max p1 p2)), .val (.int (own_min p3 p4)), .val (.int (own_max p3 p4)), .unset, .unset, .unset, .unset, .unset, .unset, .unset, .unset] [(.int (own_min p3 p4)), (.int (own_min p1 p2))])) rfl (by rw [hml]; rfl) (argsL := [(.int (own_min p1 p2)), (.int (own_min p3 p4))]) (rest := []) (lenOf pd_oIIcI rfl) rfl (by show 2 * 0 + _ ≤ _; exact Nat.le_of_eq rfl) (hb hby at_51) (fun _ _ => ⟨rfl, eh13, (by decide : 0 + 0 ≤ _), (by decide : 0 + 0 ≤ _)⟩)
  dsimp only [Pt.U, Pt.locs, Pt.cells, Pt.slots] at X16 l16 y16 z16 st16 hQ16
  subst l16 y16 z16
  obtain ⟨rfl, N16q, eh16⟩ := hQ16
  have N16 := Fr.app N13 N16q
  have pre17 : ∀ t, Steps p.tables e below (T16.setTop (mkF m 54 #[.val (.int p1), .val (.int p2), .val (.int p3), .val (.int p4), .val (.int p5), .val (.int p6), .val (.int cnt), .val (.int cp), .val (.int (own_min p1 p2)), .val (.int (own_max p1 p2)), .val (.int (own_min p3 p4)), .val (.int (own_max p3 p4)), .unset, .unset, .unset, .unset, .unset, .unset, .unset, .unset] [(.int (own_min (own_min p1 p2) (own_min p3 p4)))])) t → Steps p.tables e below (s₁.setTop (entryFrame m #[(.int p1), (.int p2), (.int p3), (.int p4), (.int p5), (.int p6)] maxLocals)) t := fun t k => pre15 t (st16 _ k)
  have pre18 : ∀ t, Steps p.tables e below (T16.setTop (mkF m 60 #[.val (.int p1), .val (.int p2), .val (.int p3), .val (.int p4), .val (.int p5), .val (.int p6), .val (.int cnt), .val (.int cp), .val (.int (own_min p1 p2)), .val (.int (own_max p1 p2)), .val (.int (own_min p3 p4)), .val (.int (own_max p3 p4)), .val (.int (own_min (own_min p1 p2) (own_min p3 p4))), .unset, .unset, .unset, .unset, .unset, .unset, .unset] [(.int (own_min p3 p4)), (.int (own_min p1 p2))])) t → Steps p.tables e below (s₁.setTop (entryFrame m #[(.int p1), (.int p2), (.int p3), (.int p4), (.int p5), (.int p6)] maxLocals)) t := fun t k => pre17 t (by
    show Steps p.tables e below (T16.setTop (mkF m 54 #[.val (.int p1), .val (.int p2), .val (.int p3), .val (.int p4), .val (.int p5), .val (.int p6), .val (.int cnt), .val (.int cp), .val (.int (own_min p1 p2)), .val (.int (own_max p1 p2)), .val (.int (own_min p3 p4)), .val (.int (own_max p3 p4)), .unset, .unset, .unset, .unset, .unset, .unset, .unset, .unset] [(.int (own_min (own_min p1 p2) (own_min p3 p4)))])) t
    refine XS.istore X16.here hx rfl (hb hby at_54) rfl (l' := #[.val (.int p1), .val (.int p2), .val (.int p3), .val (.int p4), .val (.int p5), .val (.int p6), .val (.int cnt), .val (.int cp), .val (.int (own_min p1 p2)), .val (.int (own_max p1 p2)), .val (.int (own_min p3 p4)), .val (.int (own_max p3 p4)), .val (.int (own_min (own_min p1 p2) (own_min p3 p4))), .unset, .unset, .unset, .unset, .unset, .unset, .unset]) rfl ?_
    show Steps p.tables e below (T16.setTop (mkF m 56 #[.val (.int p1), .val (.int p2), .val (.int p3), .val (.int p4), .val (.int p5), .val (.int p6), .val (.int cnt), .val (.int cp), .val (.int (own_min p1 p2)), .val (.int (own_max p1 p2)), .val (.int (own_min p3 p4)), .val (.int (own_max p3 p4)), .val (.int (own_min (own_min p1 p2) (own_min p3 p4))), .unset, .unset, .unset, .unset, .unset, .unset, .unset] [])) t
    refine XS.iload X16.here hx rfl (hb hby at_56) rfl ?_
    show Steps p.tables e below (T16.setTop (mkF m 58 #[.val (.int p1), .val (.int p2), .val (.int p3), .val (.int p4), .val (.int p5), .val (.int p6), .val (.int cnt), .val (.int cp), .val (.int (own_min p1 p2)), .val (.int (own_max p1 p2)), .val (.int (own_min p3 p4)), .val (.int (own_max p3 p4)), .val (.int (own_min (own_min p1 p2) (own_min p3 p4))), .unset, .unset, .unset, .unset, .unset, .unset, .unset] [(.int (own_min p1 p2))])) t
    refine XS.iload X16.here hx rfl (hb hby at_58) rfl ?_
    show Steps p.tables e below (T16.setTop (mkF m 60 #[.val (.int p1), .val (.int p2), .val (.int p3), .val (.int p4), .val (.int p5), .val (.int p6), .val (.int cnt), .val (.int cp), .val (.int (own_min p1 p2)), .val (.int (own_max p1 p2)), .val (.int (own_min p3 p4)), .val (.int (own_max p3 p4)), .val (.int (own_min (own_min p1 p2) (own_min p3 p4))), .unset, .unset, .unset, .unset, .unset, .unset, .unset] [(.int (own_min p3 p4)), (.int (own_min p1 p2))])) t
    exact k)
  obtain ⟨_, _, ⟨T19, L19, k19, n19⟩, -, X19, ⟨Lc19, hQ19, l19, y19, z19⟩, st19⟩ := Jvm.LawKit.callS X16 hx (y := (⟨"java/lang/Math", "max", "(II)I"⟩ : MethodName)) hown (mvT hZ (hw _ (List.mem_of_getElem? (i := 4) rfl))) (mvT hZ (hw _ (List.mem_of_getElem? (i := 5) rfl))) (mvT hZ (hw _ (List.mem_of_getElem? (i := 2) rfl))) (mvT hZ (hw _ (List.mem_of_getElem? (i := 6) rfl))) (by decide) (backOf (W := 0) (rm2 l Z a0 hw [] (own_min p1 p2) (own_min p3 p4) h0 n0 Z0 ) hZ (hw _ (List.mem_of_getElem? (i := 6) rfl)) (hw _ (List.mem_of_getElem? (i := 2) rfl)) (by decide) (by decide)) (g := (mkF m 60 #[.val (.int p1), .val (.int p2), .val (.int p3), .val (.int p4), .val (.int p5), .val (.int p6), .val (.int cnt), .val (.int cp), .val (.int (own_min p1 p2)), .val (.int (own_max p1 p2)), .val (.int (own_min p3 p4)), .val (.int (own_max p3 p4)), .val (.int (own_min (own_min p1 p2) (own_min p3 p4))), .unset, .unset, .unset, .unset, .unset, .unset, .unset] [(.int (own_min p3 p4)), (.int (own_min p1 p2))])) rfl (by rw [hml]; rfl) (argsL := [(.int (own_min p1 p2)), (.int (own_min p3 p4))]) (rest := []) (lenOf pd_oIIcI rfl) rfl (by show 2 * 0 + _ ≤ _; exact Nat.le_of_eq rfl) (hb hby at_60) (fun _ _ => ⟨rfl, eh16, (by decide : 0 + 0 ≤ _), (by decide : 0 + 0 ≤ _)⟩)
  dsimp only [Pt.U, Pt.locs, Pt.cells, Pt.slots] at X19 l19 y19 z19 st19 hQ19
  subst l19 y19 z19
  obtain ⟨rfl, N19q, eh19⟩ := hQ19
  have N19 := Fr.app N16 N19q
  have pre20 : ∀ t, Steps p.tables e below (T19.setTop (mkF m 63 #[.val (.int p1), .val (.int p2), .val (.int p3), .val (.int p4), .val (.int p5), .val (.int p6), .val (.int cnt), .val (.int cp), .val (.int (own_min p1 p2)), .val (.int (own_max p1 p2)), .val (.int (own_min p3 p4)), .val (.int (own_max p3 p4)), .val (.int (own_min (own_min p1 p2) (own_min p3 p4))), .unset, .unset, .unset, .unset, .unset, .unset, .unset] [(.int (own_max (own_min p1 p2) (own_min p3 p4)))])) t → Steps p.tables e below (s₁.setTop (entryFrame m #[(.int p1), (.int p2), (.int p3), (.int p4), (.int p5), (.int p6)] maxLocals)) t := fun t k => pre18 t (st19 _ k)
  have pre21 : ∀ t, Steps p.tables e below (T19.setTop (mkF m 69 #[.val (.int p1), .val (.int p2), .val (.int p3), .val (.int p4), .val (.int p5), .val (.int p6), .val (.int cnt), .val (.int cp), .val (.int (own_min p1 p2)), .val (.int (own_max p1 p2)), .val (.int (own_min p3 p4)), .val (.int (own_max p3 p4)), .val (.int (own_min (own_min p1 p2) (own_min p3 p4))), .val (.int (own_max (own_min p1 p2) (own_min p3 p4))), .unset, .unset, .unset, .unset, .unset, .unset] [(.int (own_max p3 p4)), (.int (own_max p1 p2))])) t → Steps p.tables e below (s₁.setTop (entryFrame m #[(.int p1), (.int p2), (.int p3), (.int p4), (.int p5), (.int p6)] maxLocals)) t := fun t k => pre20 t (by
    show Steps p.tables e below (T19.setTop (mkF m 63 #[.val (.int p1), .val (.int p2), .val (.int p3), .val (.int p4), .val (.int p5), .val (.int p6), .val (.int cnt), .val (.int cp), .val (.int (own_min p1 p2)), .val (.int (own_max p1 p2)), .val (.int (own_min p3 p4)), .val (.int (own_max p3 p4)), .val (.int (own_min (own_min p1 p2) (own_min p3 p4))), .unset, .unset, .unset, .unset, .unset, .unset, .unset] [(.int (own_max (own_min p1 p2) (own_min p3 p4)))])) t
    refine XS.istore X19.here hx rfl (hb hby at_63) rfl (l' := #[.val (.int p1), .val (.int p2), .val (.int p3), .val (.int p4), .val (.int p5), .val (.int p6), .val (.int cnt), .val (.int cp), .val (.int (own_min p1 p2)), .val (.int (own_max p1 p2)), .val (.int (own_min p3 p4)), .val (.int (own_max p3 p4)), .val (.int (own_min (own_min p1 p2) (own_min p3 p4))), .val (.int (own_max (own_min p1 p2) (own_min p3 p4))), .unset, .unset, .unset, .unset, .unset, .unset]) rfl ?_
    show Steps p.tables e below (T19.setTop (mkF m 65 #[.val (.int p1), .val (.int p2), .val (.int p3), .val (.int p4), .val (.int p5), .val (.int p6), .val (.int cnt), .val (.int cp), .val (.int (own_min p1 p2)), .val (.int (own_max p1 p2)), .val (.int (own_min p3 p4)), .val (.int (own_max p3 p4)), .val (.int (own_min (own_min p1 p2) (own_min p3 p4))), .val (.int (own_max (own_min p1 p2) (own_min p3 p4))), .unset, .unset, .unset, .unset, .unset, .unset] [])) t
    refine XS.iload X19.here hx rfl (hb hby at_65) rfl ?_
    show Steps p.tables e below (T19.setTop (mkF m 67 #[.val (.int p1), .val (.int p2), .val (.int p3), .val (.int p4), .val (.int p5), .val (.int p6), .val (.int cnt), .val (.int cp), .val (.int (own_min p1 p2)), .val (.int (own_max p1 p2)), .val (.int (own_min p3 p4)), .val (.int (own_max p3 p4)), .val (.int (own_min (own_min p1 p2) (own_min p3 p4))), .val (.int (own_max (own_min p1 p2) (own_min p3 p4))), .unset, .unset, .unset, .unset, .unset, .unset] [(.int (own_max p1 p2))])) t
    refine XS.iload X19.here hx rfl (hb hby at_67) rfl ?_
    show Steps p.tables e below (T19.setTop (mkF m 69 #[.val (.int p1), .val (.int p2), .val (.int p3), .val (.int p4), .val (.int p5), .val (.int p6), .val (.int cnt), .val (.int cp), .val (.int (own_min p1 p2)), .val (.int (own_max p1 p2)), .val (.int (own_min p3 p4)), .val (.int (own_max p3 p4)), .val (.int (own_min (own_min p1 p2) (own_min p3 p4))), .val (.int (own_max (own_min p1 p2) (own_min p3 p4))), .unset, .unset, .unset, .unset, .unset, .unset] [(.int (own_max p3 p4)), (.int (own_max p1 p2))])) t
    exact k)
  obtain ⟨_, _, ⟨T22, L22, k22, n22⟩, -, X22, ⟨Lc22, hQ22, l22, y22, z22⟩, st22⟩ := Jvm.LawKit.callS X19 hx (y := (⟨"java/lang/Math", "min", "(II)I"⟩ : MethodName)) hown (mvT hZ (hw _ (List.mem_of_getElem? (i := 0) rfl))) (mvT hZ (hw _ (List.mem_of_getElem? (i := 1) rfl))) (mvT hZ (hw _ (List.mem_of_getElem? (i := 2) rfl))) (mvT hZ (hw _ (List.mem_of_getElem? (i := 3) rfl))) (by decide) (backOf (W := 0) (rm1 l Z a0 hw [] (own_max p1 p2) (own_max p3 p4) h0 n0 Z0 ) hZ (hw _ (List.mem_of_getElem? (i := 3) rfl)) (hw _ (List.mem_of_getElem? (i := 2) rfl)) (by decide) (by decide)) (g := (mkF m 69 #[.val (.int p1), .val (.int p2), .val (.int p3), .val (.int p4), .val (.int p5), .val (.int p6), .val (.int cnt), .val (.int cp), .val (.int (own_min p1 p2)), .val (.int (own_max p1 p2)), .val (.int (own_min p3 p4)), .val (.int (own_max p3 p4)), .val (.int (own_min (own_min p1 p2) (own_min p3 p4))), .val (.int (own_max (own_min p1 p2) (own_min p3 p4))), .unset, .unset, .unset, .unset, .unset, .unset] [(.int (own_max p3 p4)), (.int (own_max p1 p2))])) rfl (by rw [hml]; rfl) (argsL := [(.int (own_max p1 p2)), (.int (own_max p3 p4))]) (rest := []) (lenOf pd_oIIcI rfl) rfl (by show 2 * 0 + _ ≤ _; exact Nat.le_of_eq rfl) (hb hby at_69) (fun _ _ => ⟨rfl, eh19, (by decide : 0 + 0 ≤ _), (by decide : 0 + 0 ≤ _)⟩)
  dsimp only [Pt.U, Pt.locs, Pt.cells, Pt.slots] at X22 l22 y22 z22 st22 hQ22
  subst l22 y22 z22
  obtain ⟨rfl, N22q, eh22⟩ := hQ22
  have N22 := Fr.app N19 N22q
  have pre23 : ∀ t, Steps p.tables e below (T22.setTop (mkF m 72 #[.val (.int p1), .val (.int p2), .val (.int p3), .val (.int p4), .val (.int p5), .val (.int p6), .val (.int cnt), .val (.int cp), .val (.int (own_min p1 p2)), .val (.int (own_max p1 p2)), .val (.int (own_min p3 p4)), .val (.int (own_max p3 p4)), .val (.int (own_min (own_min p1 p2) (own_min p3 p4))), .val (.int (own_max (own_min p1 p2) (own_min p3 p4))), .unset, .unset, .unset, .unset, .unset, .unset] [(.int (own_min (own_max p1 p2) (own_max p3 p4)))])) t → Steps p.tables e below (s₁.setTop (entryFrame m #[(.int p1), (.int p2), (.int p3), (.int p4), (.int p5), (.int p6)] maxLocals)) t := fun t k => pre21 t (st22 _ k)
  have pre24 : ∀ t, Steps p.tables e below (T22.setTop (mkF m 78 #[.val (.int p1), .val (.int p2), .val (.int p3), .val (.int p4), .val (.int p5), .val (.int p6), .val (.int cnt), .val (.int cp), .val (.int (own_min p1 p2)), .val (.int (own_max p1 p2)), .val (.int (own_min p3 p4)), .val (.int (own_max p3 p4)), .val (.int (own_min (own_min p1 p2) (own_min p3 p4))), .val (.int (own_max (own_min p1 p2) (own_min p3 p4))), .val (.int (own_min (own_max p1 p2) (own_max p3 p4))), .unset, .unset, .unset, .unset, .unset] [(.int (own_max p3 p4)), (.int (own_max p1 p2))])) t → Steps p.tables e below (s₁.setTop (entryFrame m #[(.int p1), (.int p2), (.int p3), (.int p4), (.int p5), (.int p6)] maxLocals)) t := fun t k => pre23 t (by
    show Steps p.tables e below (T22.setTop (mkF m 72 #[.val (.int p1), .val (.int p2), .val (.int p3), .val (.int p4), .val (.int p5), .val (.int p6), .val (.int cnt), .val (.int cp), .val (.int (own_min p1 p2)), .val (.int (own_max p1 p2)), .val (.int (own_min p3 p4)), .val (.int (own_max p3 p4)), .val (.int (own_min (own_min p1 p2) (own_min p3 p4))), .val (.int (own_max (own_min p1 p2) (own_min p3 p4))), .unset, .unset, .unset, .unset, .unset, .unset] [(.int (own_min (own_max p1 p2) (own_max p3 p4)))])) t
    refine XS.istore X22.here hx rfl (hb hby at_72) rfl (l' := #[.val (.int p1), .val (.int p2), .val (.int p3), .val (.int p4), .val (.int p5), .val (.int p6), .val (.int cnt), .val (.int cp), .val (.int (own_min p1 p2)), .val (.int (own_max p1 p2)), .val (.int (own_min p3 p4)), .val (.int (own_max p3 p4)), .val (.int (own_min (own_min p1 p2) (own_min p3 p4))), .val (.int (own_max (own_min p1 p2) (own_min p3 p4))), .val (.int (own_min (own_max p1 p2) (own_max p3 p4))), .unset, .unset, .unset, .unset, .unset]) rfl ?_
    show Steps p.tables e below (T22.setTop (mkF m 74 #[.val (.int p1), .val (.int p2), .val (.int p3), .val (.int p4), .val (.int p5), .val (.int p6), .val (.int cnt), .val (.int cp), .val (.int (own_min p1 p2)), .val (.int (own_max p1 p2)), .val (.int (own_min p3 p4)), .val (.int (own_max p3 p4)), .val (.int (own_min (own_min p1 p2) (own_min p3 p4))), .val (.int (own_max (own_min p1 p2) (own_min p3 p4))), .val (.int (own_min (own_max p1 p2) (own_max p3 p4))), .unset, .unset, .unset, .unset, .unset] [])) t
    refine XS.iload X22.here hx rfl (hb hby at_74) rfl ?_
    show Steps p.tables e below (T22.setTop (mkF m 76 #[.val (.int p1), .val (.int p2), .val (.int p3), .val (.int p4), .val (.int p5), .val (.int p6), .val (.int cnt), .val (.int cp), .val (.int (own_min p1 p2)), .val (.int (own_max p1 p2)), .val (.int (own_min p3 p4)), .val (.int (own_max p3 p4)), .val (.int (own_min (own_min p1 p2) (own_min p3 p4))), .val (.int (own_max (own_min p1 p2) (own_min p3 p4))), .val (.int (own_min (own_max p1 p2) (own_max p3 p4))), .unset, .unset, .unset, .unset, .unset] [(.int (own_max p1 p2))])) t
    refine XS.iload X22.here hx rfl (hb hby at_76) rfl ?_
    show Steps p.tables e below (T22.setTop (mkF m 78 #[.val (.int p1), .val (.int p2), .val (.int p3), .val (.int p4), .val (.int p5), .val (.int p6), .val (.int cnt), .val (.int cp), .val (.int (own_min p1 p2)), .val (.int (own_max p1 p2)), .val (.int (own_min p3 p4)), .val (.int (own_max p3 p4)), .val (.int (own_min (own_min p1 p2) (own_min p3 p4))), .val (.int (own_max (own_min p1 p2) (own_min p3 p4))), .val (.int (own_min (own_max p1 p2) (own_max p3 p4))), .unset, .unset, .unset, .unset, .unset] [(.int (own_max p3 p4)), (.int (own_max p1 p2))])) t
    exact k)
  obtain ⟨_, _, ⟨T25, L25, k25, n25⟩, -, X25, ⟨Lc25, hQ25, l25, y25, z25⟩, st25⟩ := Jvm.LawKit.callS X22 hx (y := (⟨"java/lang/Math", "max", "(II)I"⟩ : MethodName)) hown (mvT hZ (hw _ (List.mem_of_getElem? (i := 4) rfl))) (mvT hZ (hw _ (List.mem_of_getElem? (i := 5) rfl))) (mvT hZ (hw _ (List.mem_of_getElem? (i := 2) rfl))) (mvT hZ (hw _ (List.mem_of_getElem? (i := 6) rfl))) (by decide) (backOf (W := 0) (rm2 l Z a0 hw [] (own_max p1 p2) (own_max p3 p4) h0 n0 Z0 ) hZ (hw _ (List.mem_of_getElem? (i := 6) rfl)) (hw _ (List.mem_of_getElem? (i := 2) rfl)) (by decide) (by decide)) (g := (mkF m 78 #[.val (.int p1), .val (.int p2), .val (.int p3), .val (.int p4), .val (.int p5), .val (.int p6), .val (.int cnt), .val (.int cp), .val (.int (own_min p1 p2)), .val (.int (own_max p1 p2)), .val (.int (own_min p3 p4)), .val (.int (own_max p3 p4)), .val (.int (own_min (own_min p1 p2) (own_min p3 p4))), .val (.int (own_max (own_min p1 p2) (own_min p3 p4))), .val (.int (own_min (own_max p1 p2) (own_max p3 p4))), .unset, .unset, .unset, .unset, .unset] [(.int (own_max p3 p4)), (.int (own_max p1 p2))])) rfl (by rw [hml]; rfl) (argsL := [(.int (own_max p1 p2)), (.int (own_max p3 p4))]) (rest := []) (lenOf pd_oIIcI rfl) rfl (by show 2 * 0 + _ ≤ _; exact Nat.le_of_eq rfl) (hb hby at_78) (fun _ _ => ⟨rfl, eh22, (by decide : 0 + 0 ≤ _), (by decide : 0 + 0 ≤ _)⟩)
  dsimp only [Pt.U, Pt.locs, Pt.cells, Pt.slots] at X25 l25 y25 z25 st25 hQ25
  subst l25 y25 z25
  obtain ⟨rfl, N25q, eh25⟩ := hQ25
  have N25 := Fr.app N22 N25q
  have pre26 : ∀ t, Steps p.tables e below (T25.setTop (mkF m 81 #[.val (.int p1), .val (.int p2), .val (.int p3), .val (.int p4), .val (.int p5), .val (.int p6), .val (.int cnt), .val (.int cp), .val (.int (own_min p1 p2)), .val (.int (own_max p1 p2)), .val (.int (own_min p3 p4)), .val (.int (own_max p3 p4)), .val (.int (own_min (own_min p1 p2) (own_min p3 p4))), .val (.int (own_max (own_min p1 p2) (own_min p3 p4))), .val (.int (own_min (own_max p1 p2) (own_max p3 p4))), .unset, .unset, .unset, .unset, .unset] [(.int (own_max (own_max p1 p2) (own_max p3 p4)))])) t → Steps p.tables e below (s₁.setTop (entryFrame m #[(.int p1), (.int p2), (.int p3), (.int p4), (.int p5), (.int p6)] maxLocals)) t := fun t k => pre24 t (st25 _ k)
  have pre27 : ∀ t, Steps p.tables e below (T25.setTop (mkF m 87 #[.val (.int p1), .val (.int p2), .val (.int p3), .val (.int p4), .val (.int p5), .val (.int p6), .val (.int cnt), .val (.int cp), .val (.int (own_min p1 p2)), .val (.int (own_max p1 p2)), .val (.int (own_min p3 p4)), .val (.int (own_max p3 p4)), .val (.int (own_min (own_min p1 p2) (own_min p3 p4))), .val (.int (own_max (own_min p1 p2) (own_min p3 p4))), .val (.int (own_min (own_max p1 p2) (own_max p3 p4))), .val (.int (own_max (own_max p1 p2) (own_max p3 p4))), .unset, .unset, .unset, .unset] [(.int (own_max (own_min p1 p2) (own_min p3 p4))), (.int (own_min (own_max p1 p2) (own_max p3 p4)))])) t → Steps p.tables e below (s₁.setTop (entryFrame m #[(.int p1), (.int p2), (.int p3), (.int p4), (.int p5), (.int p6)] maxLocals)) t := fun t k => pre26 t (by
    show Steps p.tables e below (T25.setTop (mkF m 81 #[.val (.int p1), .val (.int p2), .val (.int p3), .val (.int p4), .val (.int p5), .val (.int p6), .val (.int cnt), .val (.int cp), .val (.int (own_min p1 p2)), .val (.int (own_max p1 p2)), .val (.int (own_min p3 p4)), .val (.int (own_max p3 p4)), .val (.int (own_min (own_min p1 p2) (own_min p3 p4))), .val (.int (own_max (own_min p1 p2) (own_min p3 p4))), .val (.int (own_min (own_max p1 p2) (own_max p3 p4))), .unset, .unset, .unset, .unset, .unset] [(.int (own_max (own_max p1 p2) (own_max p3 p4)))])) t
    refine XS.istore X25.here hx rfl (hb hby at_81) rfl (l' := #[.val (.int p1), .val (.int p2), .val (.int p3), .val (.int p4), .val (.int p5), .val (.int p6), .val (.int cnt), .val (.int cp), .val (.int (own_min p1 p2)), .val (.int (own_max p1 p2)), .val (.int (own_min p3 p4)), .val (.int (own_max p3 p4)), .val (.int (own_min (own_min p1 p2) (own_min p3 p4))), .val (.int (own_max (own_min p1 p2) (own_min p3 p4))), .val (.int (own_min (own_max p1 p2) (own_max p3 p4))), .val (.int (own_max (own_max p1 p2) (own_max p3 p4))), .unset, .unset, .unset, .unset]) rfl ?_
    show Steps p.tables e below (T25.setTop (mkF m 83 #[.val (.int p1), .val (.int p2), .val (.int p3), .val (.int p4), .val (.int p5), .val (.int p6), .val (.int cnt), .val (.int cp), .val (.int (own_min p1 p2)), .val (.int (own_max p1 p2)), .val (.int (own_min p3 p4)), .val (.int (own_max p3 p4)), .val (.int (own_min (own_min p1 p2) (own_min p3 p4))), .val (.int (own_max (own_min p1 p2) (own_min p3 p4))), .val (.int (own_min (own_max p1 p2) (own_max p3 p4))), .val (.int (own_max (own_max p1 p2) (own_max p3 p4))), .unset, .unset, .unset, .unset] [])) t
    refine XS.iload X25.here hx rfl (hb hby at_83) rfl ?_
    show Steps p.tables e below (T25.setTop (mkF m 85 #[.val (.int p1), .val (.int p2), .val (.int p3), .val (.int p4), .val (.int p5), .val (.int p6), .val (.int cnt), .val (.int cp), .val (.int (own_min p1 p2)), .val (.int (own_max p1 p2)), .val (.int (own_min p3 p4)), .val (.int (own_max p3 p4)), .val (.int (own_min (own_min p1 p2) (own_min p3 p4))), .val (.int (own_max (own_min p1 p2) (own_min p3 p4))), .val (.int (own_min (own_max p1 p2) (own_max p3 p4))), .val (.int (own_max (own_max p1 p2) (own_max p3 p4))), .unset, .unset, .unset, .unset] [(.int (own_min (own_max p1 p2) (own_max p3 p4)))])) t
    refine XS.iload X25.here hx rfl (hb hby at_85) rfl ?_
    show Steps p.tables e below (T25.setTop (mkF m 87 #[.val (.int p1), .val (.int p2), .val (.int p3), .val (.int p4), .val (.int p5), .val (.int p6), .val (.int cnt), .val (.int cp), .val (.int (own_min p1 p2)), .val (.int (own_max p1 p2)), .val (.int (own_min p3 p4)), .val (.int (own_max p3 p4)), .val (.int (own_min (own_min p1 p2) (own_min p3 p4))), .val (.int (own_max (own_min p1 p2) (own_min p3 p4))), .val (.int (own_min (own_max p1 p2) (own_max p3 p4))), .val (.int (own_max (own_max p1 p2) (own_max p3 p4))), .unset, .unset, .unset, .unset] [(.int (own_max (own_min p1 p2) (own_min p3 p4))), (.int (own_min (own_max p1 p2) (own_max p3 p4)))])) t
    exact k)
  obtain ⟨_, _, ⟨T28, L28, k28, n28⟩, -, X28, ⟨Lc28, hQ28, l28, y28, z28⟩, st28⟩ := Jvm.LawKit.callS X25 hx (y := (⟨"java/lang/Math", "min", "(II)I"⟩ : MethodName)) hown (mvT hZ (hw _ (List.mem_of_getElem? (i := 0) rfl))) (mvT hZ (hw _ (List.mem_of_getElem? (i := 1) rfl))) (mvT hZ (hw _ (List.mem_of_getElem? (i := 2) rfl))) (mvT hZ (hw _ (List.mem_of_getElem? (i := 3) rfl))) (by decide) (backOf (W := 0) (rm1 l Z a0 hw [] (own_min (own_max p1 p2) (own_max p3 p4)) (own_max (own_min p1 p2) (own_min p3 p4)) h0 n0 Z0 ) hZ (hw _ (List.mem_of_getElem? (i := 3) rfl)) (hw _ (List.mem_of_getElem? (i := 2) rfl)) (by decide) (by decide)) (g := (mkF m 87 #[.val (.int p1), .val (.int p2), .val (.int p3), .val (.int p4), .val (.int p5), .val (.int p6), .val (.int cnt), .val (.int cp), .val (.int (own_min p1 p2)), .val (.int (own_max p1 p2)), .val (.int (own_min p3 p4)), .val (.int (own_max p3 p4)), .val (.int (own_min (own_min p1 p2) (own_min p3 p4))), .val (.int (own_max (own_min p1 p2) (own_min p3 p4))), .val (.int (own_min (own_max p1 p2) (own_max p3 p4))), .val (.int (own_max (own_max p1 p2) (own_max p3 p4))), .unset, .unset, .unset, .unset] [(.int (own_max (own_min p1 p2) (own_min p3 p4))), (.int (own_min (own_max p1 p2) (own_max p3 p4)))])) rfl (by rw [hml]; rfl) (argsL := [(.int (own_min (own_max p1 p2) (own_max p3 p4))), (.int (own_max (own_min p1 p2) (own_min p3 p4)))]) (rest := []) (lenOf pd_oIIcI rfl) rfl (by show 2 * 0 + _ ≤ _; exact Nat.le_of_eq rfl) (hb hby at_87) (fun _ _ => ⟨rfl, eh25, (by decide : 0 + 0 ≤ _), (by decide : 0 + 0 ≤ _)⟩)
  dsimp only [Pt.U, Pt.locs, Pt.cells, Pt.slots] at X28 l28 y28 z28 st28 hQ28
  subst l28 y28 z28
  obtain ⟨rfl, N28q, eh28⟩ := hQ28
  have N28 := Fr.app N25 N28q
  have pre29 : ∀ t, Steps p.tables e below (T28.setTop (mkF m 90 #[.val (.int p1), .val (.int p2), .val (.int p3), .val (.int p4), .val (.int p5), .val (.int p6), .val (.int cnt), .val (.int cp), .val (.int (own_min p1 p2)), .val (.int (own_max p1 p2)), .val (.int (own_min p3 p4)), .val (.int (own_max p3 p4)), .val (.int (own_min (own_min p1 p2) (own_min p3 p4))), .val (.int (own_max (own_min p1 p2) (own_min p3 p4))), .val (.int (own_min (own_max p1 p2) (own_max p3 p4))), .val (.int (own_max (own_max p1 p2) (own_max p3 p4))), .unset, .unset, .unset, .unset] [(.int (own_min (own_min (own_max p1 p2) (own_max p3 p4)) (own_max (own_min p1 p2) (own_min p3 p4))))])) t → Steps p.tables e below (s₁.setTop (entryFrame m #[(.int p1), (.int p2), (.int p3), (.int p4), (.int p5), (.int p6)] maxLocals)) t := fun t k => pre27 t (st28 _ k)
  have pre30 : ∀ t, Steps p.tables e below (T28.setTop (mkF m 96 #[.val (.int p1), .val (.int p2), .val (.int p3), .val (.int p4), .val (.int p5), .val (.int p6), .val (.int cnt), .val (.int cp), .val (.int (own_min p1 p2)), .val (.int (own_max p1 p2)), .val (.int (own_min p3 p4)), .val (.int (own_max p3 p4)), .val (.int (own_min (own_min p1 p2) (own_min p3 p4))), .val (.int (own_max (own_min p1 p2) (own_min p3 p4))), .val (.int (own_min (own_max p1 p2) (own_max p3 p4))), .val (.int (own_max (own_max p1 p2) (own_max p3 p4))), .val (.int (own_min (own_min (own_max p1 p2) (own_max p3 p4)) (own_max (own_min p1 p2) (own_min p3 p4)))), .unset, .unset, .unset] [(.int (own_max (own_min p1 p2) (own_min p3 p4))), (.int (own_min (own_max p1 p2) (own_max p3 p4)))])) t → Steps p.tables e below (s₁.setTop (entryFrame m #[(.int p1), (.int p2), (.int p3), (.int p4), (.int p5), (.int p6)] maxLocals)) t := fun t k => pre29 t (by
    show Steps p.tables e below (T28.setTop (mkF m 90 #[.val (.int p1), .val (.int p2), .val (.int p3), .val (.int p4), .val (.int p5), .val (.int p6), .val (.int cnt), .val (.int cp), .val (.int (own_min p1 p2)), .val (.int (own_max p1 p2)), .val (.int (own_min p3 p4)), .val (.int (own_max p3 p4)), .val (.int (own_min (own_min p1 p2) (own_min p3 p4))), .val (.int (own_max (own_min p1 p2) (own_min p3 p4))), .val (.int (own_min (own_max p1 p2) (own_max p3 p4))), .val (.int (own_max (own_max p1 p2) (own_max p3 p4))), .unset, .unset, .unset, .unset] [(.int (own_min (own_min (own_max p1 p2) (own_max p3 p4)) (own_max (own_min p1 p2) (own_min p3 p4))))])) t
    refine XS.istore X28.here hx rfl (hb hby at_90) rfl (l' := #[.val (.int p1), .val (.int p2), .val (.int p3), .val (.int p4), .val (.int p5), .val (.int p6), .val (.int cnt), .val (.int cp), .val (.int (own_min p1 p2)), .val (.int (own_max p1 p2)), .val (.int (own_min p3 p4)), .val (.int (own_max p3 p4)), .val (.int (own_min (own_min p1 p2) (own_min p3 p4))), .val (.int (own_max (own_min p1 p2) (own_min p3 p4))), .val (.int (own_min (own_max p1 p2) (own_max p3 p4))), .val (.int (own_max (own_max p1 p2) (own_max p3 p4))), .val (.int (own_min (own_min (own_max p1 p2) (own_max p3 p4)) (own_max (own_min p1 p2) (own_min p3 p4)))), .unset, .unset, .unset]) rfl ?_
    show Steps p.tables e below (T28.setTop (mkF m 92 #[.val (.int p1), .val (.int p2), .val (.int p3), .val (.int p4), .val (.int p5), .val (.int p6), .val (.int cnt), .val (.int cp), .val (.int (own_min p1 p2)), .val (.int (own_max p1 p2)), .val (.int (own_min p3 p4)), .val (.int (own_max p3 p4)), .val (.int (own_min (own_min p1 p2) (own_min p3 p4))), .val (.int (own_max (own_min p1 p2) (own_min p3 p4))), .val (.int (own_min (own_max p1 p2) (own_max p3 p4))), .val (.int (own_max (own_max p1 p2) (own_max p3 p4))), .val (.int (own_min (own_min (own_max p1 p2) (own_max p3 p4)) (own_max (own_min p1 p2) (own_min p3 p4)))), .unset, .unset, .unset] [])) t
    refine XS.iload X28.here hx rfl (hb hby at_92) rfl ?_
    show Steps p.tables e below (T28.setTop (mkF m 94 #[.val (.int p1), .val (.int p2), .val (.int p3), .val (.int p4), .val (.int p5), .val (.int p6), .val (.int cnt), .val (.int cp), .val (.int (own_min p1 p2)), .val (.int (own_max p1 p2)), .val (.int (own_min p3 p4)), .val (.int (own_max p3 p4)), .val (.int (own_min (own_min p1 p2) (own_min p3 p4))), .val (.int (own_max (own_min p1 p2) (own_min p3 p4))), .val (.int (own_min (own_max p1 p2) (own_max p3 p4))), .val (.int (own_max (own_max p1 p2) (own_max p3 p4))), .val (.int (own_min (own_min (own_max p1 p2) (own_max p3 p4)) (own_max (own_min p1 p2) (own_min p3 p4)))), .unset, .unset, .unset] [(.int (own_min (own_max p1 p2) (own_max p3 p4)))])) t
    refine XS.iload X28.here hx rfl (hb hby at_94) rfl ?_
    show Steps p.tables e below (T28.setTop (mkF m 96 #[.val (.int p1), .val (.int p2), .val (.int p3), .val (.int p4), .val (.int p5), .val (.int p6), .val (.int cnt), .val (.int cp), .val (.int (own_min p1 p2)), .val (.int (own_max p1 p2)), .val (.int (own_min p3 p4)), .val (.int (own_max p3 p4)), .val (.int (own_min (own_min p1 p2) (own_min p3 p4))), .val (.int (own_max (own_min p1 p2) (own_min p3 p4))), .val (.int (own_min (own_max p1 p2) (own_max p3 p4))), .val (.int (own_max (own_max p1 p2) (own_max p3 p4))), .val (.int (own_min (own_min (own_max p1 p2) (own_max p3 p4)) (own_max (own_min p1 p2) (own_min p3 p4)))), .unset, .unset, .unset] [(.int (own_max (own_min p1 p2) (own_min p3 p4))), (.int (own_min (own_max p1 p2) (own_max p3 p4)))])) t
    exact k)
  obtain ⟨_, _, ⟨T31, L31, k31, n31⟩, -, X31, ⟨Lc31, hQ31, l31, y31, z31⟩, st31⟩ := Jvm.LawKit.callS X28 hx (y := (⟨"java/lang/Math", "max", "(II)I"⟩ : MethodName)) hown (mvT hZ (hw _ (List.mem_of_getElem? (i := 4) rfl))) (mvT hZ (hw _ (List.mem_of_getElem? (i := 5) rfl))) (mvT hZ (hw _ (List.mem_of_getElem? (i := 2) rfl))) (mvT hZ (hw _ (List.mem_of_getElem? (i := 6) rfl))) (by decide) (backOf (W := 0) (rm2 l Z a0 hw [] (own_min (own_max p1 p2) (own_max p3 p4)) (own_max (own_min p1 p2) (own_min p3 p4)) h0 n0 Z0 ) hZ (hw _ (List.mem_of_getElem? (i := 6) rfl)) (hw _ (List.mem_of_getElem? (i := 2) rfl)) (by decide) (by decide)) (g := (mkF m 96 #[.val (.int p1), .val (.int p2), .val (.int p3), .val (.int p4), .val (.int p5), .val (.int p6), .val (.int cnt), .val (.int cp), .val (.int (own_min p1 p2)), .val (.int (own_max p1 p2)), .val (.int (own_min p3 p4)), .val (.int (own_max p3 p4)), .val (.int (own_min (own_min p1 p2) (own_min p3 p4))), .val (.int (own_max (own_min p1 p2) (own_min p3 p4))), .val (.int (own_min (own_max p1 p2) (own_max p3 p4))), .val (.int (own_max (own_max p1 p2) (own_max p3 p4))), .val (.int (own_min (own_min (own_max p1 p2) (own_max p3 p4)) (own_max (own_min p1 p2) (own_min p3 p4)))), .unset, .unset, .unset] [(.int (own_max (own_min p1 p2) (own_min p3 p4))), (.int (own_min (own_max p1 p2) (own_max p3 p4)))])) rfl (by rw [hml]; rfl) (argsL := [(.int (own_min (own_max p1 p2) (own_max p3 p4))), (.int (own_max (own_min p1 p2) (own_min p3 p4)))]) (rest := []) (lenOf pd_oIIcI rfl) rfl (by show 2 * 0 + _ ≤ _; exact Nat.le_of_eq rfl) (hb hby at_96) (fun _ _ => ⟨rfl, eh28, (by decide : 0 + 0 ≤ _), (by decide : 0 + 0 ≤ _)⟩)
  dsimp only [Pt.U, Pt.locs, Pt.cells, Pt.slots] at X31 l31 y31 z31 st31 hQ31
  subst l31 y31 z31
  obtain ⟨rfl, N31q, eh31⟩ := hQ31
  have N31 := Fr.app N28 N31q
  have pre32 : ∀ t, Steps p.tables e below (T31.setTop (mkF m 99 #[.val (.int p1), .val (.int p2), .val (.int p3), .val (.int p4), .val (.int p5), .val (.int p6), .val (.int cnt), .val (.int cp), .val (.int (own_min p1 p2)), .val (.int (own_max p1 p2)), .val (.int (own_min p3 p4)), .val (.int (own_max p3 p4)), .val (.int (own_min (own_min p1 p2) (own_min p3 p4))), .val (.int (own_max (own_min p1 p2) (own_min p3 p4))), .val (.int (own_min (own_max p1 p2) (own_max p3 p4))), .val (.int (own_max (own_max p1 p2) (own_max p3 p4))), .val (.int (own_min (own_min (own_max p1 p2) (own_max p3 p4)) (own_max (own_min p1 p2) (own_min p3 p4)))), .unset, .unset, .unset] [(.int (own_max (own_min (own_max p1 p2) (own_max p3 p4)) (own_max (own_min p1 p2) (own_min p3 p4))))])) t → Steps p.tables e below (s₁.setTop (entryFrame m #[(.int p1), (.int p2), (.int p3), (.int p4), (.int p5), (.int p6)] maxLocals)) t := fun t k => pre30 t (st31 _ k)
  have pre33 : ∀ t, Steps p.tables e below (T31.setTop (mkF m 101 #[.val (.int p1), .val (.int p2), .val (.int p3), .val (.int p4), .val (.int p5), .val (.int p6), .val (.int cnt), .val (.int cp), .val (.int (own_min p1 p2)), .val (.int (own_max p1 p2)), .val (.int (own_min p3 p4)), .val (.int (own_max p3 p4)), .val (.int (own_min (own_min p1 p2) (own_min p3 p4))), .val (.int (own_max (own_min p1 p2) (own_min p3 p4))), .val (.int (own_min (own_max p1 p2) (own_max p3 p4))), .val (.int (own_max (own_max p1 p2) (own_max p3 p4))), .val (.int (own_min (own_min (own_max p1 p2) (own_max p3 p4)) (own_max (own_min p1 p2) (own_min p3 p4)))), .val (.int (own_max (own_min (own_max p1 p2) (own_max p3 p4)) (own_max (own_min p1 p2) (own_min p3 p4)))), .unset, .unset] [])) t → Steps p.tables e below (s₁.setTop (entryFrame m #[(.int p1), (.int p2), (.int p3), (.int p4), (.int p5), (.int p6)] maxLocals)) t := fun t k => pre32 t (by
    show Steps p.tables e below (T31.setTop (mkF m 99 #[.val (.int p1), .val (.int p2), .val (.int p3), .val (.int p4), .val (.int p5), .val (.int p6), .val (.int cnt), .val (.int cp), .val (.int (own_min p1 p2)), .val (.int (own_max p1 p2)), .val (.int (own_min p3 p4)), .val (.int (own_max p3 p4)), .val (.int (own_min (own_min p1 p2) (own_min p3 p4))), .val (.int (own_max (own_min p1 p2) (own_min p3 p4))), .val (.int (own_min (own_max p1 p2) (own_max p3 p4))), .val (.int (own_max (own_max p1 p2) (own_max p3 p4))), .val (.int (own_min (own_min (own_max p1 p2) (own_max p3 p4)) (own_max (own_min p1 p2) (own_min p3 p4)))), .unset, .unset, .unset] [(.int (own_max (own_min (own_max p1 p2) (own_max p3 p4)) (own_max (own_min p1 p2) (own_min p3 p4))))])) t
    refine XS.istore X31.here hx rfl (hb hby at_99) rfl (l' := #[.val (.int p1), .val (.int p2), .val (.int p3), .val (.int p4), .val (.int p5), .val (.int p6), .val (.int cnt), .val (.int cp), .val (.int (own_min p1 p2)), .val (.int (own_max p1 p2)), .val (.int (own_min p3 p4)), .val (.int (own_max p3 p4)), .val (.int (own_min (own_min p1 p2) (own_min p3 p4))), .val (.int (own_max (own_min p1 p2) (own_min p3 p4))), .val (.int (own_min (own_max p1 p2) (own_max p3 p4))), .val (.int (own_max (own_max p1 p2) (own_max p3 p4))), .val (.int (own_min (own_min (own_max p1 p2) (own_max p3 p4)) (own_max (own_min p1 p2) (own_min p3 p4)))), .val (.int (own_max (own_min (own_max p1 p2) (own_max p3 p4)) (own_max (own_min p1 p2) (own_min p3 p4)))), .unset, .unset]) rfl ?_
    show Steps p.tables e below (T31.setTop (mkF m 101 #[.val (.int p1), .val (.int p2), .val (.int p3), .val (.int p4), .val (.int p5), .val (.int p6), .val (.int cnt), .val (.int cp), .val (.int (own_min p1 p2)), .val (.int (own_max p1 p2)), .val (.int (own_min p3 p4)), .val (.int (own_max p3 p4)), .val (.int (own_min (own_min p1 p2) (own_min p3 p4))), .val (.int (own_max (own_min p1 p2) (own_min p3 p4))), .val (.int (own_min (own_max p1 p2) (own_max p3 p4))), .val (.int (own_max (own_max p1 p2) (own_max p3 p4))), .val (.int (own_min (own_min (own_max p1 p2) (own_max p3 p4)) (own_max (own_min p1 p2) (own_min p3 p4)))), .val (.int (own_max (own_min (own_max p1 p2) (own_max p3 p4)) (own_max (own_min p1 p2) (own_min p3 p4)))), .unset, .unset] [])) t
    exact k)
  obtain ⟨y0, h_y0⟩ : ∃ z : Int32, z = (own_min (own_min p1 p2) (own_min p3 p4)) := ⟨_, rfl⟩
  rw [← h_y0] at pre33
  obtain ⟨y1, h_y1⟩ : ∃ z : Int32, z = (own_min (own_min (own_max p1 p2) (own_max p3 p4)) (own_max (own_min p1 p2) (own_min p3 p4))) := ⟨_, rfl⟩
  rw [← h_y1] at pre33
  obtain ⟨y2, h_y2⟩ : ∃ z : Int32, z = (own_max (own_min (own_max p1 p2) (own_max p3 p4)) (own_max (own_min p1 p2) (own_min p3 p4))) := ⟨_, rfl⟩
  rw [← h_y2] at pre33
  obtain ⟨y3, h_y3⟩ : ∃ z : Int32, z = (own_max (own_max p1 p2) (own_max p3 p4)) := ⟨_, rfl⟩
  rw [← h_y3] at pre33
  have hs : ¬ y1 < y0 ∧ ¬ y2 < y1 ∧ ¬ y3 < y2 := by rw [h_y0, h_y1, h_y2, h_y3]; exact own_sorted _ _ _ _
  obtain ⟨T34, h34, X34, eh34, E34, A34, D34, -, st34⟩ := newO X31 hx hZ hown (hw _ (List.mem_of_getElem? (i := 7) rfl)) (hw _ (List.mem_of_getElem? (i := 8) rfl)) (hw _ (List.mem_of_getElem? (i := 9) rfl)) eh31 (g := (mkF m 101 #[.val (.int p1), .val (.int p2), .val (.int p3), .val (.int p4), .val (.int p5), .val (.int p6), .val (.int cnt), .val (.int cp), .val (.int (own_min p1 p2)), .val (.int (own_max p1 p2)), .val (.int (own_min p3 p4)), .val (.int (own_max p3 p4)), .val (.int y0), .val (.int (own_max (own_min p1 p2) (own_min p3 p4))), .val (.int (own_min (own_max p1 p2) (own_max p3 p4))), .val (.int y3), .val (.int y1), .val (.int y2), .unset, .unset] [])) rfl (hb hby at_101) (by decide) (by decide)
  obtain ⟨b34, gg34⟩ : ∃ z, z = h0.size := ⟨_, rfl⟩
  rw [← gg34] at A34 D34 st34
  have sz34 : n0 ≤ h34.size := Nat.le_trans Z0 E34.1
  have g_b34 : n0 ≤ b34 := Nat.le_trans Z0 (Nat.le_of_eq gg34.symm)
  have F_values_b34 : Fld Z h34 b34 "com/example/interlace/interlace/core/IntColumn" "values" "[I" .null := D34 (Or.inl (hw _ (List.mem_of_getElem? (i := 18) rfl))) (ty := (.array .int)) (by decide)
  have F_size_b34 : Fld Z h34 b34 "com/example/interlace/interlace/core/IntColumn" "size" "I" (.int (0 : Int32)) := D34 (Or.inl (hw _ (List.mem_of_getElem? (i := 25) rfl))) (ty := .int) (by decide)
  have pre35 : ∀ t, Steps p.tables e below (T34.setTop (mkF m 104 #[.val (.int p1), .val (.int p2), .val (.int p3), .val (.int p4), .val (.int p5), .val (.int p6), .val (.int cnt), .val (.int cp), .val (.int (own_min p1 p2)), .val (.int (own_max p1 p2)), .val (.int (own_min p3 p4)), .val (.int (own_max p3 p4)), .val (.int y0), .val (.int (own_max (own_min p1 p2) (own_min p3 p4))), .val (.int (own_min (own_max p1 p2) (own_max p3 p4))), .val (.int y3), .val (.int y1), .val (.int y2), .unset, .unset] [(.ref b34)])) t → Steps p.tables e below (s₁.setTop (entryFrame m #[(.int p1), (.int p2), (.int p3), (.int p4), (.int p5), (.int p6)] maxLocals)) t := fun t k => pre33 t (st34 _ k)
  have pre36 : ∀ t, Steps p.tables e below (T34.setTop (mkF m 107 #[.val (.int p1), .val (.int p2), .val (.int p3), .val (.int p4), .val (.int p5), .val (.int p6), .val (.int cnt), .val (.int cp), .val (.int (own_min p1 p2)), .val (.int (own_max p1 p2)), .val (.int (own_min p3 p4)), .val (.int (own_max p3 p4)), .val (.int y0), .val (.int (own_max (own_min p1 p2) (own_min p3 p4))), .val (.int (own_min (own_max p1 p2) (own_max p3 p4))), .val (.int y3), .val (.int y1), .val (.int y2), .unset, .unset] [(.int cp), (.ref b34), (.ref b34)])) t → Steps p.tables e below (s₁.setTop (entryFrame m #[(.int p1), (.int p2), (.int p3), (.int p4), (.int p5), (.int p6)] maxLocals)) t := fun t k => pre35 t (by
    show Steps p.tables e below (T34.setTop (mkF m 104 #[.val (.int p1), .val (.int p2), .val (.int p3), .val (.int p4), .val (.int p5), .val (.int p6), .val (.int cnt), .val (.int cp), .val (.int (own_min p1 p2)), .val (.int (own_max p1 p2)), .val (.int (own_min p3 p4)), .val (.int (own_max p3 p4)), .val (.int y0), .val (.int (own_max (own_min p1 p2) (own_min p3 p4))), .val (.int (own_min (own_max p1 p2) (own_max p3 p4))), .val (.int y3), .val (.int y1), .val (.int y2), .unset, .unset] [(.ref b34)])) t
    refine XS.dup X34.here hx rfl (hb hby at_104) rfl rfl ?_
    show Steps p.tables e below (T34.setTop (mkF m 105 #[.val (.int p1), .val (.int p2), .val (.int p3), .val (.int p4), .val (.int p5), .val (.int p6), .val (.int cnt), .val (.int cp), .val (.int (own_min p1 p2)), .val (.int (own_max p1 p2)), .val (.int (own_min p3 p4)), .val (.int (own_max p3 p4)), .val (.int y0), .val (.int (own_max (own_min p1 p2) (own_min p3 p4))), .val (.int (own_min (own_max p1 p2) (own_max p3 p4))), .val (.int y3), .val (.int y1), .val (.int y2), .unset, .unset] [(.ref b34), (.ref b34)])) t
    refine XS.iload X34.here hx rfl (hb hby at_105) rfl ?_
    show Steps p.tables e below (T34.setTop (mkF m 107 #[.val (.int p1), .val (.int p2), .val (.int p3), .val (.int p4), .val (.int p5), .val (.int p6), .val (.int cnt), .val (.int cp), .val (.int (own_min p1 p2)), .val (.int (own_max p1 p2)), .val (.int (own_min p3 p4)), .val (.int (own_max p3 p4)), .val (.int y0), .val (.int (own_max (own_min p1 p2) (own_min p3 p4))), .val (.int (own_min (own_max p1 p2) (own_max p3 p4))), .val (.int y3), .val (.int y1), .val (.int y2), .unset, .unset] [(.int cp), (.ref b34), (.ref b34)])) t
    exact k)
  obtain ⟨_, _, ⟨T37, L37, k37, n37⟩, -, X37, ⟨Lc37, hQ37, l37, y37, z37⟩, st37⟩ := X34.specialBack hx (y := (⟨"com/example/interlace/interlace/core/IntColumn", "<init>", "(I)V"⟩ : MethodName)) rfl hown (mvT hZ (hw _ (List.mem_of_getElem? (i := 10) rfl))) (mvT hZ (hw _ (List.mem_of_getElem? (i := 11) rfl))) (mvT hZ (hw _ (List.mem_of_getElem? (i := 12) rfl))) (by decide) (backOf (W := 1) (rm3 l Z a0 hw [] b34 cp .null (.int (0 : Int32)) h34 n0 sz34 A34 F_values_b34 F_size_b34 g_b34 (show ¬ cp < (0 : Int32) from own_cp0 hcp.1) (show cp.toNatClampNeg ≤ 4 from own_cap4 ⟨own_cp0 hcp.1, hcp.2⟩)) hZ (hw _ (List.mem_of_getElem? (i := 12) rfl)) (hw _ (List.mem_of_getElem? (i := 9) rfl)) (by decide) (by decide)) (g := (mkF m 107 #[.val (.int p1), .val (.int p2), .val (.int p3), .val (.int p4), .val (.int p5), .val (.int p6), .val (.int cnt), .val (.int cp), .val (.int (own_min p1 p2)), .val (.int (own_max p1 p2)), .val (.int (own_min p3 p4)), .val (.int (own_max p3 p4)), .val (.int y0), .val (.int (own_max (own_min p1 p2) (own_min p3 p4))), .val (.int (own_min (own_max p1 p2) (own_max p3 p4))), .val (.int y3), .val (.int y1), .val (.int y2), .unset, .unset] [(.int cp), (.ref b34), (.ref b34)])) rfl (by rw [hml]; rfl) (Steps.refl _) (a := b34) (argsL := [(.int cp)]) (rest := [(.ref b34)]) (lenOf pd_oIcV rfl) rfl (by show 2 * 0 + _ ≤ _; exact Nat.le_of_eq rfl) (hb hby at_107) (fun _ _ => ⟨rfl, eh34, (by decide : 1 + 1 ≤ _), (by decide : 2 + 4 ≤ _)⟩)
  dsimp only [Pt.U, Pt.locs, Pt.cells, Pt.slots] at X37 l37 y37 z37 st37 hQ37
  subst l37 y37 z37
  obtain ⟨ar_37, kk_37, rfl, N37q, Kq37, P37_1, P37_2, P37_3, P37_4, P37_5⟩ := hQ37
  have ne_b34_ar_37 : b34 ≠ ar_37 := Nat.ne_of_lt (Nat.lt_of_lt_of_le A34.lt P37_1)
  have g_ar_37 : n0 ≤ ar_37 := Nat.le_trans sz34 P37_1
  have sz37 : n0 ≤ T37.heap.size := Nat.le_trans sz34 Kq37.1
  have N37 := Fr.app N31 N37q
  have pre38 : ∀ t, Steps p.tables e below (T37.setTop (mkF m 110 #[.val (.int p1), .val (.int p2), .val (.int p3), .val (.int p4), .val (.int p5), .val (.int p6), .val (.int cnt), .val (.int cp), .val (.int (own_min p1 p2)), .val (.int (own_max p1 p2)), .val (.int (own_min p3 p4)), .val (.int (own_max p3 p4)), .val (.int y0), .val (.int (own_max (own_min p1 p2) (own_min p3 p4))), .val (.int (own_min (own_max p1 p2) (own_max p3 p4))), .val (.int y3), .val (.int y1), .val (.int y2), .unset, .unset] [(.ref b34)])) t → Steps p.tables e below (s₁.setTop (entryFrame m #[(.int p1), (.int p2), (.int p3), (.int p4), (.int p5), (.int p6)] maxLocals)) t := fun t k => pre36 t (st37.trans k)
  have pre40 : ∀ t, Steps p.tables e below (T37.setTop (mkF m 117 #[.val (.int p1), .val (.int p2), .val (.int p3), .val (.int p4), .val (.int p5), .val (.int p6), .val (.int cnt), .val (.int cp), .val (.int (own_min p1 p2)), .val (.int (own_max p1 p2)), .val (.int (own_min p3 p4)), .val (.int (own_max p3 p4)), .val (.int y0), .val (.int (own_max (own_min p1 p2) (own_min p3 p4))), .val (.int (own_min (own_max p1 p2) (own_max p3 p4))), .val (.int y3), .val (.int y1), .val (.int y2), .val (.ref b34), .val (.int (0 : Int32))] [(.int cnt)])) t → Steps p.tables e below (s₁.setTop (entryFrame m #[(.int p1), (.int p2), (.int p3), (.int p4), (.int p5), (.int p6)] maxLocals)) t := fun t k => pre38 t (by
    show Steps p.tables e below (T37.setTop (mkF m 110 #[.val (.int p1), .val (.int p2), .val (.int p3), .val (.int p4), .val (.int p5), .val (.int p6), .val (.int cnt), .val (.int cp), .val (.int (own_min p1 p2)), .val (.int (own_max p1 p2)), .val (.int (own_min p3 p4)), .val (.int (own_max p3 p4)), .val (.int y0), .val (.int (own_max (own_min p1 p2) (own_min p3 p4))), .val (.int (own_min (own_max p1 p2) (own_max p3 p4))), .val (.int y3), .val (.int y1), .val (.int y2), .unset, .unset] [(.ref b34)])) t
    refine XS.astore X37.here hx rfl (hb hby at_110) rfl rfl (l' := #[.val (.int p1), .val (.int p2), .val (.int p3), .val (.int p4), .val (.int p5), .val (.int p6), .val (.int cnt), .val (.int cp), .val (.int (own_min p1 p2)), .val (.int (own_max p1 p2)), .val (.int (own_min p3 p4)), .val (.int (own_max p3 p4)), .val (.int y0), .val (.int (own_max (own_min p1 p2) (own_min p3 p4))), .val (.int (own_min (own_max p1 p2) (own_max p3 p4))), .val (.int y3), .val (.int y1), .val (.int y2), .val (.ref b34), .unset]) rfl ?_
    show Steps p.tables e below (T37.setTop (mkF m 112 #[.val (.int p1), .val (.int p2), .val (.int p3), .val (.int p4), .val (.int p5), .val (.int p6), .val (.int cnt), .val (.int cp), .val (.int (own_min p1 p2)), .val (.int (own_max p1 p2)), .val (.int (own_min p3 p4)), .val (.int (own_max p3 p4)), .val (.int y0), .val (.int (own_max (own_min p1 p2) (own_min p3 p4))), .val (.int (own_min (own_max p1 p2) (own_max p3 p4))), .val (.int y3), .val (.int y1), .val (.int y2), .val (.ref b34), .unset] [])) t
    refine XS.iconst X37.here hx rfl (hb hby at_112) ?_
    show Steps p.tables e below (T37.setTop (mkF m 113 #[.val (.int p1), .val (.int p2), .val (.int p3), .val (.int p4), .val (.int p5), .val (.int p6), .val (.int cnt), .val (.int cp), .val (.int (own_min p1 p2)), .val (.int (own_max p1 p2)), .val (.int (own_min p3 p4)), .val (.int (own_max p3 p4)), .val (.int y0), .val (.int (own_max (own_min p1 p2) (own_min p3 p4))), .val (.int (own_min (own_max p1 p2) (own_max p3 p4))), .val (.int y3), .val (.int y1), .val (.int y2), .val (.ref b34), .unset] [(.int (0 : Int32))])) t
    refine XS.istore X37.here hx rfl (hb hby at_113) rfl (l' := #[.val (.int p1), .val (.int p2), .val (.int p3), .val (.int p4), .val (.int p5), .val (.int p6), .val (.int cnt), .val (.int cp), .val (.int (own_min p1 p2)), .val (.int (own_max p1 p2)), .val (.int (own_min p3 p4)), .val (.int (own_max p3 p4)), .val (.int y0), .val (.int (own_max (own_min p1 p2) (own_min p3 p4))), .val (.int (own_min (own_max p1 p2) (own_max p3 p4))), .val (.int y3), .val (.int y1), .val (.int y2), .val (.ref b34), .val (.int (0 : Int32))]) rfl ?_
    show Steps p.tables e below (T37.setTop (mkF m 115 #[.val (.int p1), .val (.int p2), .val (.int p3), .val (.int p4), .val (.int p5), .val (.int p6), .val (.int cnt), .val (.int cp), .val (.int (own_min p1 p2)), .val (.int (own_max p1 p2)), .val (.int (own_min p3 p4)), .val (.int (own_max p3 p4)), .val (.int y0), .val (.int (own_max (own_min p1 p2) (own_min p3 p4))), .val (.int (own_min (own_max p1 p2) (own_max p3 p4))), .val (.int y3), .val (.int y1), .val (.int y2), .val (.ref b34), .val (.int (0 : Int32))] [])) t
    refine XS.iload X37.here hx rfl (hb hby at_115) rfl ?_
    show Steps p.tables e below (T37.setTop (mkF m 117 #[.val (.int p1), .val (.int p2), .val (.int p3), .val (.int p4), .val (.int p5), .val (.int p6), .val (.int cnt), .val (.int cp), .val (.int (own_min p1 p2)), .val (.int (own_max p1 p2)), .val (.int (own_min p3 p4)), .val (.int (own_max p3 p4)), .val (.int y0), .val (.int (own_max (own_min p1 p2) (own_min p3 p4))), .val (.int (own_min (own_max p1 p2) (own_max p3 p4))), .val (.int y3), .val (.int y1), .val (.int y2), .val (.ref b34), .val (.int (0 : Int32))] [(.int cnt)])) t
    exact k)
  by_cases hc117_39 : (0 : Int32) < cnt
  · skip
    have pre41 : ∀ t, Steps p.tables e below (T37.setTop (mkF m 124 #[.val (.int p1), .val (.int p2), .val (.int p3), .val (.int p4), .val (.int p5), .val (.int p6), .val (.int cnt), .val (.int cp), .val (.int (own_min p1 p2)), .val (.int (own_max p1 p2)), .val (.int (own_min p3 p4)), .val (.int (own_max p3 p4)), .val (.int y0), .val (.int (own_max (own_min p1 p2) (own_min p3 p4))), .val (.int (own_min (own_max p1 p2) (own_max p3 p4))), .val (.int y3), .val (.int y1), .val (.int y2), .val (.ref b34), .val (.int (0 : Int32))] [(.int y0), (.ref b34)])) t → Steps p.tables e below (s₁.setTop (entryFrame m #[(.int p1), (.int p2), (.int p3), (.int p4), (.int p5), (.int p6)] maxLocals)) t := fun t k => pre40 t (by
      show Steps p.tables e below (T37.setTop (mkF m 117 #[.val (.int p1), .val (.int p2), .val (.int p3), .val (.int p4), .val (.int p5), .val (.int p6), .val (.int cnt), .val (.int cp), .val (.int (own_min p1 p2)), .val (.int (own_max p1 p2)), .val (.int (own_min p3 p4)), .val (.int (own_max p3 p4)), .val (.int y0), .val (.int (own_max (own_min p1 p2) (own_min p3 p4))), .val (.int (own_min (own_max p1 p2) (own_max p3 p4))), .val (.int y3), .val (.int y1), .val (.int y2), .val (.ref b34), .val (.int (0 : Int32))] [(.int cnt)])) t
      refine XS.ifNo X37.here hx rfl (hb hby at_117) rfl (XT.i0_le_f hc117_39) ?_
      show Steps p.tables e below (T37.setTop (mkF m 120 #[.val (.int p1), .val (.int p2), .val (.int p3), .val (.int p4), .val (.int p5), .val (.int p6), .val (.int cnt), .val (.int cp), .val (.int (own_min p1 p2)), .val (.int (own_max p1 p2)), .val (.int (own_min p3 p4)), .val (.int (own_max p3 p4)), .val (.int y0), .val (.int (own_max (own_min p1 p2) (own_min p3 p4))), .val (.int (own_min (own_max p1 p2) (own_max p3 p4))), .val (.int y3), .val (.int y1), .val (.int y2), .val (.ref b34), .val (.int (0 : Int32))] [])) t
      refine XS.aload X37.here hx rfl (hb hby at_120) rfl rfl ?_
      show Steps p.tables e below (T37.setTop (mkF m 122 #[.val (.int p1), .val (.int p2), .val (.int p3), .val (.int p4), .val (.int p5), .val (.int p6), .val (.int cnt), .val (.int cp), .val (.int (own_min p1 p2)), .val (.int (own_max p1 p2)), .val (.int (own_min p3 p4)), .val (.int (own_max p3 p4)), .val (.int y0), .val (.int (own_max (own_min p1 p2) (own_min p3 p4))), .val (.int (own_min (own_max p1 p2) (own_max p3 p4))), .val (.int y3), .val (.int y1), .val (.int y2), .val (.ref b34), .val (.int (0 : Int32))] [(.ref b34)])) t
      refine XS.iload X37.here hx rfl (hb hby at_122) rfl ?_
      show Steps p.tables e below (T37.setTop (mkF m 124 #[.val (.int p1), .val (.int p2), .val (.int p3), .val (.int p4), .val (.int p5), .val (.int p6), .val (.int cnt), .val (.int cp), .val (.int (own_min p1 p2)), .val (.int (own_max p1 p2)), .val (.int (own_min p3 p4)), .val (.int (own_max p3 p4)), .val (.int y0), .val (.int (own_max (own_min p1 p2) (own_min p3 p4))), .val (.int (own_min (own_max p1 p2) (own_max p3 p4))), .val (.int y3), .val (.int y1), .val (.int y2), .val (.ref b34), .val (.int (0 : Int32))] [(.int y0), (.ref b34)])) t
      exact k)
    obtain ⟨cq42, kq42, q42a, q42b, q42c⟩ := isOf hZ rfl P37_2
    obtain ⟨_, _, ⟨T42, L42, k42, n42⟩, -, X42, ⟨Lc42, hQ42, l42, y42, z42⟩, st42⟩ := X37.virtualBack hx (y := (⟨"com/example/interlace/interlace/core/IntColumn", "add", "(I)V"⟩ : MethodName)) (z := (⟨"com/example/interlace/interlace/core/IntColumn", "add", "(I)V"⟩ : MethodName)) hown (mvT hZ (hw _ (List.mem_of_getElem? (i := 19) rfl))) (mvT hZ (hw _ (List.mem_of_getElem? (i := 20) rfl))) (notFace_of_selects (args := #[]) (mvT hZ (hw _ (List.mem_of_getElem? (i := 22) rfl)))) (mvT hZ (hw _ (List.mem_of_getElem? (i := 22) rfl))) (mvT hZ (hw _ (List.mem_of_getElem? (i := 21) rfl))) (by decide) (backOf (W := 0) (rmAD0 l Z a0 hw [] b34 y0 ar_37 kk_37 cp T37.heap n0 sz37 P37_2 P37_3 P37_4 P37_5 g_b34 g_ar_37 ne_b34_ar_37 (show ¬ cp < (0 : Int32) from own_cp0 hcp.1) (show ¬ cp < (1 : Int32) from hcp.1)) hZ (hw _ (List.mem_of_getElem? (i := 23) rfl)) (hw _ (List.mem_of_getElem? (i := 9) rfl)) (by decide) (by decide)) q42a q42c (g := (mkF m 124 #[.val (.int p1), .val (.int p2), .val (.int p3), .val (.int p4), .val (.int p5), .val (.int p6), .val (.int cnt), .val (.int cp), .val (.int (own_min p1 p2)), .val (.int (own_max p1 p2)), .val (.int (own_min p3 p4)), .val (.int (own_max p3 p4)), .val (.int y0), .val (.int (own_max (own_min p1 p2) (own_min p3 p4))), .val (.int (own_min (own_max p1 p2) (own_max p3 p4))), .val (.int y3), .val (.int y1), .val (.int y2), .val (.ref b34), .val (.int (0 : Int32))] [(.int y0), (.ref b34)])) rfl (by rw [hml]; rfl) (Steps.refl _) (argsL := [(.int y0)]) (rest := []) (lenOf pd_oIcV rfl) rfl (by show 2 * 0 + _ ≤ _; exact Nat.le_of_eq rfl) (hb hby at_124) (fun _ _ => ⟨rfl, rfl, (by decide : 2 + 0 ≤ _), (by decide : 6 + 0 ≤ _)⟩)
    dsimp only [Pt.U, Pt.locs, Pt.cells, Pt.slots] at X42 l42 y42 z42 st42 hQ42
    subst l42 y42 z42
    obtain ⟨ar2_42, kk2_42, cap2_42, rfl, N42q, Kq42, P42_1, P42_2, P42_3, P42_4, P42_5, P42_6, P42_7, P42_8⟩ := hQ42
    have sz42 : n0 ≤ T42.heap.size := Nat.le_trans sz37 Kq42.1
    have N42 := Fr.app N37 N42q
    have pre43 : ∀ t, Steps p.tables e below (T42.setTop (mkF m 127 #[.val (.int p1), .val (.int p2), .val (.int p3), .val (.int p4), .val (.int p5), .val (.int p6), .val (.int cnt), .val (.int cp), .val (.int (own_min p1 p2)), .val (.int (own_max p1 p2)), .val (.int (own_min p3 p4)), .val (.int (own_max p3 p4)), .val (.int y0), .val (.int (own_max (own_min p1 p2) (own_min p3 p4))), .val (.int (own_min (own_max p1 p2) (own_max p3 p4))), .val (.int y3), .val (.int y1), .val (.int y2), .val (.ref b34), .val (.int (0 : Int32))] [])) t → Steps p.tables e below (s₁.setTop (entryFrame m #[(.int p1), (.int p2), (.int p3), (.int p4), (.int p5), (.int p6)] maxLocals)) t := fun t k => pre41 t (st42.trans k)
    have pre44 : ∀ t, Steps p.tables e below (T42.setTop (mkF m 133 #[.val (.int p1), .val (.int p2), .val (.int p3), .val (.int p4), .val (.int p5), .val (.int p6), .val (.int cnt), .val (.int cp), .val (.int (own_min p1 p2)), .val (.int (own_max p1 p2)), .val (.int (own_min p3 p4)), .val (.int (own_max p3 p4)), .val (.int y0), .val (.int (own_max (own_min p1 p2) (own_min p3 p4))), .val (.int (own_min (own_max p1 p2) (own_max p3 p4))), .val (.int y3), .val (.int y1), .val (.int y2), .val (.ref b34), .val (.int (0 : Int32))] [(.int p5), (.int y0), (.int (0 : Int32))])) t → Steps p.tables e below (s₁.setTop (entryFrame m #[(.int p1), (.int p2), (.int p3), (.int p4), (.int p5), (.int p6)] maxLocals)) t := fun t k => pre43 t (by
      show Steps p.tables e below (T42.setTop (mkF m 127 #[.val (.int p1), .val (.int p2), .val (.int p3), .val (.int p4), .val (.int p5), .val (.int p6), .val (.int cnt), .val (.int cp), .val (.int (own_min p1 p2)), .val (.int (own_max p1 p2)), .val (.int (own_min p3 p4)), .val (.int (own_max p3 p4)), .val (.int y0), .val (.int (own_max (own_min p1 p2) (own_min p3 p4))), .val (.int (own_min (own_max p1 p2) (own_max p3 p4))), .val (.int y3), .val (.int y1), .val (.int y2), .val (.ref b34), .val (.int (0 : Int32))] [])) t
      refine XS.iload X42.here hx rfl (hb hby at_127) rfl ?_
      show Steps p.tables e below (T42.setTop (mkF m 129 #[.val (.int p1), .val (.int p2), .val (.int p3), .val (.int p4), .val (.int p5), .val (.int p6), .val (.int cnt), .val (.int cp), .val (.int (own_min p1 p2)), .val (.int (own_max p1 p2)), .val (.int (own_min p3 p4)), .val (.int (own_max p3 p4)), .val (.int y0), .val (.int (own_max (own_min p1 p2) (own_min p3 p4))), .val (.int (own_min (own_max p1 p2) (own_max p3 p4))), .val (.int y3), .val (.int y1), .val (.int y2), .val (.ref b34), .val (.int (0 : Int32))] [(.int (0 : Int32))])) t
      refine XS.iload X42.here hx rfl (hb hby at_129) rfl ?_
      show Steps p.tables e below (T42.setTop (mkF m 131 #[.val (.int p1), .val (.int p2), .val (.int p3), .val (.int p4), .val (.int p5), .val (.int p6), .val (.int cnt), .val (.int cp), .val (.int (own_min p1 p2)), .val (.int (own_max p1 p2)), .val (.int (own_min p3 p4)), .val (.int (own_max p3 p4)), .val (.int y0), .val (.int (own_max (own_min p1 p2) (own_min p3 p4))), .val (.int (own_min (own_max p1 p2) (own_max p3 p4))), .val (.int y3), .val (.int y1), .val (.int y2), .val (.ref b34), .val (.int (0 : Int32))] [(.int y0), (.int (0 : Int32))])) t
      refine XS.iload X42.here hx rfl (hb hby at_131) rfl ?_
      show Steps p.tables e below (T42.setTop (mkF m 133 #[.val (.int p1), .val (.int p2), .val (.int p3), .val (.int p4), .val (.int p5), .val (.int p6), .val (.int cnt), .val (.int cp), .val (.int (own_min p1 p2)), .val (.int (own_max p1 p2)), .val (.int (own_min p3 p4)), .val (.int (own_max p3 p4)), .val (.int y0), .val (.int (own_max (own_min p1 p2) (own_min p3 p4))), .val (.int (own_min (own_max p1 p2) (own_max p3 p4))), .val (.int y3), .val (.int y1), .val (.int y2), .val (.ref b34), .val (.int (0 : Int32))] [(.int p5), (.int y0), (.int (0 : Int32))])) t
      exact k)
    obtain ⟨_, _, ⟨T45, L45, k45, n45⟩, -, X45, ⟨Lc45, hQ45, l45, y45, z45⟩, st45⟩ := Jvm.LawKit.callS X42 hx (y := (⟨"com/example/interlace/interlace/core/IntColumnFirstAbovePinLaw", "le", "(II)I"⟩ : MethodName)) hown (mvT hZ (hw _ (List.mem_of_getElem? (i := 26) rfl))) (mvT hZ (hw _ (List.mem_of_getElem? (i := 27) rfl))) (mvT hZ (hw _ (List.mem_of_getElem? (i := 28) rfl))) (mvT hZ (hw _ (List.mem_of_getElem? (i := 29) rfl))) (by decide) (backOf (W := 1) (rm6 l Z a0 hw [] y0 p5 T42.heap n0 sz42 ) hZ (hw _ (List.mem_of_getElem? (i := 29) rfl)) (hw _ (List.mem_of_getElem? (i := 28) rfl)) (by decide) (by decide)) (g := (mkF m 133 #[.val (.int p1), .val (.int p2), .val (.int p3), .val (.int p4), .val (.int p5), .val (.int p6), .val (.int cnt), .val (.int cp), .val (.int (own_min p1 p2)), .val (.int (own_max p1 p2)), .val (.int (own_min p3 p4)), .val (.int (own_max p3 p4)), .val (.int y0), .val (.int (own_max (own_min p1 p2) (own_min p3 p4))), .val (.int (own_min (own_max p1 p2) (own_max p3 p4))), .val (.int y3), .val (.int y1), .val (.int y2), .val (.ref b34), .val (.int (0 : Int32))] [(.int p5), (.int y0), (.int (0 : Int32))])) rfl (by rw [hml]; rfl) (argsL := [(.int y0), (.int p5)]) (rest := [(.int (0 : Int32))]) (lenOf pd_oIIcI rfl) rfl (by show 2 * 0 + _ ≤ _; exact Nat.le_of_eq rfl) (hb hby at_133) (fun _ _ => ⟨rfl, rfl, (by decide : 2 + 0 ≤ _), (by decide : 6 + 0 ≤ _)⟩)
    dsimp only [Pt.U, Pt.locs, Pt.cells, Pt.slots] at X45 l45 y45 z45 st45 hQ45
    subst l45 y45 z45
    obtain ⟨rfl, N45q, eh45⟩ := hQ45
    have N45 := Fr.app N42 N45q
    have pre46 : ∀ t, Steps p.tables e below (T45.setTop (mkF m 136 #[.val (.int p1), .val (.int p2), .val (.int p3), .val (.int p4), .val (.int p5), .val (.int p6), .val (.int cnt), .val (.int cp), .val (.int (own_min p1 p2)), .val (.int (own_max p1 p2)), .val (.int (own_min p3 p4)), .val (.int (own_max p3 p4)), .val (.int y0), .val (.int (own_max (own_min p1 p2) (own_min p3 p4))), .val (.int (own_min (own_max p1 p2) (own_max p3 p4))), .val (.int y3), .val (.int y1), .val (.int y2), .val (.ref b34), .val (.int (0 : Int32))] [(.int (own_le y0 p5)), (.int (0 : Int32))])) t → Steps p.tables e below (s₁.setTop (entryFrame m #[(.int p1), (.int p2), (.int p3), (.int p4), (.int p5), (.int p6)] maxLocals)) t := fun t k => pre44 t (st45 _ k)
    have pre48 : ∀ t, Steps p.tables e below (T45.setTop (mkF m 142 #[.val (.int p1), .val (.int p2), .val (.int p3), .val (.int p4), .val (.int p5), .val (.int p6), .val (.int cnt), .val (.int cp), .val (.int (own_min p1 p2)), .val (.int (own_max p1 p2)), .val (.int (own_min p3 p4)), .val (.int (own_max p3 p4)), .val (.int y0), .val (.int (own_max (own_min p1 p2) (own_min p3 p4))), .val (.int (own_min (own_max p1 p2) (own_max p3 p4))), .val (.int y3), .val (.int y1), .val (.int y2), .val (.ref b34), .val (.int ((0 : Int32) + (own_le y0 p5)))] [(.int (1 : Int32)), (.int cnt)])) t → Steps p.tables e below (s₁.setTop (entryFrame m #[(.int p1), (.int p2), (.int p3), (.int p4), (.int p5), (.int p6)] maxLocals)) t := fun t k => pre46 t (by
      show Steps p.tables e below (T45.setTop (mkF m 136 #[.val (.int p1), .val (.int p2), .val (.int p3), .val (.int p4), .val (.int p5), .val (.int p6), .val (.int cnt), .val (.int cp), .val (.int (own_min p1 p2)), .val (.int (own_max p1 p2)), .val (.int (own_min p3 p4)), .val (.int (own_max p3 p4)), .val (.int y0), .val (.int (own_max (own_min p1 p2) (own_min p3 p4))), .val (.int (own_min (own_max p1 p2) (own_max p3 p4))), .val (.int y3), .val (.int y1), .val (.int y2), .val (.ref b34), .val (.int (0 : Int32))] [(.int (own_le y0 p5)), (.int (0 : Int32))])) t
      refine XS.iadd X45.here hx rfl (hb hby at_136) rfl ?_
      show Steps p.tables e below (T45.setTop (mkF m 137 #[.val (.int p1), .val (.int p2), .val (.int p3), .val (.int p4), .val (.int p5), .val (.int p6), .val (.int cnt), .val (.int cp), .val (.int (own_min p1 p2)), .val (.int (own_max p1 p2)), .val (.int (own_min p3 p4)), .val (.int (own_max p3 p4)), .val (.int y0), .val (.int (own_max (own_min p1 p2) (own_min p3 p4))), .val (.int (own_min (own_max p1 p2) (own_max p3 p4))), .val (.int y3), .val (.int y1), .val (.int y2), .val (.ref b34), .val (.int (0 : Int32))] [(.int ((0 : Int32) + (own_le y0 p5)))])) t
      refine XS.istore X45.here hx rfl (hb hby at_137) rfl (l' := #[.val (.int p1), .val (.int p2), .val (.int p3), .val (.int p4), .val (.int p5), .val (.int p6), .val (.int cnt), .val (.int cp), .val (.int (own_min p1 p2)), .val (.int (own_max p1 p2)), .val (.int (own_min p3 p4)), .val (.int (own_max p3 p4)), .val (.int y0), .val (.int (own_max (own_min p1 p2) (own_min p3 p4))), .val (.int (own_min (own_max p1 p2) (own_max p3 p4))), .val (.int y3), .val (.int y1), .val (.int y2), .val (.ref b34), .val (.int ((0 : Int32) + (own_le y0 p5)))]) rfl ?_
      show Steps p.tables e below (T45.setTop (mkF m 139 #[.val (.int p1), .val (.int p2), .val (.int p3), .val (.int p4), .val (.int p5), .val (.int p6), .val (.int cnt), .val (.int cp), .val (.int (own_min p1 p2)), .val (.int (own_max p1 p2)), .val (.int (own_min p3 p4)), .val (.int (own_max p3 p4)), .val (.int y0), .val (.int (own_max (own_min p1 p2) (own_min p3 p4))), .val (.int (own_min (own_max p1 p2) (own_max p3 p4))), .val (.int y3), .val (.int y1), .val (.int y2), .val (.ref b34), .val (.int ((0 : Int32) + (own_le y0 p5)))] [])) t
      refine XS.iload X45.here hx rfl (hb hby at_139) rfl ?_
      show Steps p.tables e below (T45.setTop (mkF m 141 #[.val (.int p1), .val (.int p2), .val (.int p3), .val (.int p4), .val (.int p5), .val (.int p6), .val (.int cnt), .val (.int cp), .val (.int (own_min p1 p2)), .val (.int (own_max p1 p2)), .val (.int (own_min p3 p4)), .val (.int (own_max p3 p4)), .val (.int y0), .val (.int (own_max (own_min p1 p2) (own_min p3 p4))), .val (.int (own_min (own_max p1 p2) (own_max p3 p4))), .val (.int y3), .val (.int y1), .val (.int y2), .val (.ref b34), .val (.int ((0 : Int32) + (own_le y0 p5)))] [(.int cnt)])) t
      refine XS.iconst X45.here hx rfl (hb hby at_141) ?_
      show Steps p.tables e below (T45.setTop (mkF m 142 #[.val (.int p1), .val (.int p2), .val (.int p3), .val (.int p4), .val (.int p5), .val (.int p6), .val (.int cnt), .val (.int cp), .val (.int (own_min p1 p2)), .val (.int (own_max p1 p2)), .val (.int (own_min p3 p4)), .val (.int (own_max p3 p4)), .val (.int y0), .val (.int (own_max (own_min p1 p2) (own_min p3 p4))), .val (.int (own_min (own_max p1 p2) (own_max p3 p4))), .val (.int y3), .val (.int y1), .val (.int y2), .val (.ref b34), .val (.int ((0 : Int32) + (own_le y0 p5)))] [(.int (1 : Int32)), (.int cnt)])) t
      exact k)
    by_cases hc142_47 : (1 : Int32) < cnt
    · skip
      have pre49 : ∀ t, Steps p.tables e below (T45.setTop (mkF m 149 #[.val (.int p1), .val (.int p2), .val (.int p3), .val (.int p4), .val (.int p5), .val (.int p6), .val (.int cnt), .val (.int cp), .val (.int (own_min p1 p2)), .val (.int (own_max p1 p2)), .val (.int (own_min p3 p4)), .val (.int (own_max p3 p4)), .val (.int y0), .val (.int (own_max (own_min p1 p2) (own_min p3 p4))), .val (.int (own_min (own_max p1 p2) (own_max p3 p4))), .val (.int y3), .val (.int y1), .val (.int y2), .val (.ref b34), .val (.int ((0 : Int32) + (own_le y0 p5)))] [(.int y1), (.ref b34)])) t → Steps p.tables e below (s₁.setTop (entryFrame m #[(.int p1), (.int p2), (.int p3), (.int p4), (.int p5), (.int p6)] maxLocals)) t := fun t k => pre48 t (by
        show Steps p.tables e below (T45.setTop (mkF m 142 #[.val (.int p1), .val (.int p2), .val (.int p3), .val (.int p4), .val (.int p5), .val (.int p6), .val (.int cnt), .val (.int cp), .val (.int (own_min p1 p2)), .val (.int (own_max p1 p2)), .val (.int (own_min p3 p4)), .val (.int (own_max p3 p4)), .val (.int y0), .val (.int (own_max (own_min p1 p2) (own_min p3 p4))), .val (.int (own_min (own_max p1 p2) (own_max p3 p4))), .val (.int y3), .val (.int y1), .val (.int y2), .val (.ref b34), .val (.int ((0 : Int32) + (own_le y0 p5)))] [(.int (1 : Int32)), (.int cnt)])) t
        refine XS.icmpNo X45.here hx rfl (hb hby at_142) rfl (XT.ii_le_f hc142_47) ?_
        show Steps p.tables e below (T45.setTop (mkF m 145 #[.val (.int p1), .val (.int p2), .val (.int p3), .val (.int p4), .val (.int p5), .val (.int p6), .val (.int cnt), .val (.int cp), .val (.int (own_min p1 p2)), .val (.int (own_max p1 p2)), .val (.int (own_min p3 p4)), .val (.int (own_max p3 p4)), .val (.int y0), .val (.int (own_max (own_min p1 p2) (own_min p3 p4))), .val (.int (own_min (own_max p1 p2) (own_max p3 p4))), .val (.int y3), .val (.int y1), .val (.int y2), .val (.ref b34), .val (.int ((0 : Int32) + (own_le y0 p5)))] [])) t
        refine XS.aload X45.here hx rfl (hb hby at_145) rfl rfl ?_
        show Steps p.tables e below (T45.setTop (mkF m 147 #[.val (.int p1), .val (.int p2), .val (.int p3), .val (.int p4), .val (.int p5), .val (.int p6), .val (.int cnt), .val (.int cp), .val (.int (own_min p1 p2)), .val (.int (own_max p1 p2)), .val (.int (own_min p3 p4)), .val (.int (own_max p3 p4)), .val (.int y0), .val (.int (own_max (own_min p1 p2) (own_min p3 p4))), .val (.int (own_min (own_max p1 p2) (own_max p3 p4))), .val (.int y3), .val (.int y1), .val (.int y2), .val (.ref b34), .val (.int ((0 : Int32) + (own_le y0 p5)))] [(.ref b34)])) t
        refine XS.iload X45.here hx rfl (hb hby at_147) rfl ?_
        show Steps p.tables e below (T45.setTop (mkF m 149 #[.val (.int p1), .val (.int p2), .val (.int p3), .val (.int p4), .val (.int p5), .val (.int p6), .val (.int cnt), .val (.int cp), .val (.int (own_min p1 p2)), .val (.int (own_max p1 p2)), .val (.int (own_min p3 p4)), .val (.int (own_max p3 p4)), .val (.int y0), .val (.int (own_max (own_min p1 p2) (own_min p3 p4))), .val (.int (own_min (own_max p1 p2) (own_max p3 p4))), .val (.int y3), .val (.int y1), .val (.int y2), .val (.ref b34), .val (.int ((0 : Int32) + (own_le y0 p5)))] [(.int y1), (.ref b34)])) t
        exact k)
      obtain ⟨cq50, kq50, q50a, q50b, q50c⟩ := isOf hZ eh45 P42_1
      obtain ⟨_, _, ⟨T50, L50, k50, n50⟩, -, X50, ⟨Lc50, hQ50, l50, y50, z50⟩, st50⟩ := X45.virtualBack hx (y := (⟨"com/example/interlace/interlace/core/IntColumn", "add", "(I)V"⟩ : MethodName)) (z := (⟨"com/example/interlace/interlace/core/IntColumn", "add", "(I)V"⟩ : MethodName)) hown (mvT hZ (hw _ (List.mem_of_getElem? (i := 19) rfl))) (mvT hZ (hw _ (List.mem_of_getElem? (i := 20) rfl))) (notFace_of_selects (args := #[]) (mvT hZ (hw _ (List.mem_of_getElem? (i := 22) rfl)))) (mvT hZ (hw _ (List.mem_of_getElem? (i := 22) rfl))) (mvT hZ (hw _ (List.mem_of_getElem? (i := 21) rfl))) (by decide) (backOf (W := 0) (rmAD1 l Z a0 hw [] b34 y1 ar2_42 kk2_42 cap2_42 y0 T42.heap n0 sz42 P42_1 P42_2 P42_3 P42_4 g_b34 P42_5 P42_6 (show ¬ cap2_42 < (1 : Int32) from P42_7) (show ¬ cap2_42 < (1 : Int32) from P42_8)) hZ (hw _ (List.mem_of_getElem? (i := 23) rfl)) (hw _ (List.mem_of_getElem? (i := 9) rfl)) (by decide) (by decide)) q50a q50c (g := (mkF m 149 #[.val (.int p1), .val (.int p2), .val (.int p3), .val (.int p4), .val (.int p5), .val (.int p6), .val (.int cnt), .val (.int cp), .val (.int (own_min p1 p2)), .val (.int (own_max p1 p2)), .val (.int (own_min p3 p4)), .val (.int (own_max p3 p4)), .val (.int y0), .val (.int (own_max (own_min p1 p2) (own_min p3 p4))), .val (.int (own_min (own_max p1 p2) (own_max p3 p4))), .val (.int y3), .val (.int y1), .val (.int y2), .val (.ref b34), .val (.int ((0 : Int32) + (own_le y0 p5)))] [(.int y1), (.ref b34)])) rfl (by rw [hml]; rfl) (Steps.refl _) (argsL := [(.int y1)]) (rest := []) (lenOf pd_oIcV rfl) rfl (by show 2 * 0 + _ ≤ _; exact Nat.le_of_eq rfl) (hb hby at_149) (fun _ _ => ⟨rfl, eh45, (by decide : 2 + 1 ≤ _), (by decide : 6 + 2 ≤ _)⟩)
      dsimp only [Pt.U, Pt.locs, Pt.cells, Pt.slots] at X50 l50 y50 z50 st50 hQ50
      subst l50 y50 z50
      obtain ⟨ar2_50, kk2_50, cap2_50, rfl, N50q, Kq50, P50_1, P50_2, P50_3, P50_4, P50_5, P50_6, P50_7, P50_8⟩ := hQ50
      have sz50 : n0 ≤ T50.heap.size := Nat.le_trans sz42 Kq50.1
      have N50 := Fr.app N45 N50q
      have pre51 : ∀ t, Steps p.tables e below (T50.setTop (mkF m 152 #[.val (.int p1), .val (.int p2), .val (.int p3), .val (.int p4), .val (.int p5), .val (.int p6), .val (.int cnt), .val (.int cp), .val (.int (own_min p1 p2)), .val (.int (own_max p1 p2)), .val (.int (own_min p3 p4)), .val (.int (own_max p3 p4)), .val (.int y0), .val (.int (own_max (own_min p1 p2) (own_min p3 p4))), .val (.int (own_min (own_max p1 p2) (own_max p3 p4))), .val (.int y3), .val (.int y1), .val (.int y2), .val (.ref b34), .val (.int ((0 : Int32) + (own_le y0 p5)))] [])) t → Steps p.tables e below (s₁.setTop (entryFrame m #[(.int p1), (.int p2), (.int p3), (.int p4), (.int p5), (.int p6)] maxLocals)) t := fun t k => pre49 t (st50.trans k)
      have pre52 : ∀ t, Steps p.tables e below (T50.setTop (mkF m 158 #[.val (.int p1), .val (.int p2), .val (.int p3), .val (.int p4), .val (.int p5), .val (.int p6), .val (.int cnt), .val (.int cp), .val (.int (own_min p1 p2)), .val (.int (own_max p1 p2)), .val (.int (own_min p3 p4)), .val (.int (own_max p3 p4)), .val (.int y0), .val (.int (own_max (own_min p1 p2) (own_min p3 p4))), .val (.int (own_min (own_max p1 p2) (own_max p3 p4))), .val (.int y3), .val (.int y1), .val (.int y2), .val (.ref b34), .val (.int ((0 : Int32) + (own_le y0 p5)))] [(.int p5), (.int y1), (.int ((0 : Int32) + (own_le y0 p5)))])) t → Steps p.tables e below (s₁.setTop (entryFrame m #[(.int p1), (.int p2), (.int p3), (.int p4), (.int p5), (.int p6)] maxLocals)) t := fun t k => pre51 t (by
        show Steps p.tables e below (T50.setTop (mkF m 152 #[.val (.int p1), .val (.int p2), .val (.int p3), .val (.int p4), .val (.int p5), .val (.int p6), .val (.int cnt), .val (.int cp), .val (.int (own_min p1 p2)), .val (.int (own_max p1 p2)), .val (.int (own_min p3 p4)), .val (.int (own_max p3 p4)), .val (.int y0), .val (.int (own_max (own_min p1 p2) (own_min p3 p4))), .val (.int (own_min (own_max p1 p2) (own_max p3 p4))), .val (.int y3), .val (.int y1), .val (.int y2), .val (.ref b34), .val (.int ((0 : Int32) + (own_le y0 p5)))] [])) t
        refine XS.iload X50.here hx rfl (hb hby at_152) rfl ?_
        show Steps p.tables e below (T50.setTop (mkF m 154 #[.val (.int p1), .val (.int p2), .val (.int p3), .val (.int p4), .val (.int p5), .val (.int p6), .val (.int cnt), .val (.int cp), .val (.int (own_min p1 p2)), .val (.int (own_max p1 p2)), .val (.int (own_min p3 p4)), .val (.int (own_max p3 p4)), .val (.int y0), .val (.int (own_max (own_min p1 p2) (own_min p3 p4))), .val (.int (own_min (own_max p1 p2) (own_max p3 p4))), .val (.int y3), .val (.int y1), .val (.int y2), .val (.ref b34), .val (.int ((0 : Int32) + (own_le y0 p5)))] [(.int ((0 : Int32) + (own_le y0 p5)))])) t
        refine XS.iload X50.here hx rfl (hb hby at_154) rfl ?_
        show Steps p.tables e below (T50.setTop (mkF m 156 #[.val (.int p1), .val (.int p2), .val (.int p3), .val (.int p4), .val (.int p5), .val (.int p6), .val (.int cnt), .val (.int cp), .val (.int (own_min p1 p2)), .val (.int (own_max p1 p2)), .val (.int (own_min p3 p4)), .val (.int (own_max p3 p4)), .val (.int y0), .val (.int (own_max (own_min p1 p2) (own_min p3 p4))), .val (.int (own_min (own_max p1 p2) (own_max p3 p4))), .val (.int y3), .val (.int y1), .val (.int y2), .val (.ref b34), .val (.int ((0 : Int32) + (own_le y0 p5)))] [(.int y1), (.int ((0 : Int32) + (own_le y0 p5)))])) t
        refine XS.iload X50.here hx rfl (hb hby at_156) rfl ?_
        show Steps p.tables e below (T50.setTop (mkF m 158 #[.val (.int p1), .val (.int p2), .val (.int p3), .val (.int p4), .val (.int p5), .val (.int p6), .val (.int cnt), .val (.int cp), .val (.int (own_min p1 p2)), .val (.int (own_max p1 p2)), .val (.int (own_min p3 p4)), .val (.int (own_max p3 p4)), .val (.int y0), .val (.int (own_max (own_min p1 p2) (own_min p3 p4))), .val (.int (own_min (own_max p1 p2) (own_max p3 p4))), .val (.int y3), .val (.int y1), .val (.int y2), .val (.ref b34), .val (.int ((0 : Int32) + (own_le y0 p5)))] [(.int p5), (.int y1), (.int ((0 : Int32) + (own_le y0 p5)))])) t
        exact k)
      obtain ⟨_, _, ⟨T53, L53, k53, n53⟩, -, X53, ⟨Lc53, hQ53, l53, y53, z53⟩, st53⟩ := Jvm.LawKit.callS X50 hx (y := (⟨"com/example/interlace/interlace/core/IntColumnFirstAbovePinLaw", "le", "(II)I"⟩ : MethodName)) hown (mvT hZ (hw _ (List.mem_of_getElem? (i := 26) rfl))) (mvT hZ (hw _ (List.mem_of_getElem? (i := 27) rfl))) (mvT hZ (hw _ (List.mem_of_getElem? (i := 28) rfl))) (mvT hZ (hw _ (List.mem_of_getElem? (i := 29) rfl))) (by decide) (backOf (W := 1) (rm6 l Z a0 hw [] y1 p5 T50.heap n0 sz50 ) hZ (hw _ (List.mem_of_getElem? (i := 29) rfl)) (hw _ (List.mem_of_getElem? (i := 28) rfl)) (by decide) (by decide)) (g := (mkF m 158 #[.val (.int p1), .val (.int p2), .val (.int p3), .val (.int p4), .val (.int p5), .val (.int p6), .val (.int cnt), .val (.int cp), .val (.int (own_min p1 p2)), .val (.int (own_max p1 p2)), .val (.int (own_min p3 p4)), .val (.int (own_max p3 p4)), .val (.int y0), .val (.int (own_max (own_min p1 p2) (own_min p3 p4))), .val (.int (own_min (own_max p1 p2) (own_max p3 p4))), .val (.int y3), .val (.int y1), .val (.int y2), .val (.ref b34), .val (.int ((0 : Int32) + (own_le y0 p5)))] [(.int p5), (.int y1), (.int ((0 : Int32) + (own_le y0 p5)))])) rfl (by rw [hml]; rfl) (argsL := [(.int y1), (.int p5)]) (rest := [(.int ((0 : Int32) + (own_le y0 p5)))]) (lenOf pd_oIIcI rfl) rfl (by show 2 * 0 + _ ≤ _; exact Nat.le_of_eq rfl) (hb hby at_158) (fun _ _ => ⟨rfl, rfl, (by decide : 3 + 0 ≤ _), (by decide : 8 + 0 ≤ _)⟩)
      dsimp only [Pt.U, Pt.locs, Pt.cells, Pt.slots] at X53 l53 y53 z53 st53 hQ53
      subst l53 y53 z53
      obtain ⟨rfl, N53q, eh53⟩ := hQ53
      have N53 := Fr.app N50 N53q
      have pre54 : ∀ t, Steps p.tables e below (T53.setTop (mkF m 161 #[.val (.int p1), .val (.int p2), .val (.int p3), .val (.int p4), .val (.int p5), .val (.int p6), .val (.int cnt), .val (.int cp), .val (.int (own_min p1 p2)), .val (.int (own_max p1 p2)), .val (.int (own_min p3 p4)), .val (.int (own_max p3 p4)), .val (.int y0), .val (.int (own_max (own_min p1 p2) (own_min p3 p4))), .val (.int (own_min (own_max p1 p2) (own_max p3 p4))), .val (.int y3), .val (.int y1), .val (.int y2), .val (.ref b34), .val (.int ((0 : Int32) + (own_le y0 p5)))] [(.int (own_le y1 p5)), (.int ((0 : Int32) + (own_le y0 p5)))])) t → Steps p.tables e below (s₁.setTop (entryFrame m #[(.int p1), (.int p2), (.int p3), (.int p4), (.int p5), (.int p6)] maxLocals)) t := fun t k => pre52 t (st53 _ k)
      have pre56 : ∀ t, Steps p.tables e below (T53.setTop (mkF m 167 #[.val (.int p1), .val (.int p2), .val (.int p3), .val (.int p4), .val (.int p5), .val (.int p6), .val (.int cnt), .val (.int cp), .val (.int (own_min p1 p2)), .val (.int (own_max p1 p2)), .val (.int (own_min p3 p4)), .val (.int (own_max p3 p4)), .val (.int y0), .val (.int (own_max (own_min p1 p2) (own_min p3 p4))), .val (.int (own_min (own_max p1 p2) (own_max p3 p4))), .val (.int y3), .val (.int y1), .val (.int y2), .val (.ref b34), .val (.int (((0 : Int32) + (own_le y0 p5)) + (own_le y1 p5)))] [(.int (2 : Int32)), (.int cnt)])) t → Steps p.tables e below (s₁.setTop (entryFrame m #[(.int p1), (.int p2), (.int p3), (.int p4), (.int p5), (.int p6)] maxLocals)) t := fun t k => pre54 t (by
        show Steps p.tables e below (T53.setTop (mkF m 161 #[.val (.int p1), .val (.int p2), .val (.int p3), .val (.int p4), .val (.int p5), .val (.int p6), .val (.int cnt), .val (.int cp), .val (.int (own_min p1 p2)), .val (.int (own_max p1 p2)), .val (.int (own_min p3 p4)), .val (.int (own_max p3 p4)), .val (.int y0), .val (.int (own_max (own_min p1 p2) (own_min p3 p4))), .val (.int (own_min (own_max p1 p2) (own_max p3 p4))), .val (.int y3), .val (.int y1), .val (.int y2), .val (.ref b34), .val (.int ((0 : Int32) + (own_le y0 p5)))] [(.int (own_le y1 p5)), (.int ((0 : Int32) + (own_le y0 p5)))])) t
        refine XS.iadd X53.here hx rfl (hb hby at_161) rfl ?_
        show Steps p.tables e below (T53.setTop (mkF m 162 #[.val (.int p1), .val (.int p2), .val (.int p3), .val (.int p4), .val (.int p5), .val (.int p6), .val (.int cnt), .val (.int cp), .val (.int (own_min p1 p2)), .val (.int (own_max p1 p2)), .val (.int (own_min p3 p4)), .val (.int (own_max p3 p4)), .val (.int y0), .val (.int (own_max (own_min p1 p2) (own_min p3 p4))), .val (.int (own_min (own_max p1 p2) (own_max p3 p4))), .val (.int y3), .val (.int y1), .val (.int y2), .val (.ref b34), .val (.int ((0 : Int32) + (own_le y0 p5)))] [(.int (((0 : Int32) + (own_le y0 p5)) + (own_le y1 p5)))])) t
        refine XS.istore X53.here hx rfl (hb hby at_162) rfl (l' := #[.val (.int p1), .val (.int p2), .val (.int p3), .val (.int p4), .val (.int p5), .val (.int p6), .val (.int cnt), .val (.int cp), .val (.int (own_min p1 p2)), .val (.int (own_max p1 p2)), .val (.int (own_min p3 p4)), .val (.int (own_max p3 p4)), .val (.int y0), .val (.int (own_max (own_min p1 p2) (own_min p3 p4))), .val (.int (own_min (own_max p1 p2) (own_max p3 p4))), .val (.int y3), .val (.int y1), .val (.int y2), .val (.ref b34), .val (.int (((0 : Int32) + (own_le y0 p5)) + (own_le y1 p5)))]) rfl ?_
        show Steps p.tables e below (T53.setTop (mkF m 164 #[.val (.int p1), .val (.int p2), .val (.int p3), .val (.int p4), .val (.int p5), .val (.int p6), .val (.int cnt), .val (.int cp), .val (.int (own_min p1 p2)), .val (.int (own_max p1 p2)), .val (.int (own_min p3 p4)), .val (.int (own_max p3 p4)), .val (.int y0), .val (.int (own_max (own_min p1 p2) (own_min p3 p4))), .val (.int (own_min (own_max p1 p2) (own_max p3 p4))), .val (.int y3), .val (.int y1), .val (.int y2), .val (.ref b34), .val (.int (((0 : Int32) + (own_le y0 p5)) + (own_le y1 p5)))] [])) t
        refine XS.iload X53.here hx rfl (hb hby at_164) rfl ?_
        show Steps p.tables e below (T53.setTop (mkF m 166 #[.val (.int p1), .val (.int p2), .val (.int p3), .val (.int p4), .val (.int p5), .val (.int p6), .val (.int cnt), .val (.int cp), .val (.int (own_min p1 p2)), .val (.int (own_max p1 p2)), .val (.int (own_min p3 p4)), .val (.int (own_max p3 p4)), .val (.int y0), .val (.int (own_max (own_min p1 p2) (own_min p3 p4))), .val (.int (own_min (own_max p1 p2) (own_max p3 p4))), .val (.int y3), .val (.int y1), .val (.int y2), .val (.ref b34), .val (.int (((0 : Int32) + (own_le y0 p5)) + (own_le y1 p5)))] [(.int cnt)])) t
        refine XS.iconst X53.here hx rfl (hb hby at_166) ?_
        show Steps p.tables e below (T53.setTop (mkF m 167 #[.val (.int p1), .val (.int p2), .val (.int p3), .val (.int p4), .val (.int p5), .val (.int p6), .val (.int cnt), .val (.int cp), .val (.int (own_min p1 p2)), .val (.int (own_max p1 p2)), .val (.int (own_min p3 p4)), .val (.int (own_max p3 p4)), .val (.int y0), .val (.int (own_max (own_min p1 p2) (own_min p3 p4))), .val (.int (own_min (own_max p1 p2) (own_max p3 p4))), .val (.int y3), .val (.int y1), .val (.int y2), .val (.ref b34), .val (.int (((0 : Int32) + (own_le y0 p5)) + (own_le y1 p5)))] [(.int (2 : Int32)), (.int cnt)])) t
        exact k)
      by_cases hc167_55 : (2 : Int32) < cnt
      · skip
        have pre57 : ∀ t, Steps p.tables e below (T53.setTop (mkF m 174 #[.val (.int p1), .val (.int p2), .val (.int p3), .val (.int p4), .val (.int p5), .val (.int p6), .val (.int cnt), .val (.int cp), .val (.int (own_min p1 p2)), .val (.int (own_max p1 p2)), .val (.int (own_min p3 p4)), .val (.int (own_max p3 p4)), .val (.int y0), .val (.int (own_max (own_min p1 p2) (own_min p3 p4))), .val (.int (own_min (own_max p1 p2) (own_max p3 p4))), .val (.int y3), .val (.int y1), .val (.int y2), .val (.ref b34), .val (.int (((0 : Int32) + (own_le y0 p5)) + (own_le y1 p5)))] [(.int y2), (.ref b34)])) t → Steps p.tables e below (s₁.setTop (entryFrame m #[(.int p1), (.int p2), (.int p3), (.int p4), (.int p5), (.int p6)] maxLocals)) t := fun t k => pre56 t (by
          show Steps p.tables e below (T53.setTop (mkF m 167 #[.val (.int p1), .val (.int p2), .val (.int p3), .val (.int p4), .val (.int p5), .val (.int p6), .val (.int cnt), .val (.int cp), .val (.int (own_min p1 p2)), .val (.int (own_max p1 p2)), .val (.int (own_min p3 p4)), .val (.int (own_max p3 p4)), .val (.int y0), .val (.int (own_max (own_min p1 p2) (own_min p3 p4))), .val (.int (own_min (own_max p1 p2) (own_max p3 p4))), .val (.int y3), .val (.int y1), .val (.int y2), .val (.ref b34), .val (.int (((0 : Int32) + (own_le y0 p5)) + (own_le y1 p5)))] [(.int (2 : Int32)), (.int cnt)])) t
          refine XS.icmpNo X53.here hx rfl (hb hby at_167) rfl (XT.ii_le_f hc167_55) ?_
          show Steps p.tables e below (T53.setTop (mkF m 170 #[.val (.int p1), .val (.int p2), .val (.int p3), .val (.int p4), .val (.int p5), .val (.int p6), .val (.int cnt), .val (.int cp), .val (.int (own_min p1 p2)), .val (.int (own_max p1 p2)), .val (.int (own_min p3 p4)), .val (.int (own_max p3 p4)), .val (.int y0), .val (.int (own_max (own_min p1 p2) (own_min p3 p4))), .val (.int (own_min (own_max p1 p2) (own_max p3 p4))), .val (.int y3), .val (.int y1), .val (.int y2), .val (.ref b34), .val (.int (((0 : Int32) + (own_le y0 p5)) + (own_le y1 p5)))] [])) t
          refine XS.aload X53.here hx rfl (hb hby at_170) rfl rfl ?_
          show Steps p.tables e below (T53.setTop (mkF m 172 #[.val (.int p1), .val (.int p2), .val (.int p3), .val (.int p4), .val (.int p5), .val (.int p6), .val (.int cnt), .val (.int cp), .val (.int (own_min p1 p2)), .val (.int (own_max p1 p2)), .val (.int (own_min p3 p4)), .val (.int (own_max p3 p4)), .val (.int y0), .val (.int (own_max (own_min p1 p2) (own_min p3 p4))), .val (.int (own_min (own_max p1 p2) (own_max p3 p4))), .val (.int y3), .val (.int y1), .val (.int y2), .val (.ref b34), .val (.int (((0 : Int32) + (own_le y0 p5)) + (own_le y1 p5)))] [(.ref b34)])) t
          refine XS.iload X53.here hx rfl (hb hby at_172) rfl ?_
          show Steps p.tables e below (T53.setTop (mkF m 174 #[.val (.int p1), .val (.int p2), .val (.int p3), .val (.int p4), .val (.int p5), .val (.int p6), .val (.int cnt), .val (.int cp), .val (.int (own_min p1 p2)), .val (.int (own_max p1 p2)), .val (.int (own_min p3 p4)), .val (.int (own_max p3 p4)), .val (.int y0), .val (.int (own_max (own_min p1 p2) (own_min p3 p4))), .val (.int (own_min (own_max p1 p2) (own_max p3 p4))), .val (.int y3), .val (.int y1), .val (.int y2), .val (.ref b34), .val (.int (((0 : Int32) + (own_le y0 p5)) + (own_le y1 p5)))] [(.int y2), (.ref b34)])) t
          exact k)
        obtain ⟨cq58, kq58, q58a, q58b, q58c⟩ := isOf hZ eh53 P50_1
        obtain ⟨_, _, ⟨T58, L58, k58, n58⟩, -, X58, ⟨Lc58, hQ58, l58, y58, z58⟩, st58⟩ := X53.virtualBack hx (y := (⟨"com/example/interlace/interlace/core/IntColumn", "add", "(I)V"⟩ : MethodName)) (z := (⟨"com/example/interlace/interlace/core/IntColumn", "add", "(I)V"⟩ : MethodName)) hown (mvT hZ (hw _ (List.mem_of_getElem? (i := 19) rfl))) (mvT hZ (hw _ (List.mem_of_getElem? (i := 20) rfl))) (notFace_of_selects (args := #[]) (mvT hZ (hw _ (List.mem_of_getElem? (i := 22) rfl)))) (mvT hZ (hw _ (List.mem_of_getElem? (i := 22) rfl))) (mvT hZ (hw _ (List.mem_of_getElem? (i := 21) rfl))) (by decide) (backOf (W := 0) (rmAD2 l Z a0 hw [] b34 y2 ar2_50 kk2_50 cap2_50 y0 y1 T50.heap n0 sz50 P50_1 P50_2 P50_3 P50_4 g_b34 P50_5 P50_6 (show ¬ cap2_50 < (2 : Int32) from P50_7) (show ¬ cap2_50 < (1 : Int32) from P50_8)) hZ (hw _ (List.mem_of_getElem? (i := 23) rfl)) (hw _ (List.mem_of_getElem? (i := 9) rfl)) (by decide) (by decide)) q58a q58c (g := (mkF m 174 #[.val (.int p1), .val (.int p2), .val (.int p3), .val (.int p4), .val (.int p5), .val (.int p6), .val (.int cnt), .val (.int cp), .val (.int (own_min p1 p2)), .val (.int (own_max p1 p2)), .val (.int (own_min p3 p4)), .val (.int (own_max p3 p4)), .val (.int y0), .val (.int (own_max (own_min p1 p2) (own_min p3 p4))), .val (.int (own_min (own_max p1 p2) (own_max p3 p4))), .val (.int y3), .val (.int y1), .val (.int y2), .val (.ref b34), .val (.int (((0 : Int32) + (own_le y0 p5)) + (own_le y1 p5)))] [(.int y2), (.ref b34)])) rfl (by rw [hml]; rfl) (Steps.refl _) (argsL := [(.int y2)]) (rest := []) (lenOf pd_oIcV rfl) rfl (by show 2 * 0 + _ ≤ _; exact Nat.le_of_eq rfl) (hb hby at_174) (fun _ _ => ⟨rfl, eh53, (by decide : 3 + 1 ≤ _), (by decide : 8 + 4 ≤ _)⟩)
        dsimp only [Pt.U, Pt.locs, Pt.cells, Pt.slots] at X58 l58 y58 z58 st58 hQ58
        subst l58 y58 z58
        obtain ⟨ar2_58, kk2_58, cap2_58, rfl, N58q, Kq58, P58_1, P58_2, P58_3, P58_4, P58_5, P58_6, P58_7, P58_8⟩ := hQ58
        have sz58 : n0 ≤ T58.heap.size := Nat.le_trans sz50 Kq58.1
        have N58 := Fr.app N53 N58q
        have pre59 : ∀ t, Steps p.tables e below (T58.setTop (mkF m 177 #[.val (.int p1), .val (.int p2), .val (.int p3), .val (.int p4), .val (.int p5), .val (.int p6), .val (.int cnt), .val (.int cp), .val (.int (own_min p1 p2)), .val (.int (own_max p1 p2)), .val (.int (own_min p3 p4)), .val (.int (own_max p3 p4)), .val (.int y0), .val (.int (own_max (own_min p1 p2) (own_min p3 p4))), .val (.int (own_min (own_max p1 p2) (own_max p3 p4))), .val (.int y3), .val (.int y1), .val (.int y2), .val (.ref b34), .val (.int (((0 : Int32) + (own_le y0 p5)) + (own_le y1 p5)))] [])) t → Steps p.tables e below (s₁.setTop (entryFrame m #[(.int p1), (.int p2), (.int p3), (.int p4), (.int p5), (.int p6)] maxLocals)) t := fun t k => pre57 t (st58.trans k)
        have pre60 : ∀ t, Steps p.tables e below (T58.setTop (mkF m 183 #[.val (.int p1), .val (.int p2), .val (.int p3), .val (.int p4), .val (.int p5), .val (.int p6), .val (.int cnt), .val (.int cp), .val (.int (own_min p1 p2)), .val (.int (own_max p1 p2)), .val (.int (own_min p3 p4)), .val (.int (own_max p3 p4)), .val (.int y0), .val (.int (own_max (own_min p1 p2) (own_min p3 p4))), .val (.int (own_min (own_max p1 p2) (own_max p3 p4))), .val (.int y3), .val (.int y1), .val (.int y2), .val (.ref b34), .val (.int (((0 : Int32) + (own_le y0 p5)) + (own_le y1 p5)))] [(.int p5), (.int y2), (.int (((0 : Int32) + (own_le y0 p5)) + (own_le y1 p5)))])) t → Steps p.tables e below (s₁.setTop (entryFrame m #[(.int p1), (.int p2), (.int p3), (.int p4), (.int p5), (.int p6)] maxLocals)) t := fun t k => pre59 t (by
          show Steps p.tables e below (T58.setTop (mkF m 177 #[.val (.int p1), .val (.int p2), .val (.int p3), .val (.int p4), .val (.int p5), .val (.int p6), .val (.int cnt), .val (.int cp), .val (.int (own_min p1 p2)), .val (.int (own_max p1 p2)), .val (.int (own_min p3 p4)), .val (.int (own_max p3 p4)), .val (.int y0), .val (.int (own_max (own_min p1 p2) (own_min p3 p4))), .val (.int (own_min (own_max p1 p2) (own_max p3 p4))), .val (.int y3), .val (.int y1), .val (.int y2), .val (.ref b34), .val (.int (((0 : Int32) + (own_le y0 p5)) + (own_le y1 p5)))] [])) t
          refine XS.iload X58.here hx rfl (hb hby at_177) rfl ?_
          show Steps p.tables e below (T58.setTop (mkF m 179 #[.val (.int p1), .val (.int p2), .val (.int p3), .val (.int p4), .val (.int p5), .val (.int p6), .val (.int cnt), .val (.int cp), .val (.int (own_min p1 p2)), .val (.int (own_max p1 p2)), .val (.int (own_min p3 p4)), .val (.int (own_max p3 p4)), .val (.int y0), .val (.int (own_max (own_min p1 p2) (own_min p3 p4))), .val (.int (own_min (own_max p1 p2) (own_max p3 p4))), .val (.int y3), .val (.int y1), .val (.int y2), .val (.ref b34), .val (.int (((0 : Int32) + (own_le y0 p5)) + (own_le y1 p5)))] [(.int (((0 : Int32) + (own_le y0 p5)) + (own_le y1 p5)))])) t
          refine XS.iload X58.here hx rfl (hb hby at_179) rfl ?_
          show Steps p.tables e below (T58.setTop (mkF m 181 #[.val (.int p1), .val (.int p2), .val (.int p3), .val (.int p4), .val (.int p5), .val (.int p6), .val (.int cnt), .val (.int cp), .val (.int (own_min p1 p2)), .val (.int (own_max p1 p2)), .val (.int (own_min p3 p4)), .val (.int (own_max p3 p4)), .val (.int y0), .val (.int (own_max (own_min p1 p2) (own_min p3 p4))), .val (.int (own_min (own_max p1 p2) (own_max p3 p4))), .val (.int y3), .val (.int y1), .val (.int y2), .val (.ref b34), .val (.int (((0 : Int32) + (own_le y0 p5)) + (own_le y1 p5)))] [(.int y2), (.int (((0 : Int32) + (own_le y0 p5)) + (own_le y1 p5)))])) t
          refine XS.iload X58.here hx rfl (hb hby at_181) rfl ?_
          show Steps p.tables e below (T58.setTop (mkF m 183 #[.val (.int p1), .val (.int p2), .val (.int p3), .val (.int p4), .val (.int p5), .val (.int p6), .val (.int cnt), .val (.int cp), .val (.int (own_min p1 p2)), .val (.int (own_max p1 p2)), .val (.int (own_min p3 p4)), .val (.int (own_max p3 p4)), .val (.int y0), .val (.int (own_max (own_min p1 p2) (own_min p3 p4))), .val (.int (own_min (own_max p1 p2) (own_max p3 p4))), .val (.int y3), .val (.int y1), .val (.int y2), .val (.ref b34), .val (.int (((0 : Int32) + (own_le y0 p5)) + (own_le y1 p5)))] [(.int p5), (.int y2), (.int (((0 : Int32) + (own_le y0 p5)) + (own_le y1 p5)))])) t
          exact k)
        obtain ⟨_, _, ⟨T61, L61, k61, n61⟩, -, X61, ⟨Lc61, hQ61, l61, y61, z61⟩, st61⟩ := Jvm.LawKit.callS X58 hx (y := (⟨"com/example/interlace/interlace/core/IntColumnFirstAbovePinLaw", "le", "(II)I"⟩ : MethodName)) hown (mvT hZ (hw _ (List.mem_of_getElem? (i := 26) rfl))) (mvT hZ (hw _ (List.mem_of_getElem? (i := 27) rfl))) (mvT hZ (hw _ (List.mem_of_getElem? (i := 28) rfl))) (mvT hZ (hw _ (List.mem_of_getElem? (i := 29) rfl))) (by decide) (backOf (W := 1) (rm6 l Z a0 hw [] y2 p5 T58.heap n0 sz58 ) hZ (hw _ (List.mem_of_getElem? (i := 29) rfl)) (hw _ (List.mem_of_getElem? (i := 28) rfl)) (by decide) (by decide)) (g := (mkF m 183 #[.val (.int p1), .val (.int p2), .val (.int p3), .val (.int p4), .val (.int p5), .val (.int p6), .val (.int cnt), .val (.int cp), .val (.int (own_min p1 p2)), .val (.int (own_max p1 p2)), .val (.int (own_min p3 p4)), .val (.int (own_max p3 p4)), .val (.int y0), .val (.int (own_max (own_min p1 p2) (own_min p3 p4))), .val (.int (own_min (own_max p1 p2) (own_max p3 p4))), .val (.int y3), .val (.int y1), .val (.int y2), .val (.ref b34), .val (.int (((0 : Int32) + (own_le y0 p5)) + (own_le y1 p5)))] [(.int p5), (.int y2), (.int (((0 : Int32) + (own_le y0 p5)) + (own_le y1 p5)))])) rfl (by rw [hml]; rfl) (argsL := [(.int y2), (.int p5)]) (rest := [(.int (((0 : Int32) + (own_le y0 p5)) + (own_le y1 p5)))]) (lenOf pd_oIIcI rfl) rfl (by show 2 * 0 + _ ≤ _; exact Nat.le_of_eq rfl) (hb hby at_183) (fun _ _ => ⟨rfl, rfl, (by decide : 4 + 0 ≤ _), (by decide : 12 + 0 ≤ _)⟩)
        dsimp only [Pt.U, Pt.locs, Pt.cells, Pt.slots] at X61 l61 y61 z61 st61 hQ61
        subst l61 y61 z61
        obtain ⟨rfl, N61q, eh61⟩ := hQ61
        have N61 := Fr.app N58 N61q
        have pre62 : ∀ t, Steps p.tables e below (T61.setTop (mkF m 186 #[.val (.int p1), .val (.int p2), .val (.int p3), .val (.int p4), .val (.int p5), .val (.int p6), .val (.int cnt), .val (.int cp), .val (.int (own_min p1 p2)), .val (.int (own_max p1 p2)), .val (.int (own_min p3 p4)), .val (.int (own_max p3 p4)), .val (.int y0), .val (.int (own_max (own_min p1 p2) (own_min p3 p4))), .val (.int (own_min (own_max p1 p2) (own_max p3 p4))), .val (.int y3), .val (.int y1), .val (.int y2), .val (.ref b34), .val (.int (((0 : Int32) + (own_le y0 p5)) + (own_le y1 p5)))] [(.int (own_le y2 p5)), (.int (((0 : Int32) + (own_le y0 p5)) + (own_le y1 p5)))])) t → Steps p.tables e below (s₁.setTop (entryFrame m #[(.int p1), (.int p2), (.int p3), (.int p4), (.int p5), (.int p6)] maxLocals)) t := fun t k => pre60 t (st61 _ k)
        have pre64 : ∀ t, Steps p.tables e below (T61.setTop (mkF m 192 #[.val (.int p1), .val (.int p2), .val (.int p3), .val (.int p4), .val (.int p5), .val (.int p6), .val (.int cnt), .val (.int cp), .val (.int (own_min p1 p2)), .val (.int (own_max p1 p2)), .val (.int (own_min p3 p4)), .val (.int (own_max p3 p4)), .val (.int y0), .val (.int (own_max (own_min p1 p2) (own_min p3 p4))), .val (.int (own_min (own_max p1 p2) (own_max p3 p4))), .val (.int y3), .val (.int y1), .val (.int y2), .val (.ref b34), .val (.int ((((0 : Int32) + (own_le y0 p5)) + (own_le y1 p5)) + (own_le y2 p5)))] [(.int (3 : Int32)), (.int cnt)])) t → Steps p.tables e below (s₁.setTop (entryFrame m #[(.int p1), (.int p2), (.int p3), (.int p4), (.int p5), (.int p6)] maxLocals)) t := fun t k => pre62 t (by
          show Steps p.tables e below (T61.setTop (mkF m 186 #[.val (.int p1), .val (.int p2), .val (.int p3), .val (.int p4), .val (.int p5), .val (.int p6), .val (.int cnt), .val (.int cp), .val (.int (own_min p1 p2)), .val (.int (own_max p1 p2)), .val (.int (own_min p3 p4)), .val (.int (own_max p3 p4)), .val (.int y0), .val (.int (own_max (own_min p1 p2) (own_min p3 p4))), .val (.int (own_min (own_max p1 p2) (own_max p3 p4))), .val (.int y3), .val (.int y1), .val (.int y2), .val (.ref b34), .val (.int (((0 : Int32) + (own_le y0 p5)) + (own_le y1 p5)))] [(.int (own_le y2 p5)), (.int (((0 : Int32) + (own_le y0 p5)) + (own_le y1 p5)))])) t
          refine XS.iadd X61.here hx rfl (hb hby at_186) rfl ?_
          show Steps p.tables e below (T61.setTop (mkF m 187 #[.val (.int p1), .val (.int p2), .val (.int p3), .val (.int p4), .val (.int p5), .val (.int p6), .val (.int cnt), .val (.int cp), .val (.int (own_min p1 p2)), .val (.int (own_max p1 p2)), .val (.int (own_min p3 p4)), .val (.int (own_max p3 p4)), .val (.int y0), .val (.int (own_max (own_min p1 p2) (own_min p3 p4))), .val (.int (own_min (own_max p1 p2) (own_max p3 p4))), .val (.int y3), .val (.int y1), .val (.int y2), .val (.ref b34), .val (.int (((0 : Int32) + (own_le y0 p5)) + (own_le y1 p5)))] [(.int ((((0 : Int32) + (own_le y0 p5)) + (own_le y1 p5)) + (own_le y2 p5)))])) t
          refine XS.istore X61.here hx rfl (hb hby at_187) rfl (l' := #[.val (.int p1), .val (.int p2), .val (.int p3), .val (.int p4), .val (.int p5), .val (.int p6), .val (.int cnt), .val (.int cp), .val (.int (own_min p1 p2)), .val (.int (own_max p1 p2)), .val (.int (own_min p3 p4)), .val (.int (own_max p3 p4)), .val (.int y0), .val (.int (own_max (own_min p1 p2) (own_min p3 p4))), .val (.int (own_min (own_max p1 p2) (own_max p3 p4))), .val (.int y3), .val (.int y1), .val (.int y2), .val (.ref b34), .val (.int ((((0 : Int32) + (own_le y0 p5)) + (own_le y1 p5)) + (own_le y2 p5)))]) rfl ?_
          show Steps p.tables e below (T61.setTop (mkF m 189 #[.val (.int p1), .val (.int p2), .val (.int p3), .val (.int p4), .val (.int p5), .val (.int p6), .val (.int cnt), .val (.int cp), .val (.int (own_min p1 p2)), .val (.int (own_max p1 p2)), .val (.int (own_min p3 p4)), .val (.int (own_max p3 p4)), .val (.int y0), .val (.int (own_max (own_min p1 p2) (own_min p3 p4))), .val (.int (own_min (own_max p1 p2) (own_max p3 p4))), .val (.int y3), .val (.int y1), .val (.int y2), .val (.ref b34), .val (.int ((((0 : Int32) + (own_le y0 p5)) + (own_le y1 p5)) + (own_le y2 p5)))] [])) t
          refine XS.iload X61.here hx rfl (hb hby at_189) rfl ?_
          show Steps p.tables e below (T61.setTop (mkF m 191 #[.val (.int p1), .val (.int p2), .val (.int p3), .val (.int p4), .val (.int p5), .val (.int p6), .val (.int cnt), .val (.int cp), .val (.int (own_min p1 p2)), .val (.int (own_max p1 p2)), .val (.int (own_min p3 p4)), .val (.int (own_max p3 p4)), .val (.int y0), .val (.int (own_max (own_min p1 p2) (own_min p3 p4))), .val (.int (own_min (own_max p1 p2) (own_max p3 p4))), .val (.int y3), .val (.int y1), .val (.int y2), .val (.ref b34), .val (.int ((((0 : Int32) + (own_le y0 p5)) + (own_le y1 p5)) + (own_le y2 p5)))] [(.int cnt)])) t
          refine XS.iconst X61.here hx rfl (hb hby at_191) ?_
          show Steps p.tables e below (T61.setTop (mkF m 192 #[.val (.int p1), .val (.int p2), .val (.int p3), .val (.int p4), .val (.int p5), .val (.int p6), .val (.int cnt), .val (.int cp), .val (.int (own_min p1 p2)), .val (.int (own_max p1 p2)), .val (.int (own_min p3 p4)), .val (.int (own_max p3 p4)), .val (.int y0), .val (.int (own_max (own_min p1 p2) (own_min p3 p4))), .val (.int (own_min (own_max p1 p2) (own_max p3 p4))), .val (.int y3), .val (.int y1), .val (.int y2), .val (.ref b34), .val (.int ((((0 : Int32) + (own_le y0 p5)) + (own_le y1 p5)) + (own_le y2 p5)))] [(.int (3 : Int32)), (.int cnt)])) t
          exact k)
        by_cases hc192_63 : (3 : Int32) < cnt
        · skip
          have pre65 : ∀ t, Steps p.tables e below (T61.setTop (mkF m 199 #[.val (.int p1), .val (.int p2), .val (.int p3), .val (.int p4), .val (.int p5), .val (.int p6), .val (.int cnt), .val (.int cp), .val (.int (own_min p1 p2)), .val (.int (own_max p1 p2)), .val (.int (own_min p3 p4)), .val (.int (own_max p3 p4)), .val (.int y0), .val (.int (own_max (own_min p1 p2) (own_min p3 p4))), .val (.int (own_min (own_max p1 p2) (own_max p3 p4))), .val (.int y3), .val (.int y1), .val (.int y2), .val (.ref b34), .val (.int ((((0 : Int32) + (own_le y0 p5)) + (own_le y1 p5)) + (own_le y2 p5)))] [(.int y3), (.ref b34)])) t → Steps p.tables e below (s₁.setTop (entryFrame m #[(.int p1), (.int p2), (.int p3), (.int p4), (.int p5), (.int p6)] maxLocals)) t := fun t k => pre64 t (by
            show Steps p.tables e below (T61.setTop (mkF m 192 #[.val (.int p1), .val (.int p2), .val (.int p3), .val (.int p4), .val (.int p5), .val (.int p6), .val (.int cnt), .val (.int cp), .val (.int (own_min p1 p2)), .val (.int (own_max p1 p2)), .val (.int (own_min p3 p4)), .val (.int (own_max p3 p4)), .val (.int y0), .val (.int (own_max (own_min p1 p2) (own_min p3 p4))), .val (.int (own_min (own_max p1 p2) (own_max p3 p4))), .val (.int y3), .val (.int y1), .val (.int y2), .val (.ref b34), .val (.int ((((0 : Int32) + (own_le y0 p5)) + (own_le y1 p5)) + (own_le y2 p5)))] [(.int (3 : Int32)), (.int cnt)])) t
            refine XS.icmpNo X61.here hx rfl (hb hby at_192) rfl (XT.ii_le_f hc192_63) ?_
            show Steps p.tables e below (T61.setTop (mkF m 195 #[.val (.int p1), .val (.int p2), .val (.int p3), .val (.int p4), .val (.int p5), .val (.int p6), .val (.int cnt), .val (.int cp), .val (.int (own_min p1 p2)), .val (.int (own_max p1 p2)), .val (.int (own_min p3 p4)), .val (.int (own_max p3 p4)), .val (.int y0), .val (.int (own_max (own_min p1 p2) (own_min p3 p4))), .val (.int (own_min (own_max p1 p2) (own_max p3 p4))), .val (.int y3), .val (.int y1), .val (.int y2), .val (.ref b34), .val (.int ((((0 : Int32) + (own_le y0 p5)) + (own_le y1 p5)) + (own_le y2 p5)))] [])) t
            refine XS.aload X61.here hx rfl (hb hby at_195) rfl rfl ?_
            show Steps p.tables e below (T61.setTop (mkF m 197 #[.val (.int p1), .val (.int p2), .val (.int p3), .val (.int p4), .val (.int p5), .val (.int p6), .val (.int cnt), .val (.int cp), .val (.int (own_min p1 p2)), .val (.int (own_max p1 p2)), .val (.int (own_min p3 p4)), .val (.int (own_max p3 p4)), .val (.int y0), .val (.int (own_max (own_min p1 p2) (own_min p3 p4))), .val (.int (own_min (own_max p1 p2) (own_max p3 p4))), .val (.int y3), .val (.int y1), .val (.int y2), .val (.ref b34), .val (.int ((((0 : Int32) + (own_le y0 p5)) + (own_le y1 p5)) + (own_le y2 p5)))] [(.ref b34)])) t
            refine XS.iload X61.here hx rfl (hb hby at_197) rfl ?_
            show Steps p.tables e below (T61.setTop (mkF m 199 #[.val (.int p1), .val (.int p2), .val (.int p3), .val (.int p4), .val (.int p5), .val (.int p6), .val (.int cnt), .val (.int cp), .val (.int (own_min p1 p2)), .val (.int (own_max p1 p2)), .val (.int (own_min p3 p4)), .val (.int (own_max p3 p4)), .val (.int y0), .val (.int (own_max (own_min p1 p2) (own_min p3 p4))), .val (.int (own_min (own_max p1 p2) (own_max p3 p4))), .val (.int y3), .val (.int y1), .val (.int y2), .val (.ref b34), .val (.int ((((0 : Int32) + (own_le y0 p5)) + (own_le y1 p5)) + (own_le y2 p5)))] [(.int y3), (.ref b34)])) t
            exact k)
          obtain ⟨cq66, kq66, q66a, q66b, q66c⟩ := isOf hZ eh61 P58_1
          obtain ⟨_, _, ⟨T66, L66, k66, n66⟩, -, X66, ⟨Lc66, hQ66, l66, y66, z66⟩, st66⟩ := X61.virtualBack hx (y := (⟨"com/example/interlace/interlace/core/IntColumn", "add", "(I)V"⟩ : MethodName)) (z := (⟨"com/example/interlace/interlace/core/IntColumn", "add", "(I)V"⟩ : MethodName)) hown (mvT hZ (hw _ (List.mem_of_getElem? (i := 19) rfl))) (mvT hZ (hw _ (List.mem_of_getElem? (i := 20) rfl))) (notFace_of_selects (args := #[]) (mvT hZ (hw _ (List.mem_of_getElem? (i := 22) rfl)))) (mvT hZ (hw _ (List.mem_of_getElem? (i := 22) rfl))) (mvT hZ (hw _ (List.mem_of_getElem? (i := 21) rfl))) (by decide) (backOf (W := 0) (rmAD3 l Z a0 hw [] b34 y3 ar2_58 kk2_58 cap2_58 y0 y1 y2 T58.heap n0 sz58 P58_1 P58_2 P58_3 P58_4 g_b34 P58_5 P58_6 (show ¬ cap2_58 < (3 : Int32) from P58_7) (show ¬ cap2_58 < (1 : Int32) from P58_8)) hZ (hw _ (List.mem_of_getElem? (i := 23) rfl)) (hw _ (List.mem_of_getElem? (i := 9) rfl)) (by decide) (by decide)) q66a q66c (g := (mkF m 199 #[.val (.int p1), .val (.int p2), .val (.int p3), .val (.int p4), .val (.int p5), .val (.int p6), .val (.int cnt), .val (.int cp), .val (.int (own_min p1 p2)), .val (.int (own_max p1 p2)), .val (.int (own_min p3 p4)), .val (.int (own_max p3 p4)), .val (.int y0), .val (.int (own_max (own_min p1 p2) (own_min p3 p4))), .val (.int (own_min (own_max p1 p2) (own_max p3 p4))), .val (.int y3), .val (.int y1), .val (.int y2), .val (.ref b34), .val (.int ((((0 : Int32) + (own_le y0 p5)) + (own_le y1 p5)) + (own_le y2 p5)))] [(.int y3), (.ref b34)])) rfl (by rw [hml]; rfl) (Steps.refl _) (argsL := [(.int y3)]) (rest := []) (lenOf pd_oIcV rfl) rfl (by show 2 * 0 + _ ≤ _; exact Nat.le_of_eq rfl) (hb hby at_199) (fun _ _ => ⟨rfl, eh61, (by decide : 4 + 1 ≤ _), (by decide : 12 + 6 ≤ _)⟩)
          dsimp only [Pt.U, Pt.locs, Pt.cells, Pt.slots] at X66 l66 y66 z66 st66 hQ66
          subst l66 y66 z66
          obtain ⟨ar2_66, kk2_66, cap2_66, rfl, N66q, Kq66, P66_1, P66_2, P66_3, P66_4, P66_5, P66_6, P66_7, P66_8⟩ := hQ66
          have sz66 : n0 ≤ T66.heap.size := Nat.le_trans sz58 Kq66.1
          have N66 := Fr.app N61 N66q
          have pre67 : ∀ t, Steps p.tables e below (T66.setTop (mkF m 202 #[.val (.int p1), .val (.int p2), .val (.int p3), .val (.int p4), .val (.int p5), .val (.int p6), .val (.int cnt), .val (.int cp), .val (.int (own_min p1 p2)), .val (.int (own_max p1 p2)), .val (.int (own_min p3 p4)), .val (.int (own_max p3 p4)), .val (.int y0), .val (.int (own_max (own_min p1 p2) (own_min p3 p4))), .val (.int (own_min (own_max p1 p2) (own_max p3 p4))), .val (.int y3), .val (.int y1), .val (.int y2), .val (.ref b34), .val (.int ((((0 : Int32) + (own_le y0 p5)) + (own_le y1 p5)) + (own_le y2 p5)))] [])) t → Steps p.tables e below (s₁.setTop (entryFrame m #[(.int p1), (.int p2), (.int p3), (.int p4), (.int p5), (.int p6)] maxLocals)) t := fun t k => pre65 t (st66.trans k)
          have pre68 : ∀ t, Steps p.tables e below (T66.setTop (mkF m 208 #[.val (.int p1), .val (.int p2), .val (.int p3), .val (.int p4), .val (.int p5), .val (.int p6), .val (.int cnt), .val (.int cp), .val (.int (own_min p1 p2)), .val (.int (own_max p1 p2)), .val (.int (own_min p3 p4)), .val (.int (own_max p3 p4)), .val (.int y0), .val (.int (own_max (own_min p1 p2) (own_min p3 p4))), .val (.int (own_min (own_max p1 p2) (own_max p3 p4))), .val (.int y3), .val (.int y1), .val (.int y2), .val (.ref b34), .val (.int ((((0 : Int32) + (own_le y0 p5)) + (own_le y1 p5)) + (own_le y2 p5)))] [(.int p5), (.int y3), (.int ((((0 : Int32) + (own_le y0 p5)) + (own_le y1 p5)) + (own_le y2 p5)))])) t → Steps p.tables e below (s₁.setTop (entryFrame m #[(.int p1), (.int p2), (.int p3), (.int p4), (.int p5), (.int p6)] maxLocals)) t := fun t k => pre67 t (by
            show Steps p.tables e below (T66.setTop (mkF m 202 #[.val (.int p1), .val (.int p2), .val (.int p3), .val (.int p4), .val (.int p5), .val (.int p6), .val (.int cnt), .val (.int cp), .val (.int (own_min p1 p2)), .val (.int (own_max p1 p2)), .val (.int (own_min p3 p4)), .val (.int (own_max p3 p4)), .val (.int y0), .val (.int (own_max (own_min p1 p2) (own_min p3 p4))), .val (.int (own_min (own_max p1 p2) (own_max p3 p4))), .val (.int y3), .val (.int y1), .val (.int y2), .val (.ref b34), .val (.int ((((0 : Int32) + (own_le y0 p5)) + (own_le y1 p5)) + (own_le y2 p5)))] [])) t
            refine XS.iload X66.here hx rfl (hb hby at_202) rfl ?_
            show Steps p.tables e below (T66.setTop (mkF m 204 #[.val (.int p1), .val (.int p2), .val (.int p3), .val (.int p4), .val (.int p5), .val (.int p6), .val (.int cnt), .val (.int cp), .val (.int (own_min p1 p2)), .val (.int (own_max p1 p2)), .val (.int (own_min p3 p4)), .val (.int (own_max p3 p4)), .val (.int y0), .val (.int (own_max (own_min p1 p2) (own_min p3 p4))), .val (.int (own_min (own_max p1 p2) (own_max p3 p4))), .val (.int y3), .val (.int y1), .val (.int y2), .val (.ref b34), .val (.int ((((0 : Int32) + (own_le y0 p5)) + (own_le y1 p5)) + (own_le y2 p5)))] [(.int ((((0 : Int32) + (own_le y0 p5)) + (own_le y1 p5)) + (own_le y2 p5)))])) t
            refine XS.iload X66.here hx rfl (hb hby at_204) rfl ?_
            show Steps p.tables e below (T66.setTop (mkF m 206 #[.val (.int p1), .val (.int p2), .val (.int p3), .val (.int p4), .val (.int p5), .val (.int p6), .val (.int cnt), .val (.int cp), .val (.int (own_min p1 p2)), .val (.int (own_max p1 p2)), .val (.int (own_min p3 p4)), .val (.int (own_max p3 p4)), .val (.int y0), .val (.int (own_max (own_min p1 p2) (own_min p3 p4))), .val (.int (own_min (own_max p1 p2) (own_max p3 p4))), .val (.int y3), .val (.int y1), .val (.int y2), .val (.ref b34), .val (.int ((((0 : Int32) + (own_le y0 p5)) + (own_le y1 p5)) + (own_le y2 p5)))] [(.int y3), (.int ((((0 : Int32) + (own_le y0 p5)) + (own_le y1 p5)) + (own_le y2 p5)))])) t
            refine XS.iload X66.here hx rfl (hb hby at_206) rfl ?_
            show Steps p.tables e below (T66.setTop (mkF m 208 #[.val (.int p1), .val (.int p2), .val (.int p3), .val (.int p4), .val (.int p5), .val (.int p6), .val (.int cnt), .val (.int cp), .val (.int (own_min p1 p2)), .val (.int (own_max p1 p2)), .val (.int (own_min p3 p4)), .val (.int (own_max p3 p4)), .val (.int y0), .val (.int (own_max (own_min p1 p2) (own_min p3 p4))), .val (.int (own_min (own_max p1 p2) (own_max p3 p4))), .val (.int y3), .val (.int y1), .val (.int y2), .val (.ref b34), .val (.int ((((0 : Int32) + (own_le y0 p5)) + (own_le y1 p5)) + (own_le y2 p5)))] [(.int p5), (.int y3), (.int ((((0 : Int32) + (own_le y0 p5)) + (own_le y1 p5)) + (own_le y2 p5)))])) t
            exact k)
          obtain ⟨_, _, ⟨T69, L69, k69, n69⟩, -, X69, ⟨Lc69, hQ69, l69, y69, z69⟩, st69⟩ := Jvm.LawKit.callS X66 hx (y := (⟨"com/example/interlace/interlace/core/IntColumnFirstAbovePinLaw", "le", "(II)I"⟩ : MethodName)) hown (mvT hZ (hw _ (List.mem_of_getElem? (i := 26) rfl))) (mvT hZ (hw _ (List.mem_of_getElem? (i := 27) rfl))) (mvT hZ (hw _ (List.mem_of_getElem? (i := 28) rfl))) (mvT hZ (hw _ (List.mem_of_getElem? (i := 29) rfl))) (by decide) (backOf (W := 1) (rm6 l Z a0 hw [] y3 p5 T66.heap n0 sz66 ) hZ (hw _ (List.mem_of_getElem? (i := 29) rfl)) (hw _ (List.mem_of_getElem? (i := 28) rfl)) (by decide) (by decide)) (g := (mkF m 208 #[.val (.int p1), .val (.int p2), .val (.int p3), .val (.int p4), .val (.int p5), .val (.int p6), .val (.int cnt), .val (.int cp), .val (.int (own_min p1 p2)), .val (.int (own_max p1 p2)), .val (.int (own_min p3 p4)), .val (.int (own_max p3 p4)), .val (.int y0), .val (.int (own_max (own_min p1 p2) (own_min p3 p4))), .val (.int (own_min (own_max p1 p2) (own_max p3 p4))), .val (.int y3), .val (.int y1), .val (.int y2), .val (.ref b34), .val (.int ((((0 : Int32) + (own_le y0 p5)) + (own_le y1 p5)) + (own_le y2 p5)))] [(.int p5), (.int y3), (.int ((((0 : Int32) + (own_le y0 p5)) + (own_le y1 p5)) + (own_le y2 p5)))])) rfl (by rw [hml]; rfl) (argsL := [(.int y3), (.int p5)]) (rest := [(.int ((((0 : Int32) + (own_le y0 p5)) + (own_le y1 p5)) + (own_le y2 p5)))]) (lenOf pd_oIIcI rfl) rfl (by show 2 * 0 + _ ≤ _; exact Nat.le_of_eq rfl) (hb hby at_208) (fun _ _ => ⟨rfl, rfl, (by decide : 5 + 0 ≤ _), (by decide : 18 + 0 ≤ _)⟩)
          dsimp only [Pt.U, Pt.locs, Pt.cells, Pt.slots] at X69 l69 y69 z69 st69 hQ69
          subst l69 y69 z69
          obtain ⟨rfl, N69q, eh69⟩ := hQ69
          have N69 := Fr.app N66 N69q
          have pre70 : ∀ t, Steps p.tables e below (T69.setTop (mkF m 211 #[.val (.int p1), .val (.int p2), .val (.int p3), .val (.int p4), .val (.int p5), .val (.int p6), .val (.int cnt), .val (.int cp), .val (.int (own_min p1 p2)), .val (.int (own_max p1 p2)), .val (.int (own_min p3 p4)), .val (.int (own_max p3 p4)), .val (.int y0), .val (.int (own_max (own_min p1 p2) (own_min p3 p4))), .val (.int (own_min (own_max p1 p2) (own_max p3 p4))), .val (.int y3), .val (.int y1), .val (.int y2), .val (.ref b34), .val (.int ((((0 : Int32) + (own_le y0 p5)) + (own_le y1 p5)) + (own_le y2 p5)))] [(.int (own_le y3 p5)), (.int ((((0 : Int32) + (own_le y0 p5)) + (own_le y1 p5)) + (own_le y2 p5)))])) t → Steps p.tables e below (s₁.setTop (entryFrame m #[(.int p1), (.int p2), (.int p3), (.int p4), (.int p5), (.int p6)] maxLocals)) t := fun t k => pre68 t (st69 _ k)
          have pre71 : ∀ t, Steps p.tables e below (T69.setTop (mkF m 218 #[.val (.int p1), .val (.int p2), .val (.int p3), .val (.int p4), .val (.int p5), .val (.int p6), .val (.int cnt), .val (.int cp), .val (.int (own_min p1 p2)), .val (.int (own_max p1 p2)), .val (.int (own_min p3 p4)), .val (.int (own_max p3 p4)), .val (.int y0), .val (.int (own_max (own_min p1 p2) (own_min p3 p4))), .val (.int (own_min (own_max p1 p2) (own_max p3 p4))), .val (.int y3), .val (.int y1), .val (.int y2), .val (.ref b34), .val (.int (((((0 : Int32) + (own_le y0 p5)) + (own_le y1 p5)) + (own_le y2 p5)) + (own_le y3 p5)))] [(.int p5), (.ref b34)])) t → Steps p.tables e below (s₁.setTop (entryFrame m #[(.int p1), (.int p2), (.int p3), (.int p4), (.int p5), (.int p6)] maxLocals)) t := fun t k => pre70 t (by
            show Steps p.tables e below (T69.setTop (mkF m 211 #[.val (.int p1), .val (.int p2), .val (.int p3), .val (.int p4), .val (.int p5), .val (.int p6), .val (.int cnt), .val (.int cp), .val (.int (own_min p1 p2)), .val (.int (own_max p1 p2)), .val (.int (own_min p3 p4)), .val (.int (own_max p3 p4)), .val (.int y0), .val (.int (own_max (own_min p1 p2) (own_min p3 p4))), .val (.int (own_min (own_max p1 p2) (own_max p3 p4))), .val (.int y3), .val (.int y1), .val (.int y2), .val (.ref b34), .val (.int ((((0 : Int32) + (own_le y0 p5)) + (own_le y1 p5)) + (own_le y2 p5)))] [(.int (own_le y3 p5)), (.int ((((0 : Int32) + (own_le y0 p5)) + (own_le y1 p5)) + (own_le y2 p5)))])) t
            refine XS.iadd X69.here hx rfl (hb hby at_211) rfl ?_
            show Steps p.tables e below (T69.setTop (mkF m 212 #[.val (.int p1), .val (.int p2), .val (.int p3), .val (.int p4), .val (.int p5), .val (.int p6), .val (.int cnt), .val (.int cp), .val (.int (own_min p1 p2)), .val (.int (own_max p1 p2)), .val (.int (own_min p3 p4)), .val (.int (own_max p3 p4)), .val (.int y0), .val (.int (own_max (own_min p1 p2) (own_min p3 p4))), .val (.int (own_min (own_max p1 p2) (own_max p3 p4))), .val (.int y3), .val (.int y1), .val (.int y2), .val (.ref b34), .val (.int ((((0 : Int32) + (own_le y0 p5)) + (own_le y1 p5)) + (own_le y2 p5)))] [(.int (((((0 : Int32) + (own_le y0 p5)) + (own_le y1 p5)) + (own_le y2 p5)) + (own_le y3 p5)))])) t
            refine XS.istore X69.here hx rfl (hb hby at_212) rfl (l' := #[.val (.int p1), .val (.int p2), .val (.int p3), .val (.int p4), .val (.int p5), .val (.int p6), .val (.int cnt), .val (.int cp), .val (.int (own_min p1 p2)), .val (.int (own_max p1 p2)), .val (.int (own_min p3 p4)), .val (.int (own_max p3 p4)), .val (.int y0), .val (.int (own_max (own_min p1 p2) (own_min p3 p4))), .val (.int (own_min (own_max p1 p2) (own_max p3 p4))), .val (.int y3), .val (.int y1), .val (.int y2), .val (.ref b34), .val (.int (((((0 : Int32) + (own_le y0 p5)) + (own_le y1 p5)) + (own_le y2 p5)) + (own_le y3 p5)))]) rfl ?_
            show Steps p.tables e below (T69.setTop (mkF m 214 #[.val (.int p1), .val (.int p2), .val (.int p3), .val (.int p4), .val (.int p5), .val (.int p6), .val (.int cnt), .val (.int cp), .val (.int (own_min p1 p2)), .val (.int (own_max p1 p2)), .val (.int (own_min p3 p4)), .val (.int (own_max p3 p4)), .val (.int y0), .val (.int (own_max (own_min p1 p2) (own_min p3 p4))), .val (.int (own_min (own_max p1 p2) (own_max p3 p4))), .val (.int y3), .val (.int y1), .val (.int y2), .val (.ref b34), .val (.int (((((0 : Int32) + (own_le y0 p5)) + (own_le y1 p5)) + (own_le y2 p5)) + (own_le y3 p5)))] [])) t
            refine XS.aload X69.here hx rfl (hb hby at_214) rfl rfl ?_
            show Steps p.tables e below (T69.setTop (mkF m 216 #[.val (.int p1), .val (.int p2), .val (.int p3), .val (.int p4), .val (.int p5), .val (.int p6), .val (.int cnt), .val (.int cp), .val (.int (own_min p1 p2)), .val (.int (own_max p1 p2)), .val (.int (own_min p3 p4)), .val (.int (own_max p3 p4)), .val (.int y0), .val (.int (own_max (own_min p1 p2) (own_min p3 p4))), .val (.int (own_min (own_max p1 p2) (own_max p3 p4))), .val (.int y3), .val (.int y1), .val (.int y2), .val (.ref b34), .val (.int (((((0 : Int32) + (own_le y0 p5)) + (own_le y1 p5)) + (own_le y2 p5)) + (own_le y3 p5)))] [(.ref b34)])) t
            refine XS.iload X69.here hx rfl (hb hby at_216) rfl ?_
            show Steps p.tables e below (T69.setTop (mkF m 218 #[.val (.int p1), .val (.int p2), .val (.int p3), .val (.int p4), .val (.int p5), .val (.int p6), .val (.int cnt), .val (.int cp), .val (.int (own_min p1 p2)), .val (.int (own_max p1 p2)), .val (.int (own_min p3 p4)), .val (.int (own_max p3 p4)), .val (.int y0), .val (.int (own_max (own_min p1 p2) (own_min p3 p4))), .val (.int (own_min (own_max p1 p2) (own_max p3 p4))), .val (.int y3), .val (.int y1), .val (.int y2), .val (.ref b34), .val (.int (((((0 : Int32) + (own_le y0 p5)) + (own_le y1 p5)) + (own_le y2 p5)) + (own_le y3 p5)))] [(.int p5), (.ref b34)])) t
            exact k)
          obtain ⟨cq72, kq72, q72a, q72b, q72c⟩ := isOf hZ eh69 P66_1
          obtain ⟨_, _, ⟨T72, L72, k72, n72⟩, -, X72, ⟨Lc72, hQ72, l72, y72, z72⟩, st72⟩ := X69.virtualBack hx (y := (⟨"com/example/interlace/interlace/core/IntColumn", "firstAbove", "(I)I"⟩ : MethodName)) (z := (⟨"com/example/interlace/interlace/core/IntColumn", "firstAbove", "(I)I"⟩ : MethodName)) hown (mvT hZ (hw _ (List.mem_of_getElem? (i := 45) rfl))) (mvT hZ (hw _ (List.mem_of_getElem? (i := 46) rfl))) (notFace_of_selects (args := #[]) (mvT hZ (hw _ (List.mem_of_getElem? (i := 48) rfl)))) (mvT hZ (hw _ (List.mem_of_getElem? (i := 48) rfl))) (mvT hZ (hw _ (List.mem_of_getElem? (i := 47) rfl))) (by decide) (backOf (W := 0) (rmFA4 l Z a0 hw [] b34 p5 ar2_66 kk2_66 cap2_66 y0 y1 y2 y3 T66.heap n0 sz66 P66_2 P66_3 P66_4 (show ¬ cap2_66 < (4 : Int32) from P66_7)) hZ (hw _ (List.mem_of_getElem? (i := 49) rfl)) (hw _ (List.mem_of_getElem? (i := 9) rfl)) (by decide) (by decide)) q72a q72c (g := (mkF m 218 #[.val (.int p1), .val (.int p2), .val (.int p3), .val (.int p4), .val (.int p5), .val (.int p6), .val (.int cnt), .val (.int cp), .val (.int (own_min p1 p2)), .val (.int (own_max p1 p2)), .val (.int (own_min p3 p4)), .val (.int (own_max p3 p4)), .val (.int y0), .val (.int (own_max (own_min p1 p2) (own_min p3 p4))), .val (.int (own_min (own_max p1 p2) (own_max p3 p4))), .val (.int y3), .val (.int y1), .val (.int y2), .val (.ref b34), .val (.int (((((0 : Int32) + (own_le y0 p5)) + (own_le y1 p5)) + (own_le y2 p5)) + (own_le y3 p5)))] [(.int p5), (.ref b34)])) rfl (by rw [hml]; rfl) (Steps.refl _) (argsL := [(.int p5)]) (rest := []) (lenOf pd_oIcI rfl) rfl (by show 2 * 0 + _ ≤ _; exact Nat.le_of_eq rfl) (hb hby at_218) (fun _ _ => ⟨rfl, eh69, (by decide : 5 + 0 ≤ _), (by decide : 18 + 0 ≤ _)⟩)
          dsimp only [Pt.U, Pt.locs, Pt.cells, Pt.slots] at X72 l72 y72 z72 st72 hQ72
          subst l72 y72 z72
          obtain ⟨rfl, N72q, eh72⟩ := hQ72
          have N72 := Fr.app N69 N72q
          have pre73 : ∀ t, Steps p.tables e below (T72.setTop (mkF m 221 #[.val (.int p1), .val (.int p2), .val (.int p3), .val (.int p4), .val (.int p5), .val (.int p6), .val (.int cnt), .val (.int cp), .val (.int (own_min p1 p2)), .val (.int (own_max p1 p2)), .val (.int (own_min p3 p4)), .val (.int (own_max p3 p4)), .val (.int y0), .val (.int (own_max (own_min p1 p2) (own_min p3 p4))), .val (.int (own_min (own_max p1 p2) (own_max p3 p4))), .val (.int y3), .val (.int y1), .val (.int y2), .val (.ref b34), .val (.int (((((0 : Int32) + (own_le y0 p5)) + (own_le y1 p5)) + (own_le y2 p5)) + (own_le y3 p5)))] [(.int (own_fa4 y0 y1 y2 y3 p5))])) t → Steps p.tables e below (s₁.setTop (entryFrame m #[(.int p1), (.int p2), (.int p3), (.int p4), (.int p5), (.int p6)] maxLocals)) t := fun t k => pre71 t (st72.trans k)
          have pre75 : ∀ t, Steps p.tables e below (T72.setTop (mkF m 231 #[.val (.int p1), .val (.int p2), .val (.int p3), .val (.int p4), .val (.int p5), .val (.int p6), .val (.int cnt), .val (.int cp), .val (.int (own_min p1 p2)), .val (.int (own_max p1 p2)), .val (.int (own_min p3 p4)), .val (.int (own_max p3 p4)), .val (.int y0), .val (.int (own_max (own_min p1 p2) (own_min p3 p4))), .val (.int (own_min (own_max p1 p2) (own_max p3 p4))), .val (.int y3), .val (.int y1), .val (.int y2), .val (.ref b34), .val (.int (((((0 : Int32) + (own_le y0 p5)) + (own_le y1 p5)) + (own_le y2 p5)) + (own_le y3 p5)))] [(.int (1 : Int32))])) t → Steps p.tables e below (s₁.setTop (entryFrame m #[(.int p1), (.int p2), (.int p3), (.int p4), (.int p5), (.int p6)] maxLocals)) t := fun t k => pre73 t (by
            show Steps p.tables e below (T72.setTop (mkF m 221 #[.val (.int p1), .val (.int p2), .val (.int p3), .val (.int p4), .val (.int p5), .val (.int p6), .val (.int cnt), .val (.int cp), .val (.int (own_min p1 p2)), .val (.int (own_max p1 p2)), .val (.int (own_min p3 p4)), .val (.int (own_max p3 p4)), .val (.int y0), .val (.int (own_max (own_min p1 p2) (own_min p3 p4))), .val (.int (own_min (own_max p1 p2) (own_max p3 p4))), .val (.int y3), .val (.int y1), .val (.int y2), .val (.ref b34), .val (.int (((((0 : Int32) + (own_le y0 p5)) + (own_le y1 p5)) + (own_le y2 p5)) + (own_le y3 p5)))] [(.int (own_fa4 y0 y1 y2 y3 p5))])) t
            refine XS.iload X72.here hx rfl (hb hby at_221) rfl ?_
            show Steps p.tables e below (T72.setTop (mkF m 223 #[.val (.int p1), .val (.int p2), .val (.int p3), .val (.int p4), .val (.int p5), .val (.int p6), .val (.int cnt), .val (.int cp), .val (.int (own_min p1 p2)), .val (.int (own_max p1 p2)), .val (.int (own_min p3 p4)), .val (.int (own_max p3 p4)), .val (.int y0), .val (.int (own_max (own_min p1 p2) (own_min p3 p4))), .val (.int (own_min (own_max p1 p2) (own_max p3 p4))), .val (.int y3), .val (.int y1), .val (.int y2), .val (.ref b34), .val (.int (((((0 : Int32) + (own_le y0 p5)) + (own_le y1 p5)) + (own_le y2 p5)) + (own_le y3 p5)))] [(.int (((((0 : Int32) + (own_le y0 p5)) + (own_le y1 p5)) + (own_le y2 p5)) + (own_le y3 p5))), (.int (own_fa4 y0 y1 y2 y3 p5))])) t
            refine XS.icmpNo X72.here hx rfl (hb hby at_223) rfl (XT.ii_ne_f (show (own_fa4 y0 y1 y2 y3 p5) = (((((0 : Int32) + (own_le y0 p5)) + (own_le y1 p5)) + (own_le y2 p5)) + (own_le y3 p5)) from own_f4 _ hs.1 hs.2.1 hs.2.2)) ?_
            show Steps p.tables e below (T72.setTop (mkF m 226 #[.val (.int p1), .val (.int p2), .val (.int p3), .val (.int p4), .val (.int p5), .val (.int p6), .val (.int cnt), .val (.int cp), .val (.int (own_min p1 p2)), .val (.int (own_max p1 p2)), .val (.int (own_min p3 p4)), .val (.int (own_max p3 p4)), .val (.int y0), .val (.int (own_max (own_min p1 p2) (own_min p3 p4))), .val (.int (own_min (own_max p1 p2) (own_max p3 p4))), .val (.int y3), .val (.int y1), .val (.int y2), .val (.ref b34), .val (.int (((((0 : Int32) + (own_le y0 p5)) + (own_le y1 p5)) + (own_le y2 p5)) + (own_le y3 p5)))] [])) t
            refine XS.iconst X72.here hx rfl (hb hby at_226) ?_
            show Steps p.tables e below (T72.setTop (mkF m 227 #[.val (.int p1), .val (.int p2), .val (.int p3), .val (.int p4), .val (.int p5), .val (.int p6), .val (.int cnt), .val (.int cp), .val (.int (own_min p1 p2)), .val (.int (own_max p1 p2)), .val (.int (own_min p3 p4)), .val (.int (own_max p3 p4)), .val (.int y0), .val (.int (own_max (own_min p1 p2) (own_min p3 p4))), .val (.int (own_min (own_max p1 p2) (own_max p3 p4))), .val (.int y3), .val (.int y1), .val (.int y2), .val (.ref b34), .val (.int (((((0 : Int32) + (own_le y0 p5)) + (own_le y1 p5)) + (own_le y2 p5)) + (own_le y3 p5)))] [(.int (1 : Int32))])) t
            refine XS.goto X72.here hx rfl (pc0 := 227) (pc' := 231) rfl (hb hby at_227) (by decide) (by decide) ?_
            show Steps p.tables e below (T72.setTop (mkF m 231 #[.val (.int p1), .val (.int p2), .val (.int p3), .val (.int p4), .val (.int p5), .val (.int p6), .val (.int cnt), .val (.int cp), .val (.int (own_min p1 p2)), .val (.int (own_max p1 p2)), .val (.int (own_min p3 p4)), .val (.int (own_max p3 p4)), .val (.int y0), .val (.int (own_max (own_min p1 p2) (own_min p3 p4))), .val (.int (own_min (own_max p1 p2) (own_max p3 p4))), .val (.int y3), .val (.int y1), .val (.int y2), .val (.ref b34), .val (.int (((((0 : Int32) + (own_le y0 p5)) + (own_le y1 p5)) + (own_le y2 p5)) + (own_le y3 p5)))] [(.int (1 : Int32))])) t
            exact k)
          obtain ⟨fs, hr, hrun, hended, hW, hsame⟩ := X72.leave (v := some (.int (1 : Int32))) (fun h => by rw [Bd.returns] at h; cases h)
          refine ⟨_, _, pre75 _ ?_, hrun, hended, _, _, rfl, ?_, ⟨_, rfl⟩, hW, hsame.mono (by decide) (by decide)⟩
          · show Steps p.tables e below (T72.setTop (mkF m 231 #[.val (.int p1), .val (.int p2), .val (.int p3), .val (.int p4), .val (.int p5), .val (.int p6), .val (.int cnt), .val (.int cp), .val (.int (own_min p1 p2)), .val (.int (own_max p1 p2)), .val (.int (own_min p3 p4)), .val (.int (own_max p3 p4)), .val (.int y0), .val (.int (own_max (own_min p1 p2) (own_min p3 p4))), .val (.int (own_min (own_max p1 p2) (own_max p3 p4))), .val (.int y3), .val (.int y1), .val (.int y2), .val (.ref b34), .val (.int (((((0 : Int32) + (own_le y0 p5)) + (own_le y1 p5)) + (own_le y2 p5)) + (own_le y3 p5)))] [(.int (1 : Int32))])) _
            exact retN X72 hx (t := .boolean) Bd.returns (by simp) (hb hby at_231) hr
          · show Q0 Z p1 p2 p3 p4 p5 p6 h0 n0 _ T72.heap _
            rw [eh72]
            exact ⟨rfl, N72⟩
        · skip
          have pre76 : ∀ t, Steps p.tables e below (T61.setTop (mkF m 218 #[.val (.int p1), .val (.int p2), .val (.int p3), .val (.int p4), .val (.int p5), .val (.int p6), .val (.int cnt), .val (.int cp), .val (.int (own_min p1 p2)), .val (.int (own_max p1 p2)), .val (.int (own_min p3 p4)), .val (.int (own_max p3 p4)), .val (.int y0), .val (.int (own_max (own_min p1 p2) (own_min p3 p4))), .val (.int (own_min (own_max p1 p2) (own_max p3 p4))), .val (.int y3), .val (.int y1), .val (.int y2), .val (.ref b34), .val (.int ((((0 : Int32) + (own_le y0 p5)) + (own_le y1 p5)) + (own_le y2 p5)))] [(.int p5), (.ref b34)])) t → Steps p.tables e below (s₁.setTop (entryFrame m #[(.int p1), (.int p2), (.int p3), (.int p4), (.int p5), (.int p6)] maxLocals)) t := fun t k => pre64 t (by
            show Steps p.tables e below (T61.setTop (mkF m 192 #[.val (.int p1), .val (.int p2), .val (.int p3), .val (.int p4), .val (.int p5), .val (.int p6), .val (.int cnt), .val (.int cp), .val (.int (own_min p1 p2)), .val (.int (own_max p1 p2)), .val (.int (own_min p3 p4)), .val (.int (own_max p3 p4)), .val (.int y0), .val (.int (own_max (own_min p1 p2) (own_min p3 p4))), .val (.int (own_min (own_max p1 p2) (own_max p3 p4))), .val (.int y3), .val (.int y1), .val (.int y2), .val (.ref b34), .val (.int ((((0 : Int32) + (own_le y0 p5)) + (own_le y1 p5)) + (own_le y2 p5)))] [(.int (3 : Int32)), (.int cnt)])) t
            refine XS.icmpYes X61.here hx rfl (pc0 := 192) (pc' := 214) rfl (hb hby at_192) rfl (XT.ii_le_t hc192_63) (by decide) (by decide) ?_
            show Steps p.tables e below (T61.setTop (mkF m 214 #[.val (.int p1), .val (.int p2), .val (.int p3), .val (.int p4), .val (.int p5), .val (.int p6), .val (.int cnt), .val (.int cp), .val (.int (own_min p1 p2)), .val (.int (own_max p1 p2)), .val (.int (own_min p3 p4)), .val (.int (own_max p3 p4)), .val (.int y0), .val (.int (own_max (own_min p1 p2) (own_min p3 p4))), .val (.int (own_min (own_max p1 p2) (own_max p3 p4))), .val (.int y3), .val (.int y1), .val (.int y2), .val (.ref b34), .val (.int ((((0 : Int32) + (own_le y0 p5)) + (own_le y1 p5)) + (own_le y2 p5)))] [])) t
            refine XS.aload X61.here hx rfl (hb hby at_214) rfl rfl ?_
            show Steps p.tables e below (T61.setTop (mkF m 216 #[.val (.int p1), .val (.int p2), .val (.int p3), .val (.int p4), .val (.int p5), .val (.int p6), .val (.int cnt), .val (.int cp), .val (.int (own_min p1 p2)), .val (.int (own_max p1 p2)), .val (.int (own_min p3 p4)), .val (.int (own_max p3 p4)), .val (.int y0), .val (.int (own_max (own_min p1 p2) (own_min p3 p4))), .val (.int (own_min (own_max p1 p2) (own_max p3 p4))), .val (.int y3), .val (.int y1), .val (.int y2), .val (.ref b34), .val (.int ((((0 : Int32) + (own_le y0 p5)) + (own_le y1 p5)) + (own_le y2 p5)))] [(.ref b34)])) t
            refine XS.iload X61.here hx rfl (hb hby at_216) rfl ?_
            show Steps p.tables e below (T61.setTop (mkF m 218 #[.val (.int p1), .val (.int p2), .val (.int p3), .val (.int p4), .val (.int p5), .val (.int p6), .val (.int cnt), .val (.int cp), .val (.int (own_min p1 p2)), .val (.int (own_max p1 p2)), .val (.int (own_min p3 p4)), .val (.int (own_max p3 p4)), .val (.int y0), .val (.int (own_max (own_min p1 p2) (own_min p3 p4))), .val (.int (own_min (own_max p1 p2) (own_max p3 p4))), .val (.int y3), .val (.int y1), .val (.int y2), .val (.ref b34), .val (.int ((((0 : Int32) + (own_le y0 p5)) + (own_le y1 p5)) + (own_le y2 p5)))] [(.int p5), (.ref b34)])) t
            exact k)
          obtain ⟨cq77, kq77, q77a, q77b, q77c⟩ := isOf hZ eh61 P58_1
          obtain ⟨_, _, ⟨T77, L77, k77, n77⟩, -, X77, ⟨Lc77, hQ77, l77, y77, z77⟩, st77⟩ := X61.virtualBack hx (y := (⟨"com/example/interlace/interlace/core/IntColumn", "firstAbove", "(I)I"⟩ : MethodName)) (z := (⟨"com/example/interlace/interlace/core/IntColumn", "firstAbove", "(I)I"⟩ : MethodName)) hown (mvT hZ (hw _ (List.mem_of_getElem? (i := 45) rfl))) (mvT hZ (hw _ (List.mem_of_getElem? (i := 46) rfl))) (notFace_of_selects (args := #[]) (mvT hZ (hw _ (List.mem_of_getElem? (i := 48) rfl)))) (mvT hZ (hw _ (List.mem_of_getElem? (i := 48) rfl))) (mvT hZ (hw _ (List.mem_of_getElem? (i := 47) rfl))) (by decide) (backOf (W := 0) (rmFA3 l Z a0 hw [] b34 p5 ar2_58 kk2_58 cap2_58 y0 y1 y2 T58.heap n0 sz58 P58_2 P58_3 P58_4 (show ¬ cap2_58 < (3 : Int32) from P58_7)) hZ (hw _ (List.mem_of_getElem? (i := 49) rfl)) (hw _ (List.mem_of_getElem? (i := 9) rfl)) (by decide) (by decide)) q77a q77c (g := (mkF m 218 #[.val (.int p1), .val (.int p2), .val (.int p3), .val (.int p4), .val (.int p5), .val (.int p6), .val (.int cnt), .val (.int cp), .val (.int (own_min p1 p2)), .val (.int (own_max p1 p2)), .val (.int (own_min p3 p4)), .val (.int (own_max p3 p4)), .val (.int y0), .val (.int (own_max (own_min p1 p2) (own_min p3 p4))), .val (.int (own_min (own_max p1 p2) (own_max p3 p4))), .val (.int y3), .val (.int y1), .val (.int y2), .val (.ref b34), .val (.int ((((0 : Int32) + (own_le y0 p5)) + (own_le y1 p5)) + (own_le y2 p5)))] [(.int p5), (.ref b34)])) rfl (by rw [hml]; rfl) (Steps.refl _) (argsL := [(.int p5)]) (rest := []) (lenOf pd_oIcI rfl) rfl (by show 2 * 0 + _ ≤ _; exact Nat.le_of_eq rfl) (hb hby at_218) (fun _ _ => ⟨rfl, eh61, (by decide : 4 + 0 ≤ _), (by decide : 12 + 0 ≤ _)⟩)
          dsimp only [Pt.U, Pt.locs, Pt.cells, Pt.slots] at X77 l77 y77 z77 st77 hQ77
          subst l77 y77 z77
          obtain ⟨rfl, N77q, eh77⟩ := hQ77
          have N77 := Fr.app N61 N77q
          have pre78 : ∀ t, Steps p.tables e below (T77.setTop (mkF m 221 #[.val (.int p1), .val (.int p2), .val (.int p3), .val (.int p4), .val (.int p5), .val (.int p6), .val (.int cnt), .val (.int cp), .val (.int (own_min p1 p2)), .val (.int (own_max p1 p2)), .val (.int (own_min p3 p4)), .val (.int (own_max p3 p4)), .val (.int y0), .val (.int (own_max (own_min p1 p2) (own_min p3 p4))), .val (.int (own_min (own_max p1 p2) (own_max p3 p4))), .val (.int y3), .val (.int y1), .val (.int y2), .val (.ref b34), .val (.int ((((0 : Int32) + (own_le y0 p5)) + (own_le y1 p5)) + (own_le y2 p5)))] [(.int (own_fa3 y0 y1 y2 p5))])) t → Steps p.tables e below (s₁.setTop (entryFrame m #[(.int p1), (.int p2), (.int p3), (.int p4), (.int p5), (.int p6)] maxLocals)) t := fun t k => pre76 t (st77.trans k)
          have pre80 : ∀ t, Steps p.tables e below (T77.setTop (mkF m 231 #[.val (.int p1), .val (.int p2), .val (.int p3), .val (.int p4), .val (.int p5), .val (.int p6), .val (.int cnt), .val (.int cp), .val (.int (own_min p1 p2)), .val (.int (own_max p1 p2)), .val (.int (own_min p3 p4)), .val (.int (own_max p3 p4)), .val (.int y0), .val (.int (own_max (own_min p1 p2) (own_min p3 p4))), .val (.int (own_min (own_max p1 p2) (own_max p3 p4))), .val (.int y3), .val (.int y1), .val (.int y2), .val (.ref b34), .val (.int ((((0 : Int32) + (own_le y0 p5)) + (own_le y1 p5)) + (own_le y2 p5)))] [(.int (1 : Int32))])) t → Steps p.tables e below (s₁.setTop (entryFrame m #[(.int p1), (.int p2), (.int p3), (.int p4), (.int p5), (.int p6)] maxLocals)) t := fun t k => pre78 t (by
            show Steps p.tables e below (T77.setTop (mkF m 221 #[.val (.int p1), .val (.int p2), .val (.int p3), .val (.int p4), .val (.int p5), .val (.int p6), .val (.int cnt), .val (.int cp), .val (.int (own_min p1 p2)), .val (.int (own_max p1 p2)), .val (.int (own_min p3 p4)), .val (.int (own_max p3 p4)), .val (.int y0), .val (.int (own_max (own_min p1 p2) (own_min p3 p4))), .val (.int (own_min (own_max p1 p2) (own_max p3 p4))), .val (.int y3), .val (.int y1), .val (.int y2), .val (.ref b34), .val (.int ((((0 : Int32) + (own_le y0 p5)) + (own_le y1 p5)) + (own_le y2 p5)))] [(.int (own_fa3 y0 y1 y2 p5))])) t
            refine XS.iload X77.here hx rfl (hb hby at_221) rfl ?_
            show Steps p.tables e below (T77.setTop (mkF m 223 #[.val (.int p1), .val (.int p2), .val (.int p3), .val (.int p4), .val (.int p5), .val (.int p6), .val (.int cnt), .val (.int cp), .val (.int (own_min p1 p2)), .val (.int (own_max p1 p2)), .val (.int (own_min p3 p4)), .val (.int (own_max p3 p4)), .val (.int y0), .val (.int (own_max (own_min p1 p2) (own_min p3 p4))), .val (.int (own_min (own_max p1 p2) (own_max p3 p4))), .val (.int y3), .val (.int y1), .val (.int y2), .val (.ref b34), .val (.int ((((0 : Int32) + (own_le y0 p5)) + (own_le y1 p5)) + (own_le y2 p5)))] [(.int ((((0 : Int32) + (own_le y0 p5)) + (own_le y1 p5)) + (own_le y2 p5))), (.int (own_fa3 y0 y1 y2 p5))])) t
            refine XS.icmpNo X77.here hx rfl (hb hby at_223) rfl (XT.ii_ne_f (show (own_fa3 y0 y1 y2 p5) = ((((0 : Int32) + (own_le y0 p5)) + (own_le y1 p5)) + (own_le y2 p5)) from own_f3 _ hs.1 hs.2.1)) ?_
            show Steps p.tables e below (T77.setTop (mkF m 226 #[.val (.int p1), .val (.int p2), .val (.int p3), .val (.int p4), .val (.int p5), .val (.int p6), .val (.int cnt), .val (.int cp), .val (.int (own_min p1 p2)), .val (.int (own_max p1 p2)), .val (.int (own_min p3 p4)), .val (.int (own_max p3 p4)), .val (.int y0), .val (.int (own_max (own_min p1 p2) (own_min p3 p4))), .val (.int (own_min (own_max p1 p2) (own_max p3 p4))), .val (.int y3), .val (.int y1), .val (.int y2), .val (.ref b34), .val (.int ((((0 : Int32) + (own_le y0 p5)) + (own_le y1 p5)) + (own_le y2 p5)))] [])) t
            refine XS.iconst X77.here hx rfl (hb hby at_226) ?_
            show Steps p.tables e below (T77.setTop (mkF m 227 #[.val (.int p1), .val (.int p2), .val (.int p3), .val (.int p4), .val (.int p5), .val (.int p6), .val (.int cnt), .val (.int cp), .val (.int (own_min p1 p2)), .val (.int (own_max p1 p2)), .val (.int (own_min p3 p4)), .val (.int (own_max p3 p4)), .val (.int y0), .val (.int (own_max (own_min p1 p2) (own_min p3 p4))), .val (.int (own_min (own_max p1 p2) (own_max p3 p4))), .val (.int y3), .val (.int y1), .val (.int y2), .val (.ref b34), .val (.int ((((0 : Int32) + (own_le y0 p5)) + (own_le y1 p5)) + (own_le y2 p5)))] [(.int (1 : Int32))])) t
            refine XS.goto X77.here hx rfl (pc0 := 227) (pc' := 231) rfl (hb hby at_227) (by decide) (by decide) ?_
            show Steps p.tables e below (T77.setTop (mkF m 231 #[.val (.int p1), .val (.int p2), .val (.int p3), .val (.int p4), .val (.int p5), .val (.int p6), .val (.int cnt), .val (.int cp), .val (.int (own_min p1 p2)), .val (.int (own_max p1 p2)), .val (.int (own_min p3 p4)), .val (.int (own_max p3 p4)), .val (.int y0), .val (.int (own_max (own_min p1 p2) (own_min p3 p4))), .val (.int (own_min (own_max p1 p2) (own_max p3 p4))), .val (.int y3), .val (.int y1), .val (.int y2), .val (.ref b34), .val (.int ((((0 : Int32) + (own_le y0 p5)) + (own_le y1 p5)) + (own_le y2 p5)))] [(.int (1 : Int32))])) t
            exact k)
          obtain ⟨fs, hr, hrun, hended, hW, hsame⟩ := X77.leave (v := some (.int (1 : Int32))) (fun h => by rw [Bd.returns] at h; cases h)
          refine ⟨_, _, pre80 _ ?_, hrun, hended, _, _, rfl, ?_, ⟨_, rfl⟩, hW, hsame.mono (by decide) (by decide)⟩
          · show Steps p.tables e below (T77.setTop (mkF m 231 #[.val (.int p1), .val (.int p2), .val (.int p3), .val (.int p4), .val (.int p5), .val (.int p6), .val (.int cnt), .val (.int cp), .val (.int (own_min p1 p2)), .val (.int (own_max p1 p2)), .val (.int (own_min p3 p4)), .val (.int (own_max p3 p4)), .val (.int y0), .val (.int (own_max (own_min p1 p2) (own_min p3 p4))), .val (.int (own_min (own_max p1 p2) (own_max p3 p4))), .val (.int y3), .val (.int y1), .val (.int y2), .val (.ref b34), .val (.int ((((0 : Int32) + (own_le y0 p5)) + (own_le y1 p5)) + (own_le y2 p5)))] [(.int (1 : Int32))])) _
            exact retN X77 hx (t := .boolean) Bd.returns (by simp) (hb hby at_231) hr
          · show Q0 Z p1 p2 p3 p4 p5 p6 h0 n0 _ T77.heap _
            rw [eh77]
            exact ⟨rfl, N77⟩
      · skip
        have pre82 : ∀ t, Steps p.tables e below (T53.setTop (mkF m 218 #[.val (.int p1), .val (.int p2), .val (.int p3), .val (.int p4), .val (.int p5), .val (.int p6), .val (.int cnt), .val (.int cp), .val (.int (own_min p1 p2)), .val (.int (own_max p1 p2)), .val (.int (own_min p3 p4)), .val (.int (own_max p3 p4)), .val (.int y0), .val (.int (own_max (own_min p1 p2) (own_min p3 p4))), .val (.int (own_min (own_max p1 p2) (own_max p3 p4))), .val (.int y3), .val (.int y1), .val (.int y2), .val (.ref b34), .val (.int (((0 : Int32) + (own_le y0 p5)) + (own_le y1 p5)))] [(.int p5), (.ref b34)])) t → Steps p.tables e below (s₁.setTop (entryFrame m #[(.int p1), (.int p2), (.int p3), (.int p4), (.int p5), (.int p6)] maxLocals)) t := fun t k => pre56 t (by
          show Steps p.tables e below (T53.setTop (mkF m 167 #[.val (.int p1), .val (.int p2), .val (.int p3), .val (.int p4), .val (.int p5), .val (.int p6), .val (.int cnt), .val (.int cp), .val (.int (own_min p1 p2)), .val (.int (own_max p1 p2)), .val (.int (own_min p3 p4)), .val (.int (own_max p3 p4)), .val (.int y0), .val (.int (own_max (own_min p1 p2) (own_min p3 p4))), .val (.int (own_min (own_max p1 p2) (own_max p3 p4))), .val (.int y3), .val (.int y1), .val (.int y2), .val (.ref b34), .val (.int (((0 : Int32) + (own_le y0 p5)) + (own_le y1 p5)))] [(.int (2 : Int32)), (.int cnt)])) t
          refine XS.icmpYes X53.here hx rfl (pc0 := 167) (pc' := 189) rfl (hb hby at_167) rfl (XT.ii_le_t hc167_55) (by decide) (by decide) ?_
          show Steps p.tables e below (T53.setTop (mkF m 189 #[.val (.int p1), .val (.int p2), .val (.int p3), .val (.int p4), .val (.int p5), .val (.int p6), .val (.int cnt), .val (.int cp), .val (.int (own_min p1 p2)), .val (.int (own_max p1 p2)), .val (.int (own_min p3 p4)), .val (.int (own_max p3 p4)), .val (.int y0), .val (.int (own_max (own_min p1 p2) (own_min p3 p4))), .val (.int (own_min (own_max p1 p2) (own_max p3 p4))), .val (.int y3), .val (.int y1), .val (.int y2), .val (.ref b34), .val (.int (((0 : Int32) + (own_le y0 p5)) + (own_le y1 p5)))] [])) t
          refine XS.iload X53.here hx rfl (hb hby at_189) rfl ?_
          show Steps p.tables e below (T53.setTop (mkF m 191 #[.val (.int p1), .val (.int p2), .val (.int p3), .val (.int p4), .val (.int p5), .val (.int p6), .val (.int cnt), .val (.int cp), .val (.int (own_min p1 p2)), .val (.int (own_max p1 p2)), .val (.int (own_min p3 p4)), .val (.int (own_max p3 p4)), .val (.int y0), .val (.int (own_max (own_min p1 p2) (own_min p3 p4))), .val (.int (own_min (own_max p1 p2) (own_max p3 p4))), .val (.int y3), .val (.int y1), .val (.int y2), .val (.ref b34), .val (.int (((0 : Int32) + (own_le y0 p5)) + (own_le y1 p5)))] [(.int cnt)])) t
          refine XS.iconst X53.here hx rfl (hb hby at_191) ?_
          show Steps p.tables e below (T53.setTop (mkF m 192 #[.val (.int p1), .val (.int p2), .val (.int p3), .val (.int p4), .val (.int p5), .val (.int p6), .val (.int cnt), .val (.int cp), .val (.int (own_min p1 p2)), .val (.int (own_max p1 p2)), .val (.int (own_min p3 p4)), .val (.int (own_max p3 p4)), .val (.int y0), .val (.int (own_max (own_min p1 p2) (own_min p3 p4))), .val (.int (own_min (own_max p1 p2) (own_max p3 p4))), .val (.int y3), .val (.int y1), .val (.int y2), .val (.ref b34), .val (.int (((0 : Int32) + (own_le y0 p5)) + (own_le y1 p5)))] [(.int (3 : Int32)), (.int cnt)])) t
          refine XS.icmpYes X53.here hx rfl (pc0 := 192) (pc' := 214) rfl (hb hby at_192) rfl (XT.ii_le_t (show ¬ ((3 : Int32) < cnt) from own_no (2 : Int32) (3 : Int32) (by decide) hc167_55)) (by decide) (by decide) ?_
          show Steps p.tables e below (T53.setTop (mkF m 214 #[.val (.int p1), .val (.int p2), .val (.int p3), .val (.int p4), .val (.int p5), .val (.int p6), .val (.int cnt), .val (.int cp), .val (.int (own_min p1 p2)), .val (.int (own_max p1 p2)), .val (.int (own_min p3 p4)), .val (.int (own_max p3 p4)), .val (.int y0), .val (.int (own_max (own_min p1 p2) (own_min p3 p4))), .val (.int (own_min (own_max p1 p2) (own_max p3 p4))), .val (.int y3), .val (.int y1), .val (.int y2), .val (.ref b34), .val (.int (((0 : Int32) + (own_le y0 p5)) + (own_le y1 p5)))] [])) t
          refine XS.aload X53.here hx rfl (hb hby at_214) rfl rfl ?_
          show Steps p.tables e below (T53.setTop (mkF m 216 #[.val (.int p1), .val (.int p2), .val (.int p3), .val (.int p4), .val (.int p5), .val (.int p6), .val (.int cnt), .val (.int cp), .val (.int (own_min p1 p2)), .val (.int (own_max p1 p2)), .val (.int (own_min p3 p4)), .val (.int (own_max p3 p4)), .val (.int y0), .val (.int (own_max (own_min p1 p2) (own_min p3 p4))), .val (.int (own_min (own_max p1 p2) (own_max p3 p4))), .val (.int y3), .val (.int y1), .val (.int y2), .val (.ref b34), .val (.int (((0 : Int32) + (own_le y0 p5)) + (own_le y1 p5)))] [(.ref b34)])) t
          refine XS.iload X53.here hx rfl (hb hby at_216) rfl ?_
          show Steps p.tables e below (T53.setTop (mkF m 218 #[.val (.int p1), .val (.int p2), .val (.int p3), .val (.int p4), .val (.int p5), .val (.int p6), .val (.int cnt), .val (.int cp), .val (.int (own_min p1 p2)), .val (.int (own_max p1 p2)), .val (.int (own_min p3 p4)), .val (.int (own_max p3 p4)), .val (.int y0), .val (.int (own_max (own_min p1 p2) (own_min p3 p4))), .val (.int (own_min (own_max p1 p2) (own_max p3 p4))), .val (.int y3), .val (.int y1), .val (.int y2), .val (.ref b34), .val (.int (((0 : Int32) + (own_le y0 p5)) + (own_le y1 p5)))] [(.int p5), (.ref b34)])) t
          exact k)
        obtain ⟨cq83, kq83, q83a, q83b, q83c⟩ := isOf hZ eh53 P50_1
        obtain ⟨_, _, ⟨T83, L83, k83, n83⟩, -, X83, ⟨Lc83, hQ83, l83, y83, z83⟩, st83⟩ := X53.virtualBack hx (y := (⟨"com/example/interlace/interlace/core/IntColumn", "firstAbove", "(I)I"⟩ : MethodName)) (z := (⟨"com/example/interlace/interlace/core/IntColumn", "firstAbove", "(I)I"⟩ : MethodName)) hown (mvT hZ (hw _ (List.mem_of_getElem? (i := 45) rfl))) (mvT hZ (hw _ (List.mem_of_getElem? (i := 46) rfl))) (notFace_of_selects (args := #[]) (mvT hZ (hw _ (List.mem_of_getElem? (i := 48) rfl)))) (mvT hZ (hw _ (List.mem_of_getElem? (i := 48) rfl))) (mvT hZ (hw _ (List.mem_of_getElem? (i := 47) rfl))) (by decide) (backOf (W := 0) (rmFA2 l Z a0 hw [] b34 p5 ar2_50 kk2_50 cap2_50 y0 y1 T50.heap n0 sz50 P50_2 P50_3 P50_4 (show ¬ cap2_50 < (2 : Int32) from P50_7)) hZ (hw _ (List.mem_of_getElem? (i := 49) rfl)) (hw _ (List.mem_of_getElem? (i := 9) rfl)) (by decide) (by decide)) q83a q83c (g := (mkF m 218 #[.val (.int p1), .val (.int p2), .val (.int p3), .val (.int p4), .val (.int p5), .val (.int p6), .val (.int cnt), .val (.int cp), .val (.int (own_min p1 p2)), .val (.int (own_max p1 p2)), .val (.int (own_min p3 p4)), .val (.int (own_max p3 p4)), .val (.int y0), .val (.int (own_max (own_min p1 p2) (own_min p3 p4))), .val (.int (own_min (own_max p1 p2) (own_max p3 p4))), .val (.int y3), .val (.int y1), .val (.int y2), .val (.ref b34), .val (.int (((0 : Int32) + (own_le y0 p5)) + (own_le y1 p5)))] [(.int p5), (.ref b34)])) rfl (by rw [hml]; rfl) (Steps.refl _) (argsL := [(.int p5)]) (rest := []) (lenOf pd_oIcI rfl) rfl (by show 2 * 0 + _ ≤ _; exact Nat.le_of_eq rfl) (hb hby at_218) (fun _ _ => ⟨rfl, eh53, (by decide : 3 + 0 ≤ _), (by decide : 8 + 0 ≤ _)⟩)
        dsimp only [Pt.U, Pt.locs, Pt.cells, Pt.slots] at X83 l83 y83 z83 st83 hQ83
        subst l83 y83 z83
        obtain ⟨rfl, N83q, eh83⟩ := hQ83
        have N83 := Fr.app N53 N83q
        have pre84 : ∀ t, Steps p.tables e below (T83.setTop (mkF m 221 #[.val (.int p1), .val (.int p2), .val (.int p3), .val (.int p4), .val (.int p5), .val (.int p6), .val (.int cnt), .val (.int cp), .val (.int (own_min p1 p2)), .val (.int (own_max p1 p2)), .val (.int (own_min p3 p4)), .val (.int (own_max p3 p4)), .val (.int y0), .val (.int (own_max (own_min p1 p2) (own_min p3 p4))), .val (.int (own_min (own_max p1 p2) (own_max p3 p4))), .val (.int y3), .val (.int y1), .val (.int y2), .val (.ref b34), .val (.int (((0 : Int32) + (own_le y0 p5)) + (own_le y1 p5)))] [(.int (own_fa2 y0 y1 p5))])) t → Steps p.tables e below (s₁.setTop (entryFrame m #[(.int p1), (.int p2), (.int p3), (.int p4), (.int p5), (.int p6)] maxLocals)) t := fun t k => pre82 t (st83.trans k)
        have pre86 : ∀ t, Steps p.tables e below (T83.setTop (mkF m 231 #[.val (.int p1), .val (.int p2), .val (.int p3), .val (.int p4), .val (.int p5), .val (.int p6), .val (.int cnt), .val (.int cp), .val (.int (own_min p1 p2)), .val (.int (own_max p1 p2)), .val (.int (own_min p3 p4)), .val (.int (own_max p3 p4)), .val (.int y0), .val (.int (own_max (own_min p1 p2) (own_min p3 p4))), .val (.int (own_min (own_max p1 p2) (own_max p3 p4))), .val (.int y3), .val (.int y1), .val (.int y2), .val (.ref b34), .val (.int (((0 : Int32) + (own_le y0 p5)) + (own_le y1 p5)))] [(.int (1 : Int32))])) t → Steps p.tables e below (s₁.setTop (entryFrame m #[(.int p1), (.int p2), (.int p3), (.int p4), (.int p5), (.int p6)] maxLocals)) t := fun t k => pre84 t (by
          show Steps p.tables e below (T83.setTop (mkF m 221 #[.val (.int p1), .val (.int p2), .val (.int p3), .val (.int p4), .val (.int p5), .val (.int p6), .val (.int cnt), .val (.int cp), .val (.int (own_min p1 p2)), .val (.int (own_max p1 p2)), .val (.int (own_min p3 p4)), .val (.int (own_max p3 p4)), .val (.int y0), .val (.int (own_max (own_min p1 p2) (own_min p3 p4))), .val (.int (own_min (own_max p1 p2) (own_max p3 p4))), .val (.int y3), .val (.int y1), .val (.int y2), .val (.ref b34), .val (.int (((0 : Int32) + (own_le y0 p5)) + (own_le y1 p5)))] [(.int (own_fa2 y0 y1 p5))])) t
          refine XS.iload X83.here hx rfl (hb hby at_221) rfl ?_
          show Steps p.tables e below (T83.setTop (mkF m 223 #[.val (.int p1), .val (.int p2), .val (.int p3), .val (.int p4), .val (.int p5), .val (.int p6), .val (.int cnt), .val (.int cp), .val (.int (own_min p1 p2)), .val (.int (own_max p1 p2)), .val (.int (own_min p3 p4)), .val (.int (own_max p3 p4)), .val (.int y0), .val (.int (own_max (own_min p1 p2) (own_min p3 p4))), .val (.int (own_min (own_max p1 p2) (own_max p3 p4))), .val (.int y3), .val (.int y1), .val (.int y2), .val (.ref b34), .val (.int (((0 : Int32) + (own_le y0 p5)) + (own_le y1 p5)))] [(.int (((0 : Int32) + (own_le y0 p5)) + (own_le y1 p5))), (.int (own_fa2 y0 y1 p5))])) t
          refine XS.icmpNo X83.here hx rfl (hb hby at_223) rfl (XT.ii_ne_f (show (own_fa2 y0 y1 p5) = (((0 : Int32) + (own_le y0 p5)) + (own_le y1 p5)) from own_f2 _ hs.1)) ?_
          show Steps p.tables e below (T83.setTop (mkF m 226 #[.val (.int p1), .val (.int p2), .val (.int p3), .val (.int p4), .val (.int p5), .val (.int p6), .val (.int cnt), .val (.int cp), .val (.int (own_min p1 p2)), .val (.int (own_max p1 p2)), .val (.int (own_min p3 p4)), .val (.int (own_max p3 p4)), .val (.int y0), .val (.int (own_max (own_min p1 p2) (own_min p3 p4))), .val (.int (own_min (own_max p1 p2) (own_max p3 p4))), .val (.int y3), .val (.int y1), .val (.int y2), .val (.ref b34), .val (.int (((0 : Int32) + (own_le y0 p5)) + (own_le y1 p5)))] [])) t
          refine XS.iconst X83.here hx rfl (hb hby at_226) ?_
          show Steps p.tables e below (T83.setTop (mkF m 227 #[.val (.int p1), .val (.int p2), .val (.int p3), .val (.int p4), .val (.int p5), .val (.int p6), .val (.int cnt), .val (.int cp), .val (.int (own_min p1 p2)), .val (.int (own_max p1 p2)), .val (.int (own_min p3 p4)), .val (.int (own_max p3 p4)), .val (.int y0), .val (.int (own_max (own_min p1 p2) (own_min p3 p4))), .val (.int (own_min (own_max p1 p2) (own_max p3 p4))), .val (.int y3), .val (.int y1), .val (.int y2), .val (.ref b34), .val (.int (((0 : Int32) + (own_le y0 p5)) + (own_le y1 p5)))] [(.int (1 : Int32))])) t
          refine XS.goto X83.here hx rfl (pc0 := 227) (pc' := 231) rfl (hb hby at_227) (by decide) (by decide) ?_
          show Steps p.tables e below (T83.setTop (mkF m 231 #[.val (.int p1), .val (.int p2), .val (.int p3), .val (.int p4), .val (.int p5), .val (.int p6), .val (.int cnt), .val (.int cp), .val (.int (own_min p1 p2)), .val (.int (own_max p1 p2)), .val (.int (own_min p3 p4)), .val (.int (own_max p3 p4)), .val (.int y0), .val (.int (own_max (own_min p1 p2) (own_min p3 p4))), .val (.int (own_min (own_max p1 p2) (own_max p3 p4))), .val (.int y3), .val (.int y1), .val (.int y2), .val (.ref b34), .val (.int (((0 : Int32) + (own_le y0 p5)) + (own_le y1 p5)))] [(.int (1 : Int32))])) t
          exact k)
        obtain ⟨fs, hr, hrun, hended, hW, hsame⟩ := X83.leave (v := some (.int (1 : Int32))) (fun h => by rw [Bd.returns] at h; cases h)
        refine ⟨_, _, pre86 _ ?_, hrun, hended, _, _, rfl, ?_, ⟨_, rfl⟩, hW, hsame.mono (by decide) (by decide)⟩
        · show Steps p.tables e below (T83.setTop (mkF m 231 #[.val (.int p1), .val (.int p2), .val (.int p3), .val (.int p4), .val (.int p5), .val (.int p6), .val (.int cnt), .val (.int cp), .val (.int (own_min p1 p2)), .val (.int (own_max p1 p2)), .val (.int (own_min p3 p4)), .val (.int (own_max p3 p4)), .val (.int y0), .val (.int (own_max (own_min p1 p2) (own_min p3 p4))), .val (.int (own_min (own_max p1 p2) (own_max p3 p4))), .val (.int y3), .val (.int y1), .val (.int y2), .val (.ref b34), .val (.int (((0 : Int32) + (own_le y0 p5)) + (own_le y1 p5)))] [(.int (1 : Int32))])) _
          exact retN X83 hx (t := .boolean) Bd.returns (by simp) (hb hby at_231) hr
        · show Q0 Z p1 p2 p3 p4 p5 p6 h0 n0 _ T83.heap _
          rw [eh83]
          exact ⟨rfl, N83⟩
    · skip
      have pre89 : ∀ t, Steps p.tables e below (T45.setTop (mkF m 218 #[.val (.int p1), .val (.int p2), .val (.int p3), .val (.int p4), .val (.int p5), .val (.int p6), .val (.int cnt), .val (.int cp), .val (.int (own_min p1 p2)), .val (.int (own_max p1 p2)), .val (.int (own_min p3 p4)), .val (.int (own_max p3 p4)), .val (.int y0), .val (.int (own_max (own_min p1 p2) (own_min p3 p4))), .val (.int (own_min (own_max p1 p2) (own_max p3 p4))), .val (.int y3), .val (.int y1), .val (.int y2), .val (.ref b34), .val (.int ((0 : Int32) + (own_le y0 p5)))] [(.int p5), (.ref b34)])) t → Steps p.tables e below (s₁.setTop (entryFrame m #[(.int p1), (.int p2), (.int p3), (.int p4), (.int p5), (.int p6)] maxLocals)) t := fun t k => pre48 t (by
        show Steps p.tables e below (T45.setTop (mkF m 142 #[.val (.int p1), .val (.int p2), .val (.int p3), .val (.int p4), .val (.int p5), .val (.int p6), .val (.int cnt), .val (.int cp), .val (.int (own_min p1 p2)), .val (.int (own_max p1 p2)), .val (.int (own_min p3 p4)), .val (.int (own_max p3 p4)), .val (.int y0), .val (.int (own_max (own_min p1 p2) (own_min p3 p4))), .val (.int (own_min (own_max p1 p2) (own_max p3 p4))), .val (.int y3), .val (.int y1), .val (.int y2), .val (.ref b34), .val (.int ((0 : Int32) + (own_le y0 p5)))] [(.int (1 : Int32)), (.int cnt)])) t
        refine XS.icmpYes X45.here hx rfl (pc0 := 142) (pc' := 164) rfl (hb hby at_142) rfl (XT.ii_le_t hc142_47) (by decide) (by decide) ?_
        show Steps p.tables e below (T45.setTop (mkF m 164 #[.val (.int p1), .val (.int p2), .val (.int p3), .val (.int p4), .val (.int p5), .val (.int p6), .val (.int cnt), .val (.int cp), .val (.int (own_min p1 p2)), .val (.int (own_max p1 p2)), .val (.int (own_min p3 p4)), .val (.int (own_max p3 p4)), .val (.int y0), .val (.int (own_max (own_min p1 p2) (own_min p3 p4))), .val (.int (own_min (own_max p1 p2) (own_max p3 p4))), .val (.int y3), .val (.int y1), .val (.int y2), .val (.ref b34), .val (.int ((0 : Int32) + (own_le y0 p5)))] [])) t
        refine XS.iload X45.here hx rfl (hb hby at_164) rfl ?_
        show Steps p.tables e below (T45.setTop (mkF m 166 #[.val (.int p1), .val (.int p2), .val (.int p3), .val (.int p4), .val (.int p5), .val (.int p6), .val (.int cnt), .val (.int cp), .val (.int (own_min p1 p2)), .val (.int (own_max p1 p2)), .val (.int (own_min p3 p4)), .val (.int (own_max p3 p4)), .val (.int y0), .val (.int (own_max (own_min p1 p2) (own_min p3 p4))), .val (.int (own_min (own_max p1 p2) (own_max p3 p4))), .val (.int y3), .val (.int y1), .val (.int y2), .val (.ref b34), .val (.int ((0 : Int32) + (own_le y0 p5)))] [(.int cnt)])) t
        refine XS.iconst X45.here hx rfl (hb hby at_166) ?_
        show Steps p.tables e below (T45.setTop (mkF m 167 #[.val (.int p1), .val (.int p2), .val (.int p3), .val (.int p4), .val (.int p5), .val (.int p6), .val (.int cnt), .val (.int cp), .val (.int (own_min p1 p2)), .val (.int (own_max p1 p2)), .val (.int (own_min p3 p4)), .val (.int (own_max p3 p4)), .val (.int y0), .val (.int (own_max (own_min p1 p2) (own_min p3 p4))), .val (.int (own_min (own_max p1 p2) (own_max p3 p4))), .val (.int y3), .val (.int y1), .val (.int y2), .val (.ref b34), .val (.int ((0 : Int32) + (own_le y0 p5)))] [(.int (2 : Int32)), (.int cnt)])) t
        refine XS.icmpYes X45.here hx rfl (pc0 := 167) (pc' := 189) rfl (hb hby at_167) rfl (XT.ii_le_t (show ¬ ((2 : Int32) < cnt) from own_no (1 : Int32) (2 : Int32) (by decide) hc142_47)) (by decide) (by decide) ?_
        show Steps p.tables e below (T45.setTop (mkF m 189 #[.val (.int p1), .val (.int p2), .val (.int p3), .val (.int p4), .val (.int p5), .val (.int p6), .val (.int cnt), .val (.int cp), .val (.int (own_min p1 p2)), .val (.int (own_max p1 p2)), .val (.int (own_min p3 p4)), .val (.int (own_max p3 p4)), .val (.int y0), .val (.int (own_max (own_min p1 p2) (own_min p3 p4))), .val (.int (own_min (own_max p1 p2) (own_max p3 p4))), .val (.int y3), .val (.int y1), .val (.int y2), .val (.ref b34), .val (.int ((0 : Int32) + (own_le y0 p5)))] [])) t
        refine XS.iload X45.here hx rfl (hb hby at_189) rfl ?_
        show Steps p.tables e below (T45.setTop (mkF m 191 #[.val (.int p1), .val (.int p2), .val (.int p3), .val (.int p4), .val (.int p5), .val (.int p6), .val (.int cnt), .val (.int cp), .val (.int (own_min p1 p2)), .val (.int (own_max p1 p2)), .val (.int (own_min p3 p4)), .val (.int (own_max p3 p4)), .val (.int y0), .val (.int (own_max (own_min p1 p2) (own_min p3 p4))), .val (.int (own_min (own_max p1 p2) (own_max p3 p4))), .val (.int y3), .val (.int y1), .val (.int y2), .val (.ref b34), .val (.int ((0 : Int32) + (own_le y0 p5)))] [(.int cnt)])) t
        refine XS.iconst X45.here hx rfl (hb hby at_191) ?_
        show Steps p.tables e below (T45.setTop (mkF m 192 #[.val (.int p1), .val (.int p2), .val (.int p3), .val (.int p4), .val (.int p5), .val (.int p6), .val (.int cnt), .val (.int cp), .val (.int (own_min p1 p2)), .val (.int (own_max p1 p2)), .val (.int (own_min p3 p4)), .val (.int (own_max p3 p4)), .val (.int y0), .val (.int (own_max (own_min p1 p2) (own_min p3 p4))), .val (.int (own_min (own_max p1 p2) (own_max p3 p4))), .val (.int y3), .val (.int y1), .val (.int y2), .val (.ref b34), .val (.int ((0 : Int32) + (own_le y0 p5)))] [(.int (3 : Int32)), (.int cnt)])) t
        refine XS.icmpYes X45.here hx rfl (pc0 := 192) (pc' := 214) rfl (hb hby at_192) rfl (XT.ii_le_t (show ¬ ((3 : Int32) < cnt) from own_no (1 : Int32) (3 : Int32) (by decide) hc142_47)) (by decide) (by decide) ?_
        show Steps p.tables e below (T45.setTop (mkF m 214 #[.val (.int p1), .val (.int p2), .val (.int p3), .val (.int p4), .val (.int p5), .val (.int p6), .val (.int cnt), .val (.int cp), .val (.int (own_min p1 p2)), .val (.int (own_max p1 p2)), .val (.int (own_min p3 p4)), .val (.int (own_max p3 p4)), .val (.int y0), .val (.int (own_max (own_min p1 p2) (own_min p3 p4))), .val (.int (own_min (own_max p1 p2) (own_max p3 p4))), .val (.int y3), .val (.int y1), .val (.int y2), .val (.ref b34), .val (.int ((0 : Int32) + (own_le y0 p5)))] [])) t
        refine XS.aload X45.here hx rfl (hb hby at_214) rfl rfl ?_
        show Steps p.tables e below (T45.setTop (mkF m 216 #[.val (.int p1), .val (.int p2), .val (.int p3), .val (.int p4), .val (.int p5), .val (.int p6), .val (.int cnt), .val (.int cp), .val (.int (own_min p1 p2)), .val (.int (own_max p1 p2)), .val (.int (own_min p3 p4)), .val (.int (own_max p3 p4)), .val (.int y0), .val (.int (own_max (own_min p1 p2) (own_min p3 p4))), .val (.int (own_min (own_max p1 p2) (own_max p3 p4))), .val (.int y3), .val (.int y1), .val (.int y2), .val (.ref b34), .val (.int ((0 : Int32) + (own_le y0 p5)))] [(.ref b34)])) t
        refine XS.iload X45.here hx rfl (hb hby at_216) rfl ?_
        show Steps p.tables e below (T45.setTop (mkF m 218 #[.val (.int p1), .val (.int p2), .val (.int p3), .val (.int p4), .val (.int p5), .val (.int p6), .val (.int cnt), .val (.int cp), .val (.int (own_min p1 p2)), .val (.int (own_max p1 p2)), .val (.int (own_min p3 p4)), .val (.int (own_max p3 p4)), .val (.int y0), .val (.int (own_max (own_min p1 p2) (own_min p3 p4))), .val (.int (own_min (own_max p1 p2) (own_max p3 p4))), .val (.int y3), .val (.int y1), .val (.int y2), .val (.ref b34), .val (.int ((0 : Int32) + (own_le y0 p5)))] [(.int p5), (.ref b34)])) t
        exact k)
      obtain ⟨cq90, kq90, q90a, q90b, q90c⟩ := isOf hZ eh45 P42_1
      obtain ⟨_, _, ⟨T90, L90, k90, n90⟩, -, X90, ⟨Lc90, hQ90, l90, y90, z90⟩, st90⟩ := X45.virtualBack hx (y := (⟨"com/example/interlace/interlace/core/IntColumn", "firstAbove", "(I)I"⟩ : MethodName)) (z := (⟨"com/example/interlace/interlace/core/IntColumn", "firstAbove", "(I)I"⟩ : MethodName)) hown (mvT hZ (hw _ (List.mem_of_getElem? (i := 45) rfl))) (mvT hZ (hw _ (List.mem_of_getElem? (i := 46) rfl))) (notFace_of_selects (args := #[]) (mvT hZ (hw _ (List.mem_of_getElem? (i := 48) rfl)))) (mvT hZ (hw _ (List.mem_of_getElem? (i := 48) rfl))) (mvT hZ (hw _ (List.mem_of_getElem? (i := 47) rfl))) (by decide) (backOf (W := 0) (rmFA1 l Z a0 hw [] b34 p5 ar2_42 kk2_42 cap2_42 y0 T42.heap n0 sz42 P42_2 P42_3 P42_4 (show ¬ cap2_42 < (1 : Int32) from P42_7)) hZ (hw _ (List.mem_of_getElem? (i := 49) rfl)) (hw _ (List.mem_of_getElem? (i := 9) rfl)) (by decide) (by decide)) q90a q90c (g := (mkF m 218 #[.val (.int p1), .val (.int p2), .val (.int p3), .val (.int p4), .val (.int p5), .val (.int p6), .val (.int cnt), .val (.int cp), .val (.int (own_min p1 p2)), .val (.int (own_max p1 p2)), .val (.int (own_min p3 p4)), .val (.int (own_max p3 p4)), .val (.int y0), .val (.int (own_max (own_min p1 p2) (own_min p3 p4))), .val (.int (own_min (own_max p1 p2) (own_max p3 p4))), .val (.int y3), .val (.int y1), .val (.int y2), .val (.ref b34), .val (.int ((0 : Int32) + (own_le y0 p5)))] [(.int p5), (.ref b34)])) rfl (by rw [hml]; rfl) (Steps.refl _) (argsL := [(.int p5)]) (rest := []) (lenOf pd_oIcI rfl) rfl (by show 2 * 0 + _ ≤ _; exact Nat.le_of_eq rfl) (hb hby at_218) (fun _ _ => ⟨rfl, eh45, (by decide : 2 + 0 ≤ _), (by decide : 6 + 0 ≤ _)⟩)
      dsimp only [Pt.U, Pt.locs, Pt.cells, Pt.slots] at X90 l90 y90 z90 st90 hQ90
      subst l90 y90 z90
      obtain ⟨rfl, N90q, eh90⟩ := hQ90
      have N90 := Fr.app N45 N90q
      have pre91 : ∀ t, Steps p.tables e below (T90.setTop (mkF m 221 #[.val (.int p1), .val (.int p2), .val (.int p3), .val (.int p4), .val (.int p5), .val (.int p6), .val (.int cnt), .val (.int cp), .val (.int (own_min p1 p2)), .val (.int (own_max p1 p2)), .val (.int (own_min p3 p4)), .val (.int (own_max p3 p4)), .val (.int y0), .val (.int (own_max (own_min p1 p2) (own_min p3 p4))), .val (.int (own_min (own_max p1 p2) (own_max p3 p4))), .val (.int y3), .val (.int y1), .val (.int y2), .val (.ref b34), .val (.int ((0 : Int32) + (own_le y0 p5)))] [(.int (own_fa1 y0 p5))])) t → Steps p.tables e below (s₁.setTop (entryFrame m #[(.int p1), (.int p2), (.int p3), (.int p4), (.int p5), (.int p6)] maxLocals)) t := fun t k => pre89 t (st90.trans k)
      have pre93 : ∀ t, Steps p.tables e below (T90.setTop (mkF m 231 #[.val (.int p1), .val (.int p2), .val (.int p3), .val (.int p4), .val (.int p5), .val (.int p6), .val (.int cnt), .val (.int cp), .val (.int (own_min p1 p2)), .val (.int (own_max p1 p2)), .val (.int (own_min p3 p4)), .val (.int (own_max p3 p4)), .val (.int y0), .val (.int (own_max (own_min p1 p2) (own_min p3 p4))), .val (.int (own_min (own_max p1 p2) (own_max p3 p4))), .val (.int y3), .val (.int y1), .val (.int y2), .val (.ref b34), .val (.int ((0 : Int32) + (own_le y0 p5)))] [(.int (1 : Int32))])) t → Steps p.tables e below (s₁.setTop (entryFrame m #[(.int p1), (.int p2), (.int p3), (.int p4), (.int p5), (.int p6)] maxLocals)) t := fun t k => pre91 t (by
        show Steps p.tables e below (T90.setTop (mkF m 221 #[.val (.int p1), .val (.int p2), .val (.int p3), .val (.int p4), .val (.int p5), .val (.int p6), .val (.int cnt), .val (.int cp), .val (.int (own_min p1 p2)), .val (.int (own_max p1 p2)), .val (.int (own_min p3 p4)), .val (.int (own_max p3 p4)), .val (.int y0), .val (.int (own_max (own_min p1 p2) (own_min p3 p4))), .val (.int (own_min (own_max p1 p2) (own_max p3 p4))), .val (.int y3), .val (.int y1), .val (.int y2), .val (.ref b34), .val (.int ((0 : Int32) + (own_le y0 p5)))] [(.int (own_fa1 y0 p5))])) t
        refine XS.iload X90.here hx rfl (hb hby at_221) rfl ?_
        show Steps p.tables e below (T90.setTop (mkF m 223 #[.val (.int p1), .val (.int p2), .val (.int p3), .val (.int p4), .val (.int p5), .val (.int p6), .val (.int cnt), .val (.int cp), .val (.int (own_min p1 p2)), .val (.int (own_max p1 p2)), .val (.int (own_min p3 p4)), .val (.int (own_max p3 p4)), .val (.int y0), .val (.int (own_max (own_min p1 p2) (own_min p3 p4))), .val (.int (own_min (own_max p1 p2) (own_max p3 p4))), .val (.int y3), .val (.int y1), .val (.int y2), .val (.ref b34), .val (.int ((0 : Int32) + (own_le y0 p5)))] [(.int ((0 : Int32) + (own_le y0 p5))), (.int (own_fa1 y0 p5))])) t
        refine XS.icmpNo X90.here hx rfl (hb hby at_223) rfl (XT.ii_ne_f (show (own_fa1 y0 p5) = ((0 : Int32) + (own_le y0 p5)) from own_f1 _ _)) ?_
        show Steps p.tables e below (T90.setTop (mkF m 226 #[.val (.int p1), .val (.int p2), .val (.int p3), .val (.int p4), .val (.int p5), .val (.int p6), .val (.int cnt), .val (.int cp), .val (.int (own_min p1 p2)), .val (.int (own_max p1 p2)), .val (.int (own_min p3 p4)), .val (.int (own_max p3 p4)), .val (.int y0), .val (.int (own_max (own_min p1 p2) (own_min p3 p4))), .val (.int (own_min (own_max p1 p2) (own_max p3 p4))), .val (.int y3), .val (.int y1), .val (.int y2), .val (.ref b34), .val (.int ((0 : Int32) + (own_le y0 p5)))] [])) t
        refine XS.iconst X90.here hx rfl (hb hby at_226) ?_
        show Steps p.tables e below (T90.setTop (mkF m 227 #[.val (.int p1), .val (.int p2), .val (.int p3), .val (.int p4), .val (.int p5), .val (.int p6), .val (.int cnt), .val (.int cp), .val (.int (own_min p1 p2)), .val (.int (own_max p1 p2)), .val (.int (own_min p3 p4)), .val (.int (own_max p3 p4)), .val (.int y0), .val (.int (own_max (own_min p1 p2) (own_min p3 p4))), .val (.int (own_min (own_max p1 p2) (own_max p3 p4))), .val (.int y3), .val (.int y1), .val (.int y2), .val (.ref b34), .val (.int ((0 : Int32) + (own_le y0 p5)))] [(.int (1 : Int32))])) t
        refine XS.goto X90.here hx rfl (pc0 := 227) (pc' := 231) rfl (hb hby at_227) (by decide) (by decide) ?_
        show Steps p.tables e below (T90.setTop (mkF m 231 #[.val (.int p1), .val (.int p2), .val (.int p3), .val (.int p4), .val (.int p5), .val (.int p6), .val (.int cnt), .val (.int cp), .val (.int (own_min p1 p2)), .val (.int (own_max p1 p2)), .val (.int (own_min p3 p4)), .val (.int (own_max p3 p4)), .val (.int y0), .val (.int (own_max (own_min p1 p2) (own_min p3 p4))), .val (.int (own_min (own_max p1 p2) (own_max p3 p4))), .val (.int y3), .val (.int y1), .val (.int y2), .val (.ref b34), .val (.int ((0 : Int32) + (own_le y0 p5)))] [(.int (1 : Int32))])) t
        exact k)
      obtain ⟨fs, hr, hrun, hended, hW, hsame⟩ := X90.leave (v := some (.int (1 : Int32))) (fun h => by rw [Bd.returns] at h; cases h)
      refine ⟨_, _, pre93 _ ?_, hrun, hended, _, _, rfl, ?_, ⟨_, rfl⟩, hW, hsame.mono (by decide) (by decide)⟩
      · show Steps p.tables e below (T90.setTop (mkF m 231 #[.val (.int p1), .val (.int p2), .val (.int p3), .val (.int p4), .val (.int p5), .val (.int p6), .val (.int cnt), .val (.int cp), .val (.int (own_min p1 p2)), .val (.int (own_max p1 p2)), .val (.int (own_min p3 p4)), .val (.int (own_max p3 p4)), .val (.int y0), .val (.int (own_max (own_min p1 p2) (own_min p3 p4))), .val (.int (own_min (own_max p1 p2) (own_max p3 p4))), .val (.int y3), .val (.int y1), .val (.int y2), .val (.ref b34), .val (.int ((0 : Int32) + (own_le y0 p5)))] [(.int (1 : Int32))])) _
        exact retN X90 hx (t := .boolean) Bd.returns (by simp) (hb hby at_231) hr
      · show Q0 Z p1 p2 p3 p4 p5 p6 h0 n0 _ T90.heap _
        rw [eh90]
        exact ⟨rfl, N90⟩
  · skip
    have pre97 : ∀ t, Steps p.tables e below (T37.setTop (mkF m 218 #[.val (.int p1), .val (.int p2), .val (.int p3), .val (.int p4), .val (.int p5), .val (.int p6), .val (.int cnt), .val (.int cp), .val (.int (own_min p1 p2)), .val (.int (own_max p1 p2)), .val (.int (own_min p3 p4)), .val (.int (own_max p3 p4)), .val (.int y0), .val (.int (own_max (own_min p1 p2) (own_min p3 p4))), .val (.int (own_min (own_max p1 p2) (own_max p3 p4))), .val (.int y3), .val (.int y1), .val (.int y2), .val (.ref b34), .val (.int (0 : Int32))] [(.int p5), (.ref b34)])) t → Steps p.tables e below (s₁.setTop (entryFrame m #[(.int p1), (.int p2), (.int p3), (.int p4), (.int p5), (.int p6)] maxLocals)) t := fun t k => pre40 t (by
      show Steps p.tables e below (T37.setTop (mkF m 117 #[.val (.int p1), .val (.int p2), .val (.int p3), .val (.int p4), .val (.int p5), .val (.int p6), .val (.int cnt), .val (.int cp), .val (.int (own_min p1 p2)), .val (.int (own_max p1 p2)), .val (.int (own_min p3 p4)), .val (.int (own_max p3 p4)), .val (.int y0), .val (.int (own_max (own_min p1 p2) (own_min p3 p4))), .val (.int (own_min (own_max p1 p2) (own_max p3 p4))), .val (.int y3), .val (.int y1), .val (.int y2), .val (.ref b34), .val (.int (0 : Int32))] [(.int cnt)])) t
      refine XS.ifYes X37.here hx rfl (pc0 := 117) (pc' := 139) rfl (hb hby at_117) rfl (XT.i0_le_t hc117_39) (by decide) (by decide) ?_
      show Steps p.tables e below (T37.setTop (mkF m 139 #[.val (.int p1), .val (.int p2), .val (.int p3), .val (.int p4), .val (.int p5), .val (.int p6), .val (.int cnt), .val (.int cp), .val (.int (own_min p1 p2)), .val (.int (own_max p1 p2)), .val (.int (own_min p3 p4)), .val (.int (own_max p3 p4)), .val (.int y0), .val (.int (own_max (own_min p1 p2) (own_min p3 p4))), .val (.int (own_min (own_max p1 p2) (own_max p3 p4))), .val (.int y3), .val (.int y1), .val (.int y2), .val (.ref b34), .val (.int (0 : Int32))] [])) t
      refine XS.iload X37.here hx rfl (hb hby at_139) rfl ?_
      show Steps p.tables e below (T37.setTop (mkF m 141 #[.val (.int p1), .val (.int p2), .val (.int p3), .val (.int p4), .val (.int p5), .val (.int p6), .val (.int cnt), .val (.int cp), .val (.int (own_min p1 p2)), .val (.int (own_max p1 p2)), .val (.int (own_min p3 p4)), .val (.int (own_max p3 p4)), .val (.int y0), .val (.int (own_max (own_min p1 p2) (own_min p3 p4))), .val (.int (own_min (own_max p1 p2) (own_max p3 p4))), .val (.int y3), .val (.int y1), .val (.int y2), .val (.ref b34), .val (.int (0 : Int32))] [(.int cnt)])) t
      refine XS.iconst X37.here hx rfl (hb hby at_141) ?_
      show Steps p.tables e below (T37.setTop (mkF m 142 #[.val (.int p1), .val (.int p2), .val (.int p3), .val (.int p4), .val (.int p5), .val (.int p6), .val (.int cnt), .val (.int cp), .val (.int (own_min p1 p2)), .val (.int (own_max p1 p2)), .val (.int (own_min p3 p4)), .val (.int (own_max p3 p4)), .val (.int y0), .val (.int (own_max (own_min p1 p2) (own_min p3 p4))), .val (.int (own_min (own_max p1 p2) (own_max p3 p4))), .val (.int y3), .val (.int y1), .val (.int y2), .val (.ref b34), .val (.int (0 : Int32))] [(.int (1 : Int32)), (.int cnt)])) t
      refine XS.icmpYes X37.here hx rfl (pc0 := 142) (pc' := 164) rfl (hb hby at_142) rfl (XT.ii_le_t (show ¬ ((1 : Int32) < cnt) from own_no (0 : Int32) (1 : Int32) (by decide) hc117_39)) (by decide) (by decide) ?_
      show Steps p.tables e below (T37.setTop (mkF m 164 #[.val (.int p1), .val (.int p2), .val (.int p3), .val (.int p4), .val (.int p5), .val (.int p6), .val (.int cnt), .val (.int cp), .val (.int (own_min p1 p2)), .val (.int (own_max p1 p2)), .val (.int (own_min p3 p4)), .val (.int (own_max p3 p4)), .val (.int y0), .val (.int (own_max (own_min p1 p2) (own_min p3 p4))), .val (.int (own_min (own_max p1 p2) (own_max p3 p4))), .val (.int y3), .val (.int y1), .val (.int y2), .val (.ref b34), .val (.int (0 : Int32))] [])) t
      refine XS.iload X37.here hx rfl (hb hby at_164) rfl ?_
      show Steps p.tables e below (T37.setTop (mkF m 166 #[.val (.int p1), .val (.int p2), .val (.int p3), .val (.int p4), .val (.int p5), .val (.int p6), .val (.int cnt), .val (.int cp), .val (.int (own_min p1 p2)), .val (.int (own_max p1 p2)), .val (.int (own_min p3 p4)), .val (.int (own_max p3 p4)), .val (.int y0), .val (.int (own_max (own_min p1 p2) (own_min p3 p4))), .val (.int (own_min (own_max p1 p2) (own_max p3 p4))), .val (.int y3), .val (.int y1), .val (.int y2), .val (.ref b34), .val (.int (0 : Int32))] [(.int cnt)])) t
      refine XS.iconst X37.here hx rfl (hb hby at_166) ?_
      show Steps p.tables e below (T37.setTop (mkF m 167 #[.val (.int p1), .val (.int p2), .val (.int p3), .val (.int p4), .val (.int p5), .val (.int p6), .val (.int cnt), .val (.int cp), .val (.int (own_min p1 p2)), .val (.int (own_max p1 p2)), .val (.int (own_min p3 p4)), .val (.int (own_max p3 p4)), .val (.int y0), .val (.int (own_max (own_min p1 p2) (own_min p3 p4))), .val (.int (own_min (own_max p1 p2) (own_max p3 p4))), .val (.int y3), .val (.int y1), .val (.int y2), .val (.ref b34), .val (.int (0 : Int32))] [(.int (2 : Int32)), (.int cnt)])) t
      refine XS.icmpYes X37.here hx rfl (pc0 := 167) (pc' := 189) rfl (hb hby at_167) rfl (XT.ii_le_t (show ¬ ((2 : Int32) < cnt) from own_no (0 : Int32) (2 : Int32) (by decide) hc117_39)) (by decide) (by decide) ?_
      show Steps p.tables e below (T37.setTop (mkF m 189 #[.val (.int p1), .val (.int p2), .val (.int p3), .val (.int p4), .val (.int p5), .val (.int p6), .val (.int cnt), .val (.int cp), .val (.int (own_min p1 p2)), .val (.int (own_max p1 p2)), .val (.int (own_min p3 p4)), .val (.int (own_max p3 p4)), .val (.int y0), .val (.int (own_max (own_min p1 p2) (own_min p3 p4))), .val (.int (own_min (own_max p1 p2) (own_max p3 p4))), .val (.int y3), .val (.int y1), .val (.int y2), .val (.ref b34), .val (.int (0 : Int32))] [])) t
      refine XS.iload X37.here hx rfl (hb hby at_189) rfl ?_
      show Steps p.tables e below (T37.setTop (mkF m 191 #[.val (.int p1), .val (.int p2), .val (.int p3), .val (.int p4), .val (.int p5), .val (.int p6), .val (.int cnt), .val (.int cp), .val (.int (own_min p1 p2)), .val (.int (own_max p1 p2)), .val (.int (own_min p3 p4)), .val (.int (own_max p3 p4)), .val (.int y0), .val (.int (own_max (own_min p1 p2) (own_min p3 p4))), .val (.int (own_min (own_max p1 p2) (own_max p3 p4))), .val (.int y3), .val (.int y1), .val (.int y2), .val (.ref b34), .val (.int (0 : Int32))] [(.int cnt)])) t
      refine XS.iconst X37.here hx rfl (hb hby at_191) ?_
      show Steps p.tables e below (T37.setTop (mkF m 192 #[.val (.int p1), .val (.int p2), .val (.int p3), .val (.int p4), .val (.int p5), .val (.int p6), .val (.int cnt), .val (.int cp), .val (.int (own_min p1 p2)), .val (.int (own_max p1 p2)), .val (.int (own_min p3 p4)), .val (.int (own_max p3 p4)), .val (.int y0), .val (.int (own_max (own_min p1 p2) (own_min p3 p4))), .val (.int (own_min (own_max p1 p2) (own_max p3 p4))), .val (.int y3), .val (.int y1), .val (.int y2), .val (.ref b34), .val (.int (0 : Int32))] [(.int (3 : Int32)), (.int cnt)])) t
      refine XS.icmpYes X37.here hx rfl (pc0 := 192) (pc' := 214) rfl (hb hby at_192) rfl (XT.ii_le_t (show ¬ ((3 : Int32) < cnt) from own_no (0 : Int32) (3 : Int32) (by decide) hc117_39)) (by decide) (by decide) ?_
      show Steps p.tables e below (T37.setTop (mkF m 214 #[.val (.int p1), .val (.int p2), .val (.int p3), .val (.int p4), .val (.int p5), .val (.int p6), .val (.int cnt), .val (.int cp), .val (.int (own_min p1 p2)), .val (.int (own_max p1 p2)), .val (.int (own_min p3 p4)), .val (.int (own_max p3 p4)), .val (.int y0), .val (.int (own_max (own_min p1 p2) (own_min p3 p4))), .val (.int (own_min (own_max p1 p2) (own_max p3 p4))), .val (.int y3), .val (.int y1), .val (.int y2), .val (.ref b34), .val (.int (0 : Int32))] [])) t
      refine XS.aload X37.here hx rfl (hb hby at_214) rfl rfl ?_
      show Steps p.tables e below (T37.setTop (mkF m 216 #[.val (.int p1), .val (.int p2), .val (.int p3), .val (.int p4), .val (.int p5), .val (.int p6), .val (.int cnt), .val (.int cp), .val (.int (own_min p1 p2)), .val (.int (own_max p1 p2)), .val (.int (own_min p3 p4)), .val (.int (own_max p3 p4)), .val (.int y0), .val (.int (own_max (own_min p1 p2) (own_min p3 p4))), .val (.int (own_min (own_max p1 p2) (own_max p3 p4))), .val (.int y3), .val (.int y1), .val (.int y2), .val (.ref b34), .val (.int (0 : Int32))] [(.ref b34)])) t
      refine XS.iload X37.here hx rfl (hb hby at_216) rfl ?_
      show Steps p.tables e below (T37.setTop (mkF m 218 #[.val (.int p1), .val (.int p2), .val (.int p3), .val (.int p4), .val (.int p5), .val (.int p6), .val (.int cnt), .val (.int cp), .val (.int (own_min p1 p2)), .val (.int (own_max p1 p2)), .val (.int (own_min p3 p4)), .val (.int (own_max p3 p4)), .val (.int y0), .val (.int (own_max (own_min p1 p2) (own_min p3 p4))), .val (.int (own_min (own_max p1 p2) (own_max p3 p4))), .val (.int y3), .val (.int y1), .val (.int y2), .val (.ref b34), .val (.int (0 : Int32))] [(.int p5), (.ref b34)])) t
      exact k)
    obtain ⟨cq98, kq98, q98a, q98b, q98c⟩ := isOf hZ rfl P37_2
    obtain ⟨_, _, ⟨T98, L98, k98, n98⟩, -, X98, ⟨Lc98, hQ98, l98, y98, z98⟩, st98⟩ := X37.virtualBack hx (y := (⟨"com/example/interlace/interlace/core/IntColumn", "firstAbove", "(I)I"⟩ : MethodName)) (z := (⟨"com/example/interlace/interlace/core/IntColumn", "firstAbove", "(I)I"⟩ : MethodName)) hown (mvT hZ (hw _ (List.mem_of_getElem? (i := 45) rfl))) (mvT hZ (hw _ (List.mem_of_getElem? (i := 46) rfl))) (notFace_of_selects (args := #[]) (mvT hZ (hw _ (List.mem_of_getElem? (i := 48) rfl)))) (mvT hZ (hw _ (List.mem_of_getElem? (i := 48) rfl))) (mvT hZ (hw _ (List.mem_of_getElem? (i := 47) rfl))) (by decide) (backOf (W := 0) (rmFA0 l Z a0 hw [] b34 p5 ar_37 kk_37 cp T37.heap n0 sz37 P37_3 P37_4 P37_5 (show ¬ cp < (0 : Int32) from (own_cp0 hcp.1))) hZ (hw _ (List.mem_of_getElem? (i := 49) rfl)) (hw _ (List.mem_of_getElem? (i := 9) rfl)) (by decide) (by decide)) q98a q98c (g := (mkF m 218 #[.val (.int p1), .val (.int p2), .val (.int p3), .val (.int p4), .val (.int p5), .val (.int p6), .val (.int cnt), .val (.int cp), .val (.int (own_min p1 p2)), .val (.int (own_max p1 p2)), .val (.int (own_min p3 p4)), .val (.int (own_max p3 p4)), .val (.int y0), .val (.int (own_max (own_min p1 p2) (own_min p3 p4))), .val (.int (own_min (own_max p1 p2) (own_max p3 p4))), .val (.int y3), .val (.int y1), .val (.int y2), .val (.ref b34), .val (.int (0 : Int32))] [(.int p5), (.ref b34)])) rfl (by rw [hml]; rfl) (Steps.refl _) (argsL := [(.int p5)]) (rest := []) (lenOf pd_oIcI rfl) rfl (by show 2 * 0 + _ ≤ _; exact Nat.le_of_eq rfl) (hb hby at_218) (fun _ _ => ⟨rfl, rfl, (by decide : 2 + 0 ≤ _), (by decide : 6 + 0 ≤ _)⟩)
    dsimp only [Pt.U, Pt.locs, Pt.cells, Pt.slots] at X98 l98 y98 z98 st98 hQ98
    subst l98 y98 z98
    obtain ⟨rfl, N98q, eh98⟩ := hQ98
    have N98 := Fr.app N37 N98q
    have pre99 : ∀ t, Steps p.tables e below (T98.setTop (mkF m 221 #[.val (.int p1), .val (.int p2), .val (.int p3), .val (.int p4), .val (.int p5), .val (.int p6), .val (.int cnt), .val (.int cp), .val (.int (own_min p1 p2)), .val (.int (own_max p1 p2)), .val (.int (own_min p3 p4)), .val (.int (own_max p3 p4)), .val (.int y0), .val (.int (own_max (own_min p1 p2) (own_min p3 p4))), .val (.int (own_min (own_max p1 p2) (own_max p3 p4))), .val (.int y3), .val (.int y1), .val (.int y2), .val (.ref b34), .val (.int (0 : Int32))] [(.int (own_fa0 p5))])) t → Steps p.tables e below (s₁.setTop (entryFrame m #[(.int p1), (.int p2), (.int p3), (.int p4), (.int p5), (.int p6)] maxLocals)) t := fun t k => pre97 t (st98.trans k)
    have pre101 : ∀ t, Steps p.tables e below (T98.setTop (mkF m 231 #[.val (.int p1), .val (.int p2), .val (.int p3), .val (.int p4), .val (.int p5), .val (.int p6), .val (.int cnt), .val (.int cp), .val (.int (own_min p1 p2)), .val (.int (own_max p1 p2)), .val (.int (own_min p3 p4)), .val (.int (own_max p3 p4)), .val (.int y0), .val (.int (own_max (own_min p1 p2) (own_min p3 p4))), .val (.int (own_min (own_max p1 p2) (own_max p3 p4))), .val (.int y3), .val (.int y1), .val (.int y2), .val (.ref b34), .val (.int (0 : Int32))] [(.int (1 : Int32))])) t → Steps p.tables e below (s₁.setTop (entryFrame m #[(.int p1), (.int p2), (.int p3), (.int p4), (.int p5), (.int p6)] maxLocals)) t := fun t k => pre99 t (by
      show Steps p.tables e below (T98.setTop (mkF m 221 #[.val (.int p1), .val (.int p2), .val (.int p3), .val (.int p4), .val (.int p5), .val (.int p6), .val (.int cnt), .val (.int cp), .val (.int (own_min p1 p2)), .val (.int (own_max p1 p2)), .val (.int (own_min p3 p4)), .val (.int (own_max p3 p4)), .val (.int y0), .val (.int (own_max (own_min p1 p2) (own_min p3 p4))), .val (.int (own_min (own_max p1 p2) (own_max p3 p4))), .val (.int y3), .val (.int y1), .val (.int y2), .val (.ref b34), .val (.int (0 : Int32))] [(.int (own_fa0 p5))])) t
      refine XS.iload X98.here hx rfl (hb hby at_221) rfl ?_
      show Steps p.tables e below (T98.setTop (mkF m 223 #[.val (.int p1), .val (.int p2), .val (.int p3), .val (.int p4), .val (.int p5), .val (.int p6), .val (.int cnt), .val (.int cp), .val (.int (own_min p1 p2)), .val (.int (own_max p1 p2)), .val (.int (own_min p3 p4)), .val (.int (own_max p3 p4)), .val (.int y0), .val (.int (own_max (own_min p1 p2) (own_min p3 p4))), .val (.int (own_min (own_max p1 p2) (own_max p3 p4))), .val (.int y3), .val (.int y1), .val (.int y2), .val (.ref b34), .val (.int (0 : Int32))] [(.int (0 : Int32)), (.int (own_fa0 p5))])) t
      refine XS.icmpNo X98.here hx rfl (hb hby at_223) rfl (XT.ii_ne_f (show (own_fa0 p5) = (0 : Int32) from rfl)) ?_
      show Steps p.tables e below (T98.setTop (mkF m 226 #[.val (.int p1), .val (.int p2), .val (.int p3), .val (.int p4), .val (.int p5), .val (.int p6), .val (.int cnt), .val (.int cp), .val (.int (own_min p1 p2)), .val (.int (own_max p1 p2)), .val (.int (own_min p3 p4)), .val (.int (own_max p3 p4)), .val (.int y0), .val (.int (own_max (own_min p1 p2) (own_min p3 p4))), .val (.int (own_min (own_max p1 p2) (own_max p3 p4))), .val (.int y3), .val (.int y1), .val (.int y2), .val (.ref b34), .val (.int (0 : Int32))] [])) t
      refine XS.iconst X98.here hx rfl (hb hby at_226) ?_
      show Steps p.tables e below (T98.setTop (mkF m 227 #[.val (.int p1), .val (.int p2), .val (.int p3), .val (.int p4), .val (.int p5), .val (.int p6), .val (.int cnt), .val (.int cp), .val (.int (own_min p1 p2)), .val (.int (own_max p1 p2)), .val (.int (own_min p3 p4)), .val (.int (own_max p3 p4)), .val (.int y0), .val (.int (own_max (own_min p1 p2) (own_min p3 p4))), .val (.int (own_min (own_max p1 p2) (own_max p3 p4))), .val (.int y3), .val (.int y1), .val (.int y2), .val (.ref b34), .val (.int (0 : Int32))] [(.int (1 : Int32))])) t
      refine XS.goto X98.here hx rfl (pc0 := 227) (pc' := 231) rfl (hb hby at_227) (by decide) (by decide) ?_
      show Steps p.tables e below (T98.setTop (mkF m 231 #[.val (.int p1), .val (.int p2), .val (.int p3), .val (.int p4), .val (.int p5), .val (.int p6), .val (.int cnt), .val (.int cp), .val (.int (own_min p1 p2)), .val (.int (own_max p1 p2)), .val (.int (own_min p3 p4)), .val (.int (own_max p3 p4)), .val (.int y0), .val (.int (own_max (own_min p1 p2) (own_min p3 p4))), .val (.int (own_min (own_max p1 p2) (own_max p3 p4))), .val (.int y3), .val (.int y1), .val (.int y2), .val (.ref b34), .val (.int (0 : Int32))] [(.int (1 : Int32))])) t
      exact k)
    obtain ⟨fs, hr, hrun, hended, hW, hsame⟩ := X98.leave (v := some (.int (1 : Int32))) (fun h => by rw [Bd.returns] at h; cases h)
    refine ⟨_, _, pre101 _ ?_, hrun, hended, _, _, rfl, ?_, ⟨_, rfl⟩, hW, hsame.mono (by decide) (by decide)⟩
    · show Steps p.tables e below (T98.setTop (mkF m 231 #[.val (.int p1), .val (.int p2), .val (.int p3), .val (.int p4), .val (.int p5), .val (.int p6), .val (.int cnt), .val (.int cp), .val (.int (own_min p1 p2)), .val (.int (own_max p1 p2)), .val (.int (own_min p3 p4)), .val (.int (own_max p3 p4)), .val (.int y0), .val (.int (own_max (own_min p1 p2) (own_min p3 p4))), .val (.int (own_min (own_max p1 p2) (own_max p3 p4))), .val (.int y3), .val (.int y1), .val (.int y2), .val (.ref b34), .val (.int (0 : Int32))] [(.int (1 : Int32))])) _
      exact retN X98 hx (t := .boolean) Bd.returns (by simp) (hb hby at_231) hr
    · show Q0 Z p1 p2 p3 p4 p5 p6 h0 n0 _ T98.heap _
      rw [eh98]
      exact ⟨rfl, N98⟩
set_option maxRecDepth 65536 in
set_option maxHeartbeats 40000000 in
theorem comes_1 {Post : Tables → Env → Array Value → State → Outcome → State → Prop} (hpost : ∀ tb e args s v u, (limb_1_1.after args s (.returned v) u = true ∧ limb_1_2.after args s (.returned v) u = true ∧ True) → FrameEnd s (.returned v) u (Jvm.fieldLocs frame_1_writes args s ++ Jvm.arrayLocs frame_1_arrays args s ++ Jvm.staticLocs frame_1_statics s) 16 128 → Post tb e args s (.returned v) u) :
    ArmFor flags0 classFile x code maxLocals ret World_1 tables_1 room_1 Calls_1 rest_1 Pre_1 Post := by
  intro l hfl _ _ p e ha hc hk s m args below hf hA hF happ hP
  obtain ⟨hcalls, hrest, hpre⟩ := hP
  obtain ⟨-, -, -, hnamed, -, -, -, hat⟩ := (Spec.applies_iff hf).mp happ
  obtain ⟨hg, hn⟩ := and_e (Cond.before_iff.mp (show (Jvm.Cond.and given_1 narrow_1).before args s = true from hpre))
  obtain ⟨ga0, gb0⟩ := and_e hg
  obtain ⟨ga1, gb1⟩ := and_e gb0
  obtain ⟨ga2, gb2⟩ := and_e gb1
  obtain ⟨ga3, gb3⟩ := and_e gb2
  obtain ⟨ga4, gb4⟩ := and_e gb3
  obtain ⟨ga5, gb5⟩ := and_e gb4
  obtain ⟨w0, w1, w2, w3, w4, w5, rfl⟩ : ∃ w0 w1 w2 w3 w4 w5 : Value, args = #[w0, w1, w2, w3, w4, w5] := by
    have hs : args.size = 6 := by simpa [Cond.value, given_1] using ga0
    obtain ⟨L⟩ := args
    match L, hs with
    | [w0, w1, w2, w3, w4, w5], _ => exact ⟨w0, w1, w2, w3, w4, w5, rfl⟩
  have hw := fun d (hd : d ∈ tables_1) => atoms_spec (ws := Jvm.Cond.code x code maxLocals ret :: tables_1) hat d (List.mem_cons_of_mem _ hd)
  obtain ⟨i0, ei0⟩ := is_v ga1
  obtain rfl : w0 = (.int i0) := Option.some.inj ei0
  obtain ⟨i1, ei1⟩ := is_v ga2
  obtain rfl : w1 = (.int i1) := Option.some.inj ei1
  obtain ⟨i2, ei2⟩ := is_v ga3
  obtain rfl : w2 = (.int i2) := Option.some.inj ei2
  obtain ⟨i3, ei3⟩ := is_v ga4
  obtain rfl : w3 = (.int i3) := Option.some.inj ei3
  obtain ⟨i4, ei4⟩ := is_v ga5
  obtain rfl : w4 = (.int i4) := Option.some.inj ei4
  obtain ⟨i5, ei5⟩ := is_v gb5
  obtain rfl : w5 = (.int i5) := Option.some.inj ei5
  obtain ⟨n, o, h1, h2, h3, _, L, rfl, ⟨rfl, N⟩, hq⟩ := rm0 l s _ hw tables_1 i0 i1 i2 i3 i4 i5 s.heap s.heap.size (Nat.le_refl _) p e ha hc hk s m _ below hf ((Spec.applies_iff_loose hf).mp happ).1 ⟨rfl, State.Warmed39.refl s, rfl⟩ trivial
  refine ⟨n, _, h1, h2, h3, hpost _ _ _ _ _ _ ⟨Cond.after_iff.mpr rfl, Cond.after_iff.mpr (eq_i res_at (Term.int_eval (1)) rfl), trivial⟩ ⟨hq.1, hq.2.1, (hq.2.2.sift fun y hy => Or.inr (N y hy)).mono (by decide) (by decide)⟩⟩
theorem main_1_1 : Claimed_1_1 := comes_1 fun _ _ _ _ _ _ h hF => ⟨h.1, hF⟩
theorem main_1_2 : Claimed_1_2 := comes_1 fun _ _ _ _ _ _ h hF => ⟨h.2.1, hF⟩
end Jvm.Pilot.@@N@@
namespace Jvm.Pilot.@@N@@
open Jvm Jvm.ClassFile Sem Op Lib Jvm.Free Jvm.Stand Jvm.Pilot.@@N@@.Jvm.D
/-! MADE BY PROGRAM (witnessworld.py) out of the Statement's table words and the real class files: 12 classes; the members and pool entries that the words name. The judged class is class 1, her method 2. -/
namespace start1
open Jvm.ClassFile
def u (s : String) : CpInfo := .utf8 (stringToUtf16 s)
/-- a pool by its gaps: so many unusable entries, then the entry; so many at the end -/
def gap : Nat → List CpInfo → List CpInfo
  | 0, r => r
  | n + 1, r => .unusable :: gap n r
def poolList (es : List (Nat × CpInfo)) (last : Nat) : List CpInfo := es.foldr (fun e r => gap e.1 (e.2 :: r)) (gap last [])
def pool (es : List (Nat × CpInfo)) (last : Nat) : Array CpInfo := ⟨poolList es last⟩
def fileOf (pool : Array CpInfo) (this : Nat) (attrs : Array Attribute := #[]) (ms : Array MethodInfo := #[]) (fl : Nat := 33) (sup : Nat := 0) (ifs : Array Nat := #[]) (fds : Array FieldInfo := #[]) : ClassFile where
  minorVersion := 0
  majorVersion := 65
  constantPool := pool
  accessFlags := fl
  thisClass := this
  superClass := sup
  interfaces := ifs
  fields := fds
  methods := ms
  attributes := attrs
def plain (name : String) (sup : Option ClassId) : Class where
  name := name
  kind := .ordinary
  loader := none
  accessFlags := 33
  super := sup
  interfaces := #[]
  cf := none
  fields := #[]
  methods := #[]
  instanceTypes := #[]
  staticTypes := #[]
  resolved := #[]
  callSites := []
  init := .initialized
  statics := none
  mirror := none

def pool0 : Array CpInfo := pool [(5, u "<init>"), (0, u "()V"), (1, .class_ 10), (1, u "java/lang/Object")] 113

def k0c0 : Code := { maxStack := 0, maxLocals := 1, code := object_method_1_code, exceptionTable := #[], attributes := #[] }
def k0m0 : Method := { name := "<init>", desc := "()V", sig := { parameters := [], returnType := none }, accessFlags := 1, code := some k0c0 }
/-- java/lang/Object -/
def k0 : Class := { plain "java/lang/Object" none with
  accessFlags := 33
  interfaces := #[]
  cf := some (fileOf pool0 8 #[] #[{ accessFlags := 1, nameIndex := 5, descriptorIndex := 6, attributes := #[] }] 33 0 #[] #[])
  fields := #[]
  methods := #[k0m0]
  instanceTypes := #[]
  staticTypes := #[]
  resolved := Array.replicate 124 none
  statics := none }

def pool1 : Array CpInfo := pool [(2, .class_ 4), (1, u "java/lang/Object"), (0, u "<init>"), (0, u "()V"), (0, .methodref 8 9), (0, .class_ 10), (0, .nameAndType 11 12), (0, u "java/lang/Math"), (0, u "min"), (0, u "(II)I"), (0, .methodref 8 14), (0, .nameAndType 15 12), (0, u "max"), (0, .class_ 17), (0, u "com/example/interlace/interlace/core/IntColumn"), (0, .methodref 16 19), (0, .nameAndType 5 20), (0, u "(I)V"), (0, .methodref 16 22), (0, .nameAndType 23 20), (0, u "add"), (0, .methodref 25 26), (0, .class_ 27), (0, .nameAndType 28 12), (0, u "com/example/interlace/interlace/core/IntColumnFirstAbovePinLaw"), (0, u "le"), (0, .methodref 16 30), (0, .nameAndType 31 32), (0, u "firstAbove"), (0, u "(I)I"), (3, u "law"), (0, u "(IIIIII)Z")] 2

def k1m0 : Method := { name := "<init>", desc := "()V", sig := { parameters := [], returnType := none }, accessFlags := 1, code := none }
def k1c1 : Code := { maxStack := 2, maxLocals := 2, code := method_2_code, exceptionTable := #[], attributes := #[] }
def k1m1 : Method := { name := "le", desc := "(II)I", sig := { parameters := [.int, .int], returnType := some .int }, accessFlags := 10, code := some k1c1 }
def k1c2 : Code := { maxStack := 3, maxLocals := 20, code := code, exceptionTable := #[], attributes := #[] }
def k1m2 : Method := { name := "law", desc := "(IIIIII)Z", sig := { parameters := [.int, .int, .int, .int, .int, .int], returnType := some .boolean }, accessFlags := 9, code := some k1c2 }
/-- com/example/interlace/interlace/core/IntColumnFirstAbovePinLaw -/
def k1 : Class := { plain "com/example/interlace/interlace/core/IntColumnFirstAbovePinLaw" (some 0) with
  accessFlags := 49
  interfaces := #[]
  cf := some (fileOf pool1 25 #[] #[{ accessFlags := 1, nameIndex := 5, descriptorIndex := 6, attributes := #[] }, { accessFlags := 10, nameIndex := 28, descriptorIndex := 12, attributes := #[] }, { accessFlags := 9, nameIndex := 36, descriptorIndex := 37, attributes := #[] }] 49 2 #[] #[])
  fields := #[]
  methods := #[k1m0, k1m1, k1m2]
  instanceTypes := #[]
  staticTypes := #[]
  resolved := Array.replicate 40 none
  statics := none }

def pool2 : Array CpInfo := pool [(1, .class_ 2), (0, u "java/lang/Math"), (1, .class_ 6), (1, u "java/lang/Object"), (0, u "<init>"), (0, u "()V"), (89, .class_ 100), (1, u "java/lang/Math$RandomNumberGeneratorHolder"), (20, u "(JJ)J"), (50, u "negativeZeroFloatBits"), (0, u "J"), (2, u "negativeZeroDoubleBits"), (21, u "max"), (2, u "min"), (43, u "$assertionsDisabled"), (0, u "Z"), (88, u "(II)I"), (2, u "twoToTheDoubleScaleDown"), (0, u "D"), (4, u "twoToTheDoubleScaleUp"), (9, u "E"), (3, u "PI"), (2, u "TAU"), (2, u "DEGREES_TO_RADIANS"), (0, u "RADIANS_TO_DEGREES")] 94

def k2m0 : Method := { name := "<init>", desc := "()V", sig := { parameters := [], returnType := none }, accessFlags := 2, code := none }
def k2c1 : Code := { maxStack := 2, maxLocals := 2, code := jdk_29_method_65_code, exceptionTable := #[], attributes := #[] }
def k2m1 : Method := { name := "max", desc := "(II)I", sig := { parameters := [.int, .int], returnType := some .int }, accessFlags := 9, code := some k2c1 }
def k2c2 : Code := { maxStack := 2, maxLocals := 2, code := jdk_29_method_69_code, exceptionTable := #[], attributes := #[] }
def k2m2 : Method := { name := "min", desc := "(II)I", sig := { parameters := [.int, .int], returnType := some .int }, accessFlags := 9, code := some k2c2 }
def k2c3 : Code := { maxStack := 4, maxLocals := 4, code := jdk_29_method_70_code, exceptionTable := #[], attributes := #[] }
def k2m3 : Method := { name := "min", desc := "(JJ)J", sig := { parameters := [.long, .long], returnType := some .long }, accessFlags := 9, code := some k2c3 }
/-- java/lang/Math -/
def k2 : Class := { plain "java/lang/Math" (some 0) with
  accessFlags := 49
  interfaces := #[]
  cf := some (fileOf pool2 1 #[.nestMembers #[98]] #[{ accessFlags := 2, nameIndex := 7, descriptorIndex := 8, attributes := #[] }, { accessFlags := 9, nameIndex := 198, descriptorIndex := 335, attributes := #[] }, { accessFlags := 9, nameIndex := 201, descriptorIndex := 335, attributes := #[] }, { accessFlags := 9, nameIndex := 201, descriptorIndex := 121, attributes := #[] }] 49 4 #[] #[{ accessFlags := 25, nameIndex := 354, descriptorIndex := 339, attributes := #[] }, { accessFlags := 25, nameIndex := 358, descriptorIndex := 339, attributes := #[] }, { accessFlags := 25, nameIndex := 361, descriptorIndex := 339, attributes := #[] }, { accessFlags := 26, nameIndex := 364, descriptorIndex := 339, attributes := #[] }, { accessFlags := 26, nameIndex := 365, descriptorIndex := 339, attributes := #[] }, { accessFlags := 26, nameIndex := 172, descriptorIndex := 173, attributes := #[] }, { accessFlags := 26, nameIndex := 176, descriptorIndex := 173, attributes := #[] }, { accessFlags := 8, nameIndex := 344, descriptorIndex := 339, attributes := #[] }, { accessFlags := 8, nameIndex := 338, descriptorIndex := 339, attributes := #[] }, { accessFlags := 4120, nameIndex := 245, descriptorIndex := 246, attributes := #[] }])
  fields := #[{ name := "E", type := .double, accessFlags := 25, slot := 0, constantValue := 0 }, { name := "PI", type := .double, accessFlags := 25, slot := 1, constantValue := 0 }, { name := "TAU", type := .double, accessFlags := 25, slot := 2, constantValue := 0 }, { name := "DEGREES_TO_RADIANS", type := .double, accessFlags := 26, slot := 3, constantValue := 0 }, { name := "RADIANS_TO_DEGREES", type := .double, accessFlags := 26, slot := 4, constantValue := 0 }, { name := "negativeZeroFloatBits", type := .long, accessFlags := 26, slot := 5, constantValue := 0 }, { name := "negativeZeroDoubleBits", type := .long, accessFlags := 26, slot := 6, constantValue := 0 }, { name := "twoToTheDoubleScaleUp", type := .double, accessFlags := 8, slot := 7, constantValue := 0 }, { name := "twoToTheDoubleScaleDown", type := .double, accessFlags := 8, slot := 8, constantValue := 0 }, { name := "$assertionsDisabled", type := .boolean, accessFlags := 4120, slot := 9, constantValue := 0 }]
  methods := #[k2m0, k2m1, k2m2, k2m3]
  instanceTypes := #[]
  staticTypes := #[.double, .double, .double, .double, .double, .long, .long, .double, .double, .boolean]
  resolved := Array.replicate 460 none
  statics := none }

def pool3 : Array CpInfo := pool [(4, .class_ 6), (1, u "com/example/interlace/interlace/core/IntColumn"), (0, u "<init>"), (0, u "(I)V"), (0, .methodref 10 11), (0, .class_ 12), (0, .nameAndType 7 13), (0, u "java/lang/Object"), (0, u "()V"), (0, .fieldref 4 15), (0, .nameAndType 16 17), (0, u "values"), (0, u "[I"), (0, .fieldref 4 19), (0, .nameAndType 20 21), (0, u "size"), (0, u "I"), (0, .integer 2147483639), (7, .long 2), (1, .long 2147483639), (1, .methodref 35 36), (0, .class_ 37), (0, .nameAndType 38 39), (0, u "java/lang/Math"), (0, u "min"), (0, u "(JJ)J"), (0, .methodref 41 42), (0, .class_ 43), (0, .nameAndType 44 45), (0, u "java/util/Arrays"), (0, u "copyOf"), (0, u "([II)[I"), (10, u "MOST_VALUES"), (3, u "add"), (2, u "(I)I"), (4, u "firstAbove")] 2

def k3m0 : Method := { name := "<init>", desc := "()V", sig := { parameters := [], returnType := none }, accessFlags := 1, code := none }
def k3c1 : Code := { maxStack := 2, maxLocals := 2, code := prog_78_method_2_code, exceptionTable := #[], attributes := #[] }
def k3m1 : Method := { name := "<init>", desc := "(I)V", sig := { parameters := [.int], returnType := none }, accessFlags := 1, code := some k3c1 }
def k3c2 : Code := { maxStack := 6, maxLocals := 2, code := prog_78_method_3_code, exceptionTable := #[], attributes := #[] }
def k3m2 : Method := { name := "add", desc := "(I)V", sig := { parameters := [.int], returnType := none }, accessFlags := 1, code := some k3c2 }
def k3c3 : Code := { maxStack := 2, maxLocals := 5, code := prog_78_method_8_code, exceptionTable := #[], attributes := #[] }
def k3m3 : Method := { name := "firstAbove", desc := "(I)I", sig := { parameters := [.int], returnType := some .int }, accessFlags := 1, code := some k3c3 }
/-- com/example/interlace/interlace/core/IntColumn -/
def k3 : Class := { plain "com/example/interlace/interlace/core/IntColumn" (some 0) with
  accessFlags := 49
  interfaces := #[]
  cf := some (fileOf pool3 4 #[] #[{ accessFlags := 1, nameIndex := 7, descriptorIndex := 13, attributes := #[] }, { accessFlags := 1, nameIndex := 7, descriptorIndex := 8, attributes := #[] }, { accessFlags := 1, nameIndex := 60, descriptorIndex := 8, attributes := #[] }, { accessFlags := 1, nameIndex := 68, descriptorIndex := 63, attributes := #[] }] 49 10 #[] #[{ accessFlags := 26, nameIndex := 56, descriptorIndex := 21, attributes := #[] }, { accessFlags := 2, nameIndex := 16, descriptorIndex := 17, attributes := #[] }, { accessFlags := 2, nameIndex := 20, descriptorIndex := 21, attributes := #[] }])
  fields := #[{ name := "MOST_VALUES", type := .int, accessFlags := 26, slot := 0, constantValue := 0 }, { name := "values", type := (.array .int), accessFlags := 2, slot := 0, constantValue := 0 }, { name := "size", type := .int, accessFlags := 2, slot := 1, constantValue := 0 }]
  methods := #[k3m0, k3m1, k3m2, k3m3]
  instanceTypes := #[(.array .int), .int]
  staticTypes := #[.int]
  resolved := Array.replicate 71 none
  statics := none }

def pool4 : Array CpInfo := pool [(2, .class_ 4), (1, u "java/lang/Object"), (0, u "<init>"), (0, u "()V"), (7, .class_ 16), (1, u "java/util/Arrays"), (57, .class_ 76), (1, u "java/util/Arrays$NaturalOrder"), (36, .class_ 115), (1, u "java/util/Arrays$LegacyMergeSort"), (1, u "Z"), (32, .methodref 151 152), (0, .class_ 153), (0, .nameAndType 154 155), (0, u "java/lang/System"), (0, u "arraycopy"), (0, u "(Ljava/lang/Object;ILjava/lang/Object;II)V"), (146, u "copyOf"), (1, .methodref 305 306), (0, .class_ 307), (0, .nameAndType 308 309), (0, u "java/lang/Math"), (0, u "min"), (0, u "(II)I"), (65, .class_ 376), (0, u "java/util/Arrays$ArrayList"), (68, u "$assertionsDisabled"), (269, u "MIN_ARRAY_SORT_GRAN"), (0, u "I"), (2, u "INSERTIONSORT_THRESHOLD"), (151, u "([II)[I"), (103, .class_ 976), (0, u "java/util/Arrays$ArrayItr")] 52

def k4m0 : Method := { name := "<init>", desc := "()V", sig := { parameters := [], returnType := none }, accessFlags := 2, code := none }
def k4c1 : Code := { maxStack := 6, maxLocals := 3, code := jdk_65_method_123_code, exceptionTable := #[], attributes := #[] }
def k4m1 : Method := { name := "copyOf", desc := "([II)[I", sig := { parameters := [(.array .int), .int], returnType := some (.array .int) }, accessFlags := 9, code := some k4c1 }
/-- java/util/Arrays -/
def k4 : Class := { plain "java/util/Arrays" (some 0) with
  accessFlags := 49
  interfaces := #[]
  cf := some (fileOf pool4 14 #[.nestMembers #[975, 375, 113, 74]] #[{ accessFlags := 2, nameIndex := 5, descriptorIndex := 6, attributes := #[] }, { accessFlags := 9, nameIndex := 302, descriptorIndex := 871, attributes := #[] }] 49 2 #[] #[{ accessFlags := 26, nameIndex := 715, descriptorIndex := 716, attributes := #[] }, { accessFlags := 26, nameIndex := 719, descriptorIndex := 716, attributes := #[] }, { accessFlags := 4120, nameIndex := 445, descriptorIndex := 117, attributes := #[] }])
  fields := #[{ name := "MIN_ARRAY_SORT_GRAN", type := .int, accessFlags := 26, slot := 0, constantValue := 0 }, { name := "INSERTIONSORT_THRESHOLD", type := .int, accessFlags := 26, slot := 1, constantValue := 0 }, { name := "$assertionsDisabled", type := .boolean, accessFlags := 4120, slot := 2, constantValue := 0 }]
  methods := #[k4m0, k4m1]
  instanceTypes := #[]
  staticTypes := #[.int, .int, .boolean]
  resolved := Array.replicate 1029 none
  statics := none }

def pool5 : Array CpInfo := pool [(2, .class_ 4), (1, u "java/lang/Object"), (0, u "<init>"), (0, u "()V"), (1, .class_ 10), (1, u "java/lang/System"), (0, u "allowSecurityManager"), (0, u "I"), (16, u "cons"), (0, u "Ljava/io/Console;"), (77, .class_ 110), (1, u "java/lang/System$CallersHolder"), (43, u "initialErrStream"), (0, u "Ljava/io/PrintStream;"), (19, u "security"), (0, u "Ljava/lang/SecurityManager;"), (31, .class_ 209), (0, u "java/lang/System$1"), (7, u "props"), (0, u "Ljava/util/Properties;"), (2, u "lineSeparator"), (0, u "Ljava/lang/String;"), (96, .class_ 321), (1, u "java/lang/System$LoggerFinder"), (5, .class_ 328), (0, u "java/lang/System$Logger"), (67, u "err"), (2, u "out"), (91, u "notSupportedJnuEncoding"), (15, u "in"), (17, u "initialIn"), (0, u "Ljava/io/InputStream;"), (35, u "bootLayer"), (0, u "Ljava/lang/ModuleLayer;"), (99, .class_ 664), (0, u "java/lang/System$2"), (9, u "NEVER"), (2, u "MAYBE"), (49, u "arraycopy"), (0, u "(Ljava/lang/Object;ILjava/lang/Object;II)V"), (72, .class_ 802), (0, u "java/lang/System$Logger$Level")] 31

def k5m0 : Method := { name := "<init>", desc := "()V", sig := { parameters := [], returnType := none }, accessFlags := 2, code := none }
def k5m1 : Method := { name := "arraycopy", desc := "(Ljava/lang/Object;ILjava/lang/Object;II)V", sig := { parameters := [(.object "java/lang/Object"), .int, (.object "java/lang/Object"), .int, .int], returnType := none }, accessFlags := 265, code := none }
/-- java/lang/System -/
def k5 : Class := { plain "java/lang/System" (some 0) with
  accessFlags := 49
  interfaces := #[]
  cf := some (fileOf pool5 8 #[.nestMembers #[319, 327, 801, 108, 663, 208]] #[{ accessFlags := 2, nameIndex := 5, descriptorIndex := 6, attributes := #[] }, { accessFlags := 265, nameIndex := 727, descriptorIndex := 728, attributes := #[] }] 49 2 #[] #[{ accessFlags := 25, nameIndex := 507, descriptorIndex := 526, attributes := #[] }, { accessFlags := 25, nameIndex := 399, descriptorIndex := 155, attributes := #[] }, { accessFlags := 25, nameIndex := 396, descriptorIndex := 155, attributes := #[] }, { accessFlags := 10, nameIndex := 525, descriptorIndex := 526, attributes := #[] }, { accessFlags := 26, nameIndex := 674, descriptorIndex := 12, attributes := #[] }, { accessFlags := 26, nameIndex := 677, descriptorIndex := 12, attributes := #[] }, { accessFlags := 10, nameIndex := 11, descriptorIndex := 12, attributes := #[] }, { accessFlags := 74, nameIndex := 175, descriptorIndex := 176, attributes := #[] }, { accessFlags := 10, nameIndex := 491, descriptorIndex := 222, attributes := #[] }, { accessFlags := 74, nameIndex := 29, descriptorIndex := 30, attributes := #[] }, { accessFlags := 74, nameIndex := 154, descriptorIndex := 155, attributes := #[] }, { accessFlags := 10, nameIndex := 217, descriptorIndex := 218, attributes := #[] }, { accessFlags := 10, nameIndex := 221, descriptorIndex := 222, attributes := #[] }, { accessFlags := 8, nameIndex := 562, descriptorIndex := 563, attributes := #[] }])
  fields := #[{ name := "in", type := (.object "java/io/InputStream"), accessFlags := 25, slot := 0, constantValue := 0 }, { name := "out", type := (.object "java/io/PrintStream"), accessFlags := 25, slot := 1, constantValue := 0 }, { name := "err", type := (.object "java/io/PrintStream"), accessFlags := 25, slot := 2, constantValue := 0 }, { name := "initialIn", type := (.object "java/io/InputStream"), accessFlags := 10, slot := 3, constantValue := 0 }, { name := "NEVER", type := .int, accessFlags := 26, slot := 4, constantValue := 0 }, { name := "MAYBE", type := .int, accessFlags := 26, slot := 5, constantValue := 0 }, { name := "allowSecurityManager", type := .int, accessFlags := 10, slot := 6, constantValue := 0 }, { name := "security", type := (.object "java/lang/SecurityManager"), accessFlags := 74, slot := 7, constantValue := 0 }, { name := "notSupportedJnuEncoding", type := (.object "java/lang/String"), accessFlags := 10, slot := 8, constantValue := 0 }, { name := "cons", type := (.object "java/io/Console"), accessFlags := 74, slot := 9, constantValue := 0 }, { name := "initialErrStream", type := (.object "java/io/PrintStream"), accessFlags := 74, slot := 10, constantValue := 0 }, { name := "props", type := (.object "java/util/Properties"), accessFlags := 10, slot := 11, constantValue := 0 }, { name := "lineSeparator", type := (.object "java/lang/String"), accessFlags := 10, slot := 12, constantValue := 0 }, { name := "bootLayer", type := (.object "java/lang/ModuleLayer"), accessFlags := 8, slot := 13, constantValue := 0 }]
  methods := #[k5m0, k5m1]
  instanceTypes := #[]
  staticTypes := #[(.object "java/io/InputStream"), (.object "java/io/PrintStream"), (.object "java/io/PrintStream"), (.object "java/io/InputStream"), .int, .int, .int, (.object "java/lang/SecurityManager"), (.object "java/lang/String"), (.object "java/io/Console"), (.object "java/io/PrintStream"), (.object "java/util/Properties"), (.object "java/lang/String"), (.object "java/lang/ModuleLayer")]
  resolved := Array.replicate 834 none
  statics := none }

def pool6 : Array CpInfo := pool [(1, u "java/lang/Cloneable"), (0, .class_ 1), (0, u "java/lang/Object"), (0, .class_ 3)] 3

/-- java/lang/Cloneable -/
def k6 : Class := { plain "java/lang/Cloneable" (some 0) with
  accessFlags := 1537
  interfaces := #[]
  cf := some (fileOf pool6 2 #[] #[] 1537 4 #[] #[])
  fields := #[]
  methods := #[]
  instanceTypes := #[]
  staticTypes := #[]
  resolved := Array.replicate 8 none
  statics := none }

def pool7 : Array CpInfo := pool [(1, u "java/io/Serializable"), (0, .class_ 1), (0, u "java/lang/Object"), (0, .class_ 3)] 3

/-- java/io/Serializable -/
def k7 : Class := { plain "java/io/Serializable" (some 0) with
  accessFlags := 1537
  interfaces := #[]
  cf := some (fileOf pool7 2 #[] #[] 1537 4 #[] #[])
  fields := #[]
  methods := #[]
  instanceTypes := #[]
  staticTypes := #[]
  resolved := Array.replicate 8 none
  statics := none }

/-- the primitive byte -/
def k8 : Class := { plain "byte" none with kind := .primitive 'B', accessFlags := 0x411 }
/-- [B -/
def k9 : Class := { plain "[B" (some 0) with kind := .array 8 .byte, interfaces := #[6, 7], accessFlags := 1041 }

/-- the primitive int -/
def k10 : Class := { plain "int" none with kind := .primitive 'I', accessFlags := 0x411 }
/-- [I -/
def k11 : Class := { plain "[I" (some 0) with kind := .array 10 .int, interfaces := #[6, 7], accessFlags := 1041 }

def heap : Heap := #[]
def classes : Array Class := #[k0, k1, k2, k3, k4, k5, k6, k7, k8, k9, k10, k11]
def interned : List (Array UInt16 × Addr) := []
def slotsUsed : Nat := 0
def theMethod : MethodId := ⟨1, 2⟩
def args0 : Array Value := #[.int 1, .int 2, .int 3, .int 4, .int 5, .int 6]
def aboutOver (below : List Frame) : State where
  vm := { classes := classes, interned := interned.toArray }
  heap := heap
  slotsUsed := slotsUsed
  threads := #[{ frames := .invoking theMethod args0 :: below }]
def below0 : List Frame := [.native { method := ⟨0, 0⟩, args := #[] }]
def about1 : State := aboutOver below0
def p0 : Program := .bare "" "" ""
def e0 : Env := launch0.env 0 0 0
theorem w_frames : about1.frames = Frame.invoking theMethod args0 :: below0 := rfl
set_option maxRecDepth 65536 in
theorem w_args : argsFit about1.vm theMethod args0 = true := by decide +kernel
set_option maxRecDepth 65536 in
theorem w_heap : heapFits about1 = true := by decide +kernel
set_option maxRecDepth 65536 in
theorem w_runnable : about1.curStatus? = some .runnable := by decide +kernel
set_option maxRecDepth 65536 in
theorem w_alone : about1.alone = true := by decide +kernel
set_option maxRecDepth 65536 in
theorem w_named : about1.methodNamed? x = some theMethod := by decide +kernel
set_option maxRecDepth 65536 in
theorem w_hears : about1.hears theMethod below0 = true := by decide +kernel
set_option maxRecDepth 65536 in
theorem w_ripe : about1.ripe theMethod args0 below0 = true := by decide +kernel
theorem w_running : about1.status = .running := rfl
set_option maxRecDepth 65536 in
theorem w_room : about1.hasRoom e0.platform room_1 = true :=
  launch0.hasRoom_least _ room_1 (by decide +kernel) (by decide +kernel) (by decide +kernel) (by decide +kernel) (by decide +kernel) (by decide +kernel)
theorem allAtoms_all (ts : List Jvm.Cond) (a : Array Jvm.Value) (st : Jvm.State) : (allAtoms ts).before a st = ts.all (fun c => c.before a st) := by
  induction ts with
  | nil => rfl
  | cons c t ih =>
    show (Jvm.Cond.and c (allAtoms t)).before a st = _
    rw [Jvm.Cond.before_and, ih, List.all_cons]
def words1 : List Jvm.Cond := Jvm.Cond.code x code maxLocals ret :: tables_1
/-- a 'code' word, met by the world's own term for the bytes: nothing is compared byte by byte -/
theorem code_word {y : MethodName} {bytes : ByteArray} {mx : Nat} {rt : Option FieldType} {a : Array Value} {s : State} {m : MethodId} {meth : Method} {c : Code} (h1 : s.methodNamed? y = some m) (h2 : s.vm.method? m = some meth) (h3 : meth.code = some c) (h4 : c.code = bytes)
    (h5 : (c.maxLocals == mx && c.exceptionTable.isEmpty && decide (c.maxStack ≤ mostOperands) && decide (meth.sig.returnType = rt) && !meth.locks && decide (parseMethodDescriptor y.desc = some meth.sig)) = true) : (Jvm.Cond.code y bytes mx rt).before a s = true := by
  simp only [Bool.and_eq_true, beq_iff_eq, Bool.not_eq_true', decide_eq_true_eq] at h5
  obtain ⟨⟨⟨⟨⟨g1, g2⟩, g3⟩, g4⟩, g5⟩, g6⟩ := h5
  simp [Cond.before, Cond.holds, Cond.value, h1, h2, h3, h4, g1, g2, g3, g4, g5, g6]
def isCode : Jvm.Cond → Bool
  | .code _ _ _ _ => true
  | _ => false
theorem all_split {L : List Jvm.Cond} {P : Jvm.Cond → Bool} (h1 : L.all (fun c => isCode c || P c) = true) (h2 : ∀ c ∈ L.filter isCode, P c = true) : L.all P = true := by
  refine List.all_eq_true.mpr fun c hc => ?_
  have h := List.all_eq_true.mp h1 c hc
  rcases Bool.eq_false_or_eq_true (isCode c) with hi | hi
  · exact h2 c (List.mem_filter.mpr ⟨hc, hi⟩)
  · simpa [hi] using h
set_option maxRecDepth 65536 in
theorem w_c0 : (Jvm.Cond.code x code maxLocals ret).before args0 about1 = true := code_word (m := ⟨1, 2⟩) (meth := k1m2) (c := k1c2) (by decide +kernel) rfl rfl rfl (by decide +kernel)
set_option maxRecDepth 65536 in
theorem w_c1 : (Jvm.Cond.code ({ cls := "java/lang/Math", name := "min", desc := "(II)I" } : Jvm.MethodName) jdk_29_method_69_code (2 : Nat) (Option.some Jvm.ClassFile.FieldType.int)).before args0 about1 = true := code_word (m := ⟨2, 2⟩) (meth := k2m2) (c := k2c2) (by decide +kernel) rfl rfl rfl (by decide +kernel)
set_option maxRecDepth 65536 in
theorem w_c2 : (Jvm.Cond.code ({ cls := "java/lang/Math", name := "max", desc := "(II)I" } : Jvm.MethodName) jdk_29_method_65_code (2 : Nat) (Option.some Jvm.ClassFile.FieldType.int)).before args0 about1 = true := code_word (m := ⟨2, 1⟩) (meth := k2m1) (c := k2c1) (by decide +kernel) rfl rfl rfl (by decide +kernel)
set_option maxRecDepth 65536 in
theorem w_c3 : (Jvm.Cond.code ({ cls := "com/example/interlace/interlace/core/IntColumn", name := "<init>", desc := "(I)V" } : Jvm.MethodName) prog_78_method_2_code (2 : Nat) (Option.none : Option Jvm.ClassFile.FieldType)).before args0 about1 = true := code_word (m := ⟨3, 1⟩) (meth := k3m1) (c := k3c1) (by decide +kernel) rfl rfl rfl (by decide +kernel)
set_option maxRecDepth 65536 in
theorem w_c4 : (Jvm.Cond.code ({ cls := "java/lang/Object", name := "<init>", desc := "()V" } : Jvm.MethodName) object_method_1_code (1 : Nat) (Option.none : Option Jvm.ClassFile.FieldType)).before args0 about1 = true := code_word (m := ⟨0, 0⟩) (meth := k0m0) (c := k0c0) (by decide +kernel) rfl rfl rfl (by decide +kernel)
set_option maxRecDepth 65536 in
theorem w_c5 : (Jvm.Cond.code ({ cls := "com/example/interlace/interlace/core/IntColumn", name := "add", desc := "(I)V" } : Jvm.MethodName) prog_78_method_3_code (2 : Nat) (Option.none : Option Jvm.ClassFile.FieldType)).before args0 about1 = true := code_word (m := ⟨3, 2⟩) (meth := k3m2) (c := k3c2) (by decide +kernel) rfl rfl rfl (by decide +kernel)
set_option maxRecDepth 65536 in
theorem w_c6 : (Jvm.Cond.code ({ cls := "com/example/interlace/interlace/core/IntColumnFirstAbovePinLaw", name := "le", desc := "(II)I" } : Jvm.MethodName) method_2_code (2 : Nat) (Option.some Jvm.ClassFile.FieldType.int)).before args0 about1 = true := code_word (m := ⟨1, 1⟩) (meth := k1m1) (c := k1c1) (by decide +kernel) rfl rfl rfl (by decide +kernel)
set_option maxRecDepth 65536 in
theorem w_c7 : (Jvm.Cond.code ({ cls := "java/lang/Math", name := "min", desc := "(JJ)J" } : Jvm.MethodName) jdk_29_method_70_code (4 : Nat) (Option.some Jvm.ClassFile.FieldType.long)).before args0 about1 = true := code_word (m := ⟨2, 3⟩) (meth := k2m3) (c := k2c3) (by decide +kernel) rfl rfl rfl (by decide +kernel)
set_option maxRecDepth 65536 in
theorem w_c8 : (Jvm.Cond.code ({ cls := "java/util/Arrays", name := "copyOf", desc := "([II)[I" } : Jvm.MethodName) jdk_65_method_123_code (3 : Nat) (Option.some (Jvm.ClassFile.FieldType.array Jvm.ClassFile.FieldType.int))).before args0 about1 = true := code_word (m := ⟨4, 1⟩) (meth := k4m1) (c := k4c1) (by decide +kernel) rfl rfl rfl (by decide +kernel)
set_option maxRecDepth 65536 in
theorem w_c9 : (Jvm.Cond.code ({ cls := "com/example/interlace/interlace/core/IntColumn", name := "firstAbove", desc := "(I)I" } : Jvm.MethodName) prog_78_method_8_code (5 : Nat) (Option.some Jvm.ClassFile.FieldType.int)).before args0 about1 = true := code_word (m := ⟨3, 3⟩) (meth := k3m3) (c := k3c3) (by decide +kernel) rfl rfl rfl (by decide +kernel)
def codes1 : List Jvm.Cond := [Jvm.Cond.code x code maxLocals ret, Jvm.Cond.code ({ cls := "java/lang/Math", name := "min", desc := "(II)I" } : Jvm.MethodName) jdk_29_method_69_code (2 : Nat) (Option.some Jvm.ClassFile.FieldType.int), Jvm.Cond.code ({ cls := "java/lang/Math", name := "max", desc := "(II)I" } : Jvm.MethodName) jdk_29_method_65_code (2 : Nat) (Option.some Jvm.ClassFile.FieldType.int), Jvm.Cond.code ({ cls := "com/example/interlace/interlace/core/IntColumn", name := "<init>", desc := "(I)V" } : Jvm.MethodName) prog_78_method_2_code (2 : Nat) (Option.none : Option Jvm.ClassFile.FieldType), Jvm.Cond.code ({ cls := "java/lang/Object", name := "<init>", desc := "()V" } : Jvm.MethodName) object_method_1_code (1 : Nat) (Option.none : Option Jvm.ClassFile.FieldType), Jvm.Cond.code ({ cls := "com/example/interlace/interlace/core/IntColumn", name := "add", desc := "(I)V" } : Jvm.MethodName) prog_78_method_3_code (2 : Nat) (Option.none : Option Jvm.ClassFile.FieldType), Jvm.Cond.code ({ cls := "com/example/interlace/interlace/core/IntColumnFirstAbovePinLaw", name := "le", desc := "(II)I" } : Jvm.MethodName) method_2_code (2 : Nat) (Option.some Jvm.ClassFile.FieldType.int), Jvm.Cond.code ({ cls := "java/lang/Math", name := "min", desc := "(JJ)J" } : Jvm.MethodName) jdk_29_method_70_code (4 : Nat) (Option.some Jvm.ClassFile.FieldType.long), Jvm.Cond.code ({ cls := "java/util/Arrays", name := "copyOf", desc := "([II)[I" } : Jvm.MethodName) jdk_65_method_123_code (3 : Nat) (Option.some (Jvm.ClassFile.FieldType.array Jvm.ClassFile.FieldType.int)), Jvm.Cond.code ({ cls := "com/example/interlace/interlace/core/IntColumn", name := "firstAbove", desc := "(I)I" } : Jvm.MethodName) prog_78_method_8_code (5 : Nat) (Option.some Jvm.ClassFile.FieldType.int)]
set_option maxRecDepth 65536 in
theorem codes_eq : words1.filter isCode = codes1 := rfl
theorem w_codes : ∀ c ∈ words1.filter isCode, c.before args0 about1 = true := by
  rw [codes_eq]
  intro c hc
  simp only [codes1, List.mem_cons, List.not_mem_nil, or_false] at hc
  rcases hc with rfl | rfl | rfl | rfl | rfl | rfl | rfl | rfl | rfl | rfl
  · exact w_c0
  · exact w_c1
  · exact w_c2
  · exact w_c3
  · exact w_c4
  · exact w_c5
  · exact w_c6
  · exact w_c7
  · exact w_c8
  · exact w_c9
set_option maxRecDepth 65536 in
theorem w_t1 : (words1.take 24).all (fun c => isCode c || c.before args0 about1) = true := by decide +kernel
set_option maxRecDepth 65536 in
theorem w_t2 : ((words1.drop 24).take 24).all (fun c => isCode c || c.before args0 about1) = true := by decide +kernel
set_option maxRecDepth 65536 in
theorem w_t3 : ((words1.drop 24).drop 24).all (fun c => isCode c || c.before args0 about1) = true := by decide +kernel
theorem w_tables : (allAtoms (Jvm.Cond.code x code maxLocals ret :: tables_1)).before args0 about1 = true := by
  rw [allAtoms_all]
  show words1.all (fun c => c.before args0 about1) = true
  refine all_split ?_ w_codes
  rw [← List.take_append_drop 24 words1, List.all_append, w_t1, ← List.take_append_drop 24 (words1.drop 24), List.all_append, w_t2, w_t3]
  rfl
set_option maxRecDepth 65536 in
theorem w_case : (Jvm.Cond.and given_1 narrow_1).before args0 about1 = true := by decide +kernel
theorem w_applies : (headSpec (Jvm.Cond.code x code maxLocals ret :: tables_1) room_1).applies x e0.platform about1 = true :=
  (Spec.applies_iff w_frames).mpr ⟨w_running, w_runnable, w_alone, w_named, w_hears, w_ripe, w_room, w_tables⟩
theorem atStart : AtStart classFile x code maxLocals ret World_1 tables_1 room_1 Calls_1 rest_1 Pre_1 launch0 p0 e0 about1 theMethod args0 below0 :=
  ⟨lists_1, trivial, launch0.admits_env _ _ _, launch0.least_env, fairChoices_fair.cas, fairChoices_fair.clock, w_frames, w_args, w_heap, w_applies, trivial, trivial, w_case⟩
end start1
theorem witness_1 : WitnessClaimed_1 := ⟨start1.p0, start1.e0, start1.about1, start1.theMethod, start1.args0, start1.below0, start1.atStart⟩
end Jvm.Pilot.@@N@@
