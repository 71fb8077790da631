import JvmDerived
import JvmDerived.Pilot.@@N@@Statement
import JvmDerived.Pilot.@@N@@Code
set_option linter.unusedVariables false
set_option linter.unusedSimpArgs false
@@BLOCK:NumsL.lean.txt@@
namespace Jvm.RoadKit
open Sem ClassFile Op Lib Jvm.Stand Jvm.Free Jvm.LawKit
section New
variable {p : Program} {l : Launch} {e : Env} {R : Room} {s : State} {m : MethodId} {args : Array Value} {below : List Frame} {meth : Method} {c : Code} {T : State} {locs : List Loc} {cells slots : Nat}
theorem retI (X : Stand p l e R s m args below meth c T locs cells slots) (hx : p.tables.exec = Jvm.exec) {pc : Nat} {Ls : Array Slot} {z : Int32} {rest : List Value} (hret : meth.sig.returnType = some .int) (hd : decode c.code pc = .ok (.ireturn, 1)) {fs : List Frame}
    (hl : ∀ (f : JFrame) (acts : List Action), f.method = m → f.locked = none → f.entered = [] → (doReturn e (T.setTop f) acts (some (.int z))).1 = T.setFrames fs) : Steps p.tables e below (T.setTop (mkF m pc Ls (.int z :: rest))) (T.setFrames fs) := by
  have hm' : T.vm.method? m = some meth := X.method'
  have hn : narrow .int (.int z) = .int z := rfl
  show Steps p.tables e below (T.setTop { method := m, pc := pc, locals := Ls, stack := _ :: rest, locked := none }) _
  jvm_step X.here [X.here.top, hx, hd, hm', hret, hn]
  first | (intro acts; rw [hl _ acts rfl rfl rfl]) | rw [hl _ _ rfl rfl rfl]
  exact Steps.refl _
end New
end Jvm.RoadKit
namespace Jvm.Pilot.@@N@@
open Jvm Jvm.ClassFile Sem Op Lib Jvm.Free Jvm.Stand Jvm.LawKit Jvm.RoadKit Bundle Jvm.Pilot.@@N@@.Jvm.D
section Own
variable {p : Program} {l : Launch} {e : Env} {R : Room} {s : State} {m : MethodId} {args : Array Value} {below : List Frame} {meth : Method} {c : Code} {T : State} {locs : List Loc} {cells slots : Nat} {Z : State} {h : Heap} {a : Addr} {k : ClassId} {n : Int32} {vs : List Value} {dv : Value} {ty : FieldType}
theorem own_caload (X : Stand p l e R s m args below meth c T locs cells slots) (hx : p.tables.exec = Jvm.exec) (hZ : Z.Warmed39 s.vm) (eT : T.heap = h) (V : Arv Z h a k .char n vs dv) {j : Int32} {v : Value} (hj : ¬ j < 0 ∧ j < n) (hv : vs.getD j.toNatClampNeg dv = v) {g : JFrame} (hg : g.method = m) {rest : List Value} (hs : g.stack = .int j :: .ref a :: rest) (hd : decode c.code g.pc = .ok (.caload, 1)) :
    ∀ target, Steps p.tables e below (T.setTop { g with pc := g.pc + 1, stack := v :: rest }) target → Steps p.tables e below (T.setTop g) target := by
  obtain ⟨cl, Ar, -, S, -, H, -⟩ := V
  exact X.caload hx (j := j) (v := v) (by rw [eT]; exact Ar.1) (State.isArrayOf_alike hZ.alike Ar.2.1) Ar.2.2 (inb_of S hj) (H.at (inb_of S hj) hv) hg hs hd
theorem own_iaload (X : Stand p l e R s m args below meth c T locs cells slots) (hx : p.tables.exec = Jvm.exec) (hZ : Z.Warmed39 s.vm) (eT : T.heap = h) (V : Arv Z h a k .int n vs dv) {j : Int32} {v : Value} (hj : ¬ j < 0 ∧ j < n) (hv : vs.getD j.toNatClampNeg dv = v) {g : JFrame} (hg : g.method = m) {rest : List Value} (hs : g.stack = .int j :: .ref a :: rest) (hd : decode c.code g.pc = .ok (.iaload, 1)) :
    ∀ target, Steps p.tables e below (T.setTop { g with pc := g.pc + 1, stack := v :: rest }) target → Steps p.tables e below (T.setTop g) target := by
  obtain ⟨cl, Ar, -, S, -, H, -⟩ := V
  exact X.iaload hx (j := j) (v := v) (by rw [eT]; exact Ar.1) (State.isArrayOf_alike hZ.alike Ar.2.1) Ar.2.2 (inb_of S hj) (H.at (inb_of S hj) hv) hg hs hd
theorem own_baload (X : Stand p l e R s m args below meth c T locs cells slots) (hx : p.tables.exec = Jvm.exec) (hZ : Z.Warmed39 s.vm) (eT : T.heap = h) (V : Arv Z h a k .byte n vs dv) {j : Int32} {v : Value} (hj : ¬ j < 0 ∧ j < n) (hv : vs.getD j.toNatClampNeg dv = v) {g : JFrame} (hg : g.method = m) {rest : List Value} (hs : g.stack = .int j :: .ref a :: rest) (hd : decode c.code g.pc = .ok (.baload, 1)) :
    ∀ target, Steps p.tables e below (T.setTop { g with pc := g.pc + 1, stack := v :: rest }) target → Steps p.tables e below (T.setTop g) target := by
  obtain ⟨cl, Ar, -, S, -, H, -⟩ := V
  exact X.baloadBytes hx (j := j) (v := v) (by rw [eT]; exact Ar.1) (State.isArrayOf_alike hZ.alike Ar.2.1) Ar.2.2 (inb_of S hj) (H.at (inb_of S hj) hv) hg hs hd
theorem own_alen (X : Stand p l e R s m args below meth c T locs cells slots) (hx : p.tables.exec = Jvm.exec) (hZ : Z.Warmed39 s.vm) (eT : T.heap = h) (V : Arv Z h a k ty n vs dv) {g : JFrame} (hg : g.method = m) {rest : List Value} (hs : g.stack = .ref a :: rest) (hd : decode c.code g.pc = .ok (.arraylength, 1)) :
    ∀ target, Steps p.tables e below (T.setTop { g with pc := g.pc + 1, stack := .int n :: rest }) target → Steps p.tables e below (T.setTop g) target := by
  obtain ⟨cl, Ar, -, S, N, -, -⟩ := V
  intro target q
  refine X.arraylength hx (by rw [eT]; exact Ar.1) (State.isArrayOf_alike hZ.alike Ar.2.1) hg hs hd target ?_
  rw [len_of S N]; exact q
end Own

def own_pick (s : Int32) (r : Int64) (i : Int32) : Int32 := if ((XT.ushr s ((2 : Int32) * i)) &&& (3 : Int32)) = (0 : Int32) then (nar .byte (10 : Int32)) else if ((XT.ushr s ((2 : Int32) * i)) &&& (3 : Int32)) = (1 : Int32) then (nar .byte (13 : Int32)) else if ((XT.ushr s ((2 : Int32) * i)) &&& (3 : Int32)) = (2 : Int32) then (nar .byte (97 : Int32)) else (nar .byte (XT.ushrL r ((8 : Int32) * i)).toInt32.toInt8.toInt32)
def own_at (e0 e1 e2 e3 e4 e5 j : Int32) : Int32 := if j = (0 : Int32) then e0 else if j = (1 : Int32) then e1 else if j = (2 : Int32) then e2 else if j = (3 : Int32) then e3 else if j = (4 : Int32) then e4 else e5
theorem own_six {j : Int32} (h : ¬ j < (0 : Int32) ∧ j < (6 : Int32)) : j = 0 ∨ j = 1 ∨ j = 2 ∨ j = 3 ∨ j = 4 ∨ j = 5 := by
  obtain ⟨h1, h2⟩ := h
  rw [Int32.lt_iff_toInt_lt] at h1 h2
  have z0 : (0 : Int32).toInt = 0 := by decide
  have z1 : (1 : Int32).toInt = 1 := by decide
  have z2 : (2 : Int32).toInt = 2 := by decide
  have z3 : (3 : Int32).toInt = 3 := by decide
  have z4 : (4 : Int32).toInt = 4 := by decide
  have z5 : (5 : Int32).toInt = 5 := by decide
  have z6 : (6 : Int32).toInt = 6 := by decide
  simp only [← Int32.toInt_inj, z0, z1, z2, z3, z4, z5]
  omega
theorem own_get (e0 e1 e2 e3 e4 e5 : Int32) {j : Int32} (h : ¬ j < (0 : Int32) ∧ j < (6 : Int32)) : ([(.int e0), (.int e1), (.int e2), (.int e3), (.int e4), (.int e5)] : List Value).getD j.toNatClampNeg (.int (0 : Int32)) = .int (own_at e0 e1 e2 e3 e4 e5 j) := by
  rcases own_six h with rfl | rfl | rfl | rfl | rfl | rfl <;> rfl
def own_ea (e0 e1 e2 e3 e4 e5 f t k : Int32) : Int32 := if k < (f + (2 : Int32)) then (0 : Int32) else if t < k then (0 : Int32) else if (own_at e0 e1 e2 e3 e4 e5 (k - (1 : Int32))) = (10 : Int32) then (if (own_at e0 e1 e2 e3 e4 e5 (k - (2 : Int32))) = (10 : Int32) then (1 : Int32) else if (k - (3 : Int32)) < f then (0 : Int32) else if (own_at e0 e1 e2 e3 e4 e5 (k - (2 : Int32))) = (13 : Int32) then (if (own_at e0 e1 e2 e3 e4 e5 (k - (3 : Int32))) = (10 : Int32) then (1 : Int32) else (0 : Int32)) else (0 : Int32)) else (0 : Int32)
def own_end (e0 e1 e2 e3 e4 e5 t : Int32) : Nat → Int32 → Int32
  | 0, _ => (-1 : Int32)
  | k + 1, i => if i < (t - (1 : Int32)) then (if (own_at e0 e1 e2 e3 e4 e5 i) = (10 : Int32) then (if (own_at e0 e1 e2 e3 e4 e5 (i + (1 : Int32))) = (10 : Int32) then (i + (2 : Int32)) else if (own_at e0 e1 e2 e3 e4 e5 (i + (1 : Int32))) = (13 : Int32) then (if (i + (2 : Int32)) < t then (if (own_at e0 e1 e2 e3 e4 e5 (i + (2 : Int32))) = (10 : Int32) then (i + (3 : Int32)) else own_end e0 e1 e2 e3 e4 e5 t k (i + (1 : Int32))) else own_end e0 e1 e2 e3 e4 e5 t k (i + (1 : Int32))) else own_end e0 e1 e2 e3 e4 e5 t k (i + (1 : Int32))) else own_end e0 e1 e2 e3 e4 e5 t k (i + (1 : Int32))) else (-1 : Int32)
theorem own_end_s (e0 e1 e2 e3 e4 e5 t : Int32) (k : Nat) (i : Int32) : own_end e0 e1 e2 e3 e4 e5 t (k + 1) i = if i < (t - (1 : Int32)) then (if (own_at e0 e1 e2 e3 e4 e5 i) = (10 : Int32) then (if (own_at e0 e1 e2 e3 e4 e5 (i + (1 : Int32))) = (10 : Int32) then (i + (2 : Int32)) else if (own_at e0 e1 e2 e3 e4 e5 (i + (1 : Int32))) = (13 : Int32) then (if (i + (2 : Int32)) < t then (if (own_at e0 e1 e2 e3 e4 e5 (i + (2 : Int32))) = (10 : Int32) then (i + (3 : Int32)) else own_end e0 e1 e2 e3 e4 e5 t k (i + (1 : Int32))) else own_end e0 e1 e2 e3 e4 e5 t k (i + (1 : Int32))) else own_end e0 e1 e2 e3 e4 e5 t k (i + (1 : Int32))) else own_end e0 e1 e2 e3 e4 e5 t k (i + (1 : Int32))) else (-1 : Int32) := rfl
/-- the turns left; the places stay inside -/
def own_I (t : Int32) (k : Nat) (i : Int32) : Prop := 0 ≤ i.toInt ∧ i.toInt ≤ 7 ∧ 0 ≤ t.toInt ∧ t.toInt ≤ 6 ∧ t.toInt - i.toInt ≤ k
theorem own_t1 {t : Int32} (h0 : 0 ≤ t.toInt) (h6 : t.toInt ≤ 6) : (t - (1 : Int32)).toInt = t.toInt - 1 := by
  have z : (1 : Int32).toInt = 1 := by decide
  rw [Jvm.Kit.i32_sub (by omega) (by omega), z]
theorem own_out {t i : Int32} (h : own_I t 0 i) : ¬ i < (t - (1 : Int32)) := by
  obtain ⟨h1, h2, h3, h4, h5⟩ := h
  have e := own_t1 h3 h4
  rw [Int32.lt_iff_toInt_lt]; omega
theorem own_b0 {t i : Int32} {k : Nat} (h : own_I t k i) (q : i < (t - (1 : Int32))) : ¬ i < (0 : Int32) ∧ i < (6 : Int32) := by
  obtain ⟨h1, h2, h3, h4, h5⟩ := h
  have e := own_t1 h3 h4
  have z0 : (0 : Int32).toInt = 0 := by decide
  have z6 : (6 : Int32).toInt = 6 := by decide
  rw [Int32.lt_iff_toInt_lt] at *
  rw [Int32.lt_iff_toInt_lt]; omega
theorem own_add {i : Int32} (c : Int32) (n : Int) (hc : c.toInt = n) (h1 : 0 ≤ i.toInt) (h2 : i.toInt ≤ 7) (hn : 0 ≤ n ∧ n ≤ 3) : (i + c).toInt = i.toInt + n := by
  rw [Jvm.Kit.i32_add (by omega) (by omega), hc]
theorem own_b1 {t i : Int32} {k : Nat} (h : own_I t k i) (q : i < (t - (1 : Int32))) : ¬ (i + (1 : Int32)) < (0 : Int32) ∧ (i + (1 : Int32)) < (6 : Int32) := by
  obtain ⟨h1, h2, h3, h4, h5⟩ := h
  have e := own_t1 h3 h4
  have e1 := own_add (i := i) (1 : Int32) 1 (by decide) h1 h2 (by omega)
  have z0 : (0 : Int32).toInt = 0 := by decide
  have z6 : (6 : Int32).toInt = 6 := by decide
  rw [Int32.lt_iff_toInt_lt] at *
  rw [Int32.lt_iff_toInt_lt]; omega
theorem own_b2 {t i : Int32} {k : Nat} (h : own_I t k i) (q : (i + (2 : Int32)) < t) : ¬ (i + (2 : Int32)) < (0 : Int32) ∧ (i + (2 : Int32)) < (6 : Int32) := by
  obtain ⟨h1, h2, h3, h4, h5⟩ := h
  have e1 := own_add (i := i) (2 : Int32) 2 (by decide) h1 h2 (by omega)
  have z0 : (0 : Int32).toInt = 0 := by decide
  have z6 : (6 : Int32).toInt = 6 := by decide
  rw [Int32.lt_iff_toInt_lt] at *
  rw [Int32.lt_iff_toInt_lt]; omega
theorem own_step {t i : Int32} {k : Nat} (h : own_I t (k + 1) i) (q : i < (t - (1 : Int32))) : own_I t k (i + (1 : Int32)) := by
  obtain ⟨h1, h2, h3, h4, h5⟩ := h
  have e := own_t1 h3 h4
  have e1 := own_add (i := i) (1 : Int32) 1 (by decide) h1 h2 (by omega)
  rw [Int32.lt_iff_toInt_lt] at q
  unfold own_I; omega
/-- what endsAt is asked: a place from 2 to 6, bounds from 0 to 6 -/
def own_E (f t k : Int32) : Prop := 0 ≤ f.toInt ∧ f.toInt ≤ 6 ∧ t.toInt ≤ 6 ∧ 2 ≤ k.toInt ∧ k.toInt ≤ 6
theorem own_sub {k : Int32} (c : Int32) (n : Int) (hc : c.toInt = n) (h1 : 2 ≤ k.toInt) (h2 : k.toInt ≤ 6) (hn : 0 ≤ n ∧ n ≤ 3) : (k - c).toInt = k.toInt - n := by
  rw [Jvm.Kit.i32_sub (by omega) (by omega), hc]
theorem own_k1 {f t k : Int32} (h : own_E f t k) : ¬ (k - (1 : Int32)) < (0 : Int32) ∧ (k - (1 : Int32)) < (6 : Int32) := by
  obtain ⟨h1, h2, h3, h4, h5⟩ := h
  have e1 := own_sub (k := k) (1 : Int32) 1 (by decide) h4 h5 (by omega)
  have z0 : (0 : Int32).toInt = 0 := by decide
  have z6 : (6 : Int32).toInt = 6 := by decide
  rw [Int32.lt_iff_toInt_lt, Int32.lt_iff_toInt_lt]; omega
theorem own_k2 {f t k : Int32} (h : own_E f t k) : ¬ (k - (2 : Int32)) < (0 : Int32) ∧ (k - (2 : Int32)) < (6 : Int32) := by
  obtain ⟨h1, h2, h3, h4, h5⟩ := h
  have e1 := own_sub (k := k) (2 : Int32) 2 (by decide) h4 h5 (by omega)
  have z0 : (0 : Int32).toInt = 0 := by decide
  have z6 : (6 : Int32).toInt = 6 := by decide
  rw [Int32.lt_iff_toInt_lt, Int32.lt_iff_toInt_lt]; omega
theorem own_k3 {f t k : Int32} (h : own_E f t k) (q : ¬ (k - (3 : Int32)) < f) : ¬ (k - (3 : Int32)) < (0 : Int32) ∧ (k - (3 : Int32)) < (6 : Int32) := by
  obtain ⟨h1, h2, h3, h4, h5⟩ := h
  have e1 := own_sub (k := k) (3 : Int32) 3 (by decide) h4 h5 (by omega)
  have z0 : (0 : Int32).toInt = 0 := by decide
  have z6 : (6 : Int32).toInt = 6 := by decide
  rw [Int32.lt_iff_toInt_lt] at q
  rw [Int32.lt_iff_toInt_lt, Int32.lt_iff_toInt_lt]; omega
/-! the plain law, over naturals -/
def own_c (x : Int32) : Nat := if x = (10 : Int32) then 0 else if x = (13 : Int32) then 1 else 2
theorem own_c10 (x : Int32) : (x = (10 : Int32)) ↔ own_c x = 0 := by
  unfold own_c
  by_cases h : x = (10 : Int32)
  · rw [if_pos h]; exact ⟨fun _ => rfl, fun _ => h⟩
  · rw [if_neg h]; by_cases h2 : x = (13 : Int32)
    · rw [if_pos h2]; exact ⟨fun q => absurd q h, fun q => absurd q (by decide)⟩
    · rw [if_neg h2]; exact ⟨fun q => absurd q h, fun q => absurd q (by decide)⟩
theorem own_c13 (x : Int32) : (x = (13 : Int32)) ↔ own_c x = 1 := by
  unfold own_c
  by_cases h : x = (10 : Int32)
  · rw [if_pos h]; exact ⟨fun q => by rw [q] at h; exact absurd h (by decide), fun q => absurd q (by decide)⟩
  · rw [if_neg h]; by_cases h2 : x = (13 : Int32)
    · rw [if_pos h2]; exact ⟨fun _ => rfl, fun _ => h2⟩
    · rw [if_neg h2]; exact ⟨fun q => absurd q h2, fun q => absurd q (by decide)⟩
theorem own_c3 (x : Int32) : own_c x ∈ [0, 1, 2] := by
  unfold own_c; split
  · simp
  · split <;> simp
def own_l (e0 e1 e2 e3 e4 e5 : Int32) : List Nat := [own_c e0, own_c e1, own_c e2, own_c e3, own_c e4, own_c e5]
theorem own_cat (e0 e1 e2 e3 e4 e5 : Int32) : ∀ n : Nat, n < 6 → own_c (own_at e0 e1 e2 e3 e4 e5 (Int32.ofNat n)) = (own_l e0 e1 e2 e3 e4 e5).getD n 2
  | 0, _ => rfl | 1, _ => rfl | 2, _ => rfl | 3, _ => rfl | 4, _ => rfl | 5, _ => rfl
  | n + 6, h => absurd h (by omega)
def own_eaN (cs : List Nat) (f t k : Nat) : Bool := if k < f + 2 then false else if t < k then false else if cs.getD (k - 1) 2 = 0 then (if cs.getD (k - 2) 2 = 0 then true else if k < f + 3 then false else if cs.getD (k - 2) 2 = 1 then (if cs.getD (k - 3) 2 = 0 then true else false) else false) else false
def own_endN (cs : List Nat) (t : Nat) : Nat → Nat → Nat
  | 0, _ => 0
  | k + 1, i => if i + 1 < t then (if cs.getD i 2 = 0 then (if cs.getD (i + 1) 2 = 0 then i + 2 else if cs.getD (i + 1) 2 = 1 then (if i + 2 < t then (if cs.getD (i + 2) 2 = 0 then i + 3 else own_endN cs t k (i + 1)) else own_endN cs t k (i + 1)) else own_endN cs t k (i + 1)) else own_endN cs t k (i + 1)) else 0
def own_want (cs : List Nat) (f t : Nat) : Nat := if own_eaN cs f t 2 then 2 else if own_eaN cs f t 3 then 3 else if own_eaN cs f t 4 then 4 else if own_eaN cs f t 5 then 5 else if own_eaN cs f t 6 then 6 else 0
def own_chk : Bool := [0, 1, 2, 3, 4, 5, 6].all fun f => [0, 1, 2, 3, 4, 5, 6].all fun t => [0, 1, 2].all fun a => [0, 1, 2].all fun b => [0, 1, 2].all fun c => [0, 1, 2].all fun d => [0, 1, 2].all fun g => [0, 1, 2].all fun h => own_endN [a, b, c, d, g, h] t 6 f == own_want [a, b, c, d, g, h] f t
theorem own_chk_t : own_chk = true := by decide +kernel
theorem own_seven : ∀ n : Nat, n ≤ 6 → n ∈ [0, 1, 2, 3, 4, 5, 6] := fun n h => by simp; omega
theorem own_nat (e0 e1 e2 e3 e4 e5 : Int32) {f t : Nat} (hf : f ≤ 6) (ht : t ≤ 6) : own_endN (own_l e0 e1 e2 e3 e4 e5) t 6 f = own_want (own_l e0 e1 e2 e3 e4 e5) f t := by
  have h := own_chk_t
  unfold own_chk at h
  have h1 := List.all_eq_true.mp h f (own_seven f hf)
  have h2 := List.all_eq_true.mp h1 t (own_seven t ht)
  have h3 := List.all_eq_true.mp h2 _ (own_c3 e0)
  have h4 := List.all_eq_true.mp h3 _ (own_c3 e1)
  have h5 := List.all_eq_true.mp h4 _ (own_c3 e2)
  have h6 := List.all_eq_true.mp h5 _ (own_c3 e3)
  have h7 := List.all_eq_true.mp h6 _ (own_c3 e4)
  have h8 := List.all_eq_true.mp h7 _ (own_c3 e5)
  exact beq_iff_eq.mp h8
theorem own_i {n : Nat} (h : n < 100) : (Int32.ofNat n).toInt = n := Int32.toInt_ofNat_of_lt (by omega)
theorem own_iadd (n k : Nat) : Int32.ofNat n + Int32.ofNat k = Int32.ofNat (n + k) := (Int32.ofNat_add n k).symm
theorem own_isub {n k : Nat} (h : k ≤ n) : Int32.ofNat n - Int32.ofNat k = Int32.ofNat (n - k) := by
  have : Int32.ofNat n = Int32.ofNat (n - k) + Int32.ofNat k := by rw [← Int32.ofNat_add]; congr 1; omega
  rw [this]; exact Int32.add_sub_cancel _ _
def own_res (m : Nat) : Int32 := if m = 0 then (-1 : Int32) else Int32.ofNat m
theorem own_bEnd (e0 e1 e2 e3 e4 e5 : Int32) {t : Nat} (ht : t ≤ 6) : ∀ (k n : Nat), n ≤ 7 → own_end e0 e1 e2 e3 e4 e5 (Int32.ofNat t) k (Int32.ofNat n) = own_res (own_endN (own_l e0 e1 e2 e3 e4 e5) t k n)
  | 0, n, _ => rfl
  | k + 1, n, hn => by
    rw [own_end_s]
    have zt := own_i (n := t) (by omega)
    have zn := own_i (n := n) (by omega)
    have et := own_t1 (t := Int32.ofNat t) (by omega) (by omega)
    show _ = own_res (if n + 1 < t then _ else _)
    by_cases h1 : n + 1 < t
    · have h1' : Int32.ofNat n < Int32.ofNat t - (1 : Int32) := by rw [Int32.lt_iff_toInt_lt]; omega
      have ih := own_bEnd e0 e1 e2 e3 e4 e5 ht k (n + 1) (by omega)
      rw [if_pos h1, if_pos h1', show Int32.ofNat n + (1 : Int32) = Int32.ofNat (n + 1) from own_iadd n 1, show Int32.ofNat n + (2 : Int32) = Int32.ofNat (n + 2) from own_iadd n 2, show Int32.ofNat n + (3 : Int32) = Int32.ofNat (n + 3) from own_iadd n 3, ih]
      simp only [own_c10, own_c13, own_cat e0 e1 e2 e3 e4 e5 n (by omega), own_cat e0 e1 e2 e3 e4 e5 (n + 1) (by omega)]
      by_cases h2 : (own_l e0 e1 e2 e3 e4 e5).getD n 2 = 0
      · simp only [if_pos h2]
        by_cases h3 : (own_l e0 e1 e2 e3 e4 e5).getD (n + 1) 2 = 0
        · simp only [if_pos h3]; unfold own_res; rw [if_neg (by omega)]
        · simp only [if_neg h3]
          by_cases h4 : (own_l e0 e1 e2 e3 e4 e5).getD (n + 1) 2 = 1
          · simp only [if_pos h4]
            by_cases h5 : n + 2 < t
            · have h5' : Int32.ofNat (n + 2) < Int32.ofNat t := by rw [Int32.lt_iff_toInt_lt, own_i (by omega), zt]; omega
              simp only [if_pos h5, if_pos h5', own_cat e0 e1 e2 e3 e4 e5 (n + 2) (by omega)]
              by_cases h6 : (own_l e0 e1 e2 e3 e4 e5).getD (n + 2) 2 = 0
              · simp only [if_pos h6]; unfold own_res; rw [if_neg (by omega)]
              · simp only [if_neg h6]
            · have h5' : ¬ Int32.ofNat (n + 2) < Int32.ofNat t := by rw [Int32.lt_iff_toInt_lt, own_i (by omega), zt]; omega
              simp only [if_neg h5, if_neg h5']
          · simp only [if_neg h4]
      · simp only [if_neg h2]
    · have h1' : ¬ Int32.ofNat n < Int32.ofNat t - (1 : Int32) := by rw [Int32.lt_iff_toInt_lt]; omega
      rw [if_neg h1, if_neg h1']; rfl
theorem own_bEa (e0 e1 e2 e3 e4 e5 : Int32) {f t k : Nat} (hf : f ≤ 6) (ht : t ≤ 6) (hk : 2 ≤ k) (hk6 : k ≤ 6) : own_ea e0 e1 e2 e3 e4 e5 (Int32.ofNat f) (Int32.ofNat t) (Int32.ofNat k) = if own_eaN (own_l e0 e1 e2 e3 e4 e5) f t k = true then (1 : Int32) else (0 : Int32) := by
  have zf := own_i (n := f) (by omega)
  have zt := own_i (n := t) (by omega)
  have zk := own_i (n := k) (by omega)
  have q1 : (Int32.ofNat k < Int32.ofNat f + (2 : Int32)) ↔ k < f + 2 := by
    rw [show Int32.ofNat f + (2 : Int32) = Int32.ofNat (f + 2) from own_iadd f 2, Int32.lt_iff_toInt_lt, zk, own_i (by omega)]; omega
  have q2 : (Int32.ofNat t < Int32.ofNat k) ↔ t < k := by rw [Int32.lt_iff_toInt_lt, zk, zt]; omega
  have q3 : (Int32.ofNat k - (3 : Int32) < Int32.ofNat f) ↔ k < f + 3 := by
    rw [Int32.lt_iff_toInt_lt, own_sub (k := Int32.ofNat k) (3 : Int32) 3 (by decide) (by omega) (by omega) (by omega), zk, zf]; omega
  unfold own_ea own_eaN
  rw [show Int32.ofNat k - (1 : Int32) = Int32.ofNat (k - 1) from own_isub (n := k) (k := 1) (by omega), show Int32.ofNat k - (2 : Int32) = Int32.ofNat (k - 2) from own_isub (n := k) (k := 2) (by omega)]
  simp only [q1, q2, q3, own_c10, own_c13, own_cat e0 e1 e2 e3 e4 e5 (k - 1) (by omega), own_cat e0 e1 e2 e3 e4 e5 (k - 2) (by omega)]
  by_cases h1 : k < f + 2
  · simp [h1]
  · by_cases h2 : t < k
    · simp [h1, h2]
    · by_cases h3 : k < f + 3
      · simp only [h1, h2, h3, if_true, if_false]
        split
        · split <;> simp
        · simp
      · rw [show Int32.ofNat k - (3 : Int32) = Int32.ofNat (k - 3) from own_isub (n := k) (k := 3) (by omega)]
        simp only [own_cat e0 e1 e2 e3 e4 e5 (k - 3) (by omega), h1, h2, h3, if_true, if_false]
        split
        · split
          · simp
          · split
            · split <;> simp
            · simp
        · simp
def own_expect (e0 e1 e2 e3 e4 e5 f t : Int32) : Int32 := if own_ea e0 e1 e2 e3 e4 e5 f t (2 : Int32) = (0 : Int32) then (if own_ea e0 e1 e2 e3 e4 e5 f t (3 : Int32) = (0 : Int32) then (if own_ea e0 e1 e2 e3 e4 e5 f t (4 : Int32) = (0 : Int32) then (if own_ea e0 e1 e2 e3 e4 e5 f t (5 : Int32) = (0 : Int32) then (if own_ea e0 e1 e2 e3 e4 e5 f t (6 : Int32) = (0 : Int32) then (-1 : Int32) else (6 : Int32)) else (5 : Int32)) else (4 : Int32)) else (3 : Int32)) else (2 : Int32)
theorem own_bit (b : Bool) : ((if b = true then (1 : Int32) else (0 : Int32)) = (0 : Int32)) ↔ b = false := by cases b <;> decide
theorem own_plain (e0 e1 e2 e3 e4 e5 : Int32) {f t : Int32} (hf : 0 ≤ f.toInt) (hft : f.toInt ≤ t.toInt) (ht : t.toInt ≤ 6) : own_end e0 e1 e2 e3 e4 e5 t 6 f = own_expect e0 e1 e2 e3 e4 e5 f t := by
  have cf : f = Int32.ofNat f.toInt.toNat := by apply Int32.toInt_inj.mp; rw [own_i (by omega)]; omega
  have ct : t = Int32.ofNat t.toInt.toNat := by apply Int32.toInt_inj.mp; rw [own_i (by omega)]; omega
  have hF : f.toInt.toNat ≤ 6 := by omega
  have hT : t.toInt.toNat ≤ 6 := by omega
  generalize f.toInt.toNat = F at *
  generalize t.toInt.toNat = G at *
  subst cf ct
  rw [own_bEnd e0 e1 e2 e3 e4 e5 hT 6 F (by omega), own_nat e0 e1 e2 e3 e4 e5 hF hT]
  unfold own_expect own_want
  rw [show (2 : Int32) = Int32.ofNat 2 from rfl, show (3 : Int32) = Int32.ofNat 3 from rfl, show (4 : Int32) = Int32.ofNat 4 from rfl, show (5 : Int32) = Int32.ofNat 5 from rfl, show (6 : Int32) = Int32.ofNat 6 from rfl]
  rw [own_bEa _ _ _ _ _ _ hF hT (by omega) (by omega), own_bEa _ _ _ _ _ _ hF hT (by omega) (by omega), own_bEa _ _ _ _ _ _ hF hT (by omega) (by omega), own_bEa _ _ _ _ _ _ hF hT (by omega) (by omega), own_bEa _ _ _ _ _ _ hF hT (by omega) (by omega)]
  simp only [own_bit]
  cases own_eaN (own_l e0 e1 e2 e3 e4 e5) F G 2 <;> cases own_eaN (own_l e0 e1 e2 e3 e4 e5) F G 3 <;> cases own_eaN (own_l e0 e1 e2 e3 e4 e5) F G 4 <;> cases own_eaN (own_l e0 e1 e2 e3 e4 e5) F G 5 <;> cases own_eaN (own_l e0 e1 e2 e3 e4 e5) F G 6 <;> rfl
theorem own_fr (f : Int32) : 0 ≤ ((f &&& (2147483647 : Int32)) % (7 : Int32)).toInt ∧ ((f &&& (2147483647 : Int32)) % (7 : Int32)).toInt ≤ 6 := by
  have e : (f &&& (2147483647 : Int32)).toInt = f.toInt % 2 ^ 31 := Jvm.Kit.i32_mask f _ (k := 31) (by decide) (by decide)
  have e2 : ((f &&& (2147483647 : Int32)) % (7 : Int32)).toInt = (f &&& (2147483647 : Int32)).toInt % 7 := Jvm.Kit.i32_rem_nonneg (by omega)
  omega
theorem own_7 {f : Int32} (h : 0 ≤ f.toInt ∧ f.toInt ≤ 6) : ((7 : Int32) - f).toInt = 7 - f.toInt := by
  have z : (7 : Int32).toInt = 7 := by decide
  rw [Jvm.Kit.i32_sub (by omega) (by omega), z]
theorem own_nz {f : Int32} (h : 0 ≤ f.toInt ∧ f.toInt ≤ 6) : ((7 : Int32) - f) ≠ 0 := by
  have e := own_7 h
  intro q; rw [q] at e
  have z : (0 : Int32).toInt = 0 := by decide
  omega
theorem own_to {f : Int32} (t : Int32) (h : 0 ≤ f.toInt ∧ f.toInt ≤ 6) : f.toInt ≤ (f + ((t &&& (2147483647 : Int32)) % ((7 : Int32) - f))).toInt ∧ (f + ((t &&& (2147483647 : Int32)) % ((7 : Int32) - f))).toInt ≤ 6 := by
  have e := own_7 h
  have e1 : (t &&& (2147483647 : Int32)).toInt = t.toInt % 2 ^ 31 := Jvm.Kit.i32_mask t _ (k := 31) (by decide) (by decide)
  have e2 : ((t &&& (2147483647 : Int32)) % ((7 : Int32) - f)).toInt = (t &&& (2147483647 : Int32)).toInt % (7 - f.toInt) := by rw [Jvm.Kit.i32_rem_nonneg (by omega), e]
  have q1 := Int.emod_nonneg (t &&& (2147483647 : Int32)).toInt (b := 7 - f.toInt) (by omega)
  have q2 := Int.emod_lt_of_pos (t &&& (2147483647 : Int32)).toInt (b := 7 - f.toInt) (by omega)
  rw [Jvm.Kit.i32_add (by omega) (by omega), e2]; omega
theorem own_hE {f t : Int32} (c : Int32) (hf : 0 ≤ f.toInt ∧ f.toInt ≤ 6) (ht : f.toInt ≤ t.toInt ∧ t.toInt ≤ 6) (hc : 2 ≤ c.toInt ∧ c.toInt ≤ 6) : own_E f t c := by unfold own_E; omega
theorem own_hI {f t : Int32} (hf : 0 ≤ f.toInt ∧ f.toInt ≤ 6) (ht : f.toInt ≤ t.toInt ∧ t.toInt ≤ 6) : own_I t 6 f := by unfold own_I; omega
theorem ef_1 (m : MethodId) (p1 : Int32) (q2 : Int64) (p3 : Int32) : entryFrame m #[(.int p1), (.long q2), (.int p3)] 5 = mkF m 0 #[.val (.int p1), .val (.long q2), .second, .val (.int p3), .unset] [] := by first | (simp [entryFrame, mkF, argsToLocals, Value.category]; done) | rfl
theorem pn_com_example_pledgeway_pledgeway_http_HeadEndPinLaw : plainName "com/example/pledgeway/pledgeway/http/HeadEndPinLaw" = true := by first | (simp [plainName, overriddenIn]; done) | decide +kernel
theorem d1_0 : decode method_2_code 0 = .ok (.iload_n 0, 1) := by decide +kernel
theorem d1_1 : decode method_2_code 1 = .ok (.iconst 2, 1) := by decide +kernel
theorem d1_2 : decode method_2_code 2 = .ok (.iload_n 3, 1) := by decide +kernel
theorem d1_3 : decode method_2_code 3 = .ok (.imul, 1) := by decide +kernel
theorem d1_4 : decode method_2_code 4 = .ok (.iushr, 1) := by decide +kernel
theorem d1_5 : decode method_2_code 5 = .ok (.iconst 3, 1) := by decide +kernel
theorem d1_6 : decode method_2_code 6 = .ok (.iand, 1) := by decide +kernel
theorem d1_7 : decode method_2_code 7 = .ok (.istore 4, 2) := by decide +kernel
theorem d1_9 : decode method_2_code 9 = .ok (.iload 4, 2) := by decide +kernel
theorem d1_11 : decode method_2_code 11 = .ok (.ifCond .ne 6, 3) := by decide +kernel
theorem d1_14 : decode method_2_code 14 = .ok (.bipush 10, 2) := by decide +kernel
theorem d1_16 : decode method_2_code 16 = .ok (.ireturn, 1) := by decide +kernel
theorem d1_17 : decode method_2_code 17 = .ok (.iload 4, 2) := by decide +kernel
theorem d1_19 : decode method_2_code 19 = .ok (.iconst 1, 1) := by decide +kernel
theorem d1_20 : decode method_2_code 20 = .ok (.if_icmp .ne 6, 3) := by decide +kernel
theorem d1_23 : decode method_2_code 23 = .ok (.bipush 13, 2) := by decide +kernel
theorem d1_25 : decode method_2_code 25 = .ok (.ireturn, 1) := by decide +kernel
theorem d1_26 : decode method_2_code 26 = .ok (.iload 4, 2) := by decide +kernel
theorem d1_28 : decode method_2_code 28 = .ok (.iconst 2, 1) := by decide +kernel
theorem d1_29 : decode method_2_code 29 = .ok (.if_icmp .ne 6, 3) := by decide +kernel
theorem d1_32 : decode method_2_code 32 = .ok (.bipush 97, 2) := by decide +kernel
theorem d1_34 : decode method_2_code 34 = .ok (.ireturn, 1) := by decide +kernel
theorem d1_35 : decode method_2_code 35 = .ok (.lload_n 1, 1) := by decide +kernel
theorem d1_36 : decode method_2_code 36 = .ok (.bipush 8, 2) := by decide +kernel
theorem d1_38 : decode method_2_code 38 = .ok (.iload_n 3, 1) := by decide +kernel
theorem d1_39 : decode method_2_code 39 = .ok (.imul, 1) := by decide +kernel
theorem d1_40 : decode method_2_code 40 = .ok (.lushr, 1) := by decide +kernel
theorem d1_41 : decode method_2_code 41 = .ok (.l2i, 1) := by decide +kernel
theorem d1_42 : decode method_2_code 42 = .ok (.i2b, 1) := by decide +kernel
theorem d1_43 : decode method_2_code 43 = .ok (.ireturn, 1) := by decide +kernel
def Q1 (Z : State) (p1 : Int32) (q2 : Int64) (p3 : Int32) (h0 : Heap) (n0 : Nat) (v : Option Value) (h : Heap) (L : List Loc) : Prop := v = some (.int (own_pick p1 q2 p3)) ∧ Fr n0 L ∧ h = h0
set_option maxRecDepth 65536 in
set_option maxHeartbeats 40000000 in
theorem rm1 (l : Launch) (Z : State) (a0 : Array Value) (hw : ∀ d ∈ tables_1, d.before a0 Z = true) (ws : List Jvm.Cond) (p1 : Int32) (q2 : Int64) (p3 : Int32) (h0 : Heap) (n0 : Nat) (Z0 : n0 ≤ h0.size) :
    MetFree l (⟨"com/example/pledgeway/pledgeway/http/HeadEndPinLaw", "pick", "(IJI)B"⟩ : MethodName) (head1 (Jvm.Cond.code (⟨"com/example/pledgeway/pledgeway/http/HeadEndPinLaw", "pick", "(IJI)B"⟩ : MethodName) method_2_code 5 (some .byte) :: ws) ({ frames := 0, cells := 0, slots := 0, locals := 0 } : Room)) (fun a U => a = #[(.int p1), (.long q2), (.int p3)] ∧ Z.Warmed39 U.vm ∧ U.heap = h0) (fun _ _ _ _ _ => True) (fun _ U o U' => ∃ v L, o = .returned v ∧ Q1 Z p1 q2 p3 h0 n0 v U'.heap L ∧ FrameEnd U o U' L ({ frames := 0, cells := 0, slots := 0, locals := 0 } : Room).cells ({ frames := 0, cells := 0, slots := 0, locals := 0 } : Room).slots) := by
  refine MetFree.of_bodySF (plainFor_of_name pn_com_example_pledgeway_pledgeway_http_HeadEndPinLaw) hisR ?_
  intro p e s m args below meth c s₁ Bd hml0 hP hK
  obtain ⟨rfl, hZ, hh⟩ := hP
  have hx := Bd.exec
  have hby := Bd.bytes
  have hml : c.maxLocals = 5 := hml0
  have hown : s.vm.findClass "com/example/pledgeway/pledgeway/http/HeadEndPinLaw" = some m.cls := findClass_of_methodNamed Bd.named
  have hnm := (name_of_methodNamed Bd.named Bd.method).1
  have X0 : Stand p l e ({ frames := 0, cells := 0, slots := 0, locals := 0 } : Room) s m #[(.int p1), (.long q2), (.int p3)] below meth c s₁ [] 0 0 := Stand.of_body Bd
  have eh0 : s₁.heap = h0 := by rw [← hh, Bd.state]; rfl
  have N0 := Fr.nil n0
  have pre0 : ∀ t, Steps p.tables e below (s₁.setTop (mkF m 0 #[.val (.int p1), .val (.long q2), .second, .val (.int p3), .unset] [])) t → Steps p.tables e below (s₁.setTop (entryFrame m #[(.int p1), (.long q2), (.int p3)] 5)) t := fun t k => castTop (ef_1 m p1 q2 p3) k
  have pre2 : ∀ t, Steps p.tables e below (s₁.setTop (mkF m 11 #[.val (.int p1), .val (.long q2), .second, .val (.int p3), .val (.int ((XT.ushr p1 ((2 : Int32) * p3)) &&& (3 : Int32)))] [(.int ((XT.ushr p1 ((2 : Int32) * p3)) &&& (3 : Int32)))])) t → Steps p.tables e below (s₁.setTop (entryFrame m #[(.int p1), (.long q2), (.int p3)] 5)) t := fun t k => pre0 t (by
    show Steps p.tables e below (s₁.setTop (mkF m 0 #[.val (.int p1), .val (.long q2), .second, .val (.int p3), .unset] [])) t
    refine XS.iloadN X0.here hx rfl (hb hby d1_0) rfl ?_
    show Steps p.tables e below (s₁.setTop (mkF m 1 #[.val (.int p1), .val (.long q2), .second, .val (.int p3), .unset] [(.int p1)])) t
    refine XS.iconst X0.here hx rfl (hb hby d1_1) ?_
    show Steps p.tables e below (s₁.setTop (mkF m 2 #[.val (.int p1), .val (.long q2), .second, .val (.int p3), .unset] [(.int (2 : Int32)), (.int p1)])) t
    refine XS.iloadN X0.here hx rfl (hb hby d1_2) rfl ?_
    show Steps p.tables e below (s₁.setTop (mkF m 3 #[.val (.int p1), .val (.long q2), .second, .val (.int p3), .unset] [(.int p3), (.int (2 : Int32)), (.int p1)])) t
    refine XS.imul X0.here hx rfl (hb hby d1_3) rfl ?_
    show Steps p.tables e below (s₁.setTop (mkF m 4 #[.val (.int p1), .val (.long q2), .second, .val (.int p3), .unset] [(.int ((2 : Int32) * p3)), (.int p1)])) t
    refine XT.iushr X0.here hx rfl (hb hby d1_4) rfl ?_
    show Steps p.tables e below (s₁.setTop (mkF m 5 #[.val (.int p1), .val (.long q2), .second, .val (.int p3), .unset] [(.int (XT.ushr p1 ((2 : Int32) * p3)))])) t
    refine XS.iconst X0.here hx rfl (hb hby d1_5) ?_
    show Steps p.tables e below (s₁.setTop (mkF m 6 #[.val (.int p1), .val (.long q2), .second, .val (.int p3), .unset] [(.int (3 : Int32)), (.int (XT.ushr p1 ((2 : Int32) * p3)))])) t
    refine XS.iand X0.here hx rfl (hb hby d1_6) rfl ?_
    show Steps p.tables e below (s₁.setTop (mkF m 7 #[.val (.int p1), .val (.long q2), .second, .val (.int p3), .unset] [(.int ((XT.ushr p1 ((2 : Int32) * p3)) &&& (3 : Int32)))])) t
    refine XS.istore X0.here hx rfl (hb hby d1_7) rfl (l' := #[.val (.int p1), .val (.long q2), .second, .val (.int p3), .val (.int ((XT.ushr p1 ((2 : Int32) * p3)) &&& (3 : Int32)))]) rfl ?_
    show Steps p.tables e below (s₁.setTop (mkF m 9 #[.val (.int p1), .val (.long q2), .second, .val (.int p3), .val (.int ((XT.ushr p1 ((2 : Int32) * p3)) &&& (3 : Int32)))] [])) t
    refine XS.iload X0.here hx rfl (hb hby d1_9) rfl ?_
    show Steps p.tables e below (s₁.setTop (mkF m 11 #[.val (.int p1), .val (.long q2), .second, .val (.int p3), .val (.int ((XT.ushr p1 ((2 : Int32) * p3)) &&& (3 : Int32)))] [(.int ((XT.ushr p1 ((2 : Int32) * p3)) &&& (3 : Int32)))])) t
    exact k)
  by_cases hc11_1 : ((XT.ushr p1 ((2 : Int32) * p3)) &&& (3 : Int32)) = (0 : Int32)
  · skip
    have pre3 : ∀ t, Steps p.tables e below (s₁.setTop (mkF m 16 #[.val (.int p1), .val (.long q2), .second, .val (.int p3), .val (.int ((XT.ushr p1 ((2 : Int32) * p3)) &&& (3 : Int32)))] [(.int (10 : Int32))])) t → Steps p.tables e below (s₁.setTop (entryFrame m #[(.int p1), (.long q2), (.int p3)] 5)) t := fun t k => pre2 t (by
      show Steps p.tables e below (s₁.setTop (mkF m 11 #[.val (.int p1), .val (.long q2), .second, .val (.int p3), .val (.int ((XT.ushr p1 ((2 : Int32) * p3)) &&& (3 : Int32)))] [(.int ((XT.ushr p1 ((2 : Int32) * p3)) &&& (3 : Int32)))])) t
      refine XS.ifNo X0.here hx rfl (hb hby d1_11) rfl (XT.i0_ne_f hc11_1) ?_
      show Steps p.tables e below (s₁.setTop (mkF m 14 #[.val (.int p1), .val (.long q2), .second, .val (.int p3), .val (.int ((XT.ushr p1 ((2 : Int32) * p3)) &&& (3 : Int32)))] [])) t
      refine XS.bipush X0.here hx rfl (hb hby d1_14) ?_
      show Steps p.tables e below (s₁.setTop (mkF m 16 #[.val (.int p1), .val (.long q2), .second, .val (.int p3), .val (.int ((XT.ushr p1 ((2 : Int32) * p3)) &&& (3 : Int32)))] [(.int (10 : Int32))])) t
      exact k)
    obtain ⟨fs, hr, hrun, hended, hW, hsame⟩ := X0.leave (v := some (.int (nar .byte (10 : Int32)))) (fun h => by rw [Bd.returns] at h; cases h)
    refine ⟨_, _, pre3 _ ?_, hrun, hended, _, _, rfl, ?_, ⟨_, rfl⟩, hW, hsame.mono (by decide) (by decide)⟩
    · show Steps p.tables e below (s₁.setTop (mkF m 16 #[.val (.int p1), .val (.long q2), .second, .val (.int p3), .val (.int ((XT.ushr p1 ((2 : Int32) * p3)) &&& (3 : Int32)))] [(.int (10 : Int32))])) _
      exact retN X0 hx (t := .byte) Bd.returns (by simp) (hb hby d1_16) hr
    · show Q1 Z p1 q2 p3 h0 n0 _ s₁.heap _
      rw [eh0]
      exact ⟨(congrArg (fun z => some (Value.int z)) (show (nar .byte (10 : Int32)) = (own_pick p1 q2 p3) from (by simp only [own_pick, if_pos hc11_1]))), N0, rfl⟩
  · skip
    have pre5 : ∀ t, Steps p.tables e below (s₁.setTop (mkF m 20 #[.val (.int p1), .val (.long q2), .second, .val (.int p3), .val (.int ((XT.ushr p1 ((2 : Int32) * p3)) &&& (3 : Int32)))] [(.int (1 : Int32)), (.int ((XT.ushr p1 ((2 : Int32) * p3)) &&& (3 : Int32)))])) t → Steps p.tables e below (s₁.setTop (entryFrame m #[(.int p1), (.long q2), (.int p3)] 5)) t := fun t k => pre2 t (by
      show Steps p.tables e below (s₁.setTop (mkF m 11 #[.val (.int p1), .val (.long q2), .second, .val (.int p3), .val (.int ((XT.ushr p1 ((2 : Int32) * p3)) &&& (3 : Int32)))] [(.int ((XT.ushr p1 ((2 : Int32) * p3)) &&& (3 : Int32)))])) t
      refine XS.ifYes X0.here hx rfl (pc0 := 11) (pc' := 17) rfl (hb hby d1_11) rfl (XT.i0_ne_t hc11_1) (by decide) (by decide) ?_
      show Steps p.tables e below (s₁.setTop (mkF m 17 #[.val (.int p1), .val (.long q2), .second, .val (.int p3), .val (.int ((XT.ushr p1 ((2 : Int32) * p3)) &&& (3 : Int32)))] [])) t
      refine XS.iload X0.here hx rfl (hb hby d1_17) rfl ?_
      show Steps p.tables e below (s₁.setTop (mkF m 19 #[.val (.int p1), .val (.long q2), .second, .val (.int p3), .val (.int ((XT.ushr p1 ((2 : Int32) * p3)) &&& (3 : Int32)))] [(.int ((XT.ushr p1 ((2 : Int32) * p3)) &&& (3 : Int32)))])) t
      refine XS.iconst X0.here hx rfl (hb hby d1_19) ?_
      show Steps p.tables e below (s₁.setTop (mkF m 20 #[.val (.int p1), .val (.long q2), .second, .val (.int p3), .val (.int ((XT.ushr p1 ((2 : Int32) * p3)) &&& (3 : Int32)))] [(.int (1 : Int32)), (.int ((XT.ushr p1 ((2 : Int32) * p3)) &&& (3 : Int32)))])) t
      exact k)
    by_cases hc20_4 : ((XT.ushr p1 ((2 : Int32) * p3)) &&& (3 : Int32)) = (1 : Int32)
    · skip
      have pre6 : ∀ t, Steps p.tables e below (s₁.setTop (mkF m 25 #[.val (.int p1), .val (.long q2), .second, .val (.int p3), .val (.int ((XT.ushr p1 ((2 : Int32) * p3)) &&& (3 : Int32)))] [(.int (13 : Int32))])) t → Steps p.tables e below (s₁.setTop (entryFrame m #[(.int p1), (.long q2), (.int p3)] 5)) t := fun t k => pre5 t (by
        show Steps p.tables e below (s₁.setTop (mkF m 20 #[.val (.int p1), .val (.long q2), .second, .val (.int p3), .val (.int ((XT.ushr p1 ((2 : Int32) * p3)) &&& (3 : Int32)))] [(.int (1 : Int32)), (.int ((XT.ushr p1 ((2 : Int32) * p3)) &&& (3 : Int32)))])) t
        refine XS.icmpNo X0.here hx rfl (hb hby d1_20) rfl (XT.ii_ne_f hc20_4) ?_
        show Steps p.tables e below (s₁.setTop (mkF m 23 #[.val (.int p1), .val (.long q2), .second, .val (.int p3), .val (.int ((XT.ushr p1 ((2 : Int32) * p3)) &&& (3 : Int32)))] [])) t
        refine XS.bipush X0.here hx rfl (hb hby d1_23) ?_
        show Steps p.tables e below (s₁.setTop (mkF m 25 #[.val (.int p1), .val (.long q2), .second, .val (.int p3), .val (.int ((XT.ushr p1 ((2 : Int32) * p3)) &&& (3 : Int32)))] [(.int (13 : Int32))])) t
        exact k)
      obtain ⟨fs, hr, hrun, hended, hW, hsame⟩ := X0.leave (v := some (.int (nar .byte (13 : Int32)))) (fun h => by rw [Bd.returns] at h; cases h)
      refine ⟨_, _, pre6 _ ?_, hrun, hended, _, _, rfl, ?_, ⟨_, rfl⟩, hW, hsame.mono (by decide) (by decide)⟩
      · show Steps p.tables e below (s₁.setTop (mkF m 25 #[.val (.int p1), .val (.long q2), .second, .val (.int p3), .val (.int ((XT.ushr p1 ((2 : Int32) * p3)) &&& (3 : Int32)))] [(.int (13 : Int32))])) _
        exact retN X0 hx (t := .byte) Bd.returns (by simp) (hb hby d1_25) hr
      · show Q1 Z p1 q2 p3 h0 n0 _ s₁.heap _
        rw [eh0]
        exact ⟨(congrArg (fun z => some (Value.int z)) (show (nar .byte (13 : Int32)) = (own_pick p1 q2 p3) from (by simp only [own_pick, if_neg hc11_1, if_pos hc20_4]))), N0, rfl⟩
    · skip
      have pre8 : ∀ t, Steps p.tables e below (s₁.setTop (mkF m 29 #[.val (.int p1), .val (.long q2), .second, .val (.int p3), .val (.int ((XT.ushr p1 ((2 : Int32) * p3)) &&& (3 : Int32)))] [(.int (2 : Int32)), (.int ((XT.ushr p1 ((2 : Int32) * p3)) &&& (3 : Int32)))])) t → Steps p.tables e below (s₁.setTop (entryFrame m #[(.int p1), (.long q2), (.int p3)] 5)) t := fun t k => pre5 t (by
        show Steps p.tables e below (s₁.setTop (mkF m 20 #[.val (.int p1), .val (.long q2), .second, .val (.int p3), .val (.int ((XT.ushr p1 ((2 : Int32) * p3)) &&& (3 : Int32)))] [(.int (1 : Int32)), (.int ((XT.ushr p1 ((2 : Int32) * p3)) &&& (3 : Int32)))])) t
        refine XS.icmpYes X0.here hx rfl (pc0 := 20) (pc' := 26) rfl (hb hby d1_20) rfl (XT.ii_ne_t hc20_4) (by decide) (by decide) ?_
        show Steps p.tables e below (s₁.setTop (mkF m 26 #[.val (.int p1), .val (.long q2), .second, .val (.int p3), .val (.int ((XT.ushr p1 ((2 : Int32) * p3)) &&& (3 : Int32)))] [])) t
        refine XS.iload X0.here hx rfl (hb hby d1_26) rfl ?_
        show Steps p.tables e below (s₁.setTop (mkF m 28 #[.val (.int p1), .val (.long q2), .second, .val (.int p3), .val (.int ((XT.ushr p1 ((2 : Int32) * p3)) &&& (3 : Int32)))] [(.int ((XT.ushr p1 ((2 : Int32) * p3)) &&& (3 : Int32)))])) t
        refine XS.iconst X0.here hx rfl (hb hby d1_28) ?_
        show Steps p.tables e below (s₁.setTop (mkF m 29 #[.val (.int p1), .val (.long q2), .second, .val (.int p3), .val (.int ((XT.ushr p1 ((2 : Int32) * p3)) &&& (3 : Int32)))] [(.int (2 : Int32)), (.int ((XT.ushr p1 ((2 : Int32) * p3)) &&& (3 : Int32)))])) t
        exact k)
      by_cases hc29_7 : ((XT.ushr p1 ((2 : Int32) * p3)) &&& (3 : Int32)) = (2 : Int32)
      · skip
        have pre9 : ∀ t, Steps p.tables e below (s₁.setTop (mkF m 34 #[.val (.int p1), .val (.long q2), .second, .val (.int p3), .val (.int ((XT.ushr p1 ((2 : Int32) * p3)) &&& (3 : Int32)))] [(.int (97 : Int32))])) t → Steps p.tables e below (s₁.setTop (entryFrame m #[(.int p1), (.long q2), (.int p3)] 5)) t := fun t k => pre8 t (by
          show Steps p.tables e below (s₁.setTop (mkF m 29 #[.val (.int p1), .val (.long q2), .second, .val (.int p3), .val (.int ((XT.ushr p1 ((2 : Int32) * p3)) &&& (3 : Int32)))] [(.int (2 : Int32)), (.int ((XT.ushr p1 ((2 : Int32) * p3)) &&& (3 : Int32)))])) t
          refine XS.icmpNo X0.here hx rfl (hb hby d1_29) rfl (XT.ii_ne_f hc29_7) ?_
          show Steps p.tables e below (s₁.setTop (mkF m 32 #[.val (.int p1), .val (.long q2), .second, .val (.int p3), .val (.int ((XT.ushr p1 ((2 : Int32) * p3)) &&& (3 : Int32)))] [])) t
          refine XS.bipush X0.here hx rfl (hb hby d1_32) ?_
          show Steps p.tables e below (s₁.setTop (mkF m 34 #[.val (.int p1), .val (.long q2), .second, .val (.int p3), .val (.int ((XT.ushr p1 ((2 : Int32) * p3)) &&& (3 : Int32)))] [(.int (97 : Int32))])) t
          exact k)
        obtain ⟨fs, hr, hrun, hended, hW, hsame⟩ := X0.leave (v := some (.int (nar .byte (97 : Int32)))) (fun h => by rw [Bd.returns] at h; cases h)
        refine ⟨_, _, pre9 _ ?_, hrun, hended, _, _, rfl, ?_, ⟨_, rfl⟩, hW, hsame.mono (by decide) (by decide)⟩
        · show Steps p.tables e below (s₁.setTop (mkF m 34 #[.val (.int p1), .val (.long q2), .second, .val (.int p3), .val (.int ((XT.ushr p1 ((2 : Int32) * p3)) &&& (3 : Int32)))] [(.int (97 : Int32))])) _
          exact retN X0 hx (t := .byte) Bd.returns (by simp) (hb hby d1_34) hr
        · show Q1 Z p1 q2 p3 h0 n0 _ s₁.heap _
          rw [eh0]
          exact ⟨(congrArg (fun z => some (Value.int z)) (show (nar .byte (97 : Int32)) = (own_pick p1 q2 p3) from (by simp only [own_pick, if_neg hc11_1, if_neg hc20_4, if_pos hc29_7]))), N0, rfl⟩
      · skip
        have pre10 : ∀ t, Steps p.tables e below (s₁.setTop (mkF m 43 #[.val (.int p1), .val (.long q2), .second, .val (.int p3), .val (.int ((XT.ushr p1 ((2 : Int32) * p3)) &&& (3 : Int32)))] [(.int (XT.ushrL q2 ((8 : Int32) * p3)).toInt32.toInt8.toInt32)])) t → Steps p.tables e below (s₁.setTop (entryFrame m #[(.int p1), (.long q2), (.int p3)] 5)) t := fun t k => pre8 t (by
          show Steps p.tables e below (s₁.setTop (mkF m 29 #[.val (.int p1), .val (.long q2), .second, .val (.int p3), .val (.int ((XT.ushr p1 ((2 : Int32) * p3)) &&& (3 : Int32)))] [(.int (2 : Int32)), (.int ((XT.ushr p1 ((2 : Int32) * p3)) &&& (3 : Int32)))])) t
          refine XS.icmpYes X0.here hx rfl (pc0 := 29) (pc' := 35) rfl (hb hby d1_29) rfl (XT.ii_ne_t hc29_7) (by decide) (by decide) ?_
          show Steps p.tables e below (s₁.setTop (mkF m 35 #[.val (.int p1), .val (.long q2), .second, .val (.int p3), .val (.int ((XT.ushr p1 ((2 : Int32) * p3)) &&& (3 : Int32)))] [])) t
          refine XT.lloadN X0.here hx rfl (hb hby d1_35) rfl ?_
          show Steps p.tables e below (s₁.setTop (mkF m 36 #[.val (.int p1), .val (.long q2), .second, .val (.int p3), .val (.int ((XT.ushr p1 ((2 : Int32) * p3)) &&& (3 : Int32)))] [(.long q2)])) t
          refine XS.bipush X0.here hx rfl (hb hby d1_36) ?_
          show Steps p.tables e below (s₁.setTop (mkF m 38 #[.val (.int p1), .val (.long q2), .second, .val (.int p3), .val (.int ((XT.ushr p1 ((2 : Int32) * p3)) &&& (3 : Int32)))] [(.int (8 : Int32)), (.long q2)])) t
          refine XS.iloadN X0.here hx rfl (hb hby d1_38) rfl ?_
          show Steps p.tables e below (s₁.setTop (mkF m 39 #[.val (.int p1), .val (.long q2), .second, .val (.int p3), .val (.int ((XT.ushr p1 ((2 : Int32) * p3)) &&& (3 : Int32)))] [(.int p3), (.int (8 : Int32)), (.long q2)])) t
          refine XS.imul X0.here hx rfl (hb hby d1_39) rfl ?_
          show Steps p.tables e below (s₁.setTop (mkF m 40 #[.val (.int p1), .val (.long q2), .second, .val (.int p3), .val (.int ((XT.ushr p1 ((2 : Int32) * p3)) &&& (3 : Int32)))] [(.int ((8 : Int32) * p3)), (.long q2)])) t
          refine XT.lushr X0.here hx rfl (hb hby d1_40) rfl ?_
          show Steps p.tables e below (s₁.setTop (mkF m 41 #[.val (.int p1), .val (.long q2), .second, .val (.int p3), .val (.int ((XT.ushr p1 ((2 : Int32) * p3)) &&& (3 : Int32)))] [(.long (XT.ushrL q2 ((8 : Int32) * p3)))])) t
          refine XT.l2i X0.here hx rfl (hb hby d1_41) rfl ?_
          show Steps p.tables e below (s₁.setTop (mkF m 42 #[.val (.int p1), .val (.long q2), .second, .val (.int p3), .val (.int ((XT.ushr p1 ((2 : Int32) * p3)) &&& (3 : Int32)))] [(.int (XT.ushrL q2 ((8 : Int32) * p3)).toInt32)])) t
          refine XT.i2b X0.here hx rfl (hb hby d1_42) rfl ?_
          show Steps p.tables e below (s₁.setTop (mkF m 43 #[.val (.int p1), .val (.long q2), .second, .val (.int p3), .val (.int ((XT.ushr p1 ((2 : Int32) * p3)) &&& (3 : Int32)))] [(.int (XT.ushrL q2 ((8 : Int32) * p3)).toInt32.toInt8.toInt32)])) t
          exact k)
        obtain ⟨fs, hr, hrun, hended, hW, hsame⟩ := X0.leave (v := some (.int (nar .byte (XT.ushrL q2 ((8 : Int32) * p3)).toInt32.toInt8.toInt32))) (fun h => by rw [Bd.returns] at h; cases h)
        refine ⟨_, _, pre10 _ ?_, hrun, hended, _, _, rfl, ?_, ⟨_, rfl⟩, hW, hsame.mono (by decide) (by decide)⟩
        · show Steps p.tables e below (s₁.setTop (mkF m 43 #[.val (.int p1), .val (.long q2), .second, .val (.int p3), .val (.int ((XT.ushr p1 ((2 : Int32) * p3)) &&& (3 : Int32)))] [(.int (XT.ushrL q2 ((8 : Int32) * p3)).toInt32.toInt8.toInt32)])) _
          exact retN X0 hx (t := .byte) Bd.returns (by simp) (hb hby d1_43) hr
        · show Q1 Z p1 q2 p3 h0 n0 _ s₁.heap _
          rw [eh0]
          exact ⟨(congrArg (fun z => some (Value.int z)) (show (nar .byte (XT.ushrL q2 ((8 : Int32) * p3)).toInt32.toInt8.toInt32) = (own_pick p1 q2 p3) from (by simp only [own_pick, if_neg hc11_1, if_neg hc20_4, if_neg hc29_7]))), N0, rfl⟩
theorem ef_2 (m : MethodId) (a1 : Addr) (p2 : Int32) (p3 : Int32) (p4 : Int32) : entryFrame m #[(.ref a1), (.int p2), (.int p3), (.int p4)] 4 = mkF m 0 #[.val (.ref a1), .val (.int p2), .val (.int p3), .val (.int p4)] [] := by first | (simp [entryFrame, mkF, argsToLocals, Value.category]; done) | rfl
theorem d2_0 : decode method_3_code 0 = .ok (.iload_n 3, 1) := by decide +kernel
theorem d2_1 : decode method_3_code 1 = .ok (.iload_n 1, 1) := by decide +kernel
theorem d2_2 : decode method_3_code 2 = .ok (.iconst 2, 1) := by decide +kernel
theorem d2_3 : decode method_3_code 3 = .ok (.iadd, 1) := by decide +kernel
theorem d2_4 : decode method_3_code 4 = .ok (.if_icmp .lt 8, 3) := by decide +kernel
theorem d2_12 : decode method_3_code 12 = .ok (.iconst 0, 1) := by decide +kernel
theorem d2_13 : decode method_3_code 13 = .ok (.ireturn, 1) := by decide +kernel
theorem d2_7 : decode method_3_code 7 = .ok (.iload_n 3, 1) := by decide +kernel
theorem d2_8 : decode method_3_code 8 = .ok (.iload_n 2, 1) := by decide +kernel
theorem d2_9 : decode method_3_code 9 = .ok (.if_icmp .le 5, 3) := by decide +kernel
theorem d2_14 : decode method_3_code 14 = .ok (.aload_n 0, 1) := by decide +kernel
theorem d2_15 : decode method_3_code 15 = .ok (.iload_n 3, 1) := by decide +kernel
theorem d2_16 : decode method_3_code 16 = .ok (.iconst 1, 1) := by decide +kernel
theorem d2_17 : decode method_3_code 17 = .ok (.isub, 1) := by decide +kernel
theorem d2_18 : decode method_3_code 18 = .ok (.baload, 1) := by decide +kernel
theorem d2_19 : decode method_3_code 19 = .ok (.bipush 10, 2) := by decide +kernel
theorem d2_21 : decode method_3_code 21 = .ok (.if_icmp .eq 5, 3) := by decide +kernel
theorem d2_26 : decode method_3_code 26 = .ok (.aload_n 0, 1) := by decide +kernel
theorem d2_27 : decode method_3_code 27 = .ok (.iload_n 3, 1) := by decide +kernel
theorem d2_28 : decode method_3_code 28 = .ok (.iconst 2, 1) := by decide +kernel
theorem d2_29 : decode method_3_code 29 = .ok (.isub, 1) := by decide +kernel
theorem d2_30 : decode method_3_code 30 = .ok (.baload, 1) := by decide +kernel
theorem d2_31 : decode method_3_code 31 = .ok (.bipush 10, 2) := by decide +kernel
theorem d2_33 : decode method_3_code 33 = .ok (.if_icmp .ne 5, 3) := by decide +kernel
theorem d2_36 : decode method_3_code 36 = .ok (.iconst 1, 1) := by decide +kernel
theorem d2_37 : decode method_3_code 37 = .ok (.ireturn, 1) := by decide +kernel
theorem d2_38 : decode method_3_code 38 = .ok (.iload_n 3, 1) := by decide +kernel
theorem d2_39 : decode method_3_code 39 = .ok (.iconst 3, 1) := by decide +kernel
theorem d2_40 : decode method_3_code 40 = .ok (.isub, 1) := by decide +kernel
theorem d2_41 : decode method_3_code 41 = .ok (.iload_n 1, 1) := by decide +kernel
theorem d2_42 : decode method_3_code 42 = .ok (.if_icmp .lt 27, 3) := by decide +kernel
theorem d2_69 : decode method_3_code 69 = .ok (.iconst 0, 1) := by decide +kernel
theorem d2_70 : decode method_3_code 70 = .ok (.ireturn, 1) := by decide +kernel
theorem d2_45 : decode method_3_code 45 = .ok (.aload_n 0, 1) := by decide +kernel
theorem d2_46 : decode method_3_code 46 = .ok (.iload_n 3, 1) := by decide +kernel
theorem d2_47 : decode method_3_code 47 = .ok (.iconst 2, 1) := by decide +kernel
theorem d2_48 : decode method_3_code 48 = .ok (.isub, 1) := by decide +kernel
theorem d2_49 : decode method_3_code 49 = .ok (.baload, 1) := by decide +kernel
theorem d2_50 : decode method_3_code 50 = .ok (.bipush 13, 2) := by decide +kernel
theorem d2_52 : decode method_3_code 52 = .ok (.if_icmp .ne 17, 3) := by decide +kernel
theorem d2_55 : decode method_3_code 55 = .ok (.aload_n 0, 1) := by decide +kernel
theorem d2_56 : decode method_3_code 56 = .ok (.iload_n 3, 1) := by decide +kernel
theorem d2_57 : decode method_3_code 57 = .ok (.iconst 3, 1) := by decide +kernel
theorem d2_58 : decode method_3_code 58 = .ok (.isub, 1) := by decide +kernel
theorem d2_59 : decode method_3_code 59 = .ok (.baload, 1) := by decide +kernel
theorem d2_60 : decode method_3_code 60 = .ok (.bipush 10, 2) := by decide +kernel
theorem d2_62 : decode method_3_code 62 = .ok (.if_icmp .ne 7, 3) := by decide +kernel
theorem d2_65 : decode method_3_code 65 = .ok (.iconst 1, 1) := by decide +kernel
theorem d2_66 : decode method_3_code 66 = .ok (.goto 4, 3) := by decide +kernel
theorem d2_24 : decode method_3_code 24 = .ok (.iconst 0, 1) := by decide +kernel
theorem d2_25 : decode method_3_code 25 = .ok (.ireturn, 1) := by decide +kernel
def Q2 (Z : State) (a1 : Addr) (p2 : Int32) (p3 : Int32) (p4 : Int32) (kk : ClassId) (e0 : Int32) (e1 : Int32) (e2 : Int32) (e3 : Int32) (e4 : Int32) (e5 : Int32) (h0 : Heap) (n0 : Nat) (v : Option Value) (h : Heap) (L : List Loc) : Prop := v = some (.int (own_ea e0 e1 e2 e3 e4 e5 p2 p3 p4)) ∧ Fr n0 L ∧ h = h0
set_option maxRecDepth 65536 in
set_option maxHeartbeats 40000000 in
theorem rm2 (l : Launch) (Z : State) (a0 : Array Value) (hw : ∀ d ∈ tables_1, d.before a0 Z = true) (ws : List Jvm.Cond) (a1 : Addr) (p2 : Int32) (p3 : Int32) (p4 : Int32) (kk : ClassId) (e0 : Int32) (e1 : Int32) (e2 : Int32) (e3 : Int32) (e4 : Int32) (e5 : Int32) (h0 : Heap) (n0 : Nat) (Z0 : n0 ≤ h0.size) (V_a1 : Arv Z h0 a1 kk .byte (6 : Int32) [(.int e0), (.int e1), (.int e2), (.int e3), (.int e4), (.int e5)] (.int (0 : Int32))) (hE : own_E p2 p3 p4) :
    MetFree l (⟨"com/example/pledgeway/pledgeway/http/HeadEndPinLaw", "endsAt", "([BIII)Z"⟩ : MethodName) (head1 (Jvm.Cond.code (⟨"com/example/pledgeway/pledgeway/http/HeadEndPinLaw", "endsAt", "([BIII)Z"⟩ : MethodName) method_3_code 4 (some .boolean) :: ws) ({ frames := 0, cells := 0, slots := 0, locals := 0 } : Room)) (fun a U => a = #[(.ref a1), (.int p2), (.int p3), (.int p4)] ∧ Z.Warmed39 U.vm ∧ U.heap = h0) (fun _ _ _ _ _ => True) (fun _ U o U' => ∃ v L, o = .returned v ∧ Q2 Z a1 p2 p3 p4 kk e0 e1 e2 e3 e4 e5 h0 n0 v U'.heap L ∧ FrameEnd U o U' L ({ frames := 0, cells := 0, slots := 0, locals := 0 } : Room).cells ({ frames := 0, cells := 0, slots := 0, locals := 0 } : Room).slots) := by
  refine MetFree.of_bodySF (plainFor_of_name pn_com_example_pledgeway_pledgeway_http_HeadEndPinLaw) hisR ?_
  intro p e s m args below meth c s₁ Bd hml0 hP hK
  obtain ⟨rfl, hZ, hh⟩ := hP
  have hx := Bd.exec
  have hby := Bd.bytes
  have hml : c.maxLocals = 4 := hml0
  have hown : s.vm.findClass "com/example/pledgeway/pledgeway/http/HeadEndPinLaw" = some m.cls := findClass_of_methodNamed Bd.named
  have hnm := (name_of_methodNamed Bd.named Bd.method).1
  have X0 : Stand p l e ({ frames := 0, cells := 0, slots := 0, locals := 0 } : Room) s m #[(.ref a1), (.int p2), (.int p3), (.int p4)] below meth c s₁ [] 0 0 := Stand.of_body Bd
  have eh0 : s₁.heap = h0 := by rw [← hh, Bd.state]; rfl
  have N0 := Fr.nil n0
  have pre0 : ∀ t, Steps p.tables e below (s₁.setTop (mkF m 0 #[.val (.ref a1), .val (.int p2), .val (.int p3), .val (.int p4)] [])) t → Steps p.tables e below (s₁.setTop (entryFrame m #[(.ref a1), (.int p2), (.int p3), (.int p4)] 4)) t := fun t k => castTop (ef_2 m a1 p2 p3 p4) k
  have pre2 : ∀ t, Steps p.tables e below (s₁.setTop (mkF m 4 #[.val (.ref a1), .val (.int p2), .val (.int p3), .val (.int p4)] [(.int (p2 + (2 : Int32))), (.int p4)])) t → Steps p.tables e below (s₁.setTop (entryFrame m #[(.ref a1), (.int p2), (.int p3), (.int p4)] 4)) t := fun t k => pre0 t (by
    show Steps p.tables e below (s₁.setTop (mkF m 0 #[.val (.ref a1), .val (.int p2), .val (.int p3), .val (.int p4)] [])) t
    refine XS.iloadN X0.here hx rfl (hb hby d2_0) rfl ?_
    show Steps p.tables e below (s₁.setTop (mkF m 1 #[.val (.ref a1), .val (.int p2), .val (.int p3), .val (.int p4)] [(.int p4)])) t
    refine XS.iloadN X0.here hx rfl (hb hby d2_1) rfl ?_
    show Steps p.tables e below (s₁.setTop (mkF m 2 #[.val (.ref a1), .val (.int p2), .val (.int p3), .val (.int p4)] [(.int p2), (.int p4)])) t
    refine XS.iconst X0.here hx rfl (hb hby d2_2) ?_
    show Steps p.tables e below (s₁.setTop (mkF m 3 #[.val (.ref a1), .val (.int p2), .val (.int p3), .val (.int p4)] [(.int (2 : Int32)), (.int p2), (.int p4)])) t
    refine XS.iadd X0.here hx rfl (hb hby d2_3) rfl ?_
    show Steps p.tables e below (s₁.setTop (mkF m 4 #[.val (.ref a1), .val (.int p2), .val (.int p3), .val (.int p4)] [(.int (p2 + (2 : Int32))), (.int p4)])) t
    exact k)
  by_cases hc4_1 : p4 < (p2 + (2 : Int32))
  · skip
    have pre3 : ∀ t, Steps p.tables e below (s₁.setTop (mkF m 13 #[.val (.ref a1), .val (.int p2), .val (.int p3), .val (.int p4)] [(.int (0 : Int32))])) t → Steps p.tables e below (s₁.setTop (entryFrame m #[(.ref a1), (.int p2), (.int p3), (.int p4)] 4)) t := fun t k => pre2 t (by
      show Steps p.tables e below (s₁.setTop (mkF m 4 #[.val (.ref a1), .val (.int p2), .val (.int p3), .val (.int p4)] [(.int (p2 + (2 : Int32))), (.int p4)])) t
      refine XS.icmpYes X0.here hx rfl (pc0 := 4) (pc' := 12) rfl (hb hby d2_4) rfl (XT.ii_lt_t hc4_1) (by decide) (by decide) ?_
      show Steps p.tables e below (s₁.setTop (mkF m 12 #[.val (.ref a1), .val (.int p2), .val (.int p3), .val (.int p4)] [])) t
      refine XS.iconst X0.here hx rfl (hb hby d2_12) ?_
      show Steps p.tables e below (s₁.setTop (mkF m 13 #[.val (.ref a1), .val (.int p2), .val (.int p3), .val (.int p4)] [(.int (0 : Int32))])) t
      exact k)
    obtain ⟨fs, hr, hrun, hended, hW, hsame⟩ := X0.leave (v := some (.int (0 : Int32))) (fun h => by rw [Bd.returns] at h; cases h)
    refine ⟨_, _, pre3 _ ?_, hrun, hended, _, _, rfl, ?_, ⟨_, rfl⟩, hW, hsame.mono (by decide) (by decide)⟩
    · show Steps p.tables e below (s₁.setTop (mkF m 13 #[.val (.ref a1), .val (.int p2), .val (.int p3), .val (.int p4)] [(.int (0 : Int32))])) _
      exact retN X0 hx (t := .boolean) Bd.returns (by simp) (hb hby d2_13) hr
    · show Q2 Z a1 p2 p3 p4 kk e0 e1 e2 e3 e4 e5 h0 n0 _ s₁.heap _
      rw [eh0]
      exact ⟨(congrArg (fun z => some (Value.int z)) (show (0 : Int32) = (own_ea e0 e1 e2 e3 e4 e5 p2 p3 p4) from (by simp only [own_ea, if_pos hc4_1]))), N0, rfl⟩
  · skip
    have pre5 : ∀ t, Steps p.tables e below (s₁.setTop (mkF m 9 #[.val (.ref a1), .val (.int p2), .val (.int p3), .val (.int p4)] [(.int p3), (.int p4)])) t → Steps p.tables e below (s₁.setTop (entryFrame m #[(.ref a1), (.int p2), (.int p3), (.int p4)] 4)) t := fun t k => pre2 t (by
      show Steps p.tables e below (s₁.setTop (mkF m 4 #[.val (.ref a1), .val (.int p2), .val (.int p3), .val (.int p4)] [(.int (p2 + (2 : Int32))), (.int p4)])) t
      refine XS.icmpNo X0.here hx rfl (hb hby d2_4) rfl (XT.ii_lt_f hc4_1) ?_
      show Steps p.tables e below (s₁.setTop (mkF m 7 #[.val (.ref a1), .val (.int p2), .val (.int p3), .val (.int p4)] [])) t
      refine XS.iloadN X0.here hx rfl (hb hby d2_7) rfl ?_
      show Steps p.tables e below (s₁.setTop (mkF m 8 #[.val (.ref a1), .val (.int p2), .val (.int p3), .val (.int p4)] [(.int p4)])) t
      refine XS.iloadN X0.here hx rfl (hb hby d2_8) rfl ?_
      show Steps p.tables e below (s₁.setTop (mkF m 9 #[.val (.ref a1), .val (.int p2), .val (.int p3), .val (.int p4)] [(.int p3), (.int p4)])) t
      exact k)
    by_cases hc9_4 : p3 < p4
    · skip
      have pre6 : ∀ t, Steps p.tables e below (s₁.setTop (mkF m 13 #[.val (.ref a1), .val (.int p2), .val (.int p3), .val (.int p4)] [(.int (0 : Int32))])) t → Steps p.tables e below (s₁.setTop (entryFrame m #[(.ref a1), (.int p2), (.int p3), (.int p4)] 4)) t := fun t k => pre5 t (by
        show Steps p.tables e below (s₁.setTop (mkF m 9 #[.val (.ref a1), .val (.int p2), .val (.int p3), .val (.int p4)] [(.int p3), (.int p4)])) t
        refine XS.icmpNo X0.here hx rfl (hb hby d2_9) rfl (XT.ii_le_f hc9_4) ?_
        show Steps p.tables e below (s₁.setTop (mkF m 12 #[.val (.ref a1), .val (.int p2), .val (.int p3), .val (.int p4)] [])) t
        refine XS.iconst X0.here hx rfl (hb hby d2_12) ?_
        show Steps p.tables e below (s₁.setTop (mkF m 13 #[.val (.ref a1), .val (.int p2), .val (.int p3), .val (.int p4)] [(.int (0 : Int32))])) t
        exact k)
      obtain ⟨fs, hr, hrun, hended, hW, hsame⟩ := X0.leave (v := some (.int (0 : Int32))) (fun h => by rw [Bd.returns] at h; cases h)
      refine ⟨_, _, pre6 _ ?_, hrun, hended, _, _, rfl, ?_, ⟨_, rfl⟩, hW, hsame.mono (by decide) (by decide)⟩
      · show Steps p.tables e below (s₁.setTop (mkF m 13 #[.val (.ref a1), .val (.int p2), .val (.int p3), .val (.int p4)] [(.int (0 : Int32))])) _
        exact retN X0 hx (t := .boolean) Bd.returns (by simp) (hb hby d2_13) hr
      · show Q2 Z a1 p2 p3 p4 kk e0 e1 e2 e3 e4 e5 h0 n0 _ s₁.heap _
        rw [eh0]
        exact ⟨(congrArg (fun z => some (Value.int z)) (show (0 : Int32) = (own_ea e0 e1 e2 e3 e4 e5 p2 p3 p4) from (by simp only [own_ea, if_neg hc4_1, if_pos hc9_4]))), N0, rfl⟩
    · skip
      have pre8 : ∀ t, Steps p.tables e below (s₁.setTop (mkF m 21 #[.val (.ref a1), .val (.int p2), .val (.int p3), .val (.int p4)] [(.int (10 : Int32)), (.int (own_at e0 e1 e2 e3 e4 e5 (p4 - (1 : Int32))))])) t → Steps p.tables e below (s₁.setTop (entryFrame m #[(.ref a1), (.int p2), (.int p3), (.int p4)] 4)) t := fun t k => pre5 t (by
        show Steps p.tables e below (s₁.setTop (mkF m 9 #[.val (.ref a1), .val (.int p2), .val (.int p3), .val (.int p4)] [(.int p3), (.int p4)])) t
        refine XS.icmpYes X0.here hx rfl (pc0 := 9) (pc' := 14) rfl (hb hby d2_9) rfl (XT.ii_le_t hc9_4) (by decide) (by decide) ?_
        show Steps p.tables e below (s₁.setTop (mkF m 14 #[.val (.ref a1), .val (.int p2), .val (.int p3), .val (.int p4)] [])) t
        refine XS.aloadN X0.here hx rfl (hb hby d2_14) rfl rfl ?_
        show Steps p.tables e below (s₁.setTop (mkF m 15 #[.val (.ref a1), .val (.int p2), .val (.int p3), .val (.int p4)] [(.ref a1)])) t
        refine XS.iloadN X0.here hx rfl (hb hby d2_15) rfl ?_
        show Steps p.tables e below (s₁.setTop (mkF m 16 #[.val (.ref a1), .val (.int p2), .val (.int p3), .val (.int p4)] [(.int p4), (.ref a1)])) t
        refine XS.iconst X0.here hx rfl (hb hby d2_16) ?_
        show Steps p.tables e below (s₁.setTop (mkF m 17 #[.val (.ref a1), .val (.int p2), .val (.int p3), .val (.int p4)] [(.int (1 : Int32)), (.int p4), (.ref a1)])) t
        refine XS.isub X0.here hx rfl (hb hby d2_17) rfl ?_
        show Steps p.tables e below (s₁.setTop (mkF m 18 #[.val (.ref a1), .val (.int p2), .val (.int p3), .val (.int p4)] [(.int (p4 - (1 : Int32))), (.ref a1)])) t
        refine own_baload X0 hx hZ eh0 V_a1 (j := (p4 - (1 : Int32))) (v := (.int (own_at e0 e1 e2 e3 e4 e5 (p4 - (1 : Int32))))) (own_k1 hE) (own_get e0 e1 e2 e3 e4 e5 (own_k1 hE)) (g := (mkF m 18 #[.val (.ref a1), .val (.int p2), .val (.int p3), .val (.int p4)] [(.int (p4 - (1 : Int32))), (.ref a1)])) rfl rfl (hb hby d2_18) _ ?_
        show Steps p.tables e below (s₁.setTop (mkF m 19 #[.val (.ref a1), .val (.int p2), .val (.int p3), .val (.int p4)] [(.int (own_at e0 e1 e2 e3 e4 e5 (p4 - (1 : Int32))))])) t
        refine XS.bipush X0.here hx rfl (hb hby d2_19) ?_
        show Steps p.tables e below (s₁.setTop (mkF m 21 #[.val (.ref a1), .val (.int p2), .val (.int p3), .val (.int p4)] [(.int (10 : Int32)), (.int (own_at e0 e1 e2 e3 e4 e5 (p4 - (1 : Int32))))])) t
        exact k)
      by_cases hc21_7 : (own_at e0 e1 e2 e3 e4 e5 (p4 - (1 : Int32))) = (10 : Int32)
      · skip
        have pre10 : ∀ t, Steps p.tables e below (s₁.setTop (mkF m 33 #[.val (.ref a1), .val (.int p2), .val (.int p3), .val (.int p4)] [(.int (10 : Int32)), (.int (own_at e0 e1 e2 e3 e4 e5 (p4 - (2 : Int32))))])) t → Steps p.tables e below (s₁.setTop (entryFrame m #[(.ref a1), (.int p2), (.int p3), (.int p4)] 4)) t := fun t k => pre8 t (by
          show Steps p.tables e below (s₁.setTop (mkF m 21 #[.val (.ref a1), .val (.int p2), .val (.int p3), .val (.int p4)] [(.int (10 : Int32)), (.int (own_at e0 e1 e2 e3 e4 e5 (p4 - (1 : Int32))))])) t
          refine XS.icmpYes X0.here hx rfl (pc0 := 21) (pc' := 26) rfl (hb hby d2_21) rfl (XT.ii_eq_t hc21_7) (by decide) (by decide) ?_
          show Steps p.tables e below (s₁.setTop (mkF m 26 #[.val (.ref a1), .val (.int p2), .val (.int p3), .val (.int p4)] [])) t
          refine XS.aloadN X0.here hx rfl (hb hby d2_26) rfl rfl ?_
          show Steps p.tables e below (s₁.setTop (mkF m 27 #[.val (.ref a1), .val (.int p2), .val (.int p3), .val (.int p4)] [(.ref a1)])) t
          refine XS.iloadN X0.here hx rfl (hb hby d2_27) rfl ?_
          show Steps p.tables e below (s₁.setTop (mkF m 28 #[.val (.ref a1), .val (.int p2), .val (.int p3), .val (.int p4)] [(.int p4), (.ref a1)])) t
          refine XS.iconst X0.here hx rfl (hb hby d2_28) ?_
          show Steps p.tables e below (s₁.setTop (mkF m 29 #[.val (.ref a1), .val (.int p2), .val (.int p3), .val (.int p4)] [(.int (2 : Int32)), (.int p4), (.ref a1)])) t
          refine XS.isub X0.here hx rfl (hb hby d2_29) rfl ?_
          show Steps p.tables e below (s₁.setTop (mkF m 30 #[.val (.ref a1), .val (.int p2), .val (.int p3), .val (.int p4)] [(.int (p4 - (2 : Int32))), (.ref a1)])) t
          refine own_baload X0 hx hZ eh0 V_a1 (j := (p4 - (2 : Int32))) (v := (.int (own_at e0 e1 e2 e3 e4 e5 (p4 - (2 : Int32))))) (own_k2 hE) (own_get e0 e1 e2 e3 e4 e5 (own_k2 hE)) (g := (mkF m 30 #[.val (.ref a1), .val (.int p2), .val (.int p3), .val (.int p4)] [(.int (p4 - (2 : Int32))), (.ref a1)])) rfl rfl (hb hby d2_30) _ ?_
          show Steps p.tables e below (s₁.setTop (mkF m 31 #[.val (.ref a1), .val (.int p2), .val (.int p3), .val (.int p4)] [(.int (own_at e0 e1 e2 e3 e4 e5 (p4 - (2 : Int32))))])) t
          refine XS.bipush X0.here hx rfl (hb hby d2_31) ?_
          show Steps p.tables e below (s₁.setTop (mkF m 33 #[.val (.ref a1), .val (.int p2), .val (.int p3), .val (.int p4)] [(.int (10 : Int32)), (.int (own_at e0 e1 e2 e3 e4 e5 (p4 - (2 : Int32))))])) t
          exact k)
        by_cases hc33_9 : (own_at e0 e1 e2 e3 e4 e5 (p4 - (2 : Int32))) = (10 : Int32)
        · skip
          have pre11 : ∀ t, Steps p.tables e below (s₁.setTop (mkF m 37 #[.val (.ref a1), .val (.int p2), .val (.int p3), .val (.int p4)] [(.int (1 : Int32))])) t → Steps p.tables e below (s₁.setTop (entryFrame m #[(.ref a1), (.int p2), (.int p3), (.int p4)] 4)) t := fun t k => pre10 t (by
            show Steps p.tables e below (s₁.setTop (mkF m 33 #[.val (.ref a1), .val (.int p2), .val (.int p3), .val (.int p4)] [(.int (10 : Int32)), (.int (own_at e0 e1 e2 e3 e4 e5 (p4 - (2 : Int32))))])) t
            refine XS.icmpNo X0.here hx rfl (hb hby d2_33) rfl (XT.ii_ne_f hc33_9) ?_
            show Steps p.tables e below (s₁.setTop (mkF m 36 #[.val (.ref a1), .val (.int p2), .val (.int p3), .val (.int p4)] [])) t
            refine XS.iconst X0.here hx rfl (hb hby d2_36) ?_
            show Steps p.tables e below (s₁.setTop (mkF m 37 #[.val (.ref a1), .val (.int p2), .val (.int p3), .val (.int p4)] [(.int (1 : Int32))])) t
            exact k)
          obtain ⟨fs, hr, hrun, hended, hW, hsame⟩ := X0.leave (v := some (.int (1 : Int32))) (fun h => by rw [Bd.returns] at h; cases h)
          refine ⟨_, _, pre11 _ ?_, hrun, hended, _, _, rfl, ?_, ⟨_, rfl⟩, hW, hsame.mono (by decide) (by decide)⟩
          · show Steps p.tables e below (s₁.setTop (mkF m 37 #[.val (.ref a1), .val (.int p2), .val (.int p3), .val (.int p4)] [(.int (1 : Int32))])) _
            exact retN X0 hx (t := .boolean) Bd.returns (by simp) (hb hby d2_37) hr
          · show Q2 Z a1 p2 p3 p4 kk e0 e1 e2 e3 e4 e5 h0 n0 _ s₁.heap _
            rw [eh0]
            exact ⟨(congrArg (fun z => some (Value.int z)) (show (1 : Int32) = (own_ea e0 e1 e2 e3 e4 e5 p2 p3 p4) from (by simp only [own_ea, if_neg hc4_1, if_neg hc9_4, if_pos hc21_7, if_pos hc33_9]))), N0, rfl⟩
        · skip
          have pre13 : ∀ t, Steps p.tables e below (s₁.setTop (mkF m 42 #[.val (.ref a1), .val (.int p2), .val (.int p3), .val (.int p4)] [(.int p2), (.int (p4 - (3 : Int32)))])) t → Steps p.tables e below (s₁.setTop (entryFrame m #[(.ref a1), (.int p2), (.int p3), (.int p4)] 4)) t := fun t k => pre10 t (by
            show Steps p.tables e below (s₁.setTop (mkF m 33 #[.val (.ref a1), .val (.int p2), .val (.int p3), .val (.int p4)] [(.int (10 : Int32)), (.int (own_at e0 e1 e2 e3 e4 e5 (p4 - (2 : Int32))))])) t
            refine XS.icmpYes X0.here hx rfl (pc0 := 33) (pc' := 38) rfl (hb hby d2_33) rfl (XT.ii_ne_t hc33_9) (by decide) (by decide) ?_
            show Steps p.tables e below (s₁.setTop (mkF m 38 #[.val (.ref a1), .val (.int p2), .val (.int p3), .val (.int p4)] [])) t
            refine XS.iloadN X0.here hx rfl (hb hby d2_38) rfl ?_
            show Steps p.tables e below (s₁.setTop (mkF m 39 #[.val (.ref a1), .val (.int p2), .val (.int p3), .val (.int p4)] [(.int p4)])) t
            refine XS.iconst X0.here hx rfl (hb hby d2_39) ?_
            show Steps p.tables e below (s₁.setTop (mkF m 40 #[.val (.ref a1), .val (.int p2), .val (.int p3), .val (.int p4)] [(.int (3 : Int32)), (.int p4)])) t
            refine XS.isub X0.here hx rfl (hb hby d2_40) rfl ?_
            show Steps p.tables e below (s₁.setTop (mkF m 41 #[.val (.ref a1), .val (.int p2), .val (.int p3), .val (.int p4)] [(.int (p4 - (3 : Int32)))])) t
            refine XS.iloadN X0.here hx rfl (hb hby d2_41) rfl ?_
            show Steps p.tables e below (s₁.setTop (mkF m 42 #[.val (.ref a1), .val (.int p2), .val (.int p3), .val (.int p4)] [(.int p2), (.int (p4 - (3 : Int32)))])) t
            exact k)
          by_cases hc42_12 : (p4 - (3 : Int32)) < p2
          · skip
            have pre14 : ∀ t, Steps p.tables e below (s₁.setTop (mkF m 70 #[.val (.ref a1), .val (.int p2), .val (.int p3), .val (.int p4)] [(.int (0 : Int32))])) t → Steps p.tables e below (s₁.setTop (entryFrame m #[(.ref a1), (.int p2), (.int p3), (.int p4)] 4)) t := fun t k => pre13 t (by
              show Steps p.tables e below (s₁.setTop (mkF m 42 #[.val (.ref a1), .val (.int p2), .val (.int p3), .val (.int p4)] [(.int p2), (.int (p4 - (3 : Int32)))])) t
              refine XS.icmpYes X0.here hx rfl (pc0 := 42) (pc' := 69) rfl (hb hby d2_42) rfl (XT.ii_lt_t hc42_12) (by decide) (by decide) ?_
              show Steps p.tables e below (s₁.setTop (mkF m 69 #[.val (.ref a1), .val (.int p2), .val (.int p3), .val (.int p4)] [])) t
              refine XS.iconst X0.here hx rfl (hb hby d2_69) ?_
              show Steps p.tables e below (s₁.setTop (mkF m 70 #[.val (.ref a1), .val (.int p2), .val (.int p3), .val (.int p4)] [(.int (0 : Int32))])) t
              exact k)
            obtain ⟨fs, hr, hrun, hended, hW, hsame⟩ := X0.leave (v := some (.int (0 : Int32))) (fun h => by rw [Bd.returns] at h; cases h)
            refine ⟨_, _, pre14 _ ?_, hrun, hended, _, _, rfl, ?_, ⟨_, rfl⟩, hW, hsame.mono (by decide) (by decide)⟩
            · show Steps p.tables e below (s₁.setTop (mkF m 70 #[.val (.ref a1), .val (.int p2), .val (.int p3), .val (.int p4)] [(.int (0 : Int32))])) _
              exact retN X0 hx (t := .boolean) Bd.returns (by simp) (hb hby d2_70) hr
            · show Q2 Z a1 p2 p3 p4 kk e0 e1 e2 e3 e4 e5 h0 n0 _ s₁.heap _
              rw [eh0]
              exact ⟨(congrArg (fun z => some (Value.int z)) (show (0 : Int32) = (own_ea e0 e1 e2 e3 e4 e5 p2 p3 p4) from (by simp only [own_ea, if_neg hc4_1, if_neg hc9_4, if_pos hc21_7, if_neg hc33_9, if_pos hc42_12]))), N0, rfl⟩
          · skip
            have pre16 : ∀ t, Steps p.tables e below (s₁.setTop (mkF m 52 #[.val (.ref a1), .val (.int p2), .val (.int p3), .val (.int p4)] [(.int (13 : Int32)), (.int (own_at e0 e1 e2 e3 e4 e5 (p4 - (2 : Int32))))])) t → Steps p.tables e below (s₁.setTop (entryFrame m #[(.ref a1), (.int p2), (.int p3), (.int p4)] 4)) t := fun t k => pre13 t (by
              show Steps p.tables e below (s₁.setTop (mkF m 42 #[.val (.ref a1), .val (.int p2), .val (.int p3), .val (.int p4)] [(.int p2), (.int (p4 - (3 : Int32)))])) t
              refine XS.icmpNo X0.here hx rfl (hb hby d2_42) rfl (XT.ii_lt_f hc42_12) ?_
              show Steps p.tables e below (s₁.setTop (mkF m 45 #[.val (.ref a1), .val (.int p2), .val (.int p3), .val (.int p4)] [])) t
              refine XS.aloadN X0.here hx rfl (hb hby d2_45) rfl rfl ?_
              show Steps p.tables e below (s₁.setTop (mkF m 46 #[.val (.ref a1), .val (.int p2), .val (.int p3), .val (.int p4)] [(.ref a1)])) t
              refine XS.iloadN X0.here hx rfl (hb hby d2_46) rfl ?_
              show Steps p.tables e below (s₁.setTop (mkF m 47 #[.val (.ref a1), .val (.int p2), .val (.int p3), .val (.int p4)] [(.int p4), (.ref a1)])) t
              refine XS.iconst X0.here hx rfl (hb hby d2_47) ?_
              show Steps p.tables e below (s₁.setTop (mkF m 48 #[.val (.ref a1), .val (.int p2), .val (.int p3), .val (.int p4)] [(.int (2 : Int32)), (.int p4), (.ref a1)])) t
              refine XS.isub X0.here hx rfl (hb hby d2_48) rfl ?_
              show Steps p.tables e below (s₁.setTop (mkF m 49 #[.val (.ref a1), .val (.int p2), .val (.int p3), .val (.int p4)] [(.int (p4 - (2 : Int32))), (.ref a1)])) t
              refine own_baload X0 hx hZ eh0 V_a1 (j := (p4 - (2 : Int32))) (v := (.int (own_at e0 e1 e2 e3 e4 e5 (p4 - (2 : Int32))))) (own_k2 hE) (own_get e0 e1 e2 e3 e4 e5 (own_k2 hE)) (g := (mkF m 49 #[.val (.ref a1), .val (.int p2), .val (.int p3), .val (.int p4)] [(.int (p4 - (2 : Int32))), (.ref a1)])) rfl rfl (hb hby d2_49) _ ?_
              show Steps p.tables e below (s₁.setTop (mkF m 50 #[.val (.ref a1), .val (.int p2), .val (.int p3), .val (.int p4)] [(.int (own_at e0 e1 e2 e3 e4 e5 (p4 - (2 : Int32))))])) t
              refine XS.bipush X0.here hx rfl (hb hby d2_50) ?_
              show Steps p.tables e below (s₁.setTop (mkF m 52 #[.val (.ref a1), .val (.int p2), .val (.int p3), .val (.int p4)] [(.int (13 : Int32)), (.int (own_at e0 e1 e2 e3 e4 e5 (p4 - (2 : Int32))))])) t
              exact k)
            by_cases hc52_15 : (own_at e0 e1 e2 e3 e4 e5 (p4 - (2 : Int32))) = (13 : Int32)
            · skip
              have pre18 : ∀ t, Steps p.tables e below (s₁.setTop (mkF m 62 #[.val (.ref a1), .val (.int p2), .val (.int p3), .val (.int p4)] [(.int (10 : Int32)), (.int (own_at e0 e1 e2 e3 e4 e5 (p4 - (3 : Int32))))])) t → Steps p.tables e below (s₁.setTop (entryFrame m #[(.ref a1), (.int p2), (.int p3), (.int p4)] 4)) t := fun t k => pre16 t (by
                show Steps p.tables e below (s₁.setTop (mkF m 52 #[.val (.ref a1), .val (.int p2), .val (.int p3), .val (.int p4)] [(.int (13 : Int32)), (.int (own_at e0 e1 e2 e3 e4 e5 (p4 - (2 : Int32))))])) t
                refine XS.icmpNo X0.here hx rfl (hb hby d2_52) rfl (XT.ii_ne_f hc52_15) ?_
                show Steps p.tables e below (s₁.setTop (mkF m 55 #[.val (.ref a1), .val (.int p2), .val (.int p3), .val (.int p4)] [])) t
                refine XS.aloadN X0.here hx rfl (hb hby d2_55) rfl rfl ?_
                show Steps p.tables e below (s₁.setTop (mkF m 56 #[.val (.ref a1), .val (.int p2), .val (.int p3), .val (.int p4)] [(.ref a1)])) t
                refine XS.iloadN X0.here hx rfl (hb hby d2_56) rfl ?_
                show Steps p.tables e below (s₁.setTop (mkF m 57 #[.val (.ref a1), .val (.int p2), .val (.int p3), .val (.int p4)] [(.int p4), (.ref a1)])) t
                refine XS.iconst X0.here hx rfl (hb hby d2_57) ?_
                show Steps p.tables e below (s₁.setTop (mkF m 58 #[.val (.ref a1), .val (.int p2), .val (.int p3), .val (.int p4)] [(.int (3 : Int32)), (.int p4), (.ref a1)])) t
                refine XS.isub X0.here hx rfl (hb hby d2_58) rfl ?_
                show Steps p.tables e below (s₁.setTop (mkF m 59 #[.val (.ref a1), .val (.int p2), .val (.int p3), .val (.int p4)] [(.int (p4 - (3 : Int32))), (.ref a1)])) t
                refine own_baload X0 hx hZ eh0 V_a1 (j := (p4 - (3 : Int32))) (v := (.int (own_at e0 e1 e2 e3 e4 e5 (p4 - (3 : Int32))))) (own_k3 hE (by assumption)) (own_get e0 e1 e2 e3 e4 e5 (own_k3 hE (by assumption))) (g := (mkF m 59 #[.val (.ref a1), .val (.int p2), .val (.int p3), .val (.int p4)] [(.int (p4 - (3 : Int32))), (.ref a1)])) rfl rfl (hb hby d2_59) _ ?_
                show Steps p.tables e below (s₁.setTop (mkF m 60 #[.val (.ref a1), .val (.int p2), .val (.int p3), .val (.int p4)] [(.int (own_at e0 e1 e2 e3 e4 e5 (p4 - (3 : Int32))))])) t
                refine XS.bipush X0.here hx rfl (hb hby d2_60) ?_
                show Steps p.tables e below (s₁.setTop (mkF m 62 #[.val (.ref a1), .val (.int p2), .val (.int p3), .val (.int p4)] [(.int (10 : Int32)), (.int (own_at e0 e1 e2 e3 e4 e5 (p4 - (3 : Int32))))])) t
                exact k)
              by_cases hc62_17 : (own_at e0 e1 e2 e3 e4 e5 (p4 - (3 : Int32))) = (10 : Int32)
              · skip
                have pre19 : ∀ t, Steps p.tables e below (s₁.setTop (mkF m 70 #[.val (.ref a1), .val (.int p2), .val (.int p3), .val (.int p4)] [(.int (1 : Int32))])) t → Steps p.tables e below (s₁.setTop (entryFrame m #[(.ref a1), (.int p2), (.int p3), (.int p4)] 4)) t := fun t k => pre18 t (by
                  show Steps p.tables e below (s₁.setTop (mkF m 62 #[.val (.ref a1), .val (.int p2), .val (.int p3), .val (.int p4)] [(.int (10 : Int32)), (.int (own_at e0 e1 e2 e3 e4 e5 (p4 - (3 : Int32))))])) t
                  refine XS.icmpNo X0.here hx rfl (hb hby d2_62) rfl (XT.ii_ne_f hc62_17) ?_
                  show Steps p.tables e below (s₁.setTop (mkF m 65 #[.val (.ref a1), .val (.int p2), .val (.int p3), .val (.int p4)] [])) t
                  refine XS.iconst X0.here hx rfl (hb hby d2_65) ?_
                  show Steps p.tables e below (s₁.setTop (mkF m 66 #[.val (.ref a1), .val (.int p2), .val (.int p3), .val (.int p4)] [(.int (1 : Int32))])) t
                  refine XS.goto X0.here hx rfl (pc0 := 66) (pc' := 70) rfl (hb hby d2_66) (by decide) (by decide) ?_
                  show Steps p.tables e below (s₁.setTop (mkF m 70 #[.val (.ref a1), .val (.int p2), .val (.int p3), .val (.int p4)] [(.int (1 : Int32))])) t
                  exact k)
                obtain ⟨fs, hr, hrun, hended, hW, hsame⟩ := X0.leave (v := some (.int (1 : Int32))) (fun h => by rw [Bd.returns] at h; cases h)
                refine ⟨_, _, pre19 _ ?_, hrun, hended, _, _, rfl, ?_, ⟨_, rfl⟩, hW, hsame.mono (by decide) (by decide)⟩
                · show Steps p.tables e below (s₁.setTop (mkF m 70 #[.val (.ref a1), .val (.int p2), .val (.int p3), .val (.int p4)] [(.int (1 : Int32))])) _
                  exact retN X0 hx (t := .boolean) Bd.returns (by simp) (hb hby d2_70) hr
                · show Q2 Z a1 p2 p3 p4 kk e0 e1 e2 e3 e4 e5 h0 n0 _ s₁.heap _
                  rw [eh0]
                  exact ⟨(congrArg (fun z => some (Value.int z)) (show (1 : Int32) = (own_ea e0 e1 e2 e3 e4 e5 p2 p3 p4) from (by simp only [own_ea, if_neg hc4_1, if_neg hc9_4, if_pos hc21_7, if_neg hc33_9, if_neg hc42_12, if_pos hc52_15, if_pos hc62_17]))), N0, rfl⟩
              · skip
                have pre20 : ∀ t, Steps p.tables e below (s₁.setTop (mkF m 70 #[.val (.ref a1), .val (.int p2), .val (.int p3), .val (.int p4)] [(.int (0 : Int32))])) t → Steps p.tables e below (s₁.setTop (entryFrame m #[(.ref a1), (.int p2), (.int p3), (.int p4)] 4)) t := fun t k => pre18 t (by
                  show Steps p.tables e below (s₁.setTop (mkF m 62 #[.val (.ref a1), .val (.int p2), .val (.int p3), .val (.int p4)] [(.int (10 : Int32)), (.int (own_at e0 e1 e2 e3 e4 e5 (p4 - (3 : Int32))))])) t
                  refine XS.icmpYes X0.here hx rfl (pc0 := 62) (pc' := 69) rfl (hb hby d2_62) rfl (XT.ii_ne_t hc62_17) (by decide) (by decide) ?_
                  show Steps p.tables e below (s₁.setTop (mkF m 69 #[.val (.ref a1), .val (.int p2), .val (.int p3), .val (.int p4)] [])) t
                  refine XS.iconst X0.here hx rfl (hb hby d2_69) ?_
                  show Steps p.tables e below (s₁.setTop (mkF m 70 #[.val (.ref a1), .val (.int p2), .val (.int p3), .val (.int p4)] [(.int (0 : Int32))])) t
                  exact k)
                obtain ⟨fs, hr, hrun, hended, hW, hsame⟩ := X0.leave (v := some (.int (0 : Int32))) (fun h => by rw [Bd.returns] at h; cases h)
                refine ⟨_, _, pre20 _ ?_, hrun, hended, _, _, rfl, ?_, ⟨_, rfl⟩, hW, hsame.mono (by decide) (by decide)⟩
                · show Steps p.tables e below (s₁.setTop (mkF m 70 #[.val (.ref a1), .val (.int p2), .val (.int p3), .val (.int p4)] [(.int (0 : Int32))])) _
                  exact retN X0 hx (t := .boolean) Bd.returns (by simp) (hb hby d2_70) hr
                · show Q2 Z a1 p2 p3 p4 kk e0 e1 e2 e3 e4 e5 h0 n0 _ s₁.heap _
                  rw [eh0]
                  exact ⟨(congrArg (fun z => some (Value.int z)) (show (0 : Int32) = (own_ea e0 e1 e2 e3 e4 e5 p2 p3 p4) from (by simp only [own_ea, if_neg hc4_1, if_neg hc9_4, if_pos hc21_7, if_neg hc33_9, if_neg hc42_12, if_pos hc52_15, if_neg hc62_17]))), N0, rfl⟩
            · skip
              have pre21 : ∀ t, Steps p.tables e below (s₁.setTop (mkF m 70 #[.val (.ref a1), .val (.int p2), .val (.int p3), .val (.int p4)] [(.int (0 : Int32))])) t → Steps p.tables e below (s₁.setTop (entryFrame m #[(.ref a1), (.int p2), (.int p3), (.int p4)] 4)) t := fun t k => pre16 t (by
                show Steps p.tables e below (s₁.setTop (mkF m 52 #[.val (.ref a1), .val (.int p2), .val (.int p3), .val (.int p4)] [(.int (13 : Int32)), (.int (own_at e0 e1 e2 e3 e4 e5 (p4 - (2 : Int32))))])) t
                refine XS.icmpYes X0.here hx rfl (pc0 := 52) (pc' := 69) rfl (hb hby d2_52) rfl (XT.ii_ne_t hc52_15) (by decide) (by decide) ?_
                show Steps p.tables e below (s₁.setTop (mkF m 69 #[.val (.ref a1), .val (.int p2), .val (.int p3), .val (.int p4)] [])) t
                refine XS.iconst X0.here hx rfl (hb hby d2_69) ?_
                show Steps p.tables e below (s₁.setTop (mkF m 70 #[.val (.ref a1), .val (.int p2), .val (.int p3), .val (.int p4)] [(.int (0 : Int32))])) t
                exact k)
              obtain ⟨fs, hr, hrun, hended, hW, hsame⟩ := X0.leave (v := some (.int (0 : Int32))) (fun h => by rw [Bd.returns] at h; cases h)
              refine ⟨_, _, pre21 _ ?_, hrun, hended, _, _, rfl, ?_, ⟨_, rfl⟩, hW, hsame.mono (by decide) (by decide)⟩
              · show Steps p.tables e below (s₁.setTop (mkF m 70 #[.val (.ref a1), .val (.int p2), .val (.int p3), .val (.int p4)] [(.int (0 : Int32))])) _
                exact retN X0 hx (t := .boolean) Bd.returns (by simp) (hb hby d2_70) hr
              · show Q2 Z a1 p2 p3 p4 kk e0 e1 e2 e3 e4 e5 h0 n0 _ s₁.heap _
                rw [eh0]
                exact ⟨(congrArg (fun z => some (Value.int z)) (show (0 : Int32) = (own_ea e0 e1 e2 e3 e4 e5 p2 p3 p4) from (by simp only [own_ea, if_neg hc4_1, if_neg hc9_4, if_pos hc21_7, if_neg hc33_9, if_neg hc42_12, if_neg hc52_15]))), N0, rfl⟩
      · skip
        have pre22 : ∀ t, Steps p.tables e below (s₁.setTop (mkF m 25 #[.val (.ref a1), .val (.int p2), .val (.int p3), .val (.int p4)] [(.int (0 : Int32))])) t → Steps p.tables e below (s₁.setTop (entryFrame m #[(.ref a1), (.int p2), (.int p3), (.int p4)] 4)) t := fun t k => pre8 t (by
          show Steps p.tables e below (s₁.setTop (mkF m 21 #[.val (.ref a1), .val (.int p2), .val (.int p3), .val (.int p4)] [(.int (10 : Int32)), (.int (own_at e0 e1 e2 e3 e4 e5 (p4 - (1 : Int32))))])) t
          refine XS.icmpNo X0.here hx rfl (hb hby d2_21) rfl (XT.ii_eq_f hc21_7) ?_
          show Steps p.tables e below (s₁.setTop (mkF m 24 #[.val (.ref a1), .val (.int p2), .val (.int p3), .val (.int p4)] [])) t
          refine XS.iconst X0.here hx rfl (hb hby d2_24) ?_
          show Steps p.tables e below (s₁.setTop (mkF m 25 #[.val (.ref a1), .val (.int p2), .val (.int p3), .val (.int p4)] [(.int (0 : Int32))])) t
          exact k)
        obtain ⟨fs, hr, hrun, hended, hW, hsame⟩ := X0.leave (v := some (.int (0 : Int32))) (fun h => by rw [Bd.returns] at h; cases h)
        refine ⟨_, _, pre22 _ ?_, hrun, hended, _, _, rfl, ?_, ⟨_, rfl⟩, hW, hsame.mono (by decide) (by decide)⟩
        · show Steps p.tables e below (s₁.setTop (mkF m 25 #[.val (.ref a1), .val (.int p2), .val (.int p3), .val (.int p4)] [(.int (0 : Int32))])) _
          exact retN X0 hx (t := .boolean) Bd.returns (by simp) (hb hby d2_25) hr
        · show Q2 Z a1 p2 p3 p4 kk e0 e1 e2 e3 e4 e5 h0 n0 _ s₁.heap _
          rw [eh0]
          exact ⟨(congrArg (fun z => some (Value.int z)) (show (0 : Int32) = (own_ea e0 e1 e2 e3 e4 e5 p2 p3 p4) from (by simp only [own_ea, if_neg hc4_1, if_neg hc9_4, if_neg hc21_7]))), N0, rfl⟩
theorem ef_3 (m : MethodId) (a1 : Addr) (p2 : Int32) (p3 : Int32) : entryFrame m #[(.ref a1), (.int p2), (.int p3)] 4 = mkF m 0 #[.val (.ref a1), .val (.int p2), .val (.int p3), .unset] [] := by first | (simp [entryFrame, mkF, argsToLocals, Value.category]; done) | rfl
theorem pn_com_example_pledgeway_pledgeway_http_Head : plainName "com/example/pledgeway/pledgeway/http/Head" = true := by first | (simp [plainName, overriddenIn]; done) | decide +kernel
theorem d3_0 : decode prog_25_method_2_code 0 = .ok (.iload_n 1, 1) := by decide +kernel
theorem d3_1 : decode prog_25_method_2_code 1 = .ok (.istore_n 3, 1) := by decide +kernel
theorem d3_2 : decode prog_25_method_2_code 2 = .ok (.iload_n 3, 1) := by decide +kernel
theorem d3_3 : decode prog_25_method_2_code 3 = .ok (.iload_n 2, 1) := by decide +kernel
theorem d3_4 : decode prog_25_method_2_code 4 = .ok (.iconst 1, 1) := by decide +kernel
theorem d3_5 : decode prog_25_method_2_code 5 = .ok (.isub, 1) := by decide +kernel
theorem d3_6 : decode prog_25_method_2_code 6 = .ok (.if_icmp .ge 65, 3) := by decide +kernel
theorem d3_71 : decode prog_25_method_2_code 71 = .ok (.iconst (-1), 1) := by decide +kernel
theorem d3_9 : decode prog_25_method_2_code 9 = .ok (.aload_n 0, 1) := by decide +kernel
theorem d3_10 : decode prog_25_method_2_code 10 = .ok (.iload_n 3, 1) := by decide +kernel
theorem d3_11 : decode prog_25_method_2_code 11 = .ok (.baload, 1) := by decide +kernel
theorem d3_12 : decode prog_25_method_2_code 12 = .ok (.bipush 10, 2) := by decide +kernel
theorem d3_14 : decode prog_25_method_2_code 14 = .ok (.if_icmp .eq 6, 3) := by decide +kernel
theorem d3_20 : decode prog_25_method_2_code 20 = .ok (.aload_n 0, 1) := by decide +kernel
theorem d3_21 : decode prog_25_method_2_code 21 = .ok (.iload_n 3, 1) := by decide +kernel
theorem d3_22 : decode prog_25_method_2_code 22 = .ok (.iconst 1, 1) := by decide +kernel
theorem d3_23 : decode prog_25_method_2_code 23 = .ok (.iadd, 1) := by decide +kernel
theorem d3_24 : decode prog_25_method_2_code 24 = .ok (.baload, 1) := by decide +kernel
theorem d3_25 : decode prog_25_method_2_code 25 = .ok (.bipush 10, 2) := by decide +kernel
theorem d3_27 : decode prog_25_method_2_code 27 = .ok (.if_icmp .ne 7, 3) := by decide +kernel
theorem d3_30 : decode prog_25_method_2_code 30 = .ok (.iload_n 3, 1) := by decide +kernel
theorem d3_31 : decode prog_25_method_2_code 31 = .ok (.iconst 2, 1) := by decide +kernel
theorem d3_32 : decode prog_25_method_2_code 32 = .ok (.iadd, 1) := by decide +kernel
theorem d3_34 : decode prog_25_method_2_code 34 = .ok (.aload_n 0, 1) := by decide +kernel
theorem d3_35 : decode prog_25_method_2_code 35 = .ok (.iload_n 3, 1) := by decide +kernel
theorem d3_36 : decode prog_25_method_2_code 36 = .ok (.iconst 1, 1) := by decide +kernel
theorem d3_37 : decode prog_25_method_2_code 37 = .ok (.iadd, 1) := by decide +kernel
theorem d3_38 : decode prog_25_method_2_code 38 = .ok (.baload, 1) := by decide +kernel
theorem d3_39 : decode prog_25_method_2_code 39 = .ok (.bipush 13, 2) := by decide +kernel
theorem d3_41 : decode prog_25_method_2_code 41 = .ok (.if_icmp .ne 24, 3) := by decide +kernel
theorem d3_44 : decode prog_25_method_2_code 44 = .ok (.iload_n 3, 1) := by decide +kernel
theorem d3_45 : decode prog_25_method_2_code 45 = .ok (.iconst 2, 1) := by decide +kernel
theorem d3_46 : decode prog_25_method_2_code 46 = .ok (.iadd, 1) := by decide +kernel
theorem d3_47 : decode prog_25_method_2_code 47 = .ok (.iload_n 2, 1) := by decide +kernel
theorem d3_48 : decode prog_25_method_2_code 48 = .ok (.if_icmp .ge 17, 3) := by decide +kernel
theorem d3_51 : decode prog_25_method_2_code 51 = .ok (.aload_n 0, 1) := by decide +kernel
theorem d3_52 : decode prog_25_method_2_code 52 = .ok (.iload_n 3, 1) := by decide +kernel
theorem d3_53 : decode prog_25_method_2_code 53 = .ok (.iconst 2, 1) := by decide +kernel
theorem d3_54 : decode prog_25_method_2_code 54 = .ok (.iadd, 1) := by decide +kernel
theorem d3_55 : decode prog_25_method_2_code 55 = .ok (.baload, 1) := by decide +kernel
theorem d3_56 : decode prog_25_method_2_code 56 = .ok (.bipush 10, 2) := by decide +kernel
theorem d3_58 : decode prog_25_method_2_code 58 = .ok (.if_icmp .ne 7, 3) := by decide +kernel
theorem d3_61 : decode prog_25_method_2_code 61 = .ok (.iload_n 3, 1) := by decide +kernel
theorem d3_62 : decode prog_25_method_2_code 62 = .ok (.iconst 3, 1) := by decide +kernel
theorem d3_63 : decode prog_25_method_2_code 63 = .ok (.iadd, 1) := by decide +kernel
theorem d3_65 : decode prog_25_method_2_code 65 = .ok (.iinc 3 1, 3) := by decide +kernel
theorem d3_68 : decode prog_25_method_2_code 68 = .ok (.goto (-66), 3) := by decide +kernel
theorem d3_17 : decode prog_25_method_2_code 17 = .ok (.goto 48, 3) := by decide +kernel
theorem d3_33 : decode prog_25_method_2_code 33 = .ok (.ireturn, 1) := by decide +kernel
theorem d3_64 : decode prog_25_method_2_code 64 = .ok (.ireturn, 1) := by decide +kernel
theorem d3_72 : decode prog_25_method_2_code 72 = .ok (.ireturn, 1) := by decide +kernel
def Q3 (Z : State) (a1 : Addr) (p2 : Int32) (p3 : Int32) (kk : ClassId) (e0 : Int32) (e1 : Int32) (e2 : Int32) (e3 : Int32) (e4 : Int32) (e5 : Int32) (h0 : Heap) (n0 : Nat) (v : Option Value) (h : Heap) (L : List Loc) : Prop := v = some (.int (own_end e0 e1 e2 e3 e4 e5 p3 6 p2)) ∧ Fr n0 L ∧ h = h0
set_option maxRecDepth 65536 in
set_option maxHeartbeats 40000000 in
theorem rm3 (l : Launch) (Z : State) (a0 : Array Value) (hw : ∀ d ∈ tables_1, d.before a0 Z = true) (ws : List Jvm.Cond) (a1 : Addr) (p2 : Int32) (p3 : Int32) (kk : ClassId) (e0 : Int32) (e1 : Int32) (e2 : Int32) (e3 : Int32) (e4 : Int32) (e5 : Int32) (h0 : Heap) (n0 : Nat) (Z0 : n0 ≤ h0.size) (V_a1 : Arv Z h0 a1 kk .byte (6 : Int32) [(.int e0), (.int e1), (.int e2), (.int e3), (.int e4), (.int e5)] (.int (0 : Int32))) (hI : own_I p3 6 p2) :
    MetFree l (⟨"com/example/pledgeway/pledgeway/http/Head", "end", "([BII)I"⟩ : MethodName) (head1 (Jvm.Cond.code (⟨"com/example/pledgeway/pledgeway/http/Head", "end", "([BII)I"⟩ : MethodName) prog_25_method_2_code 4 (some .int) :: ws) ({ frames := 0, cells := 0, slots := 0, locals := 0 } : Room)) (fun a U => a = #[(.ref a1), (.int p2), (.int p3)] ∧ Z.Warmed39 U.vm ∧ U.heap = h0) (fun _ _ _ _ _ => True) (fun _ U o U' => ∃ v L, o = .returned v ∧ Q3 Z a1 p2 p3 kk e0 e1 e2 e3 e4 e5 h0 n0 v U'.heap L ∧ FrameEnd U o U' L ({ frames := 0, cells := 0, slots := 0, locals := 0 } : Room).cells ({ frames := 0, cells := 0, slots := 0, locals := 0 } : Room).slots) := by
  refine MetFree.of_bodySF (plainFor_of_name pn_com_example_pledgeway_pledgeway_http_Head) hisR ?_
  intro p e s m args below meth c s₁ Bd hml0 hP hK
  obtain ⟨rfl, hZ, hh⟩ := hP
  have hx := Bd.exec
  have hby := Bd.bytes
  have hml : c.maxLocals = 4 := hml0
  have hown : s.vm.findClass "com/example/pledgeway/pledgeway/http/Head" = some m.cls := findClass_of_methodNamed Bd.named
  have hnm := (name_of_methodNamed Bd.named Bd.method).1
  have X0 : Stand p l e ({ frames := 0, cells := 0, slots := 0, locals := 0 } : Room) s m #[(.ref a1), (.int p2), (.int p3)] below meth c s₁ [] 0 0 := Stand.of_body Bd
  have eh0 : s₁.heap = h0 := by rw [← hh, Bd.state]; rfl
  have N0 := Fr.nil n0
  have pre0 : ∀ t, Steps p.tables e below (s₁.setTop (mkF m 0 #[.val (.ref a1), .val (.int p2), .val (.int p3), .unset] [])) t → Steps p.tables e below (s₁.setTop (entryFrame m #[(.ref a1), (.int p2), (.int p3)] 4)) t := fun t k => castTop (ef_3 m a1 p2 p3) k
  have pre1 : ∀ t, Steps p.tables e below (s₁.setTop (mkF m 2 #[.val (.ref a1), .val (.int p2), .val (.int p3), .val (.int p2)] [])) t → Steps p.tables e below (s₁.setTop (entryFrame m #[(.ref a1), (.int p2), (.int p3)] 4)) t := fun t k => pre0 t (by
    show Steps p.tables e below (s₁.setTop (mkF m 0 #[.val (.ref a1), .val (.int p2), .val (.int p3), .unset] [])) t
    refine XS.iloadN X0.here hx rfl (hb hby d3_0) rfl ?_
    show Steps p.tables e below (s₁.setTop (mkF m 1 #[.val (.ref a1), .val (.int p2), .val (.int p3), .unset] [(.int p2)])) t
    refine XS.istoreN X0.here hx rfl (hb hby d3_1) rfl (l' := #[.val (.ref a1), .val (.int p2), .val (.int p3), .val (.int p2)]) rfl ?_
    show Steps p.tables e below (s₁.setTop (mkF m 2 #[.val (.ref a1), .val (.int p2), .val (.int p3), .val (.int p2)] [])) t
    exact k)
  have loop : ∀ (k : Nat) (i : Int32), own_I p3 k i → ∃ (pcF : Nat) (j : Int32), (pcF = 33 ∨ pcF = 64 ∨ pcF = 72) ∧ ∀ t, Steps p.tables e below (s₁.setTop (mkF m pcF #[.val (.ref a1), .val (.int p2), .val (.int p3), .val (.int j)] [(.int (own_end e0 e1 e2 e3 e4 e5 p3 k i))])) t → Steps p.tables e below (s₁.setTop (mkF m 2 #[.val (.ref a1), .val (.int p2), .val (.int p3), .val (.int i)] [])) t := by
    intro k
    induction k with
    | zero =>
      intro i hi
      have preL : ∀ t, Steps p.tables e below (s₁.setTop (mkF m 2 #[.val (.ref a1), .val (.int p2), .val (.int p3), .val (.int i)] [])) t → Steps p.tables e below (s₁.setTop (mkF m 2 #[.val (.ref a1), .val (.int p2), .val (.int p3), .val (.int i)] [])) t := fun t k => k
      have pre3 : ∀ t, Steps p.tables e below (s₁.setTop (mkF m 72 #[.val (.ref a1), .val (.int p2), .val (.int p3), .val (.int i)] [(.int (-1 : Int32))])) t → Steps p.tables e below (s₁.setTop (mkF m 2 #[.val (.ref a1), .val (.int p2), .val (.int p3), .val (.int i)] [])) t := fun t k => preL t (by
        show Steps p.tables e below (s₁.setTop (mkF m 2 #[.val (.ref a1), .val (.int p2), .val (.int p3), .val (.int i)] [])) t
        refine XS.iloadN X0.here hx rfl (hb hby d3_2) rfl ?_
        show Steps p.tables e below (s₁.setTop (mkF m 3 #[.val (.ref a1), .val (.int p2), .val (.int p3), .val (.int i)] [(.int i)])) t
        refine XS.iloadN X0.here hx rfl (hb hby d3_3) rfl ?_
        show Steps p.tables e below (s₁.setTop (mkF m 4 #[.val (.ref a1), .val (.int p2), .val (.int p3), .val (.int i)] [(.int p3), (.int i)])) t
        refine XS.iconst X0.here hx rfl (hb hby d3_4) ?_
        show Steps p.tables e below (s₁.setTop (mkF m 5 #[.val (.ref a1), .val (.int p2), .val (.int p3), .val (.int i)] [(.int (1 : Int32)), (.int p3), (.int i)])) t
        refine XS.isub X0.here hx rfl (hb hby d3_5) rfl ?_
        show Steps p.tables e below (s₁.setTop (mkF m 6 #[.val (.ref a1), .val (.int p2), .val (.int p3), .val (.int i)] [(.int (p3 - (1 : Int32))), (.int i)])) t
        refine XS.icmpYes X0.here hx rfl (pc0 := 6) (pc' := 71) rfl (hb hby d3_6) rfl (XT.ii_ge_t (show ¬ (i < (p3 - (1 : Int32))) from own_out hi)) (by decide) (by decide) ?_
        show Steps p.tables e below (s₁.setTop (mkF m 71 #[.val (.ref a1), .val (.int p2), .val (.int p3), .val (.int i)] [])) t
        refine XS.iconst X0.here hx rfl (hb hby d3_71) ?_
        show Steps p.tables e below (s₁.setTop (mkF m 72 #[.val (.ref a1), .val (.int p2), .val (.int p3), .val (.int i)] [(.int (-1 : Int32))])) t
        exact k)
      exact ⟨72, i, Or.inr (Or.inr rfl), fun t q => pre3 t q⟩
    | succ k ih =>
      intro i hi
      have preL : ∀ t, Steps p.tables e below (s₁.setTop (mkF m 2 #[.val (.ref a1), .val (.int p2), .val (.int p3), .val (.int i)] [])) t → Steps p.tables e below (s₁.setTop (mkF m 2 #[.val (.ref a1), .val (.int p2), .val (.int p3), .val (.int i)] [])) t := fun t k => k
      have pre6 : ∀ t, Steps p.tables e below (s₁.setTop (mkF m 6 #[.val (.ref a1), .val (.int p2), .val (.int p3), .val (.int i)] [(.int (p3 - (1 : Int32))), (.int i)])) t → Steps p.tables e below (s₁.setTop (mkF m 2 #[.val (.ref a1), .val (.int p2), .val (.int p3), .val (.int i)] [])) t := fun t k => preL t (by
        show Steps p.tables e below (s₁.setTop (mkF m 2 #[.val (.ref a1), .val (.int p2), .val (.int p3), .val (.int i)] [])) t
        refine XS.iloadN X0.here hx rfl (hb hby d3_2) rfl ?_
        show Steps p.tables e below (s₁.setTop (mkF m 3 #[.val (.ref a1), .val (.int p2), .val (.int p3), .val (.int i)] [(.int i)])) t
        refine XS.iloadN X0.here hx rfl (hb hby d3_3) rfl ?_
        show Steps p.tables e below (s₁.setTop (mkF m 4 #[.val (.ref a1), .val (.int p2), .val (.int p3), .val (.int i)] [(.int p3), (.int i)])) t
        refine XS.iconst X0.here hx rfl (hb hby d3_4) ?_
        show Steps p.tables e below (s₁.setTop (mkF m 5 #[.val (.ref a1), .val (.int p2), .val (.int p3), .val (.int i)] [(.int (1 : Int32)), (.int p3), (.int i)])) t
        refine XS.isub X0.here hx rfl (hb hby d3_5) rfl ?_
        show Steps p.tables e below (s₁.setTop (mkF m 6 #[.val (.ref a1), .val (.int p2), .val (.int p3), .val (.int i)] [(.int (p3 - (1 : Int32))), (.int i)])) t
        exact k)
      by_cases hc6_5 : i < (p3 - (1 : Int32))
      · skip
        have pre8 : ∀ t, Steps p.tables e below (s₁.setTop (mkF m 14 #[.val (.ref a1), .val (.int p2), .val (.int p3), .val (.int i)] [(.int (10 : Int32)), (.int (own_at e0 e1 e2 e3 e4 e5 i))])) t → Steps p.tables e below (s₁.setTop (mkF m 2 #[.val (.ref a1), .val (.int p2), .val (.int p3), .val (.int i)] [])) t := fun t k => pre6 t (by
          show Steps p.tables e below (s₁.setTop (mkF m 6 #[.val (.ref a1), .val (.int p2), .val (.int p3), .val (.int i)] [(.int (p3 - (1 : Int32))), (.int i)])) t
          refine XS.icmpNo X0.here hx rfl (hb hby d3_6) rfl (XT.ii_ge_f hc6_5) ?_
          show Steps p.tables e below (s₁.setTop (mkF m 9 #[.val (.ref a1), .val (.int p2), .val (.int p3), .val (.int i)] [])) t
          refine XS.aloadN X0.here hx rfl (hb hby d3_9) rfl rfl ?_
          show Steps p.tables e below (s₁.setTop (mkF m 10 #[.val (.ref a1), .val (.int p2), .val (.int p3), .val (.int i)] [(.ref a1)])) t
          refine XS.iloadN X0.here hx rfl (hb hby d3_10) rfl ?_
          show Steps p.tables e below (s₁.setTop (mkF m 11 #[.val (.ref a1), .val (.int p2), .val (.int p3), .val (.int i)] [(.int i), (.ref a1)])) t
          refine own_baload X0 hx hZ eh0 V_a1 (j := i) (v := (.int (own_at e0 e1 e2 e3 e4 e5 i))) (own_b0 hi (by assumption)) (own_get e0 e1 e2 e3 e4 e5 (own_b0 hi (by assumption))) (g := (mkF m 11 #[.val (.ref a1), .val (.int p2), .val (.int p3), .val (.int i)] [(.int i), (.ref a1)])) rfl rfl (hb hby d3_11) _ ?_
          show Steps p.tables e below (s₁.setTop (mkF m 12 #[.val (.ref a1), .val (.int p2), .val (.int p3), .val (.int i)] [(.int (own_at e0 e1 e2 e3 e4 e5 i))])) t
          refine XS.bipush X0.here hx rfl (hb hby d3_12) ?_
          show Steps p.tables e below (s₁.setTop (mkF m 14 #[.val (.ref a1), .val (.int p2), .val (.int p3), .val (.int i)] [(.int (10 : Int32)), (.int (own_at e0 e1 e2 e3 e4 e5 i))])) t
          exact k)
        by_cases hc14_7 : (own_at e0 e1 e2 e3 e4 e5 i) = (10 : Int32)
        · skip
          have pre10 : ∀ t, Steps p.tables e below (s₁.setTop (mkF m 27 #[.val (.ref a1), .val (.int p2), .val (.int p3), .val (.int i)] [(.int (10 : Int32)), (.int (own_at e0 e1 e2 e3 e4 e5 (i + (1 : Int32))))])) t → Steps p.tables e below (s₁.setTop (mkF m 2 #[.val (.ref a1), .val (.int p2), .val (.int p3), .val (.int i)] [])) t := fun t k => pre8 t (by
            show Steps p.tables e below (s₁.setTop (mkF m 14 #[.val (.ref a1), .val (.int p2), .val (.int p3), .val (.int i)] [(.int (10 : Int32)), (.int (own_at e0 e1 e2 e3 e4 e5 i))])) t
            refine XS.icmpYes X0.here hx rfl (pc0 := 14) (pc' := 20) rfl (hb hby d3_14) rfl (XT.ii_eq_t hc14_7) (by decide) (by decide) ?_
            show Steps p.tables e below (s₁.setTop (mkF m 20 #[.val (.ref a1), .val (.int p2), .val (.int p3), .val (.int i)] [])) t
            refine XS.aloadN X0.here hx rfl (hb hby d3_20) rfl rfl ?_
            show Steps p.tables e below (s₁.setTop (mkF m 21 #[.val (.ref a1), .val (.int p2), .val (.int p3), .val (.int i)] [(.ref a1)])) t
            refine XS.iloadN X0.here hx rfl (hb hby d3_21) rfl ?_
            show Steps p.tables e below (s₁.setTop (mkF m 22 #[.val (.ref a1), .val (.int p2), .val (.int p3), .val (.int i)] [(.int i), (.ref a1)])) t
            refine XS.iconst X0.here hx rfl (hb hby d3_22) ?_
            show Steps p.tables e below (s₁.setTop (mkF m 23 #[.val (.ref a1), .val (.int p2), .val (.int p3), .val (.int i)] [(.int (1 : Int32)), (.int i), (.ref a1)])) t
            refine XS.iadd X0.here hx rfl (hb hby d3_23) rfl ?_
            show Steps p.tables e below (s₁.setTop (mkF m 24 #[.val (.ref a1), .val (.int p2), .val (.int p3), .val (.int i)] [(.int (i + (1 : Int32))), (.ref a1)])) t
            refine own_baload X0 hx hZ eh0 V_a1 (j := (i + (1 : Int32))) (v := (.int (own_at e0 e1 e2 e3 e4 e5 (i + (1 : Int32))))) (own_b1 hi (by assumption)) (own_get e0 e1 e2 e3 e4 e5 (own_b1 hi (by assumption))) (g := (mkF m 24 #[.val (.ref a1), .val (.int p2), .val (.int p3), .val (.int i)] [(.int (i + (1 : Int32))), (.ref a1)])) rfl rfl (hb hby d3_24) _ ?_
            show Steps p.tables e below (s₁.setTop (mkF m 25 #[.val (.ref a1), .val (.int p2), .val (.int p3), .val (.int i)] [(.int (own_at e0 e1 e2 e3 e4 e5 (i + (1 : Int32))))])) t
            refine XS.bipush X0.here hx rfl (hb hby d3_25) ?_
            show Steps p.tables e below (s₁.setTop (mkF m 27 #[.val (.ref a1), .val (.int p2), .val (.int p3), .val (.int i)] [(.int (10 : Int32)), (.int (own_at e0 e1 e2 e3 e4 e5 (i + (1 : Int32))))])) t
            exact k)
          by_cases hc27_9 : (own_at e0 e1 e2 e3 e4 e5 (i + (1 : Int32))) = (10 : Int32)
          · skip
            have pre11 : ∀ t, Steps p.tables e below (s₁.setTop (mkF m 33 #[.val (.ref a1), .val (.int p2), .val (.int p3), .val (.int i)] [(.int (i + (2 : Int32)))])) t → Steps p.tables e below (s₁.setTop (mkF m 2 #[.val (.ref a1), .val (.int p2), .val (.int p3), .val (.int i)] [])) t := fun t k => pre10 t (by
              show Steps p.tables e below (s₁.setTop (mkF m 27 #[.val (.ref a1), .val (.int p2), .val (.int p3), .val (.int i)] [(.int (10 : Int32)), (.int (own_at e0 e1 e2 e3 e4 e5 (i + (1 : Int32))))])) t
              refine XS.icmpNo X0.here hx rfl (hb hby d3_27) rfl (XT.ii_ne_f hc27_9) ?_
              show Steps p.tables e below (s₁.setTop (mkF m 30 #[.val (.ref a1), .val (.int p2), .val (.int p3), .val (.int i)] [])) t
              refine XS.iloadN X0.here hx rfl (hb hby d3_30) rfl ?_
              show Steps p.tables e below (s₁.setTop (mkF m 31 #[.val (.ref a1), .val (.int p2), .val (.int p3), .val (.int i)] [(.int i)])) t
              refine XS.iconst X0.here hx rfl (hb hby d3_31) ?_
              show Steps p.tables e below (s₁.setTop (mkF m 32 #[.val (.ref a1), .val (.int p2), .val (.int p3), .val (.int i)] [(.int (2 : Int32)), (.int i)])) t
              refine XS.iadd X0.here hx rfl (hb hby d3_32) rfl ?_
              show Steps p.tables e below (s₁.setTop (mkF m 33 #[.val (.ref a1), .val (.int p2), .val (.int p3), .val (.int i)] [(.int (i + (2 : Int32)))])) t
              exact k)
            have eq12 : (own_end e0 e1 e2 e3 e4 e5 p3 (k + 1) i) = (i + (2 : Int32)) := by rw [own_end_s]; simp only [if_pos hc6_5, if_pos hc14_7, if_pos hc27_9]
            exact ⟨33, i, Or.inl rfl, fun t q => pre11 t (by rw [eq12] at q; exact q)⟩
          · skip
            have pre14 : ∀ t, Steps p.tables e below (s₁.setTop (mkF m 41 #[.val (.ref a1), .val (.int p2), .val (.int p3), .val (.int i)] [(.int (13 : Int32)), (.int (own_at e0 e1 e2 e3 e4 e5 (i + (1 : Int32))))])) t → Steps p.tables e below (s₁.setTop (mkF m 2 #[.val (.ref a1), .val (.int p2), .val (.int p3), .val (.int i)] [])) t := fun t k => pre10 t (by
              show Steps p.tables e below (s₁.setTop (mkF m 27 #[.val (.ref a1), .val (.int p2), .val (.int p3), .val (.int i)] [(.int (10 : Int32)), (.int (own_at e0 e1 e2 e3 e4 e5 (i + (1 : Int32))))])) t
              refine XS.icmpYes X0.here hx rfl (pc0 := 27) (pc' := 34) rfl (hb hby d3_27) rfl (XT.ii_ne_t hc27_9) (by decide) (by decide) ?_
              show Steps p.tables e below (s₁.setTop (mkF m 34 #[.val (.ref a1), .val (.int p2), .val (.int p3), .val (.int i)] [])) t
              refine XS.aloadN X0.here hx rfl (hb hby d3_34) rfl rfl ?_
              show Steps p.tables e below (s₁.setTop (mkF m 35 #[.val (.ref a1), .val (.int p2), .val (.int p3), .val (.int i)] [(.ref a1)])) t
              refine XS.iloadN X0.here hx rfl (hb hby d3_35) rfl ?_
              show Steps p.tables e below (s₁.setTop (mkF m 36 #[.val (.ref a1), .val (.int p2), .val (.int p3), .val (.int i)] [(.int i), (.ref a1)])) t
              refine XS.iconst X0.here hx rfl (hb hby d3_36) ?_
              show Steps p.tables e below (s₁.setTop (mkF m 37 #[.val (.ref a1), .val (.int p2), .val (.int p3), .val (.int i)] [(.int (1 : Int32)), (.int i), (.ref a1)])) t
              refine XS.iadd X0.here hx rfl (hb hby d3_37) rfl ?_
              show Steps p.tables e below (s₁.setTop (mkF m 38 #[.val (.ref a1), .val (.int p2), .val (.int p3), .val (.int i)] [(.int (i + (1 : Int32))), (.ref a1)])) t
              refine own_baload X0 hx hZ eh0 V_a1 (j := (i + (1 : Int32))) (v := (.int (own_at e0 e1 e2 e3 e4 e5 (i + (1 : Int32))))) (own_b1 hi (by assumption)) (own_get e0 e1 e2 e3 e4 e5 (own_b1 hi (by assumption))) (g := (mkF m 38 #[.val (.ref a1), .val (.int p2), .val (.int p3), .val (.int i)] [(.int (i + (1 : Int32))), (.ref a1)])) rfl rfl (hb hby d3_38) _ ?_
              show Steps p.tables e below (s₁.setTop (mkF m 39 #[.val (.ref a1), .val (.int p2), .val (.int p3), .val (.int i)] [(.int (own_at e0 e1 e2 e3 e4 e5 (i + (1 : Int32))))])) t
              refine XS.bipush X0.here hx rfl (hb hby d3_39) ?_
              show Steps p.tables e below (s₁.setTop (mkF m 41 #[.val (.ref a1), .val (.int p2), .val (.int p3), .val (.int i)] [(.int (13 : Int32)), (.int (own_at e0 e1 e2 e3 e4 e5 (i + (1 : Int32))))])) t
              exact k)
            by_cases hc41_13 : (own_at e0 e1 e2 e3 e4 e5 (i + (1 : Int32))) = (13 : Int32)
            · skip
              have pre16 : ∀ t, Steps p.tables e below (s₁.setTop (mkF m 48 #[.val (.ref a1), .val (.int p2), .val (.int p3), .val (.int i)] [(.int p3), (.int (i + (2 : Int32)))])) t → Steps p.tables e below (s₁.setTop (mkF m 2 #[.val (.ref a1), .val (.int p2), .val (.int p3), .val (.int i)] [])) t := fun t k => pre14 t (by
                show Steps p.tables e below (s₁.setTop (mkF m 41 #[.val (.ref a1), .val (.int p2), .val (.int p3), .val (.int i)] [(.int (13 : Int32)), (.int (own_at e0 e1 e2 e3 e4 e5 (i + (1 : Int32))))])) t
                refine XS.icmpNo X0.here hx rfl (hb hby d3_41) rfl (XT.ii_ne_f hc41_13) ?_
                show Steps p.tables e below (s₁.setTop (mkF m 44 #[.val (.ref a1), .val (.int p2), .val (.int p3), .val (.int i)] [])) t
                refine XS.iloadN X0.here hx rfl (hb hby d3_44) rfl ?_
                show Steps p.tables e below (s₁.setTop (mkF m 45 #[.val (.ref a1), .val (.int p2), .val (.int p3), .val (.int i)] [(.int i)])) t
                refine XS.iconst X0.here hx rfl (hb hby d3_45) ?_
                show Steps p.tables e below (s₁.setTop (mkF m 46 #[.val (.ref a1), .val (.int p2), .val (.int p3), .val (.int i)] [(.int (2 : Int32)), (.int i)])) t
                refine XS.iadd X0.here hx rfl (hb hby d3_46) rfl ?_
                show Steps p.tables e below (s₁.setTop (mkF m 47 #[.val (.ref a1), .val (.int p2), .val (.int p3), .val (.int i)] [(.int (i + (2 : Int32)))])) t
                refine XS.iloadN X0.here hx rfl (hb hby d3_47) rfl ?_
                show Steps p.tables e below (s₁.setTop (mkF m 48 #[.val (.ref a1), .val (.int p2), .val (.int p3), .val (.int i)] [(.int p3), (.int (i + (2 : Int32)))])) t
                exact k)
              by_cases hc48_15 : (i + (2 : Int32)) < p3
              · skip
                have pre18 : ∀ t, Steps p.tables e below (s₁.setTop (mkF m 58 #[.val (.ref a1), .val (.int p2), .val (.int p3), .val (.int i)] [(.int (10 : Int32)), (.int (own_at e0 e1 e2 e3 e4 e5 (i + (2 : Int32))))])) t → Steps p.tables e below (s₁.setTop (mkF m 2 #[.val (.ref a1), .val (.int p2), .val (.int p3), .val (.int i)] [])) t := fun t k => pre16 t (by
                  show Steps p.tables e below (s₁.setTop (mkF m 48 #[.val (.ref a1), .val (.int p2), .val (.int p3), .val (.int i)] [(.int p3), (.int (i + (2 : Int32)))])) t
                  refine XS.icmpNo X0.here hx rfl (hb hby d3_48) rfl (XT.ii_ge_f hc48_15) ?_
                  show Steps p.tables e below (s₁.setTop (mkF m 51 #[.val (.ref a1), .val (.int p2), .val (.int p3), .val (.int i)] [])) t
                  refine XS.aloadN X0.here hx rfl (hb hby d3_51) rfl rfl ?_
                  show Steps p.tables e below (s₁.setTop (mkF m 52 #[.val (.ref a1), .val (.int p2), .val (.int p3), .val (.int i)] [(.ref a1)])) t
                  refine XS.iloadN X0.here hx rfl (hb hby d3_52) rfl ?_
                  show Steps p.tables e below (s₁.setTop (mkF m 53 #[.val (.ref a1), .val (.int p2), .val (.int p3), .val (.int i)] [(.int i), (.ref a1)])) t
                  refine XS.iconst X0.here hx rfl (hb hby d3_53) ?_
                  show Steps p.tables e below (s₁.setTop (mkF m 54 #[.val (.ref a1), .val (.int p2), .val (.int p3), .val (.int i)] [(.int (2 : Int32)), (.int i), (.ref a1)])) t
                  refine XS.iadd X0.here hx rfl (hb hby d3_54) rfl ?_
                  show Steps p.tables e below (s₁.setTop (mkF m 55 #[.val (.ref a1), .val (.int p2), .val (.int p3), .val (.int i)] [(.int (i + (2 : Int32))), (.ref a1)])) t
                  refine own_baload X0 hx hZ eh0 V_a1 (j := (i + (2 : Int32))) (v := (.int (own_at e0 e1 e2 e3 e4 e5 (i + (2 : Int32))))) (own_b2 hi (by assumption)) (own_get e0 e1 e2 e3 e4 e5 (own_b2 hi (by assumption))) (g := (mkF m 55 #[.val (.ref a1), .val (.int p2), .val (.int p3), .val (.int i)] [(.int (i + (2 : Int32))), (.ref a1)])) rfl rfl (hb hby d3_55) _ ?_
                  show Steps p.tables e below (s₁.setTop (mkF m 56 #[.val (.ref a1), .val (.int p2), .val (.int p3), .val (.int i)] [(.int (own_at e0 e1 e2 e3 e4 e5 (i + (2 : Int32))))])) t
                  refine XS.bipush X0.here hx rfl (hb hby d3_56) ?_
                  show Steps p.tables e below (s₁.setTop (mkF m 58 #[.val (.ref a1), .val (.int p2), .val (.int p3), .val (.int i)] [(.int (10 : Int32)), (.int (own_at e0 e1 e2 e3 e4 e5 (i + (2 : Int32))))])) t
                  exact k)
                by_cases hc58_17 : (own_at e0 e1 e2 e3 e4 e5 (i + (2 : Int32))) = (10 : Int32)
                · skip
                  have pre19 : ∀ t, Steps p.tables e below (s₁.setTop (mkF m 64 #[.val (.ref a1), .val (.int p2), .val (.int p3), .val (.int i)] [(.int (i + (3 : Int32)))])) t → Steps p.tables e below (s₁.setTop (mkF m 2 #[.val (.ref a1), .val (.int p2), .val (.int p3), .val (.int i)] [])) t := fun t k => pre18 t (by
                    show Steps p.tables e below (s₁.setTop (mkF m 58 #[.val (.ref a1), .val (.int p2), .val (.int p3), .val (.int i)] [(.int (10 : Int32)), (.int (own_at e0 e1 e2 e3 e4 e5 (i + (2 : Int32))))])) t
                    refine XS.icmpNo X0.here hx rfl (hb hby d3_58) rfl (XT.ii_ne_f hc58_17) ?_
                    show Steps p.tables e below (s₁.setTop (mkF m 61 #[.val (.ref a1), .val (.int p2), .val (.int p3), .val (.int i)] [])) t
                    refine XS.iloadN X0.here hx rfl (hb hby d3_61) rfl ?_
                    show Steps p.tables e below (s₁.setTop (mkF m 62 #[.val (.ref a1), .val (.int p2), .val (.int p3), .val (.int i)] [(.int i)])) t
                    refine XS.iconst X0.here hx rfl (hb hby d3_62) ?_
                    show Steps p.tables e below (s₁.setTop (mkF m 63 #[.val (.ref a1), .val (.int p2), .val (.int p3), .val (.int i)] [(.int (3 : Int32)), (.int i)])) t
                    refine XS.iadd X0.here hx rfl (hb hby d3_63) rfl ?_
                    show Steps p.tables e below (s₁.setTop (mkF m 64 #[.val (.ref a1), .val (.int p2), .val (.int p3), .val (.int i)] [(.int (i + (3 : Int32)))])) t
                    exact k)
                  have eq20 : (own_end e0 e1 e2 e3 e4 e5 p3 (k + 1) i) = (i + (3 : Int32)) := by rw [own_end_s]; simp only [if_pos hc6_5, if_pos hc14_7, if_neg hc27_9, if_pos hc41_13, if_pos hc48_15, if_pos hc58_17]
                  exact ⟨64, i, Or.inr (Or.inl rfl), fun t q => pre19 t (by rw [eq20] at q; exact q)⟩
                · skip
                  have pre21 : ∀ t, Steps p.tables e below (s₁.setTop (mkF m 2 #[.val (.ref a1), .val (.int p2), .val (.int p3), .val (.int (i + (1 : Int32)))] [])) t → Steps p.tables e below (s₁.setTop (mkF m 2 #[.val (.ref a1), .val (.int p2), .val (.int p3), .val (.int i)] [])) t := fun t k => pre18 t (by
                    show Steps p.tables e below (s₁.setTop (mkF m 58 #[.val (.ref a1), .val (.int p2), .val (.int p3), .val (.int i)] [(.int (10 : Int32)), (.int (own_at e0 e1 e2 e3 e4 e5 (i + (2 : Int32))))])) t
                    refine XS.icmpYes X0.here hx rfl (pc0 := 58) (pc' := 65) rfl (hb hby d3_58) rfl (XT.ii_ne_t hc58_17) (by decide) (by decide) ?_
                    show Steps p.tables e below (s₁.setTop (mkF m 65 #[.val (.ref a1), .val (.int p2), .val (.int p3), .val (.int i)] [])) t
                    refine XS.iinc X0.here hx rfl (hb hby d3_65) rfl (l' := #[.val (.ref a1), .val (.int p2), .val (.int p3), .val (.int (i + (1 : Int32)))]) rfl ?_
                    show Steps p.tables e below (s₁.setTop (mkF m 68 #[.val (.ref a1), .val (.int p2), .val (.int p3), .val (.int (i + (1 : Int32)))] [])) t
                    refine XS.goto X0.here hx rfl (pc0 := 68) (pc' := 2) rfl (hb hby d3_68) (by decide) (by decide) ?_
                    show Steps p.tables e below (s₁.setTop (mkF m 2 #[.val (.ref a1), .val (.int p2), .val (.int p3), .val (.int (i + (1 : Int32)))] [])) t
                    exact k)
                  obtain ⟨pcF, j, hp, st22⟩ := ih (i + (1 : Int32)) (own_step hi (by assumption))
                  have eq22 : (own_end e0 e1 e2 e3 e4 e5 p3 (k + 1) i) = (own_end e0 e1 e2 e3 e4 e5 p3 k (i + (1 : Int32))) := by rw [own_end_s]; simp only [if_pos hc6_5, if_pos hc14_7, if_neg hc27_9, if_pos hc41_13, if_pos hc48_15, if_neg hc58_17]
                  exact ⟨pcF, j, hp, fun t q => pre21 t (st22 t (by rw [eq22] at q; exact q))⟩
              · skip
                have pre23 : ∀ t, Steps p.tables e below (s₁.setTop (mkF m 2 #[.val (.ref a1), .val (.int p2), .val (.int p3), .val (.int (i + (1 : Int32)))] [])) t → Steps p.tables e below (s₁.setTop (mkF m 2 #[.val (.ref a1), .val (.int p2), .val (.int p3), .val (.int i)] [])) t := fun t k => pre16 t (by
                  show Steps p.tables e below (s₁.setTop (mkF m 48 #[.val (.ref a1), .val (.int p2), .val (.int p3), .val (.int i)] [(.int p3), (.int (i + (2 : Int32)))])) t
                  refine XS.icmpYes X0.here hx rfl (pc0 := 48) (pc' := 65) rfl (hb hby d3_48) rfl (XT.ii_ge_t hc48_15) (by decide) (by decide) ?_
                  show Steps p.tables e below (s₁.setTop (mkF m 65 #[.val (.ref a1), .val (.int p2), .val (.int p3), .val (.int i)] [])) t
                  refine XS.iinc X0.here hx rfl (hb hby d3_65) rfl (l' := #[.val (.ref a1), .val (.int p2), .val (.int p3), .val (.int (i + (1 : Int32)))]) rfl ?_
                  show Steps p.tables e below (s₁.setTop (mkF m 68 #[.val (.ref a1), .val (.int p2), .val (.int p3), .val (.int (i + (1 : Int32)))] [])) t
                  refine XS.goto X0.here hx rfl (pc0 := 68) (pc' := 2) rfl (hb hby d3_68) (by decide) (by decide) ?_
                  show Steps p.tables e below (s₁.setTop (mkF m 2 #[.val (.ref a1), .val (.int p2), .val (.int p3), .val (.int (i + (1 : Int32)))] [])) t
                  exact k)
                obtain ⟨pcF, j, hp, st24⟩ := ih (i + (1 : Int32)) (own_step hi (by assumption))
                have eq24 : (own_end e0 e1 e2 e3 e4 e5 p3 (k + 1) i) = (own_end e0 e1 e2 e3 e4 e5 p3 k (i + (1 : Int32))) := by rw [own_end_s]; simp only [if_pos hc6_5, if_pos hc14_7, if_neg hc27_9, if_pos hc41_13, if_neg hc48_15]
                exact ⟨pcF, j, hp, fun t q => pre23 t (st24 t (by rw [eq24] at q; exact q))⟩
            · skip
              have pre25 : ∀ t, Steps p.tables e below (s₁.setTop (mkF m 2 #[.val (.ref a1), .val (.int p2), .val (.int p3), .val (.int (i + (1 : Int32)))] [])) t → Steps p.tables e below (s₁.setTop (mkF m 2 #[.val (.ref a1), .val (.int p2), .val (.int p3), .val (.int i)] [])) t := fun t k => pre14 t (by
                show Steps p.tables e below (s₁.setTop (mkF m 41 #[.val (.ref a1), .val (.int p2), .val (.int p3), .val (.int i)] [(.int (13 : Int32)), (.int (own_at e0 e1 e2 e3 e4 e5 (i + (1 : Int32))))])) t
                refine XS.icmpYes X0.here hx rfl (pc0 := 41) (pc' := 65) rfl (hb hby d3_41) rfl (XT.ii_ne_t hc41_13) (by decide) (by decide) ?_
                show Steps p.tables e below (s₁.setTop (mkF m 65 #[.val (.ref a1), .val (.int p2), .val (.int p3), .val (.int i)] [])) t
                refine XS.iinc X0.here hx rfl (hb hby d3_65) rfl (l' := #[.val (.ref a1), .val (.int p2), .val (.int p3), .val (.int (i + (1 : Int32)))]) rfl ?_
                show Steps p.tables e below (s₁.setTop (mkF m 68 #[.val (.ref a1), .val (.int p2), .val (.int p3), .val (.int (i + (1 : Int32)))] [])) t
                refine XS.goto X0.here hx rfl (pc0 := 68) (pc' := 2) rfl (hb hby d3_68) (by decide) (by decide) ?_
                show Steps p.tables e below (s₁.setTop (mkF m 2 #[.val (.ref a1), .val (.int p2), .val (.int p3), .val (.int (i + (1 : Int32)))] [])) t
                exact k)
              obtain ⟨pcF, j, hp, st26⟩ := ih (i + (1 : Int32)) (own_step hi (by assumption))
              have eq26 : (own_end e0 e1 e2 e3 e4 e5 p3 (k + 1) i) = (own_end e0 e1 e2 e3 e4 e5 p3 k (i + (1 : Int32))) := by rw [own_end_s]; simp only [if_pos hc6_5, if_pos hc14_7, if_neg hc27_9, if_neg hc41_13]
              exact ⟨pcF, j, hp, fun t q => pre25 t (st26 t (by rw [eq26] at q; exact q))⟩
        · skip
          have pre27 : ∀ t, Steps p.tables e below (s₁.setTop (mkF m 2 #[.val (.ref a1), .val (.int p2), .val (.int p3), .val (.int (i + (1 : Int32)))] [])) t → Steps p.tables e below (s₁.setTop (mkF m 2 #[.val (.ref a1), .val (.int p2), .val (.int p3), .val (.int i)] [])) t := fun t k => pre8 t (by
            show Steps p.tables e below (s₁.setTop (mkF m 14 #[.val (.ref a1), .val (.int p2), .val (.int p3), .val (.int i)] [(.int (10 : Int32)), (.int (own_at e0 e1 e2 e3 e4 e5 i))])) t
            refine XS.icmpNo X0.here hx rfl (hb hby d3_14) rfl (XT.ii_eq_f hc14_7) ?_
            show Steps p.tables e below (s₁.setTop (mkF m 17 #[.val (.ref a1), .val (.int p2), .val (.int p3), .val (.int i)] [])) t
            refine XS.goto X0.here hx rfl (pc0 := 17) (pc' := 65) rfl (hb hby d3_17) (by decide) (by decide) ?_
            show Steps p.tables e below (s₁.setTop (mkF m 65 #[.val (.ref a1), .val (.int p2), .val (.int p3), .val (.int i)] [])) t
            refine XS.iinc X0.here hx rfl (hb hby d3_65) rfl (l' := #[.val (.ref a1), .val (.int p2), .val (.int p3), .val (.int (i + (1 : Int32)))]) rfl ?_
            show Steps p.tables e below (s₁.setTop (mkF m 68 #[.val (.ref a1), .val (.int p2), .val (.int p3), .val (.int (i + (1 : Int32)))] [])) t
            refine XS.goto X0.here hx rfl (pc0 := 68) (pc' := 2) rfl (hb hby d3_68) (by decide) (by decide) ?_
            show Steps p.tables e below (s₁.setTop (mkF m 2 #[.val (.ref a1), .val (.int p2), .val (.int p3), .val (.int (i + (1 : Int32)))] [])) t
            exact k)
          obtain ⟨pcF, j, hp, st28⟩ := ih (i + (1 : Int32)) (own_step hi (by assumption))
          have eq28 : (own_end e0 e1 e2 e3 e4 e5 p3 (k + 1) i) = (own_end e0 e1 e2 e3 e4 e5 p3 k (i + (1 : Int32))) := by rw [own_end_s]; simp only [if_pos hc6_5, if_neg hc14_7]
          exact ⟨pcF, j, hp, fun t q => pre27 t (st28 t (by rw [eq28] at q; exact q))⟩
      · skip
        have pre29 : ∀ t, Steps p.tables e below (s₁.setTop (mkF m 72 #[.val (.ref a1), .val (.int p2), .val (.int p3), .val (.int i)] [(.int (-1 : Int32))])) t → Steps p.tables e below (s₁.setTop (mkF m 2 #[.val (.ref a1), .val (.int p2), .val (.int p3), .val (.int i)] [])) t := fun t k => pre6 t (by
          show Steps p.tables e below (s₁.setTop (mkF m 6 #[.val (.ref a1), .val (.int p2), .val (.int p3), .val (.int i)] [(.int (p3 - (1 : Int32))), (.int i)])) t
          refine XS.icmpYes X0.here hx rfl (pc0 := 6) (pc' := 71) rfl (hb hby d3_6) rfl (XT.ii_ge_t hc6_5) (by decide) (by decide) ?_
          show Steps p.tables e below (s₁.setTop (mkF m 71 #[.val (.ref a1), .val (.int p2), .val (.int p3), .val (.int i)] [])) t
          refine XS.iconst X0.here hx rfl (hb hby d3_71) ?_
          show Steps p.tables e below (s₁.setTop (mkF m 72 #[.val (.ref a1), .val (.int p2), .val (.int p3), .val (.int i)] [(.int (-1 : Int32))])) t
          exact k)
        have eq30 : (own_end e0 e1 e2 e3 e4 e5 p3 (k + 1) i) = (-1 : Int32) := by rw [own_end_s]; simp only [if_neg hc6_5]
        exact ⟨72, i, Or.inr (Or.inr rfl), fun t q => pre29 t (by rw [eq30] at q; exact q)⟩
  obtain ⟨pcF, j, hp, stL⟩ := loop 6 p2 hI
  rcases hp with rfl | rfl | rfl
  · have preE : ∀ t, Steps p.tables e below (s₁.setTop (mkF m 33 #[.val (.ref a1), .val (.int p2), .val (.int p3), .val (.int j)] [(.int (own_end e0 e1 e2 e3 e4 e5 p3 6 p2))])) t → Steps p.tables e below (s₁.setTop (entryFrame m #[(.ref a1), (.int p2), (.int p3)] 4)) t := fun t k => pre1 t (stL t k)
    obtain ⟨fs, hr, hrun, hended, hW, hsame⟩ := X0.leave (v := some (.int (own_end e0 e1 e2 e3 e4 e5 p3 6 p2))) (fun h => by rw [Bd.returns] at h; cases h)
    refine ⟨_, _, preE _ ?_, hrun, hended, _, _, rfl, ?_, ⟨_, rfl⟩, hW, hsame.mono (by decide) (by decide)⟩
    · show Steps p.tables e below (s₁.setTop (mkF m 33 #[.val (.ref a1), .val (.int p2), .val (.int p3), .val (.int j)] [(.int (own_end e0 e1 e2 e3 e4 e5 p3 6 p2))])) _
      exact retI X0 hx Bd.returns (hb hby d3_33) hr
    · show Q3 Z a1 p2 p3 kk e0 e1 e2 e3 e4 e5 h0 n0 _ s₁.heap _
      rw [eh0]
      exact ⟨rfl, N0, rfl⟩
  · have preE : ∀ t, Steps p.tables e below (s₁.setTop (mkF m 64 #[.val (.ref a1), .val (.int p2), .val (.int p3), .val (.int j)] [(.int (own_end e0 e1 e2 e3 e4 e5 p3 6 p2))])) t → Steps p.tables e below (s₁.setTop (entryFrame m #[(.ref a1), (.int p2), (.int p3)] 4)) t := fun t k => pre1 t (stL t k)
    obtain ⟨fs, hr, hrun, hended, hW, hsame⟩ := X0.leave (v := some (.int (own_end e0 e1 e2 e3 e4 e5 p3 6 p2))) (fun h => by rw [Bd.returns] at h; cases h)
    refine ⟨_, _, preE _ ?_, hrun, hended, _, _, rfl, ?_, ⟨_, rfl⟩, hW, hsame.mono (by decide) (by decide)⟩
    · show Steps p.tables e below (s₁.setTop (mkF m 64 #[.val (.ref a1), .val (.int p2), .val (.int p3), .val (.int j)] [(.int (own_end e0 e1 e2 e3 e4 e5 p3 6 p2))])) _
      exact retI X0 hx Bd.returns (hb hby d3_64) hr
    · show Q3 Z a1 p2 p3 kk e0 e1 e2 e3 e4 e5 h0 n0 _ s₁.heap _
      rw [eh0]
      exact ⟨rfl, N0, rfl⟩
  · have preE : ∀ t, Steps p.tables e below (s₁.setTop (mkF m 72 #[.val (.ref a1), .val (.int p2), .val (.int p3), .val (.int j)] [(.int (own_end e0 e1 e2 e3 e4 e5 p3 6 p2))])) t → Steps p.tables e below (s₁.setTop (entryFrame m #[(.ref a1), (.int p2), (.int p3)] 4)) t := fun t k => pre1 t (stL t k)
    obtain ⟨fs, hr, hrun, hended, hW, hsame⟩ := X0.leave (v := some (.int (own_end e0 e1 e2 e3 e4 e5 p3 6 p2))) (fun h => by rw [Bd.returns] at h; cases h)
    refine ⟨_, _, preE _ ?_, hrun, hended, _, _, rfl, ?_, ⟨_, rfl⟩, hW, hsame.mono (by decide) (by decide)⟩
    · show Steps p.tables e below (s₁.setTop (mkF m 72 #[.val (.ref a1), .val (.int p2), .val (.int p3), .val (.int j)] [(.int (own_end e0 e1 e2 e3 e4 e5 p3 6 p2))])) _
      exact retI X0 hx Bd.returns (hb hby d3_72) hr
    · show Q3 Z a1 p2 p3 kk e0 e1 e2 e3 e4 e5 h0 n0 _ s₁.heap _
      rw [eh0]
      exact ⟨rfl, N0, rfl⟩
theorem ef_0 (m : MethodId) (p1 : Int32) (q2 : Int64) (p3 : Int32) (p4 : Int32) : entryFrame m #[(.int p1), (.long q2), (.int p3), (.int p4)] maxLocals = mkF m 0 #[.val (.int p1), .val (.long q2), .second, .val (.int p3), .val (.int p4), .unset, .unset, .unset, .unset] [] := by first | (simp [entryFrame, mkF, argsToLocals, Value.category, maxLocals]; done) | rfl
theorem pd_oIJIcB : parseMethodDescriptor "(IJI)B" = some ⟨[.int, .long, .int], some .byte⟩ := by decide +kernel
theorem pd_oaBIIIcZ : parseMethodDescriptor "([BIII)Z" = some ⟨[(.array .byte), .int, .int, .int], some .boolean⟩ := by decide +kernel
theorem pd_oaBIIcI : parseMethodDescriptor "([BII)I" = some ⟨[(.array .byte), .int, .int], some .int⟩ := by decide +kernel
def Q0 (Z : State) (p1 : Int32) (q2 : Int64) (p3 : Int32) (p4 : Int32) (h0 : Heap) (n0 : Nat) (v : Option Value) (h : Heap) (L : List Loc) : Prop := v = some (.int (1 : Int32)) ∧ Fr n0 L
set_option maxRecDepth 65536 in
set_option maxHeartbeats 40000000 in
theorem rm0 (l : Launch) (Z : State) (a0 : Array Value) (hw : ∀ d ∈ tables_1, d.before a0 Z = true) (ws : List Jvm.Cond) (p1 : Int32) (q2 : Int64) (p3 : Int32) (p4 : Int32) (h0 : Heap) (n0 : Nat) (Z0 : n0 ≤ h0.size) :
    MetFree l x (head1 (Jvm.Cond.code x code maxLocals ret :: ws) room_1) (fun a U => a = #[(.int p1), (.long q2), (.int p3), (.int p4)] ∧ Z.Warmed39 U.vm ∧ U.heap = h0) (fun _ _ _ _ _ => True) (fun _ U o U' => ∃ v L, o = .returned v ∧ Q0 Z p1 q2 p3 p4 h0 n0 v U'.heap L ∧ FrameEnd U o U' L room_1.cells room_1.slots) := by
  refine MetFree.of_bodySF (plainFor_of_name pn_com_example_pledgeway_pledgeway_http_HeadEndPinLaw) hisR ?_
  intro p e s m args below meth c s₁ Bd hml0 hP hK
  obtain ⟨rfl, hZ, hh⟩ := hP
  have hx := Bd.exec
  have hby := Bd.bytes
  have hml : c.maxLocals = 9 := hml0
  have hown : s.vm.findClass "com/example/pledgeway/pledgeway/http/HeadEndPinLaw" = some m.cls := findClass_of_methodNamed Bd.named
  have hnm := (name_of_methodNamed Bd.named Bd.method).1
  have X0 : Stand p l e room_1 s m #[(.int p1), (.long q2), (.int p3), (.int p4)] below meth c s₁ [] 0 0 := Stand.of_body Bd
  have eh0 : s₁.heap = h0 := by rw [← hh, Bd.state]; rfl
  have N0 := Fr.nil n0
  have pre0 : ∀ t, Steps p.tables e below (s₁.setTop (mkF m 0 #[.val (.int p1), .val (.long q2), .second, .val (.int p3), .val (.int p4), .unset, .unset, .unset, .unset] [])) t → Steps p.tables e below (s₁.setTop (entryFrame m #[(.int p1), (.long q2), (.int p3), (.int p4)] maxLocals)) t := fun t k => castTop (ef_0 m p1 q2 p3 p4) k
  have pre1 : ∀ t, Steps p.tables e below (s₁.setTop (mkF m 2 #[.val (.int p1), .val (.long q2), .second, .val (.int p3), .val (.int p4), .unset, .unset, .unset, .unset] [(.int (6 : Int32))])) t → Steps p.tables e below (s₁.setTop (entryFrame m #[(.int p1), (.long q2), (.int p3), (.int p4)] maxLocals)) t := fun t k => pre0 t (by
    show Steps p.tables e below (s₁.setTop (mkF m 0 #[.val (.int p1), .val (.long q2), .second, .val (.int p3), .val (.int p4), .unset, .unset, .unset, .unset] [])) t
    refine XS.bipush X0.here hx rfl (hb hby at_0) ?_
    show Steps p.tables e below (s₁.setTop (mkF m 2 #[.val (.int p1), .val (.long q2), .second, .val (.int p3), .val (.int p4), .unset, .unset, .unset, .unset] [(.int (6 : Int32))])) t
    exact k)
  obtain ⟨T2, h2, k2, X2, eh2, E2, A2, st2⟩ := newP X0 hx hZ (hw _ (List.mem_of_getElem? (i := 0) rfl)) eh0 (g := (mkF m 2 #[.val (.int p1), .val (.long q2), .second, .val (.int p3), .val (.int p4), .unset, .unset, .unset, .unset] [(.int (6 : Int32))])) rfl (hb hby at_2) rfl (by decide) (cap := 6) (by decide) (by decide) (by decide) (by decide)
  obtain ⟨b2, gg2⟩ : ∃ z, z = h0.size := ⟨_, rfl⟩
  rw [← gg2] at A2 st2
  have sz2 : n0 ≤ h2.size := Nat.le_trans Z0 E2.1
  have g_b2 : n0 ≤ b2 := Nat.le_trans Z0 (Nat.le_of_eq gg2.symm)
  have V_b2 : Arv Z h2 b2 k2 .byte (6 : Int32) [(.int (0 : Int32)), (.int (0 : Int32)), (.int (0 : Int32)), (.int (0 : Int32)), (.int (0 : Int32)), (.int (0 : Int32))] (.int (0 : Int32)) := (Arv.new A2 (by decide)).pad (pad_rep [] (.int (0 : Int32)) 6)
  have pre3 : ∀ t, Steps p.tables e below (T2.setTop (mkF m 4 #[.val (.int p1), .val (.long q2), .second, .val (.int p3), .val (.int p4), .unset, .unset, .unset, .unset] [(.ref b2)])) t → Steps p.tables e below (s₁.setTop (entryFrame m #[(.int p1), (.long q2), (.int p3), (.int p4)] maxLocals)) t := fun t k => pre1 t (st2 _ k)
  have pre4 : ∀ t, Steps p.tables e below (T2.setTop (mkF m 12 #[.val (.int p1), .val (.long q2), .second, .val (.int p3), .val (.int p4), .val (.ref b2), .unset, .unset, .unset] [(.int (0 : Int32)), (.long q2), (.int p1), (.int (0 : Int32)), (.ref b2)])) t → Steps p.tables e below (s₁.setTop (entryFrame m #[(.int p1), (.long q2), (.int p3), (.int p4)] maxLocals)) t := fun t k => pre3 t (by
    show Steps p.tables e below (T2.setTop (mkF m 4 #[.val (.int p1), .val (.long q2), .second, .val (.int p3), .val (.int p4), .unset, .unset, .unset, .unset] [(.ref b2)])) t
    refine XS.astore X2.here hx rfl (hb hby at_4) rfl rfl (l' := #[.val (.int p1), .val (.long q2), .second, .val (.int p3), .val (.int p4), .val (.ref b2), .unset, .unset, .unset]) rfl ?_
    show Steps p.tables e below (T2.setTop (mkF m 6 #[.val (.int p1), .val (.long q2), .second, .val (.int p3), .val (.int p4), .val (.ref b2), .unset, .unset, .unset] [])) t
    refine XS.aload X2.here hx rfl (hb hby at_6) rfl rfl ?_
    show Steps p.tables e below (T2.setTop (mkF m 8 #[.val (.int p1), .val (.long q2), .second, .val (.int p3), .val (.int p4), .val (.ref b2), .unset, .unset, .unset] [(.ref b2)])) t
    refine XS.iconst X2.here hx rfl (hb hby at_8) ?_
    show Steps p.tables e below (T2.setTop (mkF m 9 #[.val (.int p1), .val (.long q2), .second, .val (.int p3), .val (.int p4), .val (.ref b2), .unset, .unset, .unset] [(.int (0 : Int32)), (.ref b2)])) t
    refine XS.iloadN X2.here hx rfl (hb hby at_9) rfl ?_
    show Steps p.tables e below (T2.setTop (mkF m 10 #[.val (.int p1), .val (.long q2), .second, .val (.int p3), .val (.int p4), .val (.ref b2), .unset, .unset, .unset] [(.int p1), (.int (0 : Int32)), (.ref b2)])) t
    refine XT.lloadN X2.here hx rfl (hb hby at_10) rfl ?_
    show Steps p.tables e below (T2.setTop (mkF m 11 #[.val (.int p1), .val (.long q2), .second, .val (.int p3), .val (.int p4), .val (.ref b2), .unset, .unset, .unset] [(.long q2), (.int p1), (.int (0 : Int32)), (.ref b2)])) t
    refine XS.iconst X2.here hx rfl (hb hby at_11) ?_
    show Steps p.tables e below (T2.setTop (mkF m 12 #[.val (.int p1), .val (.long q2), .second, .val (.int p3), .val (.int p4), .val (.ref b2), .unset, .unset, .unset] [(.int (0 : Int32)), (.long q2), (.int p1), (.int (0 : Int32)), (.ref b2)])) t
    exact k)
  obtain ⟨_, _, ⟨T5, L5, k5, n5⟩, -, X5, ⟨Lc5, hQ5, l5, y5, z5⟩, st5⟩ := Jvm.LawKit.callS X2 hx (y := (⟨"com/example/pledgeway/pledgeway/http/HeadEndPinLaw", "pick", "(IJI)B"⟩ : MethodName)) hown (mvT hZ (hw _ (List.mem_of_getElem? (i := 1) rfl))) (mvT hZ (hw _ (List.mem_of_getElem? (i := 2) rfl))) (mvT hZ (hw _ (List.mem_of_getElem? (i := 3) rfl))) (mvT hZ (hw _ (List.mem_of_getElem? (i := 4) rfl))) (by decide) (backOf (W := 2) (rm1 l Z a0 hw [] p1 q2 (0 : Int32) h2 n0 sz2 ) hZ (hw _ (List.mem_of_getElem? (i := 4) rfl)) (hw _ (List.mem_of_getElem? (i := 3) rfl)) (by decide) (by decide)) (g := (mkF m 12 #[.val (.int p1), .val (.long q2), .second, .val (.int p3), .val (.int p4), .val (.ref b2), .unset, .unset, .unset] [(.int (0 : Int32)), (.long q2), (.int p1), (.int (0 : Int32)), (.ref b2)])) rfl (by rw [hml]; rfl) (argsL := [(.int p1), (.long q2), (.int (0 : Int32))]) (rest := [(.int (0 : Int32)), (.ref b2)]) (lenOf pd_oIJIcB rfl) rfl (by show 2 * 0 + _ ≤ _; exact Nat.le_of_eq rfl) (hb hby at_12) (fun _ _ => ⟨rfl, eh2, (by decide : 1 + 0 ≤ _), (by decide : 6 + 0 ≤ _)⟩)
  dsimp only [Pt.U, Pt.locs, Pt.cells, Pt.slots] at X5 l5 y5 z5 st5 hQ5
  subst l5 y5 z5
  obtain ⟨rfl, N5q, eh5⟩ := hQ5
  have N5 := Fr.app N0 N5q
  have pre6 : ∀ t, Steps p.tables e below (T5.setTop (mkF m 15 #[.val (.int p1), .val (.long q2), .second, .val (.int p3), .val (.int p4), .val (.ref b2), .unset, .unset, .unset] [(.int (own_pick p1 q2 (0 : Int32))), (.int (0 : Int32)), (.ref b2)])) t → Steps p.tables e below (s₁.setTop (entryFrame m #[(.int p1), (.long q2), (.int p3), (.int p4)] maxLocals)) t := fun t k => pre4 t (st5 _ k)
  obtain ⟨x0, h_x0⟩ : ∃ z : Int32, z = (own_pick p1 q2 (0 : Int32)) := ⟨_, rfl⟩
  rw [← h_x0] at pre6
  obtain ⟨cl7, Ar7, q7, S7, N7q, H7, G7⟩ := V_b2
  have hin7 : ¬ ((0 : Int32) < 0 ∨ cl7.slots.size ≤ ((0 : Int32)).toNatClampNeg) := inb_of S7 ⟨by decide, by decide⟩
  obtain ⟨T7, h7, X7, eh7, W7, st7⟩ := stB X5 hx hZ eh5 Ar7 (j := (0 : Int32)) hin7 (g := (mkF m 15 #[.val (.int p1), .val (.long q2), .second, .val (.int p3), .val (.int p4), .val (.ref b2), .unset, .unset, .unset] [(.int x0), (.int (0 : Int32)), (.ref b2)])) rfl rfl (hb hby at_15)
  have sz7 : n0 ≤ h7.size := Nat.le_trans sz2 (Keep.of_wr W7).1
  have N7 := Fr.snoc X7 N5 g_b2
  have V_b2__7 : Arv Z h7 b2 k2 .byte (6 : Int32) [(.int (nar .byte x0)), (.int (0 : Int32)), (.int (0 : Int32)), (.int (0 : Int32)), (.int (0 : Int32)), (.int (0 : Int32))] (.int (0 : Int32)) := Arv.set Ar7 q7 S7 N7q H7 G7 (fits_nar_byte _) W7 0 rfl (Nat.le_of_ble_eq_true rfl)
  have pre8 : ∀ t, Steps p.tables e below (T7.setTop (mkF m 16 #[.val (.int p1), .val (.long q2), .second, .val (.int p3), .val (.int p4), .val (.ref b2), .unset, .unset, .unset] [])) t → Steps p.tables e below (s₁.setTop (entryFrame m #[(.int p1), (.long q2), (.int p3), (.int p4)] maxLocals)) t := fun t k => pre6 t (st7 _ k)
  have pre9 : ∀ t, Steps p.tables e below (T7.setTop (mkF m 22 #[.val (.int p1), .val (.long q2), .second, .val (.int p3), .val (.int p4), .val (.ref b2), .unset, .unset, .unset] [(.int (1 : Int32)), (.long q2), (.int p1), (.int (1 : Int32)), (.ref b2)])) t → Steps p.tables e below (s₁.setTop (entryFrame m #[(.int p1), (.long q2), (.int p3), (.int p4)] maxLocals)) t := fun t k => pre8 t (by
    show Steps p.tables e below (T7.setTop (mkF m 16 #[.val (.int p1), .val (.long q2), .second, .val (.int p3), .val (.int p4), .val (.ref b2), .unset, .unset, .unset] [])) t
    refine XS.aload X7.here hx rfl (hb hby at_16) rfl rfl ?_
    show Steps p.tables e below (T7.setTop (mkF m 18 #[.val (.int p1), .val (.long q2), .second, .val (.int p3), .val (.int p4), .val (.ref b2), .unset, .unset, .unset] [(.ref b2)])) t
    refine XS.iconst X7.here hx rfl (hb hby at_18) ?_
    show Steps p.tables e below (T7.setTop (mkF m 19 #[.val (.int p1), .val (.long q2), .second, .val (.int p3), .val (.int p4), .val (.ref b2), .unset, .unset, .unset] [(.int (1 : Int32)), (.ref b2)])) t
    refine XS.iloadN X7.here hx rfl (hb hby at_19) rfl ?_
    show Steps p.tables e below (T7.setTop (mkF m 20 #[.val (.int p1), .val (.long q2), .second, .val (.int p3), .val (.int p4), .val (.ref b2), .unset, .unset, .unset] [(.int p1), (.int (1 : Int32)), (.ref b2)])) t
    refine XT.lloadN X7.here hx rfl (hb hby at_20) rfl ?_
    show Steps p.tables e below (T7.setTop (mkF m 21 #[.val (.int p1), .val (.long q2), .second, .val (.int p3), .val (.int p4), .val (.ref b2), .unset, .unset, .unset] [(.long q2), (.int p1), (.int (1 : Int32)), (.ref b2)])) t
    refine XS.iconst X7.here hx rfl (hb hby at_21) ?_
    show Steps p.tables e below (T7.setTop (mkF m 22 #[.val (.int p1), .val (.long q2), .second, .val (.int p3), .val (.int p4), .val (.ref b2), .unset, .unset, .unset] [(.int (1 : Int32)), (.long q2), (.int p1), (.int (1 : Int32)), (.ref b2)])) t
    exact k)
  obtain ⟨_, _, ⟨T10, L10, k10, n10⟩, -, X10, ⟨Lc10, hQ10, l10, y10, z10⟩, st10⟩ := Jvm.LawKit.callS X7 hx (y := (⟨"com/example/pledgeway/pledgeway/http/HeadEndPinLaw", "pick", "(IJI)B"⟩ : MethodName)) hown (mvT hZ (hw _ (List.mem_of_getElem? (i := 1) rfl))) (mvT hZ (hw _ (List.mem_of_getElem? (i := 2) rfl))) (mvT hZ (hw _ (List.mem_of_getElem? (i := 3) rfl))) (mvT hZ (hw _ (List.mem_of_getElem? (i := 4) rfl))) (by decide) (backOf (W := 2) (rm1 l Z a0 hw [] p1 q2 (1 : Int32) h7 n0 sz7 ) hZ (hw _ (List.mem_of_getElem? (i := 4) rfl)) (hw _ (List.mem_of_getElem? (i := 3) rfl)) (by decide) (by decide)) (g := (mkF m 22 #[.val (.int p1), .val (.long q2), .second, .val (.int p3), .val (.int p4), .val (.ref b2), .unset, .unset, .unset] [(.int (1 : Int32)), (.long q2), (.int p1), (.int (1 : Int32)), (.ref b2)])) rfl (by rw [hml]; rfl) (argsL := [(.int p1), (.long q2), (.int (1 : Int32))]) (rest := [(.int (1 : Int32)), (.ref b2)]) (lenOf pd_oIJIcB rfl) rfl (by show 2 * 0 + _ ≤ _; exact Nat.le_of_eq rfl) (hb hby at_22) (fun _ _ => ⟨rfl, eh7, (by decide : 1 + 0 ≤ _), (by decide : 6 + 0 ≤ _)⟩)
  dsimp only [Pt.U, Pt.locs, Pt.cells, Pt.slots] at X10 l10 y10 z10 st10 hQ10
  subst l10 y10 z10
  obtain ⟨rfl, N10q, eh10⟩ := hQ10
  have N10 := Fr.app N7 N10q
  have pre11 : ∀ t, Steps p.tables e below (T10.setTop (mkF m 25 #[.val (.int p1), .val (.long q2), .second, .val (.int p3), .val (.int p4), .val (.ref b2), .unset, .unset, .unset] [(.int (own_pick p1 q2 (1 : Int32))), (.int (1 : Int32)), (.ref b2)])) t → Steps p.tables e below (s₁.setTop (entryFrame m #[(.int p1), (.long q2), (.int p3), (.int p4)] maxLocals)) t := fun t k => pre9 t (st10 _ k)
  obtain ⟨x1, h_x1⟩ : ∃ z : Int32, z = (own_pick p1 q2 (1 : Int32)) := ⟨_, rfl⟩
  rw [← h_x1] at pre11
  obtain ⟨cl12, Ar12, q12, S12, N12q, H12, G12⟩ := V_b2__7
  have hin12 : ¬ ((1 : Int32) < 0 ∨ cl12.slots.size ≤ ((1 : Int32)).toNatClampNeg) := inb_of S12 ⟨by decide, by decide⟩
  obtain ⟨T12, h12, X12, eh12, W12, st12⟩ := stB X10 hx hZ eh10 Ar12 (j := (1 : Int32)) hin12 (g := (mkF m 25 #[.val (.int p1), .val (.long q2), .second, .val (.int p3), .val (.int p4), .val (.ref b2), .unset, .unset, .unset] [(.int x1), (.int (1 : Int32)), (.ref b2)])) rfl rfl (hb hby at_25)
  have sz12 : n0 ≤ h12.size := Nat.le_trans sz7 (Keep.of_wr W12).1
  have N12 := Fr.snoc X12 N10 g_b2
  have V_b2__12 : Arv Z h12 b2 k2 .byte (6 : Int32) [(.int (nar .byte x0)), (.int (nar .byte x1)), (.int (0 : Int32)), (.int (0 : Int32)), (.int (0 : Int32)), (.int (0 : Int32))] (.int (0 : Int32)) := Arv.set Ar12 q12 S12 N12q H12 G12 (fits_nar_byte _) W12 1 rfl (Nat.le_of_ble_eq_true rfl)
  have pre13 : ∀ t, Steps p.tables e below (T12.setTop (mkF m 26 #[.val (.int p1), .val (.long q2), .second, .val (.int p3), .val (.int p4), .val (.ref b2), .unset, .unset, .unset] [])) t → Steps p.tables e below (s₁.setTop (entryFrame m #[(.int p1), (.long q2), (.int p3), (.int p4)] maxLocals)) t := fun t k => pre11 t (st12 _ k)
  have pre14 : ∀ t, Steps p.tables e below (T12.setTop (mkF m 32 #[.val (.int p1), .val (.long q2), .second, .val (.int p3), .val (.int p4), .val (.ref b2), .unset, .unset, .unset] [(.int (2 : Int32)), (.long q2), (.int p1), (.int (2 : Int32)), (.ref b2)])) t → Steps p.tables e below (s₁.setTop (entryFrame m #[(.int p1), (.long q2), (.int p3), (.int p4)] maxLocals)) t := fun t k => pre13 t (by
    show Steps p.tables e below (T12.setTop (mkF m 26 #[.val (.int p1), .val (.long q2), .second, .val (.int p3), .val (.int p4), .val (.ref b2), .unset, .unset, .unset] [])) t
    refine XS.aload X12.here hx rfl (hb hby at_26) rfl rfl ?_
    show Steps p.tables e below (T12.setTop (mkF m 28 #[.val (.int p1), .val (.long q2), .second, .val (.int p3), .val (.int p4), .val (.ref b2), .unset, .unset, .unset] [(.ref b2)])) t
    refine XS.iconst X12.here hx rfl (hb hby at_28) ?_
    show Steps p.tables e below (T12.setTop (mkF m 29 #[.val (.int p1), .val (.long q2), .second, .val (.int p3), .val (.int p4), .val (.ref b2), .unset, .unset, .unset] [(.int (2 : Int32)), (.ref b2)])) t
    refine XS.iloadN X12.here hx rfl (hb hby at_29) rfl ?_
    show Steps p.tables e below (T12.setTop (mkF m 30 #[.val (.int p1), .val (.long q2), .second, .val (.int p3), .val (.int p4), .val (.ref b2), .unset, .unset, .unset] [(.int p1), (.int (2 : Int32)), (.ref b2)])) t
    refine XT.lloadN X12.here hx rfl (hb hby at_30) rfl ?_
    show Steps p.tables e below (T12.setTop (mkF m 31 #[.val (.int p1), .val (.long q2), .second, .val (.int p3), .val (.int p4), .val (.ref b2), .unset, .unset, .unset] [(.long q2), (.int p1), (.int (2 : Int32)), (.ref b2)])) t
    refine XS.iconst X12.here hx rfl (hb hby at_31) ?_
    show Steps p.tables e below (T12.setTop (mkF m 32 #[.val (.int p1), .val (.long q2), .second, .val (.int p3), .val (.int p4), .val (.ref b2), .unset, .unset, .unset] [(.int (2 : Int32)), (.long q2), (.int p1), (.int (2 : Int32)), (.ref b2)])) t
    exact k)
  obtain ⟨_, _, ⟨T15, L15, k15, n15⟩, -, X15, ⟨Lc15, hQ15, l15, y15, z15⟩, st15⟩ := Jvm.LawKit.callS X12 hx (y := (⟨"com/example/pledgeway/pledgeway/http/HeadEndPinLaw", "pick", "(IJI)B"⟩ : MethodName)) hown (mvT hZ (hw _ (List.mem_of_getElem? (i := 1) rfl))) (mvT hZ (hw _ (List.mem_of_getElem? (i := 2) rfl))) (mvT hZ (hw _ (List.mem_of_getElem? (i := 3) rfl))) (mvT hZ (hw _ (List.mem_of_getElem? (i := 4) rfl))) (by decide) (backOf (W := 2) (rm1 l Z a0 hw [] p1 q2 (2 : Int32) h12 n0 sz12 ) hZ (hw _ (List.mem_of_getElem? (i := 4) rfl)) (hw _ (List.mem_of_getElem? (i := 3) rfl)) (by decide) (by decide)) (g := (mkF m 32 #[.val (.int p1), .val (.long q2), .second, .val (.int p3), .val (.int p4), .val (.ref b2), .unset, .unset, .unset] [(.int (2 : Int32)), (.long q2), (.int p1), (.int (2 : Int32)), (.ref b2)])) rfl (by rw [hml]; rfl) (argsL := [(.int p1), (.long q2), (.int (2 : Int32))]) (rest := [(.int (2 : Int32)), (.ref b2)]) (lenOf pd_oIJIcB rfl) rfl (by show 2 * 0 + _ ≤ _; exact Nat.le_of_eq rfl) (hb hby at_32) (fun _ _ => ⟨rfl, eh12, (by decide : 1 + 0 ≤ _), (by decide : 6 + 0 ≤ _)⟩)
  dsimp only [Pt.U, Pt.locs, Pt.cells, Pt.slots] at X15 l15 y15 z15 st15 hQ15
  subst l15 y15 z15
  obtain ⟨rfl, N15q, eh15⟩ := hQ15
  have N15 := Fr.app N12 N15q
  have pre16 : ∀ t, Steps p.tables e below (T15.setTop (mkF m 35 #[.val (.int p1), .val (.long q2), .second, .val (.int p3), .val (.int p4), .val (.ref b2), .unset, .unset, .unset] [(.int (own_pick p1 q2 (2 : Int32))), (.int (2 : Int32)), (.ref b2)])) t → Steps p.tables e below (s₁.setTop (entryFrame m #[(.int p1), (.long q2), (.int p3), (.int p4)] maxLocals)) t := fun t k => pre14 t (st15 _ k)
  obtain ⟨x2, h_x2⟩ : ∃ z : Int32, z = (own_pick p1 q2 (2 : Int32)) := ⟨_, rfl⟩
  rw [← h_x2] at pre16
  obtain ⟨cl17, Ar17, q17, S17, N17q, H17, G17⟩ := V_b2__12
  have hin17 : ¬ ((2 : Int32) < 0 ∨ cl17.slots.size ≤ ((2 : Int32)).toNatClampNeg) := inb_of S17 ⟨by decide, by decide⟩
  obtain ⟨T17, h17, X17, eh17, W17, st17⟩ := stB X15 hx hZ eh15 Ar17 (j := (2 : Int32)) hin17 (g := (mkF m 35 #[.val (.int p1), .val (.long q2), .second, .val (.int p3), .val (.int p4), .val (.ref b2), .unset, .unset, .unset] [(.int x2), (.int (2 : Int32)), (.ref b2)])) rfl rfl (hb hby at_35)
  have sz17 : n0 ≤ h17.size := Nat.le_trans sz12 (Keep.of_wr W17).1
  have N17 := Fr.snoc X17 N15 g_b2
  have V_b2__17 : Arv Z h17 b2 k2 .byte (6 : Int32) [(.int (nar .byte x0)), (.int (nar .byte x1)), (.int (nar .byte x2)), (.int (0 : Int32)), (.int (0 : Int32)), (.int (0 : Int32))] (.int (0 : Int32)) := Arv.set Ar17 q17 S17 N17q H17 G17 (fits_nar_byte _) W17 2 rfl (Nat.le_of_ble_eq_true rfl)
  have pre18 : ∀ t, Steps p.tables e below (T17.setTop (mkF m 36 #[.val (.int p1), .val (.long q2), .second, .val (.int p3), .val (.int p4), .val (.ref b2), .unset, .unset, .unset] [])) t → Steps p.tables e below (s₁.setTop (entryFrame m #[(.int p1), (.long q2), (.int p3), (.int p4)] maxLocals)) t := fun t k => pre16 t (st17 _ k)
  have pre19 : ∀ t, Steps p.tables e below (T17.setTop (mkF m 42 #[.val (.int p1), .val (.long q2), .second, .val (.int p3), .val (.int p4), .val (.ref b2), .unset, .unset, .unset] [(.int (3 : Int32)), (.long q2), (.int p1), (.int (3 : Int32)), (.ref b2)])) t → Steps p.tables e below (s₁.setTop (entryFrame m #[(.int p1), (.long q2), (.int p3), (.int p4)] maxLocals)) t := fun t k => pre18 t (by
    show Steps p.tables e below (T17.setTop (mkF m 36 #[.val (.int p1), .val (.long q2), .second, .val (.int p3), .val (.int p4), .val (.ref b2), .unset, .unset, .unset] [])) t
    refine XS.aload X17.here hx rfl (hb hby at_36) rfl rfl ?_
    show Steps p.tables e below (T17.setTop (mkF m 38 #[.val (.int p1), .val (.long q2), .second, .val (.int p3), .val (.int p4), .val (.ref b2), .unset, .unset, .unset] [(.ref b2)])) t
    refine XS.iconst X17.here hx rfl (hb hby at_38) ?_
    show Steps p.tables e below (T17.setTop (mkF m 39 #[.val (.int p1), .val (.long q2), .second, .val (.int p3), .val (.int p4), .val (.ref b2), .unset, .unset, .unset] [(.int (3 : Int32)), (.ref b2)])) t
    refine XS.iloadN X17.here hx rfl (hb hby at_39) rfl ?_
    show Steps p.tables e below (T17.setTop (mkF m 40 #[.val (.int p1), .val (.long q2), .second, .val (.int p3), .val (.int p4), .val (.ref b2), .unset, .unset, .unset] [(.int p1), (.int (3 : Int32)), (.ref b2)])) t
    refine XT.lloadN X17.here hx rfl (hb hby at_40) rfl ?_
    show Steps p.tables e below (T17.setTop (mkF m 41 #[.val (.int p1), .val (.long q2), .second, .val (.int p3), .val (.int p4), .val (.ref b2), .unset, .unset, .unset] [(.long q2), (.int p1), (.int (3 : Int32)), (.ref b2)])) t
    refine XS.iconst X17.here hx rfl (hb hby at_41) ?_
    show Steps p.tables e below (T17.setTop (mkF m 42 #[.val (.int p1), .val (.long q2), .second, .val (.int p3), .val (.int p4), .val (.ref b2), .unset, .unset, .unset] [(.int (3 : Int32)), (.long q2), (.int p1), (.int (3 : Int32)), (.ref b2)])) t
    exact k)
  obtain ⟨_, _, ⟨T20, L20, k20, n20⟩, -, X20, ⟨Lc20, hQ20, l20, y20, z20⟩, st20⟩ := Jvm.LawKit.callS X17 hx (y := (⟨"com/example/pledgeway/pledgeway/http/HeadEndPinLaw", "pick", "(IJI)B"⟩ : MethodName)) hown (mvT hZ (hw _ (List.mem_of_getElem? (i := 1) rfl))) (mvT hZ (hw _ (List.mem_of_getElem? (i := 2) rfl))) (mvT hZ (hw _ (List.mem_of_getElem? (i := 3) rfl))) (mvT hZ (hw _ (List.mem_of_getElem? (i := 4) rfl))) (by decide) (backOf (W := 2) (rm1 l Z a0 hw [] p1 q2 (3 : Int32) h17 n0 sz17 ) hZ (hw _ (List.mem_of_getElem? (i := 4) rfl)) (hw _ (List.mem_of_getElem? (i := 3) rfl)) (by decide) (by decide)) (g := (mkF m 42 #[.val (.int p1), .val (.long q2), .second, .val (.int p3), .val (.int p4), .val (.ref b2), .unset, .unset, .unset] [(.int (3 : Int32)), (.long q2), (.int p1), (.int (3 : Int32)), (.ref b2)])) rfl (by rw [hml]; rfl) (argsL := [(.int p1), (.long q2), (.int (3 : Int32))]) (rest := [(.int (3 : Int32)), (.ref b2)]) (lenOf pd_oIJIcB rfl) rfl (by show 2 * 0 + _ ≤ _; exact Nat.le_of_eq rfl) (hb hby at_42) (fun _ _ => ⟨rfl, eh17, (by decide : 1 + 0 ≤ _), (by decide : 6 + 0 ≤ _)⟩)
  dsimp only [Pt.U, Pt.locs, Pt.cells, Pt.slots] at X20 l20 y20 z20 st20 hQ20
  subst l20 y20 z20
  obtain ⟨rfl, N20q, eh20⟩ := hQ20
  have N20 := Fr.app N17 N20q
  have pre21 : ∀ t, Steps p.tables e below (T20.setTop (mkF m 45 #[.val (.int p1), .val (.long q2), .second, .val (.int p3), .val (.int p4), .val (.ref b2), .unset, .unset, .unset] [(.int (own_pick p1 q2 (3 : Int32))), (.int (3 : Int32)), (.ref b2)])) t → Steps p.tables e below (s₁.setTop (entryFrame m #[(.int p1), (.long q2), (.int p3), (.int p4)] maxLocals)) t := fun t k => pre19 t (st20 _ k)
  obtain ⟨x3, h_x3⟩ : ∃ z : Int32, z = (own_pick p1 q2 (3 : Int32)) := ⟨_, rfl⟩
  rw [← h_x3] at pre21
  obtain ⟨cl22, Ar22, q22, S22, N22q, H22, G22⟩ := V_b2__17
  have hin22 : ¬ ((3 : Int32) < 0 ∨ cl22.slots.size ≤ ((3 : Int32)).toNatClampNeg) := inb_of S22 ⟨by decide, by decide⟩
  obtain ⟨T22, h22, X22, eh22, W22, st22⟩ := stB X20 hx hZ eh20 Ar22 (j := (3 : Int32)) hin22 (g := (mkF m 45 #[.val (.int p1), .val (.long q2), .second, .val (.int p3), .val (.int p4), .val (.ref b2), .unset, .unset, .unset] [(.int x3), (.int (3 : Int32)), (.ref b2)])) rfl rfl (hb hby at_45)
  have sz22 : n0 ≤ h22.size := Nat.le_trans sz17 (Keep.of_wr W22).1
  have N22 := Fr.snoc X22 N20 g_b2
  have V_b2__22 : Arv Z h22 b2 k2 .byte (6 : Int32) [(.int (nar .byte x0)), (.int (nar .byte x1)), (.int (nar .byte x2)), (.int (nar .byte x3)), (.int (0 : Int32)), (.int (0 : Int32))] (.int (0 : Int32)) := Arv.set Ar22 q22 S22 N22q H22 G22 (fits_nar_byte _) W22 3 rfl (Nat.le_of_ble_eq_true rfl)
  have pre23 : ∀ t, Steps p.tables e below (T22.setTop (mkF m 46 #[.val (.int p1), .val (.long q2), .second, .val (.int p3), .val (.int p4), .val (.ref b2), .unset, .unset, .unset] [])) t → Steps p.tables e below (s₁.setTop (entryFrame m #[(.int p1), (.long q2), (.int p3), (.int p4)] maxLocals)) t := fun t k => pre21 t (st22 _ k)
  have pre24 : ∀ t, Steps p.tables e below (T22.setTop (mkF m 52 #[.val (.int p1), .val (.long q2), .second, .val (.int p3), .val (.int p4), .val (.ref b2), .unset, .unset, .unset] [(.int (4 : Int32)), (.long q2), (.int p1), (.int (4 : Int32)), (.ref b2)])) t → Steps p.tables e below (s₁.setTop (entryFrame m #[(.int p1), (.long q2), (.int p3), (.int p4)] maxLocals)) t := fun t k => pre23 t (by
    show Steps p.tables e below (T22.setTop (mkF m 46 #[.val (.int p1), .val (.long q2), .second, .val (.int p3), .val (.int p4), .val (.ref b2), .unset, .unset, .unset] [])) t
    refine XS.aload X22.here hx rfl (hb hby at_46) rfl rfl ?_
    show Steps p.tables e below (T22.setTop (mkF m 48 #[.val (.int p1), .val (.long q2), .second, .val (.int p3), .val (.int p4), .val (.ref b2), .unset, .unset, .unset] [(.ref b2)])) t
    refine XS.iconst X22.here hx rfl (hb hby at_48) ?_
    show Steps p.tables e below (T22.setTop (mkF m 49 #[.val (.int p1), .val (.long q2), .second, .val (.int p3), .val (.int p4), .val (.ref b2), .unset, .unset, .unset] [(.int (4 : Int32)), (.ref b2)])) t
    refine XS.iloadN X22.here hx rfl (hb hby at_49) rfl ?_
    show Steps p.tables e below (T22.setTop (mkF m 50 #[.val (.int p1), .val (.long q2), .second, .val (.int p3), .val (.int p4), .val (.ref b2), .unset, .unset, .unset] [(.int p1), (.int (4 : Int32)), (.ref b2)])) t
    refine XT.lloadN X22.here hx rfl (hb hby at_50) rfl ?_
    show Steps p.tables e below (T22.setTop (mkF m 51 #[.val (.int p1), .val (.long q2), .second, .val (.int p3), .val (.int p4), .val (.ref b2), .unset, .unset, .unset] [(.long q2), (.int p1), (.int (4 : Int32)), (.ref b2)])) t
    refine XS.iconst X22.here hx rfl (hb hby at_51) ?_
    show Steps p.tables e below (T22.setTop (mkF m 52 #[.val (.int p1), .val (.long q2), .second, .val (.int p3), .val (.int p4), .val (.ref b2), .unset, .unset, .unset] [(.int (4 : Int32)), (.long q2), (.int p1), (.int (4 : Int32)), (.ref b2)])) t
    exact k)
  obtain ⟨_, _, ⟨T25, L25, k25, n25⟩, -, X25, ⟨Lc25, hQ25, l25, y25, z25⟩, st25⟩ := Jvm.LawKit.callS X22 hx (y := (⟨"com/example/pledgeway/pledgeway/http/HeadEndPinLaw", "pick", "(IJI)B"⟩ : MethodName)) hown (mvT hZ (hw _ (List.mem_of_getElem? (i := 1) rfl))) (mvT hZ (hw _ (List.mem_of_getElem? (i := 2) rfl))) (mvT hZ (hw _ (List.mem_of_getElem? (i := 3) rfl))) (mvT hZ (hw _ (List.mem_of_getElem? (i := 4) rfl))) (by decide) (backOf (W := 2) (rm1 l Z a0 hw [] p1 q2 (4 : Int32) h22 n0 sz22 ) hZ (hw _ (List.mem_of_getElem? (i := 4) rfl)) (hw _ (List.mem_of_getElem? (i := 3) rfl)) (by decide) (by decide)) (g := (mkF m 52 #[.val (.int p1), .val (.long q2), .second, .val (.int p3), .val (.int p4), .val (.ref b2), .unset, .unset, .unset] [(.int (4 : Int32)), (.long q2), (.int p1), (.int (4 : Int32)), (.ref b2)])) rfl (by rw [hml]; rfl) (argsL := [(.int p1), (.long q2), (.int (4 : Int32))]) (rest := [(.int (4 : Int32)), (.ref b2)]) (lenOf pd_oIJIcB rfl) rfl (by show 2 * 0 + _ ≤ _; exact Nat.le_of_eq rfl) (hb hby at_52) (fun _ _ => ⟨rfl, eh22, (by decide : 1 + 0 ≤ _), (by decide : 6 + 0 ≤ _)⟩)
  dsimp only [Pt.U, Pt.locs, Pt.cells, Pt.slots] at X25 l25 y25 z25 st25 hQ25
  subst l25 y25 z25
  obtain ⟨rfl, N25q, eh25⟩ := hQ25
  have N25 := Fr.app N22 N25q
  have pre26 : ∀ t, Steps p.tables e below (T25.setTop (mkF m 55 #[.val (.int p1), .val (.long q2), .second, .val (.int p3), .val (.int p4), .val (.ref b2), .unset, .unset, .unset] [(.int (own_pick p1 q2 (4 : Int32))), (.int (4 : Int32)), (.ref b2)])) t → Steps p.tables e below (s₁.setTop (entryFrame m #[(.int p1), (.long q2), (.int p3), (.int p4)] maxLocals)) t := fun t k => pre24 t (st25 _ k)
  obtain ⟨x4, h_x4⟩ : ∃ z : Int32, z = (own_pick p1 q2 (4 : Int32)) := ⟨_, rfl⟩
  rw [← h_x4] at pre26
  obtain ⟨cl27, Ar27, q27, S27, N27q, H27, G27⟩ := V_b2__22
  have hin27 : ¬ ((4 : Int32) < 0 ∨ cl27.slots.size ≤ ((4 : Int32)).toNatClampNeg) := inb_of S27 ⟨by decide, by decide⟩
  obtain ⟨T27, h27, X27, eh27, W27, st27⟩ := stB X25 hx hZ eh25 Ar27 (j := (4 : Int32)) hin27 (g := (mkF m 55 #[.val (.int p1), .val (.long q2), .second, .val (.int p3), .val (.int p4), .val (.ref b2), .unset, .unset, .unset] [(.int x4), (.int (4 : Int32)), (.ref b2)])) rfl rfl (hb hby at_55)
  have sz27 : n0 ≤ h27.size := Nat.le_trans sz22 (Keep.of_wr W27).1
  have N27 := Fr.snoc X27 N25 g_b2
  have V_b2__27 : Arv Z h27 b2 k2 .byte (6 : Int32) [(.int (nar .byte x0)), (.int (nar .byte x1)), (.int (nar .byte x2)), (.int (nar .byte x3)), (.int (nar .byte x4)), (.int (0 : Int32))] (.int (0 : Int32)) := Arv.set Ar27 q27 S27 N27q H27 G27 (fits_nar_byte _) W27 4 rfl (Nat.le_of_ble_eq_true rfl)
  have pre28 : ∀ t, Steps p.tables e below (T27.setTop (mkF m 56 #[.val (.int p1), .val (.long q2), .second, .val (.int p3), .val (.int p4), .val (.ref b2), .unset, .unset, .unset] [])) t → Steps p.tables e below (s₁.setTop (entryFrame m #[(.int p1), (.long q2), (.int p3), (.int p4)] maxLocals)) t := fun t k => pre26 t (st27 _ k)
  have pre29 : ∀ t, Steps p.tables e below (T27.setTop (mkF m 62 #[.val (.int p1), .val (.long q2), .second, .val (.int p3), .val (.int p4), .val (.ref b2), .unset, .unset, .unset] [(.int (5 : Int32)), (.long q2), (.int p1), (.int (5 : Int32)), (.ref b2)])) t → Steps p.tables e below (s₁.setTop (entryFrame m #[(.int p1), (.long q2), (.int p3), (.int p4)] maxLocals)) t := fun t k => pre28 t (by
    show Steps p.tables e below (T27.setTop (mkF m 56 #[.val (.int p1), .val (.long q2), .second, .val (.int p3), .val (.int p4), .val (.ref b2), .unset, .unset, .unset] [])) t
    refine XS.aload X27.here hx rfl (hb hby at_56) rfl rfl ?_
    show Steps p.tables e below (T27.setTop (mkF m 58 #[.val (.int p1), .val (.long q2), .second, .val (.int p3), .val (.int p4), .val (.ref b2), .unset, .unset, .unset] [(.ref b2)])) t
    refine XS.iconst X27.here hx rfl (hb hby at_58) ?_
    show Steps p.tables e below (T27.setTop (mkF m 59 #[.val (.int p1), .val (.long q2), .second, .val (.int p3), .val (.int p4), .val (.ref b2), .unset, .unset, .unset] [(.int (5 : Int32)), (.ref b2)])) t
    refine XS.iloadN X27.here hx rfl (hb hby at_59) rfl ?_
    show Steps p.tables e below (T27.setTop (mkF m 60 #[.val (.int p1), .val (.long q2), .second, .val (.int p3), .val (.int p4), .val (.ref b2), .unset, .unset, .unset] [(.int p1), (.int (5 : Int32)), (.ref b2)])) t
    refine XT.lloadN X27.here hx rfl (hb hby at_60) rfl ?_
    show Steps p.tables e below (T27.setTop (mkF m 61 #[.val (.int p1), .val (.long q2), .second, .val (.int p3), .val (.int p4), .val (.ref b2), .unset, .unset, .unset] [(.long q2), (.int p1), (.int (5 : Int32)), (.ref b2)])) t
    refine XS.iconst X27.here hx rfl (hb hby at_61) ?_
    show Steps p.tables e below (T27.setTop (mkF m 62 #[.val (.int p1), .val (.long q2), .second, .val (.int p3), .val (.int p4), .val (.ref b2), .unset, .unset, .unset] [(.int (5 : Int32)), (.long q2), (.int p1), (.int (5 : Int32)), (.ref b2)])) t
    exact k)
  obtain ⟨_, _, ⟨T30, L30, k30, n30⟩, -, X30, ⟨Lc30, hQ30, l30, y30, z30⟩, st30⟩ := Jvm.LawKit.callS X27 hx (y := (⟨"com/example/pledgeway/pledgeway/http/HeadEndPinLaw", "pick", "(IJI)B"⟩ : MethodName)) hown (mvT hZ (hw _ (List.mem_of_getElem? (i := 1) rfl))) (mvT hZ (hw _ (List.mem_of_getElem? (i := 2) rfl))) (mvT hZ (hw _ (List.mem_of_getElem? (i := 3) rfl))) (mvT hZ (hw _ (List.mem_of_getElem? (i := 4) rfl))) (by decide) (backOf (W := 2) (rm1 l Z a0 hw [] p1 q2 (5 : Int32) h27 n0 sz27 ) hZ (hw _ (List.mem_of_getElem? (i := 4) rfl)) (hw _ (List.mem_of_getElem? (i := 3) rfl)) (by decide) (by decide)) (g := (mkF m 62 #[.val (.int p1), .val (.long q2), .second, .val (.int p3), .val (.int p4), .val (.ref b2), .unset, .unset, .unset] [(.int (5 : Int32)), (.long q2), (.int p1), (.int (5 : Int32)), (.ref b2)])) rfl (by rw [hml]; rfl) (argsL := [(.int p1), (.long q2), (.int (5 : Int32))]) (rest := [(.int (5 : Int32)), (.ref b2)]) (lenOf pd_oIJIcB rfl) rfl (by show 2 * 0 + _ ≤ _; exact Nat.le_of_eq rfl) (hb hby at_62) (fun _ _ => ⟨rfl, eh27, (by decide : 1 + 0 ≤ _), (by decide : 6 + 0 ≤ _)⟩)
  dsimp only [Pt.U, Pt.locs, Pt.cells, Pt.slots] at X30 l30 y30 z30 st30 hQ30
  subst l30 y30 z30
  obtain ⟨rfl, N30q, eh30⟩ := hQ30
  have N30 := Fr.app N27 N30q
  have pre31 : ∀ t, Steps p.tables e below (T30.setTop (mkF m 65 #[.val (.int p1), .val (.long q2), .second, .val (.int p3), .val (.int p4), .val (.ref b2), .unset, .unset, .unset] [(.int (own_pick p1 q2 (5 : Int32))), (.int (5 : Int32)), (.ref b2)])) t → Steps p.tables e below (s₁.setTop (entryFrame m #[(.int p1), (.long q2), (.int p3), (.int p4)] maxLocals)) t := fun t k => pre29 t (st30 _ k)
  obtain ⟨x5, h_x5⟩ : ∃ z : Int32, z = (own_pick p1 q2 (5 : Int32)) := ⟨_, rfl⟩
  rw [← h_x5] at pre31
  obtain ⟨cl32, Ar32, q32, S32, N32q, H32, G32⟩ := V_b2__27
  have hin32 : ¬ ((5 : Int32) < 0 ∨ cl32.slots.size ≤ ((5 : Int32)).toNatClampNeg) := inb_of S32 ⟨by decide, by decide⟩
  obtain ⟨T32, h32, X32, eh32, W32, st32⟩ := stB X30 hx hZ eh30 Ar32 (j := (5 : Int32)) hin32 (g := (mkF m 65 #[.val (.int p1), .val (.long q2), .second, .val (.int p3), .val (.int p4), .val (.ref b2), .unset, .unset, .unset] [(.int x5), (.int (5 : Int32)), (.ref b2)])) rfl rfl (hb hby at_65)
  have sz32 : n0 ≤ h32.size := Nat.le_trans sz27 (Keep.of_wr W32).1
  have N32 := Fr.snoc X32 N30 g_b2
  have V_b2__32 : Arv Z h32 b2 k2 .byte (6 : Int32) [(.int (nar .byte x0)), (.int (nar .byte x1)), (.int (nar .byte x2)), (.int (nar .byte x3)), (.int (nar .byte x4)), (.int (nar .byte x5))] (.int (0 : Int32)) := Arv.set Ar32 q32 S32 N32q H32 G32 (fits_nar_byte _) W32 5 rfl (Nat.le_of_ble_eq_true rfl)
  have pre33 : ∀ t, Steps p.tables e below (T32.setTop (mkF m 66 #[.val (.int p1), .val (.long q2), .second, .val (.int p3), .val (.int p4), .val (.ref b2), .unset, .unset, .unset] [])) t → Steps p.tables e below (s₁.setTop (entryFrame m #[(.int p1), (.long q2), (.int p3), (.int p4)] maxLocals)) t := fun t k => pre31 t (st32 _ k)
  have pre34 : ∀ t, Steps p.tables e below (T32.setTop (mkF m 75 #[.val (.int p1), .val (.long q2), .second, .val (.int p3), .val (.int p4), .val (.ref b2), .val (.int ((p3 &&& (2147483647 : Int32)) % (7 : Int32))), .unset, .unset] [])) t → Steps p.tables e below (s₁.setTop (entryFrame m #[(.int p1), (.long q2), (.int p3), (.int p4)] maxLocals)) t := fun t k => pre33 t (by
    show Steps p.tables e below (T32.setTop (mkF m 66 #[.val (.int p1), .val (.long q2), .second, .val (.int p3), .val (.int p4), .val (.ref b2), .unset, .unset, .unset] [])) t
    refine XS.iloadN X32.here hx rfl (hb hby at_66) rfl ?_
    show Steps p.tables e below (T32.setTop (mkF m 67 #[.val (.int p1), .val (.long q2), .second, .val (.int p3), .val (.int p4), .val (.ref b2), .unset, .unset, .unset] [(.int p3)])) t
    refine X32.ldcInt hx hown (mvT hZ (hw _ (List.mem_of_getElem? (i := 5) rfl))) (g := (mkF m 67 #[.val (.int p1), .val (.long q2), .second, .val (.int p3), .val (.int p4), .val (.ref b2), .unset, .unset, .unset] [(.int p3)])) rfl (hb hby at_67) _ ?_
    show Steps p.tables e below (T32.setTop (mkF m 69 #[.val (.int p1), .val (.long q2), .second, .val (.int p3), .val (.int p4), .val (.ref b2), .unset, .unset, .unset] [(.int (2147483647 : Int32)), (.int p3)])) t
    refine XS.iand X32.here hx rfl (hb hby at_69) rfl ?_
    show Steps p.tables e below (T32.setTop (mkF m 70 #[.val (.int p1), .val (.long q2), .second, .val (.int p3), .val (.int p4), .val (.ref b2), .unset, .unset, .unset] [(.int (p3 &&& (2147483647 : Int32)))])) t
    refine XS.bipush X32.here hx rfl (hb hby at_70) ?_
    show Steps p.tables e below (T32.setTop (mkF m 72 #[.val (.int p1), .val (.long q2), .second, .val (.int p3), .val (.int p4), .val (.ref b2), .unset, .unset, .unset] [(.int (7 : Int32)), (.int (p3 &&& (2147483647 : Int32)))])) t
    refine iremM X32 hx rfl (hb hby at_72) rfl (by decide) ?_
    show Steps p.tables e below (T32.setTop (mkF m 73 #[.val (.int p1), .val (.long q2), .second, .val (.int p3), .val (.int p4), .val (.ref b2), .unset, .unset, .unset] [(.int ((p3 &&& (2147483647 : Int32)) % (7 : Int32)))])) t
    refine XS.istore X32.here hx rfl (hb hby at_73) rfl (l' := #[.val (.int p1), .val (.long q2), .second, .val (.int p3), .val (.int p4), .val (.ref b2), .val (.int ((p3 &&& (2147483647 : Int32)) % (7 : Int32))), .unset, .unset]) rfl ?_
    show Steps p.tables e below (T32.setTop (mkF m 75 #[.val (.int p1), .val (.long q2), .second, .val (.int p3), .val (.int p4), .val (.ref b2), .val (.int ((p3 &&& (2147483647 : Int32)) % (7 : Int32))), .unset, .unset] [])) t
    exact k)
  obtain ⟨fr, h_fr⟩ : ∃ z : Int32, z = ((p3 &&& (2147483647 : Int32)) % (7 : Int32)) := ⟨_, rfl⟩
  rw [← h_fr] at pre34
  have hfr : 0 ≤ fr.toInt ∧ fr.toInt ≤ 6 := by rw [h_fr]; exact own_fr _
  have pre35 : ∀ t, Steps p.tables e below (T32.setTop (mkF m 91 #[.val (.int p1), .val (.long q2), .second, .val (.int p3), .val (.int p4), .val (.ref b2), .val (.int fr), .val (.int (fr + ((p4 &&& (2147483647 : Int32)) % ((7 : Int32) - fr)))), .unset] [])) t → Steps p.tables e below (s₁.setTop (entryFrame m #[(.int p1), (.long q2), (.int p3), (.int p4)] maxLocals)) t := fun t k => pre34 t (by
    show Steps p.tables e below (T32.setTop (mkF m 75 #[.val (.int p1), .val (.long q2), .second, .val (.int p3), .val (.int p4), .val (.ref b2), .val (.int fr), .unset, .unset] [])) t
    refine XS.iload X32.here hx rfl (hb hby at_75) rfl ?_
    show Steps p.tables e below (T32.setTop (mkF m 77 #[.val (.int p1), .val (.long q2), .second, .val (.int p3), .val (.int p4), .val (.ref b2), .val (.int fr), .unset, .unset] [(.int fr)])) t
    refine XS.iload X32.here hx rfl (hb hby at_77) rfl ?_
    show Steps p.tables e below (T32.setTop (mkF m 79 #[.val (.int p1), .val (.long q2), .second, .val (.int p3), .val (.int p4), .val (.ref b2), .val (.int fr), .unset, .unset] [(.int p4), (.int fr)])) t
    refine X32.ldcInt hx hown (mvT hZ (hw _ (List.mem_of_getElem? (i := 5) rfl))) (g := (mkF m 79 #[.val (.int p1), .val (.long q2), .second, .val (.int p3), .val (.int p4), .val (.ref b2), .val (.int fr), .unset, .unset] [(.int p4), (.int fr)])) rfl (hb hby at_79) _ ?_
    show Steps p.tables e below (T32.setTop (mkF m 81 #[.val (.int p1), .val (.long q2), .second, .val (.int p3), .val (.int p4), .val (.ref b2), .val (.int fr), .unset, .unset] [(.int (2147483647 : Int32)), (.int p4), (.int fr)])) t
    refine XS.iand X32.here hx rfl (hb hby at_81) rfl ?_
    show Steps p.tables e below (T32.setTop (mkF m 82 #[.val (.int p1), .val (.long q2), .second, .val (.int p3), .val (.int p4), .val (.ref b2), .val (.int fr), .unset, .unset] [(.int (p4 &&& (2147483647 : Int32))), (.int fr)])) t
    refine XS.bipush X32.here hx rfl (hb hby at_82) ?_
    show Steps p.tables e below (T32.setTop (mkF m 84 #[.val (.int p1), .val (.long q2), .second, .val (.int p3), .val (.int p4), .val (.ref b2), .val (.int fr), .unset, .unset] [(.int (7 : Int32)), (.int (p4 &&& (2147483647 : Int32))), (.int fr)])) t
    refine XS.iload X32.here hx rfl (hb hby at_84) rfl ?_
    show Steps p.tables e below (T32.setTop (mkF m 86 #[.val (.int p1), .val (.long q2), .second, .val (.int p3), .val (.int p4), .val (.ref b2), .val (.int fr), .unset, .unset] [(.int fr), (.int (7 : Int32)), (.int (p4 &&& (2147483647 : Int32))), (.int fr)])) t
    refine XS.isub X32.here hx rfl (hb hby at_86) rfl ?_
    show Steps p.tables e below (T32.setTop (mkF m 87 #[.val (.int p1), .val (.long q2), .second, .val (.int p3), .val (.int p4), .val (.ref b2), .val (.int fr), .unset, .unset] [(.int ((7 : Int32) - fr)), (.int (p4 &&& (2147483647 : Int32))), (.int fr)])) t
    refine iremM X32 hx rfl (hb hby at_87) rfl (own_nz hfr) ?_
    show Steps p.tables e below (T32.setTop (mkF m 88 #[.val (.int p1), .val (.long q2), .second, .val (.int p3), .val (.int p4), .val (.ref b2), .val (.int fr), .unset, .unset] [(.int ((p4 &&& (2147483647 : Int32)) % ((7 : Int32) - fr))), (.int fr)])) t
    refine XS.iadd X32.here hx rfl (hb hby at_88) rfl ?_
    show Steps p.tables e below (T32.setTop (mkF m 89 #[.val (.int p1), .val (.long q2), .second, .val (.int p3), .val (.int p4), .val (.ref b2), .val (.int fr), .unset, .unset] [(.int (fr + ((p4 &&& (2147483647 : Int32)) % ((7 : Int32) - fr))))])) t
    refine XS.istore X32.here hx rfl (hb hby at_89) rfl (l' := #[.val (.int p1), .val (.long q2), .second, .val (.int p3), .val (.int p4), .val (.ref b2), .val (.int fr), .val (.int (fr + ((p4 &&& (2147483647 : Int32)) % ((7 : Int32) - fr)))), .unset]) rfl ?_
    show Steps p.tables e below (T32.setTop (mkF m 91 #[.val (.int p1), .val (.long q2), .second, .val (.int p3), .val (.int p4), .val (.ref b2), .val (.int fr), .val (.int (fr + ((p4 &&& (2147483647 : Int32)) % ((7 : Int32) - fr)))), .unset] [])) t
    exact k)
  obtain ⟨lim, h_lim⟩ : ∃ z : Int32, z = (fr + ((p4 &&& (2147483647 : Int32)) % ((7 : Int32) - fr))) := ⟨_, rfl⟩
  rw [← h_lim] at pre35
  have hto : fr.toInt ≤ lim.toInt ∧ lim.toInt ≤ 6 := by rw [h_lim]; exact own_to _ hfr
  have pre36 : ∀ t, Steps p.tables e below (T32.setTop (mkF m 98 #[.val (.int p1), .val (.long q2), .second, .val (.int p3), .val (.int p4), .val (.ref b2), .val (.int fr), .val (.int lim), .unset] [(.int (2 : Int32)), (.int lim), (.int fr), (.ref b2)])) t → Steps p.tables e below (s₁.setTop (entryFrame m #[(.int p1), (.long q2), (.int p3), (.int p4)] maxLocals)) t := fun t k => pre35 t (by
    show Steps p.tables e below (T32.setTop (mkF m 91 #[.val (.int p1), .val (.long q2), .second, .val (.int p3), .val (.int p4), .val (.ref b2), .val (.int fr), .val (.int lim), .unset] [])) t
    refine XS.aload X32.here hx rfl (hb hby at_91) rfl rfl ?_
    show Steps p.tables e below (T32.setTop (mkF m 93 #[.val (.int p1), .val (.long q2), .second, .val (.int p3), .val (.int p4), .val (.ref b2), .val (.int fr), .val (.int lim), .unset] [(.ref b2)])) t
    refine XS.iload X32.here hx rfl (hb hby at_93) rfl ?_
    show Steps p.tables e below (T32.setTop (mkF m 95 #[.val (.int p1), .val (.long q2), .second, .val (.int p3), .val (.int p4), .val (.ref b2), .val (.int fr), .val (.int lim), .unset] [(.int fr), (.ref b2)])) t
    refine XS.iload X32.here hx rfl (hb hby at_95) rfl ?_
    show Steps p.tables e below (T32.setTop (mkF m 97 #[.val (.int p1), .val (.long q2), .second, .val (.int p3), .val (.int p4), .val (.ref b2), .val (.int fr), .val (.int lim), .unset] [(.int lim), (.int fr), (.ref b2)])) t
    refine XS.iconst X32.here hx rfl (hb hby at_97) ?_
    show Steps p.tables e below (T32.setTop (mkF m 98 #[.val (.int p1), .val (.long q2), .second, .val (.int p3), .val (.int p4), .val (.ref b2), .val (.int fr), .val (.int lim), .unset] [(.int (2 : Int32)), (.int lim), (.int fr), (.ref b2)])) t
    exact k)
  obtain ⟨_, _, ⟨T37, L37, k37, n37⟩, -, X37, ⟨Lc37, hQ37, l37, y37, z37⟩, st37⟩ := Jvm.LawKit.callS X32 hx (y := (⟨"com/example/pledgeway/pledgeway/http/HeadEndPinLaw", "endsAt", "([BIII)Z"⟩ : MethodName)) hown (mvT hZ (hw _ (List.mem_of_getElem? (i := 6) rfl))) (mvT hZ (hw _ (List.mem_of_getElem? (i := 7) rfl))) (mvT hZ (hw _ (List.mem_of_getElem? (i := 3) rfl))) (mvT hZ (hw _ (List.mem_of_getElem? (i := 8) rfl))) (by decide) (backOf (W := 0) (rm2 l Z a0 hw [] b2 fr lim (2 : Int32) k2 (nar .byte x0) (nar .byte x1) (nar .byte x2) (nar .byte x3) (nar .byte x4) (nar .byte x5) h32 n0 sz32 V_b2__32 (show own_E fr lim (2 : Int32) from own_hE _ hfr hto (by decide))) hZ (hw _ (List.mem_of_getElem? (i := 8) rfl)) (hw _ (List.mem_of_getElem? (i := 3) rfl)) (by decide) (by decide)) (g := (mkF m 98 #[.val (.int p1), .val (.long q2), .second, .val (.int p3), .val (.int p4), .val (.ref b2), .val (.int fr), .val (.int lim), .unset] [(.int (2 : Int32)), (.int lim), (.int fr), (.ref b2)])) rfl (by rw [hml]; rfl) (argsL := [(.ref b2), (.int fr), (.int lim), (.int (2 : Int32))]) (rest := []) (lenOf pd_oaBIIIcZ rfl) rfl (by show 2 * 0 + _ ≤ _; exact Nat.le_of_eq rfl) (hb hby at_98) (fun _ _ => ⟨rfl, eh32, (by decide : 1 + 0 ≤ _), (by decide : 6 + 0 ≤ _)⟩)
  dsimp only [Pt.U, Pt.locs, Pt.cells, Pt.slots] at X37 l37 y37 z37 st37 hQ37
  subst l37 y37 z37
  obtain ⟨rfl, N37q, eh37⟩ := hQ37
  have N37 := Fr.app N32 N37q
  have pre38 : ∀ t, Steps p.tables e below (T37.setTop (mkF m 101 #[.val (.int p1), .val (.long q2), .second, .val (.int p3), .val (.int p4), .val (.ref b2), .val (.int fr), .val (.int lim), .unset] [(.int (own_ea (nar .byte x0) (nar .byte x1) (nar .byte x2) (nar .byte x3) (nar .byte x4) (nar .byte x5) fr lim (2 : Int32)))])) t → Steps p.tables e below (s₁.setTop (entryFrame m #[(.int p1), (.long q2), (.int p3), (.int p4)] maxLocals)) t := fun t k => pre36 t (st37 _ k)
  by_cases hc101_39 : (own_ea (nar .byte x0) (nar .byte x1) (nar .byte x2) (nar .byte x3) (nar .byte x4) (nar .byte x5) fr lim (2 : Int32)) = (0 : Int32)
  · skip
    have pre40 : ∀ t, Steps p.tables e below (T37.setTop (mkF m 117 #[.val (.int p1), .val (.long q2), .second, .val (.int p3), .val (.int p4), .val (.ref b2), .val (.int fr), .val (.int lim), .unset] [(.int (3 : Int32)), (.int lim), (.int fr), (.ref b2)])) t → Steps p.tables e below (s₁.setTop (entryFrame m #[(.int p1), (.long q2), (.int p3), (.int p4)] maxLocals)) t := fun t k => pre38 t (by
      show Steps p.tables e below (T37.setTop (mkF m 101 #[.val (.int p1), .val (.long q2), .second, .val (.int p3), .val (.int p4), .val (.ref b2), .val (.int fr), .val (.int lim), .unset] [(.int (own_ea (nar .byte x0) (nar .byte x1) (nar .byte x2) (nar .byte x3) (nar .byte x4) (nar .byte x5) fr lim (2 : Int32)))])) t
      refine XS.ifYes X37.here hx rfl (pc0 := 101) (pc' := 110) rfl (hb hby at_101) rfl (XT.i0_eq_t hc101_39) (by decide) (by decide) ?_
      show Steps p.tables e below (T37.setTop (mkF m 110 #[.val (.int p1), .val (.long q2), .second, .val (.int p3), .val (.int p4), .val (.ref b2), .val (.int fr), .val (.int lim), .unset] [])) t
      refine XS.aload X37.here hx rfl (hb hby at_110) rfl rfl ?_
      show Steps p.tables e below (T37.setTop (mkF m 112 #[.val (.int p1), .val (.long q2), .second, .val (.int p3), .val (.int p4), .val (.ref b2), .val (.int fr), .val (.int lim), .unset] [(.ref b2)])) t
      refine XS.iload X37.here hx rfl (hb hby at_112) rfl ?_
      show Steps p.tables e below (T37.setTop (mkF m 114 #[.val (.int p1), .val (.long q2), .second, .val (.int p3), .val (.int p4), .val (.ref b2), .val (.int fr), .val (.int lim), .unset] [(.int fr), (.ref b2)])) t
      refine XS.iload X37.here hx rfl (hb hby at_114) rfl ?_
      show Steps p.tables e below (T37.setTop (mkF m 116 #[.val (.int p1), .val (.long q2), .second, .val (.int p3), .val (.int p4), .val (.ref b2), .val (.int fr), .val (.int lim), .unset] [(.int lim), (.int fr), (.ref b2)])) t
      refine XS.iconst X37.here hx rfl (hb hby at_116) ?_
      show Steps p.tables e below (T37.setTop (mkF m 117 #[.val (.int p1), .val (.long q2), .second, .val (.int p3), .val (.int p4), .val (.ref b2), .val (.int fr), .val (.int lim), .unset] [(.int (3 : Int32)), (.int lim), (.int fr), (.ref b2)])) t
      exact k)
    obtain ⟨_, _, ⟨T41, L41, k41, n41⟩, -, X41, ⟨Lc41, hQ41, l41, y41, z41⟩, st41⟩ := Jvm.LawKit.callS X37 hx (y := (⟨"com/example/pledgeway/pledgeway/http/HeadEndPinLaw", "endsAt", "([BIII)Z"⟩ : MethodName)) hown (mvT hZ (hw _ (List.mem_of_getElem? (i := 6) rfl))) (mvT hZ (hw _ (List.mem_of_getElem? (i := 7) rfl))) (mvT hZ (hw _ (List.mem_of_getElem? (i := 3) rfl))) (mvT hZ (hw _ (List.mem_of_getElem? (i := 8) rfl))) (by decide) (backOf (W := 0) (rm2 l Z a0 hw [] b2 fr lim (3 : Int32) k2 (nar .byte x0) (nar .byte x1) (nar .byte x2) (nar .byte x3) (nar .byte x4) (nar .byte x5) h32 n0 sz32 V_b2__32 (show own_E fr lim (3 : Int32) from own_hE _ hfr hto (by decide))) hZ (hw _ (List.mem_of_getElem? (i := 8) rfl)) (hw _ (List.mem_of_getElem? (i := 3) rfl)) (by decide) (by decide)) (g := (mkF m 117 #[.val (.int p1), .val (.long q2), .second, .val (.int p3), .val (.int p4), .val (.ref b2), .val (.int fr), .val (.int lim), .unset] [(.int (3 : Int32)), (.int lim), (.int fr), (.ref b2)])) rfl (by rw [hml]; rfl) (argsL := [(.ref b2), (.int fr), (.int lim), (.int (3 : Int32))]) (rest := []) (lenOf pd_oaBIIIcZ rfl) rfl (by show 2 * 0 + _ ≤ _; exact Nat.le_of_eq rfl) (hb hby at_117) (fun _ _ => ⟨rfl, eh37, (by decide : 1 + 0 ≤ _), (by decide : 6 + 0 ≤ _)⟩)
    dsimp only [Pt.U, Pt.locs, Pt.cells, Pt.slots] at X41 l41 y41 z41 st41 hQ41
    subst l41 y41 z41
    obtain ⟨rfl, N41q, eh41⟩ := hQ41
    have N41 := Fr.app N37 N41q
    have pre42 : ∀ t, Steps p.tables e below (T41.setTop (mkF m 120 #[.val (.int p1), .val (.long q2), .second, .val (.int p3), .val (.int p4), .val (.ref b2), .val (.int fr), .val (.int lim), .unset] [(.int (own_ea (nar .byte x0) (nar .byte x1) (nar .byte x2) (nar .byte x3) (nar .byte x4) (nar .byte x5) fr lim (3 : Int32)))])) t → Steps p.tables e below (s₁.setTop (entryFrame m #[(.int p1), (.long q2), (.int p3), (.int p4)] maxLocals)) t := fun t k => pre40 t (st41 _ k)
    by_cases hc120_43 : (own_ea (nar .byte x0) (nar .byte x1) (nar .byte x2) (nar .byte x3) (nar .byte x4) (nar .byte x5) fr lim (3 : Int32)) = (0 : Int32)
    · skip
      have pre44 : ∀ t, Steps p.tables e below (T41.setTop (mkF m 136 #[.val (.int p1), .val (.long q2), .second, .val (.int p3), .val (.int p4), .val (.ref b2), .val (.int fr), .val (.int lim), .unset] [(.int (4 : Int32)), (.int lim), (.int fr), (.ref b2)])) t → Steps p.tables e below (s₁.setTop (entryFrame m #[(.int p1), (.long q2), (.int p3), (.int p4)] maxLocals)) t := fun t k => pre42 t (by
        show Steps p.tables e below (T41.setTop (mkF m 120 #[.val (.int p1), .val (.long q2), .second, .val (.int p3), .val (.int p4), .val (.ref b2), .val (.int fr), .val (.int lim), .unset] [(.int (own_ea (nar .byte x0) (nar .byte x1) (nar .byte x2) (nar .byte x3) (nar .byte x4) (nar .byte x5) fr lim (3 : Int32)))])) t
        refine XS.ifYes X41.here hx rfl (pc0 := 120) (pc' := 129) rfl (hb hby at_120) rfl (XT.i0_eq_t hc120_43) (by decide) (by decide) ?_
        show Steps p.tables e below (T41.setTop (mkF m 129 #[.val (.int p1), .val (.long q2), .second, .val (.int p3), .val (.int p4), .val (.ref b2), .val (.int fr), .val (.int lim), .unset] [])) t
        refine XS.aload X41.here hx rfl (hb hby at_129) rfl rfl ?_
        show Steps p.tables e below (T41.setTop (mkF m 131 #[.val (.int p1), .val (.long q2), .second, .val (.int p3), .val (.int p4), .val (.ref b2), .val (.int fr), .val (.int lim), .unset] [(.ref b2)])) t
        refine XS.iload X41.here hx rfl (hb hby at_131) rfl ?_
        show Steps p.tables e below (T41.setTop (mkF m 133 #[.val (.int p1), .val (.long q2), .second, .val (.int p3), .val (.int p4), .val (.ref b2), .val (.int fr), .val (.int lim), .unset] [(.int fr), (.ref b2)])) t
        refine XS.iload X41.here hx rfl (hb hby at_133) rfl ?_
        show Steps p.tables e below (T41.setTop (mkF m 135 #[.val (.int p1), .val (.long q2), .second, .val (.int p3), .val (.int p4), .val (.ref b2), .val (.int fr), .val (.int lim), .unset] [(.int lim), (.int fr), (.ref b2)])) t
        refine XS.iconst X41.here hx rfl (hb hby at_135) ?_
        show Steps p.tables e below (T41.setTop (mkF m 136 #[.val (.int p1), .val (.long q2), .second, .val (.int p3), .val (.int p4), .val (.ref b2), .val (.int fr), .val (.int lim), .unset] [(.int (4 : Int32)), (.int lim), (.int fr), (.ref b2)])) t
        exact k)
      obtain ⟨_, _, ⟨T45, L45, k45, n45⟩, -, X45, ⟨Lc45, hQ45, l45, y45, z45⟩, st45⟩ := Jvm.LawKit.callS X41 hx (y := (⟨"com/example/pledgeway/pledgeway/http/HeadEndPinLaw", "endsAt", "([BIII)Z"⟩ : MethodName)) hown (mvT hZ (hw _ (List.mem_of_getElem? (i := 6) rfl))) (mvT hZ (hw _ (List.mem_of_getElem? (i := 7) rfl))) (mvT hZ (hw _ (List.mem_of_getElem? (i := 3) rfl))) (mvT hZ (hw _ (List.mem_of_getElem? (i := 8) rfl))) (by decide) (backOf (W := 0) (rm2 l Z a0 hw [] b2 fr lim (4 : Int32) k2 (nar .byte x0) (nar .byte x1) (nar .byte x2) (nar .byte x3) (nar .byte x4) (nar .byte x5) h32 n0 sz32 V_b2__32 (show own_E fr lim (4 : Int32) from own_hE _ hfr hto (by decide))) hZ (hw _ (List.mem_of_getElem? (i := 8) rfl)) (hw _ (List.mem_of_getElem? (i := 3) rfl)) (by decide) (by decide)) (g := (mkF m 136 #[.val (.int p1), .val (.long q2), .second, .val (.int p3), .val (.int p4), .val (.ref b2), .val (.int fr), .val (.int lim), .unset] [(.int (4 : Int32)), (.int lim), (.int fr), (.ref b2)])) rfl (by rw [hml]; rfl) (argsL := [(.ref b2), (.int fr), (.int lim), (.int (4 : Int32))]) (rest := []) (lenOf pd_oaBIIIcZ rfl) rfl (by show 2 * 0 + _ ≤ _; exact Nat.le_of_eq rfl) (hb hby at_136) (fun _ _ => ⟨rfl, eh41, (by decide : 1 + 0 ≤ _), (by decide : 6 + 0 ≤ _)⟩)
      dsimp only [Pt.U, Pt.locs, Pt.cells, Pt.slots] at X45 l45 y45 z45 st45 hQ45
      subst l45 y45 z45
      obtain ⟨rfl, N45q, eh45⟩ := hQ45
      have N45 := Fr.app N41 N45q
      have pre46 : ∀ t, Steps p.tables e below (T45.setTop (mkF m 139 #[.val (.int p1), .val (.long q2), .second, .val (.int p3), .val (.int p4), .val (.ref b2), .val (.int fr), .val (.int lim), .unset] [(.int (own_ea (nar .byte x0) (nar .byte x1) (nar .byte x2) (nar .byte x3) (nar .byte x4) (nar .byte x5) fr lim (4 : Int32)))])) t → Steps p.tables e below (s₁.setTop (entryFrame m #[(.int p1), (.long q2), (.int p3), (.int p4)] maxLocals)) t := fun t k => pre44 t (st45 _ k)
      by_cases hc139_47 : (own_ea (nar .byte x0) (nar .byte x1) (nar .byte x2) (nar .byte x3) (nar .byte x4) (nar .byte x5) fr lim (4 : Int32)) = (0 : Int32)
      · skip
        have pre48 : ∀ t, Steps p.tables e below (T45.setTop (mkF m 155 #[.val (.int p1), .val (.long q2), .second, .val (.int p3), .val (.int p4), .val (.ref b2), .val (.int fr), .val (.int lim), .unset] [(.int (5 : Int32)), (.int lim), (.int fr), (.ref b2)])) t → Steps p.tables e below (s₁.setTop (entryFrame m #[(.int p1), (.long q2), (.int p3), (.int p4)] maxLocals)) t := fun t k => pre46 t (by
          show Steps p.tables e below (T45.setTop (mkF m 139 #[.val (.int p1), .val (.long q2), .second, .val (.int p3), .val (.int p4), .val (.ref b2), .val (.int fr), .val (.int lim), .unset] [(.int (own_ea (nar .byte x0) (nar .byte x1) (nar .byte x2) (nar .byte x3) (nar .byte x4) (nar .byte x5) fr lim (4 : Int32)))])) t
          refine XS.ifYes X45.here hx rfl (pc0 := 139) (pc' := 148) rfl (hb hby at_139) rfl (XT.i0_eq_t hc139_47) (by decide) (by decide) ?_
          show Steps p.tables e below (T45.setTop (mkF m 148 #[.val (.int p1), .val (.long q2), .second, .val (.int p3), .val (.int p4), .val (.ref b2), .val (.int fr), .val (.int lim), .unset] [])) t
          refine XS.aload X45.here hx rfl (hb hby at_148) rfl rfl ?_
          show Steps p.tables e below (T45.setTop (mkF m 150 #[.val (.int p1), .val (.long q2), .second, .val (.int p3), .val (.int p4), .val (.ref b2), .val (.int fr), .val (.int lim), .unset] [(.ref b2)])) t
          refine XS.iload X45.here hx rfl (hb hby at_150) rfl ?_
          show Steps p.tables e below (T45.setTop (mkF m 152 #[.val (.int p1), .val (.long q2), .second, .val (.int p3), .val (.int p4), .val (.ref b2), .val (.int fr), .val (.int lim), .unset] [(.int fr), (.ref b2)])) t
          refine XS.iload X45.here hx rfl (hb hby at_152) rfl ?_
          show Steps p.tables e below (T45.setTop (mkF m 154 #[.val (.int p1), .val (.long q2), .second, .val (.int p3), .val (.int p4), .val (.ref b2), .val (.int fr), .val (.int lim), .unset] [(.int lim), (.int fr), (.ref b2)])) t
          refine XS.iconst X45.here hx rfl (hb hby at_154) ?_
          show Steps p.tables e below (T45.setTop (mkF m 155 #[.val (.int p1), .val (.long q2), .second, .val (.int p3), .val (.int p4), .val (.ref b2), .val (.int fr), .val (.int lim), .unset] [(.int (5 : Int32)), (.int lim), (.int fr), (.ref b2)])) t
          exact k)
        obtain ⟨_, _, ⟨T49, L49, k49, n49⟩, -, X49, ⟨Lc49, hQ49, l49, y49, z49⟩, st49⟩ := Jvm.LawKit.callS X45 hx (y := (⟨"com/example/pledgeway/pledgeway/http/HeadEndPinLaw", "endsAt", "([BIII)Z"⟩ : MethodName)) hown (mvT hZ (hw _ (List.mem_of_getElem? (i := 6) rfl))) (mvT hZ (hw _ (List.mem_of_getElem? (i := 7) rfl))) (mvT hZ (hw _ (List.mem_of_getElem? (i := 3) rfl))) (mvT hZ (hw _ (List.mem_of_getElem? (i := 8) rfl))) (by decide) (backOf (W := 0) (rm2 l Z a0 hw [] b2 fr lim (5 : Int32) k2 (nar .byte x0) (nar .byte x1) (nar .byte x2) (nar .byte x3) (nar .byte x4) (nar .byte x5) h32 n0 sz32 V_b2__32 (show own_E fr lim (5 : Int32) from own_hE _ hfr hto (by decide))) hZ (hw _ (List.mem_of_getElem? (i := 8) rfl)) (hw _ (List.mem_of_getElem? (i := 3) rfl)) (by decide) (by decide)) (g := (mkF m 155 #[.val (.int p1), .val (.long q2), .second, .val (.int p3), .val (.int p4), .val (.ref b2), .val (.int fr), .val (.int lim), .unset] [(.int (5 : Int32)), (.int lim), (.int fr), (.ref b2)])) rfl (by rw [hml]; rfl) (argsL := [(.ref b2), (.int fr), (.int lim), (.int (5 : Int32))]) (rest := []) (lenOf pd_oaBIIIcZ rfl) rfl (by show 2 * 0 + _ ≤ _; exact Nat.le_of_eq rfl) (hb hby at_155) (fun _ _ => ⟨rfl, eh45, (by decide : 1 + 0 ≤ _), (by decide : 6 + 0 ≤ _)⟩)
        dsimp only [Pt.U, Pt.locs, Pt.cells, Pt.slots] at X49 l49 y49 z49 st49 hQ49
        subst l49 y49 z49
        obtain ⟨rfl, N49q, eh49⟩ := hQ49
        have N49 := Fr.app N45 N49q
        have pre50 : ∀ t, Steps p.tables e below (T49.setTop (mkF m 158 #[.val (.int p1), .val (.long q2), .second, .val (.int p3), .val (.int p4), .val (.ref b2), .val (.int fr), .val (.int lim), .unset] [(.int (own_ea (nar .byte x0) (nar .byte x1) (nar .byte x2) (nar .byte x3) (nar .byte x4) (nar .byte x5) fr lim (5 : Int32)))])) t → Steps p.tables e below (s₁.setTop (entryFrame m #[(.int p1), (.long q2), (.int p3), (.int p4)] maxLocals)) t := fun t k => pre48 t (st49 _ k)
        by_cases hc158_51 : (own_ea (nar .byte x0) (nar .byte x1) (nar .byte x2) (nar .byte x3) (nar .byte x4) (nar .byte x5) fr lim (5 : Int32)) = (0 : Int32)
        · skip
          have pre52 : ∀ t, Steps p.tables e below (T49.setTop (mkF m 175 #[.val (.int p1), .val (.long q2), .second, .val (.int p3), .val (.int p4), .val (.ref b2), .val (.int fr), .val (.int lim), .unset] [(.int (6 : Int32)), (.int lim), (.int fr), (.ref b2)])) t → Steps p.tables e below (s₁.setTop (entryFrame m #[(.int p1), (.long q2), (.int p3), (.int p4)] maxLocals)) t := fun t k => pre50 t (by
            show Steps p.tables e below (T49.setTop (mkF m 158 #[.val (.int p1), .val (.long q2), .second, .val (.int p3), .val (.int p4), .val (.ref b2), .val (.int fr), .val (.int lim), .unset] [(.int (own_ea (nar .byte x0) (nar .byte x1) (nar .byte x2) (nar .byte x3) (nar .byte x4) (nar .byte x5) fr lim (5 : Int32)))])) t
            refine XS.ifYes X49.here hx rfl (pc0 := 158) (pc' := 167) rfl (hb hby at_158) rfl (XT.i0_eq_t hc158_51) (by decide) (by decide) ?_
            show Steps p.tables e below (T49.setTop (mkF m 167 #[.val (.int p1), .val (.long q2), .second, .val (.int p3), .val (.int p4), .val (.ref b2), .val (.int fr), .val (.int lim), .unset] [])) t
            refine XS.aload X49.here hx rfl (hb hby at_167) rfl rfl ?_
            show Steps p.tables e below (T49.setTop (mkF m 169 #[.val (.int p1), .val (.long q2), .second, .val (.int p3), .val (.int p4), .val (.ref b2), .val (.int fr), .val (.int lim), .unset] [(.ref b2)])) t
            refine XS.iload X49.here hx rfl (hb hby at_169) rfl ?_
            show Steps p.tables e below (T49.setTop (mkF m 171 #[.val (.int p1), .val (.long q2), .second, .val (.int p3), .val (.int p4), .val (.ref b2), .val (.int fr), .val (.int lim), .unset] [(.int fr), (.ref b2)])) t
            refine XS.iload X49.here hx rfl (hb hby at_171) rfl ?_
            show Steps p.tables e below (T49.setTop (mkF m 173 #[.val (.int p1), .val (.long q2), .second, .val (.int p3), .val (.int p4), .val (.ref b2), .val (.int fr), .val (.int lim), .unset] [(.int lim), (.int fr), (.ref b2)])) t
            refine XS.bipush X49.here hx rfl (hb hby at_173) ?_
            show Steps p.tables e below (T49.setTop (mkF m 175 #[.val (.int p1), .val (.long q2), .second, .val (.int p3), .val (.int p4), .val (.ref b2), .val (.int fr), .val (.int lim), .unset] [(.int (6 : Int32)), (.int lim), (.int fr), (.ref b2)])) t
            exact k)
          obtain ⟨_, _, ⟨T53, L53, k53, n53⟩, -, X53, ⟨Lc53, hQ53, l53, y53, z53⟩, st53⟩ := Jvm.LawKit.callS X49 hx (y := (⟨"com/example/pledgeway/pledgeway/http/HeadEndPinLaw", "endsAt", "([BIII)Z"⟩ : MethodName)) hown (mvT hZ (hw _ (List.mem_of_getElem? (i := 6) rfl))) (mvT hZ (hw _ (List.mem_of_getElem? (i := 7) rfl))) (mvT hZ (hw _ (List.mem_of_getElem? (i := 3) rfl))) (mvT hZ (hw _ (List.mem_of_getElem? (i := 8) rfl))) (by decide) (backOf (W := 0) (rm2 l Z a0 hw [] b2 fr lim (6 : Int32) k2 (nar .byte x0) (nar .byte x1) (nar .byte x2) (nar .byte x3) (nar .byte x4) (nar .byte x5) h32 n0 sz32 V_b2__32 (show own_E fr lim (6 : Int32) from own_hE _ hfr hto (by decide))) hZ (hw _ (List.mem_of_getElem? (i := 8) rfl)) (hw _ (List.mem_of_getElem? (i := 3) rfl)) (by decide) (by decide)) (g := (mkF m 175 #[.val (.int p1), .val (.long q2), .second, .val (.int p3), .val (.int p4), .val (.ref b2), .val (.int fr), .val (.int lim), .unset] [(.int (6 : Int32)), (.int lim), (.int fr), (.ref b2)])) rfl (by rw [hml]; rfl) (argsL := [(.ref b2), (.int fr), (.int lim), (.int (6 : Int32))]) (rest := []) (lenOf pd_oaBIIIcZ rfl) rfl (by show 2 * 0 + _ ≤ _; exact Nat.le_of_eq rfl) (hb hby at_175) (fun _ _ => ⟨rfl, eh49, (by decide : 1 + 0 ≤ _), (by decide : 6 + 0 ≤ _)⟩)
          dsimp only [Pt.U, Pt.locs, Pt.cells, Pt.slots] at X53 l53 y53 z53 st53 hQ53
          subst l53 y53 z53
          obtain ⟨rfl, N53q, eh53⟩ := hQ53
          have N53 := Fr.app N49 N53q
          have pre54 : ∀ t, Steps p.tables e below (T53.setTop (mkF m 178 #[.val (.int p1), .val (.long q2), .second, .val (.int p3), .val (.int p4), .val (.ref b2), .val (.int fr), .val (.int lim), .unset] [(.int (own_ea (nar .byte x0) (nar .byte x1) (nar .byte x2) (nar .byte x3) (nar .byte x4) (nar .byte x5) fr lim (6 : Int32)))])) t → Steps p.tables e below (s₁.setTop (entryFrame m #[(.int p1), (.long q2), (.int p3), (.int p4)] maxLocals)) t := fun t k => pre52 t (st53 _ k)
          by_cases hc178_55 : (own_ea (nar .byte x0) (nar .byte x1) (nar .byte x2) (nar .byte x3) (nar .byte x4) (nar .byte x5) fr lim (6 : Int32)) = (0 : Int32)
          · skip
            have pre56 : ∀ t, Steps p.tables e below (T53.setTop (mkF m 197 #[.val (.int p1), .val (.long q2), .second, .val (.int p3), .val (.int p4), .val (.ref b2), .val (.int fr), .val (.int lim), .val (.int (-1 : Int32))] [(.int lim), (.int fr), (.ref b2)])) t → Steps p.tables e below (s₁.setTop (entryFrame m #[(.int p1), (.long q2), (.int p3), (.int p4)] maxLocals)) t := fun t k => pre54 t (by
              show Steps p.tables e below (T53.setTop (mkF m 178 #[.val (.int p1), .val (.long q2), .second, .val (.int p3), .val (.int p4), .val (.ref b2), .val (.int fr), .val (.int lim), .unset] [(.int (own_ea (nar .byte x0) (nar .byte x1) (nar .byte x2) (nar .byte x3) (nar .byte x4) (nar .byte x5) fr lim (6 : Int32)))])) t
              refine XS.ifYes X53.here hx rfl (pc0 := 178) (pc' := 188) rfl (hb hby at_178) rfl (XT.i0_eq_t hc178_55) (by decide) (by decide) ?_
              show Steps p.tables e below (T53.setTop (mkF m 188 #[.val (.int p1), .val (.long q2), .second, .val (.int p3), .val (.int p4), .val (.ref b2), .val (.int fr), .val (.int lim), .unset] [])) t
              refine XS.iconst X53.here hx rfl (hb hby at_188) ?_
              show Steps p.tables e below (T53.setTop (mkF m 189 #[.val (.int p1), .val (.long q2), .second, .val (.int p3), .val (.int p4), .val (.ref b2), .val (.int fr), .val (.int lim), .unset] [(.int (-1 : Int32))])) t
              refine XS.istore X53.here hx rfl (hb hby at_189) rfl (l' := #[.val (.int p1), .val (.long q2), .second, .val (.int p3), .val (.int p4), .val (.ref b2), .val (.int fr), .val (.int lim), .val (.int (-1 : Int32))]) rfl ?_
              show Steps p.tables e below (T53.setTop (mkF m 191 #[.val (.int p1), .val (.long q2), .second, .val (.int p3), .val (.int p4), .val (.ref b2), .val (.int fr), .val (.int lim), .val (.int (-1 : Int32))] [])) t
              refine XS.aload X53.here hx rfl (hb hby at_191) rfl rfl ?_
              show Steps p.tables e below (T53.setTop (mkF m 193 #[.val (.int p1), .val (.long q2), .second, .val (.int p3), .val (.int p4), .val (.ref b2), .val (.int fr), .val (.int lim), .val (.int (-1 : Int32))] [(.ref b2)])) t
              refine XS.iload X53.here hx rfl (hb hby at_193) rfl ?_
              show Steps p.tables e below (T53.setTop (mkF m 195 #[.val (.int p1), .val (.long q2), .second, .val (.int p3), .val (.int p4), .val (.ref b2), .val (.int fr), .val (.int lim), .val (.int (-1 : Int32))] [(.int fr), (.ref b2)])) t
              refine XS.iload X53.here hx rfl (hb hby at_195) rfl ?_
              show Steps p.tables e below (T53.setTop (mkF m 197 #[.val (.int p1), .val (.long q2), .second, .val (.int p3), .val (.int p4), .val (.ref b2), .val (.int fr), .val (.int lim), .val (.int (-1 : Int32))] [(.int lim), (.int fr), (.ref b2)])) t
              exact k)
            obtain ⟨_, _, ⟨T57, L57, k57, n57⟩, -, X57, ⟨Lc57, hQ57, l57, y57, z57⟩, st57⟩ := Jvm.LawKit.callS X53 hx (y := (⟨"com/example/pledgeway/pledgeway/http/Head", "end", "([BII)I"⟩ : MethodName)) hown (mvT hZ (hw _ (List.mem_of_getElem? (i := 9) rfl))) (mvT hZ (hw _ (List.mem_of_getElem? (i := 10) rfl))) (mvT hZ (hw _ (List.mem_of_getElem? (i := 11) rfl))) (mvT hZ (hw _ (List.mem_of_getElem? (i := 12) rfl))) (by decide) (backOf (W := 0) (rm3 l Z a0 hw [] b2 fr lim k2 (nar .byte x0) (nar .byte x1) (nar .byte x2) (nar .byte x3) (nar .byte x4) (nar .byte x5) h32 n0 sz32 V_b2__32 (show own_I lim 6 fr from own_hI hfr hto)) hZ (hw _ (List.mem_of_getElem? (i := 12) rfl)) (hw _ (List.mem_of_getElem? (i := 11) rfl)) (by decide) (by decide)) (g := (mkF m 197 #[.val (.int p1), .val (.long q2), .second, .val (.int p3), .val (.int p4), .val (.ref b2), .val (.int fr), .val (.int lim), .val (.int (-1 : Int32))] [(.int lim), (.int fr), (.ref b2)])) rfl (by rw [hml]; rfl) (argsL := [(.ref b2), (.int fr), (.int lim)]) (rest := []) (lenOf pd_oaBIIcI rfl) rfl (by show 2 * 0 + _ ≤ _; exact Nat.le_of_eq rfl) (hb hby at_197) (fun _ _ => ⟨rfl, eh53, (by decide : 1 + 0 ≤ _), (by decide : 6 + 0 ≤ _)⟩)
            dsimp only [Pt.U, Pt.locs, Pt.cells, Pt.slots] at X57 l57 y57 z57 st57 hQ57
            subst l57 y57 z57
            obtain ⟨rfl, N57q, eh57⟩ := hQ57
            have N57 := Fr.app N53 N57q
            have pre58 : ∀ t, Steps p.tables e below (T57.setTop (mkF m 200 #[.val (.int p1), .val (.long q2), .second, .val (.int p3), .val (.int p4), .val (.ref b2), .val (.int fr), .val (.int lim), .val (.int (-1 : Int32))] [(.int (own_end (nar .byte x0) (nar .byte x1) (nar .byte x2) (nar .byte x3) (nar .byte x4) (nar .byte x5) lim 6 fr))])) t → Steps p.tables e below (s₁.setTop (entryFrame m #[(.int p1), (.long q2), (.int p3), (.int p4)] maxLocals)) t := fun t k => pre56 t (st57 _ k)
            have pre60 : ∀ t, Steps p.tables e below (T57.setTop (mkF m 210 #[.val (.int p1), .val (.long q2), .second, .val (.int p3), .val (.int p4), .val (.ref b2), .val (.int fr), .val (.int lim), .val (.int (-1 : Int32))] [(.int (1 : Int32))])) t → Steps p.tables e below (s₁.setTop (entryFrame m #[(.int p1), (.long q2), (.int p3), (.int p4)] maxLocals)) t := fun t k => pre58 t (by
              show Steps p.tables e below (T57.setTop (mkF m 200 #[.val (.int p1), .val (.long q2), .second, .val (.int p3), .val (.int p4), .val (.ref b2), .val (.int fr), .val (.int lim), .val (.int (-1 : Int32))] [(.int (own_end (nar .byte x0) (nar .byte x1) (nar .byte x2) (nar .byte x3) (nar .byte x4) (nar .byte x5) lim 6 fr))])) t
              refine XS.iload X57.here hx rfl (hb hby at_200) rfl ?_
              show Steps p.tables e below (T57.setTop (mkF m 202 #[.val (.int p1), .val (.long q2), .second, .val (.int p3), .val (.int p4), .val (.ref b2), .val (.int fr), .val (.int lim), .val (.int (-1 : Int32))] [(.int (-1 : Int32)), (.int (own_end (nar .byte x0) (nar .byte x1) (nar .byte x2) (nar .byte x3) (nar .byte x4) (nar .byte x5) lim 6 fr))])) t
              refine XS.icmpNo X57.here hx rfl (hb hby at_202) rfl (XT.ii_ne_f (show (own_end (nar .byte x0) (nar .byte x1) (nar .byte x2) (nar .byte x3) (nar .byte x4) (nar .byte x5) lim 6 fr) = (-1 : Int32) from by have q := own_plain (nar .byte x0) (nar .byte x1) (nar .byte x2) (nar .byte x3) (nar .byte x4) (nar .byte x5) hfr.1 hto.1 hto.2; rw [q, own_expect]; simp only [if_pos hc101_39, if_pos hc120_43, if_pos hc139_47, if_pos hc158_51, if_pos hc178_55])) ?_
              show Steps p.tables e below (T57.setTop (mkF m 205 #[.val (.int p1), .val (.long q2), .second, .val (.int p3), .val (.int p4), .val (.ref b2), .val (.int fr), .val (.int lim), .val (.int (-1 : Int32))] [])) t
              refine XS.iconst X57.here hx rfl (hb hby at_205) ?_
              show Steps p.tables e below (T57.setTop (mkF m 206 #[.val (.int p1), .val (.long q2), .second, .val (.int p3), .val (.int p4), .val (.ref b2), .val (.int fr), .val (.int lim), .val (.int (-1 : Int32))] [(.int (1 : Int32))])) t
              refine XS.goto X57.here hx rfl (pc0 := 206) (pc' := 210) rfl (hb hby at_206) (by decide) (by decide) ?_
              show Steps p.tables e below (T57.setTop (mkF m 210 #[.val (.int p1), .val (.long q2), .second, .val (.int p3), .val (.int p4), .val (.ref b2), .val (.int fr), .val (.int lim), .val (.int (-1 : Int32))] [(.int (1 : Int32))])) t
              exact k)
            obtain ⟨fs, hr, hrun, hended, hW, hsame⟩ := X57.leave (v := some (.int (1 : Int32))) (fun h => by rw [Bd.returns] at h; cases h)
            refine ⟨_, _, pre60 _ ?_, hrun, hended, _, _, rfl, ?_, ⟨_, rfl⟩, hW, hsame.mono (by decide) (by decide)⟩
            · show Steps p.tables e below (T57.setTop (mkF m 210 #[.val (.int p1), .val (.long q2), .second, .val (.int p3), .val (.int p4), .val (.ref b2), .val (.int fr), .val (.int lim), .val (.int (-1 : Int32))] [(.int (1 : Int32))])) _
              exact retN X57 hx (t := .boolean) Bd.returns (by simp) (hb hby at_210) hr
            · show Q0 Z p1 q2 p3 p4 h0 n0 _ T57.heap _
              rw [eh57]
              exact ⟨rfl, N57⟩
          · skip
            have pre61 : ∀ t, Steps p.tables e below (T53.setTop (mkF m 197 #[.val (.int p1), .val (.long q2), .second, .val (.int p3), .val (.int p4), .val (.ref b2), .val (.int fr), .val (.int lim), .val (.int (6 : Int32))] [(.int lim), (.int fr), (.ref b2)])) t → Steps p.tables e below (s₁.setTop (entryFrame m #[(.int p1), (.long q2), (.int p3), (.int p4)] maxLocals)) t := fun t k => pre54 t (by
              show Steps p.tables e below (T53.setTop (mkF m 178 #[.val (.int p1), .val (.long q2), .second, .val (.int p3), .val (.int p4), .val (.ref b2), .val (.int fr), .val (.int lim), .unset] [(.int (own_ea (nar .byte x0) (nar .byte x1) (nar .byte x2) (nar .byte x3) (nar .byte x4) (nar .byte x5) fr lim (6 : Int32)))])) t
              refine XS.ifNo X53.here hx rfl (hb hby at_178) rfl (XT.i0_eq_f hc178_55) ?_
              show Steps p.tables e below (T53.setTop (mkF m 181 #[.val (.int p1), .val (.long q2), .second, .val (.int p3), .val (.int p4), .val (.ref b2), .val (.int fr), .val (.int lim), .unset] [])) t
              refine XS.bipush X53.here hx rfl (hb hby at_181) ?_
              show Steps p.tables e below (T53.setTop (mkF m 183 #[.val (.int p1), .val (.long q2), .second, .val (.int p3), .val (.int p4), .val (.ref b2), .val (.int fr), .val (.int lim), .unset] [(.int (6 : Int32))])) t
              refine XS.istore X53.here hx rfl (hb hby at_183) rfl (l' := #[.val (.int p1), .val (.long q2), .second, .val (.int p3), .val (.int p4), .val (.ref b2), .val (.int fr), .val (.int lim), .val (.int (6 : Int32))]) rfl ?_
              show Steps p.tables e below (T53.setTop (mkF m 185 #[.val (.int p1), .val (.long q2), .second, .val (.int p3), .val (.int p4), .val (.ref b2), .val (.int fr), .val (.int lim), .val (.int (6 : Int32))] [])) t
              refine XS.goto X53.here hx rfl (pc0 := 185) (pc' := 191) rfl (hb hby at_185) (by decide) (by decide) ?_
              show Steps p.tables e below (T53.setTop (mkF m 191 #[.val (.int p1), .val (.long q2), .second, .val (.int p3), .val (.int p4), .val (.ref b2), .val (.int fr), .val (.int lim), .val (.int (6 : Int32))] [])) t
              refine XS.aload X53.here hx rfl (hb hby at_191) rfl rfl ?_
              show Steps p.tables e below (T53.setTop (mkF m 193 #[.val (.int p1), .val (.long q2), .second, .val (.int p3), .val (.int p4), .val (.ref b2), .val (.int fr), .val (.int lim), .val (.int (6 : Int32))] [(.ref b2)])) t
              refine XS.iload X53.here hx rfl (hb hby at_193) rfl ?_
              show Steps p.tables e below (T53.setTop (mkF m 195 #[.val (.int p1), .val (.long q2), .second, .val (.int p3), .val (.int p4), .val (.ref b2), .val (.int fr), .val (.int lim), .val (.int (6 : Int32))] [(.int fr), (.ref b2)])) t
              refine XS.iload X53.here hx rfl (hb hby at_195) rfl ?_
              show Steps p.tables e below (T53.setTop (mkF m 197 #[.val (.int p1), .val (.long q2), .second, .val (.int p3), .val (.int p4), .val (.ref b2), .val (.int fr), .val (.int lim), .val (.int (6 : Int32))] [(.int lim), (.int fr), (.ref b2)])) t
              exact k)
            obtain ⟨_, _, ⟨T62, L62, k62, n62⟩, -, X62, ⟨Lc62, hQ62, l62, y62, z62⟩, st62⟩ := Jvm.LawKit.callS X53 hx (y := (⟨"com/example/pledgeway/pledgeway/http/Head", "end", "([BII)I"⟩ : MethodName)) hown (mvT hZ (hw _ (List.mem_of_getElem? (i := 9) rfl))) (mvT hZ (hw _ (List.mem_of_getElem? (i := 10) rfl))) (mvT hZ (hw _ (List.mem_of_getElem? (i := 11) rfl))) (mvT hZ (hw _ (List.mem_of_getElem? (i := 12) rfl))) (by decide) (backOf (W := 0) (rm3 l Z a0 hw [] b2 fr lim k2 (nar .byte x0) (nar .byte x1) (nar .byte x2) (nar .byte x3) (nar .byte x4) (nar .byte x5) h32 n0 sz32 V_b2__32 (show own_I lim 6 fr from own_hI hfr hto)) hZ (hw _ (List.mem_of_getElem? (i := 12) rfl)) (hw _ (List.mem_of_getElem? (i := 11) rfl)) (by decide) (by decide)) (g := (mkF m 197 #[.val (.int p1), .val (.long q2), .second, .val (.int p3), .val (.int p4), .val (.ref b2), .val (.int fr), .val (.int lim), .val (.int (6 : Int32))] [(.int lim), (.int fr), (.ref b2)])) rfl (by rw [hml]; rfl) (argsL := [(.ref b2), (.int fr), (.int lim)]) (rest := []) (lenOf pd_oaBIIcI rfl) rfl (by show 2 * 0 + _ ≤ _; exact Nat.le_of_eq rfl) (hb hby at_197) (fun _ _ => ⟨rfl, eh53, (by decide : 1 + 0 ≤ _), (by decide : 6 + 0 ≤ _)⟩)
            dsimp only [Pt.U, Pt.locs, Pt.cells, Pt.slots] at X62 l62 y62 z62 st62 hQ62
            subst l62 y62 z62
            obtain ⟨rfl, N62q, eh62⟩ := hQ62
            have N62 := Fr.app N53 N62q
            have pre63 : ∀ t, Steps p.tables e below (T62.setTop (mkF m 200 #[.val (.int p1), .val (.long q2), .second, .val (.int p3), .val (.int p4), .val (.ref b2), .val (.int fr), .val (.int lim), .val (.int (6 : Int32))] [(.int (own_end (nar .byte x0) (nar .byte x1) (nar .byte x2) (nar .byte x3) (nar .byte x4) (nar .byte x5) lim 6 fr))])) t → Steps p.tables e below (s₁.setTop (entryFrame m #[(.int p1), (.long q2), (.int p3), (.int p4)] maxLocals)) t := fun t k => pre61 t (st62 _ k)
            have pre65 : ∀ t, Steps p.tables e below (T62.setTop (mkF m 210 #[.val (.int p1), .val (.long q2), .second, .val (.int p3), .val (.int p4), .val (.ref b2), .val (.int fr), .val (.int lim), .val (.int (6 : Int32))] [(.int (1 : Int32))])) t → Steps p.tables e below (s₁.setTop (entryFrame m #[(.int p1), (.long q2), (.int p3), (.int p4)] maxLocals)) t := fun t k => pre63 t (by
              show Steps p.tables e below (T62.setTop (mkF m 200 #[.val (.int p1), .val (.long q2), .second, .val (.int p3), .val (.int p4), .val (.ref b2), .val (.int fr), .val (.int lim), .val (.int (6 : Int32))] [(.int (own_end (nar .byte x0) (nar .byte x1) (nar .byte x2) (nar .byte x3) (nar .byte x4) (nar .byte x5) lim 6 fr))])) t
              refine XS.iload X62.here hx rfl (hb hby at_200) rfl ?_
              show Steps p.tables e below (T62.setTop (mkF m 202 #[.val (.int p1), .val (.long q2), .second, .val (.int p3), .val (.int p4), .val (.ref b2), .val (.int fr), .val (.int lim), .val (.int (6 : Int32))] [(.int (6 : Int32)), (.int (own_end (nar .byte x0) (nar .byte x1) (nar .byte x2) (nar .byte x3) (nar .byte x4) (nar .byte x5) lim 6 fr))])) t
              refine XS.icmpNo X62.here hx rfl (hb hby at_202) rfl (XT.ii_ne_f (show (own_end (nar .byte x0) (nar .byte x1) (nar .byte x2) (nar .byte x3) (nar .byte x4) (nar .byte x5) lim 6 fr) = (6 : Int32) from by have q := own_plain (nar .byte x0) (nar .byte x1) (nar .byte x2) (nar .byte x3) (nar .byte x4) (nar .byte x5) hfr.1 hto.1 hto.2; rw [q, own_expect]; simp only [if_pos hc101_39, if_pos hc120_43, if_pos hc139_47, if_pos hc158_51, if_neg hc178_55])) ?_
              show Steps p.tables e below (T62.setTop (mkF m 205 #[.val (.int p1), .val (.long q2), .second, .val (.int p3), .val (.int p4), .val (.ref b2), .val (.int fr), .val (.int lim), .val (.int (6 : Int32))] [])) t
              refine XS.iconst X62.here hx rfl (hb hby at_205) ?_
              show Steps p.tables e below (T62.setTop (mkF m 206 #[.val (.int p1), .val (.long q2), .second, .val (.int p3), .val (.int p4), .val (.ref b2), .val (.int fr), .val (.int lim), .val (.int (6 : Int32))] [(.int (1 : Int32))])) t
              refine XS.goto X62.here hx rfl (pc0 := 206) (pc' := 210) rfl (hb hby at_206) (by decide) (by decide) ?_
              show Steps p.tables e below (T62.setTop (mkF m 210 #[.val (.int p1), .val (.long q2), .second, .val (.int p3), .val (.int p4), .val (.ref b2), .val (.int fr), .val (.int lim), .val (.int (6 : Int32))] [(.int (1 : Int32))])) t
              exact k)
            obtain ⟨fs, hr, hrun, hended, hW, hsame⟩ := X62.leave (v := some (.int (1 : Int32))) (fun h => by rw [Bd.returns] at h; cases h)
            refine ⟨_, _, pre65 _ ?_, hrun, hended, _, _, rfl, ?_, ⟨_, rfl⟩, hW, hsame.mono (by decide) (by decide)⟩
            · show Steps p.tables e below (T62.setTop (mkF m 210 #[.val (.int p1), .val (.long q2), .second, .val (.int p3), .val (.int p4), .val (.ref b2), .val (.int fr), .val (.int lim), .val (.int (6 : Int32))] [(.int (1 : Int32))])) _
              exact retN X62 hx (t := .boolean) Bd.returns (by simp) (hb hby at_210) hr
            · show Q0 Z p1 q2 p3 p4 h0 n0 _ T62.heap _
              rw [eh62]
              exact ⟨rfl, N62⟩
        · skip
          have pre66 : ∀ t, Steps p.tables e below (T49.setTop (mkF m 197 #[.val (.int p1), .val (.long q2), .second, .val (.int p3), .val (.int p4), .val (.ref b2), .val (.int fr), .val (.int lim), .val (.int (5 : Int32))] [(.int lim), (.int fr), (.ref b2)])) t → Steps p.tables e below (s₁.setTop (entryFrame m #[(.int p1), (.long q2), (.int p3), (.int p4)] maxLocals)) t := fun t k => pre50 t (by
            show Steps p.tables e below (T49.setTop (mkF m 158 #[.val (.int p1), .val (.long q2), .second, .val (.int p3), .val (.int p4), .val (.ref b2), .val (.int fr), .val (.int lim), .unset] [(.int (own_ea (nar .byte x0) (nar .byte x1) (nar .byte x2) (nar .byte x3) (nar .byte x4) (nar .byte x5) fr lim (5 : Int32)))])) t
            refine XS.ifNo X49.here hx rfl (hb hby at_158) rfl (XT.i0_eq_f hc158_51) ?_
            show Steps p.tables e below (T49.setTop (mkF m 161 #[.val (.int p1), .val (.long q2), .second, .val (.int p3), .val (.int p4), .val (.ref b2), .val (.int fr), .val (.int lim), .unset] [])) t
            refine XS.iconst X49.here hx rfl (hb hby at_161) ?_
            show Steps p.tables e below (T49.setTop (mkF m 162 #[.val (.int p1), .val (.long q2), .second, .val (.int p3), .val (.int p4), .val (.ref b2), .val (.int fr), .val (.int lim), .unset] [(.int (5 : Int32))])) t
            refine XS.istore X49.here hx rfl (hb hby at_162) rfl (l' := #[.val (.int p1), .val (.long q2), .second, .val (.int p3), .val (.int p4), .val (.ref b2), .val (.int fr), .val (.int lim), .val (.int (5 : Int32))]) rfl ?_
            show Steps p.tables e below (T49.setTop (mkF m 164 #[.val (.int p1), .val (.long q2), .second, .val (.int p3), .val (.int p4), .val (.ref b2), .val (.int fr), .val (.int lim), .val (.int (5 : Int32))] [])) t
            refine XS.goto X49.here hx rfl (pc0 := 164) (pc' := 191) rfl (hb hby at_164) (by decide) (by decide) ?_
            show Steps p.tables e below (T49.setTop (mkF m 191 #[.val (.int p1), .val (.long q2), .second, .val (.int p3), .val (.int p4), .val (.ref b2), .val (.int fr), .val (.int lim), .val (.int (5 : Int32))] [])) t
            refine XS.aload X49.here hx rfl (hb hby at_191) rfl rfl ?_
            show Steps p.tables e below (T49.setTop (mkF m 193 #[.val (.int p1), .val (.long q2), .second, .val (.int p3), .val (.int p4), .val (.ref b2), .val (.int fr), .val (.int lim), .val (.int (5 : Int32))] [(.ref b2)])) t
            refine XS.iload X49.here hx rfl (hb hby at_193) rfl ?_
            show Steps p.tables e below (T49.setTop (mkF m 195 #[.val (.int p1), .val (.long q2), .second, .val (.int p3), .val (.int p4), .val (.ref b2), .val (.int fr), .val (.int lim), .val (.int (5 : Int32))] [(.int fr), (.ref b2)])) t
            refine XS.iload X49.here hx rfl (hb hby at_195) rfl ?_
            show Steps p.tables e below (T49.setTop (mkF m 197 #[.val (.int p1), .val (.long q2), .second, .val (.int p3), .val (.int p4), .val (.ref b2), .val (.int fr), .val (.int lim), .val (.int (5 : Int32))] [(.int lim), (.int fr), (.ref b2)])) t
            exact k)
          obtain ⟨_, _, ⟨T67, L67, k67, n67⟩, -, X67, ⟨Lc67, hQ67, l67, y67, z67⟩, st67⟩ := Jvm.LawKit.callS X49 hx (y := (⟨"com/example/pledgeway/pledgeway/http/Head", "end", "([BII)I"⟩ : MethodName)) hown (mvT hZ (hw _ (List.mem_of_getElem? (i := 9) rfl))) (mvT hZ (hw _ (List.mem_of_getElem? (i := 10) rfl))) (mvT hZ (hw _ (List.mem_of_getElem? (i := 11) rfl))) (mvT hZ (hw _ (List.mem_of_getElem? (i := 12) rfl))) (by decide) (backOf (W := 0) (rm3 l Z a0 hw [] b2 fr lim k2 (nar .byte x0) (nar .byte x1) (nar .byte x2) (nar .byte x3) (nar .byte x4) (nar .byte x5) h32 n0 sz32 V_b2__32 (show own_I lim 6 fr from own_hI hfr hto)) hZ (hw _ (List.mem_of_getElem? (i := 12) rfl)) (hw _ (List.mem_of_getElem? (i := 11) rfl)) (by decide) (by decide)) (g := (mkF m 197 #[.val (.int p1), .val (.long q2), .second, .val (.int p3), .val (.int p4), .val (.ref b2), .val (.int fr), .val (.int lim), .val (.int (5 : Int32))] [(.int lim), (.int fr), (.ref b2)])) rfl (by rw [hml]; rfl) (argsL := [(.ref b2), (.int fr), (.int lim)]) (rest := []) (lenOf pd_oaBIIcI rfl) rfl (by show 2 * 0 + _ ≤ _; exact Nat.le_of_eq rfl) (hb hby at_197) (fun _ _ => ⟨rfl, eh49, (by decide : 1 + 0 ≤ _), (by decide : 6 + 0 ≤ _)⟩)
          dsimp only [Pt.U, Pt.locs, Pt.cells, Pt.slots] at X67 l67 y67 z67 st67 hQ67
          subst l67 y67 z67
          obtain ⟨rfl, N67q, eh67⟩ := hQ67
          have N67 := Fr.app N49 N67q
          have pre68 : ∀ t, Steps p.tables e below (T67.setTop (mkF m 200 #[.val (.int p1), .val (.long q2), .second, .val (.int p3), .val (.int p4), .val (.ref b2), .val (.int fr), .val (.int lim), .val (.int (5 : Int32))] [(.int (own_end (nar .byte x0) (nar .byte x1) (nar .byte x2) (nar .byte x3) (nar .byte x4) (nar .byte x5) lim 6 fr))])) t → Steps p.tables e below (s₁.setTop (entryFrame m #[(.int p1), (.long q2), (.int p3), (.int p4)] maxLocals)) t := fun t k => pre66 t (st67 _ k)
          have pre70 : ∀ t, Steps p.tables e below (T67.setTop (mkF m 210 #[.val (.int p1), .val (.long q2), .second, .val (.int p3), .val (.int p4), .val (.ref b2), .val (.int fr), .val (.int lim), .val (.int (5 : Int32))] [(.int (1 : Int32))])) t → Steps p.tables e below (s₁.setTop (entryFrame m #[(.int p1), (.long q2), (.int p3), (.int p4)] maxLocals)) t := fun t k => pre68 t (by
            show Steps p.tables e below (T67.setTop (mkF m 200 #[.val (.int p1), .val (.long q2), .second, .val (.int p3), .val (.int p4), .val (.ref b2), .val (.int fr), .val (.int lim), .val (.int (5 : Int32))] [(.int (own_end (nar .byte x0) (nar .byte x1) (nar .byte x2) (nar .byte x3) (nar .byte x4) (nar .byte x5) lim 6 fr))])) t
            refine XS.iload X67.here hx rfl (hb hby at_200) rfl ?_
            show Steps p.tables e below (T67.setTop (mkF m 202 #[.val (.int p1), .val (.long q2), .second, .val (.int p3), .val (.int p4), .val (.ref b2), .val (.int fr), .val (.int lim), .val (.int (5 : Int32))] [(.int (5 : Int32)), (.int (own_end (nar .byte x0) (nar .byte x1) (nar .byte x2) (nar .byte x3) (nar .byte x4) (nar .byte x5) lim 6 fr))])) t
            refine XS.icmpNo X67.here hx rfl (hb hby at_202) rfl (XT.ii_ne_f (show (own_end (nar .byte x0) (nar .byte x1) (nar .byte x2) (nar .byte x3) (nar .byte x4) (nar .byte x5) lim 6 fr) = (5 : Int32) from by have q := own_plain (nar .byte x0) (nar .byte x1) (nar .byte x2) (nar .byte x3) (nar .byte x4) (nar .byte x5) hfr.1 hto.1 hto.2; rw [q, own_expect]; simp only [if_pos hc101_39, if_pos hc120_43, if_pos hc139_47, if_neg hc158_51])) ?_
            show Steps p.tables e below (T67.setTop (mkF m 205 #[.val (.int p1), .val (.long q2), .second, .val (.int p3), .val (.int p4), .val (.ref b2), .val (.int fr), .val (.int lim), .val (.int (5 : Int32))] [])) t
            refine XS.iconst X67.here hx rfl (hb hby at_205) ?_
            show Steps p.tables e below (T67.setTop (mkF m 206 #[.val (.int p1), .val (.long q2), .second, .val (.int p3), .val (.int p4), .val (.ref b2), .val (.int fr), .val (.int lim), .val (.int (5 : Int32))] [(.int (1 : Int32))])) t
            refine XS.goto X67.here hx rfl (pc0 := 206) (pc' := 210) rfl (hb hby at_206) (by decide) (by decide) ?_
            show Steps p.tables e below (T67.setTop (mkF m 210 #[.val (.int p1), .val (.long q2), .second, .val (.int p3), .val (.int p4), .val (.ref b2), .val (.int fr), .val (.int lim), .val (.int (5 : Int32))] [(.int (1 : Int32))])) t
            exact k)
          obtain ⟨fs, hr, hrun, hended, hW, hsame⟩ := X67.leave (v := some (.int (1 : Int32))) (fun h => by rw [Bd.returns] at h; cases h)
          refine ⟨_, _, pre70 _ ?_, hrun, hended, _, _, rfl, ?_, ⟨_, rfl⟩, hW, hsame.mono (by decide) (by decide)⟩
          · show Steps p.tables e below (T67.setTop (mkF m 210 #[.val (.int p1), .val (.long q2), .second, .val (.int p3), .val (.int p4), .val (.ref b2), .val (.int fr), .val (.int lim), .val (.int (5 : Int32))] [(.int (1 : Int32))])) _
            exact retN X67 hx (t := .boolean) Bd.returns (by simp) (hb hby at_210) hr
          · show Q0 Z p1 q2 p3 p4 h0 n0 _ T67.heap _
            rw [eh67]
            exact ⟨rfl, N67⟩
      · skip
        have pre71 : ∀ t, Steps p.tables e below (T45.setTop (mkF m 197 #[.val (.int p1), .val (.long q2), .second, .val (.int p3), .val (.int p4), .val (.ref b2), .val (.int fr), .val (.int lim), .val (.int (4 : Int32))] [(.int lim), (.int fr), (.ref b2)])) t → Steps p.tables e below (s₁.setTop (entryFrame m #[(.int p1), (.long q2), (.int p3), (.int p4)] maxLocals)) t := fun t k => pre46 t (by
          show Steps p.tables e below (T45.setTop (mkF m 139 #[.val (.int p1), .val (.long q2), .second, .val (.int p3), .val (.int p4), .val (.ref b2), .val (.int fr), .val (.int lim), .unset] [(.int (own_ea (nar .byte x0) (nar .byte x1) (nar .byte x2) (nar .byte x3) (nar .byte x4) (nar .byte x5) fr lim (4 : Int32)))])) t
          refine XS.ifNo X45.here hx rfl (hb hby at_139) rfl (XT.i0_eq_f hc139_47) ?_
          show Steps p.tables e below (T45.setTop (mkF m 142 #[.val (.int p1), .val (.long q2), .second, .val (.int p3), .val (.int p4), .val (.ref b2), .val (.int fr), .val (.int lim), .unset] [])) t
          refine XS.iconst X45.here hx rfl (hb hby at_142) ?_
          show Steps p.tables e below (T45.setTop (mkF m 143 #[.val (.int p1), .val (.long q2), .second, .val (.int p3), .val (.int p4), .val (.ref b2), .val (.int fr), .val (.int lim), .unset] [(.int (4 : Int32))])) t
          refine XS.istore X45.here hx rfl (hb hby at_143) rfl (l' := #[.val (.int p1), .val (.long q2), .second, .val (.int p3), .val (.int p4), .val (.ref b2), .val (.int fr), .val (.int lim), .val (.int (4 : Int32))]) rfl ?_
          show Steps p.tables e below (T45.setTop (mkF m 145 #[.val (.int p1), .val (.long q2), .second, .val (.int p3), .val (.int p4), .val (.ref b2), .val (.int fr), .val (.int lim), .val (.int (4 : Int32))] [])) t
          refine XS.goto X45.here hx rfl (pc0 := 145) (pc' := 191) rfl (hb hby at_145) (by decide) (by decide) ?_
          show Steps p.tables e below (T45.setTop (mkF m 191 #[.val (.int p1), .val (.long q2), .second, .val (.int p3), .val (.int p4), .val (.ref b2), .val (.int fr), .val (.int lim), .val (.int (4 : Int32))] [])) t
          refine XS.aload X45.here hx rfl (hb hby at_191) rfl rfl ?_
          show Steps p.tables e below (T45.setTop (mkF m 193 #[.val (.int p1), .val (.long q2), .second, .val (.int p3), .val (.int p4), .val (.ref b2), .val (.int fr), .val (.int lim), .val (.int (4 : Int32))] [(.ref b2)])) t
          refine XS.iload X45.here hx rfl (hb hby at_193) rfl ?_
          show Steps p.tables e below (T45.setTop (mkF m 195 #[.val (.int p1), .val (.long q2), .second, .val (.int p3), .val (.int p4), .val (.ref b2), .val (.int fr), .val (.int lim), .val (.int (4 : Int32))] [(.int fr), (.ref b2)])) t
          refine XS.iload X45.here hx rfl (hb hby at_195) rfl ?_
          show Steps p.tables e below (T45.setTop (mkF m 197 #[.val (.int p1), .val (.long q2), .second, .val (.int p3), .val (.int p4), .val (.ref b2), .val (.int fr), .val (.int lim), .val (.int (4 : Int32))] [(.int lim), (.int fr), (.ref b2)])) t
          exact k)
        obtain ⟨_, _, ⟨T72, L72, k72, n72⟩, -, X72, ⟨Lc72, hQ72, l72, y72, z72⟩, st72⟩ := Jvm.LawKit.callS X45 hx (y := (⟨"com/example/pledgeway/pledgeway/http/Head", "end", "([BII)I"⟩ : MethodName)) hown (mvT hZ (hw _ (List.mem_of_getElem? (i := 9) rfl))) (mvT hZ (hw _ (List.mem_of_getElem? (i := 10) rfl))) (mvT hZ (hw _ (List.mem_of_getElem? (i := 11) rfl))) (mvT hZ (hw _ (List.mem_of_getElem? (i := 12) rfl))) (by decide) (backOf (W := 0) (rm3 l Z a0 hw [] b2 fr lim k2 (nar .byte x0) (nar .byte x1) (nar .byte x2) (nar .byte x3) (nar .byte x4) (nar .byte x5) h32 n0 sz32 V_b2__32 (show own_I lim 6 fr from own_hI hfr hto)) hZ (hw _ (List.mem_of_getElem? (i := 12) rfl)) (hw _ (List.mem_of_getElem? (i := 11) rfl)) (by decide) (by decide)) (g := (mkF m 197 #[.val (.int p1), .val (.long q2), .second, .val (.int p3), .val (.int p4), .val (.ref b2), .val (.int fr), .val (.int lim), .val (.int (4 : Int32))] [(.int lim), (.int fr), (.ref b2)])) rfl (by rw [hml]; rfl) (argsL := [(.ref b2), (.int fr), (.int lim)]) (rest := []) (lenOf pd_oaBIIcI rfl) rfl (by show 2 * 0 + _ ≤ _; exact Nat.le_of_eq rfl) (hb hby at_197) (fun _ _ => ⟨rfl, eh45, (by decide : 1 + 0 ≤ _), (by decide : 6 + 0 ≤ _)⟩)
        dsimp only [Pt.U, Pt.locs, Pt.cells, Pt.slots] at X72 l72 y72 z72 st72 hQ72
        subst l72 y72 z72
        obtain ⟨rfl, N72q, eh72⟩ := hQ72
        have N72 := Fr.app N45 N72q
        have pre73 : ∀ t, Steps p.tables e below (T72.setTop (mkF m 200 #[.val (.int p1), .val (.long q2), .second, .val (.int p3), .val (.int p4), .val (.ref b2), .val (.int fr), .val (.int lim), .val (.int (4 : Int32))] [(.int (own_end (nar .byte x0) (nar .byte x1) (nar .byte x2) (nar .byte x3) (nar .byte x4) (nar .byte x5) lim 6 fr))])) t → Steps p.tables e below (s₁.setTop (entryFrame m #[(.int p1), (.long q2), (.int p3), (.int p4)] maxLocals)) t := fun t k => pre71 t (st72 _ k)
        have pre75 : ∀ t, Steps p.tables e below (T72.setTop (mkF m 210 #[.val (.int p1), .val (.long q2), .second, .val (.int p3), .val (.int p4), .val (.ref b2), .val (.int fr), .val (.int lim), .val (.int (4 : Int32))] [(.int (1 : Int32))])) t → Steps p.tables e below (s₁.setTop (entryFrame m #[(.int p1), (.long q2), (.int p3), (.int p4)] maxLocals)) t := fun t k => pre73 t (by
          show Steps p.tables e below (T72.setTop (mkF m 200 #[.val (.int p1), .val (.long q2), .second, .val (.int p3), .val (.int p4), .val (.ref b2), .val (.int fr), .val (.int lim), .val (.int (4 : Int32))] [(.int (own_end (nar .byte x0) (nar .byte x1) (nar .byte x2) (nar .byte x3) (nar .byte x4) (nar .byte x5) lim 6 fr))])) t
          refine XS.iload X72.here hx rfl (hb hby at_200) rfl ?_
          show Steps p.tables e below (T72.setTop (mkF m 202 #[.val (.int p1), .val (.long q2), .second, .val (.int p3), .val (.int p4), .val (.ref b2), .val (.int fr), .val (.int lim), .val (.int (4 : Int32))] [(.int (4 : Int32)), (.int (own_end (nar .byte x0) (nar .byte x1) (nar .byte x2) (nar .byte x3) (nar .byte x4) (nar .byte x5) lim 6 fr))])) t
          refine XS.icmpNo X72.here hx rfl (hb hby at_202) rfl (XT.ii_ne_f (show (own_end (nar .byte x0) (nar .byte x1) (nar .byte x2) (nar .byte x3) (nar .byte x4) (nar .byte x5) lim 6 fr) = (4 : Int32) from by have q := own_plain (nar .byte x0) (nar .byte x1) (nar .byte x2) (nar .byte x3) (nar .byte x4) (nar .byte x5) hfr.1 hto.1 hto.2; rw [q, own_expect]; simp only [if_pos hc101_39, if_pos hc120_43, if_neg hc139_47])) ?_
          show Steps p.tables e below (T72.setTop (mkF m 205 #[.val (.int p1), .val (.long q2), .second, .val (.int p3), .val (.int p4), .val (.ref b2), .val (.int fr), .val (.int lim), .val (.int (4 : Int32))] [])) t
          refine XS.iconst X72.here hx rfl (hb hby at_205) ?_
          show Steps p.tables e below (T72.setTop (mkF m 206 #[.val (.int p1), .val (.long q2), .second, .val (.int p3), .val (.int p4), .val (.ref b2), .val (.int fr), .val (.int lim), .val (.int (4 : Int32))] [(.int (1 : Int32))])) t
          refine XS.goto X72.here hx rfl (pc0 := 206) (pc' := 210) rfl (hb hby at_206) (by decide) (by decide) ?_
          show Steps p.tables e below (T72.setTop (mkF m 210 #[.val (.int p1), .val (.long q2), .second, .val (.int p3), .val (.int p4), .val (.ref b2), .val (.int fr), .val (.int lim), .val (.int (4 : Int32))] [(.int (1 : Int32))])) t
          exact k)
        obtain ⟨fs, hr, hrun, hended, hW, hsame⟩ := X72.leave (v := some (.int (1 : Int32))) (fun h => by rw [Bd.returns] at h; cases h)
        refine ⟨_, _, pre75 _ ?_, hrun, hended, _, _, rfl, ?_, ⟨_, rfl⟩, hW, hsame.mono (by decide) (by decide)⟩
        · show Steps p.tables e below (T72.setTop (mkF m 210 #[.val (.int p1), .val (.long q2), .second, .val (.int p3), .val (.int p4), .val (.ref b2), .val (.int fr), .val (.int lim), .val (.int (4 : Int32))] [(.int (1 : Int32))])) _
          exact retN X72 hx (t := .boolean) Bd.returns (by simp) (hb hby at_210) hr
        · show Q0 Z p1 q2 p3 p4 h0 n0 _ T72.heap _
          rw [eh72]
          exact ⟨rfl, N72⟩
    · skip
      have pre76 : ∀ t, Steps p.tables e below (T41.setTop (mkF m 197 #[.val (.int p1), .val (.long q2), .second, .val (.int p3), .val (.int p4), .val (.ref b2), .val (.int fr), .val (.int lim), .val (.int (3 : Int32))] [(.int lim), (.int fr), (.ref b2)])) t → Steps p.tables e below (s₁.setTop (entryFrame m #[(.int p1), (.long q2), (.int p3), (.int p4)] maxLocals)) t := fun t k => pre42 t (by
        show Steps p.tables e below (T41.setTop (mkF m 120 #[.val (.int p1), .val (.long q2), .second, .val (.int p3), .val (.int p4), .val (.ref b2), .val (.int fr), .val (.int lim), .unset] [(.int (own_ea (nar .byte x0) (nar .byte x1) (nar .byte x2) (nar .byte x3) (nar .byte x4) (nar .byte x5) fr lim (3 : Int32)))])) t
        refine XS.ifNo X41.here hx rfl (hb hby at_120) rfl (XT.i0_eq_f hc120_43) ?_
        show Steps p.tables e below (T41.setTop (mkF m 123 #[.val (.int p1), .val (.long q2), .second, .val (.int p3), .val (.int p4), .val (.ref b2), .val (.int fr), .val (.int lim), .unset] [])) t
        refine XS.iconst X41.here hx rfl (hb hby at_123) ?_
        show Steps p.tables e below (T41.setTop (mkF m 124 #[.val (.int p1), .val (.long q2), .second, .val (.int p3), .val (.int p4), .val (.ref b2), .val (.int fr), .val (.int lim), .unset] [(.int (3 : Int32))])) t
        refine XS.istore X41.here hx rfl (hb hby at_124) rfl (l' := #[.val (.int p1), .val (.long q2), .second, .val (.int p3), .val (.int p4), .val (.ref b2), .val (.int fr), .val (.int lim), .val (.int (3 : Int32))]) rfl ?_
        show Steps p.tables e below (T41.setTop (mkF m 126 #[.val (.int p1), .val (.long q2), .second, .val (.int p3), .val (.int p4), .val (.ref b2), .val (.int fr), .val (.int lim), .val (.int (3 : Int32))] [])) t
        refine XS.goto X41.here hx rfl (pc0 := 126) (pc' := 191) rfl (hb hby at_126) (by decide) (by decide) ?_
        show Steps p.tables e below (T41.setTop (mkF m 191 #[.val (.int p1), .val (.long q2), .second, .val (.int p3), .val (.int p4), .val (.ref b2), .val (.int fr), .val (.int lim), .val (.int (3 : Int32))] [])) t
        refine XS.aload X41.here hx rfl (hb hby at_191) rfl rfl ?_
        show Steps p.tables e below (T41.setTop (mkF m 193 #[.val (.int p1), .val (.long q2), .second, .val (.int p3), .val (.int p4), .val (.ref b2), .val (.int fr), .val (.int lim), .val (.int (3 : Int32))] [(.ref b2)])) t
        refine XS.iload X41.here hx rfl (hb hby at_193) rfl ?_
        show Steps p.tables e below (T41.setTop (mkF m 195 #[.val (.int p1), .val (.long q2), .second, .val (.int p3), .val (.int p4), .val (.ref b2), .val (.int fr), .val (.int lim), .val (.int (3 : Int32))] [(.int fr), (.ref b2)])) t
        refine XS.iload X41.here hx rfl (hb hby at_195) rfl ?_
        show Steps p.tables e below (T41.setTop (mkF m 197 #[.val (.int p1), .val (.long q2), .second, .val (.int p3), .val (.int p4), .val (.ref b2), .val (.int fr), .val (.int lim), .val (.int (3 : Int32))] [(.int lim), (.int fr), (.ref b2)])) t
        exact k)
      obtain ⟨_, _, ⟨T77, L77, k77, n77⟩, -, X77, ⟨Lc77, hQ77, l77, y77, z77⟩, st77⟩ := Jvm.LawKit.callS X41 hx (y := (⟨"com/example/pledgeway/pledgeway/http/Head", "end", "([BII)I"⟩ : MethodName)) hown (mvT hZ (hw _ (List.mem_of_getElem? (i := 9) rfl))) (mvT hZ (hw _ (List.mem_of_getElem? (i := 10) rfl))) (mvT hZ (hw _ (List.mem_of_getElem? (i := 11) rfl))) (mvT hZ (hw _ (List.mem_of_getElem? (i := 12) rfl))) (by decide) (backOf (W := 0) (rm3 l Z a0 hw [] b2 fr lim k2 (nar .byte x0) (nar .byte x1) (nar .byte x2) (nar .byte x3) (nar .byte x4) (nar .byte x5) h32 n0 sz32 V_b2__32 (show own_I lim 6 fr from own_hI hfr hto)) hZ (hw _ (List.mem_of_getElem? (i := 12) rfl)) (hw _ (List.mem_of_getElem? (i := 11) rfl)) (by decide) (by decide)) (g := (mkF m 197 #[.val (.int p1), .val (.long q2), .second, .val (.int p3), .val (.int p4), .val (.ref b2), .val (.int fr), .val (.int lim), .val (.int (3 : Int32))] [(.int lim), (.int fr), (.ref b2)])) rfl (by rw [hml]; rfl) (argsL := [(.ref b2), (.int fr), (.int lim)]) (rest := []) (lenOf pd_oaBIIcI rfl) rfl (by show 2 * 0 + _ ≤ _; exact Nat.le_of_eq rfl) (hb hby at_197) (fun _ _ => ⟨rfl, eh41, (by decide : 1 + 0 ≤ _), (by decide : 6 + 0 ≤ _)⟩)
      dsimp only [Pt.U, Pt.locs, Pt.cells, Pt.slots] at X77 l77 y77 z77 st77 hQ77
      subst l77 y77 z77
      obtain ⟨rfl, N77q, eh77⟩ := hQ77
      have N77 := Fr.app N41 N77q
      have pre78 : ∀ t, Steps p.tables e below (T77.setTop (mkF m 200 #[.val (.int p1), .val (.long q2), .second, .val (.int p3), .val (.int p4), .val (.ref b2), .val (.int fr), .val (.int lim), .val (.int (3 : Int32))] [(.int (own_end (nar .byte x0) (nar .byte x1) (nar .byte x2) (nar .byte x3) (nar .byte x4) (nar .byte x5) lim 6 fr))])) t → Steps p.tables e below (s₁.setTop (entryFrame m #[(.int p1), (.long q2), (.int p3), (.int p4)] maxLocals)) t := fun t k => pre76 t (st77 _ k)
      have pre80 : ∀ t, Steps p.tables e below (T77.setTop (mkF m 210 #[.val (.int p1), .val (.long q2), .second, .val (.int p3), .val (.int p4), .val (.ref b2), .val (.int fr), .val (.int lim), .val (.int (3 : Int32))] [(.int (1 : Int32))])) t → Steps p.tables e below (s₁.setTop (entryFrame m #[(.int p1), (.long q2), (.int p3), (.int p4)] maxLocals)) t := fun t k => pre78 t (by
        show Steps p.tables e below (T77.setTop (mkF m 200 #[.val (.int p1), .val (.long q2), .second, .val (.int p3), .val (.int p4), .val (.ref b2), .val (.int fr), .val (.int lim), .val (.int (3 : Int32))] [(.int (own_end (nar .byte x0) (nar .byte x1) (nar .byte x2) (nar .byte x3) (nar .byte x4) (nar .byte x5) lim 6 fr))])) t
        refine XS.iload X77.here hx rfl (hb hby at_200) rfl ?_
        show Steps p.tables e below (T77.setTop (mkF m 202 #[.val (.int p1), .val (.long q2), .second, .val (.int p3), .val (.int p4), .val (.ref b2), .val (.int fr), .val (.int lim), .val (.int (3 : Int32))] [(.int (3 : Int32)), (.int (own_end (nar .byte x0) (nar .byte x1) (nar .byte x2) (nar .byte x3) (nar .byte x4) (nar .byte x5) lim 6 fr))])) t
        refine XS.icmpNo X77.here hx rfl (hb hby at_202) rfl (XT.ii_ne_f (show (own_end (nar .byte x0) (nar .byte x1) (nar .byte x2) (nar .byte x3) (nar .byte x4) (nar .byte x5) lim 6 fr) = (3 : Int32) from by have q := own_plain (nar .byte x0) (nar .byte x1) (nar .byte x2) (nar .byte x3) (nar .byte x4) (nar .byte x5) hfr.1 hto.1 hto.2; rw [q, own_expect]; simp only [if_pos hc101_39, if_neg hc120_43])) ?_
        show Steps p.tables e below (T77.setTop (mkF m 205 #[.val (.int p1), .val (.long q2), .second, .val (.int p3), .val (.int p4), .val (.ref b2), .val (.int fr), .val (.int lim), .val (.int (3 : Int32))] [])) t
        refine XS.iconst X77.here hx rfl (hb hby at_205) ?_
        show Steps p.tables e below (T77.setTop (mkF m 206 #[.val (.int p1), .val (.long q2), .second, .val (.int p3), .val (.int p4), .val (.ref b2), .val (.int fr), .val (.int lim), .val (.int (3 : Int32))] [(.int (1 : Int32))])) t
        refine XS.goto X77.here hx rfl (pc0 := 206) (pc' := 210) rfl (hb hby at_206) (by decide) (by decide) ?_
        show Steps p.tables e below (T77.setTop (mkF m 210 #[.val (.int p1), .val (.long q2), .second, .val (.int p3), .val (.int p4), .val (.ref b2), .val (.int fr), .val (.int lim), .val (.int (3 : Int32))] [(.int (1 : Int32))])) t
        exact k)
      obtain ⟨fs, hr, hrun, hended, hW, hsame⟩ := X77.leave (v := some (.int (1 : Int32))) (fun h => by rw [Bd.returns] at h; cases h)
      refine ⟨_, _, pre80 _ ?_, hrun, hended, _, _, rfl, ?_, ⟨_, rfl⟩, hW, hsame.mono (by decide) (by decide)⟩
      · show Steps p.tables e below (T77.setTop (mkF m 210 #[.val (.int p1), .val (.long q2), .second, .val (.int p3), .val (.int p4), .val (.ref b2), .val (.int fr), .val (.int lim), .val (.int (3 : Int32))] [(.int (1 : Int32))])) _
        exact retN X77 hx (t := .boolean) Bd.returns (by simp) (hb hby at_210) hr
      · show Q0 Z p1 q2 p3 p4 h0 n0 _ T77.heap _
        rw [eh77]
        exact ⟨rfl, N77⟩
  · skip
    have pre81 : ∀ t, Steps p.tables e below (T37.setTop (mkF m 197 #[.val (.int p1), .val (.long q2), .second, .val (.int p3), .val (.int p4), .val (.ref b2), .val (.int fr), .val (.int lim), .val (.int (2 : Int32))] [(.int lim), (.int fr), (.ref b2)])) t → Steps p.tables e below (s₁.setTop (entryFrame m #[(.int p1), (.long q2), (.int p3), (.int p4)] maxLocals)) t := fun t k => pre38 t (by
      show Steps p.tables e below (T37.setTop (mkF m 101 #[.val (.int p1), .val (.long q2), .second, .val (.int p3), .val (.int p4), .val (.ref b2), .val (.int fr), .val (.int lim), .unset] [(.int (own_ea (nar .byte x0) (nar .byte x1) (nar .byte x2) (nar .byte x3) (nar .byte x4) (nar .byte x5) fr lim (2 : Int32)))])) t
      refine XS.ifNo X37.here hx rfl (hb hby at_101) rfl (XT.i0_eq_f hc101_39) ?_
      show Steps p.tables e below (T37.setTop (mkF m 104 #[.val (.int p1), .val (.long q2), .second, .val (.int p3), .val (.int p4), .val (.ref b2), .val (.int fr), .val (.int lim), .unset] [])) t
      refine XS.iconst X37.here hx rfl (hb hby at_104) ?_
      show Steps p.tables e below (T37.setTop (mkF m 105 #[.val (.int p1), .val (.long q2), .second, .val (.int p3), .val (.int p4), .val (.ref b2), .val (.int fr), .val (.int lim), .unset] [(.int (2 : Int32))])) t
      refine XS.istore X37.here hx rfl (hb hby at_105) rfl (l' := #[.val (.int p1), .val (.long q2), .second, .val (.int p3), .val (.int p4), .val (.ref b2), .val (.int fr), .val (.int lim), .val (.int (2 : Int32))]) rfl ?_
      show Steps p.tables e below (T37.setTop (mkF m 107 #[.val (.int p1), .val (.long q2), .second, .val (.int p3), .val (.int p4), .val (.ref b2), .val (.int fr), .val (.int lim), .val (.int (2 : Int32))] [])) t
      refine XS.goto X37.here hx rfl (pc0 := 107) (pc' := 191) rfl (hb hby at_107) (by decide) (by decide) ?_
      show Steps p.tables e below (T37.setTop (mkF m 191 #[.val (.int p1), .val (.long q2), .second, .val (.int p3), .val (.int p4), .val (.ref b2), .val (.int fr), .val (.int lim), .val (.int (2 : Int32))] [])) t
      refine XS.aload X37.here hx rfl (hb hby at_191) rfl rfl ?_
      show Steps p.tables e below (T37.setTop (mkF m 193 #[.val (.int p1), .val (.long q2), .second, .val (.int p3), .val (.int p4), .val (.ref b2), .val (.int fr), .val (.int lim), .val (.int (2 : Int32))] [(.ref b2)])) t
      refine XS.iload X37.here hx rfl (hb hby at_193) rfl ?_
      show Steps p.tables e below (T37.setTop (mkF m 195 #[.val (.int p1), .val (.long q2), .second, .val (.int p3), .val (.int p4), .val (.ref b2), .val (.int fr), .val (.int lim), .val (.int (2 : Int32))] [(.int fr), (.ref b2)])) t
      refine XS.iload X37.here hx rfl (hb hby at_195) rfl ?_
      show Steps p.tables e below (T37.setTop (mkF m 197 #[.val (.int p1), .val (.long q2), .second, .val (.int p3), .val (.int p4), .val (.ref b2), .val (.int fr), .val (.int lim), .val (.int (2 : Int32))] [(.int lim), (.int fr), (.ref b2)])) t
      exact k)
    obtain ⟨_, _, ⟨T82, L82, k82, n82⟩, -, X82, ⟨Lc82, hQ82, l82, y82, z82⟩, st82⟩ := Jvm.LawKit.callS X37 hx (y := (⟨"com/example/pledgeway/pledgeway/http/Head", "end", "([BII)I"⟩ : MethodName)) hown (mvT hZ (hw _ (List.mem_of_getElem? (i := 9) rfl))) (mvT hZ (hw _ (List.mem_of_getElem? (i := 10) rfl))) (mvT hZ (hw _ (List.mem_of_getElem? (i := 11) rfl))) (mvT hZ (hw _ (List.mem_of_getElem? (i := 12) rfl))) (by decide) (backOf (W := 0) (rm3 l Z a0 hw [] b2 fr lim k2 (nar .byte x0) (nar .byte x1) (nar .byte x2) (nar .byte x3) (nar .byte x4) (nar .byte x5) h32 n0 sz32 V_b2__32 (show own_I lim 6 fr from own_hI hfr hto)) hZ (hw _ (List.mem_of_getElem? (i := 12) rfl)) (hw _ (List.mem_of_getElem? (i := 11) rfl)) (by decide) (by decide)) (g := (mkF m 197 #[.val (.int p1), .val (.long q2), .second, .val (.int p3), .val (.int p4), .val (.ref b2), .val (.int fr), .val (.int lim), .val (.int (2 : Int32))] [(.int lim), (.int fr), (.ref b2)])) rfl (by rw [hml]; rfl) (argsL := [(.ref b2), (.int fr), (.int lim)]) (rest := []) (lenOf pd_oaBIIcI rfl) rfl (by show 2 * 0 + _ ≤ _; exact Nat.le_of_eq rfl) (hb hby at_197) (fun _ _ => ⟨rfl, eh37, (by decide : 1 + 0 ≤ _), (by decide : 6 + 0 ≤ _)⟩)
    dsimp only [Pt.U, Pt.locs, Pt.cells, Pt.slots] at X82 l82 y82 z82 st82 hQ82
    subst l82 y82 z82
    obtain ⟨rfl, N82q, eh82⟩ := hQ82
    have N82 := Fr.app N37 N82q
    have pre83 : ∀ t, Steps p.tables e below (T82.setTop (mkF m 200 #[.val (.int p1), .val (.long q2), .second, .val (.int p3), .val (.int p4), .val (.ref b2), .val (.int fr), .val (.int lim), .val (.int (2 : Int32))] [(.int (own_end (nar .byte x0) (nar .byte x1) (nar .byte x2) (nar .byte x3) (nar .byte x4) (nar .byte x5) lim 6 fr))])) t → Steps p.tables e below (s₁.setTop (entryFrame m #[(.int p1), (.long q2), (.int p3), (.int p4)] maxLocals)) t := fun t k => pre81 t (st82 _ k)
    have pre85 : ∀ t, Steps p.tables e below (T82.setTop (mkF m 210 #[.val (.int p1), .val (.long q2), .second, .val (.int p3), .val (.int p4), .val (.ref b2), .val (.int fr), .val (.int lim), .val (.int (2 : Int32))] [(.int (1 : Int32))])) t → Steps p.tables e below (s₁.setTop (entryFrame m #[(.int p1), (.long q2), (.int p3), (.int p4)] maxLocals)) t := fun t k => pre83 t (by
      show Steps p.tables e below (T82.setTop (mkF m 200 #[.val (.int p1), .val (.long q2), .second, .val (.int p3), .val (.int p4), .val (.ref b2), .val (.int fr), .val (.int lim), .val (.int (2 : Int32))] [(.int (own_end (nar .byte x0) (nar .byte x1) (nar .byte x2) (nar .byte x3) (nar .byte x4) (nar .byte x5) lim 6 fr))])) t
      refine XS.iload X82.here hx rfl (hb hby at_200) rfl ?_
      show Steps p.tables e below (T82.setTop (mkF m 202 #[.val (.int p1), .val (.long q2), .second, .val (.int p3), .val (.int p4), .val (.ref b2), .val (.int fr), .val (.int lim), .val (.int (2 : Int32))] [(.int (2 : Int32)), (.int (own_end (nar .byte x0) (nar .byte x1) (nar .byte x2) (nar .byte x3) (nar .byte x4) (nar .byte x5) lim 6 fr))])) t
      refine XS.icmpNo X82.here hx rfl (hb hby at_202) rfl (XT.ii_ne_f (show (own_end (nar .byte x0) (nar .byte x1) (nar .byte x2) (nar .byte x3) (nar .byte x4) (nar .byte x5) lim 6 fr) = (2 : Int32) from by have q := own_plain (nar .byte x0) (nar .byte x1) (nar .byte x2) (nar .byte x3) (nar .byte x4) (nar .byte x5) hfr.1 hto.1 hto.2; rw [q, own_expect]; simp only [if_neg hc101_39])) ?_
      show Steps p.tables e below (T82.setTop (mkF m 205 #[.val (.int p1), .val (.long q2), .second, .val (.int p3), .val (.int p4), .val (.ref b2), .val (.int fr), .val (.int lim), .val (.int (2 : Int32))] [])) t
      refine XS.iconst X82.here hx rfl (hb hby at_205) ?_
      show Steps p.tables e below (T82.setTop (mkF m 206 #[.val (.int p1), .val (.long q2), .second, .val (.int p3), .val (.int p4), .val (.ref b2), .val (.int fr), .val (.int lim), .val (.int (2 : Int32))] [(.int (1 : Int32))])) t
      refine XS.goto X82.here hx rfl (pc0 := 206) (pc' := 210) rfl (hb hby at_206) (by decide) (by decide) ?_
      show Steps p.tables e below (T82.setTop (mkF m 210 #[.val (.int p1), .val (.long q2), .second, .val (.int p3), .val (.int p4), .val (.ref b2), .val (.int fr), .val (.int lim), .val (.int (2 : Int32))] [(.int (1 : Int32))])) t
      exact k)
    obtain ⟨fs, hr, hrun, hended, hW, hsame⟩ := X82.leave (v := some (.int (1 : Int32))) (fun h => by rw [Bd.returns] at h; cases h)
    refine ⟨_, _, pre85 _ ?_, hrun, hended, _, _, rfl, ?_, ⟨_, rfl⟩, hW, hsame.mono (by decide) (by decide)⟩
    · show Steps p.tables e below (T82.setTop (mkF m 210 #[.val (.int p1), .val (.long q2), .second, .val (.int p3), .val (.int p4), .val (.ref b2), .val (.int fr), .val (.int lim), .val (.int (2 : Int32))] [(.int (1 : Int32))])) _
      exact retN X82 hx (t := .boolean) Bd.returns (by simp) (hb hby at_210) hr
    · show Q0 Z p1 q2 p3 p4 h0 n0 _ T82.heap _
      rw [eh82]
      exact ⟨rfl, N82⟩
set_option maxRecDepth 65536 in
set_option maxHeartbeats 40000000 in
theorem comes_1 {Post : Tables → Env → Array Value → State → Outcome → State → Prop} (hpost : ∀ tb e args s v u, (limb_1_1.after args s (.returned v) u = true ∧ limb_1_2.after args s (.returned v) u = true ∧ True) → FrameEnd s (.returned v) u (Jvm.fieldLocs frame_1_writes args s ++ Jvm.arrayLocs frame_1_arrays args s ++ Jvm.staticLocs frame_1_statics s) 16 128 → Post tb e args s (.returned v) u) :
    ArmFor flags0 classFile x code maxLocals ret World_1 tables_1 room_1 Calls_1 rest_1 Pre_1 Post := by
  intro l hfl _ _ p e ha hc hk s m args below hf hA hF happ hP
  obtain ⟨hcalls, hrest, hpre⟩ := hP
  obtain ⟨-, -, -, hnamed, -, -, -, hat⟩ := (Spec.applies_iff hf).mp happ
  obtain ⟨hg, hn⟩ := and_e (Cond.before_iff.mp (show (Jvm.Cond.and given_1 narrow_1).before args s = true from hpre))
  obtain ⟨ga0, gb0⟩ := and_e hg
  obtain ⟨ga1, gb1⟩ := and_e gb0
  obtain ⟨ga2, gb2⟩ := and_e gb1
  obtain ⟨ga3, gb3⟩ := and_e gb2
  obtain ⟨w0, w1, w2, w3, rfl⟩ : ∃ w0 w1 w2 w3 : Value, args = #[w0, w1, w2, w3] := by
    have hs : args.size = 4 := by simpa [Cond.value, given_1] using ga0
    obtain ⟨L⟩ := args
    match L, hs with
    | [w0, w1, w2, w3], _ => exact ⟨w0, w1, w2, w3, rfl⟩
  have hw := fun d (hd : d ∈ tables_1) => atoms_spec (ws := Jvm.Cond.code x code maxLocals ret :: tables_1) hat d (List.mem_cons_of_mem _ hd)
  obtain ⟨i0, ei0⟩ := is_v ga1
  obtain rfl : w0 = (.int i0) := Option.some.inj ei0
  obtain ⟨i1, ei1⟩ := isL_v ga2
  obtain rfl : w1 = (.long i1) := Option.some.inj ei1
  obtain ⟨i2, ei2⟩ := is_v ga3
  obtain rfl : w2 = (.int i2) := Option.some.inj ei2
  obtain ⟨i3, ei3⟩ := is_v gb3
  obtain rfl : w3 = (.int i3) := Option.some.inj ei3
  obtain ⟨n, o, h1, h2, h3, _, L, rfl, ⟨rfl, N⟩, hq⟩ := rm0 l s _ hw tables_1 i0 i1 i2 i3 s.heap s.heap.size (Nat.le_refl _) p e ha hc hk s m _ below hf ((Spec.applies_iff_loose hf).mp happ).1 ⟨rfl, State.Warmed39.refl s, rfl⟩ trivial
  refine ⟨n, _, h1, h2, h3, hpost _ _ _ _ _ _ ⟨Cond.after_iff.mpr rfl, Cond.after_iff.mpr (eq_i res_at (Term.int_eval (1)) rfl), trivial⟩ ⟨hq.1, hq.2.1, (hq.2.2.sift fun y hy => Or.inr (N y hy)).mono (by decide) (by decide)⟩⟩
theorem main_1_1 : Claimed_1_1 := comes_1 fun _ _ _ _ _ _ h hF => ⟨h.1, hF⟩
theorem main_1_2 : Claimed_1_2 := comes_1 fun _ _ _ _ _ _ h hF => ⟨h.2.1, hF⟩
end Jvm.Pilot.@@N@@
namespace Jvm.Pilot.@@N@@
open Jvm Jvm.ClassFile Sem Op Lib Jvm.Free Jvm.Stand Jvm.Pilot.@@N@@.Jvm.D
/-! MADE BY PROGRAM (witnessworld.py) out of the Statement's table words and the real class files: 9 classes; the members and pool entries that the words name. The judged class is class 1, her method 3. -/
namespace start1
open Jvm.ClassFile
def u (s : String) : CpInfo := .utf8 (stringToUtf16 s)
/-- a pool by its gaps: so many unusable entries, then the entry; so many at the end -/
def gap : Nat → List CpInfo → List CpInfo
  | 0, r => r
  | n + 1, r => .unusable :: gap n r
def poolList (es : List (Nat × CpInfo)) (last : Nat) : List CpInfo := es.foldr (fun e r => gap e.1 (e.2 :: r)) (gap last [])
def pool (es : List (Nat × CpInfo)) (last : Nat) : Array CpInfo := ⟨poolList es last⟩
def fileOf (pool : Array CpInfo) (this : Nat) (attrs : Array Attribute := #[]) (ms : Array MethodInfo := #[]) (fl : Nat := 33) (sup : Nat := 0) (ifs : Array Nat := #[]) (fds : Array FieldInfo := #[]) : ClassFile where
  minorVersion := 0
  majorVersion := 65
  constantPool := pool
  accessFlags := fl
  thisClass := this
  superClass := sup
  interfaces := ifs
  fields := fds
  methods := ms
  attributes := attrs
def plain (name : String) (sup : Option ClassId) : Class where
  name := name
  kind := .ordinary
  loader := none
  accessFlags := 33
  super := sup
  interfaces := #[]
  cf := none
  fields := #[]
  methods := #[]
  instanceTypes := #[]
  staticTypes := #[]
  resolved := #[]
  callSites := []
  init := .initialized
  statics := none
  mirror := none

def pool0 : Array CpInfo := pool [(5, u "<init>"), (0, u "()V"), (1, .class_ 10), (1, u "java/lang/Object")] 113

def k0m0 : Method := { name := "<init>", desc := "()V", sig := { parameters := [], returnType := none }, accessFlags := 1, code := none }
/-- java/lang/Object -/
def k0 : Class := { plain "java/lang/Object" none with
  accessFlags := 33
  interfaces := #[]
  cf := some (fileOf pool0 8 #[] #[{ accessFlags := 1, nameIndex := 5, descriptorIndex := 6, attributes := #[] }] 33 0 #[] #[])
  fields := #[]
  methods := #[k0m0]
  instanceTypes := #[]
  staticTypes := #[]
  resolved := Array.replicate 124 none
  statics := none }

def pool1 : Array CpInfo := pool [(2, .class_ 4), (1, u "java/lang/Object"), (0, u "<init>"), (0, u "()V"), (0, .methodref 8 9), (0, .class_ 10), (0, .nameAndType 11 12), (0, u "com/example/pledgeway/pledgeway/http/HeadEndPinLaw"), (0, u "pick"), (0, u "(IJI)B"), (0, .integer 2147483647), (0, .methodref 8 15), (0, .nameAndType 16 17), (0, u "endsAt"), (0, u "([BIII)Z"), (0, .methodref 19 20), (0, .class_ 21), (0, .nameAndType 22 23), (0, u "com/example/pledgeway/pledgeway/http/Head"), (0, u "end"), (0, u "([BII)I"), (3, u "law"), (0, u "(IJII)Z")] 4

def k1m0 : Method := { name := "<init>", desc := "()V", sig := { parameters := [], returnType := none }, accessFlags := 1, code := none }
def k1c1 : Code := { maxStack := 4, maxLocals := 5, code := method_2_code, exceptionTable := #[], attributes := #[] }
def k1m1 : Method := { name := "pick", desc := "(IJI)B", sig := { parameters := [.int, .long, .int], returnType := some .byte }, accessFlags := 10, code := some k1c1 }
def k1c2 : Code := { maxStack := 3, maxLocals := 4, code := method_3_code, exceptionTable := #[], attributes := #[] }
def k1m2 : Method := { name := "endsAt", desc := "([BIII)Z", sig := { parameters := [(.array .byte), .int, .int, .int], returnType := some .boolean }, accessFlags := 10, code := some k1c2 }
def k1c3 : Code := { maxStack := 6, maxLocals := 9, code := code, exceptionTable := #[], attributes := #[] }
def k1m3 : Method := { name := "law", desc := "(IJII)Z", sig := { parameters := [.int, .long, .int, .int], returnType := some .boolean }, accessFlags := 9, code := some k1c3 }
/-- com/example/pledgeway/pledgeway/http/HeadEndPinLaw -/
def k1 : Class := { plain "com/example/pledgeway/pledgeway/http/HeadEndPinLaw" (some 0) with
  accessFlags := 49
  interfaces := #[]
  cf := some (fileOf pool1 8 #[] #[{ accessFlags := 1, nameIndex := 5, descriptorIndex := 6, attributes := #[] }, { accessFlags := 10, nameIndex := 11, descriptorIndex := 12, attributes := #[] }, { accessFlags := 10, nameIndex := 16, descriptorIndex := 17, attributes := #[] }, { accessFlags := 9, nameIndex := 27, descriptorIndex := 28, attributes := #[] }] 49 2 #[] #[])
  fields := #[]
  methods := #[k1m0, k1m1, k1m2, k1m3]
  instanceTypes := #[]
  staticTypes := #[]
  resolved := Array.replicate 33 none
  statics := none }

def pool2 : Array CpInfo := pool [(2, .class_ 4), (1, u "java/lang/Object"), (3, .class_ 10), (1, u "com/example/pledgeway/pledgeway/http/Head"), (0, u "fields"), (0, u "Ljava/util/Map;"), (12, u "chunked"), (3, u "Z"), (4, u "contentLength"), (3, u "J"), (27, u "VERSION"), (0, u "Ljava/util/regex/Pattern;"), (178, u "TOKEN_SYMBOLS"), (0, u "Ljava/lang/String;"), (8, u "end"), (0, u "([BII)I")] 44

def k2c0 : Code := { maxStack := 3, maxLocals := 4, code := prog_25_method_2_code, exceptionTable := #[], attributes := #[] }
def k2m0 : Method := { name := "end", desc := "([BII)I", sig := { parameters := [(.array .byte), .int, .int], returnType := some .int }, accessFlags := 8, code := some k2c0 }
/-- com/example/pledgeway/pledgeway/http/Head -/
def k2 : Class := { plain "com/example/pledgeway/pledgeway/http/Head" (some 0) with
  accessFlags := 48
  interfaces := #[]
  cf := some (fileOf pool2 8 #[] #[{ accessFlags := 8, nameIndex := 256, descriptorIndex := 257, attributes := #[] }] 48 2 #[] #[{ accessFlags := 26, nameIndex := 66, descriptorIndex := 67, attributes := #[] }, { accessFlags := 26, nameIndex := 246, descriptorIndex := 247, attributes := #[] }, { accessFlags := 18, nameIndex := 11, descriptorIndex := 12, attributes := #[] }, { accessFlags := 18, nameIndex := 34, descriptorIndex := 38, attributes := #[] }, { accessFlags := 18, nameIndex := 25, descriptorIndex := 29, attributes := #[] }])
  fields := #[{ name := "VERSION", type := (.object "java/util/regex/Pattern"), accessFlags := 26, slot := 0, constantValue := 0 }, { name := "TOKEN_SYMBOLS", type := (.object "java/lang/String"), accessFlags := 26, slot := 1, constantValue := 0 }, { name := "fields", type := (.object "java/util/Map"), accessFlags := 18, slot := 0, constantValue := 0 }, { name := "contentLength", type := .long, accessFlags := 18, slot := 1, constantValue := 0 }, { name := "chunked", type := .boolean, accessFlags := 18, slot := 2, constantValue := 0 }]
  methods := #[k2m0]
  instanceTypes := #[(.object "java/util/Map"), .long, .boolean]
  staticTypes := #[(.object "java/util/regex/Pattern"), (.object "java/lang/String")]
  resolved := Array.replicate 302 none
  statics := none }

def pool3 : Array CpInfo := pool [(1, u "java/lang/Cloneable"), (0, .class_ 1), (0, u "java/lang/Object"), (0, .class_ 3)] 3

/-- java/lang/Cloneable -/
def k3 : Class := { plain "java/lang/Cloneable" (some 0) with
  accessFlags := 1537
  interfaces := #[]
  cf := some (fileOf pool3 2 #[] #[] 1537 4 #[] #[])
  fields := #[]
  methods := #[]
  instanceTypes := #[]
  staticTypes := #[]
  resolved := Array.replicate 8 none
  statics := none }

def pool4 : Array CpInfo := pool [(1, u "java/io/Serializable"), (0, .class_ 1), (0, u "java/lang/Object"), (0, .class_ 3)] 3

/-- java/io/Serializable -/
def k4 : Class := { plain "java/io/Serializable" (some 0) with
  accessFlags := 1537
  interfaces := #[]
  cf := some (fileOf pool4 2 #[] #[] 1537 4 #[] #[])
  fields := #[]
  methods := #[]
  instanceTypes := #[]
  staticTypes := #[]
  resolved := Array.replicate 8 none
  statics := none }

/-- the primitive byte -/
def k5 : Class := { plain "byte" none with kind := .primitive 'B', accessFlags := 0x411 }
/-- [B -/
def k6 : Class := { plain "[B" (some 0) with kind := .array 5 .byte, interfaces := #[3, 4], accessFlags := 1041 }

/-- the primitive int -/
def k7 : Class := { plain "int" none with kind := .primitive 'I', accessFlags := 0x411 }
/-- [I -/
def k8 : Class := { plain "[I" (some 0) with kind := .array 7 .int, interfaces := #[3, 4], accessFlags := 1041 }

def heap : Heap := #[]
def classes : Array Class := #[k0, k1, k2, k3, k4, k5, k6, k7, k8]
def interned : List (Array UInt16 × Addr) := []
def slotsUsed : Nat := 0
def theMethod : MethodId := ⟨1, 3⟩
def args0 : Array Value := #[.int 1, .long 2, .int 3, .int 4]
def aboutOver (below : List Frame) : State where
  vm := { classes := classes, interned := interned.toArray }
  heap := heap
  slotsUsed := slotsUsed
  threads := #[{ frames := .invoking theMethod args0 :: below }]
def below0 : List Frame := [.native { method := ⟨0, 0⟩, args := #[] }]
def about1 : State := aboutOver below0
def p0 : Program := .bare "" "" ""
def e0 : Env := launch0.env 0 0 0
theorem w_frames : about1.frames = Frame.invoking theMethod args0 :: below0 := rfl
set_option maxRecDepth 65536 in
theorem w_args : argsFit about1.vm theMethod args0 = true := by decide +kernel
set_option maxRecDepth 65536 in
theorem w_heap : heapFits about1 = true := by decide +kernel
set_option maxRecDepth 65536 in
theorem w_runnable : about1.curStatus? = some .runnable := by decide +kernel
set_option maxRecDepth 65536 in
theorem w_alone : about1.alone = true := by decide +kernel
set_option maxRecDepth 65536 in
theorem w_named : about1.methodNamed? x = some theMethod := by decide +kernel
set_option maxRecDepth 65536 in
theorem w_hears : about1.hears theMethod below0 = true := by decide +kernel
set_option maxRecDepth 65536 in
theorem w_ripe : about1.ripe theMethod args0 below0 = true := by decide +kernel
theorem w_running : about1.status = .running := rfl
set_option maxRecDepth 65536 in
theorem w_room : about1.hasRoom e0.platform room_1 = true :=
  launch0.hasRoom_least _ room_1 (by decide +kernel) (by decide +kernel) (by decide +kernel) (by decide +kernel) (by decide +kernel) (by decide +kernel)
theorem allAtoms_all (ts : List Jvm.Cond) (a : Array Jvm.Value) (st : Jvm.State) : (allAtoms ts).before a st = ts.all (fun c => c.before a st) := by
  induction ts with
  | nil => rfl
  | cons c t ih =>
    show (Jvm.Cond.and c (allAtoms t)).before a st = _
    rw [Jvm.Cond.before_and, ih, List.all_cons]
def words1 : List Jvm.Cond := Jvm.Cond.code x code maxLocals ret :: tables_1
/-- a 'code' word, met by the world's own term for the bytes: nothing is compared byte by byte -/
theorem code_word {y : MethodName} {bytes : ByteArray} {mx : Nat} {rt : Option FieldType} {a : Array Value} {s : State} {m : MethodId} {meth : Method} {c : Code} (h1 : s.methodNamed? y = some m) (h2 : s.vm.method? m = some meth) (h3 : meth.code = some c) (h4 : c.code = bytes)
    (h5 : (c.maxLocals == mx && c.exceptionTable.isEmpty && decide (c.maxStack ≤ mostOperands) && decide (meth.sig.returnType = rt) && !meth.locks && decide (parseMethodDescriptor y.desc = some meth.sig)) = true) : (Jvm.Cond.code y bytes mx rt).before a s = true := by
  simp only [Bool.and_eq_true, beq_iff_eq, Bool.not_eq_true', decide_eq_true_eq] at h5
  obtain ⟨⟨⟨⟨⟨g1, g2⟩, g3⟩, g4⟩, g5⟩, g6⟩ := h5
  simp [Cond.before, Cond.holds, Cond.value, h1, h2, h3, h4, g1, g2, g3, g4, g5, g6]
def isCode : Jvm.Cond → Bool
  | .code _ _ _ _ => true
  | _ => false
theorem all_split {L : List Jvm.Cond} {P : Jvm.Cond → Bool} (h1 : L.all (fun c => isCode c || P c) = true) (h2 : ∀ c ∈ L.filter isCode, P c = true) : L.all P = true := by
  refine List.all_eq_true.mpr fun c hc => ?_
  have h := List.all_eq_true.mp h1 c hc
  rcases Bool.eq_false_or_eq_true (isCode c) with hi | hi
  · exact h2 c (List.mem_filter.mpr ⟨hc, hi⟩)
  · simpa [hi] using h
set_option maxRecDepth 65536 in
theorem w_c0 : (Jvm.Cond.code x code maxLocals ret).before args0 about1 = true := code_word (m := ⟨1, 3⟩) (meth := k1m3) (c := k1c3) (by decide +kernel) rfl rfl rfl (by decide +kernel)
set_option maxRecDepth 65536 in
theorem w_c1 : (Jvm.Cond.code ({ cls := "com/example/pledgeway/pledgeway/http/HeadEndPinLaw", name := "pick", desc := "(IJI)B" } : Jvm.MethodName) method_2_code (5 : Nat) (Option.some Jvm.ClassFile.FieldType.byte)).before args0 about1 = true := code_word (m := ⟨1, 1⟩) (meth := k1m1) (c := k1c1) (by decide +kernel) rfl rfl rfl (by decide +kernel)
set_option maxRecDepth 65536 in
theorem w_c2 : (Jvm.Cond.code ({ cls := "com/example/pledgeway/pledgeway/http/HeadEndPinLaw", name := "endsAt", desc := "([BIII)Z" } : Jvm.MethodName) method_3_code (4 : Nat) (Option.some Jvm.ClassFile.FieldType.boolean)).before args0 about1 = true := code_word (m := ⟨1, 2⟩) (meth := k1m2) (c := k1c2) (by decide +kernel) rfl rfl rfl (by decide +kernel)
set_option maxRecDepth 65536 in
theorem w_c3 : (Jvm.Cond.code ({ cls := "com/example/pledgeway/pledgeway/http/Head", name := "end", desc := "([BII)I" } : Jvm.MethodName) prog_25_method_2_code (4 : Nat) (Option.some Jvm.ClassFile.FieldType.int)).before args0 about1 = true := code_word (m := ⟨2, 0⟩) (meth := k2m0) (c := k2c0) (by decide +kernel) rfl rfl rfl (by decide +kernel)
def codes1 : List Jvm.Cond := [Jvm.Cond.code x code maxLocals ret, Jvm.Cond.code ({ cls := "com/example/pledgeway/pledgeway/http/HeadEndPinLaw", name := "pick", desc := "(IJI)B" } : Jvm.MethodName) method_2_code (5 : Nat) (Option.some Jvm.ClassFile.FieldType.byte), Jvm.Cond.code ({ cls := "com/example/pledgeway/pledgeway/http/HeadEndPinLaw", name := "endsAt", desc := "([BIII)Z" } : Jvm.MethodName) method_3_code (4 : Nat) (Option.some Jvm.ClassFile.FieldType.boolean), Jvm.Cond.code ({ cls := "com/example/pledgeway/pledgeway/http/Head", name := "end", desc := "([BII)I" } : Jvm.MethodName) prog_25_method_2_code (4 : Nat) (Option.some Jvm.ClassFile.FieldType.int)]
set_option maxRecDepth 65536 in
theorem codes_eq : words1.filter isCode = codes1 := rfl
theorem w_codes : ∀ c ∈ words1.filter isCode, c.before args0 about1 = true := by
  rw [codes_eq]
  intro c hc
  simp only [codes1, List.mem_cons, List.not_mem_nil, or_false] at hc
  rcases hc with rfl | rfl | rfl | rfl
  · exact w_c0
  · exact w_c1
  · exact w_c2
  · exact w_c3
set_option maxRecDepth 65536 in
theorem w_t1 : words1.all (fun c => isCode c || c.before args0 about1) = true := by decide +kernel
theorem w_tables : (allAtoms (Jvm.Cond.code x code maxLocals ret :: tables_1)).before args0 about1 = true := by
  rw [allAtoms_all]
  show words1.all (fun c => c.before args0 about1) = true
  refine all_split ?_ w_codes
  rw [w_t1]
set_option maxRecDepth 65536 in
theorem w_case : (Jvm.Cond.and given_1 narrow_1).before args0 about1 = true := by decide +kernel
theorem w_applies : (headSpec (Jvm.Cond.code x code maxLocals ret :: tables_1) room_1).applies x e0.platform about1 = true :=
  (Spec.applies_iff w_frames).mpr ⟨w_running, w_runnable, w_alone, w_named, w_hears, w_ripe, w_room, w_tables⟩
theorem atStart : AtStart classFile x code maxLocals ret World_1 tables_1 room_1 Calls_1 rest_1 Pre_1 launch0 p0 e0 about1 theMethod args0 below0 :=
  ⟨lists_1, trivial, launch0.admits_env _ _ _, launch0.least_env, fairChoices_fair.cas, fairChoices_fair.clock, w_frames, w_args, w_heap, w_applies, trivial, trivial, w_case⟩
end start1
theorem witness_1 : WitnessClaimed_1 := ⟨start1.p0, start1.e0, start1.about1, start1.theMethod, start1.args0, start1.below0, start1.atStart⟩
end Jvm.Pilot.@@N@@
