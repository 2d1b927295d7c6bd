import JvmDerived
import JvmDerived.Pilot.@@N@@Statement
import JvmDerived.Pilot.@@N@@Code
set_option linter.unusedVariables false
set_option linter.unusedSimpArgs false
@@BLOCK:NumsL.lean.txt@@
@@BLOCK:TracedD.lean.txt@@
namespace Jvm.RoadKit
open Sem ClassFile Op Lib Jvm.Stand Jvm.Free Jvm.LawKit
section New
variable {p : Program} {l : Launch} {e : Env} {R : Room} {s : State} {m : MethodId} {args : Array Value} {below : List Frame} {meth : Method} {c : Code} {T : State} {locs : List Loc} {cells slots : Nat}
theorem retI (X : Stand p l e R s m args below meth c T locs cells slots) (hx : p.tables.exec = Jvm.exec) {pc : Nat} {Ls : Array Slot} {z : Int32} {rest : List Value} (hret : meth.sig.returnType = some .int) (hd : decode c.code pc = .ok (.ireturn, 1)) {fs : List Frame}
    (hl : ∀ (f : JFrame) (acts : List Action), f.method = m → f.locked = none → f.entered = [] → (doReturn e (T.setTop f) acts (some (.int z))).1 = T.setFrames fs) : Steps p.tables e below (T.setTop (mkF m pc Ls (.int z :: rest))) (T.setFrames fs) := by
  have hm' : T.vm.method? m = some meth := X.method'
  have hn : narrow .int (.int z) = .int z := rfl
  show Steps p.tables e below (T.setTop { method := m, pc := pc, locals := Ls, stack := _ :: rest, locked := none }) _
  jvm_step X.here [X.here.top, hx, hd, hm', hret, hn]
  first | (intro acts; rw [hl _ acts rfl rfl rfl]) | rw [hl _ _ rfl rfl rfl]
  exact Steps.refl _
end New
end Jvm.RoadKit
namespace Jvm.Pilot.@@N@@
open Jvm Jvm.ClassFile Sem Op Lib Jvm.Free Jvm.Stand Jvm.LawKit Jvm.RoadKit Bundle Jvm.Pilot.@@N@@.Jvm.D
theorem Wd {Z : State} {a0 : Array Value} {d : Jvm.Cond} (hw : ∀ d ∈ tables_1, d.before a0 Z = true) (i : Nat) (h : tables_1[i]? = some d) : d.before a0 Z = true := hw _ (List.mem_of_getElem? h)
theorem own_sz {Z : State} {n0 : Nat} {h : Heap} (O : Old Z n0 h) : n0 ≤ h.size := O.1 ▸ O.2.1
theorem own_neArv {Z : State} {h : Heap} {a b : Addr} {k k' : ClassId} {ty ty' : FieldType} {z z' : Int32} {vs vs' : List Value} {d d' : Value} (F : Arv Z h a k ty z vs d) (G : Arv Z h b k' ty' z' vs' d') (hn : ty ≠ ty') : a ≠ b := fun q => by
  subst q
  obtain ⟨c1, ⟨e1, ⟨-, k1, hk1, cp1, hd1⟩, -⟩, -⟩ := F
  obtain ⟨c2, ⟨e2, ⟨-, k2, hk2, cp2, hd2⟩, -⟩, -⟩ := G
  cases e1.symm.trans e2
  cases hk1.symm.trans hk2
  rw [hd1] at hd2
  injection hd2 with _ h2
  exact hn h2
theorem own_fi {args : Array Value} {s : State} {t : Term} {a : Addr} {C n d : String} {k : Int32} (ht : t.eval args s none [] s = some (.ref a)) (h : (Jvm.Cond.eq (Jvm.Term.field t C n d) (Jvm.Term.int k)).value args s none s [] = some true) : s.fieldOf? a C n d = some (.int k) := by
  have e := fld_at (C := C) (n := n) (dd := d) ht
  obtain ⟨v, w, h1, h2, h3, h4⟩ := cmp_v (Or.inl h)
  cases (Term.int_eval k).symm.trans h2
  obtain ⟨z, rfl⟩ := h4
  rw [← e, h1]
  simp only [Cond.value, h1, Term.int_eval] at h
  simpa using h
theorem own_len {args : Array Value} {s : State} {t : Term} {a : Addr} {cl : Cell} {ty : FieldType} {z : Int32} (A : Arr s s.heap a cl ty) (ev : t.eval args s none [] s = some (.ref a)) (h : (Jvm.Cond.eq (Jvm.Term.length t) (Jvm.Term.int z)).value args s none s [] = some true) : cl.slots.size < 2 ^ 31 ∧ cl.slots.size.toInt32 = z := by
  have e := Cond.eq_int (beq_iff_eq.mpr h) (Term.int_eval z)
  have hA : s.arrayAt? a = some cl := IntBox.arrayAt_of A.1 A.2.1 A.2.2
  by_cases q : cl.slots.size < 2 ^ 31
  · refine ⟨q, ?_⟩
    have r := len_f ev hA q
    rw [r] at e
    injection e with e
    injection e
  · exfalso
    simp [Term.eval, ev, hA] at e
    omega
theorem own_eli {args : Array Value} {s : State} {t : Term} {a : Addr} {cl : Cell} {j k : Int32} (hc : s.heap[a]? = some cl) (ev : t.eval args s none [] s = some (.ref a)) (h : (Jvm.Cond.eq (Jvm.Term.elem t (Jvm.Term.int j)) (Jvm.Term.int k)).value args s none s [] = some true) : cl.slots[j.toNatClampNeg]? = some (.int k) :=
  (elem_in (Cond.eq_int (beq_iff_eq.mpr h) (Term.int_eval k)) ev (Term.int_eval j) hc).2
theorem own_elr {args : Array Value} {s : State} {t u : Term} {a b : Addr} {cl : Cell} {j : Int32} (hc : s.heap[a]? = some cl) (ev : t.eval args s none [] s = some (.ref a)) (eu : u.eval args s none [] s = some (.ref b)) (h : (Jvm.Cond.eq (Jvm.Term.elem t (Jvm.Term.int j)) u).value args s none s [] = some true) : cl.slots[j.toNatClampNeg]? = some (.ref b) := by
  obtain ⟨v, w, h1, h2, h3, h4⟩ := cmp_v (Or.inl h)
  cases eu.symm.trans h2
  have hv : v = .ref b := gotT (eq_R h1 h2 h4.2 rfl) h
  rw [hv] at h1
  exact (elem_in h1 ev (Term.int_eval j) hc).2
set_option maxHeartbeats 40000000
set_option maxRecDepth 65536
theorem lTr {a b c : Nat} (h : a ≤ b) (g : b ≤ c) : a ≤ c := Nat.le_trans h g
theorem lLt {a b c : Nat} (h : a < b) (g : b ≤ c) : a < c := Nat.lt_of_lt_of_le h g
theorem lEq {a b : Nat} (h : a = b) : a ≤ b := Nat.le_of_eq h
theorem nLt {a b : Nat} (h : a < b) : a ≠ b := Nat.ne_of_lt h
abbrev Rm (f c s l : Nat) : Room := { frames := f, cells := c, slots := s, locals := l }
abbrev vr (a : Addr) : Slot := .val (.ref a)
abbrev vi (n : Int32) : Slot := .val (.int n)
abbrev SP (p : Program) (e : Env) (b : List Frame) (T : State) (m : MethodId) (i : Nat) (L : Array Slot) (S : List Value) (t : State) : Prop := Steps p.tables e b (T.setTop (mkF m i L S)) t
abbrev MF (l : Launch) (M : MethodName) (k : ByteArray) (n : Nat) (r : Option FieldType) (ws : List Jvm.Cond) (R : Room) (A : Array Value) (Z : State) (h : Heap) (Q : Option Value → Heap → List Loc → Prop) : Prop := MetFree l M (head1 (Jvm.Cond.code M k n r :: ws) R) (fun a U => a = A ∧ Z.Warmed39 U.vm ∧ U.heap = h) (fun _ _ _ _ _ => True) (fun _ U o U' => ∃ v L, o = .returned v ∧ Q v U'.heap L ∧ FrameEnd U o U' L R.cells R.slots)
abbrev dL (b : ByteArray) (L : List (Nat × Instr × Nat)) : Bool := L.all fun x => decide (decode b x.1 = .ok x.2)
theorem retA {p : Program} {l : Launch} {e : Env} {R : Room} {s : State} {m : MethodId} {args : Array Value} {below : List Frame} {meth : Method} {c : Code} {T : State} {locs : List Loc} {cells slots : Nat} (X : Stand p l e R s m args below meth c T locs cells slots) (hx : p.tables.exec = Jvm.exec) {pc : Nat} {Ls : Array Slot} {a : Addr} {t : FieldType} {rest : List Value} (hret : meth.sig.returnType = some t) (ht : t.isReference = true)
    (hd : decode c.code pc = .ok (.areturn, 1)) {fs : List Frame} (hl : ∀ (f : JFrame) (acts : List Action), f.method = m → f.locked = none → f.entered = [] → (doReturn e (T.setTop f) acts (some (.ref a))).1 = T.setFrames fs) :
    Steps p.tables e below (T.setTop (mkF m pc Ls (.ref a :: rest))) (T.setFrames fs) := by
  have hm' : T.vm.method? m = some meth := X.method'
  show Steps p.tables e below (T.setTop { method := m, pc := pc, locals := Ls, stack := _ :: rest, locked := none }) _
  jvm_step X.here [X.here.top, hx, hd, hm', hret, ht, Value.isRef]
  first | (intro acts; rw [hl _ acts rfl rfl rfl]) | rw [hl _ _ rfl rfl rfl]
  exact Steps.refl _
def dA (L : List (Nat × Instr × Nat)) (k : Nat) : Nat × Instr × Nat := (L[k]?).getD (0, .aconst_null, 1)
theorem dG {b : ByteArray} {c : Code} (hby : c.code = b) {L : List (Nat × Instr × Nat)} (h : dL b L = true) (k : Nat) (q : Nat.ble (k + 1) L.length = true) : decode c.code (dA L k).1 = .ok (dA L k).2 := by
  have hk : k < L.length := Nat.le_of_ble_eq_true q
  have e : L[k]? = some (dA L k) := by simp [dA, hk]
  rw [hby]; exact of_decide_eq_true (List.all_eq_true.mp h _ (List.mem_of_getElem? e))
theorem own_shr0 (x : Int32) : x >>> ((0 : Int32) &&& 31) = x := by
  have h : ((0 : Int32) &&& 31) = 0 := by decide
  rw [h]
  apply Int32.toBitVec_inj.mp
  simp
theorem own_b2 (x : Int32) : (x.toInt8.toInt32).toInt8.toInt32 = x.toInt8.toInt32 := by
  have h : x.toInt8.toInt32.toInt8 = x.toInt8 := by
    apply Int8.toInt_inj.mp
    rw [Int32.toInt_toInt8, Int8.toInt_toInt32]
    have h2 := x.toInt8.toInt_lt; have h3 := x.toInt8.le_toInt
    rw [Int.bmod_eq_of_le] <;> omega
  rw [h]
theorem own_nari2c (x : Int32) : nar .char (x.toUInt32.toUInt16.toUInt32.toInt32) = x.toUInt32.toUInt16.toUInt32.toInt32 := by
  show (x.toUInt32.toUInt16.toUInt32.toInt32).toUInt32.toUInt16.toUInt32.toInt32 = _
  rw [UInt32.toUInt32_toInt32, UInt16.toUInt16_toUInt32]
theorem own_nar255 (x : Int32) : nar .char (x &&& (255 : Int32)) = x &&& (255 : Int32) := i2c_mask x
theorem own_and255 (x : Int32) : ¬ ((255 : Int32) < x &&& (255 : Int32)) ∧ ¬ (x &&& (255 : Int32) < (0 : Int32)) := by
  have e := Jvm.Kit.i32_mask x 255 (k := 8) (by decide) (by decide)
  have h1 := Int.emod_nonneg x.toInt (show (2 : Int) ^ 8 ≠ 0 by decide)
  have h2 := Int.emod_lt_of_pos x.toInt (show (0 : Int) < 2 ^ 8 by decide)
  have e1 : (255 : Int32).toInt = 255 := rfl
  have e0 : (0 : Int32).toInt = 0 := rfl
  constructor <;> rw [Int32.lt_iff_toInt_lt] <;> omega
theorem own_mvM {Z s : State} {a0 args : Array Value} {own host : String} {y : MethodName} {index : Nat} (hZ : Z.Warmed39 s.vm) (w : (Jvm.Cond.methodLinkNest own index y host).before a0 Z = true) : (Jvm.Cond.methodLinkNest own index y host).before args s = true := (Cond.methodLinkNest_wide hZ w :)
theorem own_sub0 (x : Int32) : x - (0 : Int32) = x := by simp
theorem own_shl0 (x : Int32) : x <<< ((0 : Int32) &&& 31) = x := by
  have h : ((0 : Int32) &&& 31) = 0 := by decide
  rw [h]
  apply Int32.toBitVec_inj.mp
  simp
theorem own_tn {x : Int32} (h : ¬ (x < (0 : Int32))) : x.toInt = (x.toNatClampNeg : Int) := nat_of h
theorem own_addI {a b : Int32} {A B : Int} (a0 : 0 ≤ a.toInt) (a1 : a.toInt ≤ A) (b0 : 0 ≤ b.toInt) (b1 : b.toInt ≤ B) (h : A + B < 2147483648) : (a + b).toInt = a.toInt + b.toInt := by
  rw [Int32.toInt_add]
  apply Int.bmod_eq_of_le <;> omega
theorem own_le {x k : Int32} (h : ¬ (k < x)) : x.toInt ≤ k.toInt := by rw [Int32.lt_iff_toInt_lt] at h; omega
theorem own_ge {x k : Int32} (h : ¬ (x < k)) : k.toInt ≤ x.toInt := by rw [Int32.lt_iff_toInt_lt] at h; omega
theorem own_cap {k n : Int32} (h0 : ¬ (k < (0 : Int32))) (h1 : ¬ ((14 : Int32) < k)) (h2 : ¬ (n < (0 : Int32))) (h3 : ¬ ((2 : Int32) < n)) : ¬ ((0 : Int32) < ((k + n) - (16 : Int32))) ∧ k.toNatClampNeg + n.toNatClampNeg ≤ 16 := by
  have a0 := own_ge h0; have a1 := own_le h1; have b0 := own_ge h2; have b1 := own_le h3
  have q0 : (0 : Int32).toInt = 0 := rfl
  have q2 : (2 : Int32).toInt = 2 := rfl
  have q14 : (14 : Int32).toInt = 14 := rfl
  have q16 : (16 : Int32).toInt = 16 := rfl
  rw [q0] at a0 b0; rw [q14] at a1; rw [q2] at b1
  have e := own_addI a0 a1 b0 b1 (by decide)
  have t1 := own_tn h0; have t2 := own_tn h2
  refine ⟨?_, by omega⟩
  rw [Int32.lt_iff_toInt_lt, Int32.toInt_sub, e, q0, q16, Int.bmod_eq_of_le (by omega) (by omega)]
  omega
theorem own_c1 {n : Int32} (h2 : ¬ (n < (0 : Int32))) (h3 : ¬ ((2 : Int32) < n)) : ¬ (((0 : Int32) + n) < (0 : Int32)) ∧ ¬ ((14 : Int32) < ((0 : Int32) + n)) ∧ ¬ ((((0 : Int32) + n) + (2 : Int32)) < (0 : Int32)) ∧ ¬ ((14 : Int32) < (((0 : Int32) + n) + (2 : Int32))) := by
  have b0 := own_ge h2; have b1 := own_le h3
  have q0 : (0 : Int32).toInt = 0 := rfl
  have q2 : (2 : Int32).toInt = 2 := rfl
  have q14 : (14 : Int32).toInt = 14 := rfl
  rw [q0] at b0; rw [q2] at b1
  have z : (0 : Int32) + n = n := by simp
  have e := own_addI b0 b1 (b := (2 : Int32)) (B := 2) (by decide) (by decide) (by decide)
  rw [z]
  simp only [Int32.lt_iff_toInt_lt, e, q0, q2, q14]
  omega
theorem own_c2 {n k : Int32} (h2 : ¬ (n < (0 : Int32))) (h3 : ¬ ((2 : Int32) < n)) (h4 : ¬ (k < (0 : Int32))) (h5 : ¬ ((2 : Int32) < k)) : ¬ (((((0 : Int32) + n) + (2 : Int32)) + k) < (0 : Int32)) ∧ ((((0 : Int32) + n) + (2 : Int32)) + k) < (16 : Int32) ∧ ¬ (((((0 : Int32) + n) + (2 : Int32)) + k) = (16 : Int32)) ∧ ((((0 : Int32) + n) + (2 : Int32)) + k).toNatClampNeg ≤ 16 := by
  have b0 := own_ge h2; have b1 := own_le h3; have c0 := own_ge h4; have c1 := own_le h5
  have q0 : (0 : Int32).toInt = 0 := rfl
  have q2 : (2 : Int32).toInt = 2 := rfl
  have q16 : (16 : Int32).toInt = 16 := rfl
  rw [q0] at b0 c0; rw [q2] at b1 c1
  have z : (0 : Int32) + n = n := by simp
  have e := own_addI b0 b1 (b := (2 : Int32)) (B := 2) (by decide) (by decide) (by decide)
  rw [q2] at e
  have e2 := own_addI (a := n + 2) (A := 4) (by omega) (by omega) c0 c1 (by decide)
  rw [z]
  have g1 : ¬ (((n + (2 : Int32)) + k) < (0 : Int32)) := by rw [Int32.lt_iff_toInt_lt, e2, e, q0]; omega
  have t := own_tn g1
  refine ⟨g1, by rw [Int32.lt_iff_toInt_lt, e2, e, q16]; omega, fun q => ?_, by omega⟩
  have q' := congrArg Int32.toInt q
  rw [e2, e, q16] at q'
  omega
theorem own_len16 {vs us : List Value} {i n : Nat} (h : vs.length = 16) (hu : us.length = n) (hi : i + n ≤ 16) : (vs.take i ++ us ++ vs.drop (i + n)).length = 16 := by
  simp only [List.length_append, List.length_take, List.length_drop, h, hu]
  omega
theorem own_nf {args : Array Value} {s : State} {C : String} {u v y : MethodName} (h : (Jvm.Cond.selects C u v).before args s = true) (e : v.cls = y.cls) : NotFace s y := fun r0 h0 => by
  obtain ⟨c2, r2, m2, q1, q2, q3, q4, kP, hkP, hkPi⟩ := Cond.selects_spec h
  have a := findClass_of_methodNamed q3
  have b := findClass_of_methodNamed h0
  rw [e] at a
  have q := Option.some.inj (a.symm.trans b)
  rw [q] at hkP
  exact ⟨kP, hkP, hkPi⟩
theorem own_decl {args : Array Value} {s : State} {y : MethodName} {bytes : ByteArray} {mx : Nat} {rt : Option FieldType} (wi : (Jvm.Cond.instanceMethod y).before args s = true) (wc : (Jvm.Cond.code y bytes mx rt).before args s = true) : (Jvm.Cond.declares y).before args s = true := by
  obtain ⟨mk, methM, hnamed, hmethM, hstM, habM⟩ := Cond.instanceMethod_spec wi
  obtain ⟨m2, cM, q1, -, -, -, -, -, -, hsig⟩ := Cond.code_spec hnamed wc
  cases hmethM.symm.trans q1
  simp [Cond.before, Cond.holds, Cond.value, hnamed, hmethM, hstM, hsig]
theorem own_same {args : Array Value} {s : State} {C : String} {u v y : MethodName} (wi : (Jvm.Cond.instanceMethod y).before args s = true) (h : (Jvm.Cond.selects C u v).before args s = true) (e : v.cls = y.cls) (hn : y.cls ≠ "java/lang/invoke/MethodHandle" ∧ y.cls ≠ "java/lang/invoke/VarHandle") : (Jvm.Cond.sameMethod y.cls y.cls y.name y.desc).before args s = true := by
  obtain ⟨mk, methM, hnamed, hmethM, hstM, habM⟩ := Cond.instanceMethod_spec wi
  obtain ⟨k, hk, hi⟩ := own_nf h e mk hnamed
  have a := findClass_of_methodNamed hnamed
  have f : s.methodFound? y.cls y.name y.desc = some mk := State.methodFound?_of_named hnamed hn
  have g : s.methodNamed? ⟨y.cls, y.name, y.desc⟩ = some mk := hnamed
  simp [Cond.before, Cond.holds, Cond.value, a, f, g, hk, hi]
theorem own_nsRoot {Z : State} {a0 : Array Value} {O K : String} {n : Nat} (w : (Jvm.Cond.noSuperclass O).before a0 Z = true) (wk : (Jvm.Cond.instantiable K n).before a0 Z = true) (hn : O ≠ K) : NS Z O K := by
  obtain ⟨c, k, h1, h2, h3, -, -⟩ := Cond.noSuperclass_spec w
  obtain ⟨t, kt, g1, -⟩ := Cond.instantiable_spec wk
  have ne := ids_ne h1 g1 hn
  refine ⟨c, t, h1, g1, fun fuel => ?_⟩
  cases fuel with
  | zero => rfl
  | succ f => simp [Vm.isSubclassAux, ne, h2, h3]
theorem own_nsNo {Z : State} {a0 : Array Value} {C S K : String} {n : Nat} (w : (Jvm.Cond.superclass C S).before a0 Z = true) (wk : (Jvm.Cond.instantiable K n).before a0 Z = true) (q : NS Z C K) (hn : C ≠ K) : ∃ c t, Z.vm.findClass C = some c ∧ Z.vm.findClass K = some t ∧ Z.vm.assignable c t = false := by
  obtain ⟨c, t, h0, g0, n3⟩ := q
  obtain ⟨p, k, kp, h1, h2, h3, h4, h5, -, h7⟩ := Cond.superclass_spec h0 w
  obtain ⟨t', kt, g1, g2, g5, g6, -⟩ := Cond.instantiable_spec wk
  cases g0.symm.trans g1
  have ne := ids_ne h0 g0 hn
  have g7 : kt.isInterface = false := by simp only [Bool.or_eq_false_iff] at g6; exact g6.1
  refine ⟨c, t, h0, g0, ?_⟩
  show Z.vm.assignableAux (255 + 1) c t = false
  simp [Vm.assignableAux, ne, h2, g2, h5, g5, g7, Vm.isSubclass, n3]
theorem own_ths {Z : State} {n0 : Nat} {h : Heap} (O : Old Z n0 h) : ThS Z h := fun _ _ _ _ _ _ _ q _ => O.2.2 _ _ q
theorem own_ldcM {p : Program} {l : Launch} {e : Env} {R : Room} {s : State} {m : MethodId} {args : Array Value} {below : List Frame} {meth : Method} {c : Code} {T : State} {locs : List Loc} {cells slots : Nat} {Z : State} {a0 : Array Value} {h : Heap} (X : Stand p l e R s m args below meth c T locs cells slots) (hx : p.tables.exec = Jvm.exec) (hZ : Z.Warmed39 s.vm) {own C : String} {index : Nat} (hown : s.vm.findClass own = some m.cls) (w : (Jvm.Cond.classLink own index C).before a0 Z = true) (eT : T.heap = h) {a : Addr} (M : Mir Z C a)
    {g : JFrame} (hg : g.method = m) (hd : decode c.code g.pc = .ok (.ldc index, 2)) : ∃ T', Stand p l e R s m args below meth c T' locs cells slots ∧ T'.heap = h ∧ ∀ target, Steps p.tables e below (T'.setTop { g with pc := g.pc + 2, stack := .ref a :: g.stack }) target → Steps p.tables e below (T.setTop g) target := by
  obtain ⟨cc, k, h1, h2, h3, -⟩ := M
  obtain ⟨k', q, ek⟩ := hZ.alike.2.2 _ _ h2
  have h1' : s.vm.findClass C = some cc := by rw [hZ.alike.findClass]; exact h1
  have h3' : k'.mirror = some a := by rw [ek]; exact h3
  obtain ⟨vm', X', st⟩ := X.ldcMirror hx hown (mv hZ w) (a := a) (by simp [Term.eval, h1', q, h3']) hg hd
  exact ⟨_, X', eT, st⟩
theorem own_sub {L : List Jvm.Cond} {Z : State} {a0 : Array Value} (hw : ∀ d ∈ tables_1, d.before a0 Z = true) (js : List Nat) (h : L = js.map fun j => tables_1.getD j .tt) : ∀ d ∈ L, d.before a0 Z = true := fun d hd => by
  subst h
  obtain ⟨j, -, rfl⟩ := List.mem_map.mp hd
  rw [List.getD_eq_getElem?_getD]
  cases q : tables_1[j]? with
  | none => rfl
  | some x => exact hw _ (List.mem_of_getElem? q)
def EL1 : List (String × Nat) := [("com/example/grantline/grantline/PolicyException$Problem", 23), ("com/example/grantline/grantline/PolicyExceptionPointerPinLaw", 12)]
theorem own_EW {Z : State} {a0 : Array Value} (hw : ∀ d ∈ tables_1, d.before a0 Z = true) : EW Z a0 EL1 := (EW.cons (Wd hw 216 rfl) (by decide) (EW.cons (Wd hw 434 rfl) (by decide) EW.nil))
theorem own_wS {Z : State} {a0 : Array Value} (hw : ∀ d ∈ tables_1, d.before a0 Z = true) : ∀ a ∈ Bundle.stringAtoms, a.before a0 Z = true := fun d hd => by
  simp only [Bundle.stringAtoms, List.mem_cons, List.not_mem_nil, or_false] at hd
  rcases hd with rfl | rfl | rfl | rfl | rfl | rfl | rfl
  · exact (Wd hw 7 rfl)
  · exact (Wd hw 6 rfl)
  · exact (Wd hw 23 rfl)
  · exact (Wd hw 33 rfl)
  · exact (Wd hw 31 rfl)
  · exact (Wd hw 217 rfl)
  · exact (Wd hw 218 rfl)
theorem own_safeS {Z : State} {EL : List (String × Nat)} {vm : Vm} {h : Heap} {a : Addr} (hal : Z.vm.Alike vm) (H : CHv Z EL vm h) (F : Fld Z h a "java/lang/String" "value" "[B" .null) (E : Exa Z h a "java/lang/String") : Safe Z EL vm h a := fun ⟨p, hp, u, a', hb, q, hq, S, hy⟩ => by
  obtain ⟨cS, ⟨⟨s1, s2, s3, ⟨cv, kv, iv, s4, s4'⟩, -, s6, -, s8, -, s10, s11, -⟩, hfS, hcS⟩, ⟨kS, k1, k2, k3⟩, -⟩ := S
  obtain ⟨cell, cf, k, i, f, f1, f2, f3, f4, f5, f6, f7⟩ := F
  rcases hy with rfl | rfl
  · cases s1.symm.trans f1
    obtain ⟨kv', z4⟩ := ff_back (U := Wst Z vm h) hal s4
    cases z4.symm.trans f2
    cases s8.symm.trans f7
  · obtain ⟨c2, k2', e1, e2, e3, e4, e5⟩ := E
    cases s10.symm.trans e1
    obtain ⟨hst, k9, hk9, comp, hkind9⟩ := s11
    obtain ⟨kz', hkz', ekz⟩ := hal.2.2 _ _ e3
    have h9 : k9 = kz' := Option.some.inj (hk9.symm.trans hkz')
    have hfS' : vm.findClass "java/lang/String" = some cS := hfS
    rw [hal.findClass] at hfS'
    have hc : q.SA.cls = cS := Option.some.inj (e2.symm.trans hfS')
    have h8 : kz' = kS := Option.some.inj (hkz'.symm.trans (hc ▸ k1))
    rw [h9, h8, k2] at hkind9
    cases hkind9
open LibCode.Throwable in
/-- the words of the sheet that tell Throwable's tables; what is said of a field is said of the receiver's class rc -/
def own_atoms (rc : String) : List Jvm.Cond := [.native tFill0, .initialized tN, .superclass tN "java/lang/Object", .instanceMethod tFill, .codeSync tFill Fill.code 1 (some (.object tN)), .instanceMethod tFill0, .instanceMethod tInit0, .code tInit0 Init0.code 1 none, .instanceMethod oInit, .code oInit object_method_1_code 1 none,
  .methodLink tN 1 oInit, .methodLink tN 27 tFill, .methodLink tN 202 tFill0, .fieldLink tN 7 tN "cause" "Ljava/lang/Throwable;", .lays rc tN "cause" "Ljava/lang/Throwable;", .fieldLink tN 17 tN "stackTrace" steD, .lays rc tN "stackTrace" steD, .fieldLink tN 24 tN "suppressedExceptions" listD, .lays rc tN "suppressedExceptions" listD,
  .fieldLink tN 13 tN "UNASSIGNED_STACK" steD, .laysStatic tN "UNASSIGNED_STACK" steD, .fieldLink tN 20 tN "SUPPRESSED_SENTINEL" listD, .laysStatic tN "SUPPRESSED_SENTINEL" listD, .fieldLink tN 31 tN "detailMessage" "Ljava/lang/String;", .lays rc tN "detailMessage" "Ljava/lang/String;"]
theorem own_at {args : Array Value} {s : State} {L : List Jvm.Cond} (h : ∀ d ∈ L, d.before args s = true) (i : Nat) {d : Jvm.Cond} (q : L[i]? = some d) : d.holds args s none s [] = true := h d (List.mem_of_getElem? q)
theorem own_thr {args : Array Value} {s : State} {rc : String} {cR : ClassId} {kR : Class} {pl : Platform} (howns : pl.frameOwnsMonitors = true) (hfin : pl.finalization = false) (hpl : pl.magicAccessors = ({} : Platform).magicAccessors) (w : ∀ d ∈ own_atoms rc, d.before args s = true) (hcR : s.vm.findClass rc = some cR) (hkR : s.vm.classes[cR]? = some kR) :
    ∃ T : ThrowableC, T.Links pl s ∧ s.vm.findClass tN = some T.cT ∧ s.methodNamed? tFill = some T.fill ∧ s.methodNamed? tFill0 = some T.fill0 ∧ (∃ i, s.fieldFound? tN "stackTrace" steD = some (T.cT, T.kT, i, T.fStack)) ∧ (∃ i, s.fieldFound? tN "UNASSIGNED_STACK" steD = some (T.cT, T.kT, i, T.fUnassigned)) ∧ T.fStack.type = .array (.object "java/lang/StackTraceElement") := by
  obtain ⟨⟨cT, jN⟩, mN, nN, atN, isN, noC, noL, sgN⟩ := Cond.native_spec (own_at w 0 rfl)
  have fT : s.vm.findClass tN = some cT := findClass_of_methodNamed nN
  obtain ⟨kT, clT, nameT⟩ := Vm.findClass_spec fT
  obtain ⟨_, kT', _, _, clT', _, _, _, _, noF⟩ := Cond.superclass_spec fT (own_at w 2 rfl)
  cases clT.symm.trans clT'
  obtain ⟨jF, mF, nF, atF, inF, stF, abF, -, -⟩ := Cond.ownMethod (x := tFill) fT clT (own_at w 3 rfl)
  obtain ⟨mF', bF, atF', cdF, byF, mxF, rtF, lkF, -, sgF⟩ := Cond.codeSync_spec nF (own_at w 4 rfl)
  cases atF.symm.trans atF'
  obtain ⟨jN', mN', nN', atN', inN, stN, abN, nmN, dsN⟩ := Cond.ownMethod (x := tFill0) fT clT (own_at w 5 rfl)
  cases nN.symm.trans nN'
  cases atN.symm.trans atN'
  obtain ⟨jI, mI, nI, atI, inI, -, -, -, -⟩ := Cond.ownMethod (x := tInit0) fT clT (own_at w 6 rfl)
  obtain ⟨mI', bI, atI', cdI, byI, mxI, -, lkI, -, -⟩ := Cond.code_spec nI (own_at w 7 rfl)
  cases atI.symm.trans atI'
  obtain ⟨iO, mO, nO, atO, stO, abO⟩ := Cond.instanceMethod_spec (own_at w 8 rfl)
  obtain ⟨mO', bO, atO', cdO, byO, mxO, -, lkO, -, sgO⟩ := Cond.code_spec nO (own_at w 9 rfl)
  cases atO.symm.trans atO'
  obtain ⟨kO, clO, nameO⟩ := Vm.findClass_spec (findClass_of_methodNamed nO)
  obtain ⟨nmO, dsO⟩ := name_of_methodNamed nO atO
  obtain ⟨ci1, n1, cf, l1, r1, cfT, p1⟩ := Cond.linkedMethod fT clT nO (own_at w 10 rfl) pl hpl
  obtain ⟨ci2, n2, cf2, l2, r2, cfT2, p2⟩ := Cond.linkedMethod fT clT nF (own_at w 11 rfl) pl hpl
  obtain ⟨ci3, n3, cf3, l3, r3, cfT3, p3⟩ := Cond.linkedMethod fT clT nN (own_at w 12 rfl) pl hpl
  cases cfT.symm.trans cfT2
  cases cfT.symm.trans cfT3
  obtain ⟨c7, i7, f7, l7, r7, a7, s7, x7, -, -, -⟩ := Cond.ownField (t := .object tN) fT clT (by decide +kernel) (own_at w 13 rfl) (own_at w 14 rfl) pl hpl
  obtain ⟨c17, i17, f17, l17, r17, a17, s17, x17, m17, t17, g17⟩ := Cond.ownField (t := .array (.object "java/lang/StackTraceElement")) fT clT (by decide +kernel) (own_at w 15 rfl) (own_at w 16 rfl) pl hpl
  obtain ⟨c24, i24, f24, l24, r24, a24, s24, x24, m24, -, g24⟩ := Cond.ownField (t := .object "java/util/List") fT clT (by decide +kernel) (own_at w 17 rfl) (own_at w 18 rfl) pl hpl
  obtain ⟨c13, i13, f13, aS, zS, l13, r13, a13, s13, -, -, hS, -, -, -, -, g13⟩ := Cond.ownStatic (t := .array (.object "java/lang/StackTraceElement")) fT clT (by decide +kernel) (own_at w 19 rfl) (own_at w 20 rfl) pl hpl
  obtain ⟨c20, i20, f20, _, _, l20, r20, a20, s20, -⟩ := Cond.ownStatic (t := .object "java/util/List") fT clT (by decide +kernel) (own_at w 21 rfl) (own_at w 22 rfl) pl hpl
  obtain ⟨c31, i31, f31, -, -, -, s31, x31, -⟩ := Cond.ownField (t := .object "java/lang/String") fT clT (by decide +kernel) (own_at w 23 rfl) (own_at w 24 rfl) pl hpl
  obtain ⟨-, d17, e17, q17⟩ := Cond.laysAt hcR hkR g17 (own_at w 16 rfl)
  obtain ⟨-, d24, e24, q24⟩ := Cond.laysAt hcR hkR g24 (own_at w 18 rfl)
  have apart : f17.slot ≠ f24.slot := Cond.laysApart e17 e24 q17 q24 (by rw [m17, m24]; decide)
  have eF : mF.sig.parameters = [] := by
    have z : (parseMethodDescriptor tFill.desc).map (·.parameters) = some [] := by decide +kernel
    rw [sgF] at z; simpa using z
  have eN : mN.sig.parameters = [.int] := by
    have z : (parseMethodDescriptor tFill0.desc).map (·.parameters) = some [.int] := by decide +kernel
    rw [sgN] at z; simpa using z
  have eO : mO.sig.parameters.length = 0 := by
    have z : (parseMethodDescriptor oInit.desc).map (·.parameters) = some [] := by decide +kernel
    rw [sgO] at z
    have z' : mO.sig.parameters = [] := by simpa using z
    rw [z']; rfl
  let T : ThrowableC := { cT := cT, kT := kT, cO := cT, aS := aS, fillIdx := jF, fill0Idx := jN, initSIdx := jI, obj := iO, kObj := kO, methFill := mF, methFill0 := mN, methInitS := mI, methObj := mO, codeFill := bF, codeInitS := bI, codeObj := bO, fBack := f7, fDepth := f7, fStack := f17, fCause := f7, fSupp := f24, fMsg := f31, fUnassigned := f13, fSentinel := f20, cfT := cf, ci1 := ci1, n1 := n1, ci27 := ci2, n27 := n2, ci202 := ci3, n202 := n3, ci7 := c7, i7 := i7, ci13 := c13, i13 := i13, ci17 := c17, i17 := i17, ci20 := c20, i20 := i20, ci24 := c24, i24 := i24 }
  refine ⟨T, ?_, fT, nF, nN, ⟨i17, g17⟩, ⟨i13, g13⟩, t17⟩
  constructor
  all_goals first | assumption | exact Vm.findClass_boot fT clT | exact Cond.initialized_spec fT clT (own_at w 1 rfl) | (rw [show T.methObj.desc = oInit.desc from dsO]; exact lookupSpecial_of_named nO atO stO)
def own_more (rc : String) : List Jvm.Cond := [.declares tFill, .selects rc tFill0 tFill0, .selects rc tFill tFill, .fieldLink tN 198 tN "backtrace" "Ljava/lang/Object;", .lays rc tN "backtrace" "Ljava/lang/Object;", .lays rc tN "depth" "I", .soleField tN "backtrace", .soleField tN "depth", .arrayOver (.object "java/lang/Object"), .lays rc tN "stackTrace" steD]
def own_three (Z : State) (a : Addr) : List Loc := [⟨a, Jvm.RoadKit.slotOf Z tN "backtrace" "Ljava/lang/Object;"⟩, ⟨a, Jvm.RoadKit.slotOf Z tN "depth" "I"⟩, ⟨a, Jvm.RoadKit.slotOf Z tN "stackTrace" steD⟩]
theorem own_frfill {Z : State} {k : Nat} {a : Addr} {locs : List Loc} (N : Fr k locs) (q : k ≤ a) : Fr k (locs ++ own_three Z a) := N.app fun y hy => by
  simp only [own_three, List.mem_cons, List.not_mem_nil, or_false] at hy
  rcases hy with rfl | rfl | rfl <;> exact q
theorem own_slot {Z s : State} (hZ : Z.Warmed39 s.vm) {C n d : String} {c : ClassId} {k : Class} {i : Nat} {f : Field} (q : s.fieldFound? C n d = some (c, k, i, f)) : Jvm.RoadKit.slotOf Z C n d = f.slot := by
  obtain ⟨c', k', i', q'⟩ := Jvm.Free.BdW.found_ride (U := s) (U' := Z) hZ.alike.symm ⟨c, k, i, q⟩
  simp [Jvm.RoadKit.slotOf, q']
theorem own_fillG {p : Program} {l : Launch} {e : Env} {R : Room} {s : State} {m : MethodId} {args : Array Value} {below : List Frame} {meth : Method} {c : Code} {T : State} {locs : List Loc} {cells slots : Nat} {Z : State} {a0 : Array Value} {h : Heap} {rc : String} {nI : Nat} (X : Stand p l e R s m args below meth c T locs cells slots) (hx : p.tables.exec = Jvm.exec) (hlt : l.stackTraces = true) (hZ : Z.Warmed39 s.vm) (hA : ∀ d ∈ own_atoms rc, d.before a0 Z = true) (hB : ∀ d ∈ own_more rc, d.before a0 Z = true) (wi : (Jvm.Cond.instantiable rc nI).before a0 Z = true)
    (hown : s.vm.findClass tN = some m.cls) (hTK : s.vm.MethodsKnown) (hBW : s.vm.FramesKnown below) (hT0 : ThS Z s.heap) (hT : ThS Z h) (eT : T.heap = h) {a aUS : Addr} (E : Exa Z h a rc) (U : Unt h a) (B : Fld Z h a tN "backtrace" "Ljava/lang/Object;" .null) (S : Fld Z h a tN "stackTrace" steD (.ref aUS)) (G : Sta Z h tN "UNASSIGNED_STACK" steD (.ref aUS))
    {g : JFrame} (hg : g.method = m) (hsize : g.locals.size = c.maxLocals) {rest : List Value} (hs : g.stack = .ref a :: rest) (hd : decode c.code g.pc = .ok (.invokevirtual 27, 3)) (hf : 3 ≤ R.frames) {W : Nat} (hW : 2 * g.monitorRoom + (rest.map fun v => v.category).sum ≤ W) (hlo : W + 42 ≤ R.locals) (hc : cells + 1 ≤ R.cells) (hsl : slots + 2752 ≤ R.slots) :
    ∃ (T' : State) (h' : Heap), Stand p l e R s m args below meth c T' (locs ++ own_three Z a) (cells + 1) (slots + 2752) ∧ T'.heap = h' ∧ Keep h h' [a] ∧ Exa Z h' a rc ∧
      (∀ {O n d : String} {v : Value}, Fld Z h a O n d v → Jvm.RoadKit.slotOf Z O n d ≠ Jvm.RoadKit.slotOf Z tN "backtrace" "Ljava/lang/Object;" → Jvm.RoadKit.slotOf Z O n d ≠ Jvm.RoadKit.slotOf Z tN "depth" "I" → Jvm.RoadKit.slotOf Z O n d ≠ Jvm.RoadKit.slotOf Z tN "stackTrace" steD → Fld Z h' a O n d v) ∧
      ∀ target, Steps p.tables e below (T'.setTop { g with pc := g.pc + 3, stack := .ref a :: rest }) target → Steps p.tables e below (T.setTop g) target := by
  have htr : e.platform.stackTraces = true := by rw [X.admits.platform]; exact hlt
  have howns : e.platform.frameOwnsMonitors = true := by rw [X.admits.platform]
  have hfin : e.platform.finalization = false := by rw [X.admits.platform]
  have hpl : e.platform.magicAccessors = ({} : Platform).magicAccessors := by rw [X.admits.platform]
  have wA : ∀ d ∈ own_atoms rc, d.before args s = true := fun d hd => mvX hT0 hZ (List.all_eq_true.mp (rfl : (own_atoms rc).all xOk = true) d hd) (hA d hd)
  have wB : ∀ d ∈ own_more rc, d.before args s = true := fun d hd => mvX hT0 hZ (List.all_eq_true.mp (rfl : (own_more rc).all xOk = true) d hd) (hB d hd)
  obtain ⟨cell, k, E1, E2, E3, E4, E5⟩ := id E
  obtain ⟨cell', U1, U2, U3⟩ := id U
  cases E1.symm.trans U1
  obtain ⟨k', hk', ek⟩ := hZ.alike.2.2 _ _ E3
  have hcR : s.vm.findClass rc = some cell.cls := by rw [hZ.alike.findClass]; exact E2
  obtain ⟨Tb, Lk, fT, nF, nN, ⟨i17, g17⟩, ⟨i13, g13⟩, t17⟩ := own_thr howns hfin hpl wA hcR hk'
  obtain ⟨cI, kI, I1, I2, hord, -⟩ := Cond.instantiable_spec (mvX (args := args) hT0 hZ rfl wi)
  have eI := Option.some.inj (I1.symm.trans hcR)
  rw [eI] at I2
  cases I2.symm.trans hk'
  have hsz : cell.slots.size = k'.instanceTypes.size := by rw [ek]; exact E5 (by rw [ek] at hord; exact hord)
  have hsel0 : selectMethod e.platform s.vm cell.cls Tb.fill0 = .method Tb.fill0 := by
    obtain ⟨c2, r2, m2, q1, q2, q3, q4, -⟩ := Cond.selects_spec (own_at wB 1 rfl)
    cases Option.some.inj (q1.symm.trans hcR)
    cases Option.some.inj (q2.symm.trans (State.methodFound?_of_named nN (by decide)))
    cases Option.some.inj (q3.symm.trans nN)
    rw [Launch.admits_selectMethod X.admits]; exact q4
  obtain ⟨cf, iU, kU, fU, st, cS, G1, G2, G3, G4, G5, G6, G7⟩ := id G
  obtain ⟨k13, hG1, ekU⟩ := State.fieldFound?_setVm (s := Z) hZ.alike G1
  cases hG1.symm.trans g13
  have eS : Tb.aS = st := by
    have q : Tb.kT.statics = kU.statics := by rw [ekU]
    exact Option.some.inj (Lk.statics.symm.trans (q.trans G4))
  have hneS : Tb.aS ≠ a := fun z => by
    rw [eS] at z
    rw [z, E1] at G5
    rw [← Option.some.inj G5, U2] at G6
    cases G6
  obtain ⟨c5, cf5, k5, i5, f5, s1, s2, s3, s4, s5, s6, s7⟩ := id S
  cases E1.symm.trans s1
  obtain ⟨k5', hs2, -⟩ := State.fieldFound?_setVm (s := Z) hZ.alike s2
  cases hs2.symm.trans g17
  obtain ⟨ci198, i198, fB, hk198, hg198, ha198, hsB, -, hnB, htB, hffB⟩ := Cond.ownField (t := .object "java/lang/Object") fT Lk.cls (by decide +kernel) (own_at wB 3 rfl) (own_at wB 4 rfl) e.platform hpl
  obtain ⟨c6, cf6, k6, i6, f6, b1, b2, b3, b4, b5, b6, b7⟩ := id B
  cases E1.symm.trans b1
  obtain ⟨k6', hb2, -⟩ := State.fieldFound?_setVm (s := Z) hZ.alike b2
  cases hb2.symm.trans hffB
  obtain ⟨cD1, kD1, cD, kD, iD, fD, -, -, hffD, hstD, -, -, -, -⟩ := Cond.lays_spec (own_at wB 5 rfl)
  cases Option.some.inj ((Cond.lays_declared (own_at wB 5 rfl) hffD).symm.trans fT)
  obtain ⟨hkD, hatD⟩ := State.fieldFound?_spec hffD
  cases Option.some.inj (hkD.symm.trans Lk.cls)
  obtain ⟨hnD, htD⟩ := State.fieldFound?_type hffD (t := .int) (by decide +kernel)
  have hfb := Cond.soleField_find fT Lk.cls (own_at wB 6 rfl) ha198 hnB hsB
  have hfd := Cond.soleField_find fT Lk.cls (own_at wB 7 rfl) hatD hnD hstD
  obtain ⟨comp, cO, kO, -, -, hkO, hkindO, hO⟩ := Cond.arrayOver_spec (own_at wB 8 rfl)
  obtain ⟨tyS, -⟩ := Cond.laysAt hcR hk' g17 (own_at wB 9 rfl)
  obtain ⟨tyB, -⟩ := Cond.laysAt hcR hk' hffB (own_at wB 4 rfl)
  obtain ⟨tyD, -⟩ := Cond.laysAt hcR hk' hffD (own_at wB 5 rfl)
  have tk : ∀ {f : Field} {v : Value}, k'.instanceTypes[f.slot]? = some f.type → fits f.type v = true → Jvm.Takes s cell f v := fun {f v} q1 q2 => by
    obtain ⟨r1, r2⟩ := Takes.of_laid (v := v) hk' hord q1 q2
    exact ⟨by rw [hsz]; simpa using r1, by rw [U2]; exact r2⟩
  obtain ⟨v6, vm6, ⟨T6, L6, c6, n6⟩, hW6, X6, ⟨hv6, vm7, lines, hln, hW7, hU, hL, hc6, hn6⟩, come⟩ := X.virtualBack hx (own := tN) (C := rc) (index := 27) (y := tFill) (z := tFill) hown (own_at wA 11 rfl) (own_at wB 0 rfl) (notFace_of_selects (own_at wB 2 rfl)) (own_at wB 2 rfl) (own_at wA 3 rfl) (by decide)
    (Jvm.Free.Str.fillPays (l := l) (W := W) hx htr Tb Lk nF (u0 := ⟨.ref aUS, rfl⟩) (by simp) (self := a) (cell := cell) (cellS := cS) (fun _ => by rw [U2]; simp) (by rw [U2]; simp) (by rw [U3]) (by rw [U3]) s7 hsel0 hneS (fun q => by rw [q] at G6; cases G6) G7 (tk tyS (by rw [t17]; exact fits_refV_array _ ⟨.ref aUS, rfl⟩))
      ⟨{ ci198 := ci198, i198 := i198, fBack := fB }, ⟨hk198, hg198, ha198, hsB⟩, b7⟩ hTK hBW fT hO hkO hkindO hfb hfd
      (fun x => tk tyB (by rw [htB]; rfl)) (fun x => tk tyD (by rw [htD]; rfl)) (by omega) (by omega))
    (b := a) (cB := cell.cls) hcR ⟨cell, by rw [eT]; exact E1, rfl, E4⟩ (g := g) hg hsize (Steps.refl _) (argsL := []) (rest := rest)
    (fun sig q => by rw [show parseMethodDescriptor tFill.desc = some ⟨[], some (.object tN)⟩ from by decide +kernel] at q; rw [← Option.some.inj q]; rfl) hs hW hd
    (fun vmx hWx => ⟨rfl, hc, hsl, by show T.heap[a]? = _; rw [eT]; exact E1, by show T.heap[Tb.aS]? = _; rw [eT, eS]; exact G5⟩)
  dsimp only [Pt.U, Pt.locs, Pt.cells, Pt.slots] at X6 hU hL hc6 hn6 come
  subst hv6
  have hlt : a < h.size := (Array.getElem?_eq_some_iff.mp E1).1
  obtain ⟨F, eh, Fc, Fv, Fz, Fs⟩ : ∃ F : Cell, T6.heap = (h.push (traceHolder cO lines)).setIfInBounds a F ∧ F.cls = cell.cls ∧ F.vm = cell.vm ∧ F.slots.size = cell.slots.size ∧ ∀ i, i ≠ fB.slot → i ≠ fD.slot → i ≠ Tb.fStack.slot → F.slots[i]? = cell.slots[i]? :=
    ⟨Jvm.Free.Str.filledOn Tb.toThrowableT fB fD cell ⟨.ref aUS, rfl⟩ T.heap.size lines.length.toInt32, by rw [hU, ← eT]; rfl, rfl, rfl, by simp [Jvm.Free.Str.filledOn, Cell.setSlot], fun i q1 q2 q3 => by simp [Jvm.Free.Str.filledOn, Cell.setSlot, Ne.symm q1, Ne.symm q2, Ne.symm q3]⟩
  have hat : T6.heap[a]? = some F := by
    rw [eh, Array.getElem?_setIfInBounds, if_pos rfl, if_pos (by rw [Array.size_push]; exact Nat.lt_succ_of_lt hlt)]
  have hot : ∀ (x : Addr) (cx : Cell), h[x]? = some cx → x ≠ a → T6.heap[x]? = some cx := fun x cx q ne => by
    rw [eh, Array.getElem?_setIfInBounds_ne (Ne.symm ne), Array.getElem?_push_lt (Array.getElem?_eq_some_iff.mp q).1]
    exact congrArg some (Array.getElem?_eq_some_iff.mp q).2
  have w1 := own_slot hZ hffB
  have w2 := own_slot hZ hffD
  have w3 := own_slot hZ g17
  have e3 : own_three Z a = [⟨a, fB.slot⟩, ⟨a, fD.slot⟩, ⟨a, Tb.fStack.slot⟩] := by unfold own_three; rw [w1, w2, w3]
  have hsz7 := traceHolder_size_le cO hln
  refine ⟨T6, T6.heap, by rw [e3, ← hL]; exact X6.more (by omega) (by omega), rfl, ⟨?_, fun x cx q nx => hot x cx q (by simpa using nx), fun x cx q => ?_⟩, ⟨F, k, hat, by rw [Fc]; exact E2, by rw [Fc]; exact E3, by rw [Fv]; exact E4, fun q => by rw [Fz]; exact E5 q⟩, ?_, fun target q => come.trans q⟩
  · rw [eh, Array.size_setIfInBounds, Array.size_push]; omega
  · by_cases ne : x = a
    · subst ne
      cases E1.symm.trans q
      exact ⟨F, hat, Fc, Fv, Fz⟩
    · exact ⟨cx, hot x cx q ne, rfl, rfl, rfl⟩
  · intro O n d v H m1 m2 m3
    obtain ⟨c3, cf3, k3, i3, f3, q1, q2, q3, q4, q5, q6, q7⟩ := H
    cases E1.symm.trans q1
    have z3 : Jvm.RoadKit.slotOf Z O n d = f3.slot := by simp [Jvm.RoadKit.slotOf, q2]
    rw [z3, w1] at m1
    rw [z3, w2] at m2
    rw [z3, w3] at m3
    exact ⟨F, cf3, k3, i3, f3, hat, q2, q3, by rw [Fv]; exact q4, by rw [Fv]; exact q5, by rw [Fc]; exact q6, by rw [Fs _ m1 m2 m3]; exact q7⟩
theorem own_fill {p : Program} {l : Launch} {e : Env} {R : Room} {s : State} {m : MethodId} {args : Array Value} {below : List Frame} {meth : Method} {c : Code} {T : State} {locs : List Loc} {cells slots : Nat} {Z : State} {a0 : Array Value} {h : Heap} (X : Stand p l e R s m args below meth c T locs cells slots) (hx : p.tables.exec = Jvm.exec) (hlt : l.stackTraces = true) (hZ : Z.Warmed39 s.vm) (hw : ∀ d ∈ tables_1, d.before a0 Z = true) (hown : s.vm.findClass "java/lang/Throwable" = some m.cls) (hTK : s.vm.MethodsKnown) (hBW : s.vm.FramesKnown below) (hT0 : ThS Z s.heap) (hT : ThS Z h) (eT : T.heap = h) {a aUS : Addr} (E : Exa Z h a "com/example/grantline/grantline/PolicyException") (U : Unt h a)
    (B : Fld Z h a "java/lang/Throwable" "backtrace" "Ljava/lang/Object;" .null) (S : Fld Z h a "java/lang/Throwable" "stackTrace" "[Ljava/lang/StackTraceElement;" (.ref aUS)) (G : Sta Z h "java/lang/Throwable" "UNASSIGNED_STACK" "[Ljava/lang/StackTraceElement;" (.ref aUS))
    {g : JFrame} (hg : g.method = m) (hsize : g.locals.size = c.maxLocals) {rest : List Value} (hs : g.stack = .ref a :: rest) (hd : decode c.code g.pc = .ok (.invokevirtual 27, 3)) (hf : 3 ≤ R.frames) {W : Nat} (hW : 2 * g.monitorRoom + (rest.map fun v => v.category).sum ≤ W) (hlo : W + 42 ≤ R.locals) (hc : cells + 1 ≤ R.cells) (hsl : slots + 2752 ≤ R.slots) :
    ∃ (T' : State) (h' : Heap), Stand p l e R s m args below meth c T' (locs ++ own_three Z a) (cells + 1) (slots + 2752) ∧ T'.heap = h' ∧ Keep h h' [a] ∧ Exa Z h' a "com/example/grantline/grantline/PolicyException" ∧
      (∀ {O n d : String} {v : Value}, Fld Z h a O n d v → Jvm.RoadKit.slotOf Z O n d ≠ Jvm.RoadKit.slotOf Z "java/lang/Throwable" "backtrace" "Ljava/lang/Object;" → Jvm.RoadKit.slotOf Z O n d ≠ Jvm.RoadKit.slotOf Z "java/lang/Throwable" "depth" "I" → Jvm.RoadKit.slotOf Z O n d ≠ Jvm.RoadKit.slotOf Z "java/lang/Throwable" "stackTrace" "[Ljava/lang/StackTraceElement;" → Fld Z h' a O n d v) ∧
      ∀ target, Steps p.tables e below (T'.setTop { g with pc := g.pc + 3, stack := .ref a :: rest }) target → Steps p.tables e below (T.setTop g) target := by
  exact own_fillG X hx hlt hZ (own_sub hw [292, 272, 289, 285, 290, 291, 293, 294, 16, 17, 274, 283, 295, 275, 276, 278, 279, 281, 282, 277, 302, 280, 303, 309, 305] rfl) (own_sub hw [284, 304, 286, 300, 306, 307, 287, 288, 103, 279] rfl) (hw _ (List.mem_of_getElem? (i := 106) rfl)) hown hTK hBW hT0 hT eT E U B S G hg hsize hs hd hf hW hlo hc hsl
def GF (Z : State) (cS : Int32) (aDE : Addr) (kDE : ClassId) (aUS : Addr) (aSS : Addr) (aIE : Addr) (mO : Addr) : Prop := Sta Z Z.heap "java/lang/String" "COMPACT_STRINGS" "Z" (.int cS) ∧ ¬ (cS = (0 : Int32)) ∧ Sta Z Z.heap "java/util/ArrayList" "DEFAULTCAPACITY_EMPTY_ELEMENTDATA" "[Ljava/lang/Object;" (.ref aDE) ∧ Arv Z Z.heap aDE kDE (.object "java/lang/Object") (0 : Int32) [] .null ∧ Sta Z Z.heap "java/lang/Throwable" "UNASSIGNED_STACK" "[Ljava/lang/StackTraceElement;" (.ref aUS) ∧ Sta Z Z.heap "java/lang/Throwable" "SUPPRESSED_SENTINEL" "Ljava/util/List;" (.ref aSS) ∧ Sta Z Z.heap "java/util/ImmutableCollections" "EMPTY" "Ljava/lang/Object;" (.ref aIE) ∧ Mir Z "[Ljava/lang/Object;" mO
theorem D6 : dL jdk_52_method_21_code [(0, .iconst 0, 1), (1, .istore 5, 2), (3, .iload 5, 2), (5, .iload 4, 2), (7, .if_icmp .ge 37, 3), (10, .aload_n 0, 1), (11, .iload_n 1, 1), (12, .caload, 1), (13, .istore 6, 2), (15, .iload 6, 2), (17, .sipush 255, 3), (20, .if_icmp .le 6, 3), (26, .aload_n 2, 1), (27, .iload_n 3, 1), (28, .iload 6, 2), (30, .i2b, 1), (31, .bastore, 1), (32, .iinc 1 1, 3), (35, .iinc 3 1, 3), (38, .iinc 5 1, 3), (41, .goto (-38), 3), (44, .iload 4, 2), (46, .ireturn, 1)] = true := by decide +kernel
theorem pn : plainName "java/lang/StringUTF16" = true := by first | (simp [plainName, overriddenIn]; done) | decide +kernel
abbrev MN_0 : MethodName := ⟨"java/lang/StringUTF16", "compress", "([CI[BII)I"⟩
theorem ef_rmC2_2 (m : MethodId) (a0c : Addr) (a2b : Addr) : entryFrame m #[(.ref a0c), (.int 0), (.ref a2b), (.int 0), (.int 2)] 7 = mkF m 0 #[vr a0c, vi (0 : Int32), vr a2b, vi (0 : Int32), vi (2 : Int32), .unset, .unset] [] := by first | (simp [entryFrame, mkF, argsToLocals, Value.category]; done) | rfl
def Q_rmC2_2 (n0 : Nat) (Z : State) (cS : Int32) (aDE : Addr) (kDE : ClassId) (aUS : Addr) (aSS : Addr) (aIE : Addr) (mO : Addr) (a0c : Addr) (a2b : Addr) (k0 : ClassId) (k2 : ClassId) (c0 : Int32) (c1 : Int32) (h0 : Heap) (v : Option Value) (h : Heap) (L : List Loc) : Prop := v = some (.int 2) ∧ Fr n0 L ∧ Keep h0 h [a2b] ∧ (Arv Z h a2b k2 .byte (2 : Int32) [(.int (c0.toInt8.toInt32)), (.int (c1.toInt8.toInt32))] (.int 0))
theorem rmC2_2 (l : Launch) (Z : State) (a0 : Array Value) (hw : ∀ d ∈ tables_1, d.before a0 Z = true) (ws : List Jvm.Cond) (cS : Int32) (aDE : Addr) (kDE : ClassId) (aUS : Addr) (aSS : Addr) (aIE : Addr) (mO : Addr) (a0c : Addr) (a2b : Addr) (k0 : ClassId) (k2 : ClassId) (c0 : Int32) (c1 : Int32) (h0 : Heap) (n0 : Nat) (O0 : Old Z n0 h0) (GL : GF Z cS aDE kDE aUS aSS aIE mO) (V_a0c : Arv Z h0 a0c k0 .char (2 : Int32) [(.int c0), (.int c1)] (.int 0)) (V_a2b : Arv Z h0 a2b k2 .byte (2 : Int32) [(.int 0), (.int 0)] (.int 0)) (g_a2b : n0 ≤ a2b) (hc0 : ¬ ((255 : Int32) < c0)) (hc1 : ¬ ((255 : Int32) < c1)) :
    MF l MN_0 jdk_52_method_21_code 7 (some .int) ws (Rm 0 0 0 0) #[(.ref a0c), (.int 0), (.ref a2b), (.int 0), (.int 2)] Z h0 (Q_rmC2_2 n0 Z cS aDE kDE aUS aSS aIE mO a0c a2b k0 k2 c0 c1 h0) := by
  refine MetFree.of_bodySF (plainFor_of_name pn) hisR ?_
  intro p e s m args below meth c s₁ Bd hml0 hP hK
  obtain ⟨rfl, hZ, hh⟩ := hP
  have hx := Bd.exec
  have hby := Bd.bytes
  have hml : c.maxLocals = 7 := hml0
  have hown : s.vm.findClass "java/lang/StringUTF16" = some m.cls := findClass_of_methodNamed Bd.named
  have hnm := (name_of_methodNamed Bd.named Bd.method).1
  have X0 : Stand p l e (Rm 0 0 0 0) s m #[(.ref a0c), (.int 0), (.ref a2b), (.int 0), (.int 2)] below meth c s₁ [] 0 0 := Stand.of_body Bd
  have e0 : s₁.heap = h0 := by rw [← hh, Bd.state]; rfl
  have N0 := Fr.nil n0
  have pre0 : ∀ t, SP p e below s₁ m 0 #[vr a0c, vi (0 : Int32), vr a2b, vi (0 : Int32), vi (2 : Int32), .unset, .unset] [] t → Steps p.tables e below (s₁.setTop (entryFrame m #[(.ref a0c), (.int 0), (.ref a2b), (.int 0), (.int 2)] 7)) t := fun t k => castTop (ef_rmC2_2 m a0c a2b) k
  have GL' := GL
  obtain ⟨GCS, GCP, GDE, GVE, GUS, GSS, GIE, GMO⟩ := GL'
  obtain ⟨cl1, Ar1, -, S1, N1_, H1, G1⟩ := id (V_a0c)
  have hin1 : ¬ ((0 : Int32) < 0 ∨ cl1.slots.size ≤ ((0 : Int32)).toNatClampNeg) := inb_of S1 ⟨(by decide), (by decide)⟩
  have hat1 : cl1.slots[((0 : Int32)).toNatClampNeg]? = some (.int c0) := H1.at hin1 rfl
  obtain ⟨cl2, Ar2, q2, S2, N2_, H2, G2⟩ := id (V_a2b)
  have hin2 : ¬ ((0 : Int32) < 0 ∨ cl2.slots.size ≤ ((0 : Int32)).toNatClampNeg) := inb_of S2 ⟨(by decide), (by decide)⟩
  obtain ⟨T2, h2, X2, e2, W2, st2⟩ := stB X0 hx hZ e0 Ar2 (j := (0 : Int32)) hin2 (g := mkF m 31 #[vr a0c, vi (0 : Int32), vr a2b, vi (0 : Int32), vi (2 : Int32), vi (0 : Int32), vi c0] [(.int (c0.toInt8.toInt32)), (.int 0), (.ref a2b)]) rfl rfl (dG hby D6 16 rfl)
  have K2 : Keep h0 h2 [a2b] := (Keep.refl h0 [a2b]).wr W2 (Or.inl (List.mem_of_getElem? (i := 0) rfl))
  have O2 := O0.wr W2 g_a2b
  have N2 := Fr.snoc X2 N0 g_a2b
  have V2' : Arv Z h2 a2b k2 .byte (2 : Int32) [(.int ((c0.toInt8.toInt32)).toInt8.toInt32), (.int 0)] (.int 0) := Arv.set Ar2 q2 S2 N2_ H2 G2 (fits_nar_byte _) W2 0 rfl (Nat.le_of_ble_eq_true rfl)
  have V2 : Arv Z h2 a2b k2 .byte (2 : Int32) [(.int (c0.toInt8.toInt32)), (.int 0)] (.int 0) := by
    rw [own_b2 c0] at V2'
    exact V2'
  obtain ⟨cl3, Ar3, -, S3, N3_, H3, G3⟩ := id ((V_a0c.other W2 (own_neArv V_a0c V_a2b (by decide))))
  have hin3 : ¬ ((1 : Int32) < 0 ∨ cl3.slots.size ≤ ((1 : Int32)).toNatClampNeg) := inb_of S3 ⟨(by decide), (by decide)⟩
  have hat3 : cl3.slots[((1 : Int32)).toNatClampNeg]? = some (.int c1) := H3.at hin3 rfl
  obtain ⟨cl4, Ar4, q4, S4, N4_, H4, G4⟩ := id (V2)
  have hin4 : ¬ ((1 : Int32) < 0 ∨ cl4.slots.size ≤ ((1 : Int32)).toNatClampNeg) := inb_of S4 ⟨(by decide), (by decide)⟩
  obtain ⟨T4, h4, X4, e4, W4, st4⟩ := stB X2 hx hZ e2 Ar4 (j := (1 : Int32)) hin4 (g := mkF m 31 #[vr a0c, vi (1 : Int32), vr a2b, vi (1 : Int32), vi (2 : Int32), vi (1 : Int32), vi c1] [(.int (c1.toInt8.toInt32)), (.int 1), (.ref a2b)]) rfl rfl (dG hby D6 16 rfl)
  have K4 : Keep h0 h4 [a2b] := K2.wr W4 (Or.inl (List.mem_of_getElem? (i := 0) rfl))
  have O4 := O2.wr W4 g_a2b
  have N4 := Fr.snoc X4 N2 g_a2b
  have V4' : Arv Z h4 a2b k2 .byte (2 : Int32) [(.int (c0.toInt8.toInt32)), (.int ((c1.toInt8.toInt32)).toInt8.toInt32)] (.int 0) := Arv.set Ar4 q4 S4 N4_ H4 G4 (fits_nar_byte _) W4 1 rfl (Nat.le_of_ble_eq_true rfl)
  have V4 : Arv Z h4 a2b k2 .byte (2 : Int32) [(.int (c0.toInt8.toInt32)), (.int (c1.toInt8.toInt32))] (.int 0) := by
    rw [own_b2 c1] at V4'
    exact V4'
  obtain ⟨fs, hr, hrun, hended, hW, hsame⟩ := X4.leave (v := some (.int 2)) (fun h => by rw [Bd.returns] at h; cases h)
  refine ⟨_, _, pre0 _ ?_, hrun, hended, _, _, rfl, ?_, ⟨_, rfl⟩, hW, hsame.mono (by decide) (by decide)⟩
  · show SP p e below s₁ m 0 #[vr a0c, vi (0 : Int32), vr a2b, vi (0 : Int32), vi (2 : Int32), .unset, .unset] [] _
    refine XS.iconst X0.here hx rfl (dG hby D6 0 rfl) ?_
    refine XS.istore X0.here hx rfl (dG hby D6 1 rfl) rfl (l' := #[vr a0c, vi (0 : Int32), vr a2b, vi (0 : Int32), vi (2 : Int32), vi (0 : Int32), .unset]) rfl ?_
    refine XS.iload X0.here hx rfl (dG hby D6 2 rfl) rfl ?_
    refine XS.iload X0.here hx rfl (dG hby D6 3 rfl) rfl ?_
    refine XS.icmpNo X0.here hx rfl (dG hby D6 4 rfl) rfl (tlt (by decide : (0 : Int32) < (2 : Int32))).2.1 ?_
    refine XS.aloadN X0.here hx rfl (dG hby D6 5 rfl) rfl rfl ?_
    refine XS.iloadN X0.here hx rfl (dG hby D6 6 rfl) rfl ?_
    show SP p e below s₁ m 12 #[vr a0c, vi (0 : Int32), vr a2b, vi (0 : Int32), vi (2 : Int32), vi (0 : Int32), .unset] [(.int 0), (.ref a0c)] _
    refine X0.caload hx (j := (0 : Int32)) (v := (.int c0)) (by rw [e0]; exact Ar1.1) (State.isArrayOf_alike hZ.alike Ar1.2.1) Ar1.2.2 hin1 hat1 (g := mkF m 12 #[vr a0c, vi (0 : Int32), vr a2b, vi (0 : Int32), vi (2 : Int32), vi (0 : Int32), .unset] [(.int 0), (.ref a0c)]) rfl rfl (dG hby D6 7 rfl) _ ?_
    show SP p e below s₁ m 13 #[vr a0c, vi (0 : Int32), vr a2b, vi (0 : Int32), vi (2 : Int32), vi (0 : Int32), .unset] [(.int c0)] _
    refine XS.istore X0.here hx rfl (dG hby D6 8 rfl) rfl (l' := #[vr a0c, vi (0 : Int32), vr a2b, vi (0 : Int32), vi (2 : Int32), vi (0 : Int32), vi c0]) rfl ?_
    refine XS.iload X0.here hx rfl (dG hby D6 9 rfl) rfl ?_
    refine XS.sipush X0.here hx rfl (dG hby D6 10 rfl) ?_
    refine XS.icmpYes X0.here hx rfl (pc0 := 20) (pc' := 26) rfl (dG hby D6 11 rfl) rfl (flt hc0).2.2.2 (by decide) (by decide) ?_
    refine XS.aloadN X0.here hx rfl (dG hby D6 12 rfl) rfl rfl ?_
    refine XS.iloadN X0.here hx rfl (dG hby D6 13 rfl) rfl ?_
    refine XS.iload X0.here hx rfl (dG hby D6 14 rfl) rfl ?_
    refine XS.i2b X0.here hx rfl (dG hby D6 15 rfl) rfl ?_
    show SP p e below s₁ m 31 #[vr a0c, vi (0 : Int32), vr a2b, vi (0 : Int32), vi (2 : Int32), vi (0 : Int32), vi c0] [(.int (c0.toInt8.toInt32)), (.int 0), (.ref a2b)] _
    refine st2 _ ?_
    show SP p e below T2 m 32 #[vr a0c, vi (0 : Int32), vr a2b, vi (0 : Int32), vi (2 : Int32), vi (0 : Int32), vi c0] [] _
    refine XS.iinc X2.here hx rfl (dG hby D6 17 rfl) rfl (l' := #[vr a0c, vi (1 : Int32), vr a2b, vi (0 : Int32), vi (2 : Int32), vi (0 : Int32), vi c0]) rfl ?_
    refine XS.iinc X2.here hx rfl (dG hby D6 18 rfl) rfl (l' := #[vr a0c, vi (1 : Int32), vr a2b, vi (1 : Int32), vi (2 : Int32), vi (0 : Int32), vi c0]) rfl ?_
    refine XS.iinc X2.here hx rfl (dG hby D6 19 rfl) rfl (l' := #[vr a0c, vi (1 : Int32), vr a2b, vi (1 : Int32), vi (2 : Int32), vi (1 : Int32), vi c0]) rfl ?_
    refine XS.goto X2.here hx rfl (pc0 := 41) (pc' := 3) rfl (dG hby D6 20 rfl) (by decide) (by decide) ?_
    refine XS.iload X2.here hx rfl (dG hby D6 2 rfl) rfl ?_
    refine XS.iload X2.here hx rfl (dG hby D6 3 rfl) rfl ?_
    refine XS.icmpNo X2.here hx rfl (dG hby D6 4 rfl) rfl (tlt (by decide : (1 : Int32) < (2 : Int32))).2.1 ?_
    refine XS.aloadN X2.here hx rfl (dG hby D6 5 rfl) rfl rfl ?_
    show SP p e below T2 m 11 #[vr a0c, vi (1 : Int32), vr a2b, vi (1 : Int32), vi (2 : Int32), vi (1 : Int32), vi c0] [(.ref a0c)] _
    refine XS.iloadN X2.here hx rfl (dG hby D6 6 rfl) rfl ?_
    show SP p e below T2 m 12 #[vr a0c, vi (1 : Int32), vr a2b, vi (1 : Int32), vi (2 : Int32), vi (1 : Int32), vi c0] [(.int 1), (.ref a0c)] _
    refine X2.caload hx (j := (1 : Int32)) (v := (.int c1)) (by rw [e2]; exact Ar3.1) (State.isArrayOf_alike hZ.alike Ar3.2.1) Ar3.2.2 hin3 hat3 (g := mkF m 12 #[vr a0c, vi (1 : Int32), vr a2b, vi (1 : Int32), vi (2 : Int32), vi (1 : Int32), vi c0] [(.int 1), (.ref a0c)]) rfl rfl (dG hby D6 7 rfl) _ ?_
    show SP p e below T2 m 13 #[vr a0c, vi (1 : Int32), vr a2b, vi (1 : Int32), vi (2 : Int32), vi (1 : Int32), vi c0] [(.int c1)] _
    refine XS.istore X2.here hx rfl (dG hby D6 8 rfl) rfl (l' := #[vr a0c, vi (1 : Int32), vr a2b, vi (1 : Int32), vi (2 : Int32), vi (1 : Int32), vi c1]) rfl ?_
    refine XS.iload X2.here hx rfl (dG hby D6 9 rfl) rfl ?_
    refine XS.sipush X2.here hx rfl (dG hby D6 10 rfl) ?_
    refine XS.icmpYes X2.here hx rfl (pc0 := 20) (pc' := 26) rfl (dG hby D6 11 rfl) rfl (flt hc1).2.2.2 (by decide) (by decide) ?_
    refine XS.aloadN X2.here hx rfl (dG hby D6 12 rfl) rfl rfl ?_
    refine XS.iloadN X2.here hx rfl (dG hby D6 13 rfl) rfl ?_
    refine XS.iload X2.here hx rfl (dG hby D6 14 rfl) rfl ?_
    refine XS.i2b X2.here hx rfl (dG hby D6 15 rfl) rfl ?_
    show SP p e below T2 m 31 #[vr a0c, vi (1 : Int32), vr a2b, vi (1 : Int32), vi (2 : Int32), vi (1 : Int32), vi c1] [(.int (c1.toInt8.toInt32)), (.int 1), (.ref a2b)] _
    refine st4 _ ?_
    show SP p e below T4 m 32 #[vr a0c, vi (1 : Int32), vr a2b, vi (1 : Int32), vi (2 : Int32), vi (1 : Int32), vi c1] [] _
    refine XS.iinc X4.here hx rfl (dG hby D6 17 rfl) rfl (l' := #[vr a0c, vi (2 : Int32), vr a2b, vi (1 : Int32), vi (2 : Int32), vi (1 : Int32), vi c1]) rfl ?_
    refine XS.iinc X4.here hx rfl (dG hby D6 18 rfl) rfl (l' := #[vr a0c, vi (2 : Int32), vr a2b, vi (2 : Int32), vi (2 : Int32), vi (1 : Int32), vi c1]) rfl ?_
    refine XS.iinc X4.here hx rfl (dG hby D6 19 rfl) rfl (l' := #[vr a0c, vi (2 : Int32), vr a2b, vi (2 : Int32), vi (2 : Int32), vi (2 : Int32), vi c1]) rfl ?_
    refine XS.goto X4.here hx rfl (pc0 := 41) (pc' := 3) rfl (dG hby D6 20 rfl) (by decide) (by decide) ?_
    refine XS.iload X4.here hx rfl (dG hby D6 2 rfl) rfl ?_
    refine XS.iload X4.here hx rfl (dG hby D6 3 rfl) rfl ?_
    refine XS.icmpYes X4.here hx rfl (pc0 := 7) (pc' := 44) rfl (dG hby D6 4 rfl) rfl (flt (by decide : ¬ ((2 : Int32) < (2 : Int32)))).2.1 (by decide) (by decide) ?_
    refine XS.iload X4.here hx rfl (dG hby D6 21 rfl) rfl ?_
    show SP p e below T4 m 46 #[vr a0c, vi (2 : Int32), vr a2b, vi (2 : Int32), vi (2 : Int32), vi (2 : Int32), vi c1] [(.int 2)] _
    exact retI X4 hx Bd.returns (dG hby D6 22 rfl) hr
  · show Q_rmC2_2 n0 Z cS aDE kDE aUS aSS aIE mO a0c a2b k0 k2 c0 c1 h0 _ T4.heap _
    rw [e4]
    exact ⟨rfl, N4, K4, V4⟩
theorem D5 : dL jdk_52_method_16_code [(0, .iload_n 2, 1), (1, .newarray .byte, 2), (3, .astore_n 3, 1), (4, .aload_n 0, 1), (5, .iload_n 1, 1), (6, .aload_n 3, 1), (7, .iconst 0, 1), (8, .iload_n 2, 1), (9, .invokestatic 115, 3), (12, .istore 4, 2), (14, .iload 4, 2), (16, .iload_n 2, 1), (17, .if_icmp .eq 40, 3), (57, .aload_n 3, 1), (58, .areturn, 1)] = true := by decide +kernel
theorem pd : parseMethodDescriptor "([CI[BII)I" = some ⟨[(.array .char), .int, (.array .byte), .int, .int], some .int⟩ := by decide +kernel
abbrev MN_1 : MethodName := ⟨"java/lang/StringUTF16", "compress", "([CII)[B"⟩
theorem ef_rmC1_2 (m : MethodId) (a0c : Addr) : entryFrame m #[(.ref a0c), (.int 0), (.int 2)] 6 = mkF m 0 #[vr a0c, vi (0 : Int32), vi (2 : Int32), .unset, .unset, .unset] [] := by first | (simp [entryFrame, mkF, argsToLocals, Value.category]; done) | rfl
def Q_rmC1_2 (n0 : Nat) (Z : State) (cS : Int32) (aDE : Addr) (kDE : ClassId) (aUS : Addr) (aSS : Addr) (aIE : Addr) (mO : Addr) (a0c : Addr) (k0 : ClassId) (c0 : Int32) (c1 : Int32) (h0 : Heap) (v : Option Value) (h : Heap) (L : List Loc) : Prop := ∃ b : Addr, ∃ kb : ClassId, v = some (.ref b) ∧ Fr n0 L ∧ Keep h0 h [] ∧ (h0.size ≤ b) ∧ (Exa Z h b "[B") ∧ (Arv Z h b kb .byte (2 : Int32) [(.int (c0.toInt8.toInt32)), (.int (c1.toInt8.toInt32))] (.int 0))
theorem rmC1_2 (l : Launch) (Z : State) (a0 : Array Value) (hw : ∀ d ∈ tables_1, d.before a0 Z = true) (ws : List Jvm.Cond) (cS : Int32) (aDE : Addr) (kDE : ClassId) (aUS : Addr) (aSS : Addr) (aIE : Addr) (mO : Addr) (a0c : Addr) (k0 : ClassId) (c0 : Int32) (c1 : Int32) (h0 : Heap) (n0 : Nat) (O0 : Old Z n0 h0) (GL : GF Z cS aDE kDE aUS aSS aIE mO) (V_a0c : Arv Z h0 a0c k0 .char (2 : Int32) [(.int c0), (.int c1)] (.int 0)) (hc0 : ¬ ((255 : Int32) < c0)) (hc1 : ¬ ((255 : Int32) < c1)) :
    MF l MN_1 jdk_52_method_16_code 6 (some (.array .byte)) ws (Rm 1 1 2 18) #[(.ref a0c), (.int 0), (.int 2)] Z h0 (Q_rmC1_2 n0 Z cS aDE kDE aUS aSS aIE mO a0c k0 c0 c1 h0) := by
  refine MetFree.of_bodySF (plainFor_of_name pn) hisR ?_
  intro p e s m args below meth c s₁ Bd hml0 hP hK
  obtain ⟨rfl, hZ, hh⟩ := hP
  have hx := Bd.exec
  have hby := Bd.bytes
  have hml : c.maxLocals = 6 := hml0
  have hown : s.vm.findClass "java/lang/StringUTF16" = some m.cls := findClass_of_methodNamed Bd.named
  have hnm := (name_of_methodNamed Bd.named Bd.method).1
  have X0 : Stand p l e (Rm 1 1 2 18) s m #[(.ref a0c), (.int 0), (.int 2)] below meth c s₁ [] 0 0 := Stand.of_body Bd
  have e0 : s₁.heap = h0 := by rw [← hh, Bd.state]; rfl
  have N0 := Fr.nil n0
  have pre0 : ∀ t, SP p e below s₁ m 0 #[vr a0c, vi (0 : Int32), vi (2 : Int32), .unset, .unset, .unset] [] t → Steps p.tables e below (s₁.setTop (entryFrame m #[(.ref a0c), (.int 0), (.int 2)] 6)) t := fun t k => castTop (ef_rmC1_2 m a0c) k
  have GL' := GL
  obtain ⟨GCS, GCP, GDE, GVE, GUS, GSS, GIE, GMO⟩ := GL'
  obtain ⟨T1, h1, k1, X1, e1, E1, A1, A1', st1⟩ := newPE X0 hx hZ (Wd hw 23 rfl) e0 (g := mkF m 1 #[vr a0c, vi (0 : Int32), vi (2 : Int32), .unset, .unset, .unset] [(.int 2)]) rfl (dG hby D5 1 rfl) rfl (by decide) (cap := 2) (by decide) (by decide) (by decide) (by decide) (ad := "[B") rfl
  obtain ⟨b1, g1⟩ : ∃ z, z = h0.size := ⟨_, rfl⟩
  rw [← g1] at A1 A1' st1
  have g_b1 : n0 ≤ b1 := lTr (own_sz O0) (lEq g1.symm)
  have sz_b1 : h0.size ≤ b1 := lTr (Keep.refl h0 []).1 (lEq g1.symm)
  have K1 : Keep h0 h1 [] := (Keep.refl h0 []).ext E1
  have O1 := O0.ext E1
  have V_b1 : Arv Z h1 b1 k1 .byte (2 : Int32) [(.int 0), (.int 0)] (.int 0) := (Arv.new A1 (by decide)).pad (pad_rep [] (.int 0) 2)
  obtain ⟨_, _, ⟨T2, L2, k2, n2⟩, -, X2, ⟨Lc2, hQ2, l2, y2, z2⟩, st2⟩ := Jvm.LawKit.callS X1 hx (y := MN_0) hown (mvT hZ (Wd hw 24 rfl)) (mvT hZ (Wd hw 25 rfl)) (mvT hZ (Wd hw 21 rfl)) (mvT hZ (Wd hw 26 rfl)) (by decide) (backOf (W := 0) (rmC2_2 l Z a0 hw [] cS aDE kDE aUS aSS aIE mO a0c b1 k0 k1 c0 c1 h1 n0 O1 GL (V_a0c.ext E1) V_b1 g_b1 hc0 hc1) hZ (Wd hw 26 rfl) (Wd hw 21 rfl) (by decide) (by decide)) (g := mkF m 9 #[vr a0c, vi (0 : Int32), vi (2 : Int32), vr b1, .unset, .unset] [(.int 2), (.int 0), (.ref b1), (.int 0), (.ref a0c)]) rfl (by rw [hml]; rfl) (argsL := [(.ref a0c), (.int 0), (.ref b1), (.int 0), (.int 2)]) (rest := []) (lenOf pd rfl) rfl (by show 2 * 0 + _ ≤ _; exact lEq rfl) (dG hby D5 8 rfl) (fun _ _ => ⟨rfl, e1, (by decide : 1 + 0 ≤ _), (by decide : 2 + 0 ≤ _)⟩)
  dsimp only [Pt.U, Pt.locs, Pt.cells, Pt.slots] at X2 l2 y2 z2 st2 hQ2
  subst l2 y2 z2
  obtain ⟨rfl, N2q, Kc2, P2_0⟩ := hQ2
  have K2 : Keep h0 T2.heap [] := K1.trans Kc2 (allS (Or.inr sz_b1) all0)
  have O2 := O1.keep Kc2 (allS g_b1 all0)
  have N2 := Fr.app N0 N2q
  obtain ⟨fs, hr, hrun, hended, hW, hsame⟩ := X2.leave (v := some (.ref b1)) (fun h => by rw [Bd.returns] at h; cases h)
  refine ⟨_, _, pre0 _ ?_, hrun, hended, _, _, rfl, ?_, ⟨_, rfl⟩, hW, hsame.mono (by decide) (by decide)⟩
  · show SP p e below s₁ m 0 #[vr a0c, vi (0 : Int32), vi (2 : Int32), .unset, .unset, .unset] [] _
    refine XS.iloadN X0.here hx rfl (dG hby D5 0 rfl) rfl ?_
    show SP p e below s₁ m 1 #[vr a0c, vi (0 : Int32), vi (2 : Int32), .unset, .unset, .unset] [(.int 2)] _
    refine st1 _ ?_
    show SP p e below T1 m 3 #[vr a0c, vi (0 : Int32), vi (2 : Int32), .unset, .unset, .unset] [(.ref b1)] _
    refine XS.astoreN X1.here hx rfl (dG hby D5 2 rfl) rfl rfl (l' := #[vr a0c, vi (0 : Int32), vi (2 : Int32), vr b1, .unset, .unset]) rfl ?_
    refine XS.aloadN X1.here hx rfl (dG hby D5 3 rfl) rfl rfl ?_
    refine XS.iloadN X1.here hx rfl (dG hby D5 4 rfl) rfl ?_
    refine XS.aloadN X1.here hx rfl (dG hby D5 5 rfl) rfl rfl ?_
    refine XS.iconst X1.here hx rfl (dG hby D5 6 rfl) ?_
    refine XS.iloadN X1.here hx rfl (dG hby D5 7 rfl) rfl ?_
    show SP p e below T1 m 9 #[vr a0c, vi (0 : Int32), vi (2 : Int32), vr b1, .unset, .unset] [(.int 2), (.int 0), (.ref b1), (.int 0), (.ref a0c)] _
    refine st2 _ ?_
    show SP p e below T2 m 12 #[vr a0c, vi (0 : Int32), vi (2 : Int32), vr b1, .unset, .unset] [(.int 2)] _
    refine XS.istore X2.here hx rfl (dG hby D5 9 rfl) rfl (l' := #[vr a0c, vi (0 : Int32), vi (2 : Int32), vr b1, vi (2 : Int32), .unset]) rfl ?_
    refine XS.iload X2.here hx rfl (dG hby D5 10 rfl) rfl ?_
    refine XS.iloadN X2.here hx rfl (dG hby D5 11 rfl) rfl ?_
    refine XS.icmpYes X2.here hx rfl (pc0 := 17) (pc' := 57) rfl (dG hby D5 12 rfl) rfl (teq (by decide : (2 : Int32) = (2 : Int32))).1 (by decide) (by decide) ?_
    refine XS.aloadN X2.here hx rfl (dG hby D5 13 rfl) rfl rfl ?_
    show SP p e below T2 m 58 #[vr a0c, vi (0 : Int32), vi (2 : Int32), vr b1, vi (2 : Int32), .unset] [(.ref b1)] _
    exact retA X2 hx Bd.returns rfl (dG hby D5 14 rfl) hr
  · show Q_rmC1_2 n0 Z cS aDE kDE aUS aSS aIE mO a0c k0 c0 c1 h0 _ T2.heap _
    exact ⟨b1, k1, rfl, N2, K2, sz_b1, (A1'.keep Kc2), P2_0⟩
theorem D7 : dL jdk_52_method_15_code [(0, .iload_n 1, 1), (1, .aload_n 0, 1), (2, .arraylength, 1), (3, .isub, 1), (4, .bipush 31, 2), (6, .iushr, 1), (7, .i2b, 1), (8, .ireturn, 1)] = true := by decide +kernel
abbrev MN_2 : MethodName := ⟨"java/lang/StringUTF16", "coderFromArrayLen", "([BI)B"⟩
theorem ef_rmCfa2_2 (m : MethodId) (a0b : Addr) : entryFrame m #[(.ref a0b), (.int 2)] 2 = mkF m 0 #[vr a0b, vi (2 : Int32)] [] := by first | (simp [entryFrame, mkF, argsToLocals, Value.category]; done) | rfl
def Q_rmCfa2_2 (n0 : Nat) (Z : State) (cS : Int32) (aDE : Addr) (kDE : ClassId) (aUS : Addr) (aSS : Addr) (aIE : Addr) (mO : Addr) (a0b : Addr) (k0 : ClassId) (vs : List Value) (h0 : Heap) (v : Option Value) (h : Heap) (L : List Loc) : Prop := v = some (.int 0) ∧ Fr n0 L ∧ h = h0
theorem rmCfa2_2 (l : Launch) (Z : State) (a0 : Array Value) (hw : ∀ d ∈ tables_1, d.before a0 Z = true) (ws : List Jvm.Cond) (cS : Int32) (aDE : Addr) (kDE : ClassId) (aUS : Addr) (aSS : Addr) (aIE : Addr) (mO : Addr) (a0b : Addr) (k0 : ClassId) (vs : List Value) (h0 : Heap) (n0 : Nat) (O0 : Old Z n0 h0) (GL : GF Z cS aDE kDE aUS aSS aIE mO) (V_a0b : Arv Z h0 a0b k0 .byte (2 : Int32) vs (.int 0)) :
    MF l MN_2 jdk_52_method_15_code 2 (some .byte) ws (Rm 0 0 0 0) #[(.ref a0b), (.int 2)] Z h0 (Q_rmCfa2_2 n0 Z cS aDE kDE aUS aSS aIE mO a0b k0 vs h0) := by
  refine MetFree.of_bodySF (plainFor_of_name pn) hisR ?_
  intro p e s m args below meth c s₁ Bd hml0 hP hK
  obtain ⟨rfl, hZ, hh⟩ := hP
  have hx := Bd.exec
  have hby := Bd.bytes
  have hml : c.maxLocals = 2 := hml0
  have hown : s.vm.findClass "java/lang/StringUTF16" = some m.cls := findClass_of_methodNamed Bd.named
  have hnm := (name_of_methodNamed Bd.named Bd.method).1
  have X0 : Stand p l e (Rm 0 0 0 0) s m #[(.ref a0b), (.int 2)] below meth c s₁ [] 0 0 := Stand.of_body Bd
  have e0 : s₁.heap = h0 := by rw [← hh, Bd.state]; rfl
  have N0 := Fr.nil n0
  have pre0 : ∀ t, SP p e below s₁ m 0 #[vr a0b, vi (2 : Int32)] [] t → Steps p.tables e below (s₁.setTop (entryFrame m #[(.ref a0b), (.int 2)] 2)) t := fun t k => castTop (ef_rmCfa2_2 m a0b) k
  have GL' := GL
  obtain ⟨GCS, GCP, GDE, GVE, GUS, GSS, GIE, GMO⟩ := GL'
  obtain ⟨cl1, Ar1, -, S1, N1_, -, -⟩ := id (V_a0b)
  obtain ⟨fs, hr, hrun, hended, hW, hsame⟩ := X0.leave (v := some (.int 0)) (fun h => by rw [Bd.returns] at h; cases h)
  refine ⟨_, _, pre0 _ ?_, hrun, hended, _, _, rfl, ?_, ⟨_, rfl⟩, hW, hsame.mono (by decide) (by decide)⟩
  · show SP p e below s₁ m 0 #[vr a0b, vi (2 : Int32)] [] _
    refine XS.iloadN X0.here hx rfl (dG hby D7 0 rfl) rfl ?_
    refine XS.aloadN X0.here hx rfl (dG hby D7 1 rfl) rfl rfl ?_
    show SP p e below s₁ m 2 #[vr a0b, vi (2 : Int32)] [(.ref a0b), (.int 2)] _
    refine X0.arraylength hx (by rw [e0]; exact Ar1.1) (State.isArrayOf_alike hZ.alike Ar1.2.1) (g := mkF m 2 #[vr a0b, vi (2 : Int32)] [(.ref a0b), (.int 2)]) rfl rfl (dG hby D7 2 rfl) _ ?_
    rw [len_of S1 N1_]
    show SP p e below s₁ m 3 #[vr a0b, vi (2 : Int32)] [(.int 2), (.int 2)] _
    refine XS.isub X0.here hx rfl (dG hby D7 3 rfl) rfl ?_
    refine XS.bipush X0.here hx rfl (dG hby D7 4 rfl) ?_
    refine XS.iushr X0.here hx rfl (dG hby D7 5 rfl) rfl ?_
    refine XS.i2b X0.here hx rfl (dG hby D7 6 rfl) rfl ?_
    show SP p e below s₁ m 8 #[vr a0b, vi (2 : Int32)] [(.int 0)] _
    exact retN X0 hx (t := .byte) Bd.returns (by simp) (dG hby D7 7 rfl) hr
  · show Q_rmCfa2_2 n0 Z cS aDE kDE aUS aSS aIE mO a0b k0 vs h0 _ s₁.heap _
    rw [e0]
    exact ⟨rfl, N0, rfl⟩
theorem D3 : dL jdk_42_method_149_code [(0, .aload_n 0, 1), (1, .invokespecial 1, 3), (4, .iload_n 3, 1), (5, .ifCond .ne 22, 3), (27, .getstatic 38, 3), (30, .ifCond .eq 28, 3), (33, .aload_n 1, 1), (34, .iload_n 2, 1), (35, .iload_n 3, 1), (36, .invokestatic 177, 3), (39, .astore 5, 2), (41, .aload_n 0, 1), (42, .aload 5, 2), (44, .iload_n 3, 1), (45, .invokestatic 47, 3), (48, .putfield 15, 3), (51, .aload_n 0, 1), (52, .aload 5, 2), (54, .putfield 9, 3), (57, .return_, 1)] = true := by decide +kernel
theorem pdv1 : parseMethodDescriptor "([CII)[B" = some ⟨[(.array .char), .int, .int], some (.array .byte)⟩ := by decide +kernel
theorem pdv2 : parseMethodDescriptor "([BI)B" = some ⟨[(.array .byte), .int], some .byte⟩ := by decide +kernel
theorem pnv1 : plainName "java/lang/String" = true := by first | (simp [plainName, overriddenIn]; done) | decide +kernel
abbrev MN_3 : MethodName := ⟨"java/lang/String", "<init>", "([CIILjava/lang/Void;)V"⟩
theorem ef_rmIv_2 (m : MethodId) (a0s : Addr) (a1c : Addr) : entryFrame m #[(.ref a0s), (.ref a1c), (.int 0), (.int 2), .null] 6 = mkF m 0 #[vr a0s, vr a1c, vi (0 : Int32), vi (2 : Int32), .val .null, .unset] [] := by first | (simp [entryFrame, mkF, argsToLocals, Value.category]; done) | rfl
def Q_rmIv_2 (n0 : Nat) (Z : State) (cS : Int32) (aDE : Addr) (kDE : ClassId) (aUS : Addr) (aSS : Addr) (aIE : Addr) (mO : Addr) (a0s : Addr) (a1c : Addr) (k1 : ClassId) (c0 : Int32) (c1 : Int32) (h0 : Heap) (v : Option Value) (h : Heap) (L : List Loc) : Prop := ∃ b : Addr, ∃ kb : ClassId, v = none ∧ Fr n0 L ∧ Keep h0 h [a0s] ∧ (h0.size ≤ b) ∧ (Exa Z h b "[B") ∧ (Exa Z h a0s "java/lang/String") ∧ (Fld Z h a0s "java/lang/String" "value" "[B" (.ref b)) ∧ (Fld Z h a0s "java/lang/String" "coder" "B" (.int 0)) ∧ (Arv Z h b kb .byte (2 : Int32) [(.int (c0.toInt8.toInt32)), (.int (c1.toInt8.toInt32))] (.int 0))
theorem rmIv_2 (l : Launch) (Z : State) (a0 : Array Value) (hw : ∀ d ∈ tables_1, d.before a0 Z = true) (ws : List Jvm.Cond) (cS : Int32) (aDE : Addr) (kDE : ClassId) (aUS : Addr) (aSS : Addr) (aIE : Addr) (mO : Addr) (a0s : Addr) (a1c : Addr) (k1 : ClassId) (c0 : Int32) (c1 : Int32) (h0 : Heap) (n0 : Nat) (O0 : Old Z n0 h0) (GL : GF Z cS aDE kDE aUS aSS aIE mO) (E_a0s : Exa Z h0 a0s "java/lang/String") (F_value_a0s : Fld Z h0 a0s "java/lang/String" "value" "[B" .null) (F_coder_a0s : Fld Z h0 a0s "java/lang/String" "coder" "B" (.int 0)) (g_a0s : n0 ≤ a0s) (V_a1c : Arv Z h0 a1c k1 .char (2 : Int32) [(.int c0), (.int c1)] (.int 0)) (hc0 : ¬ ((255 : Int32) < c0)) (hc1 : ¬ ((255 : Int32) < c1)) :
    MF l MN_3 jdk_42_method_149_code 6 none ws (Rm 2 1 2 35) #[(.ref a0s), (.ref a1c), (.int 0), (.int 2), .null] Z h0 (Q_rmIv_2 n0 Z cS aDE kDE aUS aSS aIE mO a0s a1c k1 c0 c1 h0) := by
  refine MetFree.of_bodySF (plainFor_of_name pnv1) hisR ?_
  intro p e s m args below meth c s₁ Bd hml0 hP hK
  obtain ⟨rfl, hZ, hh⟩ := hP
  have hx := Bd.exec
  have hby := Bd.bytes
  have hml : c.maxLocals = 6 := hml0
  have hown : s.vm.findClass "java/lang/String" = some m.cls := findClass_of_methodNamed Bd.named
  have hnm := (name_of_methodNamed Bd.named Bd.method).1
  have X0 : Stand p l e (Rm 2 1 2 35) s m #[(.ref a0s), (.ref a1c), (.int 0), (.int 2), .null] below meth c s₁ [] 0 0 := Stand.of_body Bd
  have e0 : s₁.heap = h0 := by rw [← hh, Bd.state]; rfl
  have N0 := Fr.nil n0
  have pre0 : ∀ t, SP p e below s₁ m 0 #[vr a0s, vr a1c, vi (0 : Int32), vi (2 : Int32), .val .null, .unset] [] t → Steps p.tables e below (s₁.setTop (entryFrame m #[(.ref a0s), (.ref a1c), (.int 0), (.int 2), .null] 6)) t := fun t k => castTop (ef_rmIv_2 m a0s a1c) k
  have GL' := GL
  obtain ⟨GCS, GCP, GDE, GVE, GUS, GSS, GIE, GMO⟩ := GL'
  obtain ⟨T1, X1, e1, st1⟩ := initO X0 hx hZ hown (Wd hw 15 rfl) (Wd hw 16 rfl) (Wd hw 17 rfl) e0 (g := mkF m 1 #[vr a0s, vr a1c, vi (0 : Int32), vi (2 : Int32), .val .null, .unset] [(.ref a0s)]) rfl (by rw [hml]; rfl) rfl (dG hby D3 1 rfl) (by decide) (W := 0) (by show 2 * 0 + _ ≤ _; exact lEq rfl) (by decide)
  obtain ⟨T2, X2, e2, st2⟩ := getS2 X1 hx hZ hown (host := "") (Or.inl (Wd hw 18 rfl)) Via.refl e1 (GCS.ext O0.2) (g := mkF m 27 #[vr a0s, vr a1c, vi (0 : Int32), vi (2 : Int32), .val .null, .unset] []) rfl (dG hby D3 4 rfl)
  obtain ⟨_, _, ⟨T3, L3, k3, n3⟩, -, X3, ⟨Lc3, hQ3, l3, y3, z3⟩, st3⟩ := Jvm.LawKit.callS X2 hx (y := MN_1) hown (mvT hZ (Wd hw 19 rfl)) (mvT hZ (Wd hw 20 rfl)) (mvT hZ (Wd hw 21 rfl)) (mvT hZ (Wd hw 22 rfl)) (by decide) (backOf (W := 0) (rmC1_2 l Z a0 hw [] cS aDE kDE aUS aSS aIE mO a1c k1 c0 c1 h0 n0 O0 GL V_a1c hc0 hc1) hZ (Wd hw 22 rfl) (Wd hw 21 rfl) (by decide) (by decide)) (g := mkF m 36 #[vr a0s, vr a1c, vi (0 : Int32), vi (2 : Int32), .val .null, .unset] [(.int 2), (.int 0), (.ref a1c)]) rfl (by rw [hml]; rfl) (argsL := [(.ref a1c), (.int 0), (.int 2)]) (rest := []) (lenOf pdv1 rfl) rfl (by show 2 * 0 + _ ≤ _; exact lEq rfl) (dG hby D3 9 rfl) (fun _ _ => ⟨rfl, e2, (by decide : 0 + 1 ≤ _), (by decide : 0 + 2 ≤ _)⟩)
  dsimp only [Pt.U, Pt.locs, Pt.cells, Pt.slots] at X3 l3 y3 z3 st3 hQ3
  subst l3 y3 z3
  obtain ⟨b_3, kb_3, rfl, N3q, Kc3, P3_0, P3_1, P3_2⟩ := hQ3
  have K3 : Keep h0 T3.heap [a0s] := (Keep.refl h0 [a0s]).trans Kc3 all0
  have O3 := O0.keep Kc3 all0
  have g_b_3 : n0 ≤ b_3 := lTr (own_sz O0) P3_0
  have sz_b_3 : h0.size ≤ b_3 := lTr (Keep.refl h0 [a0s]).1 P3_0
  have N3 := Fr.app N0 N3q
  obtain ⟨_, _, ⟨T4, L4, k4, n4⟩, -, X4, ⟨Lc4, hQ4, l4, y4, z4⟩, st4⟩ := Jvm.LawKit.callS X3 hx (y := MN_2) hown (mvT hZ (Wd hw 27 rfl)) (mvT hZ (Wd hw 28 rfl)) (mvT hZ (Wd hw 21 rfl)) (mvT hZ (Wd hw 29 rfl)) (by decide) (backOf (W := 1) (rmCfa2_2 l Z a0 hw [] cS aDE kDE aUS aSS aIE mO b_3 kb_3 ([(.int (c0.toInt8.toInt32)), (.int (c1.toInt8.toInt32))]) (T3.heap) n0 O3 GL P3_2) hZ (Wd hw 29 rfl) (Wd hw 21 rfl) (by decide) (by decide)) (g := mkF m 45 #[vr a0s, vr a1c, vi (0 : Int32), vi (2 : Int32), .val .null, vr b_3] [(.int 2), (.ref b_3), (.ref a0s)]) rfl (by rw [hml]; rfl) (argsL := [(.ref b_3), (.int 2)]) (rest := [(.ref a0s)]) (lenOf pdv2 rfl) rfl (by show 2 * 0 + _ ≤ _; exact lEq rfl) (dG hby D3 14 rfl) (fun _ _ => ⟨rfl, rfl, (by decide : 1 + 0 ≤ _), (by decide : 2 + 0 ≤ _)⟩)
  dsimp only [Pt.U, Pt.locs, Pt.cells, Pt.slots] at X4 l4 y4 z4 st4 hQ4
  subst l4 y4 z4
  obtain ⟨rfl, N4q, e4⟩ := hQ4
  have N4 := Fr.app N3 N4q
  obtain ⟨T5, h5, X5, e5, W5, st5⟩ := putFN X4 hx hZ hown (Wd hw 30 rfl) Via.refl e4 (F_coder_a0s.keep Kc3 nin0) (E_a0s.keep Kc3) (Or.inr ⟨(Wd hw 31 rfl), rfl, hnm⟩) (Wd hw 6 rfl) (ty := .byte) (v' := (.int 0)) (by decide) rfl (by decide) (g := mkF m 48 #[vr a0s, vr a1c, vi (0 : Int32), vi (2 : Int32), .val .null, vr b_3] [(.int 0), (.ref a0s)]) rfl rfl (dG hby D3 15 rfl)
  have Fw5 := (F_coder_a0s.keep Kc3 nin0).same W5
  have K5 : Keep h0 h5 [a0s] := K3.wr W5 (Or.inl (List.mem_of_getElem? (i := 0) rfl))
  have O5 := O3.wr W5 g_a0s
  have N5 := Fr.snoc X5 N4 g_a0s
  obtain ⟨T6, h6, X6, e6, W6, st6⟩ := putF X5 hx hZ hown (host := "") (Or.inl (Wd hw 32 rfl)) Via.refl e5 ((F_value_a0s.keep Kc3 nin0).other W5 (Or.inr (slot_ne (a0 := a0) (Or.inr (Wd hw 33 rfl)) (Or.inr (Wd hw 31 rfl)) (by decide) (t := (.array .byte)) (t' := .byte) (by decide) (by decide)))) ((E_a0s.keep Kc3).wr W5) (Or.inr ⟨(Wd hw 33 rfl), rfl, hnm⟩) (Wd hw 6 rfl) (ty := (.array .byte)) (by decide) rfl rfl (g := mkF m 54 #[vr a0s, vr a1c, vi (0 : Int32), vi (2 : Int32), .val .null, vr b_3] [(.ref b_3), (.ref a0s)]) rfl rfl (dG hby D3 18 rfl)
  have Fw6 := ((F_value_a0s.keep Kc3 nin0).other W5 (Or.inr (slot_ne (a0 := a0) (Or.inr (Wd hw 33 rfl)) (Or.inr (Wd hw 31 rfl)) (by decide) (t := (.array .byte)) (t' := .byte) (by decide) (by decide)))).same W6
  have K6 : Keep h0 h6 [a0s] := K5.wr W6 (Or.inl (List.mem_of_getElem? (i := 0) rfl))
  have O6 := O5.wr W6 g_a0s
  have N6 := Fr.snoc X6 N5 g_a0s
  obtain ⟨fs, hr, hrun, hended, hW, hsame⟩ := X6.leave (v := none) (fun _ => rfl)
  refine ⟨_, _, pre0 _ ?_, hrun, hended, _, _, rfl, ?_, ⟨_, rfl⟩, hW, hsame.mono (by decide) (by decide)⟩
  · show SP p e below s₁ m 0 #[vr a0s, vr a1c, vi (0 : Int32), vi (2 : Int32), .val .null, .unset] [] _
    refine XS.aloadN X0.here hx rfl (dG hby D3 0 rfl) rfl rfl ?_
    show SP p e below s₁ m 1 #[vr a0s, vr a1c, vi (0 : Int32), vi (2 : Int32), .val .null, .unset] [(.ref a0s)] _
    refine st1 _ ?_
    show SP p e below T1 m 4 #[vr a0s, vr a1c, vi (0 : Int32), vi (2 : Int32), .val .null, .unset] [] _
    refine XS.iloadN X1.here hx rfl (dG hby D3 2 rfl) rfl ?_
    refine XS.ifYes X1.here hx rfl (pc0 := 5) (pc' := 27) rfl (dG hby D3 3 rfl) rfl ((if0 _ _).trans (feq (by decide : ¬ ((2 : Int32) = (0 : Int32)))).2) (by decide) (by decide) ?_
    show SP p e below T1 m 27 #[vr a0s, vr a1c, vi (0 : Int32), vi (2 : Int32), .val .null, .unset] [] _
    refine st2 _ ?_
    show SP p e below T2 m 30 #[vr a0s, vr a1c, vi (0 : Int32), vi (2 : Int32), .val .null, .unset] [(.int cS)] _
    refine XS.ifNo X2.here hx rfl (dG hby D3 5 rfl) rfl ((if0 _ _).trans (feq GCP).1) ?_
    refine XS.aloadN X2.here hx rfl (dG hby D3 6 rfl) rfl rfl ?_
    refine XS.iloadN X2.here hx rfl (dG hby D3 7 rfl) rfl ?_
    refine XS.iloadN X2.here hx rfl (dG hby D3 8 rfl) rfl ?_
    show SP p e below T2 m 36 #[vr a0s, vr a1c, vi (0 : Int32), vi (2 : Int32), .val .null, .unset] [(.int 2), (.int 0), (.ref a1c)] _
    refine st3 _ ?_
    show SP p e below T3 m 39 #[vr a0s, vr a1c, vi (0 : Int32), vi (2 : Int32), .val .null, .unset] [(.ref b_3)] _
    refine XS.astore X3.here hx rfl (dG hby D3 10 rfl) rfl rfl (l' := #[vr a0s, vr a1c, vi (0 : Int32), vi (2 : Int32), .val .null, vr b_3]) rfl ?_
    refine XS.aloadN X3.here hx rfl (dG hby D3 11 rfl) rfl rfl ?_
    refine XS.aload X3.here hx rfl (dG hby D3 12 rfl) rfl rfl ?_
    refine XS.iloadN X3.here hx rfl (dG hby D3 13 rfl) rfl ?_
    show SP p e below T3 m 45 #[vr a0s, vr a1c, vi (0 : Int32), vi (2 : Int32), .val .null, vr b_3] [(.int 2), (.ref b_3), (.ref a0s)] _
    refine st4 _ ?_
    show SP p e below T4 m 48 #[vr a0s, vr a1c, vi (0 : Int32), vi (2 : Int32), .val .null, vr b_3] [(.int 0), (.ref a0s)] _
    refine st5 _ ?_
    show SP p e below T5 m 51 #[vr a0s, vr a1c, vi (0 : Int32), vi (2 : Int32), .val .null, vr b_3] [] _
    refine XS.aloadN X5.here hx rfl (dG hby D3 16 rfl) rfl rfl ?_
    refine XS.aload X5.here hx rfl (dG hby D3 17 rfl) rfl rfl ?_
    show SP p e below T5 m 54 #[vr a0s, vr a1c, vi (0 : Int32), vi (2 : Int32), .val .null, vr b_3] [(.ref b_3), (.ref a0s)] _
    refine st6 _ ?_
    show SP p e below T6 m 57 #[vr a0s, vr a1c, vi (0 : Int32), vi (2 : Int32), .val .null, vr b_3] [] _
    exact X6.returnOut hx Bd.returns (dG hby D3 19 rfl) hr
  · show Q_rmIv_2 n0 Z cS aDE kDE aUS aSS aIE mO a0s a1c k1 c0 c1 h0 _ T6.heap _
    rw [e6]
    exact ⟨b_3, kb_3, rfl, N6, K6, sz_b_3, ((P3_1.wr W5).wr W6), (((E_a0s.keep Kc3).wr W5).wr W6), Fw6, (Fw5.other W6 (Or.inr (slot_ne (a0 := a0) (Or.inr (Wd hw 31 rfl)) (Or.inr (Wd hw 33 rfl)) (by decide) (t := .byte) (t' := (.array .byte)) (by decide) (by decide)))), ((P3_2.other W5 (Ne.symm (nLt (lLt E_a0s.lt P3_0)))).other W6 (Ne.symm (nLt (lLt E_a0s.lt P3_0))))⟩
theorem D2 : dL jdk_42_method_3_code [(0, .aload_n 0, 1), (1, .aload_n 1, 1), (2, .iconst 0, 1), (3, .aload_n 1, 1), (4, .arraylength, 1), (5, .aconst_null, 1), (6, .invokespecial 27, 3), (9, .return_, 1)] = true := by decide +kernel
theorem pdv3 : parseMethodDescriptor "([CIILjava/lang/Void;)V" = some ⟨[(.array .char), .int, .int, (.object "java/lang/Void")], none⟩ := by decide +kernel
abbrev MN_4 : MethodName := ⟨"java/lang/String", "<init>", "([C)V"⟩
theorem ef_rmIc_2 (m : MethodId) (a0s : Addr) (a1c : Addr) : entryFrame m #[(.ref a0s), (.ref a1c)] 2 = mkF m 0 #[vr a0s, vr a1c] [] := by first | (simp [entryFrame, mkF, argsToLocals, Value.category]; done) | rfl
def Q_rmIc_2 (n0 : Nat) (Z : State) (cS : Int32) (aDE : Addr) (kDE : ClassId) (aUS : Addr) (aSS : Addr) (aIE : Addr) (mO : Addr) (a0s : Addr) (a1c : Addr) (k1 : ClassId) (c0 : Int32) (c1 : Int32) (h0 : Heap) (v : Option Value) (h : Heap) (L : List Loc) : Prop := ∃ b : Addr, ∃ kb : ClassId, v = none ∧ Fr n0 L ∧ Keep h0 h [a0s] ∧ (h0.size ≤ b) ∧ (Exa Z h b "[B") ∧ (Exa Z h a0s "java/lang/String") ∧ (Fld Z h a0s "java/lang/String" "value" "[B" (.ref b)) ∧ (Fld Z h a0s "java/lang/String" "coder" "B" (.int 0)) ∧ (Arv Z h b kb .byte (2 : Int32) [(.int (c0.toInt8.toInt32)), (.int (c1.toInt8.toInt32))] (.int 0))
theorem rmIc_2 (l : Launch) (Z : State) (a0 : Array Value) (hw : ∀ d ∈ tables_1, d.before a0 Z = true) (ws : List Jvm.Cond) (cS : Int32) (aDE : Addr) (kDE : ClassId) (aUS : Addr) (aSS : Addr) (aIE : Addr) (mO : Addr) (a0s : Addr) (a1c : Addr) (k1 : ClassId) (c0 : Int32) (c1 : Int32) (h0 : Heap) (n0 : Nat) (O0 : Old Z n0 h0) (GL : GF Z cS aDE kDE aUS aSS aIE mO) (E_a0s : Exa Z h0 a0s "java/lang/String") (F_value_a0s : Fld Z h0 a0s "java/lang/String" "value" "[B" .null) (F_coder_a0s : Fld Z h0 a0s "java/lang/String" "coder" "B" (.int 0)) (g_a0s : n0 ≤ a0s) (V_a1c : Arv Z h0 a1c k1 .char (2 : Int32) [(.int c0), (.int c1)] (.int 0)) (hc0 : ¬ ((255 : Int32) < c0)) (hc1 : ¬ ((255 : Int32) < c1)) :
    MF l MN_4 jdk_42_method_3_code 2 none ws (Rm 3 1 2 52) #[(.ref a0s), (.ref a1c)] Z h0 (Q_rmIc_2 n0 Z cS aDE kDE aUS aSS aIE mO a0s a1c k1 c0 c1 h0) := by
  refine MetFree.of_bodySF (plainFor_of_name pnv1) hisR ?_
  intro p e s m args below meth c s₁ Bd hml0 hP hK
  obtain ⟨rfl, hZ, hh⟩ := hP
  have hx := Bd.exec
  have hby := Bd.bytes
  have hml : c.maxLocals = 2 := hml0
  have hown : s.vm.findClass "java/lang/String" = some m.cls := findClass_of_methodNamed Bd.named
  have hnm := (name_of_methodNamed Bd.named Bd.method).1
  have X0 : Stand p l e (Rm 3 1 2 52) s m #[(.ref a0s), (.ref a1c)] below meth c s₁ [] 0 0 := Stand.of_body Bd
  have e0 : s₁.heap = h0 := by rw [← hh, Bd.state]; rfl
  have N0 := Fr.nil n0
  have pre0 : ∀ t, SP p e below s₁ m 0 #[vr a0s, vr a1c] [] t → Steps p.tables e below (s₁.setTop (entryFrame m #[(.ref a0s), (.ref a1c)] 2)) t := fun t k => castTop (ef_rmIc_2 m a0s a1c) k
  have GL' := GL
  obtain ⟨GCS, GCP, GDE, GVE, GUS, GSS, GIE, GMO⟩ := GL'
  obtain ⟨cl1, Ar1, -, S1, N1_, -, -⟩ := id (V_a1c)
  obtain ⟨_, _, ⟨T2, L2, k2, n2⟩, -, X2, ⟨Lc2, hQ2, l2, y2, z2⟩, st2⟩ := X0.specialBack hx (y := MN_3) rfl hown (mvT hZ (Wd hw 11 rfl)) (mvT hZ (Wd hw 12 rfl)) (mvT hZ (Wd hw 14 rfl)) (by decide) (backOf (W := 0) (rmIv_2 l Z a0 hw [] cS aDE kDE aUS aSS aIE mO a0s a1c k1 c0 c1 h0 n0 O0 GL E_a0s F_value_a0s F_coder_a0s g_a0s V_a1c hc0 hc1) hZ (Wd hw 14 rfl) (Wd hw 7 rfl) (by decide) (by decide)) (g := mkF m 6 #[vr a0s, vr a1c] [.null, (.int 2), (.int 0), (.ref a1c), (.ref a0s)]) rfl (by rw [hml]; rfl) (Steps.refl _) (a := a0s) (argsL := [(.ref a1c), (.int 0), (.int 2), .null]) (rest := []) (lenOf pdv3 rfl) rfl (by show 2 * 0 + _ ≤ _; exact lEq rfl) (dG hby D2 6 rfl) (fun _ _ => ⟨rfl, e0, (by decide : 0 + 1 ≤ _), (by decide : 0 + 2 ≤ _)⟩)
  dsimp only [Pt.U, Pt.locs, Pt.cells, Pt.slots] at X2 l2 y2 z2 st2 hQ2
  subst l2 y2 z2
  obtain ⟨b_2, kb_2, rfl, N2q, Kc2, P2_0, P2_1, P2_2, P2_3, P2_4, P2_5⟩ := hQ2
  have K2 : Keep h0 T2.heap [a0s] := (Keep.refl h0 [a0s]).trans Kc2 (allS (Or.inl (List.mem_of_getElem? (i := 0) rfl)) all0)
  have O2 := O0.keep Kc2 (allS g_a0s all0)
  have g_b_2 : n0 ≤ b_2 := lTr (own_sz O0) P2_0
  have sz_b_2 : h0.size ≤ b_2 := lTr (Keep.refl h0 [a0s]).1 P2_0
  have N2 := Fr.app N0 N2q
  obtain ⟨fs, hr, hrun, hended, hW, hsame⟩ := X2.leave (v := none) (fun _ => rfl)
  refine ⟨_, _, pre0 _ ?_, hrun, hended, _, _, rfl, ?_, ⟨_, rfl⟩, hW, hsame.mono (by decide) (by decide)⟩
  · show SP p e below s₁ m 0 #[vr a0s, vr a1c] [] _
    refine XS.aloadN X0.here hx rfl (dG hby D2 0 rfl) rfl rfl ?_
    refine XS.aloadN X0.here hx rfl (dG hby D2 1 rfl) rfl rfl ?_
    refine XS.iconst X0.here hx rfl (dG hby D2 2 rfl) ?_
    refine XS.aloadN X0.here hx rfl (dG hby D2 3 rfl) rfl rfl ?_
    show SP p e below s₁ m 4 #[vr a0s, vr a1c] [(.ref a1c), (.int 0), (.ref a1c), (.ref a0s)] _
    refine X0.arraylength hx (by rw [e0]; exact Ar1.1) (State.isArrayOf_alike hZ.alike Ar1.2.1) (g := mkF m 4 #[vr a0s, vr a1c] [(.ref a1c), (.int 0), (.ref a1c), (.ref a0s)]) rfl rfl (dG hby D2 4 rfl) _ ?_
    rw [len_of S1 N1_]
    show SP p e below s₁ m 5 #[vr a0s, vr a1c] [(.int 2), (.int 0), (.ref a1c), (.ref a0s)] _
    refine XS.aconstNull X0.here hx rfl (dG hby D2 5 rfl) ?_
    show SP p e below s₁ m 6 #[vr a0s, vr a1c] [.null, (.int 2), (.int 0), (.ref a1c), (.ref a0s)] _
    refine st2.trans ?_
    show SP p e below T2 m 9 #[vr a0s, vr a1c] [] _
    exact X2.returnOut hx Bd.returns (dG hby D2 7 rfl) hr
  · show Q_rmIc_2 n0 Z cS aDE kDE aUS aSS aIE mO a0s a1c k1 c0 c1 h0 _ T2.heap _
    exact ⟨b_2, kb_2, rfl, N2, K2, sz_b_2, P2_1, P2_2, P2_3, P2_4, P2_5⟩
theorem D31 : dL jdk_42_method_152_code [(0, .getstatic 38, 3), (3, .ifCond .eq 10, 3), (6, .aload_n 0, 1), (7, .getfield 15, 3), (10, .goto 4, 3), (14, .ireturn, 1)] = true := by decide +kernel
abbrev MN_5 : MethodName := ⟨"java/lang/String", "coder", "()B"⟩
theorem ef_rmCod (m : MethodId) (a0s : Addr) : entryFrame m #[(.ref a0s)] 1 = mkF m 0 #[vr a0s] [] := by first | (simp [entryFrame, mkF, argsToLocals, Value.category]; done) | rfl
def Q_rmCod (n0 : Nat) (Z : State) (cS : Int32) (aDE : Addr) (kDE : ClassId) (aUS : Addr) (aSS : Addr) (aIE : Addr) (mO : Addr) (a0s : Addr) (h0 : Heap) (v : Option Value) (h : Heap) (L : List Loc) : Prop := v = some (.int 0) ∧ Fr n0 L ∧ h = h0
theorem rmCod (l : Launch) (Z : State) (a0 : Array Value) (hw : ∀ d ∈ tables_1, d.before a0 Z = true) (ws : List Jvm.Cond) (cS : Int32) (aDE : Addr) (kDE : ClassId) (aUS : Addr) (aSS : Addr) (aIE : Addr) (mO : Addr) (a0s : Addr) (h0 : Heap) (n0 : Nat) (O0 : Old Z n0 h0) (GL : GF Z cS aDE kDE aUS aSS aIE mO) (F_coder_a0s : Fld Z h0 a0s "java/lang/String" "coder" "B" (.int 0)) :
    MF l MN_5 jdk_42_method_152_code 1 (some .byte) ws (Rm 0 0 0 0) #[(.ref a0s)] Z h0 (Q_rmCod n0 Z cS aDE kDE aUS aSS aIE mO a0s h0) := by
  refine MetFree.of_bodySF (plainFor_of_name pnv1) hisR ?_
  intro p e s m args below meth c s₁ Bd hml0 hP hK
  obtain ⟨rfl, hZ, hh⟩ := hP
  have hx := Bd.exec
  have hby := Bd.bytes
  have hml : c.maxLocals = 1 := hml0
  have hown : s.vm.findClass "java/lang/String" = some m.cls := findClass_of_methodNamed Bd.named
  have hnm := (name_of_methodNamed Bd.named Bd.method).1
  have X0 : Stand p l e (Rm 0 0 0 0) s m #[(.ref a0s)] below meth c s₁ [] 0 0 := Stand.of_body Bd
  have e0 : s₁.heap = h0 := by rw [← hh, Bd.state]; rfl
  have N0 := Fr.nil n0
  have pre0 : ∀ t, SP p e below s₁ m 0 #[vr a0s] [] t → Steps p.tables e below (s₁.setTop (entryFrame m #[(.ref a0s)] 1)) t := fun t k => castTop (ef_rmCod m a0s) k
  have GL' := GL
  obtain ⟨GCS, GCP, GDE, GVE, GUS, GSS, GIE, GMO⟩ := GL'
  obtain ⟨T1, X1, e1, st1⟩ := getS2 X0 hx hZ hown (host := "") (Or.inl (Wd hw 18 rfl)) Via.refl e0 (GCS.ext O0.2) (g := mkF m 0 #[vr a0s] []) rfl (dG hby D31 0 rfl)
  obtain ⟨T2, X2, e2, st2⟩ := getF X1 hx hZ hown (host := "") (Or.inl (Wd hw 30 rfl)) Via.refl e1 F_coder_a0s (g := mkF m 7 #[vr a0s] [(.ref a0s)]) rfl rfl (dG hby D31 3 rfl)
  obtain ⟨fs, hr, hrun, hended, hW, hsame⟩ := X2.leave (v := some (.int 0)) (fun h => by rw [Bd.returns] at h; cases h)
  refine ⟨_, _, pre0 _ ?_, hrun, hended, _, _, rfl, ?_, ⟨_, rfl⟩, hW, hsame.mono (by decide) (by decide)⟩
  · show SP p e below s₁ m 0 #[vr a0s] [] _
    refine st1 _ ?_
    show SP p e below T1 m 3 #[vr a0s] [(.int cS)] _
    refine XS.ifNo X1.here hx rfl (dG hby D31 1 rfl) rfl ((if0 _ _).trans (feq GCP).1) ?_
    refine XS.aloadN X1.here hx rfl (dG hby D31 2 rfl) rfl rfl ?_
    show SP p e below T1 m 7 #[vr a0s] [(.ref a0s)] _
    refine st2 _ ?_
    show SP p e below T2 m 10 #[vr a0s] [(.int 0)] _
    refine XS.goto X2.here hx rfl (pc0 := 10) (pc' := 14) rfl (dG hby D31 4 rfl) (by decide) (by decide) ?_
    show SP p e below T2 m 14 #[vr a0s] [(.int 0)] _
    exact retN X2 hx (t := .byte) Bd.returns (by simp) (dG hby D31 5 rfl) hr
  · show Q_rmCod n0 Z cS aDE kDE aUS aSS aIE mO a0s h0 _ T2.heap _
    rw [e2]
    exact ⟨rfl, N0, rfl⟩
theorem D30 : dL jdk_42_method_54_code [(0, .aload_n 0, 1), (1, .getfield 9, 3), (4, .arraylength, 1), (5, .aload_n 0, 1), (6, .invokevirtual 335, 3), (9, .ishr, 1), (10, .ireturn, 1)] = true := by decide +kernel
theorem pdv4 : parseMethodDescriptor "()B" = some ⟨[], some .byte⟩ := by decide +kernel
abbrev MN_6 : MethodName := ⟨"java/lang/String", "length", "()I"⟩
def Q_rmLen (n0 : Nat) (Z : State) (cS : Int32) (aDE : Addr) (kDE : ClassId) (aUS : Addr) (aSS : Addr) (aIE : Addr) (mO : Addr) (a0s : Addr) (av : Addr) (kv : ClassId) (nl : Int32) (vs : List Value) (h0 : Heap) (v : Option Value) (h : Heap) (L : List Loc) : Prop := v = some (.int nl) ∧ Fr n0 L ∧ h = h0
theorem rmLen (l : Launch) (Z : State) (a0 : Array Value) (hw : ∀ d ∈ tables_1, d.before a0 Z = true) (ws : List Jvm.Cond) (cS : Int32) (aDE : Addr) (kDE : ClassId) (aUS : Addr) (aSS : Addr) (aIE : Addr) (mO : Addr) (a0s : Addr) (av : Addr) (kv : ClassId) (nl : Int32) (vs : List Value) (h0 : Heap) (n0 : Nat) (O0 : Old Z n0 h0) (GL : GF Z cS aDE kDE aUS aSS aIE mO) (E_a0s : Exa Z h0 a0s "java/lang/String") (F_value_a0s : Fld Z h0 a0s "java/lang/String" "value" "[B" (.ref av)) (F_coder_a0s : Fld Z h0 a0s "java/lang/String" "coder" "B" (.int 0)) (V_av : Arv Z h0 av kv .byte nl vs (.int 0)) :
    MF l MN_6 jdk_42_method_54_code 1 (some .int) ws (Rm 1 0 0 13) #[(.ref a0s)] Z h0 (Q_rmLen n0 Z cS aDE kDE aUS aSS aIE mO a0s av kv nl vs h0) := by
  refine MetFree.of_bodySF (plainFor_of_name pnv1) hisR ?_
  intro p e s m args below meth c s₁ Bd hml0 hP hK
  obtain ⟨rfl, hZ, hh⟩ := hP
  have hx := Bd.exec
  have hby := Bd.bytes
  have hml : c.maxLocals = 1 := hml0
  have hown : s.vm.findClass "java/lang/String" = some m.cls := findClass_of_methodNamed Bd.named
  have hnm := (name_of_methodNamed Bd.named Bd.method).1
  have X0 : Stand p l e (Rm 1 0 0 13) s m #[(.ref a0s)] below meth c s₁ [] 0 0 := Stand.of_body Bd
  have e0 : s₁.heap = h0 := by rw [← hh, Bd.state]; rfl
  have N0 := Fr.nil n0
  have pre0 : ∀ t, SP p e below s₁ m 0 #[vr a0s] [] t → Steps p.tables e below (s₁.setTop (entryFrame m #[(.ref a0s)] 1)) t := fun t k => castTop (ef_rmCod m a0s) k
  have GL' := GL
  obtain ⟨GCS, GCP, GDE, GVE, GUS, GSS, GIE, GMO⟩ := GL'
  obtain ⟨T1, X1, e1, st1⟩ := getF X0 hx hZ hown (host := "") (Or.inl (Wd hw 32 rfl)) Via.refl e0 F_value_a0s (g := mkF m 1 #[vr a0s] [(.ref a0s)]) rfl rfl (dG hby D30 1 rfl)
  obtain ⟨cl2, Ar2, -, S2, N2_, -, -⟩ := id (V_av)
  obtain ⟨cq3, kq3, q3a, q3b, q3c⟩ := isOf hZ e1 E_a0s
  obtain ⟨_, _, ⟨T3, L3, k3, n3⟩, -, X3, ⟨Lc3, hQ3, l3, y3, z3⟩, st3⟩ := X1.virtualBack hx (y := MN_5) (z := MN_5) hown (mvT hZ (Wd hw 184 rfl)) (mvT hZ (Wd hw 185 rfl)) (notFace_of_selects (args := #[]) (mvT hZ (Wd hw 187 rfl))) (mvT hZ (Wd hw 187 rfl)) (mvT hZ (Wd hw 186 rfl)) (by decide) (backOf (W := 1) (rmCod l Z a0 hw [] cS aDE kDE aUS aSS aIE mO a0s h0 n0 O0 GL F_coder_a0s) hZ (Wd hw 188 rfl) (Wd hw 7 rfl) (by decide) (by decide)) q3a q3c (g := mkF m 6 #[vr a0s] [(.ref a0s), (.int nl)]) rfl (by rw [hml]; rfl) (Steps.refl _) (argsL := []) (rest := [(.int nl)]) (lenOf pdv4 rfl) rfl (by show 2 * 0 + _ ≤ _; exact lEq rfl) (dG hby D30 4 rfl) (fun _ _ => ⟨rfl, e1, (by decide : 0 + 0 ≤ _), (by decide : 0 + 0 ≤ _)⟩)
  dsimp only [Pt.U, Pt.locs, Pt.cells, Pt.slots] at X3 l3 y3 z3 st3 hQ3
  subst l3 y3 z3
  obtain ⟨rfl, N3q, e3⟩ := hQ3
  have N3 := Fr.app N0 N3q
  obtain ⟨fs, hr, hrun, hended, hW, hsame⟩ := X3.leave (v := some (.int nl)) (fun h => by rw [Bd.returns] at h; cases h)
  refine ⟨_, _, pre0 _ ?_, hrun, hended, _, _, rfl, ?_, ⟨_, rfl⟩, hW, hsame.mono (by decide) (by decide)⟩
  · show SP p e below s₁ m 0 #[vr a0s] [] _
    refine XS.aloadN X0.here hx rfl (dG hby D30 0 rfl) rfl rfl ?_
    show SP p e below s₁ m 1 #[vr a0s] [(.ref a0s)] _
    refine st1 _ ?_
    show SP p e below T1 m 4 #[vr a0s] [(.ref av)] _
    refine X1.arraylength hx (by rw [e1]; exact Ar2.1) (State.isArrayOf_alike hZ.alike Ar2.2.1) (g := mkF m 4 #[vr a0s] [(.ref av)]) rfl rfl (dG hby D30 2 rfl) _ ?_
    rw [len_of S2 N2_]
    show SP p e below T1 m 5 #[vr a0s] [(.int nl)] _
    refine XS.aloadN X1.here hx rfl (dG hby D30 3 rfl) rfl rfl ?_
    show SP p e below T1 m 6 #[vr a0s] [(.ref a0s), (.int nl)] _
    refine st3.trans ?_
    show SP p e below T3 m 9 #[vr a0s] [(.int 0), (.int nl)] _
    refine XS.ishr X3.here hx rfl (dG hby D30 5 rfl) rfl ?_
    rw [own_shr0 nl]
    show SP p e below T3 m 10 #[vr a0s] [(.int nl)] _
    exact retI X3 hx Bd.returns (dG hby D30 6 rfl) hr
  · show Q_rmLen n0 Z cS aDE kDE aUS aSS aIE mO a0s av kv nl vs h0 _ T3.heap _
    rw [e3]
    exact ⟨rfl, N3, rfl⟩
theorem D46 : dL jdk_29_method_69_code [(0, .iload_n 0, 1), (1, .iload_n 1, 1), (2, .if_icmp .gt 7, 3), (9, .iload_n 1, 1), (10, .ireturn, 1)] = true := by decide +kernel
abbrev MN_7 : MethodName := ⟨"java/lang/Math", "min", "(II)I"⟩
theorem ef_rmMin (m : MethodId) (p0 : Int32) (p1 : Int32) : entryFrame m #[(.int p0), (.int p1)] 2 = mkF m 0 #[vi p0, vi p1] [] := by first | (simp [entryFrame, mkF, argsToLocals, Value.category]; done) | rfl
def Q_rmMin (n0 : Nat) (Z : State) (cS : Int32) (aDE : Addr) (kDE : ClassId) (aUS : Addr) (aSS : Addr) (aIE : Addr) (mO : Addr) (p0 : Int32) (p1 : Int32) (h0 : Heap) (v : Option Value) (h : Heap) (L : List Loc) : Prop := v = some (.int p1) ∧ Fr n0 L ∧ h = h0
theorem rmMin (l : Launch) (Z : State) (a0 : Array Value) (hw : ∀ d ∈ tables_1, d.before a0 Z = true) (ws : List Jvm.Cond) (cS : Int32) (aDE : Addr) (kDE : ClassId) (aUS : Addr) (aSS : Addr) (aIE : Addr) (mO : Addr) (p0 : Int32) (p1 : Int32) (h0 : Heap) (n0 : Nat) (O0 : Old Z n0 h0) (GL : GF Z cS aDE kDE aUS aSS aIE mO) (hm : p1 < p0) :
    MF l MN_7 jdk_29_method_69_code 2 (some .int) ws (Rm 0 0 0 0) #[(.int p0), (.int p1)] Z h0 (Q_rmMin n0 Z cS aDE kDE aUS aSS aIE mO p0 p1 h0) := by
  refine MetFree.of_bodySF (Jvm.Free.JP.mathPlain rfl (by decide +kernel)) hisR ?_
  intro p e s m args below meth c s₁ Bd hml0 hP hK
  obtain ⟨rfl, hZ, hh⟩ := hP
  have hx := Bd.exec
  have hby := Bd.bytes
  have hml : c.maxLocals = 2 := hml0
  have hown : s.vm.findClass "java/lang/Math" = some m.cls := findClass_of_methodNamed Bd.named
  have hnm := (name_of_methodNamed Bd.named Bd.method).1
  have X0 : Stand p l e (Rm 0 0 0 0) s m #[(.int p0), (.int p1)] below meth c s₁ [] 0 0 := Stand.of_body Bd
  have e0 : s₁.heap = h0 := by rw [← hh, Bd.state]; rfl
  have N0 := Fr.nil n0
  have pre0 : ∀ t, SP p e below s₁ m 0 #[vi p0, vi p1] [] t → Steps p.tables e below (s₁.setTop (entryFrame m #[(.int p0), (.int p1)] 2)) t := fun t k => castTop (ef_rmMin m p0 p1) k
  have GL' := GL
  obtain ⟨GCS, GCP, GDE, GVE, GUS, GSS, GIE, GMO⟩ := GL'
  obtain ⟨fs, hr, hrun, hended, hW, hsame⟩ := X0.leave (v := some (.int p1)) (fun h => by rw [Bd.returns] at h; cases h)
  refine ⟨_, _, pre0 _ ?_, hrun, hended, _, _, rfl, ?_, ⟨_, rfl⟩, hW, hsame.mono (by decide) (by decide)⟩
  · show SP p e below s₁ m 0 #[vi p0, vi p1] [] _
    refine XS.iloadN X0.here hx rfl (dG hby D46 0 rfl) rfl ?_
    refine XS.iloadN X0.here hx rfl (dG hby D46 1 rfl) rfl ?_
    refine XS.icmpYes X0.here hx rfl (pc0 := 2) (pc' := 9) rfl (dG hby D46 2 rfl) rfl (tlt hm).2.2.1 (by decide) (by decide) ?_
    refine XS.iloadN X0.here hx rfl (dG hby D46 3 rfl) rfl ?_
    show SP p e below s₁ m 10 #[vi p0, vi p1] [(.int p1)] _
    exact retI X0 hx Bd.returns (dG hby D46 4 rfl) hr
  · show Q_rmMin n0 Z cS aDE kDE aUS aSS aIE mO p0 p1 h0 _ s₁.heap _
    rw [e0]
    exact ⟨rfl, N0, rfl⟩
theorem D27 : dL jdk_68_method_2_code [(0, .aload_n 0, 1), (1, .invokespecial 3, 3), (4, .getstatic 18, 3), (7, .ifCond .eq 18, 3), (10, .aload_n 0, 1), (11, .iload_n 1, 1), (12, .newarray .byte, 2), (14, .putfield 15, 3), (17, .aload_n 0, 1), (18, .iconst 0, 1), (19, .putfield 22, 3), (22, .goto 16, 3), (38, .return_, 1)] = true := by decide +kernel
theorem pnv2 : plainName "java/lang/AbstractStringBuilder" = true := by first | (simp [plainName, overriddenIn]; done) | decide +kernel
abbrev MN_8 : MethodName := ⟨"java/lang/AbstractStringBuilder", "<init>", "(I)V"⟩
theorem ef_rmAsb (m : MethodId) (a0b : Addr) : entryFrame m #[(.ref a0b), (.int 16)] 2 = mkF m 0 #[vr a0b, vi (16 : Int32)] [] := by first | (simp [entryFrame, mkF, argsToLocals, Value.category]; done) | rfl
def Q_rmAsb (n0 : Nat) (Z : State) (cS : Int32) (aDE : Addr) (kDE : ClassId) (aUS : Addr) (aSS : Addr) (aIE : Addr) (mO : Addr) (a0b : Addr) (h0 : Heap) (v : Option Value) (h : Heap) (L : List Loc) : Prop := ∃ y : Addr, ∃ ky : ClassId, v = none ∧ Fr n0 L ∧ Keep h0 h [a0b] ∧ (h0.size ≤ y) ∧ (Exa Z h y "[B") ∧ (Exa Z h a0b "java/lang/StringBuilder") ∧ (Fld Z h a0b "java/lang/AbstractStringBuilder" "value" "[B" (.ref y)) ∧ (Fld Z h a0b "java/lang/AbstractStringBuilder" "coder" "B" (.int 0)) ∧ (Fld Z h a0b "java/lang/AbstractStringBuilder" "count" "I" (.int 0)) ∧ (Arv Z h y ky .byte (16 : Int32) [(.int 0), (.int 0), (.int 0), (.int 0), (.int 0), (.int 0), (.int 0), (.int 0), (.int 0), (.int 0), (.int 0), (.int 0), (.int 0), (.int 0), (.int 0), (.int 0)] (.int 0))
theorem rmAsb (l : Launch) (Z : State) (a0 : Array Value) (hw : ∀ d ∈ tables_1, d.before a0 Z = true) (ws : List Jvm.Cond) (cS : Int32) (aDE : Addr) (kDE : ClassId) (aUS : Addr) (aSS : Addr) (aIE : Addr) (mO : Addr) (a0b : Addr) (h0 : Heap) (n0 : Nat) (O0 : Old Z n0 h0) (GL : GF Z cS aDE kDE aUS aSS aIE mO) (E_a0b : Exa Z h0 a0b "java/lang/StringBuilder") (F_value_a0b : Fld Z h0 a0b "java/lang/AbstractStringBuilder" "value" "[B" .null) (F_coder_a0b : Fld Z h0 a0b "java/lang/AbstractStringBuilder" "coder" "B" (.int 0)) (F_count_a0b : Fld Z h0 a0b "java/lang/AbstractStringBuilder" "count" "I" (.int 0)) (g_a0b : n0 ≤ a0b) :
    MF l MN_8 jdk_68_method_2_code 2 none ws (Rm 1 1 16 12) #[(.ref a0b), (.int 16)] Z h0 (Q_rmAsb n0 Z cS aDE kDE aUS aSS aIE mO a0b h0) := by
  refine MetFree.of_bodySF (plainFor_of_name pnv2) hisR ?_
  intro p e s m args below meth c s₁ Bd hml0 hP hK
  obtain ⟨rfl, hZ, hh⟩ := hP
  have hx := Bd.exec
  have hby := Bd.bytes
  have hml : c.maxLocals = 2 := hml0
  have hown : s.vm.findClass "java/lang/AbstractStringBuilder" = some m.cls := findClass_of_methodNamed Bd.named
  have hnm := (name_of_methodNamed Bd.named Bd.method).1
  have X0 : Stand p l e (Rm 1 1 16 12) s m #[(.ref a0b), (.int 16)] below meth c s₁ [] 0 0 := Stand.of_body Bd
  have e0 : s₁.heap = h0 := by rw [← hh, Bd.state]; rfl
  have N0 := Fr.nil n0
  have pre0 : ∀ t, SP p e below s₁ m 0 #[vr a0b, vi (16 : Int32)] [] t → Steps p.tables e below (s₁.setTop (entryFrame m #[(.ref a0b), (.int 16)] 2)) t := fun t k => castTop (ef_rmAsb m a0b) k
  have GL' := GL
  obtain ⟨GCS, GCP, GDE, GVE, GUS, GSS, GIE, GMO⟩ := GL'
  obtain ⟨T1, X1, e1, st1⟩ := initO X0 hx hZ hown (Wd hw 163 rfl) (Wd hw 16 rfl) (Wd hw 17 rfl) e0 (g := mkF m 1 #[vr a0b, vi (16 : Int32)] [(.ref a0b)]) rfl (by rw [hml]; rfl) rfl (dG hby D27 1 rfl) (by decide) (W := 0) (by show 2 * 0 + _ ≤ _; exact lEq rfl) (by decide)
  obtain ⟨T2, X2, e2, st2⟩ := getS2 X1 hx hZ hown (host := "") (Or.inl (Wd hw 164 rfl)) Via.refl e1 (GCS.ext O0.2) (g := mkF m 4 #[vr a0b, vi (16 : Int32)] []) rfl (dG hby D27 2 rfl)
  obtain ⟨T3, h3, k3, X3, e3, E3, A3, A3', st3⟩ := newPE X2 hx hZ (Wd hw 23 rfl) e2 (g := mkF m 12 #[vr a0b, vi (16 : Int32)] [(.int 16), (.ref a0b)]) rfl (dG hby D27 6 rfl) rfl (by decide) (cap := 16) (by decide) (by decide) (by decide) (by decide) (ad := "[B") rfl
  obtain ⟨b3, g3⟩ : ∃ z, z = h0.size := ⟨_, rfl⟩
  rw [← g3] at A3 A3' st3
  have g_b3 : n0 ≤ b3 := lTr (own_sz O0) (lEq g3.symm)
  have sz_b3 : h0.size ≤ b3 := lTr (Keep.refl h0 [a0b]).1 (lEq g3.symm)
  have K3 : Keep h0 h3 [a0b] := (Keep.refl h0 [a0b]).ext E3
  have O3 := O0.ext E3
  have V_b3 : Arv Z h3 b3 k3 .byte (16 : Int32) [(.int 0), (.int 0), (.int 0), (.int 0), (.int 0), (.int 0), (.int 0), (.int 0), (.int 0), (.int 0), (.int 0), (.int 0), (.int 0), (.int 0), (.int 0), (.int 0)] (.int 0) := (Arv.new A3 (by decide)).pad (pad_rep [] (.int 0) 16)
  obtain ⟨T4, h4, X4, e4, W4, st4⟩ := putF X3 hx hZ hown (host := "") (Or.inl (Wd hw 165 rfl)) Via.refl e3 (F_value_a0b.ext E3) (E_a0b.ext E3) (Or.inl (Wd hw 166 rfl)) (Wd hw 152 rfl) (ty := (.array .byte)) (by decide) rfl rfl (g := mkF m 14 #[vr a0b, vi (16 : Int32)] [(.ref b3), (.ref a0b)]) rfl rfl (dG hby D27 7 rfl)
  have Fw4 := (F_value_a0b.ext E3).same W4
  have K4 : Keep h0 h4 [a0b] := K3.wr W4 (Or.inl (List.mem_of_getElem? (i := 0) rfl))
  have O4 := O3.wr W4 g_a0b
  have N4 := Fr.snoc X4 N0 g_a0b
  obtain ⟨T5, h5, X5, e5, W5, st5⟩ := putFN X4 hx hZ hown (Wd hw 167 rfl) Via.refl e4 ((F_coder_a0b.ext E3).other W4 (Or.inr (slot_ne (a0 := a0) (Or.inl (Wd hw 168 rfl)) (Or.inl (Wd hw 166 rfl)) (by decide) (t := .byte) (t' := (.array .byte)) (by decide) (by decide)))) ((E_a0b.ext E3).wr W4) (Or.inl (Wd hw 168 rfl)) (Wd hw 152 rfl) (ty := .byte) (v' := (.int 0)) (by decide) rfl (by decide) (g := mkF m 19 #[vr a0b, vi (16 : Int32)] [(.int 0), (.ref a0b)]) rfl rfl (dG hby D27 10 rfl)
  have Fw5 := ((F_coder_a0b.ext E3).other W4 (Or.inr (slot_ne (a0 := a0) (Or.inl (Wd hw 168 rfl)) (Or.inl (Wd hw 166 rfl)) (by decide) (t := .byte) (t' := (.array .byte)) (by decide) (by decide)))).same W5
  have K5 : Keep h0 h5 [a0b] := K4.wr W5 (Or.inl (List.mem_of_getElem? (i := 0) rfl))
  have O5 := O4.wr W5 g_a0b
  have N5 := Fr.snoc X5 N4 g_a0b
  obtain ⟨fs, hr, hrun, hended, hW, hsame⟩ := X5.leave (v := none) (fun _ => rfl)
  refine ⟨_, _, pre0 _ ?_, hrun, hended, _, _, rfl, ?_, ⟨_, rfl⟩, hW, hsame.mono (by decide) (by decide)⟩
  · show SP p e below s₁ m 0 #[vr a0b, vi (16 : Int32)] [] _
    refine XS.aloadN X0.here hx rfl (dG hby D27 0 rfl) rfl rfl ?_
    show SP p e below s₁ m 1 #[vr a0b, vi (16 : Int32)] [(.ref a0b)] _
    refine st1 _ ?_
    show SP p e below T1 m 4 #[vr a0b, vi (16 : Int32)] [] _
    refine st2 _ ?_
    show SP p e below T2 m 7 #[vr a0b, vi (16 : Int32)] [(.int cS)] _
    refine XS.ifNo X2.here hx rfl (dG hby D27 3 rfl) rfl ((if0 _ _).trans (feq GCP).1) ?_
    refine XS.aloadN X2.here hx rfl (dG hby D27 4 rfl) rfl rfl ?_
    refine XS.iloadN X2.here hx rfl (dG hby D27 5 rfl) rfl ?_
    show SP p e below T2 m 12 #[vr a0b, vi (16 : Int32)] [(.int 16), (.ref a0b)] _
    refine st3 _ ?_
    show SP p e below T3 m 14 #[vr a0b, vi (16 : Int32)] [(.ref b3), (.ref a0b)] _
    refine st4 _ ?_
    show SP p e below T4 m 17 #[vr a0b, vi (16 : Int32)] [] _
    refine XS.aloadN X4.here hx rfl (dG hby D27 8 rfl) rfl rfl ?_
    refine XS.iconst X4.here hx rfl (dG hby D27 9 rfl) ?_
    show SP p e below T4 m 19 #[vr a0b, vi (16 : Int32)] [(.int 0), (.ref a0b)] _
    refine st5 _ ?_
    show SP p e below T5 m 22 #[vr a0b, vi (16 : Int32)] [] _
    refine XS.goto X5.here hx rfl (pc0 := 22) (pc' := 38) rfl (dG hby D27 11 rfl) (by decide) (by decide) ?_
    show SP p e below T5 m 38 #[vr a0b, vi (16 : Int32)] [] _
    exact X5.returnOut hx Bd.returns (dG hby D27 12 rfl) hr
  · show Q_rmAsb n0 Z cS aDE kDE aUS aSS aIE mO a0b h0 _ T5.heap _
    rw [e5]
    exact ⟨b3, k3, rfl, N5, K5, sz_b3, ((A3'.wr W4).wr W5), (((E_a0b.ext E3).wr W4).wr W5), (Fw4.other W5 (Or.inr (slot_ne (a0 := a0) (Or.inl (Wd hw 166 rfl)) (Or.inl (Wd hw 168 rfl)) (by decide) (t := (.array .byte)) (t' := .byte) (by decide) (by decide)))), Fw5, (((F_count_a0b.ext E3).other W4 (Or.inr (slot_ne (a0 := a0) (Or.inl (Wd hw 190 rfl)) (Or.inl (Wd hw 166 rfl)) (by decide) (t := .int) (t' := (.array .byte)) (by decide) (by decide)))).other W5 (Or.inr (slot_ne (a0 := a0) (Or.inl (Wd hw 190 rfl)) (Or.inl (Wd hw 168 rfl)) (by decide) (t := .int) (t' := .byte) (by decide) (by decide)))), ((V_b3.other W4 (Ne.symm (nLt (lLt E_a0b.lt (lEq g3.symm))))).other W5 (Ne.symm (nLt (lLt E_a0b.lt (lEq g3.symm)))))⟩
theorem D26 : dL jdk_67_method_1_code [(0, .aload_n 0, 1), (1, .bipush 16, 2), (3, .invokespecial 1, 3), (6, .return_, 1)] = true := by decide +kernel
theorem pdv5 : parseMethodDescriptor "(I)V" = some ⟨[.int], none⟩ := by decide +kernel
theorem pnv3 : plainName "java/lang/StringBuilder" = true := by first | (simp [plainName, overriddenIn]; done) | decide +kernel
abbrev MN_9 : MethodName := ⟨"java/lang/StringBuilder", "<init>", "()V"⟩
theorem ef_rmSb (m : MethodId) (a0b : Addr) : entryFrame m #[(.ref a0b)] 1 = mkF m 0 #[vr a0b] [] := by first | (simp [entryFrame, mkF, argsToLocals, Value.category]; done) | rfl
def Q_rmSb (n0 : Nat) (Z : State) (cS : Int32) (aDE : Addr) (kDE : ClassId) (aUS : Addr) (aSS : Addr) (aIE : Addr) (mO : Addr) (a0b : Addr) (h0 : Heap) (v : Option Value) (h : Heap) (L : List Loc) : Prop := ∃ y : Addr, ∃ ky : ClassId, v = none ∧ Fr n0 L ∧ Keep h0 h [a0b] ∧ (h0.size ≤ y) ∧ (Exa Z h y "[B") ∧ (Exa Z h a0b "java/lang/StringBuilder") ∧ (Fld Z h a0b "java/lang/AbstractStringBuilder" "value" "[B" (.ref y)) ∧ (Fld Z h a0b "java/lang/AbstractStringBuilder" "coder" "B" (.int 0)) ∧ (Fld Z h a0b "java/lang/AbstractStringBuilder" "count" "I" (.int 0)) ∧ (Arv Z h y ky .byte (16 : Int32) [(.int 0), (.int 0), (.int 0), (.int 0), (.int 0), (.int 0), (.int 0), (.int 0), (.int 0), (.int 0), (.int 0), (.int 0), (.int 0), (.int 0), (.int 0), (.int 0)] (.int 0))
theorem rmSb (l : Launch) (Z : State) (a0 : Array Value) (hw : ∀ d ∈ tables_1, d.before a0 Z = true) (ws : List Jvm.Cond) (cS : Int32) (aDE : Addr) (kDE : ClassId) (aUS : Addr) (aSS : Addr) (aIE : Addr) (mO : Addr) (a0b : Addr) (h0 : Heap) (n0 : Nat) (O0 : Old Z n0 h0) (GL : GF Z cS aDE kDE aUS aSS aIE mO) (E_a0b : Exa Z h0 a0b "java/lang/StringBuilder") (F_value_a0b : Fld Z h0 a0b "java/lang/AbstractStringBuilder" "value" "[B" .null) (F_coder_a0b : Fld Z h0 a0b "java/lang/AbstractStringBuilder" "coder" "B" (.int 0)) (F_count_a0b : Fld Z h0 a0b "java/lang/AbstractStringBuilder" "count" "I" (.int 0)) (g_a0b : n0 ≤ a0b) :
    MF l MN_9 jdk_67_method_1_code 1 none ws (Rm 2 1 16 25) #[(.ref a0b)] Z h0 (Q_rmSb n0 Z cS aDE kDE aUS aSS aIE mO a0b h0) := by
  refine MetFree.of_bodySF (plainFor_of_name pnv3) hisR ?_
  intro p e s m args below meth c s₁ Bd hml0 hP hK
  obtain ⟨rfl, hZ, hh⟩ := hP
  have hx := Bd.exec
  have hby := Bd.bytes
  have hml : c.maxLocals = 1 := hml0
  have hown : s.vm.findClass "java/lang/StringBuilder" = some m.cls := findClass_of_methodNamed Bd.named
  have hnm := (name_of_methodNamed Bd.named Bd.method).1
  have X0 : Stand p l e (Rm 2 1 16 25) s m #[(.ref a0b)] below meth c s₁ [] 0 0 := Stand.of_body Bd
  have e0 : s₁.heap = h0 := by rw [← hh, Bd.state]; rfl
  have N0 := Fr.nil n0
  have pre0 : ∀ t, SP p e below s₁ m 0 #[vr a0b] [] t → Steps p.tables e below (s₁.setTop (entryFrame m #[(.ref a0b)] 1)) t := fun t k => castTop (ef_rmSb m a0b) k
  have GL' := GL
  obtain ⟨GCS, GCP, GDE, GVE, GUS, GSS, GIE, GMO⟩ := GL'
  obtain ⟨_, _, ⟨T1, L1, k1, n1⟩, -, X1, ⟨Lc1, hQ1, l1, y1, z1⟩, st1⟩ := X0.specialBack hx (y := MN_8) rfl hown (mvT hZ (Wd hw 157 rfl)) (mvT hZ (Wd hw 158 rfl)) (mvT hZ (Wd hw 162 rfl)) (by decide) (backOf (W := 0) (rmAsb l Z a0 hw [] cS aDE kDE aUS aSS aIE mO a0b h0 n0 O0 GL E_a0b F_value_a0b F_coder_a0b F_count_a0b g_a0b) hZ (Wd hw 162 rfl) (Wd hw 161 rfl) (by decide) (by decide)) (g := mkF m 3 #[vr a0b] [(.int 16), (.ref a0b)]) rfl (by rw [hml]; rfl) (Steps.refl _) (a := a0b) (argsL := [(.int 16)]) (rest := []) (lenOf pdv5 rfl) rfl (by show 2 * 0 + _ ≤ _; exact lEq rfl) (dG hby D26 2 rfl) (fun _ _ => ⟨rfl, e0, (by decide : 0 + 1 ≤ _), (by decide : 0 + 16 ≤ _)⟩)
  dsimp only [Pt.U, Pt.locs, Pt.cells, Pt.slots] at X1 l1 y1 z1 st1 hQ1
  subst l1 y1 z1
  obtain ⟨y_1, ky_1, rfl, N1q, Kc1, P1_0, P1_1, P1_2, P1_3, P1_4, P1_5, P1_6⟩ := hQ1
  have K1 : Keep h0 T1.heap [a0b] := (Keep.refl h0 [a0b]).trans Kc1 (allS (Or.inl (List.mem_of_getElem? (i := 0) rfl)) all0)
  have O1 := O0.keep Kc1 (allS g_a0b all0)
  have g_y_1 : n0 ≤ y_1 := lTr (own_sz O0) P1_0
  have sz_y_1 : h0.size ≤ y_1 := lTr (Keep.refl h0 [a0b]).1 P1_0
  have N1 := Fr.app N0 N1q
  obtain ⟨fs, hr, hrun, hended, hW, hsame⟩ := X1.leave (v := none) (fun _ => rfl)
  refine ⟨_, _, pre0 _ ?_, hrun, hended, _, _, rfl, ?_, ⟨_, rfl⟩, hW, hsame.mono (by decide) (by decide)⟩
  · show SP p e below s₁ m 0 #[vr a0b] [] _
    refine XS.aloadN X0.here hx rfl (dG hby D26 0 rfl) rfl rfl ?_
    refine XS.bipush X0.here hx rfl (dG hby D26 1 rfl) ?_
    show SP p e below s₁ m 3 #[vr a0b] [(.int 16), (.ref a0b)] _
    refine st1.trans ?_
    show SP p e below T1 m 6 #[vr a0b] [] _
    exact X1.returnOut hx Bd.returns (dG hby D26 3 rfl) hr
  · show Q_rmSb n0 Z cS aDE kDE aUS aSS aIE mO a0b h0 _ T1.heap _
    exact ⟨y_1, ky_1, rfl, N1, K1, sz_y_1, P1_1, P1_2, P1_3, P1_4, P1_5, P1_6⟩
theorem D32 : dL jdk_68_method_9_code [(0, .aload_n 0, 1), (1, .getfield 15, 3), (4, .arraylength, 1), (5, .aload_n 0, 1), (6, .getfield 22, 3), (9, .ishr, 1), (10, .istore_n 2, 1), (11, .iload_n 1, 1), (12, .iload_n 2, 1), (13, .isub, 1), (14, .ifCond .le 24, 3), (38, .return_, 1)] = true := by decide +kernel
abbrev MN_10 : MethodName := ⟨"java/lang/AbstractStringBuilder", "ensureCapacityInternal", "(I)V"⟩
theorem ef_rmEns (m : MethodId) (a0b : Addr) (p1 : Int32) : entryFrame m #[(.ref a0b), (.int p1)] 3 = mkF m 0 #[vr a0b, vi p1, .unset] [] := by first | (simp [entryFrame, mkF, argsToLocals, Value.category]; done) | rfl
def Q_rmEns (n0 : Nat) (Z : State) (cS : Int32) (aDE : Addr) (kDE : ClassId) (aUS : Addr) (aSS : Addr) (aIE : Addr) (mO : Addr) (a0b : Addr) (p1 : Int32) (y : Addr) (ky : ClassId) (bs : List Value) (kc : Int32) (h0 : Heap) (v : Option Value) (h : Heap) (L : List Loc) : Prop := v = none ∧ Fr n0 L ∧ h = h0
theorem rmEns (l : Launch) (Z : State) (a0 : Array Value) (hw : ∀ d ∈ tables_1, d.before a0 Z = true) (ws : List Jvm.Cond) (cS : Int32) (aDE : Addr) (kDE : ClassId) (aUS : Addr) (aSS : Addr) (aIE : Addr) (mO : Addr) (a0b : Addr) (p1 : Int32) (y : Addr) (ky : ClassId) (bs : List Value) (kc : Int32) (h0 : Heap) (n0 : Nat) (O0 : Old Z n0 h0) (GL : GF Z cS aDE kDE aUS aSS aIE mO) (E_a0b : Exa Z h0 a0b "java/lang/StringBuilder") (F_value_a0b : Fld Z h0 a0b "java/lang/AbstractStringBuilder" "value" "[B" (.ref y)) (F_coder_a0b : Fld Z h0 a0b "java/lang/AbstractStringBuilder" "coder" "B" (.int 0)) (F_count_a0b : Fld Z h0 a0b "java/lang/AbstractStringBuilder" "count" "I" (.int kc)) (V_y : Arv Z h0 y ky .byte (16 : Int32) bs (.int 0)) (he : ¬ ((0 : Int32) < (p1 - (16 : Int32)))) :
    MF l MN_10 jdk_68_method_9_code 3 none ws (Rm 0 0 0 0) #[(.ref a0b), (.int p1)] Z h0 (Q_rmEns n0 Z cS aDE kDE aUS aSS aIE mO a0b p1 y ky bs kc h0) := by
  refine MetFree.of_bodySF (plainFor_of_name pnv2) hisR ?_
  intro p e s m args below meth c s₁ Bd hml0 hP hK
  obtain ⟨rfl, hZ, hh⟩ := hP
  have hx := Bd.exec
  have hby := Bd.bytes
  have hml : c.maxLocals = 3 := hml0
  have hown : s.vm.findClass "java/lang/AbstractStringBuilder" = some m.cls := findClass_of_methodNamed Bd.named
  have hnm := (name_of_methodNamed Bd.named Bd.method).1
  have X0 : Stand p l e (Rm 0 0 0 0) s m #[(.ref a0b), (.int p1)] below meth c s₁ [] 0 0 := Stand.of_body Bd
  have e0 : s₁.heap = h0 := by rw [← hh, Bd.state]; rfl
  have N0 := Fr.nil n0
  have pre0 : ∀ t, SP p e below s₁ m 0 #[vr a0b, vi p1, .unset] [] t → Steps p.tables e below (s₁.setTop (entryFrame m #[(.ref a0b), (.int p1)] 3)) t := fun t k => castTop (ef_rmEns m a0b p1) k
  have GL' := GL
  obtain ⟨GCS, GCP, GDE, GVE, GUS, GSS, GIE, GMO⟩ := GL'
  obtain ⟨T1, X1, e1, st1⟩ := getF X0 hx hZ hown (host := "") (Or.inl (Wd hw 165 rfl)) Via.refl e0 F_value_a0b (g := mkF m 1 #[vr a0b, vi p1, .unset] [(.ref a0b)]) rfl rfl (dG hby D32 1 rfl)
  obtain ⟨cl2, Ar2, -, S2, N2_, -, -⟩ := id (V_y)
  obtain ⟨T3, X3, e3, st3⟩ := getF X1 hx hZ hown (host := "") (Or.inl (Wd hw 167 rfl)) Via.refl e1 F_coder_a0b (g := mkF m 6 #[vr a0b, vi p1, .unset] [(.ref a0b), (.int 16)]) rfl rfl (dG hby D32 4 rfl)
  obtain ⟨fs, hr, hrun, hended, hW, hsame⟩ := X3.leave (v := none) (fun _ => rfl)
  refine ⟨_, _, pre0 _ ?_, hrun, hended, _, _, rfl, ?_, ⟨_, rfl⟩, hW, hsame.mono (by decide) (by decide)⟩
  · show SP p e below s₁ m 0 #[vr a0b, vi p1, .unset] [] _
    refine XS.aloadN X0.here hx rfl (dG hby D32 0 rfl) rfl rfl ?_
    show SP p e below s₁ m 1 #[vr a0b, vi p1, .unset] [(.ref a0b)] _
    refine st1 _ ?_
    show SP p e below T1 m 4 #[vr a0b, vi p1, .unset] [(.ref y)] _
    refine X1.arraylength hx (by rw [e1]; exact Ar2.1) (State.isArrayOf_alike hZ.alike Ar2.2.1) (g := mkF m 4 #[vr a0b, vi p1, .unset] [(.ref y)]) rfl rfl (dG hby D32 2 rfl) _ ?_
    rw [len_of S2 N2_]
    show SP p e below T1 m 5 #[vr a0b, vi p1, .unset] [(.int 16)] _
    refine XS.aloadN X1.here hx rfl (dG hby D32 3 rfl) rfl rfl ?_
    show SP p e below T1 m 6 #[vr a0b, vi p1, .unset] [(.ref a0b), (.int 16)] _
    refine st3 _ ?_
    show SP p e below T3 m 9 #[vr a0b, vi p1, .unset] [(.int 0), (.int 16)] _
    refine XS.ishr X3.here hx rfl (dG hby D32 5 rfl) rfl ?_
    refine XS.istoreN X3.here hx rfl (dG hby D32 6 rfl) rfl (l' := #[vr a0b, vi p1, vi (16 : Int32)]) rfl ?_
    refine XS.iloadN X3.here hx rfl (dG hby D32 7 rfl) rfl ?_
    refine XS.iloadN X3.here hx rfl (dG hby D32 8 rfl) rfl ?_
    refine XS.isub X3.here hx rfl (dG hby D32 9 rfl) rfl ?_
    refine XS.ifYes X3.here hx rfl (pc0 := 14) (pc' := 38) rfl (dG hby D32 10 rfl) rfl ((if0 _ _).trans (flt he).2.2.2) (by decide) (by decide) ?_
    show SP p e below T3 m 38 #[vr a0b, vi p1, vi (16 : Int32)] [] _
    exact X3.returnOut hx Bd.returns (dG hby D32 11 rfl) hr
  · show Q_rmEns n0 Z cS aDE kDE aUS aSS aIE mO a0b p1 y ky bs kc h0 _ T3.heap _
    rw [e3]
    exact ⟨rfl, N0, rfl⟩
theorem D34 : dL jdk_68_method_71_code [(0, .getstatic 18, 3), (3, .ifCond .eq 18, 3), (6, .aload_n 0, 1), (7, .getfield 22, 3), (10, .aload_n 1, 1), (11, .invokevirtual 40, 3), (14, .if_icmp .eq 7, 3), (21, .return_, 1)] = true := by decide +kernel
abbrev MN_11 : MethodName := ⟨"java/lang/AbstractStringBuilder", "inflateIfNeededFor", "(Ljava/lang/String;)V"⟩
theorem ef_rmInf (m : MethodId) (a0b : Addr) (a1s : Addr) : entryFrame m #[(.ref a0b), (.ref a1s)] 2 = mkF m 0 #[vr a0b, vr a1s] [] := by first | (simp [entryFrame, mkF, argsToLocals, Value.category]; done) | rfl
def Q_rmInf (n0 : Nat) (Z : State) (cS : Int32) (aDE : Addr) (kDE : ClassId) (aUS : Addr) (aSS : Addr) (aIE : Addr) (mO : Addr) (a0b : Addr) (a1s : Addr) (h0 : Heap) (v : Option Value) (h : Heap) (L : List Loc) : Prop := v = none ∧ Fr n0 L ∧ h = h0
theorem rmInf (l : Launch) (Z : State) (a0 : Array Value) (hw : ∀ d ∈ tables_1, d.before a0 Z = true) (ws : List Jvm.Cond) (cS : Int32) (aDE : Addr) (kDE : ClassId) (aUS : Addr) (aSS : Addr) (aIE : Addr) (mO : Addr) (a0b : Addr) (a1s : Addr) (h0 : Heap) (n0 : Nat) (O0 : Old Z n0 h0) (GL : GF Z cS aDE kDE aUS aSS aIE mO) (F_coder_a0b : Fld Z h0 a0b "java/lang/AbstractStringBuilder" "coder" "B" (.int 0)) (E_a1s : Exa Z h0 a1s "java/lang/String") (F_coder_a1s : Fld Z h0 a1s "java/lang/String" "coder" "B" (.int 0)) :
    MF l MN_11 jdk_68_method_71_code 2 none ws (Rm 1 0 0 13) #[(.ref a0b), (.ref a1s)] Z h0 (Q_rmInf n0 Z cS aDE kDE aUS aSS aIE mO a0b a1s h0) := by
  refine MetFree.of_bodySF (plainFor_of_name pnv2) hisR ?_
  intro p e s m args below meth c s₁ Bd hml0 hP hK
  obtain ⟨rfl, hZ, hh⟩ := hP
  have hx := Bd.exec
  have hby := Bd.bytes
  have hml : c.maxLocals = 2 := hml0
  have hown : s.vm.findClass "java/lang/AbstractStringBuilder" = some m.cls := findClass_of_methodNamed Bd.named
  have hnm := (name_of_methodNamed Bd.named Bd.method).1
  have X0 : Stand p l e (Rm 1 0 0 13) s m #[(.ref a0b), (.ref a1s)] below meth c s₁ [] 0 0 := Stand.of_body Bd
  have e0 : s₁.heap = h0 := by rw [← hh, Bd.state]; rfl
  have N0 := Fr.nil n0
  have pre0 : ∀ t, SP p e below s₁ m 0 #[vr a0b, vr a1s] [] t → Steps p.tables e below (s₁.setTop (entryFrame m #[(.ref a0b), (.ref a1s)] 2)) t := fun t k => castTop (ef_rmInf m a0b a1s) k
  have GL' := GL
  obtain ⟨GCS, GCP, GDE, GVE, GUS, GSS, GIE, GMO⟩ := GL'
  obtain ⟨T1, X1, e1, st1⟩ := getS2 X0 hx hZ hown (host := "") (Or.inl (Wd hw 164 rfl)) Via.refl e0 (GCS.ext O0.2) (g := mkF m 0 #[vr a0b, vr a1s] []) rfl (dG hby D34 0 rfl)
  obtain ⟨T2, X2, e2, st2⟩ := getF X1 hx hZ hown (host := "") (Or.inl (Wd hw 167 rfl)) Via.refl e1 F_coder_a0b (g := mkF m 7 #[vr a0b, vr a1s] [(.ref a0b)]) rfl rfl (dG hby D34 3 rfl)
  obtain ⟨cq3, kq3, q3a, q3b, q3c⟩ := isOf hZ e2 E_a1s
  obtain ⟨_, _, ⟨T3, L3, k3, n3⟩, -, X3, ⟨Lc3, hQ3, l3, y3, z3⟩, st3⟩ := X2.virtualBack hx (y := MN_5) (z := MN_5) hown (mvT hZ (Wd hw 206 rfl)) (mvT hZ (Wd hw 185 rfl)) (notFace_of_selects (args := #[]) (mvT hZ (Wd hw 187 rfl))) (mvT hZ (Wd hw 187 rfl)) (mvT hZ (Wd hw 186 rfl)) (by decide) (backOf (W := 1) (rmCod l Z a0 hw [] cS aDE kDE aUS aSS aIE mO a1s h0 n0 O0 GL F_coder_a1s) hZ (Wd hw 188 rfl) (Wd hw 7 rfl) (by decide) (by decide)) q3a q3c (g := mkF m 11 #[vr a0b, vr a1s] [(.ref a1s), (.int 0)]) rfl (by rw [hml]; rfl) (Steps.refl _) (argsL := []) (rest := [(.int 0)]) (lenOf pdv4 rfl) rfl (by show 2 * 0 + _ ≤ _; exact lEq rfl) (dG hby D34 5 rfl) (fun _ _ => ⟨rfl, e2, (by decide : 0 + 0 ≤ _), (by decide : 0 + 0 ≤ _)⟩)
  dsimp only [Pt.U, Pt.locs, Pt.cells, Pt.slots] at X3 l3 y3 z3 st3 hQ3
  subst l3 y3 z3
  obtain ⟨rfl, N3q, e3⟩ := hQ3
  have N3 := Fr.app N0 N3q
  obtain ⟨fs, hr, hrun, hended, hW, hsame⟩ := X3.leave (v := none) (fun _ => rfl)
  refine ⟨_, _, pre0 _ ?_, hrun, hended, _, _, rfl, ?_, ⟨_, rfl⟩, hW, hsame.mono (by decide) (by decide)⟩
  · show SP p e below s₁ m 0 #[vr a0b, vr a1s] [] _
    refine st1 _ ?_
    show SP p e below T1 m 3 #[vr a0b, vr a1s] [(.int cS)] _
    refine XS.ifNo X1.here hx rfl (dG hby D34 1 rfl) rfl ((if0 _ _).trans (feq GCP).1) ?_
    refine XS.aloadN X1.here hx rfl (dG hby D34 2 rfl) rfl rfl ?_
    show SP p e below T1 m 7 #[vr a0b, vr a1s] [(.ref a0b)] _
    refine st2 _ ?_
    show SP p e below T2 m 10 #[vr a0b, vr a1s] [(.int 0)] _
    refine XS.aloadN X2.here hx rfl (dG hby D34 4 rfl) rfl rfl ?_
    show SP p e below T2 m 11 #[vr a0b, vr a1s] [(.ref a1s), (.int 0)] _
    refine st3.trans ?_
    show SP p e below T3 m 14 #[vr a0b, vr a1s] [(.int 0), (.int 0)] _
    refine XS.icmpYes X3.here hx rfl (pc0 := 14) (pc' := 21) rfl (dG hby D34 6 rfl) rfl (teq (by decide : (0 : Int32) = (0 : Int32))).1 (by decide) (by decide) ?_
    show SP p e below T3 m 21 #[vr a0b, vr a1s] [] _
    exact X3.returnOut hx Bd.returns (dG hby D34 7 rfl) hr
  · show Q_rmInf n0 Z cS aDE kDE aUS aSS aIE mO a0b a1s h0 _ T3.heap _
    rw [e3]
    exact ⟨rfl, N3, rfl⟩
theorem D35 : dL jdk_42_method_147_code [(0, .aload_n 0, 1), (1, .invokevirtual 335, 3), (4, .iload_n 3, 1), (5, .if_icmp .ne 23, 3), (8, .aload_n 0, 1), (9, .getfield 9, 3), (12, .iconst 0, 1), (13, .aload_n 1, 1), (14, .iload_n 2, 1), (15, .iload_n 3, 1), (16, .ishl, 1), (17, .aload_n 0, 1), (18, .getfield 9, 3), (21, .arraylength, 1), (22, .invokestatic 212, 3), (25, .goto 18, 3), (43, .return_, 1)] = true := by decide +kernel
abbrev MN_12 : MethodName := ⟨"java/lang/String", "getBytes", "([BIB)V"⟩
theorem ef_rmGb (m : MethodId) (a0s : Addr) (a1b : Addr) (p2 : Int32) : entryFrame m #[(.ref a0s), (.ref a1b), (.int p2), (.int 0)] 4 = mkF m 0 #[vr a0s, vr a1b, vi p2, vi (0 : Int32)] [] := by first | (simp [entryFrame, mkF, argsToLocals, Value.category]; done) | rfl
def Q_rmGb (n0 : Nat) (Z : State) (cS : Int32) (aDE : Addr) (kDE : ClassId) (aUS : Addr) (aSS : Addr) (aIE : Addr) (mO : Addr) (a0s : Addr) (a1b : Addr) (p2 : Int32) (ky : ClassId) (bs : List Value) (av : Addr) (kv : ClassId) (nl : Int32) (vs : List Value) (h0 : Heap) (v : Option Value) (h : Heap) (L : List Loc) : Prop := ∃ bs2 : List Value, v = none ∧ Fr n0 L ∧ Keep h0 h [a1b] ∧ (Arv Z h a1b ky .byte (16 : Int32) bs2 (.int 0)) ∧ (bs2.length = 16)
theorem rmGb (l : Launch) (Z : State) (a0 : Array Value) (hw : ∀ d ∈ tables_1, d.before a0 Z = true) (ws : List Jvm.Cond) (cS : Int32) (aDE : Addr) (kDE : ClassId) (aUS : Addr) (aSS : Addr) (aIE : Addr) (mO : Addr) (a0s : Addr) (a1b : Addr) (p2 : Int32) (ky : ClassId) (bs : List Value) (av : Addr) (kv : ClassId) (nl : Int32) (vs : List Value) (h0 : Heap) (n0 : Nat) (O0 : Old Z n0 h0) (GL : GF Z cS aDE kDE aUS aSS aIE mO) (E_a0s : Exa Z h0 a0s "java/lang/String") (F_value_a0s : Fld Z h0 a0s "java/lang/String" "value" "[B" (.ref av)) (F_coder_a0s : Fld Z h0 a0s "java/lang/String" "coder" "B" (.int 0)) (V_av : Arv Z h0 av kv .byte nl vs (.int 0)) (V_a1b : Arv Z h0 a1b ky .byte (16 : Int32) bs (.int 0)) (h16 : bs.length = 16) (g_a1b : n0 ≤ a1b) (hp0 : ¬ (p2 < (0 : Int32))) (hn0 : ¬ (nl < (0 : Int32))) (hsum : p2.toNatClampNeg + nl.toNatClampNeg ≤ 16) :
    MF l MN_12 jdk_42_method_147_code 4 none ws (Rm 1 0 0 18) #[(.ref a0s), (.ref a1b), (.int p2), (.int 0)] Z h0 (Q_rmGb n0 Z cS aDE kDE aUS aSS aIE mO a0s a1b p2 ky bs av kv nl vs h0) := by
  refine MetFree.of_bodySF (plainFor_of_name pnv1) hisR ?_
  intro p e s m args below meth c s₁ Bd hml0 hP hK
  obtain ⟨rfl, hZ, hh⟩ := hP
  have hx := Bd.exec
  have hby := Bd.bytes
  have hml : c.maxLocals = 4 := hml0
  have hown : s.vm.findClass "java/lang/String" = some m.cls := findClass_of_methodNamed Bd.named
  have hnm := (name_of_methodNamed Bd.named Bd.method).1
  have X0 : Stand p l e (Rm 1 0 0 18) s m #[(.ref a0s), (.ref a1b), (.int p2), (.int 0)] below meth c s₁ [] 0 0 := Stand.of_body Bd
  have e0 : s₁.heap = h0 := by rw [← hh, Bd.state]; rfl
  have N0 := Fr.nil n0
  have pre0 : ∀ t, SP p e below s₁ m 0 #[vr a0s, vr a1b, vi p2, vi (0 : Int32)] [] t → Steps p.tables e below (s₁.setTop (entryFrame m #[(.ref a0s), (.ref a1b), (.int p2), (.int 0)] 4)) t := fun t k => castTop (ef_rmGb m a0s a1b p2) k
  have GL' := GL
  obtain ⟨GCS, GCP, GDE, GVE, GUS, GSS, GIE, GMO⟩ := GL'
  obtain ⟨cq1, kq1, q1a, q1b, q1c⟩ := isOf hZ e0 E_a0s
  obtain ⟨_, _, ⟨T1, L1, k1, n1⟩, -, X1, ⟨Lc1, hQ1, l1, y1, z1⟩, st1⟩ := X0.virtualBack hx (y := MN_5) (z := MN_5) hown (mvT hZ (Wd hw 184 rfl)) (mvT hZ (Wd hw 185 rfl)) (notFace_of_selects (args := #[]) (mvT hZ (Wd hw 187 rfl))) (mvT hZ (Wd hw 187 rfl)) (mvT hZ (Wd hw 186 rfl)) (by decide) (backOf (W := 0) (rmCod l Z a0 hw [] cS aDE kDE aUS aSS aIE mO a0s h0 n0 O0 GL F_coder_a0s) hZ (Wd hw 188 rfl) (Wd hw 7 rfl) (by decide) (by decide)) q1a q1c (g := mkF m 1 #[vr a0s, vr a1b, vi p2, vi (0 : Int32)] [(.ref a0s)]) rfl (by rw [hml]; rfl) (Steps.refl _) (argsL := []) (rest := []) (lenOf pdv4 rfl) rfl (by show 2 * 0 + _ ≤ _; exact lEq rfl) (dG hby D35 1 rfl) (fun _ _ => ⟨rfl, e0, (by decide : 0 + 0 ≤ _), (by decide : 0 + 0 ≤ _)⟩)
  dsimp only [Pt.U, Pt.locs, Pt.cells, Pt.slots] at X1 l1 y1 z1 st1 hQ1
  subst l1 y1 z1
  obtain ⟨rfl, N1q, e1⟩ := hQ1
  have N1 := Fr.app N0 N1q
  obtain ⟨T2, X2, e2, st2⟩ := getF X1 hx hZ hown (host := "") (Or.inl (Wd hw 32 rfl)) Via.refl e1 F_value_a0s (g := mkF m 9 #[vr a0s, vr a1b, vi p2, vi (0 : Int32)] [(.ref a0s)]) rfl rfl (dG hby D35 5 rfl)
  obtain ⟨T3, X3, e3, st3⟩ := getF X2 hx hZ hown (host := "") (Or.inl (Wd hw 32 rfl)) Via.refl e2 F_value_a0s (g := mkF m 18 #[vr a0s, vr a1b, vi p2, vi (0 : Int32)] [(.ref a0s), (.int p2), (.ref a1b), (.int 0), (.ref av)]) rfl rfl (dG hby D35 12 rfl)
  obtain ⟨cl4, Ar4, -, S4, N4_, -, -⟩ := id (V_av)
  obtain ⟨T5, h5, L5, X5, e5, N5, Kc5, V5, st5⟩ := cpA X3 hx hZ hown (Wd hw 212 rfl) (Wd hw 215 rfl) (Wd hw 213 rfl) (Wd hw 214 rfl) e3 V_av V_a1b (us := ((List.range (nl).toNatClampNeg).map fun i => (vs).getD (((0 : Int32)).toNatClampNeg + i) (.int 0))) (Or.inl ⟨rfl, rfl⟩) (by decide) hp0 hn0 (lEq (Nat.zero_add _)) hsum rfl (by rw [h16]; exact hsum) N1 g_a1b (g := mkF m 22 #[vr a0s, vr a1b, vi p2, vi (0 : Int32)] [(.int nl), (.int p2), (.ref a1b), (.int 0), (.ref av)]) rfl (by rw [hml]; rfl) rfl (dG hby D35 14 rfl) (by decide) (W := 0) (by show 2 * 0 + _ ≤ _; exact lEq rfl) (by decide)
  have V5' : Arv Z h5 a1b ky .byte (16 : Int32) (List.take (p2).toNatClampNeg bs ++ ((List.range (nl).toNatClampNeg).map fun i => (vs).getD (((0 : Int32)).toNatClampNeg + i) (.int 0)) ++ List.drop ((p2).toNatClampNeg + (nl).toNatClampNeg) bs) (.int 0) := V5
  have K5 : Keep h0 h5 [a1b] := (Keep.refl h0 [a1b]).trans Kc5 (allS (Or.inl (List.mem_of_getElem? (i := 0) rfl)) all0)
  have O5 := O0.keep Kc5 (allS g_a1b all0)
  have hl5 : (List.take (p2).toNatClampNeg bs ++ ((List.range (nl).toNatClampNeg).map fun i => (vs).getD (((0 : Int32)).toNatClampNeg + i) (.int 0)) ++ List.drop ((p2).toNatClampNeg + (nl).toNatClampNeg) bs).length = 16 := own_len16 h16 (by simp) hsum
  obtain ⟨fs, hr, hrun, hended, hW, hsame⟩ := X5.leave (v := none) (fun _ => rfl)
  refine ⟨_, _, pre0 _ ?_, hrun, hended, _, _, rfl, ?_, ⟨_, rfl⟩, hW, hsame.mono (by decide) (by decide)⟩
  · show SP p e below s₁ m 0 #[vr a0s, vr a1b, vi p2, vi (0 : Int32)] [] _
    refine XS.aloadN X0.here hx rfl (dG hby D35 0 rfl) rfl rfl ?_
    show SP p e below s₁ m 1 #[vr a0s, vr a1b, vi p2, vi (0 : Int32)] [(.ref a0s)] _
    refine st1.trans ?_
    show SP p e below T1 m 4 #[vr a0s, vr a1b, vi p2, vi (0 : Int32)] [(.int 0)] _
    refine XS.iloadN X1.here hx rfl (dG hby D35 2 rfl) rfl ?_
    refine XS.icmpNo X1.here hx rfl (dG hby D35 3 rfl) rfl (teq (by decide : (0 : Int32) = (0 : Int32))).2 ?_
    refine XS.aloadN X1.here hx rfl (dG hby D35 4 rfl) rfl rfl ?_
    show SP p e below T1 m 9 #[vr a0s, vr a1b, vi p2, vi (0 : Int32)] [(.ref a0s)] _
    refine st2 _ ?_
    show SP p e below T2 m 12 #[vr a0s, vr a1b, vi p2, vi (0 : Int32)] [(.ref av)] _
    refine XS.iconst X2.here hx rfl (dG hby D35 6 rfl) ?_
    refine XS.aloadN X2.here hx rfl (dG hby D35 7 rfl) rfl rfl ?_
    refine XS.iloadN X2.here hx rfl (dG hby D35 8 rfl) rfl ?_
    refine XS.iloadN X2.here hx rfl (dG hby D35 9 rfl) rfl ?_
    show SP p e below T2 m 16 #[vr a0s, vr a1b, vi p2, vi (0 : Int32)] [(.int 0), (.int p2), (.ref a1b), (.int 0), (.ref av)] _
    refine XS.ishl X2.here hx rfl (dG hby D35 10 rfl) rfl ?_
    rw [own_shl0 p2]
    show SP p e below T2 m 17 #[vr a0s, vr a1b, vi p2, vi (0 : Int32)] [(.int p2), (.ref a1b), (.int 0), (.ref av)] _
    refine XS.aloadN X2.here hx rfl (dG hby D35 11 rfl) rfl rfl ?_
    show SP p e below T2 m 18 #[vr a0s, vr a1b, vi p2, vi (0 : Int32)] [(.ref a0s), (.int p2), (.ref a1b), (.int 0), (.ref av)] _
    refine st3 _ ?_
    show SP p e below T3 m 21 #[vr a0s, vr a1b, vi p2, vi (0 : Int32)] [(.ref av), (.int p2), (.ref a1b), (.int 0), (.ref av)] _
    refine X3.arraylength hx (by rw [e3]; exact Ar4.1) (State.isArrayOf_alike hZ.alike Ar4.2.1) (g := mkF m 21 #[vr a0s, vr a1b, vi p2, vi (0 : Int32)] [(.ref av), (.int p2), (.ref a1b), (.int 0), (.ref av)]) rfl rfl (dG hby D35 13 rfl) _ ?_
    rw [len_of S4 N4_]
    show SP p e below T3 m 22 #[vr a0s, vr a1b, vi p2, vi (0 : Int32)] [(.int nl), (.int p2), (.ref a1b), (.int 0), (.ref av)] _
    refine st5 _ ?_
    show SP p e below T5 m 25 #[vr a0s, vr a1b, vi p2, vi (0 : Int32)] [] _
    refine XS.goto X5.here hx rfl (pc0 := 25) (pc' := 43) rfl (dG hby D35 15 rfl) (by decide) (by decide) ?_
    show SP p e below T5 m 43 #[vr a0s, vr a1b, vi p2, vi (0 : Int32)] [] _
    exact X5.returnOut hx Bd.returns (dG hby D35 16 rfl) hr
  · show Q_rmGb n0 Z cS aDE kDE aUS aSS aIE mO a0s a1b p2 ky bs av kv nl vs h0 _ T5.heap _
    rw [e5]
    exact ⟨(List.take (p2).toNatClampNeg bs ++ ((List.range (nl).toNatClampNeg).map fun i => (vs).getD (((0 : Int32)).toNatClampNeg + i) (.int 0)) ++ List.drop ((p2).toNatClampNeg + (nl).toNatClampNeg) bs), rfl, N5, K5, V5', hl5⟩
theorem D33 : dL jdk_68_method_73_code [(0, .aload_n 0, 1), (1, .aload_n 2, 1), (2, .invokevirtual 397, 3), (5, .aload_n 2, 1), (6, .aload_n 0, 1), (7, .getfield 15, 3), (10, .iload_n 1, 1), (11, .aload_n 0, 1), (12, .getfield 22, 3), (15, .invokevirtual 399, 3), (18, .return_, 1)] = true := by decide +kernel
theorem pdv6 : parseMethodDescriptor "(Ljava/lang/String;)V" = some ⟨[(.object "java/lang/String")], none⟩ := by decide +kernel
theorem pdv7 : parseMethodDescriptor "([BIB)V" = some ⟨[(.array .byte), .int, .byte], none⟩ := by decide +kernel
abbrev MN_13 : MethodName := ⟨"java/lang/AbstractStringBuilder", "putStringAt", "(ILjava/lang/String;)V"⟩
theorem ef_rmPut (m : MethodId) (a0b : Addr) (p1 : Int32) (a2s : Addr) : entryFrame m #[(.ref a0b), (.int p1), (.ref a2s)] 3 = mkF m 0 #[vr a0b, vi p1, vr a2s] [] := by first | (simp [entryFrame, mkF, argsToLocals, Value.category]; done) | rfl
def Q_rmPut (n0 : Nat) (Z : State) (cS : Int32) (aDE : Addr) (kDE : ClassId) (aUS : Addr) (aSS : Addr) (aIE : Addr) (mO : Addr) (a0b : Addr) (p1 : Int32) (a2s : Addr) (y : Addr) (ky : ClassId) (bs : List Value) (kc : Int32) (av : Addr) (kv : ClassId) (nl : Int32) (vs : List Value) (h0 : Heap) (v : Option Value) (h : Heap) (L : List Loc) : Prop := ∃ bs2 : List Value, v = none ∧ Fr n0 L ∧ Keep h0 h [y] ∧ (Arv Z h y ky .byte (16 : Int32) bs2 (.int 0)) ∧ (bs2.length = 16)
theorem rmPut (l : Launch) (Z : State) (a0 : Array Value) (hw : ∀ d ∈ tables_1, d.before a0 Z = true) (ws : List Jvm.Cond) (cS : Int32) (aDE : Addr) (kDE : ClassId) (aUS : Addr) (aSS : Addr) (aIE : Addr) (mO : Addr) (a0b : Addr) (p1 : Int32) (a2s : Addr) (y : Addr) (ky : ClassId) (bs : List Value) (kc : Int32) (av : Addr) (kv : ClassId) (nl : Int32) (vs : List Value) (h0 : Heap) (n0 : Nat) (O0 : Old Z n0 h0) (GL : GF Z cS aDE kDE aUS aSS aIE mO) (E_a0b : Exa Z h0 a0b "java/lang/StringBuilder") (F_value_a0b : Fld Z h0 a0b "java/lang/AbstractStringBuilder" "value" "[B" (.ref y)) (F_coder_a0b : Fld Z h0 a0b "java/lang/AbstractStringBuilder" "coder" "B" (.int 0)) (F_count_a0b : Fld Z h0 a0b "java/lang/AbstractStringBuilder" "count" "I" (.int kc)) (V_y : Arv Z h0 y ky .byte (16 : Int32) bs (.int 0)) (h16 : bs.length = 16) (g_y : n0 ≤ y) (E_a2s : Exa Z h0 a2s "java/lang/String") (F_value_a2s : Fld Z h0 a2s "java/lang/String" "value" "[B" (.ref av)) (F_coder_a2s : Fld Z h0 a2s "java/lang/String" "coder" "B" (.int 0)) (V_av : Arv Z h0 av kv .byte nl vs (.int 0)) (hp0 : ¬ (p1 < (0 : Int32))) (hn0 : ¬ (nl < (0 : Int32))) (hsum : p1.toNatClampNeg + nl.toNatClampNeg ≤ 16) :
    MF l MN_13 jdk_68_method_73_code 3 none ws (Rm 2 0 0 33) #[(.ref a0b), (.int p1), (.ref a2s)] Z h0 (Q_rmPut n0 Z cS aDE kDE aUS aSS aIE mO a0b p1 a2s y ky bs kc av kv nl vs h0) := by
  refine MetFree.of_bodySF (plainFor_of_name pnv2) hisR ?_
  intro p e s m args below meth c s₁ Bd hml0 hP hK
  obtain ⟨rfl, hZ, hh⟩ := hP
  have hx := Bd.exec
  have hby := Bd.bytes
  have hml : c.maxLocals = 3 := hml0
  have hown : s.vm.findClass "java/lang/AbstractStringBuilder" = some m.cls := findClass_of_methodNamed Bd.named
  have hnm := (name_of_methodNamed Bd.named Bd.method).1
  have X0 : Stand p l e (Rm 2 0 0 33) s m #[(.ref a0b), (.int p1), (.ref a2s)] below meth c s₁ [] 0 0 := Stand.of_body Bd
  have e0 : s₁.heap = h0 := by rw [← hh, Bd.state]; rfl
  have N0 := Fr.nil n0
  have pre0 : ∀ t, SP p e below s₁ m 0 #[vr a0b, vi p1, vr a2s] [] t → Steps p.tables e below (s₁.setTop (entryFrame m #[(.ref a0b), (.int p1), (.ref a2s)] 3)) t := fun t k => castTop (ef_rmPut m a0b p1 a2s) k
  have GL' := GL
  obtain ⟨GCS, GCP, GDE, GVE, GUS, GSS, GIE, GMO⟩ := GL'
  obtain ⟨cq1, kq1, q1a, q1b, q1c⟩ := isOf hZ e0 E_a0b
  obtain ⟨_, _, ⟨T1, L1, k1, n1⟩, -, X1, ⟨Lc1, hQ1, l1, y1, z1⟩, st1⟩ := X0.virtualBack hx (y := MN_11) (z := MN_11) hown (mvT hZ (Wd hw 201 rfl)) (mvT hZ (own_decl (Wd hw 202 rfl) (Wd hw 205 rfl))) (own_nf (args := #[]) (mvT hZ (Wd hw 194 rfl)) rfl) (mvT hZ (Wd hw 204 rfl)) (mvT hZ (Wd hw 202 rfl)) (by decide) (backOf (W := 0) (rmInf l Z a0 hw [] cS aDE kDE aUS aSS aIE mO a0b a2s h0 n0 O0 GL F_coder_a0b E_a2s F_coder_a2s) hZ (Wd hw 205 rfl) (Wd hw 161 rfl) (by decide) (by decide)) q1a q1c (g := mkF m 2 #[vr a0b, vi p1, vr a2s] [(.ref a2s), (.ref a0b)]) rfl (by rw [hml]; rfl) (Steps.refl _) (argsL := [(.ref a2s)]) (rest := []) (lenOf pdv6 rfl) rfl (by show 2 * 0 + _ ≤ _; exact lEq rfl) (dG hby D33 2 rfl) (fun _ _ => ⟨rfl, e0, (by decide : 0 + 0 ≤ _), (by decide : 0 + 0 ≤ _)⟩)
  dsimp only [Pt.U, Pt.locs, Pt.cells, Pt.slots] at X1 l1 y1 z1 st1 hQ1
  subst l1 y1 z1
  obtain ⟨rfl, N1q, e1⟩ := hQ1
  have N1 := Fr.app N0 N1q
  obtain ⟨T2, X2, e2, st2⟩ := getF X1 hx hZ hown (host := "") (Or.inl (Wd hw 165 rfl)) Via.refl e1 F_value_a0b (g := mkF m 7 #[vr a0b, vi p1, vr a2s] [(.ref a0b), (.ref a2s)]) rfl rfl (dG hby D33 5 rfl)
  obtain ⟨T3, X3, e3, st3⟩ := getF X2 hx hZ hown (host := "") (Or.inl (Wd hw 167 rfl)) Via.refl e2 F_coder_a0b (g := mkF m 12 #[vr a0b, vi p1, vr a2s] [(.ref a0b), (.int p1), (.ref y), (.ref a2s)]) rfl rfl (dG hby D33 8 rfl)
  obtain ⟨cq4, kq4, q4a, q4b, q4c⟩ := isOf hZ e3 E_a2s
  obtain ⟨_, _, ⟨T4, L4, k4, n4⟩, -, X4, ⟨Lc4, hQ4, l4, y4, z4⟩, st4⟩ := X3.virtualBack hx (y := MN_12) (z := MN_12) hown (mvT hZ (Wd hw 207 rfl)) (mvT hZ (Wd hw 208 rfl)) (notFace_of_selects (args := #[]) (mvT hZ (Wd hw 210 rfl))) (mvT hZ (Wd hw 210 rfl)) (mvT hZ (Wd hw 209 rfl)) (by decide) (backOf (W := 0) (rmGb l Z a0 hw [] cS aDE kDE aUS aSS aIE mO a2s y p1 ky bs av kv nl vs h0 n0 O0 GL E_a2s F_value_a2s F_coder_a2s V_av V_y h16 g_y hp0 hn0 hsum) hZ (Wd hw 211 rfl) (Wd hw 7 rfl) (by decide) (by decide)) q4a q4c (g := mkF m 15 #[vr a0b, vi p1, vr a2s] [(.int 0), (.int p1), (.ref y), (.ref a2s)]) rfl (by rw [hml]; rfl) (Steps.refl _) (argsL := [(.ref y), (.int p1), (.int 0)]) (rest := []) (lenOf pdv7 rfl) rfl (by show 2 * 0 + _ ≤ _; exact lEq rfl) (dG hby D33 9 rfl) (fun _ _ => ⟨rfl, e3, (by decide : 0 + 0 ≤ _), (by decide : 0 + 0 ≤ _)⟩)
  dsimp only [Pt.U, Pt.locs, Pt.cells, Pt.slots] at X4 l4 y4 z4 st4 hQ4
  subst l4 y4 z4
  obtain ⟨bs2_4, rfl, N4q, Kc4, P4_0, P4_1⟩ := hQ4
  have K4 : Keep h0 T4.heap [y] := (Keep.refl h0 [y]).trans Kc4 (allS (Or.inl (List.mem_of_getElem? (i := 0) rfl)) all0)
  have O4 := O0.keep Kc4 (allS g_y all0)
  have N4 := Fr.app N1 N4q
  obtain ⟨fs, hr, hrun, hended, hW, hsame⟩ := X4.leave (v := none) (fun _ => rfl)
  refine ⟨_, _, pre0 _ ?_, hrun, hended, _, _, rfl, ?_, ⟨_, rfl⟩, hW, hsame.mono (by decide) (by decide)⟩
  · show SP p e below s₁ m 0 #[vr a0b, vi p1, vr a2s] [] _
    refine XS.aloadN X0.here hx rfl (dG hby D33 0 rfl) rfl rfl ?_
    refine XS.aloadN X0.here hx rfl (dG hby D33 1 rfl) rfl rfl ?_
    show SP p e below s₁ m 2 #[vr a0b, vi p1, vr a2s] [(.ref a2s), (.ref a0b)] _
    refine st1.trans ?_
    show SP p e below T1 m 5 #[vr a0b, vi p1, vr a2s] [] _
    refine XS.aloadN X1.here hx rfl (dG hby D33 3 rfl) rfl rfl ?_
    refine XS.aloadN X1.here hx rfl (dG hby D33 4 rfl) rfl rfl ?_
    show SP p e below T1 m 7 #[vr a0b, vi p1, vr a2s] [(.ref a0b), (.ref a2s)] _
    refine st2 _ ?_
    show SP p e below T2 m 10 #[vr a0b, vi p1, vr a2s] [(.ref y), (.ref a2s)] _
    refine XS.iloadN X2.here hx rfl (dG hby D33 6 rfl) rfl ?_
    refine XS.aloadN X2.here hx rfl (dG hby D33 7 rfl) rfl rfl ?_
    show SP p e below T2 m 12 #[vr a0b, vi p1, vr a2s] [(.ref a0b), (.int p1), (.ref y), (.ref a2s)] _
    refine st3 _ ?_
    show SP p e below T3 m 15 #[vr a0b, vi p1, vr a2s] [(.int 0), (.int p1), (.ref y), (.ref a2s)] _
    refine st4.trans ?_
    show SP p e below T4 m 18 #[vr a0b, vi p1, vr a2s] [] _
    exact X4.returnOut hx Bd.returns (dG hby D33 10 rfl) hr
  · show Q_rmPut n0 Z cS aDE kDE aUS aSS aIE mO a0b p1 a2s y ky bs kc av kv nl vs h0 _ T4.heap _
    exact ⟨bs2_4, rfl, N4, K4, P4_0, P4_1⟩
theorem D29 : dL jdk_68_method_22_code [(0, .aload_n 1, 1), (1, .ifnonnull 8, 3), (9, .aload_n 1, 1), (10, .invokevirtual 32, 3), (13, .istore_n 2, 1), (14, .aload_n 0, 1), (15, .aload_n 0, 1), (16, .getfield 79, 3), (19, .iload_n 2, 1), (20, .iadd, 1), (21, .invokevirtual 100, 3), (24, .aload_n 0, 1), (25, .aload_n 0, 1), (26, .getfield 79, 3), (29, .aload_n 1, 1), (30, .invokevirtual 208, 3), (33, .aload_n 0, 1), (34, .dup, 1), (35, .getfield 79, 3), (38, .iload_n 2, 1), (39, .iadd, 1), (40, .putfield 79, 3), (43, .aload_n 0, 1), (44, .areturn, 1)] = true := by decide +kernel
theorem pdv8 : parseMethodDescriptor "()I" = some ⟨[], some .int⟩ := by decide +kernel
theorem pdv9 : parseMethodDescriptor "(ILjava/lang/String;)V" = some ⟨[.int, (.object "java/lang/String")], none⟩ := by decide +kernel
abbrev MN_14 : MethodName := ⟨"java/lang/AbstractStringBuilder", "append", "(Ljava/lang/String;)Ljava/lang/AbstractStringBuilder;"⟩
theorem ef_rmAp (m : MethodId) (a0b : Addr) (a1s : Addr) : entryFrame m #[(.ref a0b), (.ref a1s)] 3 = mkF m 0 #[vr a0b, vr a1s, .unset] [] := by first | (simp [entryFrame, mkF, argsToLocals, Value.category]; done) | rfl
def Q_rmAp (n0 : Nat) (Z : State) (cS : Int32) (aDE : Addr) (kDE : ClassId) (aUS : Addr) (aSS : Addr) (aIE : Addr) (mO : Addr) (a0b : Addr) (a1s : Addr) (y : Addr) (ky : ClassId) (bs : List Value) (kc : Int32) (av : Addr) (kv : ClassId) (nl : Int32) (vs : List Value) (h0 : Heap) (v : Option Value) (h : Heap) (L : List Loc) : Prop := ∃ bs2 : List Value, v = some (.ref a0b) ∧ Fr n0 L ∧ Keep h0 h [a0b, y] ∧ (Exa Z h a0b "java/lang/StringBuilder") ∧ (Fld Z h a0b "java/lang/AbstractStringBuilder" "value" "[B" (.ref y)) ∧ (Fld Z h a0b "java/lang/AbstractStringBuilder" "coder" "B" (.int 0)) ∧ (Fld Z h a0b "java/lang/AbstractStringBuilder" "count" "I" (.int (kc + nl))) ∧ (Arv Z h y ky .byte (16 : Int32) bs2 (.int 0)) ∧ (bs2.length = 16)
theorem rmAp (l : Launch) (Z : State) (a0 : Array Value) (hw : ∀ d ∈ tables_1, d.before a0 Z = true) (ws : List Jvm.Cond) (cS : Int32) (aDE : Addr) (kDE : ClassId) (aUS : Addr) (aSS : Addr) (aIE : Addr) (mO : Addr) (a0b : Addr) (a1s : Addr) (y : Addr) (ky : ClassId) (bs : List Value) (kc : Int32) (av : Addr) (kv : ClassId) (nl : Int32) (vs : List Value) (h0 : Heap) (n0 : Nat) (O0 : Old Z n0 h0) (GL : GF Z cS aDE kDE aUS aSS aIE mO) (E_a0b : Exa Z h0 a0b "java/lang/StringBuilder") (F_value_a0b : Fld Z h0 a0b "java/lang/AbstractStringBuilder" "value" "[B" (.ref y)) (F_coder_a0b : Fld Z h0 a0b "java/lang/AbstractStringBuilder" "coder" "B" (.int 0)) (F_count_a0b : Fld Z h0 a0b "java/lang/AbstractStringBuilder" "count" "I" (.int kc)) (V_y : Arv Z h0 y ky .byte (16 : Int32) bs (.int 0)) (h16 : bs.length = 16) (g_a0b : n0 ≤ a0b) (g_y : n0 ≤ y) (E_a1s : Exa Z h0 a1s "java/lang/String") (F_value_a1s : Fld Z h0 a1s "java/lang/String" "value" "[B" (.ref av)) (F_coder_a1s : Fld Z h0 a1s "java/lang/String" "coder" "B" (.int 0)) (V_av : Arv Z h0 av kv .byte nl vs (.int 0)) (hk0 : ¬ (kc < (0 : Int32))) (hk1 : ¬ ((14 : Int32) < kc)) (hn0 : ¬ (nl < (0 : Int32))) (hn1 : ¬ ((2 : Int32) < nl)) :
    MF l MN_14 jdk_68_method_22_code 3 (some (.object "java/lang/AbstractStringBuilder")) ws (Rm 3 0 0 47) #[(.ref a0b), (.ref a1s)] Z h0 (Q_rmAp n0 Z cS aDE kDE aUS aSS aIE mO a0b a1s y ky bs kc av kv nl vs h0) := by
  refine MetFree.of_bodySF (plainFor_of_name pnv2) hisR ?_
  intro p e s m args below meth c s₁ Bd hml0 hP hK
  obtain ⟨rfl, hZ, hh⟩ := hP
  have hx := Bd.exec
  have hby := Bd.bytes
  have hml : c.maxLocals = 3 := hml0
  have hown : s.vm.findClass "java/lang/AbstractStringBuilder" = some m.cls := findClass_of_methodNamed Bd.named
  have hnm := (name_of_methodNamed Bd.named Bd.method).1
  have X0 : Stand p l e (Rm 3 0 0 47) s m #[(.ref a0b), (.ref a1s)] below meth c s₁ [] 0 0 := Stand.of_body Bd
  have e0 : s₁.heap = h0 := by rw [← hh, Bd.state]; rfl
  have N0 := Fr.nil n0
  have pre0 : ∀ t, SP p e below s₁ m 0 #[vr a0b, vr a1s, .unset] [] t → Steps p.tables e below (s₁.setTop (entryFrame m #[(.ref a0b), (.ref a1s)] 3)) t := fun t k => castTop (ef_rmAp m a0b a1s) k
  have GL' := GL
  obtain ⟨GCS, GCP, GDE, GVE, GUS, GSS, GIE, GMO⟩ := GL'
  obtain ⟨cq1, kq1, q1a, q1b, q1c⟩ := isOf hZ e0 E_a1s
  obtain ⟨_, _, ⟨T1, L1, k1, n1⟩, -, X1, ⟨Lc1, hQ1, l1, y1, z1⟩, st1⟩ := X0.virtualBack hx (y := MN_6) (z := MN_6) hown (mvT hZ (Wd hw 179 rfl)) (mvT hZ (Wd hw 180 rfl)) (notFace_of_selects (args := #[]) (mvT hZ (Wd hw 182 rfl))) (mvT hZ (Wd hw 182 rfl)) (mvT hZ (Wd hw 181 rfl)) (by decide) (backOf (W := 0) (rmLen l Z a0 hw [] cS aDE kDE aUS aSS aIE mO a1s av kv nl vs h0 n0 O0 GL E_a1s F_value_a1s F_coder_a1s V_av) hZ (Wd hw 183 rfl) (Wd hw 7 rfl) (by decide) (by decide)) q1a q1c (g := mkF m 10 #[vr a0b, vr a1s, .unset] [(.ref a1s)]) rfl (by rw [hml]; rfl) (Steps.refl _) (argsL := []) (rest := []) (lenOf pdv8 rfl) rfl (by show 2 * 0 + _ ≤ _; exact lEq rfl) (dG hby D29 3 rfl) (fun _ _ => ⟨rfl, e0, (by decide : 0 + 0 ≤ _), (by decide : 0 + 0 ≤ _)⟩)
  dsimp only [Pt.U, Pt.locs, Pt.cells, Pt.slots] at X1 l1 y1 z1 st1 hQ1
  subst l1 y1 z1
  obtain ⟨rfl, N1q, e1⟩ := hQ1
  have N1 := Fr.app N0 N1q
  have hc := own_cap hk0 hk1 hn0 hn1
  obtain ⟨T2, X2, e2, st2⟩ := getF X1 hx hZ hown (host := "") (Or.inl (Wd hw 189 rfl)) Via.refl e1 F_count_a0b (g := mkF m 16 #[vr a0b, vr a1s, vi nl] [(.ref a0b), (.ref a0b)]) rfl rfl (dG hby D29 7 rfl)
  obtain ⟨cq3, kq3, q3a, q3b, q3c⟩ := isOf hZ e2 E_a0b
  obtain ⟨_, _, ⟨T3, L3, k3, n3⟩, -, X3, ⟨Lc3, hQ3, l3, y3, z3⟩, st3⟩ := X2.virtualBack hx (y := MN_10) (z := MN_10) hown (mvT hZ (Wd hw 191 rfl)) (mvT hZ (own_decl (Wd hw 192 rfl) (Wd hw 195 rfl))) (own_nf (args := #[]) (mvT hZ (Wd hw 194 rfl)) rfl) (mvT hZ (Wd hw 194 rfl)) (mvT hZ (Wd hw 192 rfl)) (by decide) (backOf (W := 0) (rmEns l Z a0 hw [] cS aDE kDE aUS aSS aIE mO a0b ((kc + nl)) y ky bs kc h0 n0 O0 GL E_a0b F_value_a0b F_coder_a0b F_count_a0b V_y hc.1) hZ (Wd hw 195 rfl) (Wd hw 161 rfl) (by decide) (by decide)) q3a q3c (g := mkF m 21 #[vr a0b, vr a1s, vi nl] [(.int (kc + nl)), (.ref a0b)]) rfl (by rw [hml]; rfl) (Steps.refl _) (argsL := [(.int (kc + nl))]) (rest := []) (lenOf pdv5 rfl) rfl (by show 2 * 0 + _ ≤ _; exact lEq rfl) (dG hby D29 10 rfl) (fun _ _ => ⟨rfl, e2, (by decide : 0 + 0 ≤ _), (by decide : 0 + 0 ≤ _)⟩)
  dsimp only [Pt.U, Pt.locs, Pt.cells, Pt.slots] at X3 l3 y3 z3 st3 hQ3
  subst l3 y3 z3
  obtain ⟨rfl, N3q, e3⟩ := hQ3
  have N3 := Fr.app N1 N3q
  obtain ⟨T4, X4, e4, st4⟩ := getF X3 hx hZ hown (host := "") (Or.inl (Wd hw 189 rfl)) Via.refl e3 F_count_a0b (g := mkF m 26 #[vr a0b, vr a1s, vi nl] [(.ref a0b), (.ref a0b)]) rfl rfl (dG hby D29 13 rfl)
  obtain ⟨cq5, kq5, q5a, q5b, q5c⟩ := isOf hZ e4 E_a0b
  obtain ⟨_, _, ⟨T5, L5, k5, n5⟩, -, X5, ⟨Lc5, hQ5, l5, y5, z5⟩, st5⟩ := X4.virtualBack hx (y := MN_13) (z := MN_13) hown (mvT hZ (Wd hw 196 rfl)) (mvT hZ (own_decl (Wd hw 197 rfl) (Wd hw 200 rfl))) (own_nf (args := #[]) (mvT hZ (Wd hw 194 rfl)) rfl) (mvT hZ (Wd hw 199 rfl)) (mvT hZ (Wd hw 197 rfl)) (by decide) (backOf (W := 0) (rmPut l Z a0 hw [] cS aDE kDE aUS aSS aIE mO a0b kc a1s y ky bs kc av kv nl vs h0 n0 O0 GL E_a0b F_value_a0b F_coder_a0b F_count_a0b V_y h16 g_y E_a1s F_value_a1s F_coder_a1s V_av hk0 hn0 hc.2) hZ (Wd hw 200 rfl) (Wd hw 161 rfl) (by decide) (by decide)) q5a q5c (g := mkF m 30 #[vr a0b, vr a1s, vi nl] [(.ref a1s), (.int kc), (.ref a0b)]) rfl (by rw [hml]; rfl) (Steps.refl _) (argsL := [(.int kc), (.ref a1s)]) (rest := []) (lenOf pdv9 rfl) rfl (by show 2 * 0 + _ ≤ _; exact lEq rfl) (dG hby D29 15 rfl) (fun _ _ => ⟨rfl, e4, (by decide : 0 + 0 ≤ _), (by decide : 0 + 0 ≤ _)⟩)
  dsimp only [Pt.U, Pt.locs, Pt.cells, Pt.slots] at X5 l5 y5 z5 st5 hQ5
  subst l5 y5 z5
  obtain ⟨bs2_5, rfl, N5q, Kc5, P5_0, P5_1⟩ := hQ5
  have K5 : Keep h0 T5.heap [a0b, y] := (Keep.refl h0 [a0b, y]).trans Kc5 (allS (Or.inl (List.mem_of_getElem? (i := 1) rfl)) all0)
  have O5 := O0.keep Kc5 (allS g_y all0)
  have N5 := Fr.app N3 N5q
  obtain ⟨T6, X6, e6, st6⟩ := getF X5 hx hZ hown (host := "") (Or.inl (Wd hw 189 rfl)) Via.refl rfl (F_count_a0b.keep Kc5 (ninS (Exa.neArv (a0 := a0) E_a0b V_y (Wd hw 152 rfl)) nin0)) (g := mkF m 35 #[vr a0b, vr a1s, vi nl] [(.ref a0b), (.ref a0b)]) rfl rfl (dG hby D29 18 rfl)
  obtain ⟨T7, h7, X7, e7, W7, st7⟩ := putF X6 hx hZ hown (host := "") (Or.inl (Wd hw 189 rfl)) Via.refl e6 (F_count_a0b.keep Kc5 (ninS (Exa.neArv (a0 := a0) E_a0b V_y (Wd hw 152 rfl)) nin0)) (E_a0b.keep Kc5) (Or.inl (Wd hw 190 rfl)) (Wd hw 152 rfl) (ty := .int) (by decide) rfl rfl (g := mkF m 40 #[vr a0b, vr a1s, vi nl] [(.int (kc + nl)), (.ref a0b)]) rfl rfl (dG hby D29 21 rfl)
  have Fw7 := (F_count_a0b.keep Kc5 (ninS (Exa.neArv (a0 := a0) E_a0b V_y (Wd hw 152 rfl)) nin0)).same W7
  have K7 : Keep h0 h7 [a0b, y] := K5.wr W7 (Or.inl (List.mem_of_getElem? (i := 0) rfl))
  have O7 := O5.wr W7 g_a0b
  have N7 := Fr.snoc X7 N5 g_a0b
  obtain ⟨fs, hr, hrun, hended, hW, hsame⟩ := X7.leave (v := some (.ref a0b)) (fun h => by rw [Bd.returns] at h; cases h)
  refine ⟨_, _, pre0 _ ?_, hrun, hended, _, _, rfl, ?_, ⟨_, rfl⟩, hW, hsame.mono (by decide) (by decide)⟩
  · show SP p e below s₁ m 0 #[vr a0b, vr a1s, .unset] [] _
    refine XS.aloadN X0.here hx rfl (dG hby D29 0 rfl) rfl rfl ?_
    refine XS.ifnonnullYes X0.here hx rfl (pc0 := 1) (pc' := 9) rfl (dG hby D29 1 rfl) rfl (by decide) (by decide) ?_
    refine XS.aloadN X0.here hx rfl (dG hby D29 2 rfl) rfl rfl ?_
    show SP p e below s₁ m 10 #[vr a0b, vr a1s, .unset] [(.ref a1s)] _
    refine st1.trans ?_
    show SP p e below T1 m 13 #[vr a0b, vr a1s, .unset] [(.int nl)] _
    refine XS.istoreN X1.here hx rfl (dG hby D29 4 rfl) rfl (l' := #[vr a0b, vr a1s, vi nl]) rfl ?_
    refine XS.aloadN X1.here hx rfl (dG hby D29 5 rfl) rfl rfl ?_
    refine XS.aloadN X1.here hx rfl (dG hby D29 6 rfl) rfl rfl ?_
    show SP p e below T1 m 16 #[vr a0b, vr a1s, vi nl] [(.ref a0b), (.ref a0b)] _
    refine st2 _ ?_
    show SP p e below T2 m 19 #[vr a0b, vr a1s, vi nl] [(.int kc), (.ref a0b)] _
    refine XS.iloadN X2.here hx rfl (dG hby D29 8 rfl) rfl ?_
    refine XS.iadd X2.here hx rfl (dG hby D29 9 rfl) rfl ?_
    show SP p e below T2 m 21 #[vr a0b, vr a1s, vi nl] [(.int (kc + nl)), (.ref a0b)] _
    refine st3.trans ?_
    show SP p e below T3 m 24 #[vr a0b, vr a1s, vi nl] [] _
    refine XS.aloadN X3.here hx rfl (dG hby D29 11 rfl) rfl rfl ?_
    refine XS.aloadN X3.here hx rfl (dG hby D29 12 rfl) rfl rfl ?_
    show SP p e below T3 m 26 #[vr a0b, vr a1s, vi nl] [(.ref a0b), (.ref a0b)] _
    refine st4 _ ?_
    show SP p e below T4 m 29 #[vr a0b, vr a1s, vi nl] [(.int kc), (.ref a0b)] _
    refine XS.aloadN X4.here hx rfl (dG hby D29 14 rfl) rfl rfl ?_
    show SP p e below T4 m 30 #[vr a0b, vr a1s, vi nl] [(.ref a1s), (.int kc), (.ref a0b)] _
    refine st5.trans ?_
    show SP p e below T5 m 33 #[vr a0b, vr a1s, vi nl] [] _
    refine XS.aloadN X5.here hx rfl (dG hby D29 16 rfl) rfl rfl ?_
    refine XS.dup X5.here hx rfl (dG hby D29 17 rfl) rfl rfl ?_
    show SP p e below T5 m 35 #[vr a0b, vr a1s, vi nl] [(.ref a0b), (.ref a0b)] _
    refine st6 _ ?_
    show SP p e below T6 m 38 #[vr a0b, vr a1s, vi nl] [(.int kc), (.ref a0b)] _
    refine XS.iloadN X6.here hx rfl (dG hby D29 19 rfl) rfl ?_
    refine XS.iadd X6.here hx rfl (dG hby D29 20 rfl) rfl ?_
    show SP p e below T6 m 40 #[vr a0b, vr a1s, vi nl] [(.int (kc + nl)), (.ref a0b)] _
    refine st7 _ ?_
    show SP p e below T7 m 43 #[vr a0b, vr a1s, vi nl] [] _
    refine XS.aloadN X7.here hx rfl (dG hby D29 22 rfl) rfl rfl ?_
    show SP p e below T7 m 44 #[vr a0b, vr a1s, vi nl] [(.ref a0b)] _
    exact retA X7 hx Bd.returns rfl (dG hby D29 23 rfl) hr
  · show Q_rmAp n0 Z cS aDE kDE aUS aSS aIE mO a0b a1s y ky bs kc av kv nl vs h0 _ T7.heap _
    rw [e7]
    exact ⟨bs2_5, rfl, N7, K7, ((E_a0b.keep Kc5).wr W7), ((F_value_a0b.keep Kc5 (ninS (Exa.neArv (a0 := a0) E_a0b V_y (Wd hw 152 rfl)) nin0)).other W7 (Or.inr (slot_ne (a0 := a0) (Or.inl (Wd hw 166 rfl)) (Or.inl (Wd hw 190 rfl)) (by decide) (t := (.array .byte)) (t' := .int) (by decide) (by decide)))), ((F_coder_a0b.keep Kc5 (ninS (Exa.neArv (a0 := a0) E_a0b V_y (Wd hw 152 rfl)) nin0)).other W7 (Or.inr (slot_ne (a0 := a0) (Or.inl (Wd hw 168 rfl)) (Or.inl (Wd hw 190 rfl)) (by decide) (t := .byte) (t' := .int) (by decide) (by decide)))), Fw7, (P5_0.other W7 (Ne.symm (Exa.neArv (a0 := a0) E_a0b V_y (Wd hw 152 rfl)))), P5_1⟩
theorem D28 : dL jdk_67_method_7_code [(0, .aload_n 0, 1), (1, .aload_n 1, 1), (2, .invokespecial 29, 3), (5, .pop, 1), (6, .aload_n 0, 1), (7, .areturn, 1)] = true := by decide +kernel
theorem pdv10 : parseMethodDescriptor "(Ljava/lang/String;)Ljava/lang/AbstractStringBuilder;" = some ⟨[(.object "java/lang/String")], some (.object "java/lang/AbstractStringBuilder")⟩ := by decide +kernel
abbrev MN_15 : MethodName := ⟨"java/lang/StringBuilder", "append", "(Ljava/lang/String;)Ljava/lang/StringBuilder;"⟩
def Q_rmApp (n0 : Nat) (Z : State) (cS : Int32) (aDE : Addr) (kDE : ClassId) (aUS : Addr) (aSS : Addr) (aIE : Addr) (mO : Addr) (a0b : Addr) (a1s : Addr) (y : Addr) (ky : ClassId) (bs : List Value) (kc : Int32) (av : Addr) (kv : ClassId) (nl : Int32) (vs : List Value) (h0 : Heap) (v : Option Value) (h : Heap) (L : List Loc) : Prop := ∃ bs2 : List Value, v = some (.ref a0b) ∧ Fr n0 L ∧ Keep h0 h [a0b, y] ∧ (Exa Z h a0b "java/lang/StringBuilder") ∧ (Fld Z h a0b "java/lang/AbstractStringBuilder" "value" "[B" (.ref y)) ∧ (Fld Z h a0b "java/lang/AbstractStringBuilder" "coder" "B" (.int 0)) ∧ (Fld Z h a0b "java/lang/AbstractStringBuilder" "count" "I" (.int (kc + nl))) ∧ (Arv Z h y ky .byte (16 : Int32) bs2 (.int 0)) ∧ (bs2.length = 16)
theorem rmApp (l : Launch) (Z : State) (a0 : Array Value) (hw : ∀ d ∈ tables_1, d.before a0 Z = true) (ws : List Jvm.Cond) (cS : Int32) (aDE : Addr) (kDE : ClassId) (aUS : Addr) (aSS : Addr) (aIE : Addr) (mO : Addr) (a0b : Addr) (a1s : Addr) (y : Addr) (ky : ClassId) (bs : List Value) (kc : Int32) (av : Addr) (kv : ClassId) (nl : Int32) (vs : List Value) (h0 : Heap) (n0 : Nat) (O0 : Old Z n0 h0) (GL : GF Z cS aDE kDE aUS aSS aIE mO) (E_a0b : Exa Z h0 a0b "java/lang/StringBuilder") (F_value_a0b : Fld Z h0 a0b "java/lang/AbstractStringBuilder" "value" "[B" (.ref y)) (F_coder_a0b : Fld Z h0 a0b "java/lang/AbstractStringBuilder" "coder" "B" (.int 0)) (F_count_a0b : Fld Z h0 a0b "java/lang/AbstractStringBuilder" "count" "I" (.int kc)) (V_y : Arv Z h0 y ky .byte (16 : Int32) bs (.int 0)) (h16 : bs.length = 16) (g_a0b : n0 ≤ a0b) (g_y : n0 ≤ y) (E_a1s : Exa Z h0 a1s "java/lang/String") (F_value_a1s : Fld Z h0 a1s "java/lang/String" "value" "[B" (.ref av)) (F_coder_a1s : Fld Z h0 a1s "java/lang/String" "coder" "B" (.int 0)) (V_av : Arv Z h0 av kv .byte nl vs (.int 0)) (hk0 : ¬ (kc < (0 : Int32))) (hk1 : ¬ ((14 : Int32) < kc)) (hn0 : ¬ (nl < (0 : Int32))) (hn1 : ¬ ((2 : Int32) < nl)) :
    MF l MN_15 jdk_67_method_7_code 2 (some (.object "java/lang/StringBuilder")) ws (Rm 4 0 0 61) #[(.ref a0b), (.ref a1s)] Z h0 (Q_rmApp n0 Z cS aDE kDE aUS aSS aIE mO a0b a1s y ky bs kc av kv nl vs h0) := by
  refine MetFree.of_bodySF (plainFor_of_name pnv3) hisR ?_
  intro p e s m args below meth c s₁ Bd hml0 hP hK
  obtain ⟨rfl, hZ, hh⟩ := hP
  have hx := Bd.exec
  have hby := Bd.bytes
  have hml : c.maxLocals = 2 := hml0
  have hown : s.vm.findClass "java/lang/StringBuilder" = some m.cls := findClass_of_methodNamed Bd.named
  have hnm := (name_of_methodNamed Bd.named Bd.method).1
  have X0 : Stand p l e (Rm 4 0 0 61) s m #[(.ref a0b), (.ref a1s)] below meth c s₁ [] 0 0 := Stand.of_body Bd
  have e0 : s₁.heap = h0 := by rw [← hh, Bd.state]; rfl
  have N0 := Fr.nil n0
  have pre0 : ∀ t, SP p e below s₁ m 0 #[vr a0b, vr a1s] [] t → Steps p.tables e below (s₁.setTop (entryFrame m #[(.ref a0b), (.ref a1s)] 2)) t := fun t k => castTop (ef_rmInf m a0b a1s) k
  have GL' := GL
  obtain ⟨GCS, GCP, GDE, GVE, GUS, GSS, GIE, GMO⟩ := GL'
  obtain ⟨_, _, ⟨T1, L1, k1, n1⟩, -, X1, ⟨Lc1, hQ1, l1, y1, z1⟩, st1⟩ := superBack X0 hx hZ (y := MN_14) hown (Wd hw 174 rfl) (own_same (Wd hw 175 rfl) (Wd hw 194 rfl) rfl (by decide)) (Wd hw 175 rfl) (Wd hw 176 rfl) (by decide) (backOf (W := 0) (rmAp l Z a0 hw [] cS aDE kDE aUS aSS aIE mO a0b a1s y ky bs kc av kv nl vs h0 n0 O0 GL E_a0b F_value_a0b F_coder_a0b F_count_a0b V_y h16 g_a0b g_y E_a1s F_value_a1s F_coder_a1s V_av hk0 hk1 hn0 hn1) hZ (Wd hw 178 rfl) (Wd hw 161 rfl) (by decide) (by decide)) e0 (Ins.self E_a0b) (g := mkF m 2 #[vr a0b, vr a1s] [(.ref a1s), (.ref a0b)]) rfl (by rw [hml]; rfl) (Wd hw 178 rfl) (argsL := [(.ref a1s)]) (rest := []) (lenOf pdv10 rfl) rfl (by show 2 * 0 + _ ≤ _; exact lEq rfl) (dG hby D28 2 rfl) (fun _ _ => ⟨rfl, e0, (by decide : 0 + 0 ≤ _), (by decide : 0 + 0 ≤ _)⟩)
  dsimp only [Pt.U, Pt.locs, Pt.cells, Pt.slots] at X1 l1 y1 z1 st1 hQ1
  subst l1 y1 z1
  obtain ⟨bs2_1, rfl, N1q, Kc1, P1_0, P1_1, P1_2, P1_3, P1_4, P1_5⟩ := hQ1
  have K1 : Keep h0 T1.heap [a0b, y] := (Keep.refl h0 [a0b, y]).trans Kc1 (allS (Or.inl (List.mem_of_getElem? (i := 0) rfl)) (allS (Or.inl (List.mem_of_getElem? (i := 1) rfl)) all0))
  have O1 := O0.keep Kc1 (allS g_a0b (allS g_y all0))
  have N1 := Fr.app N0 N1q
  obtain ⟨fs, hr, hrun, hended, hW, hsame⟩ := X1.leave (v := some (.ref a0b)) (fun h => by rw [Bd.returns] at h; cases h)
  refine ⟨_, _, pre0 _ ?_, hrun, hended, _, _, rfl, ?_, ⟨_, rfl⟩, hW, hsame.mono (by decide) (by decide)⟩
  · show SP p e below s₁ m 0 #[vr a0b, vr a1s] [] _
    refine XS.aloadN X0.here hx rfl (dG hby D28 0 rfl) rfl rfl ?_
    refine XS.aloadN X0.here hx rfl (dG hby D28 1 rfl) rfl rfl ?_
    show SP p e below s₁ m 2 #[vr a0b, vr a1s] [(.ref a1s), (.ref a0b)] _
    refine st1.trans ?_
    show SP p e below T1 m 5 #[vr a0b, vr a1s] [(.ref a0b)] _
    refine XS.pop X1.here hx rfl (dG hby D28 3 rfl) rfl rfl ?_
    refine XS.aloadN X1.here hx rfl (dG hby D28 4 rfl) rfl rfl ?_
    show SP p e below T1 m 7 #[vr a0b, vr a1s] [(.ref a0b)] _
    exact retA X1 hx Bd.returns rfl (dG hby D28 5 rfl) hr
  · show Q_rmApp n0 Z cS aDE kDE aUS aSS aIE mO a0b a1s y ky bs kc av kv nl vs h0 _ T1.heap _
    exact ⟨bs2_1, rfl, N1, K1, P1_0, P1_1, P1_2, P1_3, P1_4, P1_5⟩
theorem D39 : dL jdk_68_method_64_code [(0, .aload_n 0, 1), (1, .getfield 15, 3), (4, .areturn, 1)] = true := by decide +kernel
abbrev MN_16 : MethodName := ⟨"java/lang/AbstractStringBuilder", "getValue", "()[B"⟩
def Q_rmGv (n0 : Nat) (Z : State) (cS : Int32) (aDE : Addr) (kDE : ClassId) (aUS : Addr) (aSS : Addr) (aIE : Addr) (mO : Addr) (a0b : Addr) (y : Addr) (h0 : Heap) (v : Option Value) (h : Heap) (L : List Loc) : Prop := v = some (.ref y) ∧ Fr n0 L ∧ h = h0
theorem rmGv (l : Launch) (Z : State) (a0 : Array Value) (hw : ∀ d ∈ tables_1, d.before a0 Z = true) (ws : List Jvm.Cond) (cS : Int32) (aDE : Addr) (kDE : ClassId) (aUS : Addr) (aSS : Addr) (aIE : Addr) (mO : Addr) (a0b : Addr) (y : Addr) (h0 : Heap) (n0 : Nat) (O0 : Old Z n0 h0) (GL : GF Z cS aDE kDE aUS aSS aIE mO) (E_a0b : Exa Z h0 a0b "java/lang/StringBuilder") (F_value_a0b : Fld Z h0 a0b "java/lang/AbstractStringBuilder" "value" "[B" (.ref y)) :
    MF l MN_16 jdk_68_method_64_code 1 (some (.array .byte)) ws (Rm 0 0 0 0) #[(.ref a0b)] Z h0 (Q_rmGv n0 Z cS aDE kDE aUS aSS aIE mO a0b y h0) := by
  refine MetFree.of_bodySF (plainFor_of_name pnv2) hisR ?_
  intro p e s m args below meth c s₁ Bd hml0 hP hK
  obtain ⟨rfl, hZ, hh⟩ := hP
  have hx := Bd.exec
  have hby := Bd.bytes
  have hml : c.maxLocals = 1 := hml0
  have hown : s.vm.findClass "java/lang/AbstractStringBuilder" = some m.cls := findClass_of_methodNamed Bd.named
  have hnm := (name_of_methodNamed Bd.named Bd.method).1
  have X0 : Stand p l e (Rm 0 0 0 0) s m #[(.ref a0b)] below meth c s₁ [] 0 0 := Stand.of_body Bd
  have e0 : s₁.heap = h0 := by rw [← hh, Bd.state]; rfl
  have N0 := Fr.nil n0
  have pre0 : ∀ t, SP p e below s₁ m 0 #[vr a0b] [] t → Steps p.tables e below (s₁.setTop (entryFrame m #[(.ref a0b)] 1)) t := fun t k => castTop (ef_rmSb m a0b) k
  have GL' := GL
  obtain ⟨GCS, GCP, GDE, GVE, GUS, GSS, GIE, GMO⟩ := GL'
  obtain ⟨T1, X1, e1, st1⟩ := getF X0 hx hZ hown (host := "") (Or.inl (Wd hw 165 rfl)) Via.refl e0 F_value_a0b (g := mkF m 1 #[vr a0b] [(.ref a0b)]) rfl rfl (dG hby D39 1 rfl)
  obtain ⟨fs, hr, hrun, hended, hW, hsame⟩ := X1.leave (v := some (.ref y)) (fun h => by rw [Bd.returns] at h; cases h)
  refine ⟨_, _, pre0 _ ?_, hrun, hended, _, _, rfl, ?_, ⟨_, rfl⟩, hW, hsame.mono (by decide) (by decide)⟩
  · show SP p e below s₁ m 0 #[vr a0b] [] _
    refine XS.aloadN X0.here hx rfl (dG hby D39 0 rfl) rfl rfl ?_
    show SP p e below s₁ m 1 #[vr a0b] [(.ref a0b)] _
    refine st1 _ ?_
    show SP p e below T1 m 4 #[vr a0b] [(.ref y)] _
    exact retA X1 hx Bd.returns rfl (dG hby D39 2 rfl) hr
  · show Q_rmGv n0 Z cS aDE kDE aUS aSS aIE mO a0b y h0 _ T1.heap _
    rw [e1]
    exact ⟨rfl, N0, rfl⟩
theorem D41 : dL jdk_68_method_6_code [(0, .aload_n 0, 1), (1, .getfield 79, 3), (4, .ireturn, 1)] = true := by decide +kernel
abbrev MN_17 : MethodName := ⟨"java/lang/AbstractStringBuilder", "length", "()I"⟩
def Q_rmAl (n0 : Nat) (Z : State) (cS : Int32) (aDE : Addr) (kDE : ClassId) (aUS : Addr) (aSS : Addr) (aIE : Addr) (mO : Addr) (a0b : Addr) (kc : Int32) (h0 : Heap) (v : Option Value) (h : Heap) (L : List Loc) : Prop := v = some (.int kc) ∧ Fr n0 L ∧ h = h0
theorem rmAl (l : Launch) (Z : State) (a0 : Array Value) (hw : ∀ d ∈ tables_1, d.before a0 Z = true) (ws : List Jvm.Cond) (cS : Int32) (aDE : Addr) (kDE : ClassId) (aUS : Addr) (aSS : Addr) (aIE : Addr) (mO : Addr) (a0b : Addr) (kc : Int32) (h0 : Heap) (n0 : Nat) (O0 : Old Z n0 h0) (GL : GF Z cS aDE kDE aUS aSS aIE mO) (E_a0b : Exa Z h0 a0b "java/lang/StringBuilder") (F_count_a0b : Fld Z h0 a0b "java/lang/AbstractStringBuilder" "count" "I" (.int kc)) :
    MF l MN_17 jdk_68_method_6_code 1 (some .int) ws (Rm 0 0 0 0) #[(.ref a0b)] Z h0 (Q_rmAl n0 Z cS aDE kDE aUS aSS aIE mO a0b kc h0) := by
  refine MetFree.of_bodySF (plainFor_of_name pnv2) hisR ?_
  intro p e s m args below meth c s₁ Bd hml0 hP hK
  obtain ⟨rfl, hZ, hh⟩ := hP
  have hx := Bd.exec
  have hby := Bd.bytes
  have hml : c.maxLocals = 1 := hml0
  have hown : s.vm.findClass "java/lang/AbstractStringBuilder" = some m.cls := findClass_of_methodNamed Bd.named
  have hnm := (name_of_methodNamed Bd.named Bd.method).1
  have X0 : Stand p l e (Rm 0 0 0 0) s m #[(.ref a0b)] below meth c s₁ [] 0 0 := Stand.of_body Bd
  have e0 : s₁.heap = h0 := by rw [← hh, Bd.state]; rfl
  have N0 := Fr.nil n0
  have pre0 : ∀ t, SP p e below s₁ m 0 #[vr a0b] [] t → Steps p.tables e below (s₁.setTop (entryFrame m #[(.ref a0b)] 1)) t := fun t k => castTop (ef_rmSb m a0b) k
  have GL' := GL
  obtain ⟨GCS, GCP, GDE, GVE, GUS, GSS, GIE, GMO⟩ := GL'
  obtain ⟨T1, X1, e1, st1⟩ := getF X0 hx hZ hown (host := "") (Or.inl (Wd hw 189 rfl)) Via.refl e0 F_count_a0b (g := mkF m 1 #[vr a0b] [(.ref a0b)]) rfl rfl (dG hby D41 1 rfl)
  obtain ⟨fs, hr, hrun, hended, hW, hsame⟩ := X1.leave (v := some (.int kc)) (fun h => by rw [Bd.returns] at h; cases h)
  refine ⟨_, _, pre0 _ ?_, hrun, hended, _, _, rfl, ?_, ⟨_, rfl⟩, hW, hsame.mono (by decide) (by decide)⟩
  · show SP p e below s₁ m 0 #[vr a0b] [] _
    refine XS.aloadN X0.here hx rfl (dG hby D41 0 rfl) rfl rfl ?_
    show SP p e below s₁ m 1 #[vr a0b] [(.ref a0b)] _
    refine st1 _ ?_
    show SP p e below T1 m 4 #[vr a0b] [(.int kc)] _
    exact retI X1 hx Bd.returns (dG hby D41 2 rfl) hr
  · show Q_rmAl n0 Z cS aDE kDE aUS aSS aIE mO a0b kc h0 _ T1.heap _
    rw [e1]
    exact ⟨rfl, N0, rfl⟩
theorem D40 : dL jdk_67_method_93_code [(0, .aload_n 0, 1), (1, .invokespecial 343, 3), (4, .ireturn, 1)] = true := by decide +kernel
abbrev MN_18 : MethodName := ⟨"java/lang/StringBuilder", "length", "()I"⟩
def Q_rmSl (n0 : Nat) (Z : State) (cS : Int32) (aDE : Addr) (kDE : ClassId) (aUS : Addr) (aSS : Addr) (aIE : Addr) (mO : Addr) (a0b : Addr) (kc : Int32) (h0 : Heap) (v : Option Value) (h : Heap) (L : List Loc) : Prop := v = some (.int kc) ∧ Fr n0 L ∧ h = h0
theorem rmSl (l : Launch) (Z : State) (a0 : Array Value) (hw : ∀ d ∈ tables_1, d.before a0 Z = true) (ws : List Jvm.Cond) (cS : Int32) (aDE : Addr) (kDE : ClassId) (aUS : Addr) (aSS : Addr) (aIE : Addr) (mO : Addr) (a0b : Addr) (kc : Int32) (h0 : Heap) (n0 : Nat) (O0 : Old Z n0 h0) (GL : GF Z cS aDE kDE aUS aSS aIE mO) (E_a0b : Exa Z h0 a0b "java/lang/StringBuilder") (F_count_a0b : Fld Z h0 a0b "java/lang/AbstractStringBuilder" "count" "I" (.int kc)) :
    MF l MN_18 jdk_67_method_93_code 1 (some .int) ws (Rm 1 0 0 12) #[(.ref a0b)] Z h0 (Q_rmSl n0 Z cS aDE kDE aUS aSS aIE mO a0b kc h0) := by
  refine MetFree.of_bodySF (plainFor_of_name pnv3) hisR ?_
  intro p e s m args below meth c s₁ Bd hml0 hP hK
  obtain ⟨rfl, hZ, hh⟩ := hP
  have hx := Bd.exec
  have hby := Bd.bytes
  have hml : c.maxLocals = 1 := hml0
  have hown : s.vm.findClass "java/lang/StringBuilder" = some m.cls := findClass_of_methodNamed Bd.named
  have hnm := (name_of_methodNamed Bd.named Bd.method).1
  have X0 : Stand p l e (Rm 1 0 0 12) s m #[(.ref a0b)] below meth c s₁ [] 0 0 := Stand.of_body Bd
  have e0 : s₁.heap = h0 := by rw [← hh, Bd.state]; rfl
  have N0 := Fr.nil n0
  have pre0 : ∀ t, SP p e below s₁ m 0 #[vr a0b] [] t → Steps p.tables e below (s₁.setTop (entryFrame m #[(.ref a0b)] 1)) t := fun t k => castTop (ef_rmSb m a0b) k
  have GL' := GL
  obtain ⟨GCS, GCP, GDE, GVE, GUS, GSS, GIE, GMO⟩ := GL'
  obtain ⟨_, _, ⟨T1, L1, k1, n1⟩, -, X1, ⟨Lc1, hQ1, l1, y1, z1⟩, st1⟩ := superBack X0 hx hZ (y := MN_17) hown (Wd hw 242 rfl) (own_same (Wd hw 238 rfl) (Wd hw 194 rfl) rfl (by decide)) (Wd hw 238 rfl) (Wd hw 176 rfl) (by decide) (backOf (W := 0) (rmAl l Z a0 hw [] cS aDE kDE aUS aSS aIE mO a0b kc h0 n0 O0 GL E_a0b F_count_a0b) hZ (Wd hw 243 rfl) (Wd hw 161 rfl) (by decide) (by decide)) e0 (Ins.self E_a0b) (g := mkF m 1 #[vr a0b] [(.ref a0b)]) rfl (by rw [hml]; rfl) (Wd hw 243 rfl) (argsL := []) (rest := []) (lenOf pdv8 rfl) rfl (by show 2 * 0 + _ ≤ _; exact lEq rfl) (dG hby D40 1 rfl) (fun _ _ => ⟨rfl, e0, (by decide : 0 + 0 ≤ _), (by decide : 0 + 0 ≤ _)⟩)
  dsimp only [Pt.U, Pt.locs, Pt.cells, Pt.slots] at X1 l1 y1 z1 st1 hQ1
  subst l1 y1 z1
  obtain ⟨rfl, N1q, e1⟩ := hQ1
  have N1 := Fr.app N0 N1q
  obtain ⟨fs, hr, hrun, hended, hW, hsame⟩ := X1.leave (v := some (.int kc)) (fun h => by rw [Bd.returns] at h; cases h)
  refine ⟨_, _, pre0 _ ?_, hrun, hended, _, _, rfl, ?_, ⟨_, rfl⟩, hW, hsame.mono (by decide) (by decide)⟩
  · show SP p e below s₁ m 0 #[vr a0b] [] _
    refine XS.aloadN X0.here hx rfl (dG hby D40 0 rfl) rfl rfl ?_
    show SP p e below s₁ m 1 #[vr a0b] [(.ref a0b)] _
    refine st1.trans ?_
    show SP p e below T1 m 4 #[vr a0b] [(.int kc)] _
    exact retI X1 hx Bd.returns (dG hby D40 2 rfl) hr
  · show Q_rmSl n0 Z cS aDE kDE aUS aSS aIE mO a0b kc h0 _ T1.heap _
    rw [e1]
    exact ⟨rfl, N1, rfl⟩
theorem D42 : dL jdk_68_method_68_code [(0, .getstatic 18, 3), (3, .ifCond .eq 14, 3), (6, .aload_n 0, 1), (7, .getfield 22, 3), (10, .ifCond .ne 7, 3), (13, .iconst 1, 1), (14, .goto 4, 3), (18, .ireturn, 1)] = true := by decide +kernel
abbrev MN_19 : MethodName := ⟨"java/lang/AbstractStringBuilder", "isLatin1", "()Z"⟩
def Q_rmIl (n0 : Nat) (Z : State) (cS : Int32) (aDE : Addr) (kDE : ClassId) (aUS : Addr) (aSS : Addr) (aIE : Addr) (mO : Addr) (a0b : Addr) (h0 : Heap) (v : Option Value) (h : Heap) (L : List Loc) : Prop := v = some (.int 1) ∧ Fr n0 L ∧ h = h0
theorem rmIl (l : Launch) (Z : State) (a0 : Array Value) (hw : ∀ d ∈ tables_1, d.before a0 Z = true) (ws : List Jvm.Cond) (cS : Int32) (aDE : Addr) (kDE : ClassId) (aUS : Addr) (aSS : Addr) (aIE : Addr) (mO : Addr) (a0b : Addr) (h0 : Heap) (n0 : Nat) (O0 : Old Z n0 h0) (GL : GF Z cS aDE kDE aUS aSS aIE mO) (F_coder_a0b : Fld Z h0 a0b "java/lang/AbstractStringBuilder" "coder" "B" (.int 0)) :
    MF l MN_19 jdk_68_method_68_code 1 (some .boolean) ws (Rm 0 0 0 0) #[(.ref a0b)] Z h0 (Q_rmIl n0 Z cS aDE kDE aUS aSS aIE mO a0b h0) := by
  refine MetFree.of_bodySF (plainFor_of_name pnv2) hisR ?_
  intro p e s m args below meth c s₁ Bd hml0 hP hK
  obtain ⟨rfl, hZ, hh⟩ := hP
  have hx := Bd.exec
  have hby := Bd.bytes
  have hml : c.maxLocals = 1 := hml0
  have hown : s.vm.findClass "java/lang/AbstractStringBuilder" = some m.cls := findClass_of_methodNamed Bd.named
  have hnm := (name_of_methodNamed Bd.named Bd.method).1
  have X0 : Stand p l e (Rm 0 0 0 0) s m #[(.ref a0b)] below meth c s₁ [] 0 0 := Stand.of_body Bd
  have e0 : s₁.heap = h0 := by rw [← hh, Bd.state]; rfl
  have N0 := Fr.nil n0
  have pre0 : ∀ t, SP p e below s₁ m 0 #[vr a0b] [] t → Steps p.tables e below (s₁.setTop (entryFrame m #[(.ref a0b)] 1)) t := fun t k => castTop (ef_rmSb m a0b) k
  have GL' := GL
  obtain ⟨GCS, GCP, GDE, GVE, GUS, GSS, GIE, GMO⟩ := GL'
  obtain ⟨T1, X1, e1, st1⟩ := getS2 X0 hx hZ hown (host := "") (Or.inl (Wd hw 164 rfl)) Via.refl e0 (GCS.ext O0.2) (g := mkF m 0 #[vr a0b] []) rfl (dG hby D42 0 rfl)
  obtain ⟨T2, X2, e2, st2⟩ := getF X1 hx hZ hown (host := "") (Or.inl (Wd hw 167 rfl)) Via.refl e1 F_coder_a0b (g := mkF m 7 #[vr a0b] [(.ref a0b)]) rfl rfl (dG hby D42 3 rfl)
  obtain ⟨fs, hr, hrun, hended, hW, hsame⟩ := X2.leave (v := some (.int 1)) (fun h => by rw [Bd.returns] at h; cases h)
  refine ⟨_, _, pre0 _ ?_, hrun, hended, _, _, rfl, ?_, ⟨_, rfl⟩, hW, hsame.mono (by decide) (by decide)⟩
  · show SP p e below s₁ m 0 #[vr a0b] [] _
    refine st1 _ ?_
    show SP p e below T1 m 3 #[vr a0b] [(.int cS)] _
    refine XS.ifNo X1.here hx rfl (dG hby D42 1 rfl) rfl ((if0 _ _).trans (feq GCP).1) ?_
    refine XS.aloadN X1.here hx rfl (dG hby D42 2 rfl) rfl rfl ?_
    show SP p e below T1 m 7 #[vr a0b] [(.ref a0b)] _
    refine st2 _ ?_
    show SP p e below T2 m 10 #[vr a0b] [(.int 0)] _
    refine XS.ifNo X2.here hx rfl (dG hby D42 4 rfl) rfl ((if0 _ _).trans (teq (by decide : (0 : Int32) = (0 : Int32))).2) ?_
    refine XS.iconst X2.here hx rfl (dG hby D42 5 rfl) ?_
    refine XS.goto X2.here hx rfl (pc0 := 14) (pc' := 18) rfl (dG hby D42 6 rfl) (by decide) (by decide) ?_
    show SP p e below T2 m 18 #[vr a0b] [(.int 1)] _
    exact retN X2 hx (t := .boolean) Bd.returns (by simp) (dG hby D42 7 rfl) hr
  · show Q_rmIl n0 Z cS aDE kDE aUS aSS aIE mO a0b h0 _ T2.heap _
    rw [e2]
    exact ⟨rfl, N0, rfl⟩
theorem D45 : dL jdk_65_method_131_code [(0, .iload_n 1, 1), (1, .iload_n 0, 1), (2, .if_icmp .ge 35, 3), (37, .return_, 1)] = true := by decide +kernel
theorem pnv4 : plainName "java/util/Arrays" = true := by first | (simp [plainName, overriddenIn]; done) | decide +kernel
abbrev MN_20 : MethodName := ⟨"java/util/Arrays", "checkLength", "(II)V"⟩
theorem ef_rmCl (m : MethodId) (p1 : Int32) : entryFrame m #[(.int 0), (.int p1)] 2 = mkF m 0 #[vi (0 : Int32), vi p1] [] := by first | (simp [entryFrame, mkF, argsToLocals, Value.category]; done) | rfl
def Q_rmCl (n0 : Nat) (Z : State) (cS : Int32) (aDE : Addr) (kDE : ClassId) (aUS : Addr) (aSS : Addr) (aIE : Addr) (mO : Addr) (p1 : Int32) (h0 : Heap) (v : Option Value) (h : Heap) (L : List Loc) : Prop := v = none ∧ Fr n0 L ∧ h = h0
theorem rmCl (l : Launch) (Z : State) (a0 : Array Value) (hw : ∀ d ∈ tables_1, d.before a0 Z = true) (ws : List Jvm.Cond) (cS : Int32) (aDE : Addr) (kDE : ClassId) (aUS : Addr) (aSS : Addr) (aIE : Addr) (mO : Addr) (p1 : Int32) (h0 : Heap) (n0 : Nat) (O0 : Old Z n0 h0) (GL : GF Z cS aDE kDE aUS aSS aIE mO) (hp0 : ¬ (p1 < (0 : Int32))) :
    MF l MN_20 jdk_65_method_131_code 2 none ws (Rm 0 0 0 0) #[(.int 0), (.int p1)] Z h0 (Q_rmCl n0 Z cS aDE kDE aUS aSS aIE mO p1 h0) := by
  refine MetFree.of_bodySF (plainFor_of_name pnv4) hisR ?_
  intro p e s m args below meth c s₁ Bd hml0 hP hK
  obtain ⟨rfl, hZ, hh⟩ := hP
  have hx := Bd.exec
  have hby := Bd.bytes
  have hml : c.maxLocals = 2 := hml0
  have hown : s.vm.findClass "java/util/Arrays" = some m.cls := findClass_of_methodNamed Bd.named
  have hnm := (name_of_methodNamed Bd.named Bd.method).1
  have X0 : Stand p l e (Rm 0 0 0 0) s m #[(.int 0), (.int p1)] below meth c s₁ [] 0 0 := Stand.of_body Bd
  have e0 : s₁.heap = h0 := by rw [← hh, Bd.state]; rfl
  have N0 := Fr.nil n0
  have pre0 : ∀ t, SP p e below s₁ m 0 #[vi (0 : Int32), vi p1] [] t → Steps p.tables e below (s₁.setTop (entryFrame m #[(.int 0), (.int p1)] 2)) t := fun t k => castTop (ef_rmCl m p1) k
  have GL' := GL
  obtain ⟨GCS, GCP, GDE, GVE, GUS, GSS, GIE, GMO⟩ := GL'
  obtain ⟨fs, hr, hrun, hended, hW, hsame⟩ := X0.leave (v := none) (fun _ => rfl)
  refine ⟨_, _, pre0 _ ?_, hrun, hended, _, _, rfl, ?_, ⟨_, rfl⟩, hW, hsame.mono (by decide) (by decide)⟩
  · show SP p e below s₁ m 0 #[vi (0 : Int32), vi p1] [] _
    refine XS.iloadN X0.here hx rfl (dG hby D45 0 rfl) rfl ?_
    refine XS.iloadN X0.here hx rfl (dG hby D45 1 rfl) rfl ?_
    refine XS.icmpYes X0.here hx rfl (pc0 := 2) (pc' := 37) rfl (dG hby D45 2 rfl) rfl (flt hp0).2.1 (by decide) (by decide) ?_
    show SP p e below s₁ m 37 #[vi (0 : Int32), vi p1] [] _
    exact X0.returnOut hx Bd.returns (dG hby D45 3 rfl) hr
  · show Q_rmCl n0 Z cS aDE kDE aUS aSS aIE mO p1 h0 _ s₁.heap _
    rw [e0]
    exact ⟨rfl, N0, rfl⟩
theorem D44 : dL jdk_65_method_133_code [(0, .iload_n 1, 1), (1, .iload_n 2, 1), (2, .invokestatic 343, 3), (5, .iload_n 2, 1), (6, .iload_n 1, 1), (7, .isub, 1), (8, .istore_n 3, 1), (9, .iload_n 3, 1), (10, .newarray .byte, 2), (12, .astore 4, 2), (14, .aload_n 0, 1), (15, .iload_n 1, 1), (16, .aload 4, 2), (18, .iconst 0, 1), (19, .aload_n 0, 1), (20, .arraylength, 1), (21, .iload_n 1, 1), (22, .isub, 1), (23, .iload_n 3, 1), (24, .invokestatic 304, 3), (27, .invokestatic 150, 3), (30, .aload 4, 2), (32, .areturn, 1)] = true := by decide +kernel
theorem pdv11 : parseMethodDescriptor "(II)V" = some ⟨[.int, .int], none⟩ := by decide +kernel
theorem pdv12 : parseMethodDescriptor "(II)I" = some ⟨[.int, .int], some .int⟩ := by decide +kernel
abbrev MN_21 : MethodName := ⟨"java/util/Arrays", "copyOfRangeByte", "([BII)[B"⟩
theorem ef_rmCrb (m : MethodId) (a0d : Addr) (p2 : Int32) : entryFrame m #[(.ref a0d), (.int 0), (.int p2)] 5 = mkF m 0 #[vr a0d, vi (0 : Int32), vi p2, .unset, .unset] [] := by first | (simp [entryFrame, mkF, argsToLocals, Value.category]; done) | rfl
def Q_rmCrb (n0 : Nat) (Z : State) (cS : Int32) (aDE : Addr) (kDE : ClassId) (aUS : Addr) (aSS : Addr) (aIE : Addr) (mO : Addr) (a0d : Addr) (p2 : Int32) (ky : ClassId) (bs : List Value) (h0 : Heap) (v : Option Value) (h : Heap) (L : List Loc) : Prop := ∃ b : Addr, ∃ kb : ClassId, ∃ us : List Value, v = some (.ref b) ∧ Fr n0 L ∧ Keep h0 h [] ∧ (h0.size ≤ b) ∧ (Exa Z h b "[B") ∧ (Arv Z h b kb .byte p2 us (.int 0))
theorem rmCrb (l : Launch) (Z : State) (a0 : Array Value) (hw : ∀ d ∈ tables_1, d.before a0 Z = true) (ws : List Jvm.Cond) (cS : Int32) (aDE : Addr) (kDE : ClassId) (aUS : Addr) (aSS : Addr) (aIE : Addr) (mO : Addr) (a0d : Addr) (p2 : Int32) (ky : ClassId) (bs : List Value) (h0 : Heap) (n0 : Nat) (O0 : Old Z n0 h0) (GL : GF Z cS aDE kDE aUS aSS aIE mO) (V_a0d : Arv Z h0 a0d ky .byte (16 : Int32) bs (.int 0)) (hp0 : ¬ (p2 < (0 : Int32))) (hlt : p2 < (16 : Int32)) (hc6 : p2.toNatClampNeg ≤ 16) :
    MF l MN_21 jdk_65_method_133_code 5 (some (.array .byte)) ws (Rm 1 1 16 18) #[(.ref a0d), (.int 0), (.int p2)] Z h0 (Q_rmCrb n0 Z cS aDE kDE aUS aSS aIE mO a0d p2 ky bs h0) := by
  refine MetFree.of_bodySF (plainFor_of_name pnv4) hisR ?_
  intro p e s m args below meth c s₁ Bd hml0 hP hK
  obtain ⟨rfl, hZ, hh⟩ := hP
  have hx := Bd.exec
  have hby := Bd.bytes
  have hml : c.maxLocals = 5 := hml0
  have hown : s.vm.findClass "java/util/Arrays" = some m.cls := findClass_of_methodNamed Bd.named
  have hnm := (name_of_methodNamed Bd.named Bd.method).1
  have X0 : Stand p l e (Rm 1 1 16 18) s m #[(.ref a0d), (.int 0), (.int p2)] below meth c s₁ [] 0 0 := Stand.of_body Bd
  have e0 : s₁.heap = h0 := by rw [← hh, Bd.state]; rfl
  have N0 := Fr.nil n0
  have pre0 : ∀ t, SP p e below s₁ m 0 #[vr a0d, vi (0 : Int32), vi p2, .unset, .unset] [] t → Steps p.tables e below (s₁.setTop (entryFrame m #[(.ref a0d), (.int 0), (.int p2)] 5)) t := fun t k => castTop (ef_rmCrb m a0d p2) k
  have GL' := GL
  obtain ⟨GCS, GCP, GDE, GVE, GUS, GSS, GIE, GMO⟩ := GL'
  obtain ⟨_, _, ⟨T1, L1, k1, n1⟩, -, X1, ⟨Lc1, hQ1, l1, y1, z1⟩, st1⟩ := Jvm.LawKit.callS X0 hx (y := MN_20) hown (mvT hZ (Wd hw 256 rfl)) (mvT hZ (Wd hw 257 rfl)) (mvT hZ (Wd hw 251 rfl)) (mvT hZ (Wd hw 258 rfl)) (by decide) (backOf (W := 0) (rmCl l Z a0 hw [] cS aDE kDE aUS aSS aIE mO p2 h0 n0 O0 GL hp0) hZ (Wd hw 258 rfl) (Wd hw 251 rfl) (by decide) (by decide)) (g := mkF m 2 #[vr a0d, vi (0 : Int32), vi p2, .unset, .unset] [(.int p2), (.int 0)]) rfl (by rw [hml]; rfl) (argsL := [(.int 0), (.int p2)]) (rest := []) (lenOf pdv11 rfl) rfl (by show 2 * 0 + _ ≤ _; exact lEq rfl) (dG hby D44 2 rfl) (fun _ _ => ⟨rfl, e0, (by decide : 0 + 0 ≤ _), (by decide : 0 + 0 ≤ _)⟩)
  dsimp only [Pt.U, Pt.locs, Pt.cells, Pt.slots] at X1 l1 y1 z1 st1 hQ1
  subst l1 y1 z1
  obtain ⟨rfl, N1q, e1⟩ := hQ1
  have N1 := Fr.app N0 N1q
  obtain ⟨T2, h2, k2, X2, e2, E2, A2, A2', st2⟩ := newPE X1 hx hZ (Wd hw 23 rfl) e1 (g := mkF m 10 #[vr a0d, vi (0 : Int32), vi p2, vi p2, .unset] [(.int p2)]) rfl (dG hby D44 8 rfl) rfl hp0 (cap := 16) hc6 (by decide) (by decide) (by decide) (ad := "[B") rfl
  obtain ⟨b2, g2⟩ : ∃ z, z = h0.size := ⟨_, rfl⟩
  rw [← g2] at A2 A2' st2
  have g_b2 : n0 ≤ b2 := lTr (own_sz O0) (lEq g2.symm)
  have sz_b2 : h0.size ≤ b2 := lTr (Keep.refl h0 []).1 (lEq g2.symm)
  have K2 : Keep h0 h2 [] := (Keep.refl h0 []).ext E2
  have O2 := O0.ext E2
  have V_b2 : Arv Z h2 b2 k2 .byte p2 (List.replicate (p2).toNatClampNeg (.int 0)) (.int 0) := (Arv.new A2 hp0).pad (pad_rep [] (.int 0) (p2).toNatClampNeg)
  obtain ⟨cl3, Ar3, -, S3, N3_, -, -⟩ := id ((V_a0d.ext E2))
  obtain ⟨_, _, ⟨T4, L4, k4, n4⟩, -, X4, ⟨Lc4, hQ4, l4, y4, z4⟩, st4⟩ := Jvm.LawKit.callS X2 hx (y := MN_7) hown (mvT hZ (Wd hw 259 rfl)) (mvT hZ (Wd hw 260 rfl)) (mvT hZ (Wd hw 100 rfl)) (mvT hZ (Wd hw 261 rfl)) (by decide) (backOf (W := 4) (rmMin l Z a0 hw [] cS aDE kDE aUS aSS aIE mO ((16 : Int32)) p2 h2 n0 O2 GL hlt) hZ (Wd hw 261 rfl) (Wd hw 100 rfl) (by decide) (by decide)) (g := mkF m 24 #[vr a0d, vi (0 : Int32), vi p2, vi p2, vr b2] [(.int p2), (.int 16), (.int 0), (.ref b2), (.int 0), (.ref a0d)]) rfl (by rw [hml]; rfl) (argsL := [(.int 16), (.int p2)]) (rest := [(.int 0), (.ref b2), (.int 0), (.ref a0d)]) (lenOf pdv12 rfl) rfl (by show 2 * 0 + _ ≤ _; exact lEq rfl) (dG hby D44 19 rfl) (fun _ _ => ⟨rfl, e2, (by decide : 1 + 0 ≤ _), (by decide : 16 + 0 ≤ _)⟩)
  dsimp only [Pt.U, Pt.locs, Pt.cells, Pt.slots] at X4 l4 y4 z4 st4 hQ4
  subst l4 y4 z4
  obtain ⟨rfl, N4q, e4⟩ := hQ4
  have N4 := Fr.app N1 N4q
  obtain ⟨T5, h5, L5, X5, e5, N5, Kc5, V5, st5⟩ := cpA X4 hx hZ hown (Wd hw 262 rfl) (Wd hw 215 rfl) (Wd hw 213 rfl) (Wd hw 214 rfl) e4 (V_a0d.ext E2) V_b2 (us := ((List.range (p2).toNatClampNeg).map fun i => (bs).getD (((0 : Int32)).toNatClampNeg + i) (.int 0))) (Or.inl ⟨rfl, rfl⟩) (by decide) (by decide) hp0 (lTr (lEq (Nat.zero_add _)) hc6) (lEq (Nat.zero_add _)) rfl (by simp) N4 g_b2 (g := mkF m 27 #[vr a0d, vi (0 : Int32), vi p2, vi p2, vr b2] [(.int p2), (.int 0), (.ref b2), (.int 0), (.ref a0d)]) rfl (by rw [hml]; rfl) rfl (dG hby D44 20 rfl) (by decide) (W := 0) (by show 2 * 0 + _ ≤ _; exact lEq rfl) (by decide)
  have V5' : Arv Z h5 b2 k2 .byte p2 (List.take ((0 : Int32)).toNatClampNeg (List.replicate (p2).toNatClampNeg (.int 0)) ++ ((List.range (p2).toNatClampNeg).map fun i => (bs).getD (((0 : Int32)).toNatClampNeg + i) (.int 0)) ++ List.drop (((0 : Int32)).toNatClampNeg + (p2).toNatClampNeg) (List.replicate (p2).toNatClampNeg (.int 0))) (.int 0) := V5
  have K5 : Keep h0 h5 [] := K2.trans Kc5 (allS (Or.inr sz_b2) all0)
  have O5 := O2.keep Kc5 (allS g_b2 all0)
  obtain ⟨fs, hr, hrun, hended, hW, hsame⟩ := X5.leave (v := some (.ref b2)) (fun h => by rw [Bd.returns] at h; cases h)
  refine ⟨_, _, pre0 _ ?_, hrun, hended, _, _, rfl, ?_, ⟨_, rfl⟩, hW, hsame.mono (by decide) (by decide)⟩
  · show SP p e below s₁ m 0 #[vr a0d, vi (0 : Int32), vi p2, .unset, .unset] [] _
    refine XS.iloadN X0.here hx rfl (dG hby D44 0 rfl) rfl ?_
    refine XS.iloadN X0.here hx rfl (dG hby D44 1 rfl) rfl ?_
    show SP p e below s₁ m 2 #[vr a0d, vi (0 : Int32), vi p2, .unset, .unset] [(.int p2), (.int 0)] _
    refine st1 _ ?_
    show SP p e below T1 m 5 #[vr a0d, vi (0 : Int32), vi p2, .unset, .unset] [] _
    refine XS.iloadN X1.here hx rfl (dG hby D44 3 rfl) rfl ?_
    refine XS.iloadN X1.here hx rfl (dG hby D44 4 rfl) rfl ?_
    show SP p e below T1 m 7 #[vr a0d, vi (0 : Int32), vi p2, .unset, .unset] [(.int 0), (.int p2)] _
    refine XS.isub X1.here hx rfl (dG hby D44 5 rfl) rfl ?_
    rw [own_sub0 p2]
    show SP p e below T1 m 8 #[vr a0d, vi (0 : Int32), vi p2, .unset, .unset] [(.int p2)] _
    refine XS.istoreN X1.here hx rfl (dG hby D44 6 rfl) rfl (l' := #[vr a0d, vi (0 : Int32), vi p2, vi p2, .unset]) rfl ?_
    refine XS.iloadN X1.here hx rfl (dG hby D44 7 rfl) rfl ?_
    show SP p e below T1 m 10 #[vr a0d, vi (0 : Int32), vi p2, vi p2, .unset] [(.int p2)] _
    refine st2 _ ?_
    show SP p e below T2 m 12 #[vr a0d, vi (0 : Int32), vi p2, vi p2, .unset] [(.ref b2)] _
    refine XS.astore X2.here hx rfl (dG hby D44 9 rfl) rfl rfl (l' := #[vr a0d, vi (0 : Int32), vi p2, vi p2, vr b2]) rfl ?_
    refine XS.aloadN X2.here hx rfl (dG hby D44 10 rfl) rfl rfl ?_
    refine XS.iloadN X2.here hx rfl (dG hby D44 11 rfl) rfl ?_
    refine XS.aload X2.here hx rfl (dG hby D44 12 rfl) rfl rfl ?_
    refine XS.iconst X2.here hx rfl (dG hby D44 13 rfl) ?_
    refine XS.aloadN X2.here hx rfl (dG hby D44 14 rfl) rfl rfl ?_
    show SP p e below T2 m 20 #[vr a0d, vi (0 : Int32), vi p2, vi p2, vr b2] [(.ref a0d), (.int 0), (.ref b2), (.int 0), (.ref a0d)] _
    refine X2.arraylength hx (by rw [e2]; exact Ar3.1) (State.isArrayOf_alike hZ.alike Ar3.2.1) (g := mkF m 20 #[vr a0d, vi (0 : Int32), vi p2, vi p2, vr b2] [(.ref a0d), (.int 0), (.ref b2), (.int 0), (.ref a0d)]) rfl rfl (dG hby D44 15 rfl) _ ?_
    rw [len_of S3 N3_]
    show SP p e below T2 m 21 #[vr a0d, vi (0 : Int32), vi p2, vi p2, vr b2] [(.int 16), (.int 0), (.ref b2), (.int 0), (.ref a0d)] _
    refine XS.iloadN X2.here hx rfl (dG hby D44 16 rfl) rfl ?_
    refine XS.isub X2.here hx rfl (dG hby D44 17 rfl) rfl ?_
    refine XS.iloadN X2.here hx rfl (dG hby D44 18 rfl) rfl ?_
    show SP p e below T2 m 24 #[vr a0d, vi (0 : Int32), vi p2, vi p2, vr b2] [(.int p2), (.int 16), (.int 0), (.ref b2), (.int 0), (.ref a0d)] _
    refine st4 _ ?_
    show SP p e below T4 m 27 #[vr a0d, vi (0 : Int32), vi p2, vi p2, vr b2] [(.int p2), (.int 0), (.ref b2), (.int 0), (.ref a0d)] _
    refine st5 _ ?_
    show SP p e below T5 m 30 #[vr a0d, vi (0 : Int32), vi p2, vi p2, vr b2] [] _
    refine XS.aload X5.here hx rfl (dG hby D44 21 rfl) rfl rfl ?_
    show SP p e below T5 m 32 #[vr a0d, vi (0 : Int32), vi p2, vi p2, vr b2] [(.ref b2)] _
    exact retA X5 hx Bd.returns rfl (dG hby D44 22 rfl) hr
  · show Q_rmCrb n0 Z cS aDE kDE aUS aSS aIE mO a0d p2 ky bs h0 _ T5.heap _
    rw [e5]
    exact ⟨b2, k2, (List.take ((0 : Int32)).toNatClampNeg (List.replicate (p2).toNatClampNeg (.int 0)) ++ ((List.range (p2).toNatClampNeg).map fun i => (bs).getD (((0 : Int32)).toNatClampNeg + i) (.int 0)) ++ List.drop (((0 : Int32)).toNatClampNeg + (p2).toNatClampNeg) (List.replicate (p2).toNatClampNeg (.int 0))), rfl, N5, K5, sz_b2, (A2'.keep Kc5), V5'⟩
theorem D43 : dL jdk_65_method_132_code [(0, .iload_n 1, 1), (1, .ifCond .ne 9, 3), (4, .iload_n 2, 1), (5, .aload_n 0, 1), (6, .arraylength, 1), (7, .if_icmp .eq 10, 3), (10, .aload_n 0, 1), (11, .iload_n 1, 1), (12, .iload_n 2, 1), (13, .invokestatic 339, 3), (16, .areturn, 1)] = true := by decide +kernel
theorem pdv13 : parseMethodDescriptor "([BII)[B" = some ⟨[(.array .byte), .int, .int], some (.array .byte)⟩ := by decide +kernel
abbrev MN_22 : MethodName := ⟨"java/util/Arrays", "copyOfRange", "([BII)[B"⟩
theorem ef_rmCr (m : MethodId) (a0d : Addr) (p2 : Int32) : entryFrame m #[(.ref a0d), (.int 0), (.int p2)] 3 = mkF m 0 #[vr a0d, vi (0 : Int32), vi p2] [] := by first | (simp [entryFrame, mkF, argsToLocals, Value.category]; done) | rfl
def Q_rmCr (n0 : Nat) (Z : State) (cS : Int32) (aDE : Addr) (kDE : ClassId) (aUS : Addr) (aSS : Addr) (aIE : Addr) (mO : Addr) (a0d : Addr) (p2 : Int32) (ky : ClassId) (bs : List Value) (h0 : Heap) (v : Option Value) (h : Heap) (L : List Loc) : Prop := ∃ b : Addr, ∃ kb : ClassId, ∃ us : List Value, v = some (.ref b) ∧ Fr n0 L ∧ Keep h0 h [] ∧ (h0.size ≤ b) ∧ (Exa Z h b "[B") ∧ (Arv Z h b kb .byte p2 us (.int 0))
theorem rmCr (l : Launch) (Z : State) (a0 : Array Value) (hw : ∀ d ∈ tables_1, d.before a0 Z = true) (ws : List Jvm.Cond) (cS : Int32) (aDE : Addr) (kDE : ClassId) (aUS : Addr) (aSS : Addr) (aIE : Addr) (mO : Addr) (a0d : Addr) (p2 : Int32) (ky : ClassId) (bs : List Value) (h0 : Heap) (n0 : Nat) (O0 : Old Z n0 h0) (GL : GF Z cS aDE kDE aUS aSS aIE mO) (V_a0d : Arv Z h0 a0d ky .byte (16 : Int32) bs (.int 0)) (hp0 : ¬ (p2 < (0 : Int32))) (hlt : p2 < (16 : Int32)) (hc6 : p2.toNatClampNeg ≤ 16) (hne : ¬ (p2 = (16 : Int32))) :
    MF l MN_22 jdk_65_method_132_code 3 (some (.array .byte)) ws (Rm 2 1 16 34) #[(.ref a0d), (.int 0), (.int p2)] Z h0 (Q_rmCr n0 Z cS aDE kDE aUS aSS aIE mO a0d p2 ky bs h0) := by
  refine MetFree.of_bodySF (plainFor_of_name pnv4) hisR ?_
  intro p e s m args below meth c s₁ Bd hml0 hP hK
  obtain ⟨rfl, hZ, hh⟩ := hP
  have hx := Bd.exec
  have hby := Bd.bytes
  have hml : c.maxLocals = 3 := hml0
  have hown : s.vm.findClass "java/util/Arrays" = some m.cls := findClass_of_methodNamed Bd.named
  have hnm := (name_of_methodNamed Bd.named Bd.method).1
  have X0 : Stand p l e (Rm 2 1 16 34) s m #[(.ref a0d), (.int 0), (.int p2)] below meth c s₁ [] 0 0 := Stand.of_body Bd
  have e0 : s₁.heap = h0 := by rw [← hh, Bd.state]; rfl
  have N0 := Fr.nil n0
  have pre0 : ∀ t, SP p e below s₁ m 0 #[vr a0d, vi (0 : Int32), vi p2] [] t → Steps p.tables e below (s₁.setTop (entryFrame m #[(.ref a0d), (.int 0), (.int p2)] 3)) t := fun t k => castTop (ef_rmCr m a0d p2) k
  have GL' := GL
  obtain ⟨GCS, GCP, GDE, GVE, GUS, GSS, GIE, GMO⟩ := GL'
  obtain ⟨cl1, Ar1, -, S1, N1_, -, -⟩ := id (V_a0d)
  obtain ⟨_, _, ⟨T2, L2, k2, n2⟩, -, X2, ⟨Lc2, hQ2, l2, y2, z2⟩, st2⟩ := Jvm.LawKit.callS X0 hx (y := MN_21) hown (mvT hZ (Wd hw 253 rfl)) (mvT hZ (Wd hw 254 rfl)) (mvT hZ (Wd hw 251 rfl)) (mvT hZ (Wd hw 255 rfl)) (by decide) (backOf (W := 0) (rmCrb l Z a0 hw [] cS aDE kDE aUS aSS aIE mO a0d p2 ky bs h0 n0 O0 GL V_a0d hp0 hlt hc6) hZ (Wd hw 255 rfl) (Wd hw 251 rfl) (by decide) (by decide)) (g := mkF m 13 #[vr a0d, vi (0 : Int32), vi p2] [(.int p2), (.int 0), (.ref a0d)]) rfl (by rw [hml]; rfl) (argsL := [(.ref a0d), (.int 0), (.int p2)]) (rest := []) (lenOf pdv13 rfl) rfl (by show 2 * 0 + _ ≤ _; exact lEq rfl) (dG hby D43 9 rfl) (fun _ _ => ⟨rfl, e0, (by decide : 0 + 1 ≤ _), (by decide : 0 + 16 ≤ _)⟩)
  dsimp only [Pt.U, Pt.locs, Pt.cells, Pt.slots] at X2 l2 y2 z2 st2 hQ2
  subst l2 y2 z2
  obtain ⟨b_2, kb_2, us_2, rfl, N2q, Kc2, P2_0, P2_1, P2_2⟩ := hQ2
  have K2 : Keep h0 T2.heap [] := (Keep.refl h0 []).trans Kc2 all0
  have O2 := O0.keep Kc2 all0
  have g_b_2 : n0 ≤ b_2 := lTr (own_sz O0) P2_0
  have sz_b_2 : h0.size ≤ b_2 := lTr (Keep.refl h0 []).1 P2_0
  have N2 := Fr.app N0 N2q
  obtain ⟨fs, hr, hrun, hended, hW, hsame⟩ := X2.leave (v := some (.ref b_2)) (fun h => by rw [Bd.returns] at h; cases h)
  refine ⟨_, _, pre0 _ ?_, hrun, hended, _, _, rfl, ?_, ⟨_, rfl⟩, hW, hsame.mono (by decide) (by decide)⟩
  · show SP p e below s₁ m 0 #[vr a0d, vi (0 : Int32), vi p2] [] _
    refine XS.iloadN X0.here hx rfl (dG hby D43 0 rfl) rfl ?_
    refine XS.ifNo X0.here hx rfl (dG hby D43 1 rfl) rfl ((if0 _ _).trans (teq (by decide : (0 : Int32) = (0 : Int32))).2) ?_
    refine XS.iloadN X0.here hx rfl (dG hby D43 2 rfl) rfl ?_
    refine XS.aloadN X0.here hx rfl (dG hby D43 3 rfl) rfl rfl ?_
    show SP p e below s₁ m 6 #[vr a0d, vi (0 : Int32), vi p2] [(.ref a0d), (.int p2)] _
    refine X0.arraylength hx (by rw [e0]; exact Ar1.1) (State.isArrayOf_alike hZ.alike Ar1.2.1) (g := mkF m 6 #[vr a0d, vi (0 : Int32), vi p2] [(.ref a0d), (.int p2)]) rfl rfl (dG hby D43 4 rfl) _ ?_
    rw [len_of S1 N1_]
    show SP p e below s₁ m 7 #[vr a0d, vi (0 : Int32), vi p2] [(.int 16), (.int p2)] _
    refine XS.icmpNo X0.here hx rfl (dG hby D43 5 rfl) rfl (feq hne).1 ?_
    refine XS.aloadN X0.here hx rfl (dG hby D43 6 rfl) rfl rfl ?_
    refine XS.iloadN X0.here hx rfl (dG hby D43 7 rfl) rfl ?_
    refine XS.iloadN X0.here hx rfl (dG hby D43 8 rfl) rfl ?_
    show SP p e below s₁ m 13 #[vr a0d, vi (0 : Int32), vi p2] [(.int p2), (.int 0), (.ref a0d)] _
    refine st2 _ ?_
    show SP p e below T2 m 16 #[vr a0d, vi (0 : Int32), vi p2] [(.ref b_2)] _
    exact retA X2 hx Bd.returns rfl (dG hby D43 10 rfl) hr
  · show Q_rmCr n0 Z cS aDE kDE aUS aSS aIE mO a0d p2 ky bs h0 _ T2.heap _
    exact ⟨b_2, kb_2, us_2, rfl, N2, K2, sz_b_2, P2_1, P2_2⟩
theorem D38 : dL jdk_42_method_150_code [(0, .aload_n 0, 1), (1, .invokespecial 1, 3), (4, .aload_n 1, 1), (5, .invokevirtual 552, 3), (8, .astore_n 3, 1), (9, .aload_n 1, 1), (10, .invokevirtual 549, 3), (13, .istore 4, 2), (15, .aload_n 1, 1), (16, .invokevirtual 1047, 3), (19, .ifCond .eq 22, 3), (22, .aload_n 0, 1), (23, .iconst 0, 1), (24, .putfield 15, 3), (27, .aload_n 0, 1), (28, .aload_n 3, 1), (29, .iconst 0, 1), (30, .iload 4, 2), (32, .invokestatic 54, 3), (35, .putfield 9, 3), (38, .goto 59, 3), (97, .return_, 1)] = true := by decide +kernel
theorem pdv14 : parseMethodDescriptor "()[B" = some ⟨[], some (.array .byte)⟩ := by decide +kernel
theorem pdv15 : parseMethodDescriptor "()Z" = some ⟨[], some .boolean⟩ := by decide +kernel
abbrev MN_23 : MethodName := ⟨"java/lang/String", "<init>", "(Ljava/lang/AbstractStringBuilder;Ljava/lang/Void;)V"⟩
theorem ef_rmSi (m : MethodId) (a0s : Addr) (a1b : Addr) : entryFrame m #[(.ref a0s), (.ref a1b), .null] 5 = mkF m 0 #[vr a0s, vr a1b, .val .null, .unset, .unset] [] := by first | (simp [entryFrame, mkF, argsToLocals, Value.category]; done) | rfl
def Q_rmSi (n0 : Nat) (Z : State) (cS : Int32) (aDE : Addr) (kDE : ClassId) (aUS : Addr) (aSS : Addr) (aIE : Addr) (mO : Addr) (a0s : Addr) (a1b : Addr) (y : Addr) (ky : ClassId) (bs : List Value) (kc : Int32) (h0 : Heap) (v : Option Value) (h : Heap) (L : List Loc) : Prop := v = none ∧ Fr n0 L ∧ Keep h0 h [a0s] ∧ (Exa Z h a0s "java/lang/String")
theorem rmSi (l : Launch) (Z : State) (a0 : Array Value) (hw : ∀ d ∈ tables_1, d.before a0 Z = true) (ws : List Jvm.Cond) (cS : Int32) (aDE : Addr) (kDE : ClassId) (aUS : Addr) (aSS : Addr) (aIE : Addr) (mO : Addr) (a0s : Addr) (a1b : Addr) (y : Addr) (ky : ClassId) (bs : List Value) (kc : Int32) (h0 : Heap) (n0 : Nat) (O0 : Old Z n0 h0) (GL : GF Z cS aDE kDE aUS aSS aIE mO) (E_a0s : Exa Z h0 a0s "java/lang/String") (F_value_a0s : Fld Z h0 a0s "java/lang/String" "value" "[B" .null) (F_coder_a0s : Fld Z h0 a0s "java/lang/String" "coder" "B" (.int 0)) (g_a0s : n0 ≤ a0s) (E_a1b : Exa Z h0 a1b "java/lang/StringBuilder") (F_value_a1b : Fld Z h0 a1b "java/lang/AbstractStringBuilder" "value" "[B" (.ref y)) (F_coder_a1b : Fld Z h0 a1b "java/lang/AbstractStringBuilder" "coder" "B" (.int 0)) (F_count_a1b : Fld Z h0 a1b "java/lang/AbstractStringBuilder" "count" "I" (.int kc)) (V_y : Arv Z h0 y ky .byte (16 : Int32) bs (.int 0)) (hp0 : ¬ (kc < (0 : Int32))) (hlt : kc < (16 : Int32)) (hc6 : kc.toNatClampNeg ≤ 16) (hne : ¬ (kc = (16 : Int32))) :
    MF l MN_23 jdk_42_method_150_code 5 none ws (Rm 3 1 16 49) #[(.ref a0s), (.ref a1b), .null] Z h0 (Q_rmSi n0 Z cS aDE kDE aUS aSS aIE mO a0s a1b y ky bs kc h0) := by
  refine MetFree.of_bodySF (plainFor_of_name pnv1) hisR ?_
  intro p e s m args below meth c s₁ Bd hml0 hP hK
  obtain ⟨rfl, hZ, hh⟩ := hP
  have hx := Bd.exec
  have hby := Bd.bytes
  have hml : c.maxLocals = 5 := hml0
  have hown : s.vm.findClass "java/lang/String" = some m.cls := findClass_of_methodNamed Bd.named
  have hnm := (name_of_methodNamed Bd.named Bd.method).1
  have X0 : Stand p l e (Rm 3 1 16 49) s m #[(.ref a0s), (.ref a1b), .null] below meth c s₁ [] 0 0 := Stand.of_body Bd
  have e0 : s₁.heap = h0 := by rw [← hh, Bd.state]; rfl
  have N0 := Fr.nil n0
  have pre0 : ∀ t, SP p e below s₁ m 0 #[vr a0s, vr a1b, .val .null, .unset, .unset] [] t → Steps p.tables e below (s₁.setTop (entryFrame m #[(.ref a0s), (.ref a1b), .null] 5)) t := fun t k => castTop (ef_rmSi m a0s a1b) k
  have GL' := GL
  obtain ⟨GCS, GCP, GDE, GVE, GUS, GSS, GIE, GMO⟩ := GL'
  obtain ⟨T1, X1, e1, st1⟩ := initO X0 hx hZ hown (Wd hw 15 rfl) (Wd hw 16 rfl) (Wd hw 17 rfl) e0 (g := mkF m 1 #[vr a0s, vr a1b, .val .null, .unset, .unset] [(.ref a0s)]) rfl (by rw [hml]; rfl) rfl (dG hby D38 1 rfl) (by decide) (W := 0) (by show 2 * 0 + _ ≤ _; exact lEq rfl) (by decide)
  obtain ⟨cq2, kq2, q2a, q2b, q2c⟩ := isOf hZ e1 E_a1b
  obtain ⟨_, _, ⟨T2, L2, k2, n2⟩, -, X2, ⟨Lc2, hQ2, l2, y2, z2⟩, st2⟩ := X1.virtualBack hx (y := MN_16) (z := MN_16) hown (mvT hZ (Wd hw 231 rfl)) (mvT hZ (Wd hw 232 rfl)) (notFace_of_selects (args := #[]) (mvT hZ (Wd hw 234 rfl))) (mvT hZ (Wd hw 234 rfl)) (mvT hZ (Wd hw 233 rfl)) (by decide) (backOf (W := 0) (rmGv l Z a0 hw [] cS aDE kDE aUS aSS aIE mO a1b y h0 n0 O0 GL E_a1b F_value_a1b) hZ (Wd hw 235 rfl) (Wd hw 161 rfl) (by decide) (by decide)) q2a q2c (g := mkF m 5 #[vr a0s, vr a1b, .val .null, .unset, .unset] [(.ref a1b)]) rfl (by rw [hml]; rfl) (Steps.refl _) (argsL := []) (rest := []) (lenOf pdv14 rfl) rfl (by show 2 * 0 + _ ≤ _; exact lEq rfl) (dG hby D38 3 rfl) (fun _ _ => ⟨rfl, e1, (by decide : 0 + 0 ≤ _), (by decide : 0 + 0 ≤ _)⟩)
  dsimp only [Pt.U, Pt.locs, Pt.cells, Pt.slots] at X2 l2 y2 z2 st2 hQ2
  subst l2 y2 z2
  obtain ⟨rfl, N2q, e2⟩ := hQ2
  have N2 := Fr.app N0 N2q
  obtain ⟨cq3, kq3, q3a, q3b, q3c⟩ := isOf hZ e2 E_a1b
  obtain ⟨_, _, ⟨T3, L3, k3, n3⟩, -, X3, ⟨Lc3, hQ3, l3, y3, z3⟩, st3⟩ := X2.virtualBack hx (y := MN_17) (z := MN_18) hown (mvT hZ (Wd hw 236 rfl)) (mvT hZ (Wd hw 237 rfl)) (own_nf (args := #[]) (mvT hZ (Wd hw 194 rfl)) rfl) (mvT hZ (Wd hw 239 rfl)) (mvT hZ (Wd hw 240 rfl)) (by decide) (backOf (W := 0) (rmSl l Z a0 hw [] cS aDE kDE aUS aSS aIE mO a1b kc h0 n0 O0 GL E_a1b F_count_a1b) hZ (Wd hw 241 rfl) (Wd hw 153 rfl) (by decide) (by decide)) q3a q3c (g := mkF m 10 #[vr a0s, vr a1b, .val .null, vr y, .unset] [(.ref a1b)]) rfl (by rw [hml]; rfl) (Steps.refl _) (argsL := []) (rest := []) (lenOf pdv8 rfl) rfl (by show 2 * 0 + _ ≤ _; exact lEq rfl) (dG hby D38 6 rfl) (fun _ _ => ⟨rfl, e2, (by decide : 0 + 0 ≤ _), (by decide : 0 + 0 ≤ _)⟩)
  dsimp only [Pt.U, Pt.locs, Pt.cells, Pt.slots] at X3 l3 y3 z3 st3 hQ3
  subst l3 y3 z3
  obtain ⟨rfl, N3q, e3⟩ := hQ3
  have N3 := Fr.app N2 N3q
  obtain ⟨cq4, kq4, q4a, q4b, q4c⟩ := isOf hZ e3 E_a1b
  obtain ⟨_, _, ⟨T4, L4, k4, n4⟩, -, X4, ⟨Lc4, hQ4, l4, y4, z4⟩, st4⟩ := X3.virtualBack hx (y := MN_19) (z := MN_19) hown (mvT hZ (Wd hw 244 rfl)) (mvT hZ (Wd hw 245 rfl)) (notFace_of_selects (args := #[]) (mvT hZ (Wd hw 247 rfl))) (mvT hZ (Wd hw 247 rfl)) (mvT hZ (Wd hw 246 rfl)) (by decide) (backOf (W := 0) (rmIl l Z a0 hw [] cS aDE kDE aUS aSS aIE mO a1b h0 n0 O0 GL F_coder_a1b) hZ (Wd hw 248 rfl) (Wd hw 161 rfl) (by decide) (by decide)) q4a q4c (g := mkF m 16 #[vr a0s, vr a1b, .val .null, vr y, vi kc] [(.ref a1b)]) rfl (by rw [hml]; rfl) (Steps.refl _) (argsL := []) (rest := []) (lenOf pdv15 rfl) rfl (by show 2 * 0 + _ ≤ _; exact lEq rfl) (dG hby D38 9 rfl) (fun _ _ => ⟨rfl, e3, (by decide : 0 + 0 ≤ _), (by decide : 0 + 0 ≤ _)⟩)
  dsimp only [Pt.U, Pt.locs, Pt.cells, Pt.slots] at X4 l4 y4 z4 st4 hQ4
  subst l4 y4 z4
  obtain ⟨rfl, N4q, e4⟩ := hQ4
  have N4 := Fr.app N3 N4q
  obtain ⟨T5, h5, X5, e5, W5, st5⟩ := putFN X4 hx hZ hown (Wd hw 30 rfl) Via.refl e4 F_coder_a0s E_a0s (Or.inr ⟨(Wd hw 31 rfl), rfl, hnm⟩) (Wd hw 6 rfl) (ty := .byte) (v' := (.int 0)) (by decide) rfl (by decide) (g := mkF m 24 #[vr a0s, vr a1b, .val .null, vr y, vi kc] [(.int 0), (.ref a0s)]) rfl rfl (dG hby D38 13 rfl)
  have Fw5 := F_coder_a0s.same W5
  have K5 : Keep h0 h5 [a0s] := (Keep.refl h0 [a0s]).wr W5 (Or.inl (List.mem_of_getElem? (i := 0) rfl))
  have O5 := O0.wr W5 g_a0s
  have N5 := Fr.snoc X5 N4 g_a0s
  obtain ⟨_, _, ⟨T6, L6, k6, n6⟩, -, X6, ⟨Lc6, hQ6, l6, y6, z6⟩, st6⟩ := Jvm.LawKit.callS X5 hx (y := MN_22) hown (mvT hZ (Wd hw 249 rfl)) (mvT hZ (Wd hw 250 rfl)) (mvT hZ (Wd hw 251 rfl)) (mvT hZ (Wd hw 252 rfl)) (by decide) (backOf (W := 1) (rmCr l Z a0 hw [] cS aDE kDE aUS aSS aIE mO y kc ky bs h5 n0 O5 GL (V_y.other W5 (Ne.symm (Exa.neArv (a0 := a0) E_a0s V_y (Wd hw 6 rfl)))) hp0 hlt hc6 hne) hZ (Wd hw 252 rfl) (Wd hw 251 rfl) (by decide) (by decide)) (g := mkF m 32 #[vr a0s, vr a1b, .val .null, vr y, vi kc] [(.int kc), (.int 0), (.ref y), (.ref a0s)]) rfl (by rw [hml]; rfl) (argsL := [(.ref y), (.int 0), (.int kc)]) (rest := [(.ref a0s)]) (lenOf pdv13 rfl) rfl (by show 2 * 0 + _ ≤ _; exact lEq rfl) (dG hby D38 18 rfl) (fun _ _ => ⟨rfl, e5, (by decide : 0 + 1 ≤ _), (by decide : 0 + 16 ≤ _)⟩)
  dsimp only [Pt.U, Pt.locs, Pt.cells, Pt.slots] at X6 l6 y6 z6 st6 hQ6
  subst l6 y6 z6
  obtain ⟨b_6, kb_6, us_6, rfl, N6q, Kc6, P6_0, P6_1, P6_2⟩ := hQ6
  have K6 : Keep h0 T6.heap [a0s] := K5.trans Kc6 all0
  have O6 := O5.keep Kc6 all0
  have g_b_6 : n0 ≤ b_6 := lTr (own_sz O5) P6_0
  have sz_b_6 : h0.size ≤ b_6 := lTr K5.1 P6_0
  have N6 := Fr.app N5 N6q
  obtain ⟨T7, h7, X7, e7, W7, st7⟩ := putF X6 hx hZ hown (host := "") (Or.inl (Wd hw 32 rfl)) Via.refl rfl ((F_value_a0s.other W5 (Or.inr (slot_ne (a0 := a0) (Or.inr (Wd hw 33 rfl)) (Or.inr (Wd hw 31 rfl)) (by decide) (t := (.array .byte)) (t' := .byte) (by decide) (by decide)))).keep Kc6 nin0) ((E_a0s.wr W5).keep Kc6) (Or.inr ⟨(Wd hw 33 rfl), rfl, hnm⟩) (Wd hw 6 rfl) (ty := (.array .byte)) (by decide) rfl rfl (g := mkF m 35 #[vr a0s, vr a1b, .val .null, vr y, vi kc] [(.ref b_6), (.ref a0s)]) rfl rfl (dG hby D38 19 rfl)
  have Fw7 := ((F_value_a0s.other W5 (Or.inr (slot_ne (a0 := a0) (Or.inr (Wd hw 33 rfl)) (Or.inr (Wd hw 31 rfl)) (by decide) (t := (.array .byte)) (t' := .byte) (by decide) (by decide)))).keep Kc6 nin0).same W7
  have K7 : Keep h0 h7 [a0s] := K6.wr W7 (Or.inl (List.mem_of_getElem? (i := 0) rfl))
  have O7 := O6.wr W7 g_a0s
  have N7 := Fr.snoc X7 N6 g_a0s
  obtain ⟨fs, hr, hrun, hended, hW, hsame⟩ := X7.leave (v := none) (fun _ => rfl)
  refine ⟨_, _, pre0 _ ?_, hrun, hended, _, _, rfl, ?_, ⟨_, rfl⟩, hW, hsame.mono (by decide) (by decide)⟩
  · show SP p e below s₁ m 0 #[vr a0s, vr a1b, .val .null, .unset, .unset] [] _
    refine XS.aloadN X0.here hx rfl (dG hby D38 0 rfl) rfl rfl ?_
    show SP p e below s₁ m 1 #[vr a0s, vr a1b, .val .null, .unset, .unset] [(.ref a0s)] _
    refine st1 _ ?_
    show SP p e below T1 m 4 #[vr a0s, vr a1b, .val .null, .unset, .unset] [] _
    refine XS.aloadN X1.here hx rfl (dG hby D38 2 rfl) rfl rfl ?_
    show SP p e below T1 m 5 #[vr a0s, vr a1b, .val .null, .unset, .unset] [(.ref a1b)] _
    refine st2.trans ?_
    show SP p e below T2 m 8 #[vr a0s, vr a1b, .val .null, .unset, .unset] [(.ref y)] _
    refine XS.astoreN X2.here hx rfl (dG hby D38 4 rfl) rfl rfl (l' := #[vr a0s, vr a1b, .val .null, vr y, .unset]) rfl ?_
    refine XS.aloadN X2.here hx rfl (dG hby D38 5 rfl) rfl rfl ?_
    show SP p e below T2 m 10 #[vr a0s, vr a1b, .val .null, vr y, .unset] [(.ref a1b)] _
    refine st3.trans ?_
    show SP p e below T3 m 13 #[vr a0s, vr a1b, .val .null, vr y, .unset] [(.int kc)] _
    refine XS.istore X3.here hx rfl (dG hby D38 7 rfl) rfl (l' := #[vr a0s, vr a1b, .val .null, vr y, vi kc]) rfl ?_
    refine XS.aloadN X3.here hx rfl (dG hby D38 8 rfl) rfl rfl ?_
    show SP p e below T3 m 16 #[vr a0s, vr a1b, .val .null, vr y, vi kc] [(.ref a1b)] _
    refine st4.trans ?_
    show SP p e below T4 m 19 #[vr a0s, vr a1b, .val .null, vr y, vi kc] [(.int 1)] _
    refine XS.ifNo X4.here hx rfl (dG hby D38 10 rfl) rfl ((if0 _ _).trans (feq (by decide : ¬ ((1 : Int32) = (0 : Int32)))).1) ?_
    refine XS.aloadN X4.here hx rfl (dG hby D38 11 rfl) rfl rfl ?_
    refine XS.iconst X4.here hx rfl (dG hby D38 12 rfl) ?_
    show SP p e below T4 m 24 #[vr a0s, vr a1b, .val .null, vr y, vi kc] [(.int 0), (.ref a0s)] _
    refine st5 _ ?_
    show SP p e below T5 m 27 #[vr a0s, vr a1b, .val .null, vr y, vi kc] [] _
    refine XS.aloadN X5.here hx rfl (dG hby D38 14 rfl) rfl rfl ?_
    refine XS.aloadN X5.here hx rfl (dG hby D38 15 rfl) rfl rfl ?_
    refine XS.iconst X5.here hx rfl (dG hby D38 16 rfl) ?_
    refine XS.iload X5.here hx rfl (dG hby D38 17 rfl) rfl ?_
    show SP p e below T5 m 32 #[vr a0s, vr a1b, .val .null, vr y, vi kc] [(.int kc), (.int 0), (.ref y), (.ref a0s)] _
    refine st6 _ ?_
    show SP p e below T6 m 35 #[vr a0s, vr a1b, .val .null, vr y, vi kc] [(.ref b_6), (.ref a0s)] _
    refine st7 _ ?_
    show SP p e below T7 m 38 #[vr a0s, vr a1b, .val .null, vr y, vi kc] [] _
    refine XS.goto X7.here hx rfl (pc0 := 38) (pc' := 97) rfl (dG hby D38 20 rfl) (by decide) (by decide) ?_
    show SP p e below T7 m 97 #[vr a0s, vr a1b, .val .null, vr y, vi kc] [] _
    exact X7.returnOut hx Bd.returns (dG hby D38 21 rfl) hr
  · show Q_rmSi n0 Z cS aDE kDE aUS aSS aIE mO a0s a1b y ky bs kc h0 _ T7.heap _
    rw [e7]
    exact ⟨rfl, N7, K7, (((E_a0s.wr W5).keep Kc6).wr W7)⟩
theorem D37 : dL jdk_42_method_53_code [(0, .aload_n 0, 1), (1, .aload_n 1, 1), (2, .aconst_null, 1), (3, .invokespecial 489, 3), (6, .return_, 1)] = true := by decide +kernel
theorem pdv16 : parseMethodDescriptor "(Ljava/lang/AbstractStringBuilder;Ljava/lang/Void;)V" = some ⟨[(.object "java/lang/AbstractStringBuilder"), (.object "java/lang/Void")], none⟩ := by decide +kernel
abbrev MN_24 : MethodName := ⟨"java/lang/String", "<init>", "(Ljava/lang/StringBuilder;)V"⟩
theorem ef_rmSj (m : MethodId) (a0s : Addr) (a1b : Addr) : entryFrame m #[(.ref a0s), (.ref a1b)] 2 = mkF m 0 #[vr a0s, vr a1b] [] := by first | (simp [entryFrame, mkF, argsToLocals, Value.category]; done) | rfl
def Q_rmSj (n0 : Nat) (Z : State) (cS : Int32) (aDE : Addr) (kDE : ClassId) (aUS : Addr) (aSS : Addr) (aIE : Addr) (mO : Addr) (a0s : Addr) (a1b : Addr) (y : Addr) (ky : ClassId) (bs : List Value) (kc : Int32) (h0 : Heap) (v : Option Value) (h : Heap) (L : List Loc) : Prop := v = none ∧ Fr n0 L ∧ Keep h0 h [a0s] ∧ (Exa Z h a0s "java/lang/String")
theorem rmSj (l : Launch) (Z : State) (a0 : Array Value) (hw : ∀ d ∈ tables_1, d.before a0 Z = true) (ws : List Jvm.Cond) (cS : Int32) (aDE : Addr) (kDE : ClassId) (aUS : Addr) (aSS : Addr) (aIE : Addr) (mO : Addr) (a0s : Addr) (a1b : Addr) (y : Addr) (ky : ClassId) (bs : List Value) (kc : Int32) (h0 : Heap) (n0 : Nat) (O0 : Old Z n0 h0) (GL : GF Z cS aDE kDE aUS aSS aIE mO) (E_a0s : Exa Z h0 a0s "java/lang/String") (F_value_a0s : Fld Z h0 a0s "java/lang/String" "value" "[B" .null) (F_coder_a0s : Fld Z h0 a0s "java/lang/String" "coder" "B" (.int 0)) (g_a0s : n0 ≤ a0s) (E_a1b : Exa Z h0 a1b "java/lang/StringBuilder") (F_value_a1b : Fld Z h0 a1b "java/lang/AbstractStringBuilder" "value" "[B" (.ref y)) (F_coder_a1b : Fld Z h0 a1b "java/lang/AbstractStringBuilder" "coder" "B" (.int 0)) (F_count_a1b : Fld Z h0 a1b "java/lang/AbstractStringBuilder" "count" "I" (.int kc)) (V_y : Arv Z h0 y ky .byte (16 : Int32) bs (.int 0)) (hp0 : ¬ (kc < (0 : Int32))) (hlt : kc < (16 : Int32)) (hc6 : kc.toNatClampNeg ≤ 16) (hne : ¬ (kc = (16 : Int32))) :
    MF l MN_24 jdk_42_method_53_code 2 none ws (Rm 4 1 16 65) #[(.ref a0s), (.ref a1b)] Z h0 (Q_rmSj n0 Z cS aDE kDE aUS aSS aIE mO a0s a1b y ky bs kc h0) := by
  refine MetFree.of_bodySF (plainFor_of_name pnv1) hisR ?_
  intro p e s m args below meth c s₁ Bd hml0 hP hK
  obtain ⟨rfl, hZ, hh⟩ := hP
  have hx := Bd.exec
  have hby := Bd.bytes
  have hml : c.maxLocals = 2 := hml0
  have hown : s.vm.findClass "java/lang/String" = some m.cls := findClass_of_methodNamed Bd.named
  have hnm := (name_of_methodNamed Bd.named Bd.method).1
  have X0 : Stand p l e (Rm 4 1 16 65) s m #[(.ref a0s), (.ref a1b)] below meth c s₁ [] 0 0 := Stand.of_body Bd
  have e0 : s₁.heap = h0 := by rw [← hh, Bd.state]; rfl
  have N0 := Fr.nil n0
  have pre0 : ∀ t, SP p e below s₁ m 0 #[vr a0s, vr a1b] [] t → Steps p.tables e below (s₁.setTop (entryFrame m #[(.ref a0s), (.ref a1b)] 2)) t := fun t k => castTop (ef_rmSj m a0s a1b) k
  have GL' := GL
  obtain ⟨GCS, GCP, GDE, GVE, GUS, GSS, GIE, GMO⟩ := GL'
  obtain ⟨_, _, ⟨T1, L1, k1, n1⟩, -, X1, ⟨Lc1, hQ1, l1, y1, z1⟩, st1⟩ := X0.specialBack hx (y := MN_23) rfl hown (mvT hZ (Wd hw 228 rfl)) (mvT hZ (Wd hw 229 rfl)) (mvT hZ (Wd hw 230 rfl)) (by decide) (backOf (W := 0) (rmSi l Z a0 hw [] cS aDE kDE aUS aSS aIE mO a0s a1b y ky bs kc h0 n0 O0 GL E_a0s F_value_a0s F_coder_a0s g_a0s E_a1b F_value_a1b F_coder_a1b F_count_a1b V_y hp0 hlt hc6 hne) hZ (Wd hw 230 rfl) (Wd hw 7 rfl) (by decide) (by decide)) (g := mkF m 3 #[vr a0s, vr a1b] [.null, (.ref a1b), (.ref a0s)]) rfl (by rw [hml]; rfl) (Steps.refl _) (a := a0s) (argsL := [(.ref a1b), .null]) (rest := []) (lenOf pdv16 rfl) rfl (by show 2 * 0 + _ ≤ _; exact lEq rfl) (dG hby D37 3 rfl) (fun _ _ => ⟨rfl, e0, (by decide : 0 + 1 ≤ _), (by decide : 0 + 16 ≤ _)⟩)
  dsimp only [Pt.U, Pt.locs, Pt.cells, Pt.slots] at X1 l1 y1 z1 st1 hQ1
  subst l1 y1 z1
  obtain ⟨rfl, N1q, Kc1, P1_0⟩ := hQ1
  have K1 : Keep h0 T1.heap [a0s] := (Keep.refl h0 [a0s]).trans Kc1 (allS (Or.inl (List.mem_of_getElem? (i := 0) rfl)) all0)
  have O1 := O0.keep Kc1 (allS g_a0s all0)
  have N1 := Fr.app N0 N1q
  obtain ⟨fs, hr, hrun, hended, hW, hsame⟩ := X1.leave (v := none) (fun _ => rfl)
  refine ⟨_, _, pre0 _ ?_, hrun, hended, _, _, rfl, ?_, ⟨_, rfl⟩, hW, hsame.mono (by decide) (by decide)⟩
  · show SP p e below s₁ m 0 #[vr a0s, vr a1b] [] _
    refine XS.aloadN X0.here hx rfl (dG hby D37 0 rfl) rfl rfl ?_
    refine XS.aloadN X0.here hx rfl (dG hby D37 1 rfl) rfl rfl ?_
    refine XS.aconstNull X0.here hx rfl (dG hby D37 2 rfl) ?_
    show SP p e below s₁ m 3 #[vr a0s, vr a1b] [.null, (.ref a1b), (.ref a0s)] _
    refine st1.trans ?_
    show SP p e below T1 m 6 #[vr a0s, vr a1b] [] _
    exact X1.returnOut hx Bd.returns (dG hby D37 4 rfl) hr
  · show Q_rmSj n0 Z cS aDE kDE aUS aSS aIE mO a0s a1b y ky bs kc h0 _ T1.heap _
    exact ⟨rfl, N1, K1, P1_0⟩
theorem D36 : dL jdk_67_method_42_code [(0, .new 18, 3), (3, .dup, 1), (4, .aload_n 0, 1), (5, .invokespecial 137, 3), (8, .areturn, 1)] = true := by decide +kernel
theorem pdv17 : parseMethodDescriptor "(Ljava/lang/StringBuilder;)V" = some ⟨[(.object "java/lang/StringBuilder")], none⟩ := by decide +kernel
abbrev MN_25 : MethodName := ⟨"java/lang/StringBuilder", "toString", "()Ljava/lang/String;"⟩
def Q_rmTs (n0 : Nat) (Z : State) (cS : Int32) (aDE : Addr) (kDE : ClassId) (aUS : Addr) (aSS : Addr) (aIE : Addr) (mO : Addr) (a0b : Addr) (y : Addr) (ky : ClassId) (bs : List Value) (kc : Int32) (h0 : Heap) (v : Option Value) (h : Heap) (L : List Loc) : Prop := ∃ b : Addr, v = some (.ref b) ∧ Fr n0 L ∧ Keep h0 h [] ∧ (h0.size ≤ b) ∧ (Exa Z h b "java/lang/String")
theorem rmTs (l : Launch) (Z : State) (a0 : Array Value) (hw : ∀ d ∈ tables_1, d.before a0 Z = true) (ws : List Jvm.Cond) (cS : Int32) (aDE : Addr) (kDE : ClassId) (aUS : Addr) (aSS : Addr) (aIE : Addr) (mO : Addr) (a0b : Addr) (y : Addr) (ky : ClassId) (bs : List Value) (kc : Int32) (h0 : Heap) (n0 : Nat) (O0 : Old Z n0 h0) (GL : GF Z cS aDE kDE aUS aSS aIE mO) (E_a0b : Exa Z h0 a0b "java/lang/StringBuilder") (F_value_a0b : Fld Z h0 a0b "java/lang/AbstractStringBuilder" "value" "[B" (.ref y)) (F_coder_a0b : Fld Z h0 a0b "java/lang/AbstractStringBuilder" "coder" "B" (.int 0)) (F_count_a0b : Fld Z h0 a0b "java/lang/AbstractStringBuilder" "count" "I" (.int kc)) (V_y : Arv Z h0 y ky .byte (16 : Int32) bs (.int 0)) (hp0 : ¬ (kc < (0 : Int32))) (hlt : kc < (16 : Int32)) (hc6 : kc.toNatClampNeg ≤ 16) (hne : ¬ (kc = (16 : Int32))) :
    MF l MN_25 jdk_67_method_42_code 1 (some (.object "java/lang/String")) ws (Rm 5 2 20 79) #[(.ref a0b)] Z h0 (Q_rmTs n0 Z cS aDE kDE aUS aSS aIE mO a0b y ky bs kc h0) := by
  refine MetFree.of_bodySF (plainFor_of_name pnv3) hisR ?_
  intro p e s m args below meth c s₁ Bd hml0 hP hK
  obtain ⟨rfl, hZ, hh⟩ := hP
  have hx := Bd.exec
  have hby := Bd.bytes
  have hml : c.maxLocals = 1 := hml0
  have hown : s.vm.findClass "java/lang/StringBuilder" = some m.cls := findClass_of_methodNamed Bd.named
  have hnm := (name_of_methodNamed Bd.named Bd.method).1
  have X0 : Stand p l e (Rm 5 2 20 79) s m #[(.ref a0b)] below meth c s₁ [] 0 0 := Stand.of_body Bd
  have e0 : s₁.heap = h0 := by rw [← hh, Bd.state]; rfl
  have N0 := Fr.nil n0
  have pre0 : ∀ t, SP p e below s₁ m 0 #[vr a0b] [] t → Steps p.tables e below (s₁.setTop (entryFrame m #[(.ref a0b)] 1)) t := fun t k => castTop (ef_rmSb m a0b) k
  have GL' := GL
  obtain ⟨GCS, GCP, GDE, GVE, GUS, GSS, GIE, GMO⟩ := GL'
  obtain ⟨T1, h1, X1, e1, E1, A1, D1, -, st1⟩ := newO X0 hx hZ hown (Wd hw 224 rfl) (Wd hw 6 rfl) (Wd hw 7 rfl) e0 (g := mkF m 0 #[vr a0b] []) rfl (dG hby D36 0 rfl) (by decide) (by decide)
  obtain ⟨b1, g1⟩ : ∃ z, z = h0.size := ⟨_, rfl⟩
  rw [← g1] at A1 D1 st1
  have g_b1 : n0 ≤ b1 := lTr (own_sz O0) (lEq g1.symm)
  have sz_b1 : h0.size ≤ b1 := lTr (Keep.refl h0 []).1 (lEq g1.symm)
  have K1 : Keep h0 h1 [] := (Keep.refl h0 []).ext E1
  have O1 := O0.ext E1
  have F_coder_b1 : Fld Z h1 b1 "java/lang/String" "coder" "B" (.int 0) := D1 (Or.inr (Wd hw 31 rfl)) (ty := .byte) (by decide)
  have F_value_b1 : Fld Z h1 b1 "java/lang/String" "value" "[B" .null := D1 (Or.inr (Wd hw 33 rfl)) (ty := (.array .byte)) (by decide)
  obtain ⟨_, _, ⟨T2, L2, k2, n2⟩, -, X2, ⟨Lc2, hQ2, l2, y2, z2⟩, st2⟩ := X1.specialBack hx (y := MN_24) rfl hown (mvT hZ (Wd hw 225 rfl)) (mvT hZ (Wd hw 226 rfl)) (mvT hZ (Wd hw 227 rfl)) (by decide) (backOf (W := 1) (rmSj l Z a0 hw [] cS aDE kDE aUS aSS aIE mO b1 a0b y ky bs kc h1 n0 O1 GL A1 F_value_b1 F_coder_b1 g_b1 (E_a0b.ext E1) (F_value_a0b.ext E1) (F_coder_a0b.ext E1) (F_count_a0b.ext E1) (V_y.ext E1) hp0 hlt hc6 hne) hZ (Wd hw 227 rfl) (Wd hw 7 rfl) (by decide) (by decide)) (g := mkF m 5 #[vr a0b] [(.ref a0b), (.ref b1), (.ref b1)]) rfl (by rw [hml]; rfl) (Steps.refl _) (a := b1) (argsL := [(.ref a0b)]) (rest := [(.ref b1)]) (lenOf pdv17 rfl) rfl (by show 2 * 0 + _ ≤ _; exact lEq rfl) (dG hby D36 3 rfl) (fun _ _ => ⟨rfl, e1, (by decide : 1 + 1 ≤ _), (by decide : 4 + 16 ≤ _)⟩)
  dsimp only [Pt.U, Pt.locs, Pt.cells, Pt.slots] at X2 l2 y2 z2 st2 hQ2
  subst l2 y2 z2
  obtain ⟨rfl, N2q, Kc2, P2_0⟩ := hQ2
  have K2 : Keep h0 T2.heap [] := K1.trans Kc2 (allS (Or.inr sz_b1) all0)
  have O2 := O1.keep Kc2 (allS g_b1 all0)
  have N2 := Fr.app N0 N2q
  obtain ⟨fs, hr, hrun, hended, hW, hsame⟩ := X2.leave (v := some (.ref b1)) (fun h => by rw [Bd.returns] at h; cases h)
  refine ⟨_, _, pre0 _ ?_, hrun, hended, _, _, rfl, ?_, ⟨_, rfl⟩, hW, hsame.mono (by decide) (by decide)⟩
  · show SP p e below s₁ m 0 #[vr a0b] [] _
    refine st1 _ ?_
    show SP p e below T1 m 3 #[vr a0b] [(.ref b1)] _
    refine XS.dup X1.here hx rfl (dG hby D36 1 rfl) rfl rfl ?_
    refine XS.aloadN X1.here hx rfl (dG hby D36 2 rfl) rfl rfl ?_
    show SP p e below T1 m 5 #[vr a0b] [(.ref a0b), (.ref b1), (.ref b1)] _
    refine st2.trans ?_
    show SP p e below T2 m 8 #[vr a0b] [(.ref b1)] _
    exact retA X2 hx Bd.returns rfl (dG hby D36 4 rfl) hr
  · show Q_rmTs n0 Z cS aDE kDE aUS aSS aIE mO a0b y ky bs kc h0 _ T2.heap _
    exact ⟨b1, rfl, N2, K2, sz_b1, P2_0⟩
theorem D12 : dL jdk_30_method_1_code [(0, .aload_n 0, 1), (1, .invokespecial 1, 3), (4, .return_, 1)] = true := by decide +kernel
theorem pnv5 : plainName "java/lang/Record" = true := by first | (simp [plainName, overriddenIn]; done) | decide +kernel
abbrev MN_26 : MethodName := ⟨"java/lang/Record", "<init>", "()V"⟩
theorem ef_rmRec (m : MethodId) (a0p : Addr) : entryFrame m #[(.ref a0p)] 1 = mkF m 0 #[vr a0p] [] := by first | (simp [entryFrame, mkF, argsToLocals, Value.category]; done) | rfl
def Q_rmRec (n0 : Nat) (Z : State) (cS : Int32) (aDE : Addr) (kDE : ClassId) (aUS : Addr) (aSS : Addr) (aIE : Addr) (mO : Addr) (a0p : Addr) (h0 : Heap) (v : Option Value) (h : Heap) (L : List Loc) : Prop := v = none ∧ Fr n0 L ∧ h = h0
theorem rmRec (l : Launch) (Z : State) (a0 : Array Value) (hw : ∀ d ∈ tables_1, d.before a0 Z = true) (ws : List Jvm.Cond) (cS : Int32) (aDE : Addr) (kDE : ClassId) (aUS : Addr) (aSS : Addr) (aIE : Addr) (mO : Addr) (a0p : Addr) (h0 : Heap) (n0 : Nat) (O0 : Old Z n0 h0) (GL : GF Z cS aDE kDE aUS aSS aIE mO) :
    MF l MN_26 jdk_30_method_1_code 1 none ws (Rm 1 0 0 12) #[(.ref a0p)] Z h0 (Q_rmRec n0 Z cS aDE kDE aUS aSS aIE mO a0p h0) := by
  refine MetFree.of_bodySF (plainFor_of_name pnv5) hisR ?_
  intro p e s m args below meth c s₁ Bd hml0 hP hK
  obtain ⟨rfl, hZ, hh⟩ := hP
  have hx := Bd.exec
  have hby := Bd.bytes
  have hml : c.maxLocals = 1 := hml0
  have hown : s.vm.findClass "java/lang/Record" = some m.cls := findClass_of_methodNamed Bd.named
  have hnm := (name_of_methodNamed Bd.named Bd.method).1
  have X0 : Stand p l e (Rm 1 0 0 12) s m #[(.ref a0p)] below meth c s₁ [] 0 0 := Stand.of_body Bd
  have e0 : s₁.heap = h0 := by rw [← hh, Bd.state]; rfl
  have N0 := Fr.nil n0
  have pre0 : ∀ t, SP p e below s₁ m 0 #[vr a0p] [] t → Steps p.tables e below (s₁.setTop (entryFrame m #[(.ref a0p)] 1)) t := fun t k => castTop (ef_rmRec m a0p) k
  have GL' := GL
  obtain ⟨GCS, GCP, GDE, GVE, GUS, GSS, GIE, GMO⟩ := GL'
  obtain ⟨T1, X1, e1, st1⟩ := initO X0 hx hZ hown (Wd hw 69 rfl) (Wd hw 16 rfl) (Wd hw 17 rfl) e0 (g := mkF m 1 #[vr a0p] [(.ref a0p)]) rfl (by rw [hml]; rfl) rfl (dG hby D12 1 rfl) (by decide) (W := 0) (by show 2 * 0 + _ ≤ _; exact lEq rfl) (by decide)
  obtain ⟨fs, hr, hrun, hended, hW, hsame⟩ := X1.leave (v := none) (fun _ => rfl)
  refine ⟨_, _, pre0 _ ?_, hrun, hended, _, _, rfl, ?_, ⟨_, rfl⟩, hW, hsame.mono (by decide) (by decide)⟩
  · show SP p e below s₁ m 0 #[vr a0p] [] _
    refine XS.aloadN X0.here hx rfl (dG hby D12 0 rfl) rfl rfl ?_
    show SP p e below s₁ m 1 #[vr a0p] [(.ref a0p)] _
    refine st1 _ ?_
    show SP p e below T1 m 4 #[vr a0p] [] _
    exact X1.returnOut hx Bd.returns (dG hby D12 2 rfl) hr
  · show Q_rmRec n0 Z cS aDE kDE aUS aSS aIE mO a0p h0 _ T1.heap _
    rw [e1]
    exact ⟨rfl, N0, rfl⟩
theorem D11 : dL prog_17_method_1_code [(0, .aload_n 0, 1), (1, .invokespecial 1, 3), (4, .aload_n 0, 1), (5, .aload_n 1, 1), (6, .putfield 7, 3), (9, .aload_n 0, 1), (10, .aload_n 2, 1), (11, .putfield 13, 3), (14, .return_, 1)] = true := by decide +kernel
theorem pdv18 : parseMethodDescriptor "()V" = some ⟨[], none⟩ := by decide +kernel
theorem pnv6 : plainName "com/example/grantline/grantline/PolicyException$Problem" = true := by first | (simp [plainName, overriddenIn]; done) | decide +kernel
abbrev MN_27 : MethodName := ⟨"com/example/grantline/grantline/PolicyException$Problem", "<init>", "(Ljava/lang/String;Ljava/lang/String;)V"⟩
theorem ef_rmPi (m : MethodId) (a0p : Addr) (a1s : Addr) (a2s : Addr) : entryFrame m #[(.ref a0p), (.ref a1s), (.ref a2s)] 3 = mkF m 0 #[vr a0p, vr a1s, vr a2s] [] := by first | (simp [entryFrame, mkF, argsToLocals, Value.category]; done) | rfl
def Q_rmPi (n0 : Nat) (Z : State) (cS : Int32) (aDE : Addr) (kDE : ClassId) (aUS : Addr) (aSS : Addr) (aIE : Addr) (mO : Addr) (a0p : Addr) (a1s : Addr) (a2s : Addr) (h0 : Heap) (v : Option Value) (h : Heap) (L : List Loc) : Prop := v = none ∧ Fr n0 L ∧ Keep h0 h [a0p] ∧ (Exa Z h a0p "com/example/grantline/grantline/PolicyException$Problem") ∧ (Fld Z h a0p "com/example/grantline/grantline/PolicyException$Problem" "pointer" "Ljava/lang/String;" (.ref a1s)) ∧ (Fld Z h a0p "com/example/grantline/grantline/PolicyException$Problem" "description" "Ljava/lang/String;" (.ref a2s))
theorem rmPi (l : Launch) (Z : State) (a0 : Array Value) (hw : ∀ d ∈ tables_1, d.before a0 Z = true) (ws : List Jvm.Cond) (cS : Int32) (aDE : Addr) (kDE : ClassId) (aUS : Addr) (aSS : Addr) (aIE : Addr) (mO : Addr) (a0p : Addr) (a1s : Addr) (a2s : Addr) (h0 : Heap) (n0 : Nat) (O0 : Old Z n0 h0) (GL : GF Z cS aDE kDE aUS aSS aIE mO) (E_a0p : Exa Z h0 a0p "com/example/grantline/grantline/PolicyException$Problem") (F_pointer_a0p : Fld Z h0 a0p "com/example/grantline/grantline/PolicyException$Problem" "pointer" "Ljava/lang/String;" .null) (F_description_a0p : Fld Z h0 a0p "com/example/grantline/grantline/PolicyException$Problem" "description" "Ljava/lang/String;" .null) (g_a0p : n0 ≤ a0p) :
    MF l MN_27 prog_17_method_1_code 3 none ws (Rm 2 0 0 24) #[(.ref a0p), (.ref a1s), (.ref a2s)] Z h0 (Q_rmPi n0 Z cS aDE kDE aUS aSS aIE mO a0p a1s a2s h0) := by
  refine MetFree.of_bodySF (plainFor_of_name pnv6) hisR ?_
  intro p e s m args below meth c s₁ Bd hml0 hP hK
  obtain ⟨rfl, hZ, hh⟩ := hP
  have hx := Bd.exec
  have hby := Bd.bytes
  have hml : c.maxLocals = 3 := hml0
  have hown : s.vm.findClass "com/example/grantline/grantline/PolicyException$Problem" = some m.cls := findClass_of_methodNamed Bd.named
  have hnm := (name_of_methodNamed Bd.named Bd.method).1
  have X0 : Stand p l e (Rm 2 0 0 24) s m #[(.ref a0p), (.ref a1s), (.ref a2s)] below meth c s₁ [] 0 0 := Stand.of_body Bd
  have e0 : s₁.heap = h0 := by rw [← hh, Bd.state]; rfl
  have N0 := Fr.nil n0
  have pre0 : ∀ t, SP p e below s₁ m 0 #[vr a0p, vr a1s, vr a2s] [] t → Steps p.tables e below (s₁.setTop (entryFrame m #[(.ref a0p), (.ref a1s), (.ref a2s)] 3)) t := fun t k => castTop (ef_rmPi m a0p a1s a2s) k
  have GL' := GL
  obtain ⟨GCS, GCP, GDE, GVE, GUS, GSS, GIE, GMO⟩ := GL'
  obtain ⟨_, _, ⟨T1, L1, k1, n1⟩, -, X1, ⟨Lc1, hQ1, l1, y1, z1⟩, st1⟩ := X0.specialBack hx (y := MN_26) rfl hown (mvT hZ (Wd hw 64 rfl)) (mvT hZ (Wd hw 65 rfl)) (mvT hZ (Wd hw 68 rfl)) (by decide) (backOf (W := 0) (rmRec l Z a0 hw [] cS aDE kDE aUS aSS aIE mO a0p h0 n0 O0 GL) hZ (Wd hw 68 rfl) (Wd hw 67 rfl) (by decide) (by decide)) (g := mkF m 1 #[vr a0p, vr a1s, vr a2s] [(.ref a0p)]) rfl (by rw [hml]; rfl) (Steps.refl _) (a := a0p) (argsL := []) (rest := []) (lenOf pdv18 rfl) rfl (by show 2 * 0 + _ ≤ _; exact lEq rfl) (dG hby D11 1 rfl) (fun _ _ => ⟨rfl, e0, (by decide : 0 + 0 ≤ _), (by decide : 0 + 0 ≤ _)⟩)
  dsimp only [Pt.U, Pt.locs, Pt.cells, Pt.slots] at X1 l1 y1 z1 st1 hQ1
  subst l1 y1 z1
  obtain ⟨rfl, N1q, e1⟩ := hQ1
  have N1 := Fr.app N0 N1q
  obtain ⟨T2, h2, X2, e2, W2, st2⟩ := putF X1 hx hZ hown (host := "") (Or.inl (Wd hw 70 rfl)) Via.refl e1 F_pointer_a0p E_a0p (Or.inr ⟨(Wd hw 71 rfl), rfl, hnm⟩) (Wd hw 59 rfl) (ty := (.object "java/lang/String")) (by decide) rfl rfl (g := mkF m 6 #[vr a0p, vr a1s, vr a2s] [(.ref a1s), (.ref a0p)]) rfl rfl (dG hby D11 4 rfl)
  have Fw2 := F_pointer_a0p.same W2
  have K2 : Keep h0 h2 [a0p] := (Keep.refl h0 [a0p]).wr W2 (Or.inl (List.mem_of_getElem? (i := 0) rfl))
  have O2 := O0.wr W2 g_a0p
  have N2 := Fr.snoc X2 N1 g_a0p
  obtain ⟨T3, h3, X3, e3, W3, st3⟩ := putF X2 hx hZ hown (host := "") (Or.inl (Wd hw 72 rfl)) Via.refl e2 (F_description_a0p.other W2 (Or.inr (slot_ne (a0 := a0) (Or.inr (Wd hw 73 rfl)) (Or.inr (Wd hw 71 rfl)) (by decide) (t := (.object "java/lang/String")) (t' := (.object "java/lang/String")) (by decide) (by decide)))) (E_a0p.wr W2) (Or.inr ⟨(Wd hw 73 rfl), rfl, hnm⟩) (Wd hw 59 rfl) (ty := (.object "java/lang/String")) (by decide) rfl rfl (g := mkF m 11 #[vr a0p, vr a1s, vr a2s] [(.ref a2s), (.ref a0p)]) rfl rfl (dG hby D11 7 rfl)
  have Fw3 := (F_description_a0p.other W2 (Or.inr (slot_ne (a0 := a0) (Or.inr (Wd hw 73 rfl)) (Or.inr (Wd hw 71 rfl)) (by decide) (t := (.object "java/lang/String")) (t' := (.object "java/lang/String")) (by decide) (by decide)))).same W3
  have K3 : Keep h0 h3 [a0p] := K2.wr W3 (Or.inl (List.mem_of_getElem? (i := 0) rfl))
  have O3 := O2.wr W3 g_a0p
  have N3 := Fr.snoc X3 N2 g_a0p
  obtain ⟨fs, hr, hrun, hended, hW, hsame⟩ := X3.leave (v := none) (fun _ => rfl)
  refine ⟨_, _, pre0 _ ?_, hrun, hended, _, _, rfl, ?_, ⟨_, rfl⟩, hW, hsame.mono (by decide) (by decide)⟩
  · show SP p e below s₁ m 0 #[vr a0p, vr a1s, vr a2s] [] _
    refine XS.aloadN X0.here hx rfl (dG hby D11 0 rfl) rfl rfl ?_
    show SP p e below s₁ m 1 #[vr a0p, vr a1s, vr a2s] [(.ref a0p)] _
    refine st1.trans ?_
    show SP p e below T1 m 4 #[vr a0p, vr a1s, vr a2s] [] _
    refine XS.aloadN X1.here hx rfl (dG hby D11 2 rfl) rfl rfl ?_
    refine XS.aloadN X1.here hx rfl (dG hby D11 3 rfl) rfl rfl ?_
    show SP p e below T1 m 6 #[vr a0p, vr a1s, vr a2s] [(.ref a1s), (.ref a0p)] _
    refine st2 _ ?_
    show SP p e below T2 m 9 #[vr a0p, vr a1s, vr a2s] [] _
    refine XS.aloadN X2.here hx rfl (dG hby D11 5 rfl) rfl rfl ?_
    refine XS.aloadN X2.here hx rfl (dG hby D11 6 rfl) rfl rfl ?_
    show SP p e below T2 m 11 #[vr a0p, vr a1s, vr a2s] [(.ref a2s), (.ref a0p)] _
    refine st3 _ ?_
    show SP p e below T3 m 14 #[vr a0p, vr a1s, vr a2s] [] _
    exact X3.returnOut hx Bd.returns (dG hby D11 8 rfl) hr
  · show Q_rmPi n0 Z cS aDE kDE aUS aSS aIE mO a0p a1s a2s h0 _ T3.heap _
    rw [e3]
    exact ⟨rfl, N3, K3, ((E_a0p.wr W2).wr W3), (Fw2.other W3 (Or.inr (slot_ne (a0 := a0) (Or.inr (Wd hw 71 rfl)) (Or.inr (Wd hw 73 rfl)) (by decide) (t := (.object "java/lang/String")) (t' := (.object "java/lang/String")) (by decide) (by decide)))), Fw3⟩
theorem D25 : dL prog_17_method_2_code [(0, .new 16, 3), (3, .dup, 1), (4, .invokespecial 18, 3), (7, .aload_n 0, 1), (8, .getfield 7, 3), (11, .invokevirtual 19, 3), (14, .ldc 23, 2), (16, .invokevirtual 19, 3), (19, .aload_n 0, 1), (20, .getfield 13, 3), (23, .invokevirtual 19, 3), (26, .invokevirtual 25, 3), (29, .areturn, 1)] = true := by decide +kernel
theorem pdv19 : parseMethodDescriptor "(Ljava/lang/String;)Ljava/lang/StringBuilder;" = some ⟨[(.object "java/lang/String")], some (.object "java/lang/StringBuilder")⟩ := by decide +kernel
theorem pdv20 : parseMethodDescriptor "()Ljava/lang/String;" = some ⟨[], some (.object "java/lang/String")⟩ := by decide +kernel
abbrev MN_28 : MethodName := ⟨"com/example/grantline/grantline/PolicyException$Problem", "toString", "()Ljava/lang/String;"⟩
def Q_rmPt (n0 : Nat) (Z : State) (cS : Int32) (aDE : Addr) (kDE : ClassId) (aUS : Addr) (aSS : Addr) (aIE : Addr) (mO : Addr) (a0p : Addr) (sA : Addr) (vA : Addr) (kA : ClassId) (nA : Int32) (lA : List Value) (sB : Addr) (vB : Addr) (kB : ClassId) (nB : Int32) (lB : List Value) (h0 : Heap) (v : Option Value) (h : Heap) (L : List Loc) : Prop := ∃ b : Addr, v = some (.ref b) ∧ Fr n0 L ∧ Keep h0 h [] ∧ (h0.size ≤ b) ∧ (Exa Z h b "java/lang/String")
theorem rmPt (l : Launch) (Z : State) (a0 : Array Value) (hw : ∀ d ∈ tables_1, d.before a0 Z = true) (ws : List Jvm.Cond) (cS : Int32) (aDE : Addr) (kDE : ClassId) (aUS : Addr) (aSS : Addr) (aIE : Addr) (mO : Addr) (a0p : Addr) (sA : Addr) (vA : Addr) (kA : ClassId) (nA : Int32) (lA : List Value) (sB : Addr) (vB : Addr) (kB : ClassId) (nB : Int32) (lB : List Value) (h0 : Heap) (n0 : Nat) (O0 : Old Z n0 h0) (GL : GF Z cS aDE kDE aUS aSS aIE mO) (E_a0p : Exa Z h0 a0p "com/example/grantline/grantline/PolicyException$Problem") (F_pointer_a0p : Fld Z h0 a0p "com/example/grantline/grantline/PolicyException$Problem" "pointer" "Ljava/lang/String;" (.ref sA)) (F_description_a0p : Fld Z h0 a0p "com/example/grantline/grantline/PolicyException$Problem" "description" "Ljava/lang/String;" (.ref sB)) (E_sA : Exa Z h0 sA "java/lang/String") (F_value_sA : Fld Z h0 sA "java/lang/String" "value" "[B" (.ref vA)) (F_coder_sA : Fld Z h0 sA "java/lang/String" "coder" "B" (.int 0)) (V_vA : Arv Z h0 vA kA .byte nA lA (.int 0)) (E_sB : Exa Z h0 sB "java/lang/String") (F_value_sB : Fld Z h0 sB "java/lang/String" "value" "[B" (.ref vB)) (F_coder_sB : Fld Z h0 sB "java/lang/String" "coder" "B" (.int 0)) (V_vB : Arv Z h0 vB kB .byte nB lB (.int 0)) (hb0 : ¬ (nA < (0 : Int32))) (hb1 : ¬ ((2 : Int32) < nA)) (hb2 : ¬ (nB < (0 : Int32))) (hb3 : ¬ ((2 : Int32) < nB)) :
    MetFree l MN_28 (head1 (Jvm.Cond.code MN_28 prog_17_method_2_code 1 (some (.object "java/lang/String")) :: ws) (Rm 6 6 52 91)) (fun a U => a = #[(.ref a0p)] ∧ Z.Warmed39 U.vm ∧ U.heap = h0 ∧ CHv Z EL1 U.vm h0) (fun _ _ _ _ _ => True) (fun _ U o U' => ∃ v L, o = .returned v ∧ Q_rmPt n0 Z cS aDE kDE aUS aSS aIE mO a0p sA vA kA nA lA sB vB kB nB lB h0 v U'.heap L ∧ CHr Z EL1 U.vm U.heap U'.vm U'.heap ∧ ReturnedEndW U o U' L (Rm 6 6 52 91).cells (Rm 6 6 52 91).slots) := by
  refine MetFree.of_bodySF (plainFor_of_name pnv6) hisR ?_
  intro p e s m args below meth c s₁ Bd hml0 hP hK
  obtain ⟨rfl, hZ, hh, H0⟩ := hP
  have hx := Bd.exec
  have hby := Bd.bytes
  have hml : c.maxLocals = 1 := hml0
  have hown : s.vm.findClass "com/example/grantline/grantline/PolicyException$Problem" = some m.cls := findClass_of_methodNamed Bd.named
  have hnm := (name_of_methodNamed Bd.named Bd.method).1
  have X0 : Stand p l e (Rm 6 6 52 91) s m #[(.ref a0p)] below meth c s₁ [] 0 0 := Stand.of_body Bd
  have e0 : s₁.heap = h0 := by rw [← hh, Bd.state]; rfl
  have N0 := Fr.nil n0
  have pre0 : ∀ t, SP p e below s₁ m 0 #[vr a0p] [] t → Steps p.tables e below (s₁.setTop (entryFrame m #[(.ref a0p)] 1)) t := fun t k => castTop (ef_rmRec m a0p) k
  have X0w : Stand p l e (Rm 6 6 52 91) (s.setVm s.vm) m #[(.ref a0p)] below meth c s₁ [] 0 0 := X0
  have R0 : CHr Z EL1 s.vm h0 s.vm h0 := CHr.refl H0
  have hS0 : s.Since s.vm h0.size := (State.WarmedH.refl s).since _
  have GL' := GL
  obtain ⟨GCS, GCP, GDE, GVE, GUS, GSS, GIE, GMO⟩ := GL'
  obtain ⟨T1, h1, X1, e1, E1, A1, D1, -, st1⟩ := newO X0w hx hZ hown (Wd hw 151 rfl) (Wd hw 152 rfl) (Wd hw 153 rfl) e0 (g := mkF m 0 #[vr a0p] []) rfl (dG hby D25 0 rfl) (by decide) (by decide)
  obtain ⟨b1, g1⟩ : ∃ z, z = h0.size := ⟨_, rfl⟩
  rw [← g1] at A1 D1 st1
  have g_b1 : n0 ≤ b1 := lTr (own_sz O0) (lEq g1.symm)
  have sz_b1 : h0.size ≤ b1 := lTr (Keep.refl h0 []).1 (lEq g1.symm)
  have H_2 := H0.ext E1
  have R_2 := R0.trans (CHr.ext E1 H0)
  have K1 : Keep h0 h1 [] := (Keep.refl h0 []).ext E1
  have O1 := O0.ext E1
  have F_value_b1 : Fld Z h1 b1 "java/lang/AbstractStringBuilder" "value" "[B" .null := D1 (Or.inl (Wd hw 166 rfl)) (ty := (.array .byte)) (by decide)
  have F_coder_b1 : Fld Z h1 b1 "java/lang/AbstractStringBuilder" "coder" "B" (.int 0) := D1 (Or.inl (Wd hw 168 rfl)) (ty := .byte) (by decide)
  have F_count_b1 : Fld Z h1 b1 "java/lang/AbstractStringBuilder" "count" "I" (.int 0) := D1 (Or.inl (Wd hw 190 rfl)) (ty := .int) (by decide)
  obtain ⟨_, _, ⟨T3, L3, k3, n3⟩, -, X3, ⟨Lc3, hQ3, l3, y3, z3⟩, st3⟩ := X1.specialBack hx (y := MN_9) rfl hown (mvT hZ (Wd hw 154 rfl)) (mvT hZ (Wd hw 155 rfl)) (mvT hZ (Wd hw 156 rfl)) (by decide) (backOf (W := 1) (rmSb l Z a0 hw [] cS aDE kDE aUS aSS aIE mO b1 h1 n0 O1 GL A1 F_value_b1 F_coder_b1 F_count_b1 g_b1) hZ (Wd hw 156 rfl) (Wd hw 153 rfl) (by decide) (by decide)) (g := mkF m 4 #[vr a0p] [(.ref b1), (.ref b1)]) rfl (by rw [hml]; rfl) (Steps.refl _) (a := b1) (argsL := []) (rest := [(.ref b1)]) (lenOf pdv18 rfl) rfl (by show 2 * 0 + _ ≤ _; exact lEq rfl) (dG hby D25 2 rfl) (fun _ _ => ⟨rfl, e1, (by decide : 1 + 1 ≤ _), (by decide : 4 + 16 ≤ _)⟩)
  dsimp only [Pt.U, Pt.locs, Pt.cells, Pt.slots] at X3 l3 y3 z3 st3 hQ3
  subst l3 y3 z3
  obtain ⟨y_3, ky_3, rfl, N3q, Kc3, P3_0, P3_1, P3_2, P3_3, P3_4, P3_5, P3_6⟩ := hQ3
  have K3 : Keep h0 T3.heap [] := K1.trans Kc3 (allS (Or.inr sz_b1) all0)
  have O3 := O1.keep Kc3 (allS g_b1 all0)
  have Sf5 : Safe Z EL1 s.vm h1 b1 := Safe.exa (EL := EL1) hZ.alike A1 (by decide) (by decide)
  have H_4 := H_2.keep Kc3 (sfS Sf5 sf0)
  have R_4 := R_2.trans (CHr.keep Kc3 (sfS Sf5 sf0) H_2)
  have g_y_3 : n0 ≤ y_3 := lTr (own_sz O1) P3_0
  have sz_y_3 : h0.size ≤ y_3 := lTr K1.1 P3_0
  have N3 := Fr.app N0 N3q
  obtain ⟨T6, X6, e6, st6⟩ := getF X3 hx hZ hown (host := "") (Or.inl (Wd hw 70 rfl)) Via.refl rfl ((F_pointer_a0p.ext E1).keep Kc3 (ninS (nLt (lLt E_a0p.lt (lEq g1.symm))) nin0)) (g := mkF m 8 #[vr a0p] [(.ref a0p), (.ref b1)]) rfl rfl (dG hby D25 4 rfl)
  obtain ⟨cq7, kq7, q7a, q7b, q7c⟩ := isOf hZ e6 P3_2
  obtain ⟨_, _, ⟨T7, L7, k7, n7⟩, -, X7, ⟨Lc7, hQ7, l7, y7, z7⟩, st7⟩ := X6.virtualBack hx (y := MN_15) (z := MN_15) hown (mvT hZ (Wd hw 169 rfl)) (mvT hZ (Wd hw 170 rfl)) (notFace_of_selects (args := #[]) (mvT hZ (Wd hw 172 rfl))) (mvT hZ (Wd hw 172 rfl)) (mvT hZ (Wd hw 171 rfl)) (by decide) (backOf (W := 0) (rmApp l Z a0 hw [] cS aDE kDE aUS aSS aIE mO b1 sA y_3 ky_3 ([(.int 0), (.int 0), (.int 0), (.int 0), (.int 0), (.int 0), (.int 0), (.int 0), (.int 0), (.int 0), (.int 0), (.int 0), (.int 0), (.int 0), (.int 0), (.int 0)]) ((0 : Int32)) vA kA nA lA (T3.heap) n0 O3 GL P3_2 P3_3 P3_4 P3_5 P3_6 rfl g_b1 g_y_3 ((E_sA.ext E1).keep Kc3) ((F_value_sA.ext E1).keep Kc3 (ninS (nLt (lLt E_sA.lt (lEq g1.symm))) nin0)) ((F_coder_sA.ext E1).keep Kc3 (ninS (nLt (lLt E_sA.lt (lEq g1.symm))) nin0)) ((V_vA.ext E1).keep Kc3 (ninS (nLt (lLt V_vA.lt (lEq g1.symm))) nin0)) (by decide) (by decide) hb0 hb1) hZ (Wd hw 173 rfl) (Wd hw 153 rfl) (by decide) (by decide)) q7a q7c (g := mkF m 11 #[vr a0p] [(.ref sA), (.ref b1)]) rfl (by rw [hml]; rfl) (Steps.refl _) (argsL := [(.ref sA)]) (rest := []) (lenOf pdv19 rfl) rfl (by show 2 * 0 + _ ≤ _; exact lEq rfl) (dG hby D25 5 rfl) (fun _ _ => ⟨rfl, e6, (by decide : 2 + 0 ≤ _), (by decide : 20 + 0 ≤ _)⟩)
  dsimp only [Pt.U, Pt.locs, Pt.cells, Pt.slots] at X7 l7 y7 z7 st7 hQ7
  subst l7 y7 z7
  obtain ⟨bs2_7, rfl, N7q, Kc7, P7_0, P7_1, P7_2, P7_3, P7_4, P7_5⟩ := hQ7
  have K7 : Keep h0 T7.heap [] := K3.trans Kc7 (allS (Or.inr sz_b1) (allS (Or.inr sz_y_3) all0))
  have O7 := O3.keep Kc7 (allS g_b1 (allS g_y_3 all0))
  have Sf9 : Safe Z EL1 s.vm T3.heap y_3 := (Safe.keep Kc3 (sfS Sf5 sf0) H_2 (Safe.new (Z := Z) (EL := EL1) (vm := s.vm) P3_0))
  have Sf10 : Safe Z EL1 s.vm T3.heap b1 := Safe.exa (EL := EL1) hZ.alike P3_2 (by decide) (by decide)
  have H_8 := H_4.keep Kc7 (sfS Sf10 (sfS Sf9 sf0))
  have R_8 := R_4.trans (CHr.keep Kc7 (sfS Sf10 (sfS Sf9 sf0)) H_4)
  have N7 := Fr.app N3 N7q
  have hc := own_c1 hb0 hb1
  obtain ⟨a11, T11, h11, k111, b11, kc11, X11, e11, E11, hS11, hk11, hZ11, hown11, A11, Fc11, Fv11, V11, la11, lb11, Rs11, Li11, nel11, st11⟩ := ldcCH X7 hx hZ hown (Wd hw 216 rfl) (own_wS hw) rfl hS0 (lTr (lTr (lTr (Nat.le_refl _) E1.1) Kc3.1) Kc7.1) (own_EW hw) (List.mem_of_getElem? (i := 0) rfl) H_8 (vs := [(.int 58), (.int 32)]) (z := (2 : Int32)) ⟨by decide, by decide⟩ (by decide) rfl (g := mkF m 14 #[vr a0p] [(.ref b1)]) rfl (dG hby D25 6 rfl) (n := 8) (by decide) (by decide) (by decide) (by decide)
  have H_12 := Rs11.1
  have R_12 := R_8.trans Rs11
  have K11 : Keep h0 h11 [] := K7.ext E11
  have O11 := O7.ext E11
  obtain ⟨cq13, kq13, q13a, q13b, q13c⟩ := isOf hZ11 e11 (P7_0.ext E11)
  obtain ⟨_, _, ⟨T13, L13, k13, n13⟩, -, X13, ⟨Lc13, hQ13, l13, y13, z13⟩, st13⟩ := X11.virtualBack hx (y := MN_15) (z := MN_15) hown11 (mvT hZ11 (Wd hw 169 rfl)) (mvT hZ11 (Wd hw 170 rfl)) (notFace_of_selects (args := #[]) (mvT hZ11 (Wd hw 172 rfl))) (mvT hZ11 (Wd hw 172 rfl)) (mvT hZ11 (Wd hw 171 rfl)) (by decide) (backOf (W := 0) (rmApp l Z a0 hw [] cS aDE kDE aUS aSS aIE mO b1 a11 y_3 ky_3 bs2_7 (((0 : Int32) + nA)) b11 kc11 ((2 : Int32)) ([(.int 58), (.int 32)]) h11 n0 O11 GL (P7_0.ext E11) (P7_1.ext E11) (P7_2.ext E11) (P7_3.ext E11) (P7_4.ext E11) P7_5 g_b1 g_y_3 A11 Fv11 Fc11 V11 hc.1 hc.2.1 (by decide) (by decide)) hZ11 (Wd hw 173 rfl) (Wd hw 153 rfl) (by decide) (by decide)) q13a q13c (g := mkF m 16 #[vr a0p] [(.ref a11), (.ref b1)]) rfl (by rw [hml]; rfl) (Steps.refl _) (argsL := [(.ref a11)]) (rest := []) (lenOf pdv19 rfl) rfl (by show 2 * 0 + _ ≤ _; exact lEq rfl) (dG hby D25 7 rfl) (fun _ _ => ⟨rfl, e11, (by decide : 4 + 0 ≤ _), (by decide : 32 + 0 ≤ _)⟩)
  dsimp only [Pt.U, Pt.locs, Pt.cells, Pt.slots] at X13 l13 y13 z13 st13 hQ13
  subst l13 y13 z13
  obtain ⟨bs2_13, rfl, N13q, Kc13, P13_0, P13_1, P13_2, P13_3, P13_4, P13_5⟩ := hQ13
  have K13 : Keep h0 T13.heap [] := K11.trans Kc13 (allS (Or.inr sz_b1) (allS (Or.inr sz_y_3) all0))
  have O13 := O11.keep Kc13 (allS g_b1 (allS g_y_3 all0))
  have Sf15 : Safe Z EL1 T11.vm h11 y_3 := (CHr.safe Rs11 (lLt P3_1.lt Kc7.1) (Safe.keep Kc7 (sfS Sf10 (sfS Sf9 sf0)) H_4 Sf9))
  have Sf16 : Safe Z EL1 T11.vm h11 b1 := Safe.exa (EL := EL1) hZ11.alike (P7_0.ext E11) (by decide) (by decide)
  have H_14 := H_12.keep Kc13 (sfS Sf16 (sfS Sf15 sf0))
  have R_14 := R_12.trans (CHr.keep Kc13 (sfS Sf16 (sfS Sf15 sf0)) H_12)
  have N13 := Fr.app N7 N13q
  obtain ⟨T17, X17, e17, st17⟩ := getF X13 hx hZ11 hown11 (host := "") (Or.inl (Wd hw 72 rfl)) Via.refl rfl (((((F_description_a0p.ext E1).keep Kc3 (ninS (nLt (lLt E_a0p.lt (lEq g1.symm))) nin0)).keep Kc7 (ninS (nLt (lLt E_a0p.lt (lEq g1.symm))) (ninS (nLt (lLt (lLt E_a0p.lt E1.1) P3_0)) nin0))).ext E11).keep Kc13 (ninS (nLt (lLt E_a0p.lt (lEq g1.symm))) (ninS (nLt (lLt (lLt E_a0p.lt E1.1) P3_0)) nin0))) (g := mkF m 20 #[vr a0p] [(.ref a0p), (.ref b1)]) rfl rfl (dG hby D25 9 rfl)
  obtain ⟨cq18, kq18, q18a, q18b, q18c⟩ := isOf hZ11 e17 P13_0
  obtain ⟨_, _, ⟨T18, L18, k18, n18⟩, -, X18, ⟨Lc18, hQ18, l18, y18, z18⟩, st18⟩ := X17.virtualBack hx (y := MN_15) (z := MN_15) hown11 (mvT hZ11 (Wd hw 169 rfl)) (mvT hZ11 (Wd hw 170 rfl)) (notFace_of_selects (args := #[]) (mvT hZ11 (Wd hw 172 rfl))) (mvT hZ11 (Wd hw 172 rfl)) (mvT hZ11 (Wd hw 171 rfl)) (by decide) (backOf (W := 0) (rmApp l Z a0 hw [] cS aDE kDE aUS aSS aIE mO b1 sB y_3 ky_3 bs2_13 ((((0 : Int32) + nA) + (2 : Int32))) vB kB nB lB (T13.heap) n0 O13 GL P13_0 P13_1 P13_2 P13_3 P13_4 P13_5 g_b1 g_y_3 (((((E_sB.ext E1).keep Kc3).keep Kc7).ext E11).keep Kc13) (((((F_value_sB.ext E1).keep Kc3 (ninS (nLt (lLt E_sB.lt (lEq g1.symm))) nin0)).keep Kc7 (ninS (nLt (lLt E_sB.lt (lEq g1.symm))) (ninS (nLt (lLt (lLt E_sB.lt E1.1) P3_0)) nin0))).ext E11).keep Kc13 (ninS (nLt (lLt E_sB.lt (lEq g1.symm))) (ninS (nLt (lLt (lLt E_sB.lt E1.1) P3_0)) nin0))) (((((F_coder_sB.ext E1).keep Kc3 (ninS (nLt (lLt E_sB.lt (lEq g1.symm))) nin0)).keep Kc7 (ninS (nLt (lLt E_sB.lt (lEq g1.symm))) (ninS (nLt (lLt (lLt E_sB.lt E1.1) P3_0)) nin0))).ext E11).keep Kc13 (ninS (nLt (lLt E_sB.lt (lEq g1.symm))) (ninS (nLt (lLt (lLt E_sB.lt E1.1) P3_0)) nin0))) (((((V_vB.ext E1).keep Kc3 (ninS (nLt (lLt V_vB.lt (lEq g1.symm))) nin0)).keep Kc7 (ninS (nLt (lLt V_vB.lt (lEq g1.symm))) (ninS (nLt (lLt (lLt V_vB.lt E1.1) P3_0)) nin0))).ext E11).keep Kc13 (ninS (nLt (lLt V_vB.lt (lEq g1.symm))) (ninS (nLt (lLt (lLt V_vB.lt E1.1) P3_0)) nin0))) hc.2.2.1 hc.2.2.2 hb2 hb3) hZ11 (Wd hw 173 rfl) (Wd hw 153 rfl) (by decide) (by decide)) q18a q18c (g := mkF m 23 #[vr a0p] [(.ref sB), (.ref b1)]) rfl (by rw [hml]; rfl) (Steps.refl _) (argsL := [(.ref sB)]) (rest := []) (lenOf pdv19 rfl) rfl (by show 2 * 0 + _ ≤ _; exact lEq rfl) (dG hby D25 10 rfl) (fun _ _ => ⟨rfl, e17, (by decide : 4 + 0 ≤ _), (by decide : 32 + 0 ≤ _)⟩)
  dsimp only [Pt.U, Pt.locs, Pt.cells, Pt.slots] at X18 l18 y18 z18 st18 hQ18
  subst l18 y18 z18
  obtain ⟨bs2_18, rfl, N18q, Kc18, P18_0, P18_1, P18_2, P18_3, P18_4, P18_5⟩ := hQ18
  have K18 : Keep h0 T18.heap [] := K13.trans Kc18 (allS (Or.inr sz_b1) (allS (Or.inr sz_y_3) all0))
  have O18 := O13.keep Kc18 (allS g_b1 (allS g_y_3 all0))
  have Sf20 : Safe Z EL1 T11.vm T13.heap y_3 := (Safe.keep Kc13 (sfS Sf16 (sfS Sf15 sf0)) H_12 Sf15)
  have Sf21 : Safe Z EL1 T11.vm T13.heap b1 := Safe.exa (EL := EL1) hZ11.alike P13_0 (by decide) (by decide)
  have H_19 := H_14.keep Kc18 (sfS Sf21 (sfS Sf20 sf0))
  have R_19 := R_14.trans (CHr.keep Kc18 (sfS Sf21 (sfS Sf20 sf0)) H_14)
  have N18 := Fr.app N13 N18q
  have hd := own_c2 hb0 hb1 hb2 hb3
  obtain ⟨cq22, kq22, q22a, q22b, q22c⟩ := isOf hZ11 rfl P18_0
  obtain ⟨_, _, ⟨T22, L22, k22, n22⟩, -, X22, ⟨Lc22, hQ22, l22, y22, z22⟩, st22⟩ := X18.virtualBack hx (y := MN_25) (z := MN_25) hown11 (mvT hZ11 (Wd hw 219 rfl)) (mvT hZ11 (Wd hw 220 rfl)) (notFace_of_selects (args := #[]) (mvT hZ11 (Wd hw 222 rfl))) (mvT hZ11 (Wd hw 222 rfl)) (mvT hZ11 (Wd hw 221 rfl)) (by decide) (backOf (W := 0) (rmTs l Z a0 hw [] cS aDE kDE aUS aSS aIE mO b1 y_3 ky_3 bs2_18 (((((0 : Int32) + nA) + (2 : Int32)) + nB)) (T18.heap) n0 O18 GL P18_0 P18_1 P18_2 P18_3 P18_4 hd.1 hd.2.1 hd.2.2.2 hd.2.2.1) hZ11 (Wd hw 223 rfl) (Wd hw 153 rfl) (by decide) (by decide)) q22a q22c (g := mkF m 26 #[vr a0p] [(.ref b1)]) rfl (by rw [hml]; rfl) (Steps.refl _) (argsL := []) (rest := []) (lenOf pdv20 rfl) rfl (by show 2 * 0 + _ ≤ _; exact lEq rfl) (dG hby D25 11 rfl) (fun _ _ => ⟨rfl, rfl, (by decide : 4 + 2 ≤ _), (by decide : 32 + 20 ≤ _)⟩)
  dsimp only [Pt.U, Pt.locs, Pt.cells, Pt.slots] at X22 l22 y22 z22 st22 hQ22
  subst l22 y22 z22
  obtain ⟨b_22, rfl, N22q, Kc22, P22_0, P22_1⟩ := hQ22
  have K22 : Keep h0 T22.heap [] := K18.trans Kc22 all0
  have O22 := O18.keep Kc22 all0
  have H_23 := H_19.keep Kc22 sf0
  have R_23 := R_19.trans (CHr.keep Kc22 sf0 H_19)
  have g_b_22 : n0 ≤ b_22 := lTr (own_sz O18) P22_0
  have sz_b_22 : h0.size ≤ b_22 := lTr K18.1 P22_0
  have N22 := Fr.app N18 N22q
  obtain ⟨fs, hr, hrun, hended, hRW⟩ := X22.leaveW hS11 (lTr (lTr (lTr hk11 Kc13.1) Kc18.1) Kc22.1) (v := some (.ref b_22)) (fun h => by rw [Bd.returns] at h; cases h)
  have hCR : CHr Z EL1 s.vm s.heap T22.vm T22.heap := by
    rw [hh]
    exact R_23.trans (CHv.at X22 hZ11 (own_EW hw) H_23)
  refine ⟨_, _, pre0 _ ?_, hrun, hended, _, _, rfl, ?_, hCR, hRW.1, hRW.2.1, hRW.2.2.1, hRW.2.2.2.mono (by decide) (by decide)⟩
  · show SP p e below s₁ m 0 #[vr a0p] [] _
    refine st1 _ ?_
    show SP p e below T1 m 3 #[vr a0p] [(.ref b1)] _
    refine XS.dup X1.here hx rfl (dG hby D25 1 rfl) rfl rfl ?_
    show SP p e below T1 m 4 #[vr a0p] [(.ref b1), (.ref b1)] _
    refine st3.trans ?_
    show SP p e below T3 m 7 #[vr a0p] [(.ref b1)] _
    refine XS.aloadN X3.here hx rfl (dG hby D25 3 rfl) rfl rfl ?_
    show SP p e below T3 m 8 #[vr a0p] [(.ref a0p), (.ref b1)] _
    refine st6 _ ?_
    show SP p e below T6 m 11 #[vr a0p] [(.ref sA), (.ref b1)] _
    refine st7.trans ?_
    show SP p e below T7 m 14 #[vr a0p] [(.ref b1)] _
    refine st11 _ ?_
    show SP p e below T11 m 16 #[vr a0p] [(.ref a11), (.ref b1)] _
    refine st13.trans ?_
    show SP p e below T13 m 19 #[vr a0p] [(.ref b1)] _
    refine XS.aloadN X13.here hx rfl (dG hby D25 8 rfl) rfl rfl ?_
    show SP p e below T13 m 20 #[vr a0p] [(.ref a0p), (.ref b1)] _
    refine st17 _ ?_
    show SP p e below T17 m 23 #[vr a0p] [(.ref sB), (.ref b1)] _
    refine st18.trans ?_
    show SP p e below T18 m 26 #[vr a0p] [(.ref b1)] _
    refine st22.trans ?_
    show SP p e below T22 m 29 #[vr a0p] [(.ref b_22)] _
    exact retA X22 hx Bd.returns rfl (dG hby D25 12 rfl) hr
  · show Q_rmPt n0 Z cS aDE kDE aUS aSS aIE mO a0p sA vA kA nA lA sB vB kB nB lB h0 _ T22.heap _
    exact ⟨b_22, rfl, N22, K22, sz_b_22, P22_1⟩
theorem D63 : dL prog_17_method_5_code [(0, .aload_n 0, 1), (1, .getfield 7, 3), (4, .areturn, 1)] = true := by decide +kernel
abbrev MN_29 : MethodName := ⟨"com/example/grantline/grantline/PolicyException$Problem", "pointer", "()Ljava/lang/String;"⟩
def Q_rmGp (n0 : Nat) (Z : State) (cS : Int32) (aDE : Addr) (kDE : ClassId) (aUS : Addr) (aSS : Addr) (aIE : Addr) (mO : Addr) (a0p : Addr) (gv : Addr) (h0 : Heap) (v : Option Value) (h : Heap) (L : List Loc) : Prop := v = some (.ref gv) ∧ Fr n0 L ∧ h = h0
theorem rmGp (l : Launch) (Z : State) (a0 : Array Value) (hw : ∀ d ∈ tables_1, d.before a0 Z = true) (ws : List Jvm.Cond) (cS : Int32) (aDE : Addr) (kDE : ClassId) (aUS : Addr) (aSS : Addr) (aIE : Addr) (mO : Addr) (a0p : Addr) (gv : Addr) (h0 : Heap) (n0 : Nat) (O0 : Old Z n0 h0) (GL : GF Z cS aDE kDE aUS aSS aIE mO) (F_pointer_a0p : Fld Z h0 a0p "com/example/grantline/grantline/PolicyException$Problem" "pointer" "Ljava/lang/String;" (.ref gv)) :
    MF l MN_29 prog_17_method_5_code 1 (some (.object "java/lang/String")) ws (Rm 0 0 0 0) #[(.ref a0p)] Z h0 (Q_rmGp n0 Z cS aDE kDE aUS aSS aIE mO a0p gv h0) := by
  refine MetFree.of_bodySF (plainFor_of_name pnv6) hisR ?_
  intro p e s m args below meth c s₁ Bd hml0 hP hK
  obtain ⟨rfl, hZ, hh⟩ := hP
  have hx := Bd.exec
  have hby := Bd.bytes
  have hml : c.maxLocals = 1 := hml0
  have hown : s.vm.findClass "com/example/grantline/grantline/PolicyException$Problem" = some m.cls := findClass_of_methodNamed Bd.named
  have hnm := (name_of_methodNamed Bd.named Bd.method).1
  have X0 : Stand p l e (Rm 0 0 0 0) s m #[(.ref a0p)] below meth c s₁ [] 0 0 := Stand.of_body Bd
  have e0 : s₁.heap = h0 := by rw [← hh, Bd.state]; rfl
  have N0 := Fr.nil n0
  have pre0 : ∀ t, SP p e below s₁ m 0 #[vr a0p] [] t → Steps p.tables e below (s₁.setTop (entryFrame m #[(.ref a0p)] 1)) t := fun t k => castTop (ef_rmRec m a0p) k
  have GL' := GL
  obtain ⟨GCS, GCP, GDE, GVE, GUS, GSS, GIE, GMO⟩ := GL'
  obtain ⟨T1, X1, e1, st1⟩ := getF X0 hx hZ hown (host := "") (Or.inl (Wd hw 70 rfl)) Via.refl e0 F_pointer_a0p (g := mkF m 1 #[vr a0p] [(.ref a0p)]) rfl rfl (dG hby D63 1 rfl)
  obtain ⟨fs, hr, hrun, hended, hW, hsame⟩ := X1.leave (v := some (.ref gv)) (fun h => by rw [Bd.returns] at h; cases h)
  refine ⟨_, _, pre0 _ ?_, hrun, hended, _, _, rfl, ?_, ⟨_, rfl⟩, hW, hsame.mono (by decide) (by decide)⟩
  · show SP p e below s₁ m 0 #[vr a0p] [] _
    refine XS.aloadN X0.here hx rfl (dG hby D63 0 rfl) rfl rfl ?_
    show SP p e below s₁ m 1 #[vr a0p] [(.ref a0p)] _
    refine st1 _ ?_
    show SP p e below T1 m 4 #[vr a0p] [(.ref gv)] _
    exact retA X1 hx Bd.returns rfl (dG hby D63 2 rfl) hr
  · show Q_rmGp n0 Z cS aDE kDE aUS aSS aIE mO a0p gv h0 _ T1.heap _
    rw [e1]
    exact ⟨rfl, N0, rfl⟩
theorem D10 : dL jdk_22_method_1_code [(0, .aload_n 0, 1), (1, .invokespecial 1, 3), (4, .return_, 1)] = true := by decide +kernel
theorem pnv7 : plainName "java/util/AbstractCollection" = true := by first | (simp [plainName, overriddenIn]; done) | decide +kernel
abbrev MN_30 : MethodName := ⟨"java/util/AbstractCollection", "<init>", "()V"⟩
theorem ef_rmAbc (m : MethodId) (a0l : Addr) : entryFrame m #[(.ref a0l)] 1 = mkF m 0 #[vr a0l] [] := by first | (simp [entryFrame, mkF, argsToLocals, Value.category]; done) | rfl
def Q_rmAbc (n0 : Nat) (Z : State) (cS : Int32) (aDE : Addr) (kDE : ClassId) (aUS : Addr) (aSS : Addr) (aIE : Addr) (mO : Addr) (a0l : Addr) (h0 : Heap) (v : Option Value) (h : Heap) (L : List Loc) : Prop := v = none ∧ Fr n0 L ∧ h = h0
theorem rmAbc (l : Launch) (Z : State) (a0 : Array Value) (hw : ∀ d ∈ tables_1, d.before a0 Z = true) (ws : List Jvm.Cond) (cS : Int32) (aDE : Addr) (kDE : ClassId) (aUS : Addr) (aSS : Addr) (aIE : Addr) (mO : Addr) (a0l : Addr) (h0 : Heap) (n0 : Nat) (O0 : Old Z n0 h0) (GL : GF Z cS aDE kDE aUS aSS aIE mO) :
    MF l MN_30 jdk_22_method_1_code 1 none ws (Rm 1 0 0 12) #[(.ref a0l)] Z h0 (Q_rmAbc n0 Z cS aDE kDE aUS aSS aIE mO a0l h0) := by
  refine MetFree.of_bodySF (plainFor_of_name pnv7) hisR ?_
  intro p e s m args below meth c s₁ Bd hml0 hP hK
  obtain ⟨rfl, hZ, hh⟩ := hP
  have hx := Bd.exec
  have hby := Bd.bytes
  have hml : c.maxLocals = 1 := hml0
  have hown : s.vm.findClass "java/util/AbstractCollection" = some m.cls := findClass_of_methodNamed Bd.named
  have hnm := (name_of_methodNamed Bd.named Bd.method).1
  have X0 : Stand p l e (Rm 1 0 0 12) s m #[(.ref a0l)] below meth c s₁ [] 0 0 := Stand.of_body Bd
  have e0 : s₁.heap = h0 := by rw [← hh, Bd.state]; rfl
  have N0 := Fr.nil n0
  have pre0 : ∀ t, SP p e below s₁ m 0 #[vr a0l] [] t → Steps p.tables e below (s₁.setTop (entryFrame m #[(.ref a0l)] 1)) t := fun t k => castTop (ef_rmAbc m a0l) k
  have GL' := GL
  obtain ⟨GCS, GCP, GDE, GVE, GUS, GSS, GIE, GMO⟩ := GL'
  obtain ⟨T1, X1, e1, st1⟩ := initO X0 hx hZ hown (Wd hw 52 rfl) (Wd hw 16 rfl) (Wd hw 17 rfl) e0 (g := mkF m 1 #[vr a0l] [(.ref a0l)]) rfl (by rw [hml]; rfl) rfl (dG hby D10 1 rfl) (by decide) (W := 0) (by show 2 * 0 + _ ≤ _; exact lEq rfl) (by decide)
  obtain ⟨fs, hr, hrun, hended, hW, hsame⟩ := X1.leave (v := none) (fun _ => rfl)
  refine ⟨_, _, pre0 _ ?_, hrun, hended, _, _, rfl, ?_, ⟨_, rfl⟩, hW, hsame.mono (by decide) (by decide)⟩
  · show SP p e below s₁ m 0 #[vr a0l] [] _
    refine XS.aloadN X0.here hx rfl (dG hby D10 0 rfl) rfl rfl ?_
    show SP p e below s₁ m 1 #[vr a0l] [(.ref a0l)] _
    refine st1 _ ?_
    show SP p e below T1 m 4 #[vr a0l] [] _
    exact X1.returnOut hx Bd.returns (dG hby D10 2 rfl) hr
  · show Q_rmAbc n0 Z cS aDE kDE aUS aSS aIE mO a0l h0 _ T1.heap _
    rw [e1]
    exact ⟨rfl, N0, rfl⟩
theorem D9 : dL jdk_39_method_1_code [(0, .aload_n 0, 1), (1, .invokespecial 1, 3), (4, .aload_n 0, 1), (5, .iconst 0, 1), (6, .putfield 7, 3), (9, .return_, 1)] = true := by decide +kernel
theorem pnv8 : plainName "java/util/AbstractList" = true := by first | (simp [plainName, overriddenIn]; done) | decide +kernel
abbrev MN_31 : MethodName := ⟨"java/util/AbstractList", "<init>", "()V"⟩
def Q_rmAbl (n0 : Nat) (Z : State) (cS : Int32) (aDE : Addr) (kDE : ClassId) (aUS : Addr) (aSS : Addr) (aIE : Addr) (mO : Addr) (a0l : Addr) (h0 : Heap) (v : Option Value) (h : Heap) (L : List Loc) : Prop := v = none ∧ Fr n0 L ∧ Keep h0 h [a0l] ∧ (Exa Z h a0l "java/util/ArrayList") ∧ (Fld Z h a0l "java/util/ArrayList" "elementData" "[Ljava/lang/Object;" .null) ∧ (Fld Z h a0l "java/util/ArrayList" "size" "I" (.int 0)) ∧ (Fld Z h a0l "java/util/AbstractList" "modCount" "I" (.int 0))
theorem rmAbl (l : Launch) (Z : State) (a0 : Array Value) (hw : ∀ d ∈ tables_1, d.before a0 Z = true) (ws : List Jvm.Cond) (cS : Int32) (aDE : Addr) (kDE : ClassId) (aUS : Addr) (aSS : Addr) (aIE : Addr) (mO : Addr) (a0l : Addr) (h0 : Heap) (n0 : Nat) (O0 : Old Z n0 h0) (GL : GF Z cS aDE kDE aUS aSS aIE mO) (E_a0l : Exa Z h0 a0l "java/util/ArrayList") (F_elementData_a0l : Fld Z h0 a0l "java/util/ArrayList" "elementData" "[Ljava/lang/Object;" .null) (F_size_a0l : Fld Z h0 a0l "java/util/ArrayList" "size" "I" (.int 0)) (F_modCount_a0l : Fld Z h0 a0l "java/util/AbstractList" "modCount" "I" (.int 0)) (g_a0l : n0 ≤ a0l) :
    MF l MN_31 jdk_39_method_1_code 1 none ws (Rm 2 0 0 24) #[(.ref a0l)] Z h0 (Q_rmAbl n0 Z cS aDE kDE aUS aSS aIE mO a0l h0) := by
  refine MetFree.of_bodySF (plainFor_of_name pnv8) hisR ?_
  intro p e s m args below meth c s₁ Bd hml0 hP hK
  obtain ⟨rfl, hZ, hh⟩ := hP
  have hx := Bd.exec
  have hby := Bd.bytes
  have hml : c.maxLocals = 1 := hml0
  have hown : s.vm.findClass "java/util/AbstractList" = some m.cls := findClass_of_methodNamed Bd.named
  have hnm := (name_of_methodNamed Bd.named Bd.method).1
  have X0 : Stand p l e (Rm 2 0 0 24) s m #[(.ref a0l)] below meth c s₁ [] 0 0 := Stand.of_body Bd
  have e0 : s₁.heap = h0 := by rw [← hh, Bd.state]; rfl
  have N0 := Fr.nil n0
  have pre0 : ∀ t, SP p e below s₁ m 0 #[vr a0l] [] t → Steps p.tables e below (s₁.setTop (entryFrame m #[(.ref a0l)] 1)) t := fun t k => castTop (ef_rmAbc m a0l) k
  have GL' := GL
  obtain ⟨GCS, GCP, GDE, GVE, GUS, GSS, GIE, GMO⟩ := GL'
  obtain ⟨_, _, ⟨T1, L1, k1, n1⟩, -, X1, ⟨Lc1, hQ1, l1, y1, z1⟩, st1⟩ := X0.specialBack hx (y := MN_30) rfl hown (mvT hZ (Wd hw 46 rfl)) (mvT hZ (Wd hw 47 rfl)) (mvT hZ (Wd hw 51 rfl)) (by decide) (backOf (W := 0) (rmAbc l Z a0 hw [] cS aDE kDE aUS aSS aIE mO a0l h0 n0 O0 GL) hZ (Wd hw 51 rfl) (Wd hw 50 rfl) (by decide) (by decide)) (g := mkF m 1 #[vr a0l] [(.ref a0l)]) rfl (by rw [hml]; rfl) (Steps.refl _) (a := a0l) (argsL := []) (rest := []) (lenOf pdv18 rfl) rfl (by show 2 * 0 + _ ≤ _; exact lEq rfl) (dG hby D9 1 rfl) (fun _ _ => ⟨rfl, e0, (by decide : 0 + 0 ≤ _), (by decide : 0 + 0 ≤ _)⟩)
  dsimp only [Pt.U, Pt.locs, Pt.cells, Pt.slots] at X1 l1 y1 z1 st1 hQ1
  subst l1 y1 z1
  obtain ⟨rfl, N1q, e1⟩ := hQ1
  have N1 := Fr.app N0 N1q
  obtain ⟨T2, h2, X2, e2, W2, st2⟩ := putF X1 hx hZ hown (host := "") (Or.inl (Wd hw 53 rfl)) Via.refl e1 F_modCount_a0l E_a0l (Or.inl (Wd hw 54 rfl)) (Wd hw 35 rfl) (ty := .int) (by decide) rfl rfl (g := mkF m 6 #[vr a0l] [(.int 0), (.ref a0l)]) rfl rfl (dG hby D9 4 rfl)
  have Fw2 := F_modCount_a0l.same W2
  have K2 : Keep h0 h2 [a0l] := (Keep.refl h0 [a0l]).wr W2 (Or.inl (List.mem_of_getElem? (i := 0) rfl))
  have O2 := O0.wr W2 g_a0l
  have N2 := Fr.snoc X2 N1 g_a0l
  obtain ⟨fs, hr, hrun, hended, hW, hsame⟩ := X2.leave (v := none) (fun _ => rfl)
  refine ⟨_, _, pre0 _ ?_, hrun, hended, _, _, rfl, ?_, ⟨_, rfl⟩, hW, hsame.mono (by decide) (by decide)⟩
  · show SP p e below s₁ m 0 #[vr a0l] [] _
    refine XS.aloadN X0.here hx rfl (dG hby D9 0 rfl) rfl rfl ?_
    show SP p e below s₁ m 1 #[vr a0l] [(.ref a0l)] _
    refine st1.trans ?_
    show SP p e below T1 m 4 #[vr a0l] [] _
    refine XS.aloadN X1.here hx rfl (dG hby D9 2 rfl) rfl rfl ?_
    refine XS.iconst X1.here hx rfl (dG hby D9 3 rfl) ?_
    show SP p e below T1 m 6 #[vr a0l] [(.int 0), (.ref a0l)] _
    refine st2 _ ?_
    show SP p e below T2 m 9 #[vr a0l] [] _
    exact X2.returnOut hx Bd.returns (dG hby D9 5 rfl) hr
  · show Q_rmAbl n0 Z cS aDE kDE aUS aSS aIE mO a0l h0 _ T2.heap _
    rw [e2]
    exact ⟨rfl, N2, K2, (E_a0l.wr W2), (F_elementData_a0l.other W2 (Or.inr (slot_ne (a0 := a0) (Or.inl (Wd hw 57 rfl)) (Or.inl (Wd hw 54 rfl)) (by decide) (t := (.array (.object "java/lang/Object"))) (t' := .int) (by decide) (by decide)))), (F_size_a0l.other W2 (Or.inr (slot_ne (a0 := a0) (Or.inl (Wd hw 82 rfl)) (Or.inl (Wd hw 54 rfl)) (by decide) (t := .int) (t' := .int) (by decide) (by decide)))), Fw2⟩
theorem D8 : dL jdk_38_method_2_code [(0, .aload_n 0, 1), (1, .invokespecial 1, 3), (4, .aload_n 0, 1), (5, .getstatic 39, 3), (8, .putfield 9, 3), (11, .return_, 1)] = true := by decide +kernel
theorem pnv9 : plainName "java/util/ArrayList" = true := by first | (simp [plainName, overriddenIn]; done) | decide +kernel
abbrev MN_32 : MethodName := ⟨"java/util/ArrayList", "<init>", "()V"⟩
def Q_rmLi (n0 : Nat) (Z : State) (cS : Int32) (aDE : Addr) (kDE : ClassId) (aUS : Addr) (aSS : Addr) (aIE : Addr) (mO : Addr) (a0l : Addr) (h0 : Heap) (v : Option Value) (h : Heap) (L : List Loc) : Prop := v = none ∧ Fr n0 L ∧ Keep h0 h [a0l] ∧ (Exa Z h a0l "java/util/ArrayList") ∧ (Fld Z h a0l "java/util/ArrayList" "elementData" "[Ljava/lang/Object;" (.ref aDE)) ∧ (Fld Z h a0l "java/util/ArrayList" "size" "I" (.int 0)) ∧ (Fld Z h a0l "java/util/AbstractList" "modCount" "I" (.int 0))
theorem rmLi (l : Launch) (Z : State) (a0 : Array Value) (hw : ∀ d ∈ tables_1, d.before a0 Z = true) (ws : List Jvm.Cond) (cS : Int32) (aDE : Addr) (kDE : ClassId) (aUS : Addr) (aSS : Addr) (aIE : Addr) (mO : Addr) (a0l : Addr) (h0 : Heap) (n0 : Nat) (O0 : Old Z n0 h0) (GL : GF Z cS aDE kDE aUS aSS aIE mO) (E_a0l : Exa Z h0 a0l "java/util/ArrayList") (F_elementData_a0l : Fld Z h0 a0l "java/util/ArrayList" "elementData" "[Ljava/lang/Object;" .null) (F_size_a0l : Fld Z h0 a0l "java/util/ArrayList" "size" "I" (.int 0)) (F_modCount_a0l : Fld Z h0 a0l "java/util/AbstractList" "modCount" "I" (.int 0)) (g_a0l : n0 ≤ a0l) :
    MF l MN_32 jdk_38_method_2_code 1 none ws (Rm 3 0 0 36) #[(.ref a0l)] Z h0 (Q_rmLi n0 Z cS aDE kDE aUS aSS aIE mO a0l h0) := by
  refine MetFree.of_bodySF (plainFor_of_name pnv9) hisR ?_
  intro p e s m args below meth c s₁ Bd hml0 hP hK
  obtain ⟨rfl, hZ, hh⟩ := hP
  have hx := Bd.exec
  have hby := Bd.bytes
  have hml : c.maxLocals = 1 := hml0
  have hown : s.vm.findClass "java/util/ArrayList" = some m.cls := findClass_of_methodNamed Bd.named
  have hnm := (name_of_methodNamed Bd.named Bd.method).1
  have X0 : Stand p l e (Rm 3 0 0 36) s m #[(.ref a0l)] below meth c s₁ [] 0 0 := Stand.of_body Bd
  have e0 : s₁.heap = h0 := by rw [← hh, Bd.state]; rfl
  have N0 := Fr.nil n0
  have pre0 : ∀ t, SP p e below s₁ m 0 #[vr a0l] [] t → Steps p.tables e below (s₁.setTop (entryFrame m #[(.ref a0l)] 1)) t := fun t k => castTop (ef_rmAbc m a0l) k
  have GL' := GL
  obtain ⟨GCS, GCP, GDE, GVE, GUS, GSS, GIE, GMO⟩ := GL'
  obtain ⟨_, _, ⟨T1, L1, k1, n1⟩, -, X1, ⟨Lc1, hQ1, l1, y1, z1⟩, st1⟩ := X0.specialBack hx (y := MN_31) rfl hown (mvT hZ (Wd hw 40 rfl)) (mvT hZ (Wd hw 41 rfl)) (mvT hZ (Wd hw 45 rfl)) (by decide) (backOf (W := 0) (rmAbl l Z a0 hw [] cS aDE kDE aUS aSS aIE mO a0l h0 n0 O0 GL E_a0l F_elementData_a0l F_size_a0l F_modCount_a0l g_a0l) hZ (Wd hw 45 rfl) (Wd hw 44 rfl) (by decide) (by decide)) (g := mkF m 1 #[vr a0l] [(.ref a0l)]) rfl (by rw [hml]; rfl) (Steps.refl _) (a := a0l) (argsL := []) (rest := []) (lenOf pdv18 rfl) rfl (by show 2 * 0 + _ ≤ _; exact lEq rfl) (dG hby D8 1 rfl) (fun _ _ => ⟨rfl, e0, (by decide : 0 + 0 ≤ _), (by decide : 0 + 0 ≤ _)⟩)
  dsimp only [Pt.U, Pt.locs, Pt.cells, Pt.slots] at X1 l1 y1 z1 st1 hQ1
  subst l1 y1 z1
  obtain ⟨rfl, N1q, Kc1, P1_0, P1_1, P1_2, P1_3⟩ := hQ1
  have K1 : Keep h0 T1.heap [a0l] := (Keep.refl h0 [a0l]).trans Kc1 (allS (Or.inl (List.mem_of_getElem? (i := 0) rfl)) all0)
  have O1 := O0.keep Kc1 (allS g_a0l all0)
  have N1 := Fr.app N0 N1q
  obtain ⟨T2, X2, e2, st2⟩ := getS2 X1 hx hZ hown (host := "") (Or.inl (Wd hw 55 rfl)) Via.refl rfl (GDE.ext O1.2) (g := mkF m 5 #[vr a0l] [(.ref a0l)]) rfl (dG hby D8 3 rfl)
  obtain ⟨T3, h3, X3, e3, W3, st3⟩ := putF X2 hx hZ hown (host := "") (Or.inl (Wd hw 56 rfl)) Via.refl e2 P1_1 P1_0 (Or.inl (Wd hw 57 rfl)) (Wd hw 35 rfl) (ty := (.array (.object "java/lang/Object"))) (by decide) rfl rfl (g := mkF m 8 #[vr a0l] [(.ref aDE), (.ref a0l)]) rfl rfl (dG hby D8 4 rfl)
  have Fw3 := P1_1.same W3
  have K3 : Keep h0 h3 [a0l] := K1.wr W3 (Or.inl (List.mem_of_getElem? (i := 0) rfl))
  have O3 := O1.wr W3 g_a0l
  have N3 := Fr.snoc X3 N1 g_a0l
  obtain ⟨fs, hr, hrun, hended, hW, hsame⟩ := X3.leave (v := none) (fun _ => rfl)
  refine ⟨_, _, pre0 _ ?_, hrun, hended, _, _, rfl, ?_, ⟨_, rfl⟩, hW, hsame.mono (by decide) (by decide)⟩
  · show SP p e below s₁ m 0 #[vr a0l] [] _
    refine XS.aloadN X0.here hx rfl (dG hby D8 0 rfl) rfl rfl ?_
    show SP p e below s₁ m 1 #[vr a0l] [(.ref a0l)] _
    refine st1.trans ?_
    show SP p e below T1 m 4 #[vr a0l] [] _
    refine XS.aloadN X1.here hx rfl (dG hby D8 2 rfl) rfl rfl ?_
    show SP p e below T1 m 5 #[vr a0l] [(.ref a0l)] _
    refine st2 _ ?_
    show SP p e below T2 m 8 #[vr a0l] [(.ref aDE), (.ref a0l)] _
    refine st3 _ ?_
    show SP p e below T3 m 11 #[vr a0l] [] _
    exact X3.returnOut hx Bd.returns (dG hby D8 5 rfl) hr
  · show Q_rmLi n0 Z cS aDE kDE aUS aSS aIE mO a0l h0 _ T3.heap _
    rw [e3]
    exact ⟨rfl, N3, K3, (P1_0.wr W3), Fw3, (P1_2.other W3 (Or.inr (slot_ne (a0 := a0) (Or.inl (Wd hw 82 rfl)) (Or.inl (Wd hw 57 rfl)) (by decide) (t := .int) (t' := (.array (.object "java/lang/Object"))) (by decide) (by decide)))), (P1_3.other W3 (Or.inr (slot_ne (a0 := a0) (Or.inl (Wd hw 54 rfl)) (Or.inl (Wd hw 57 rfl)) (by decide) (t := .int) (t' := (.array (.object "java/lang/Object"))) (by decide) (by decide))))⟩
theorem D17 : dL jdk_29_method_65_code [(0, .iload_n 0, 1), (1, .iload_n 1, 1), (2, .if_icmp .lt 7, 3), (5, .iload_n 0, 1), (6, .goto 4, 3), (10, .ireturn, 1)] = true := by decide +kernel
abbrev MN_33 : MethodName := ⟨"java/lang/Math", "max", "(II)I"⟩
def Q_rmMax (n0 : Nat) (Z : State) (cS : Int32) (aDE : Addr) (kDE : ClassId) (aUS : Addr) (aSS : Addr) (aIE : Addr) (mO : Addr) (p0 : Int32) (p1 : Int32) (h0 : Heap) (v : Option Value) (h : Heap) (L : List Loc) : Prop := v = some (.int p0) ∧ Fr n0 L ∧ h = h0
theorem rmMax (l : Launch) (Z : State) (a0 : Array Value) (hw : ∀ d ∈ tables_1, d.before a0 Z = true) (ws : List Jvm.Cond) (cS : Int32) (aDE : Addr) (kDE : ClassId) (aUS : Addr) (aSS : Addr) (aIE : Addr) (mO : Addr) (p0 : Int32) (p1 : Int32) (h0 : Heap) (n0 : Nat) (O0 : Old Z n0 h0) (GL : GF Z cS aDE kDE aUS aSS aIE mO) (hm : ¬ (p0 < p1)) :
    MF l MN_33 jdk_29_method_65_code 2 (some .int) ws (Rm 0 0 0 0) #[(.int p0), (.int p1)] Z h0 (Q_rmMax n0 Z cS aDE kDE aUS aSS aIE mO p0 p1 h0) := by
  refine MetFree.of_bodySF (Jvm.Free.JP.mathPlain rfl (by decide +kernel)) hisR ?_
  intro p e s m args below meth c s₁ Bd hml0 hP hK
  obtain ⟨rfl, hZ, hh⟩ := hP
  have hx := Bd.exec
  have hby := Bd.bytes
  have hml : c.maxLocals = 2 := hml0
  have hown : s.vm.findClass "java/lang/Math" = some m.cls := findClass_of_methodNamed Bd.named
  have hnm := (name_of_methodNamed Bd.named Bd.method).1
  have X0 : Stand p l e (Rm 0 0 0 0) s m #[(.int p0), (.int p1)] below meth c s₁ [] 0 0 := Stand.of_body Bd
  have e0 : s₁.heap = h0 := by rw [← hh, Bd.state]; rfl
  have N0 := Fr.nil n0
  have pre0 : ∀ t, SP p e below s₁ m 0 #[vi p0, vi p1] [] t → Steps p.tables e below (s₁.setTop (entryFrame m #[(.int p0), (.int p1)] 2)) t := fun t k => castTop (ef_rmMin m p0 p1) k
  have GL' := GL
  obtain ⟨GCS, GCP, GDE, GVE, GUS, GSS, GIE, GMO⟩ := GL'
  obtain ⟨fs, hr, hrun, hended, hW, hsame⟩ := X0.leave (v := some (.int p0)) (fun h => by rw [Bd.returns] at h; cases h)
  refine ⟨_, _, pre0 _ ?_, hrun, hended, _, _, rfl, ?_, ⟨_, rfl⟩, hW, hsame.mono (by decide) (by decide)⟩
  · show SP p e below s₁ m 0 #[vi p0, vi p1] [] _
    refine XS.iloadN X0.here hx rfl (dG hby D17 0 rfl) rfl ?_
    refine XS.iloadN X0.here hx rfl (dG hby D17 1 rfl) rfl ?_
    refine XS.icmpNo X0.here hx rfl (dG hby D17 2 rfl) rfl (flt hm).1 ?_
    refine XS.iloadN X0.here hx rfl (dG hby D17 3 rfl) rfl ?_
    refine XS.goto X0.here hx rfl (pc0 := 6) (pc' := 10) rfl (dG hby D17 4 rfl) (by decide) (by decide) ?_
    show SP p e below s₁ m 10 #[vi p0, vi p1] [(.int p0)] _
    exact retI X0 hx Bd.returns (dG hby D17 5 rfl) hr
  · show Q_rmMax n0 Z cS aDE kDE aUS aSS aIE mO p0 p1 h0 _ s₁.heap _
    rw [e0]
    exact ⟨rfl, N0, rfl⟩
theorem D16 : dL jdk_38_method_6_code [(0, .aload_n 0, 1), (1, .getfield 9, 3), (4, .arraylength, 1), (5, .istore_n 2, 1), (6, .iload_n 2, 1), (7, .ifCond .gt 13, 3), (10, .aload_n 0, 1), (11, .getfield 9, 3), (14, .getstatic 39, 3), (17, .if_acmp .eq 28, 3), (45, .aload_n 0, 1), (46, .bipush 10, 2), (48, .iload_n 1, 1), (49, .invokestatic 79, 3), (52, .anewarray 7, 3), (55, .dup_x1, 1), (56, .putfield 9, 3), (59, .areturn, 1)] = true := by decide +kernel
abbrev MN_34 : MethodName := ⟨"java/util/ArrayList", "grow", "(I)[Ljava/lang/Object;"⟩
theorem ef_rmGr1 (m : MethodId) (a0l : Addr) : entryFrame m #[(.ref a0l), (.int 1)] 4 = mkF m 0 #[vr a0l, vi (1 : Int32), .unset, .unset] [] := by first | (simp [entryFrame, mkF, argsToLocals, Value.category]; done) | rfl
def Q_rmGr1 (n0 : Nat) (Z : State) (cS : Int32) (aDE : Addr) (kDE : ClassId) (aUS : Addr) (aSS : Addr) (aIE : Addr) (mO : Addr) (a0l : Addr) (mc : Int32) (h0 : Heap) (v : Option Value) (h : Heap) (L : List Loc) : Prop := ∃ b : Addr, ∃ kb : ClassId, v = some (.ref b) ∧ Fr n0 L ∧ Keep h0 h [a0l] ∧ (h0.size ≤ b) ∧ (Exa Z h b "[Ljava/lang/Object;") ∧ (Arv Z h b kb (.object "java/lang/Object") (10 : Int32) [.null, .null, .null, .null, .null, .null, .null, .null, .null, .null] .null) ∧ (Ovr Z kb "java/lang/Object") ∧ (Exa Z h a0l "java/util/ArrayList") ∧ (Fld Z h a0l "java/util/ArrayList" "elementData" "[Ljava/lang/Object;" (.ref b)) ∧ (Fld Z h a0l "java/util/ArrayList" "size" "I" (.int 0)) ∧ (Fld Z h a0l "java/util/AbstractList" "modCount" "I" (.int mc))
theorem rmGr1 (l : Launch) (Z : State) (a0 : Array Value) (hw : ∀ d ∈ tables_1, d.before a0 Z = true) (ws : List Jvm.Cond) (cS : Int32) (aDE : Addr) (kDE : ClassId) (aUS : Addr) (aSS : Addr) (aIE : Addr) (mO : Addr) (a0l : Addr) (mc : Int32) (h0 : Heap) (n0 : Nat) (O0 : Old Z n0 h0) (GL : GF Z cS aDE kDE aUS aSS aIE mO) (E_a0l : Exa Z h0 a0l "java/util/ArrayList") (F_elementData_a0l : Fld Z h0 a0l "java/util/ArrayList" "elementData" "[Ljava/lang/Object;" (.ref aDE)) (F_size_a0l : Fld Z h0 a0l "java/util/ArrayList" "size" "I" (.int 0)) (F_modCount_a0l : Fld Z h0 a0l "java/util/AbstractList" "modCount" "I" (.int mc)) (g_a0l : n0 ≤ a0l) :
    MF l MN_34 jdk_38_method_6_code 4 (some (.array (.object "java/lang/Object"))) ws (Rm 1 1 10 14) #[(.ref a0l), (.int 1)] Z h0 (Q_rmGr1 n0 Z cS aDE kDE aUS aSS aIE mO a0l mc h0) := by
  refine MetFree.of_bodySF (plainFor_of_name pnv9) hisR ?_
  intro p e s m args below meth c s₁ Bd hml0 hP hK
  obtain ⟨rfl, hZ, hh⟩ := hP
  have hx := Bd.exec
  have hby := Bd.bytes
  have hml : c.maxLocals = 4 := hml0
  have hown : s.vm.findClass "java/util/ArrayList" = some m.cls := findClass_of_methodNamed Bd.named
  have hnm := (name_of_methodNamed Bd.named Bd.method).1
  have X0 : Stand p l e (Rm 1 1 10 14) s m #[(.ref a0l), (.int 1)] below meth c s₁ [] 0 0 := Stand.of_body Bd
  have e0 : s₁.heap = h0 := by rw [← hh, Bd.state]; rfl
  have N0 := Fr.nil n0
  have pre0 : ∀ t, SP p e below s₁ m 0 #[vr a0l, vi (1 : Int32), .unset, .unset] [] t → Steps p.tables e below (s₁.setTop (entryFrame m #[(.ref a0l), (.int 1)] 4)) t := fun t k => castTop (ef_rmGr1 m a0l) k
  have GL' := GL
  obtain ⟨GCS, GCP, GDE, GVE, GUS, GSS, GIE, GMO⟩ := GL'
  obtain ⟨T1, X1, e1, st1⟩ := getF X0 hx hZ hown (host := "") (Or.inl (Wd hw 56 rfl)) Via.refl e0 F_elementData_a0l (g := mkF m 1 #[vr a0l, vi (1 : Int32), .unset, .unset] [(.ref a0l)]) rfl rfl (dG hby D16 1 rfl)
  obtain ⟨cl2, Ar2, -, S2, N2_, -, -⟩ := id ((GVE.ext O0.2))
  obtain ⟨T3, X3, e3, st3⟩ := getF X1 hx hZ hown (host := "") (Or.inl (Wd hw 56 rfl)) Via.refl e1 F_elementData_a0l (g := mkF m 11 #[vr a0l, vi (1 : Int32), vi (0 : Int32), .unset] [(.ref a0l)]) rfl rfl (dG hby D16 7 rfl)
  obtain ⟨T4, X4, e4, st4⟩ := getS2 X3 hx hZ hown (host := "") (Or.inl (Wd hw 55 rfl)) Via.refl e3 (GDE.ext O0.2) (g := mkF m 14 #[vr a0l, vi (1 : Int32), vi (0 : Int32), .unset] [(.ref aDE)]) rfl (dG hby D16 8 rfl)
  obtain ⟨_, _, ⟨T5, L5, k5, n5⟩, -, X5, ⟨Lc5, hQ5, l5, y5, z5⟩, st5⟩ := Jvm.LawKit.callS X4 hx (y := MN_33) hown (mvT hZ (Wd hw 98 rfl)) (mvT hZ (Wd hw 99 rfl)) (mvT hZ (Wd hw 100 rfl)) (mvT hZ (Wd hw 101 rfl)) (by decide) (backOf (W := 1) (rmMax l Z a0 hw [] cS aDE kDE aUS aSS aIE mO ((10 : Int32)) ((1 : Int32)) h0 n0 O0 GL (by decide)) hZ (Wd hw 101 rfl) (Wd hw 100 rfl) (by decide) (by decide)) (g := mkF m 49 #[vr a0l, vi (1 : Int32), vi (0 : Int32), .unset] [(.int 1), (.int 10), (.ref a0l)]) rfl (by rw [hml]; rfl) (argsL := [(.int 10), (.int 1)]) (rest := [(.ref a0l)]) (lenOf pdv12 rfl) rfl (by show 2 * 0 + _ ≤ _; exact lEq rfl) (dG hby D16 13 rfl) (fun _ _ => ⟨rfl, e4, (by decide : 0 + 0 ≤ _), (by decide : 0 + 0 ≤ _)⟩)
  dsimp only [Pt.U, Pt.locs, Pt.cells, Pt.slots] at X5 l5 y5 z5 st5 hQ5
  subst l5 y5 z5
  obtain ⟨rfl, N5q, e5⟩ := hQ5
  have N5 := Fr.app N0 N5q
  obtain ⟨T6, h6, k6, X6, e6, E6, A6, A6', Ov6, st6⟩ := newRE X5 hx hZ hown (Wd hw 102 rfl) (Wd hw 103 rfl) e5 (g := mkF m 52 #[vr a0l, vi (1 : Int32), vi (0 : Int32), .unset] [(.int 10), (.ref a0l)]) rfl (dG hby D16 14 rfl) rfl (by decide) (cap := 10) (by decide) (by decide) (by decide) (by decide) (ad := "[Ljava/lang/Object;") rfl
  obtain ⟨b6, g6⟩ : ∃ z, z = h0.size := ⟨_, rfl⟩
  rw [← g6] at A6 A6' st6
  have g_b6 : n0 ≤ b6 := lTr (own_sz O0) (lEq g6.symm)
  have sz_b6 : h0.size ≤ b6 := lTr (Keep.refl h0 [a0l]).1 (lEq g6.symm)
  have K6 : Keep h0 h6 [a0l] := (Keep.refl h0 [a0l]).ext E6
  have O6 := O0.ext E6
  have V_b6 : Arv Z h6 b6 k6 (.object "java/lang/Object") (10 : Int32) [.null, .null, .null, .null, .null, .null, .null, .null, .null, .null] .null := (Arv.new A6 (by decide)).pad (pad_rep [] .null 10)
  obtain ⟨T7, h7, X7, e7, W7, st7⟩ := putF X6 hx hZ hown (host := "") (Or.inl (Wd hw 56 rfl)) Via.refl e6 (F_elementData_a0l.ext E6) (E_a0l.ext E6) (Or.inl (Wd hw 57 rfl)) (Wd hw 35 rfl) (ty := (.array (.object "java/lang/Object"))) (by decide) rfl rfl (g := mkF m 56 #[vr a0l, vi (1 : Int32), vi (0 : Int32), .unset] [(.ref b6), (.ref a0l), (.ref b6)]) rfl rfl (dG hby D16 16 rfl)
  have Fw7 := (F_elementData_a0l.ext E6).same W7
  have K7 : Keep h0 h7 [a0l] := K6.wr W7 (Or.inl (List.mem_of_getElem? (i := 0) rfl))
  have O7 := O6.wr W7 g_a0l
  have N7 := Fr.snoc X7 N5 g_a0l
  obtain ⟨fs, hr, hrun, hended, hW, hsame⟩ := X7.leave (v := some (.ref b6)) (fun h => by rw [Bd.returns] at h; cases h)
  refine ⟨_, _, pre0 _ ?_, hrun, hended, _, _, rfl, ?_, ⟨_, rfl⟩, hW, hsame.mono (by decide) (by decide)⟩
  · show SP p e below s₁ m 0 #[vr a0l, vi (1 : Int32), .unset, .unset] [] _
    refine XS.aloadN X0.here hx rfl (dG hby D16 0 rfl) rfl rfl ?_
    show SP p e below s₁ m 1 #[vr a0l, vi (1 : Int32), .unset, .unset] [(.ref a0l)] _
    refine st1 _ ?_
    show SP p e below T1 m 4 #[vr a0l, vi (1 : Int32), .unset, .unset] [(.ref aDE)] _
    refine X1.arraylength hx (by rw [e1]; exact Ar2.1) (State.isArrayOf_alike hZ.alike Ar2.2.1) (g := mkF m 4 #[vr a0l, vi (1 : Int32), .unset, .unset] [(.ref aDE)]) rfl rfl (dG hby D16 2 rfl) _ ?_
    rw [len_of S2 N2_]
    show SP p e below T1 m 5 #[vr a0l, vi (1 : Int32), .unset, .unset] [(.int 0)] _
    refine XS.istoreN X1.here hx rfl (dG hby D16 3 rfl) rfl (l' := #[vr a0l, vi (1 : Int32), vi (0 : Int32), .unset]) rfl ?_
    refine XS.iloadN X1.here hx rfl (dG hby D16 4 rfl) rfl ?_
    refine XS.ifNo X1.here hx rfl (dG hby D16 5 rfl) rfl ((if0 _ _).trans (flt (by decide : ¬ ((0 : Int32) < (0 : Int32)))).2.2.1) ?_
    refine XS.aloadN X1.here hx rfl (dG hby D16 6 rfl) rfl rfl ?_
    show SP p e below T1 m 11 #[vr a0l, vi (1 : Int32), vi (0 : Int32), .unset] [(.ref a0l)] _
    refine st3 _ ?_
    show SP p e below T3 m 14 #[vr a0l, vi (1 : Int32), vi (0 : Int32), .unset] [(.ref aDE)] _
    refine st4 _ ?_
    show SP p e below T4 m 17 #[vr a0l, vi (1 : Int32), vi (0 : Int32), .unset] [(.ref aDE), (.ref aDE)] _
    refine Jvm.RoadKit.acmp (g := mkF m 17 #[vr a0l, vi (1 : Int32), vi (0 : Int32), .unset] [(.ref aDE), (.ref aDE)]) X4 hx rfl rfl rfl (pc0 := 17) (pc' := 45) (same := true) rfl (dG hby D16 9 rfl) rfl (decide_eq_true rfl) (by decide) (by decide) ?_
    show SP p e below T4 m 45 #[vr a0l, vi (1 : Int32), vi (0 : Int32), .unset] [] _
    refine XS.aloadN X4.here hx rfl (dG hby D16 10 rfl) rfl rfl ?_
    refine XS.bipush X4.here hx rfl (dG hby D16 11 rfl) ?_
    refine XS.iloadN X4.here hx rfl (dG hby D16 12 rfl) rfl ?_
    show SP p e below T4 m 49 #[vr a0l, vi (1 : Int32), vi (0 : Int32), .unset] [(.int 1), (.int 10), (.ref a0l)] _
    refine st5 _ ?_
    show SP p e below T5 m 52 #[vr a0l, vi (1 : Int32), vi (0 : Int32), .unset] [(.int 10), (.ref a0l)] _
    refine st6 _ ?_
    show SP p e below T6 m 55 #[vr a0l, vi (1 : Int32), vi (0 : Int32), .unset] [(.ref b6), (.ref a0l)] _
    refine XS.dupX1 X6.here hx rfl (dG hby D16 15 rfl) rfl rfl rfl ?_
    show SP p e below T6 m 56 #[vr a0l, vi (1 : Int32), vi (0 : Int32), .unset] [(.ref b6), (.ref a0l), (.ref b6)] _
    refine st7 _ ?_
    show SP p e below T7 m 59 #[vr a0l, vi (1 : Int32), vi (0 : Int32), .unset] [(.ref b6)] _
    exact retA X7 hx Bd.returns rfl (dG hby D16 17 rfl) hr
  · show Q_rmGr1 n0 Z cS aDE kDE aUS aSS aIE mO a0l mc h0 _ T7.heap _
    rw [e7]
    exact ⟨b6, k6, rfl, N7, K7, sz_b6, (A6'.wr W7), (V_b6.other W7 (Ne.symm (nLt (lLt E_a0l.lt (lEq g6.symm))))), Ov6, ((E_a0l.ext E6).wr W7), Fw7, ((F_size_a0l.ext E6).other W7 (Or.inr (slot_ne (a0 := a0) (Or.inl (Wd hw 82 rfl)) (Or.inl (Wd hw 57 rfl)) (by decide) (t := .int) (t' := (.array (.object "java/lang/Object"))) (by decide) (by decide)))), ((F_modCount_a0l.ext E6).other W7 (Or.inr (slot_ne (a0 := a0) (Or.inl (Wd hw 54 rfl)) (Or.inl (Wd hw 57 rfl)) (by decide) (t := .int) (t' := (.array (.object "java/lang/Object"))) (by decide) (by decide))))⟩
theorem D15 : dL jdk_38_method_7_code [(0, .aload_n 0, 1), (1, .aload_n 0, 1), (2, .getfield 48, 3), (5, .iconst 1, 1), (6, .iadd, 1), (7, .invokevirtual 69, 3), (10, .areturn, 1)] = true := by decide +kernel
theorem pdv21 : parseMethodDescriptor "(I)[Ljava/lang/Object;" = some ⟨[.int], some (.array (.object "java/lang/Object"))⟩ := by decide +kernel
abbrev MN_35 : MethodName := ⟨"java/util/ArrayList", "grow", "()[Ljava/lang/Object;"⟩
def Q_rmGr0 (n0 : Nat) (Z : State) (cS : Int32) (aDE : Addr) (kDE : ClassId) (aUS : Addr) (aSS : Addr) (aIE : Addr) (mO : Addr) (a0l : Addr) (mc : Int32) (h0 : Heap) (v : Option Value) (h : Heap) (L : List Loc) : Prop := ∃ b : Addr, ∃ kb : ClassId, v = some (.ref b) ∧ Fr n0 L ∧ Keep h0 h [a0l] ∧ (h0.size ≤ b) ∧ (Exa Z h b "[Ljava/lang/Object;") ∧ (Arv Z h b kb (.object "java/lang/Object") (10 : Int32) [.null, .null, .null, .null, .null, .null, .null, .null, .null, .null] .null) ∧ (Ovr Z kb "java/lang/Object") ∧ (Exa Z h a0l "java/util/ArrayList") ∧ (Fld Z h a0l "java/util/ArrayList" "elementData" "[Ljava/lang/Object;" (.ref b)) ∧ (Fld Z h a0l "java/util/ArrayList" "size" "I" (.int 0)) ∧ (Fld Z h a0l "java/util/AbstractList" "modCount" "I" (.int mc))
theorem rmGr0 (l : Launch) (Z : State) (a0 : Array Value) (hw : ∀ d ∈ tables_1, d.before a0 Z = true) (ws : List Jvm.Cond) (cS : Int32) (aDE : Addr) (kDE : ClassId) (aUS : Addr) (aSS : Addr) (aIE : Addr) (mO : Addr) (a0l : Addr) (mc : Int32) (h0 : Heap) (n0 : Nat) (O0 : Old Z n0 h0) (GL : GF Z cS aDE kDE aUS aSS aIE mO) (E_a0l : Exa Z h0 a0l "java/util/ArrayList") (F_elementData_a0l : Fld Z h0 a0l "java/util/ArrayList" "elementData" "[Ljava/lang/Object;" (.ref aDE)) (F_size_a0l : Fld Z h0 a0l "java/util/ArrayList" "size" "I" (.int 0)) (F_modCount_a0l : Fld Z h0 a0l "java/util/AbstractList" "modCount" "I" (.int mc)) (g_a0l : n0 ≤ a0l) :
    MF l MN_35 jdk_38_method_7_code 1 (some (.array (.object "java/lang/Object"))) ws (Rm 2 1 10 29) #[(.ref a0l)] Z h0 (Q_rmGr0 n0 Z cS aDE kDE aUS aSS aIE mO a0l mc h0) := by
  refine MetFree.of_bodySF (plainFor_of_name pnv9) hisR ?_
  intro p e s m args below meth c s₁ Bd hml0 hP hK
  obtain ⟨rfl, hZ, hh⟩ := hP
  have hx := Bd.exec
  have hby := Bd.bytes
  have hml : c.maxLocals = 1 := hml0
  have hown : s.vm.findClass "java/util/ArrayList" = some m.cls := findClass_of_methodNamed Bd.named
  have hnm := (name_of_methodNamed Bd.named Bd.method).1
  have X0 : Stand p l e (Rm 2 1 10 29) s m #[(.ref a0l)] below meth c s₁ [] 0 0 := Stand.of_body Bd
  have e0 : s₁.heap = h0 := by rw [← hh, Bd.state]; rfl
  have N0 := Fr.nil n0
  have pre0 : ∀ t, SP p e below s₁ m 0 #[vr a0l] [] t → Steps p.tables e below (s₁.setTop (entryFrame m #[(.ref a0l)] 1)) t := fun t k => castTop (ef_rmAbc m a0l) k
  have GL' := GL
  obtain ⟨GCS, GCP, GDE, GVE, GUS, GSS, GIE, GMO⟩ := GL'
  obtain ⟨T1, X1, e1, st1⟩ := getF X0 hx hZ hown (host := "") (Or.inl (Wd hw 81 rfl)) Via.refl e0 F_size_a0l (g := mkF m 2 #[vr a0l] [(.ref a0l), (.ref a0l)]) rfl rfl (dG hby D15 2 rfl)
  obtain ⟨cq2, q2, q2'⟩ := E_a0l.cell
  obtain ⟨_, _, ⟨T2, L2, k2, n2⟩, -, X2, ⟨Lc2, hQ2, l2, y2, z2⟩, st2⟩ := X1.privateBack hx (y := MN_34) hown (mvT hZ (Wd hw 93 rfl)) (mvT hZ (Wd hw 94 rfl)) (mvT hZ (Wd hw 96 rfl)) (Cond.privateMethod_at (mvP hZ (Wd hw 95 rfl) (args := #[]))) (mvT hZ (Wd hw 97 rfl)) (by decide) (backOf (W := 0) (rmGr1 l Z a0 hw [] cS aDE kDE aUS aSS aIE mO a0l mc h0 n0 O0 GL E_a0l F_elementData_a0l F_size_a0l F_modCount_a0l g_a0l) hZ (Wd hw 97 rfl) (Wd hw 36 rfl) (by decide) (by decide)) (g := mkF m 7 #[vr a0l] [(.int 1), (.ref a0l)]) rfl (by rw [hml]; rfl) (Steps.refl _) (a := a0l) (by rw [e1]; exact q2) q2' (argsL := [(.int 1)]) (rest := []) (lenOf pdv21 rfl) rfl (by show 2 * 0 + _ ≤ _; exact lEq rfl) (dG hby D15 5 rfl) (fun _ _ => ⟨rfl, e1, (by decide : 0 + 1 ≤ _), (by decide : 0 + 10 ≤ _)⟩)
  dsimp only [Pt.U, Pt.locs, Pt.cells, Pt.slots] at X2 l2 y2 z2 st2 hQ2
  subst l2 y2 z2
  obtain ⟨b_2, kb_2, rfl, N2q, Kc2, P2_0, P2_1, P2_2, P2_3, P2_4, P2_5, P2_6, P2_7⟩ := hQ2
  have K2 : Keep h0 T2.heap [a0l] := (Keep.refl h0 [a0l]).trans Kc2 (allS (Or.inl (List.mem_of_getElem? (i := 0) rfl)) all0)
  have O2 := O0.keep Kc2 (allS g_a0l all0)
  have g_b_2 : n0 ≤ b_2 := lTr (own_sz O0) P2_0
  have sz_b_2 : h0.size ≤ b_2 := lTr (Keep.refl h0 [a0l]).1 P2_0
  have N2 := Fr.app N0 N2q
  obtain ⟨fs, hr, hrun, hended, hW, hsame⟩ := X2.leave (v := some (.ref b_2)) (fun h => by rw [Bd.returns] at h; cases h)
  refine ⟨_, _, pre0 _ ?_, hrun, hended, _, _, rfl, ?_, ⟨_, rfl⟩, hW, hsame.mono (by decide) (by decide)⟩
  · show SP p e below s₁ m 0 #[vr a0l] [] _
    refine XS.aloadN X0.here hx rfl (dG hby D15 0 rfl) rfl rfl ?_
    refine XS.aloadN X0.here hx rfl (dG hby D15 1 rfl) rfl rfl ?_
    show SP p e below s₁ m 2 #[vr a0l] [(.ref a0l), (.ref a0l)] _
    refine st1 _ ?_
    show SP p e below T1 m 5 #[vr a0l] [(.int 0), (.ref a0l)] _
    refine XS.iconst X1.here hx rfl (dG hby D15 3 rfl) ?_
    refine XS.iadd X1.here hx rfl (dG hby D15 4 rfl) rfl ?_
    show SP p e below T1 m 7 #[vr a0l] [(.int 1), (.ref a0l)] _
    refine st2.trans ?_
    show SP p e below T2 m 10 #[vr a0l] [(.ref b_2)] _
    exact retA X2 hx Bd.returns rfl (dG hby D15 6 rfl) hr
  · show Q_rmGr0 n0 Z cS aDE kDE aUS aSS aIE mO a0l mc h0 _ T2.heap _
    exact ⟨b_2, kb_2, rfl, N2, K2, sz_b_2, P2_1, P2_2, P2_3, P2_4, P2_5, P2_6, P2_7⟩
theorem D14 : dL jdk_38_method_24_code [(0, .iload_n 3, 1), (1, .aload_n 2, 1), (2, .arraylength, 1), (3, .if_icmp .ne 8, 3), (6, .aload_n 0, 1), (7, .invokevirtual 129, 3), (10, .astore_n 2, 1), (11, .aload_n 2, 1), (12, .iload_n 3, 1), (13, .aload_n 1, 1), (14, .aastore, 1), (15, .aload_n 0, 1), (16, .iload_n 3, 1), (17, .iconst 1, 1), (18, .iadd, 1), (19, .putfield 48, 3), (22, .return_, 1)] = true := by decide +kernel
theorem pdv22 : parseMethodDescriptor "()[Ljava/lang/Object;" = some ⟨[], some (.array (.object "java/lang/Object"))⟩ := by decide +kernel
abbrev MN_36 : MethodName := ⟨"java/util/ArrayList", "add", "(Ljava/lang/Object;[Ljava/lang/Object;I)V"⟩
theorem ef_rmA3_0 (m : MethodId) (a0l : Addr) (a1o : Addr) : entryFrame m #[(.ref a0l), (.ref a1o), (.ref aDE), (.int 0)] 4 = mkF m 0 #[vr a0l, vr a1o, vr aDE, vi (0 : Int32)] [] := by first | (simp [entryFrame, mkF, argsToLocals, Value.category]; done) | rfl
def Q_rmA3_0 (n0 : Nat) (Z : State) (cS : Int32) (aDE : Addr) (kDE : ClassId) (aUS : Addr) (aSS : Addr) (aIE : Addr) (mO : Addr) (a0l : Addr) (a1o : Addr) (mc : Int32) (h0 : Heap) (v : Option Value) (h : Heap) (L : List Loc) : Prop := ∃ b : Addr, ∃ kb : ClassId, v = none ∧ Fr n0 L ∧ Keep h0 h [a0l] ∧ (h0.size ≤ b) ∧ (Exa Z h b "[Ljava/lang/Object;") ∧ (Arv Z h b kb (.object "java/lang/Object") (10 : Int32) [(.ref a1o), .null, .null, .null, .null, .null, .null, .null, .null, .null] .null) ∧ (Ovr Z kb "java/lang/Object") ∧ (Exa Z h a0l "java/util/ArrayList") ∧ (Fld Z h a0l "java/util/ArrayList" "elementData" "[Ljava/lang/Object;" (.ref b)) ∧ (Fld Z h a0l "java/util/ArrayList" "size" "I" (.int 1)) ∧ (Fld Z h a0l "java/util/AbstractList" "modCount" "I" (.int mc))
theorem rmA3_0 (l : Launch) (Z : State) (a0 : Array Value) (hw : ∀ d ∈ tables_1, d.before a0 Z = true) (ws : List Jvm.Cond) (cS : Int32) (aDE : Addr) (kDE : ClassId) (aUS : Addr) (aSS : Addr) (aIE : Addr) (mO : Addr) (a0l : Addr) (a1o : Addr) (mc : Int32) (h0 : Heap) (n0 : Nat) (O0 : Old Z n0 h0) (GL : GF Z cS aDE kDE aUS aSS aIE mO) (E_a0l : Exa Z h0 a0l "java/util/ArrayList") (F_elementData_a0l : Fld Z h0 a0l "java/util/ArrayList" "elementData" "[Ljava/lang/Object;" (.ref aDE)) (F_size_a0l : Fld Z h0 a0l "java/util/ArrayList" "size" "I" (.int 0)) (F_modCount_a0l : Fld Z h0 a0l "java/util/AbstractList" "modCount" "I" (.int mc)) (g_a0l : n0 ≤ a0l) (E_a1o : Exa Z h0 a1o "com/example/grantline/grantline/PolicyException$Problem") :
    MF l MN_36 jdk_38_method_24_code 4 none ws (Rm 3 1 10 41) #[(.ref a0l), (.ref a1o), (.ref aDE), (.int 0)] Z h0 (Q_rmA3_0 n0 Z cS aDE kDE aUS aSS aIE mO a0l a1o mc h0) := by
  refine MetFree.of_bodySF (plainFor_of_name pnv9) hisR ?_
  intro p e s m args below meth c s₁ Bd hml0 hP hK
  obtain ⟨rfl, hZ, hh⟩ := hP
  have hx := Bd.exec
  have hby := Bd.bytes
  have hml : c.maxLocals = 4 := hml0
  have hown : s.vm.findClass "java/util/ArrayList" = some m.cls := findClass_of_methodNamed Bd.named
  have hnm := (name_of_methodNamed Bd.named Bd.method).1
  have X0 : Stand p l e (Rm 3 1 10 41) s m #[(.ref a0l), (.ref a1o), (.ref aDE), (.int 0)] below meth c s₁ [] 0 0 := Stand.of_body Bd
  have e0 : s₁.heap = h0 := by rw [← hh, Bd.state]; rfl
  have N0 := Fr.nil n0
  have pre0 : ∀ t, SP p e below s₁ m 0 #[vr a0l, vr a1o, vr aDE, vi (0 : Int32)] [] t → Steps p.tables e below (s₁.setTop (entryFrame m #[(.ref a0l), (.ref a1o), (.ref aDE), (.int 0)] 4)) t := fun t k => castTop (ef_rmA3_0 m a0l a1o) k
  have GL' := GL
  obtain ⟨GCS, GCP, GDE, GVE, GUS, GSS, GIE, GMO⟩ := GL'
  obtain ⟨cl1, Ar1, -, S1, N1_, -, -⟩ := id ((GVE.ext O0.2))
  obtain ⟨cq2, q2, q2'⟩ := E_a0l.cell
  obtain ⟨_, _, ⟨T2, L2, k2, n2⟩, -, X2, ⟨Lc2, hQ2, l2, y2, z2⟩, st2⟩ := X0.privateBack hx (y := MN_35) hown (mvT hZ (Wd hw 88 rfl)) (mvT hZ (Wd hw 89 rfl)) (mvT hZ (Wd hw 91 rfl)) (Cond.privateMethod_at (mvP hZ (Wd hw 90 rfl) (args := #[]))) (mvT hZ (Wd hw 92 rfl)) (by decide) (backOf (W := 0) (rmGr0 l Z a0 hw [] cS aDE kDE aUS aSS aIE mO a0l mc h0 n0 O0 GL E_a0l F_elementData_a0l F_size_a0l F_modCount_a0l g_a0l) hZ (Wd hw 92 rfl) (Wd hw 36 rfl) (by decide) (by decide)) (g := mkF m 7 #[vr a0l, vr a1o, vr aDE, vi (0 : Int32)] [(.ref a0l)]) rfl (by rw [hml]; rfl) (Steps.refl _) (a := a0l) (by rw [e0]; exact q2) q2' (argsL := []) (rest := []) (lenOf pdv22 rfl) rfl (by show 2 * 0 + _ ≤ _; exact lEq rfl) (dG hby D14 5 rfl) (fun _ _ => ⟨rfl, e0, (by decide : 0 + 1 ≤ _), (by decide : 0 + 10 ≤ _)⟩)
  dsimp only [Pt.U, Pt.locs, Pt.cells, Pt.slots] at X2 l2 y2 z2 st2 hQ2
  subst l2 y2 z2
  obtain ⟨b_2, kb_2, rfl, N2q, Kc2, P2_0, P2_1, P2_2, P2_3, P2_4, P2_5, P2_6, P2_7⟩ := hQ2
  have K2 : Keep h0 T2.heap [a0l] := (Keep.refl h0 [a0l]).trans Kc2 (allS (Or.inl (List.mem_of_getElem? (i := 0) rfl)) all0)
  have O2 := O0.keep Kc2 (allS g_a0l all0)
  have g_b_2 : n0 ≤ b_2 := lTr (own_sz O0) P2_0
  have sz_b_2 : h0.size ≤ b_2 := lTr (Keep.refl h0 [a0l]).1 P2_0
  have N2 := Fr.app N0 N2q
  obtain ⟨cl3, Ar3, q3, S3, N3_, H3, G3⟩ := id (P2_2)
  have hin3 : ¬ ((0 : Int32) < 0 ∨ cl3.slots.size ≤ ((0 : Int32)).toNatClampNeg) := inb_of S3 ⟨(by decide), (by decide)⟩
  obtain ⟨T3, h3, X3, e3, W3, st3⟩ := stR X2 hx hZ rfl Ar3 (j := (0 : Int32)) hin3 rfl (Sto.ofV Ar3 q3 P2_3 (Ins.of_exa (E_a1o.keep Kc2) (Wd hw 104 rfl))) (g := mkF m 14 #[vr a0l, vr a1o, vr b_2, vi (0 : Int32)] [(.ref a1o), (.int 0), (.ref b_2)]) rfl rfl (dG hby D14 10 rfl)
  have K3 : Keep h0 h3 [a0l] := K2.wr W3 (Or.inr sz_b_2)
  have O3 := O2.wr W3 g_b_2
  have N3 := Fr.snoc X3 N2 g_b_2
  have V3 : Arv Z h3 b_2 kb_2 (.object "java/lang/Object") (10 : Int32) [(.ref a1o), .null, .null, .null, .null, .null, .null, .null, .null, .null] .null := Arv.set Ar3 q3 S3 N3_ H3 G3 rfl W3 0 rfl (Nat.le_of_ble_eq_true rfl)
  obtain ⟨T4, h4, X4, e4, W4, st4⟩ := putF X3 hx hZ hown (host := "") (Or.inl (Wd hw 81 rfl)) Via.refl e3 (P2_6.other W3 (Or.inl (nLt (lLt E_a0l.lt P2_0)))) (P2_4.wr W3) (Or.inl (Wd hw 82 rfl)) (Wd hw 35 rfl) (ty := .int) (by decide) rfl rfl (g := mkF m 19 #[vr a0l, vr a1o, vr b_2, vi (0 : Int32)] [(.int 1), (.ref a0l)]) rfl rfl (dG hby D14 15 rfl)
  have Fw4 := (P2_6.other W3 (Or.inl (nLt (lLt E_a0l.lt P2_0)))).same W4
  have K4 : Keep h0 h4 [a0l] := K3.wr W4 (Or.inl (List.mem_of_getElem? (i := 0) rfl))
  have O4 := O3.wr W4 g_a0l
  have N4 := Fr.snoc X4 N3 g_a0l
  obtain ⟨fs, hr, hrun, hended, hW, hsame⟩ := X4.leave (v := none) (fun _ => rfl)
  refine ⟨_, _, pre0 _ ?_, hrun, hended, _, _, rfl, ?_, ⟨_, rfl⟩, hW, hsame.mono (by decide) (by decide)⟩
  · show SP p e below s₁ m 0 #[vr a0l, vr a1o, vr aDE, vi (0 : Int32)] [] _
    refine XS.iloadN X0.here hx rfl (dG hby D14 0 rfl) rfl ?_
    refine XS.aloadN X0.here hx rfl (dG hby D14 1 rfl) rfl rfl ?_
    show SP p e below s₁ m 2 #[vr a0l, vr a1o, vr aDE, vi (0 : Int32)] [(.ref aDE), (.int 0)] _
    refine X0.arraylength hx (by rw [e0]; exact Ar1.1) (State.isArrayOf_alike hZ.alike Ar1.2.1) (g := mkF m 2 #[vr a0l, vr a1o, vr aDE, vi (0 : Int32)] [(.ref aDE), (.int 0)]) rfl rfl (dG hby D14 2 rfl) _ ?_
    rw [len_of S1 N1_]
    show SP p e below s₁ m 3 #[vr a0l, vr a1o, vr aDE, vi (0 : Int32)] [(.int 0), (.int 0)] _
    refine XS.icmpNo X0.here hx rfl (dG hby D14 3 rfl) rfl (teq (by decide : (0 : Int32) = (0 : Int32))).2 ?_
    refine XS.aloadN X0.here hx rfl (dG hby D14 4 rfl) rfl rfl ?_
    show SP p e below s₁ m 7 #[vr a0l, vr a1o, vr aDE, vi (0 : Int32)] [(.ref a0l)] _
    refine st2.trans ?_
    show SP p e below T2 m 10 #[vr a0l, vr a1o, vr aDE, vi (0 : Int32)] [(.ref b_2)] _
    refine XS.astoreN X2.here hx rfl (dG hby D14 6 rfl) rfl rfl (l' := #[vr a0l, vr a1o, vr b_2, vi (0 : Int32)]) rfl ?_
    refine XS.aloadN X2.here hx rfl (dG hby D14 7 rfl) rfl rfl ?_
    refine XS.iloadN X2.here hx rfl (dG hby D14 8 rfl) rfl ?_
    refine XS.aloadN X2.here hx rfl (dG hby D14 9 rfl) rfl rfl ?_
    show SP p e below T2 m 14 #[vr a0l, vr a1o, vr b_2, vi (0 : Int32)] [(.ref a1o), (.int 0), (.ref b_2)] _
    refine st3 _ ?_
    show SP p e below T3 m 15 #[vr a0l, vr a1o, vr b_2, vi (0 : Int32)] [] _
    refine XS.aloadN X3.here hx rfl (dG hby D14 11 rfl) rfl rfl ?_
    refine XS.iloadN X3.here hx rfl (dG hby D14 12 rfl) rfl ?_
    refine XS.iconst X3.here hx rfl (dG hby D14 13 rfl) ?_
    refine XS.iadd X3.here hx rfl (dG hby D14 14 rfl) rfl ?_
    show SP p e below T3 m 19 #[vr a0l, vr a1o, vr b_2, vi (0 : Int32)] [(.int 1), (.ref a0l)] _
    refine st4 _ ?_
    show SP p e below T4 m 22 #[vr a0l, vr a1o, vr b_2, vi (0 : Int32)] [] _
    exact X4.returnOut hx Bd.returns (dG hby D14 16 rfl) hr
  · show Q_rmA3_0 n0 Z cS aDE kDE aUS aSS aIE mO a0l a1o mc h0 _ T4.heap _
    rw [e4]
    exact ⟨b_2, kb_2, rfl, N4, K4, sz_b_2, ((P2_1.wr W3).wr W4), (V3.other W4 (Ne.symm (nLt (lLt E_a0l.lt P2_0)))), P2_3, ((P2_4.wr W3).wr W4), ((P2_5.other W3 (Or.inl (nLt (lLt E_a0l.lt P2_0)))).other W4 (Or.inr (slot_ne (a0 := a0) (Or.inl (Wd hw 57 rfl)) (Or.inl (Wd hw 82 rfl)) (by decide) (t := (.array (.object "java/lang/Object"))) (t' := .int) (by decide) (by decide)))), Fw4, ((P2_7.other W3 (Or.inl (nLt (lLt E_a0l.lt P2_0)))).other W4 (Or.inr (slot_ne (a0 := a0) (Or.inl (Wd hw 54 rfl)) (Or.inl (Wd hw 82 rfl)) (by decide) (t := .int) (t' := .int) (by decide) (by decide))))⟩
theorem D13 : dL jdk_38_method_25_code [(0, .aload_n 0, 1), (1, .dup, 1), (2, .getfield 63, 3), (5, .iconst 1, 1), (6, .iadd, 1), (7, .putfield 63, 3), (10, .aload_n 0, 1), (11, .aload_n 1, 1), (12, .aload_n 0, 1), (13, .getfield 9, 3), (16, .aload_n 0, 1), (17, .getfield 48, 3), (20, .invokevirtual 131, 3), (23, .iconst 1, 1), (24, .ireturn, 1)] = true := by decide +kernel
theorem pdv23 : parseMethodDescriptor "(Ljava/lang/Object;[Ljava/lang/Object;I)V" = some ⟨[(.object "java/lang/Object"), (.array (.object "java/lang/Object")), .int], none⟩ := by decide +kernel
abbrev MN_37 : MethodName := ⟨"java/util/ArrayList", "add", "(Ljava/lang/Object;)Z"⟩
theorem ef_rmA1_0 (m : MethodId) (a0l : Addr) (a1o : Addr) : entryFrame m #[(.ref a0l), (.ref a1o)] 2 = mkF m 0 #[vr a0l, vr a1o] [] := by first | (simp [entryFrame, mkF, argsToLocals, Value.category]; done) | rfl
def Q_rmA1_0 (n0 : Nat) (Z : State) (cS : Int32) (aDE : Addr) (kDE : ClassId) (aUS : Addr) (aSS : Addr) (aIE : Addr) (mO : Addr) (a0l : Addr) (a1o : Addr) (mc : Int32) (h0 : Heap) (v : Option Value) (h : Heap) (L : List Loc) : Prop := ∃ b : Addr, ∃ kb : ClassId, v = some (.int 1) ∧ Fr n0 L ∧ Keep h0 h [a0l] ∧ (h0.size ≤ b) ∧ (Exa Z h b "[Ljava/lang/Object;") ∧ (Arv Z h b kb (.object "java/lang/Object") (10 : Int32) [(.ref a1o), .null, .null, .null, .null, .null, .null, .null, .null, .null] .null) ∧ (Ovr Z kb "java/lang/Object") ∧ (Exa Z h a0l "java/util/ArrayList") ∧ (Fld Z h a0l "java/util/ArrayList" "elementData" "[Ljava/lang/Object;" (.ref b)) ∧ (Fld Z h a0l "java/util/ArrayList" "size" "I" (.int 1)) ∧ (Fld Z h a0l "java/util/AbstractList" "modCount" "I" (.int (mc + (1 : Int32))))
theorem rmA1_0 (l : Launch) (Z : State) (a0 : Array Value) (hw : ∀ d ∈ tables_1, d.before a0 Z = true) (ws : List Jvm.Cond) (cS : Int32) (aDE : Addr) (kDE : ClassId) (aUS : Addr) (aSS : Addr) (aIE : Addr) (mO : Addr) (a0l : Addr) (a1o : Addr) (mc : Int32) (h0 : Heap) (n0 : Nat) (O0 : Old Z n0 h0) (GL : GF Z cS aDE kDE aUS aSS aIE mO) (E_a0l : Exa Z h0 a0l "java/util/ArrayList") (F_elementData_a0l : Fld Z h0 a0l "java/util/ArrayList" "elementData" "[Ljava/lang/Object;" (.ref aDE)) (F_size_a0l : Fld Z h0 a0l "java/util/ArrayList" "size" "I" (.int 0)) (F_modCount_a0l : Fld Z h0 a0l "java/util/AbstractList" "modCount" "I" (.int mc)) (g_a0l : n0 ≤ a0l) (E_a1o : Exa Z h0 a1o "com/example/grantline/grantline/PolicyException$Problem") :
    MF l MN_37 jdk_38_method_25_code 2 (some .boolean) ws (Rm 4 1 10 56) #[(.ref a0l), (.ref a1o)] Z h0 (Q_rmA1_0 n0 Z cS aDE kDE aUS aSS aIE mO a0l a1o mc h0) := by
  refine MetFree.of_bodySF (plainFor_of_name pnv9) hisR ?_
  intro p e s m args below meth c s₁ Bd hml0 hP hK
  obtain ⟨rfl, hZ, hh⟩ := hP
  have hx := Bd.exec
  have hby := Bd.bytes
  have hml : c.maxLocals = 2 := hml0
  have hown : s.vm.findClass "java/util/ArrayList" = some m.cls := findClass_of_methodNamed Bd.named
  have hnm := (name_of_methodNamed Bd.named Bd.method).1
  have X0 : Stand p l e (Rm 4 1 10 56) s m #[(.ref a0l), (.ref a1o)] below meth c s₁ [] 0 0 := Stand.of_body Bd
  have e0 : s₁.heap = h0 := by rw [← hh, Bd.state]; rfl
  have N0 := Fr.nil n0
  have pre0 : ∀ t, SP p e below s₁ m 0 #[vr a0l, vr a1o] [] t → Steps p.tables e below (s₁.setTop (entryFrame m #[(.ref a0l), (.ref a1o)] 2)) t := fun t k => castTop (ef_rmA1_0 m a0l a1o) k
  have GL' := GL
  obtain ⟨GCS, GCP, GDE, GVE, GUS, GSS, GIE, GMO⟩ := GL'
  obtain ⟨T1, X1, e1, st1⟩ := getF X0 hx hZ hown (host := "") (Or.inl (Wd hw 79 rfl)) (Via.of (Wd hw 80 rfl)) e0 F_modCount_a0l (g := mkF m 2 #[vr a0l, vr a1o] [(.ref a0l), (.ref a0l)]) rfl rfl (dG hby D13 2 rfl)
  obtain ⟨T2, h2, X2, e2, W2, st2⟩ := putF X1 hx hZ hown (host := "") (Or.inl (Wd hw 79 rfl)) (Via.of (Wd hw 80 rfl)) e1 F_modCount_a0l E_a0l (Or.inl (Wd hw 54 rfl)) (Wd hw 35 rfl) (ty := .int) (by decide) rfl rfl (g := mkF m 7 #[vr a0l, vr a1o] [(.int (mc + (1 : Int32))), (.ref a0l)]) rfl rfl (dG hby D13 5 rfl)
  have Fw2 := F_modCount_a0l.same W2
  have K2 : Keep h0 h2 [a0l] := (Keep.refl h0 [a0l]).wr W2 (Or.inl (List.mem_of_getElem? (i := 0) rfl))
  have O2 := O0.wr W2 g_a0l
  have N2 := Fr.snoc X2 N0 g_a0l
  obtain ⟨T3, X3, e3, st3⟩ := getF X2 hx hZ hown (host := "") (Or.inl (Wd hw 56 rfl)) Via.refl e2 (F_elementData_a0l.other W2 (Or.inr (slot_ne (a0 := a0) (Or.inl (Wd hw 57 rfl)) (Or.inl (Wd hw 54 rfl)) (by decide) (t := (.array (.object "java/lang/Object"))) (t' := .int) (by decide) (by decide)))) (g := mkF m 13 #[vr a0l, vr a1o] [(.ref a0l), (.ref a1o), (.ref a0l)]) rfl rfl (dG hby D13 9 rfl)
  obtain ⟨T4, X4, e4, st4⟩ := getF X3 hx hZ hown (host := "") (Or.inl (Wd hw 81 rfl)) Via.refl e3 (F_size_a0l.other W2 (Or.inr (slot_ne (a0 := a0) (Or.inl (Wd hw 82 rfl)) (Or.inl (Wd hw 54 rfl)) (by decide) (t := .int) (t' := .int) (by decide) (by decide)))) (g := mkF m 17 #[vr a0l, vr a1o] [(.ref a0l), (.ref aDE), (.ref a1o), (.ref a0l)]) rfl rfl (dG hby D13 11 rfl)
  obtain ⟨cq5, q5, q5'⟩ := (E_a0l.wr W2).cell
  obtain ⟨_, _, ⟨T5, L5, k5, n5⟩, -, X5, ⟨Lc5, hQ5, l5, y5, z5⟩, st5⟩ := X4.privateBack hx (y := MN_36) hown (mvT hZ (Wd hw 83 rfl)) (mvT hZ (Wd hw 84 rfl)) (mvT hZ (Wd hw 86 rfl)) (Cond.privateMethod_at (mvP hZ (Wd hw 85 rfl) (args := #[]))) (mvT hZ (Wd hw 87 rfl)) (by decide) (backOf (W := 0) (rmA3_0 l Z a0 hw [] cS aDE kDE aUS aSS aIE mO a0l a1o ((mc + (1 : Int32))) h2 n0 O2 GL (E_a0l.wr W2) (F_elementData_a0l.other W2 (Or.inr (slot_ne (a0 := a0) (Or.inl (Wd hw 57 rfl)) (Or.inl (Wd hw 54 rfl)) (by decide) (t := (.array (.object "java/lang/Object"))) (t' := .int) (by decide) (by decide)))) (F_size_a0l.other W2 (Or.inr (slot_ne (a0 := a0) (Or.inl (Wd hw 82 rfl)) (Or.inl (Wd hw 54 rfl)) (by decide) (t := .int) (t' := .int) (by decide) (by decide)))) Fw2 g_a0l (E_a1o.wr W2)) hZ (Wd hw 87 rfl) (Wd hw 36 rfl) (by decide) (by decide)) (g := mkF m 20 #[vr a0l, vr a1o] [(.int 0), (.ref aDE), (.ref a1o), (.ref a0l)]) rfl (by rw [hml]; rfl) (Steps.refl _) (a := a0l) (by rw [e4]; exact q5) q5' (argsL := [(.ref a1o), (.ref aDE), (.int 0)]) (rest := []) (lenOf pdv23 rfl) rfl (by show 2 * 0 + _ ≤ _; exact lEq rfl) (dG hby D13 12 rfl) (fun _ _ => ⟨rfl, e4, (by decide : 0 + 1 ≤ _), (by decide : 0 + 10 ≤ _)⟩)
  dsimp only [Pt.U, Pt.locs, Pt.cells, Pt.slots] at X5 l5 y5 z5 st5 hQ5
  subst l5 y5 z5
  obtain ⟨b_5, kb_5, rfl, N5q, Kc5, P5_0, P5_1, P5_2, P5_3, P5_4, P5_5, P5_6, P5_7⟩ := hQ5
  have K5 : Keep h0 T5.heap [a0l] := K2.trans Kc5 (allS (Or.inl (List.mem_of_getElem? (i := 0) rfl)) all0)
  have O5 := O2.keep Kc5 (allS g_a0l all0)
  have g_b_5 : n0 ≤ b_5 := lTr (own_sz O2) P5_0
  have sz_b_5 : h0.size ≤ b_5 := lTr K2.1 P5_0
  have N5 := Fr.app N2 N5q
  obtain ⟨fs, hr, hrun, hended, hW, hsame⟩ := X5.leave (v := some (.int 1)) (fun h => by rw [Bd.returns] at h; cases h)
  refine ⟨_, _, pre0 _ ?_, hrun, hended, _, _, rfl, ?_, ⟨_, rfl⟩, hW, hsame.mono (by decide) (by decide)⟩
  · show SP p e below s₁ m 0 #[vr a0l, vr a1o] [] _
    refine XS.aloadN X0.here hx rfl (dG hby D13 0 rfl) rfl rfl ?_
    refine XS.dup X0.here hx rfl (dG hby D13 1 rfl) rfl rfl ?_
    show SP p e below s₁ m 2 #[vr a0l, vr a1o] [(.ref a0l), (.ref a0l)] _
    refine st1 _ ?_
    show SP p e below T1 m 5 #[vr a0l, vr a1o] [(.int mc), (.ref a0l)] _
    refine XS.iconst X1.here hx rfl (dG hby D13 3 rfl) ?_
    refine XS.iadd X1.here hx rfl (dG hby D13 4 rfl) rfl ?_
    show SP p e below T1 m 7 #[vr a0l, vr a1o] [(.int (mc + (1 : Int32))), (.ref a0l)] _
    refine st2 _ ?_
    show SP p e below T2 m 10 #[vr a0l, vr a1o] [] _
    refine XS.aloadN X2.here hx rfl (dG hby D13 6 rfl) rfl rfl ?_
    refine XS.aloadN X2.here hx rfl (dG hby D13 7 rfl) rfl rfl ?_
    refine XS.aloadN X2.here hx rfl (dG hby D13 8 rfl) rfl rfl ?_
    show SP p e below T2 m 13 #[vr a0l, vr a1o] [(.ref a0l), (.ref a1o), (.ref a0l)] _
    refine st3 _ ?_
    show SP p e below T3 m 16 #[vr a0l, vr a1o] [(.ref aDE), (.ref a1o), (.ref a0l)] _
    refine XS.aloadN X3.here hx rfl (dG hby D13 10 rfl) rfl rfl ?_
    show SP p e below T3 m 17 #[vr a0l, vr a1o] [(.ref a0l), (.ref aDE), (.ref a1o), (.ref a0l)] _
    refine st4 _ ?_
    show SP p e below T4 m 20 #[vr a0l, vr a1o] [(.int 0), (.ref aDE), (.ref a1o), (.ref a0l)] _
    refine st5.trans ?_
    show SP p e below T5 m 23 #[vr a0l, vr a1o] [] _
    refine XS.iconst X5.here hx rfl (dG hby D13 13 rfl) ?_
    show SP p e below T5 m 24 #[vr a0l, vr a1o] [(.int 1)] _
    exact retN X5 hx (t := .boolean) Bd.returns (by simp) (dG hby D13 14 rfl) hr
  · show Q_rmA1_0 n0 Z cS aDE kDE aUS aSS aIE mO a0l a1o mc h0 _ T5.heap _
    exact ⟨b_5, kb_5, rfl, N5, K5, sz_b_5, P5_1, P5_2, P5_3, P5_4, P5_5, P5_6, P5_7⟩
theorem ef_rmA3_1 (m : MethodId) (a0l : Addr) (a1o : Addr) (ae : Addr) : entryFrame m #[(.ref a0l), (.ref a1o), (.ref ae), (.int 1)] 4 = mkF m 0 #[vr a0l, vr a1o, vr ae, vi (1 : Int32)] [] := by first | (simp [entryFrame, mkF, argsToLocals, Value.category]; done) | rfl
def Q_rmA3_1 (n0 : Nat) (Z : State) (cS : Int32) (aDE : Addr) (kDE : ClassId) (aUS : Addr) (aSS : Addr) (aIE : Addr) (mO : Addr) (a0l : Addr) (a1o : Addr) (ae : Addr) (mc : Int32) (ka : ClassId) (ob0 : Addr) (h0 : Heap) (v : Option Value) (h : Heap) (L : List Loc) : Prop := v = none ∧ Fr n0 L ∧ Keep h0 h [a0l, ae] ∧ (Exa Z h ae "[Ljava/lang/Object;") ∧ (Arv Z h ae ka (.object "java/lang/Object") (10 : Int32) [(.ref ob0), (.ref a1o), .null, .null, .null, .null, .null, .null, .null, .null] .null) ∧ (Ovr Z ka "java/lang/Object") ∧ (Exa Z h a0l "java/util/ArrayList") ∧ (Fld Z h a0l "java/util/ArrayList" "elementData" "[Ljava/lang/Object;" (.ref ae)) ∧ (Fld Z h a0l "java/util/ArrayList" "size" "I" (.int 2)) ∧ (Fld Z h a0l "java/util/AbstractList" "modCount" "I" (.int mc))
theorem rmA3_1 (l : Launch) (Z : State) (a0 : Array Value) (hw : ∀ d ∈ tables_1, d.before a0 Z = true) (ws : List Jvm.Cond) (cS : Int32) (aDE : Addr) (kDE : ClassId) (aUS : Addr) (aSS : Addr) (aIE : Addr) (mO : Addr) (a0l : Addr) (a1o : Addr) (ae : Addr) (mc : Int32) (ka : ClassId) (ob0 : Addr) (h0 : Heap) (n0 : Nat) (O0 : Old Z n0 h0) (GL : GF Z cS aDE kDE aUS aSS aIE mO) (E_a0l : Exa Z h0 a0l "java/util/ArrayList") (F_elementData_a0l : Fld Z h0 a0l "java/util/ArrayList" "elementData" "[Ljava/lang/Object;" (.ref ae)) (F_size_a0l : Fld Z h0 a0l "java/util/ArrayList" "size" "I" (.int 1)) (F_modCount_a0l : Fld Z h0 a0l "java/util/AbstractList" "modCount" "I" (.int mc)) (g_a0l : n0 ≤ a0l) (E_a1o : Exa Z h0 a1o "com/example/grantline/grantline/PolicyException$Problem") (E_ae : Exa Z h0 ae "[Ljava/lang/Object;") (V_ae : Arv Z h0 ae ka (.object "java/lang/Object") (10 : Int32) [(.ref ob0), .null, .null, .null, .null, .null, .null, .null, .null, .null] .null) (ov : Ovr Z ka "java/lang/Object") (g_ae : n0 ≤ ae) :
    MF l MN_36 jdk_38_method_24_code 4 none ws (Rm 0 0 0 0) #[(.ref a0l), (.ref a1o), (.ref ae), (.int 1)] Z h0 (Q_rmA3_1 n0 Z cS aDE kDE aUS aSS aIE mO a0l a1o ae mc ka ob0 h0) := by
  refine MetFree.of_bodySF (plainFor_of_name pnv9) hisR ?_
  intro p e s m args below meth c s₁ Bd hml0 hP hK
  obtain ⟨rfl, hZ, hh⟩ := hP
  have hx := Bd.exec
  have hby := Bd.bytes
  have hml : c.maxLocals = 4 := hml0
  have hown : s.vm.findClass "java/util/ArrayList" = some m.cls := findClass_of_methodNamed Bd.named
  have hnm := (name_of_methodNamed Bd.named Bd.method).1
  have X0 : Stand p l e (Rm 0 0 0 0) s m #[(.ref a0l), (.ref a1o), (.ref ae), (.int 1)] below meth c s₁ [] 0 0 := Stand.of_body Bd
  have e0 : s₁.heap = h0 := by rw [← hh, Bd.state]; rfl
  have N0 := Fr.nil n0
  have pre0 : ∀ t, SP p e below s₁ m 0 #[vr a0l, vr a1o, vr ae, vi (1 : Int32)] [] t → Steps p.tables e below (s₁.setTop (entryFrame m #[(.ref a0l), (.ref a1o), (.ref ae), (.int 1)] 4)) t := fun t k => castTop (ef_rmA3_1 m a0l a1o ae) k
  have GL' := GL
  obtain ⟨GCS, GCP, GDE, GVE, GUS, GSS, GIE, GMO⟩ := GL'
  obtain ⟨cl1, Ar1, -, S1, N1_, -, -⟩ := id (V_ae)
  obtain ⟨cl2, Ar2, q2, S2, N2_, H2, G2⟩ := id (V_ae)
  have hin2 : ¬ ((1 : Int32) < 0 ∨ cl2.slots.size ≤ ((1 : Int32)).toNatClampNeg) := inb_of S2 ⟨(by decide), (by decide)⟩
  obtain ⟨T2, h2, X2, e2, W2, st2⟩ := stR X0 hx hZ e0 Ar2 (j := (1 : Int32)) hin2 rfl (Sto.ofV Ar2 q2 ov (Ins.of_exa E_a1o (Wd hw 104 rfl))) (g := mkF m 14 #[vr a0l, vr a1o, vr ae, vi (1 : Int32)] [(.ref a1o), (.int 1), (.ref ae)]) rfl rfl (dG hby D14 10 rfl)
  have K2 : Keep h0 h2 [a0l, ae] := (Keep.refl h0 [a0l, ae]).wr W2 (Or.inl (List.mem_of_getElem? (i := 1) rfl))
  have O2 := O0.wr W2 g_ae
  have N2 := Fr.snoc X2 N0 g_ae
  have V2 : Arv Z h2 ae ka (.object "java/lang/Object") (10 : Int32) [(.ref ob0), (.ref a1o), .null, .null, .null, .null, .null, .null, .null, .null] .null := Arv.set Ar2 q2 S2 N2_ H2 G2 rfl W2 1 rfl (Nat.le_of_ble_eq_true rfl)
  obtain ⟨T3, h3, X3, e3, W3, st3⟩ := putF X2 hx hZ hown (host := "") (Or.inl (Wd hw 81 rfl)) Via.refl e2 (F_size_a0l.other W2 (Or.inl (Exa.ne E_a0l E_ae (by decide)))) (E_a0l.wr W2) (Or.inl (Wd hw 82 rfl)) (Wd hw 35 rfl) (ty := .int) (by decide) rfl rfl (g := mkF m 19 #[vr a0l, vr a1o, vr ae, vi (1 : Int32)] [(.int 2), (.ref a0l)]) rfl rfl (dG hby D14 15 rfl)
  have Fw3 := (F_size_a0l.other W2 (Or.inl (Exa.ne E_a0l E_ae (by decide)))).same W3
  have K3 : Keep h0 h3 [a0l, ae] := K2.wr W3 (Or.inl (List.mem_of_getElem? (i := 0) rfl))
  have O3 := O2.wr W3 g_a0l
  have N3 := Fr.snoc X3 N2 g_a0l
  obtain ⟨fs, hr, hrun, hended, hW, hsame⟩ := X3.leave (v := none) (fun _ => rfl)
  refine ⟨_, _, pre0 _ ?_, hrun, hended, _, _, rfl, ?_, ⟨_, rfl⟩, hW, hsame.mono (by decide) (by decide)⟩
  · show SP p e below s₁ m 0 #[vr a0l, vr a1o, vr ae, vi (1 : Int32)] [] _
    refine XS.iloadN X0.here hx rfl (dG hby D14 0 rfl) rfl ?_
    refine XS.aloadN X0.here hx rfl (dG hby D14 1 rfl) rfl rfl ?_
    show SP p e below s₁ m 2 #[vr a0l, vr a1o, vr ae, vi (1 : Int32)] [(.ref ae), (.int 1)] _
    refine X0.arraylength hx (by rw [e0]; exact Ar1.1) (State.isArrayOf_alike hZ.alike Ar1.2.1) (g := mkF m 2 #[vr a0l, vr a1o, vr ae, vi (1 : Int32)] [(.ref ae), (.int 1)]) rfl rfl (dG hby D14 2 rfl) _ ?_
    rw [len_of S1 N1_]
    show SP p e below s₁ m 3 #[vr a0l, vr a1o, vr ae, vi (1 : Int32)] [(.int 10), (.int 1)] _
    refine XS.icmpYes X0.here hx rfl (pc0 := 3) (pc' := 11) rfl (dG hby D14 3 rfl) rfl (feq (by decide : ¬ ((1 : Int32) = (10 : Int32)))).2 (by decide) (by decide) ?_
    refine XS.aloadN X0.here hx rfl (dG hby D14 7 rfl) rfl rfl ?_
    refine XS.iloadN X0.here hx rfl (dG hby D14 8 rfl) rfl ?_
    refine XS.aloadN X0.here hx rfl (dG hby D14 9 rfl) rfl rfl ?_
    show SP p e below s₁ m 14 #[vr a0l, vr a1o, vr ae, vi (1 : Int32)] [(.ref a1o), (.int 1), (.ref ae)] _
    refine st2 _ ?_
    show SP p e below T2 m 15 #[vr a0l, vr a1o, vr ae, vi (1 : Int32)] [] _
    refine XS.aloadN X2.here hx rfl (dG hby D14 11 rfl) rfl rfl ?_
    refine XS.iloadN X2.here hx rfl (dG hby D14 12 rfl) rfl ?_
    refine XS.iconst X2.here hx rfl (dG hby D14 13 rfl) ?_
    refine XS.iadd X2.here hx rfl (dG hby D14 14 rfl) rfl ?_
    show SP p e below T2 m 19 #[vr a0l, vr a1o, vr ae, vi (1 : Int32)] [(.int 2), (.ref a0l)] _
    refine st3 _ ?_
    show SP p e below T3 m 22 #[vr a0l, vr a1o, vr ae, vi (1 : Int32)] [] _
    exact X3.returnOut hx Bd.returns (dG hby D14 16 rfl) hr
  · show Q_rmA3_1 n0 Z cS aDE kDE aUS aSS aIE mO a0l a1o ae mc ka ob0 h0 _ T3.heap _
    rw [e3]
    exact ⟨rfl, N3, K3, ((E_ae.wr W2).wr W3), (V2.other W3 (Exa.ne E_ae E_a0l (by decide))), ov, ((E_a0l.wr W2).wr W3), ((F_elementData_a0l.other W2 (Or.inl (Exa.ne E_a0l E_ae (by decide)))).other W3 (Or.inr (slot_ne (a0 := a0) (Or.inl (Wd hw 57 rfl)) (Or.inl (Wd hw 82 rfl)) (by decide) (t := (.array (.object "java/lang/Object"))) (t' := .int) (by decide) (by decide)))), Fw3, ((F_modCount_a0l.other W2 (Or.inl (Exa.ne E_a0l E_ae (by decide)))).other W3 (Or.inr (slot_ne (a0 := a0) (Or.inl (Wd hw 54 rfl)) (Or.inl (Wd hw 82 rfl)) (by decide) (t := .int) (t' := .int) (by decide) (by decide))))⟩
def Q_rmA1_1 (n0 : Nat) (Z : State) (cS : Int32) (aDE : Addr) (kDE : ClassId) (aUS : Addr) (aSS : Addr) (aIE : Addr) (mO : Addr) (a0l : Addr) (a1o : Addr) (ae : Addr) (mc : Int32) (ka : ClassId) (ob0 : Addr) (h0 : Heap) (v : Option Value) (h : Heap) (L : List Loc) : Prop := v = some (.int 1) ∧ Fr n0 L ∧ Keep h0 h [a0l, ae] ∧ (Exa Z h ae "[Ljava/lang/Object;") ∧ (Arv Z h ae ka (.object "java/lang/Object") (10 : Int32) [(.ref ob0), (.ref a1o), .null, .null, .null, .null, .null, .null, .null, .null] .null) ∧ (Ovr Z ka "java/lang/Object") ∧ (Exa Z h a0l "java/util/ArrayList") ∧ (Fld Z h a0l "java/util/ArrayList" "elementData" "[Ljava/lang/Object;" (.ref ae)) ∧ (Fld Z h a0l "java/util/ArrayList" "size" "I" (.int 2)) ∧ (Fld Z h a0l "java/util/AbstractList" "modCount" "I" (.int (mc + (1 : Int32))))
theorem rmA1_1 (l : Launch) (Z : State) (a0 : Array Value) (hw : ∀ d ∈ tables_1, d.before a0 Z = true) (ws : List Jvm.Cond) (cS : Int32) (aDE : Addr) (kDE : ClassId) (aUS : Addr) (aSS : Addr) (aIE : Addr) (mO : Addr) (a0l : Addr) (a1o : Addr) (ae : Addr) (mc : Int32) (ka : ClassId) (ob0 : Addr) (h0 : Heap) (n0 : Nat) (O0 : Old Z n0 h0) (GL : GF Z cS aDE kDE aUS aSS aIE mO) (E_a0l : Exa Z h0 a0l "java/util/ArrayList") (F_elementData_a0l : Fld Z h0 a0l "java/util/ArrayList" "elementData" "[Ljava/lang/Object;" (.ref ae)) (F_size_a0l : Fld Z h0 a0l "java/util/ArrayList" "size" "I" (.int 1)) (F_modCount_a0l : Fld Z h0 a0l "java/util/AbstractList" "modCount" "I" (.int mc)) (g_a0l : n0 ≤ a0l) (E_a1o : Exa Z h0 a1o "com/example/grantline/grantline/PolicyException$Problem") (E_ae : Exa Z h0 ae "[Ljava/lang/Object;") (V_ae : Arv Z h0 ae ka (.object "java/lang/Object") (10 : Int32) [(.ref ob0), .null, .null, .null, .null, .null, .null, .null, .null, .null] .null) (ov : Ovr Z ka "java/lang/Object") (g_ae : n0 ≤ ae) :
    MF l MN_37 jdk_38_method_25_code 2 (some .boolean) ws (Rm 1 0 0 15) #[(.ref a0l), (.ref a1o)] Z h0 (Q_rmA1_1 n0 Z cS aDE kDE aUS aSS aIE mO a0l a1o ae mc ka ob0 h0) := by
  refine MetFree.of_bodySF (plainFor_of_name pnv9) hisR ?_
  intro p e s m args below meth c s₁ Bd hml0 hP hK
  obtain ⟨rfl, hZ, hh⟩ := hP
  have hx := Bd.exec
  have hby := Bd.bytes
  have hml : c.maxLocals = 2 := hml0
  have hown : s.vm.findClass "java/util/ArrayList" = some m.cls := findClass_of_methodNamed Bd.named
  have hnm := (name_of_methodNamed Bd.named Bd.method).1
  have X0 : Stand p l e (Rm 1 0 0 15) s m #[(.ref a0l), (.ref a1o)] below meth c s₁ [] 0 0 := Stand.of_body Bd
  have e0 : s₁.heap = h0 := by rw [← hh, Bd.state]; rfl
  have N0 := Fr.nil n0
  have pre0 : ∀ t, SP p e below s₁ m 0 #[vr a0l, vr a1o] [] t → Steps p.tables e below (s₁.setTop (entryFrame m #[(.ref a0l), (.ref a1o)] 2)) t := fun t k => castTop (ef_rmA1_0 m a0l a1o) k
  have GL' := GL
  obtain ⟨GCS, GCP, GDE, GVE, GUS, GSS, GIE, GMO⟩ := GL'
  obtain ⟨T1, X1, e1, st1⟩ := getF X0 hx hZ hown (host := "") (Or.inl (Wd hw 79 rfl)) (Via.of (Wd hw 80 rfl)) e0 F_modCount_a0l (g := mkF m 2 #[vr a0l, vr a1o] [(.ref a0l), (.ref a0l)]) rfl rfl (dG hby D13 2 rfl)
  obtain ⟨T2, h2, X2, e2, W2, st2⟩ := putF X1 hx hZ hown (host := "") (Or.inl (Wd hw 79 rfl)) (Via.of (Wd hw 80 rfl)) e1 F_modCount_a0l E_a0l (Or.inl (Wd hw 54 rfl)) (Wd hw 35 rfl) (ty := .int) (by decide) rfl rfl (g := mkF m 7 #[vr a0l, vr a1o] [(.int (mc + (1 : Int32))), (.ref a0l)]) rfl rfl (dG hby D13 5 rfl)
  have Fw2 := F_modCount_a0l.same W2
  have K2 : Keep h0 h2 [a0l, ae] := (Keep.refl h0 [a0l, ae]).wr W2 (Or.inl (List.mem_of_getElem? (i := 0) rfl))
  have O2 := O0.wr W2 g_a0l
  have N2 := Fr.snoc X2 N0 g_a0l
  obtain ⟨T3, X3, e3, st3⟩ := getF X2 hx hZ hown (host := "") (Or.inl (Wd hw 56 rfl)) Via.refl e2 (F_elementData_a0l.other W2 (Or.inr (slot_ne (a0 := a0) (Or.inl (Wd hw 57 rfl)) (Or.inl (Wd hw 54 rfl)) (by decide) (t := (.array (.object "java/lang/Object"))) (t' := .int) (by decide) (by decide)))) (g := mkF m 13 #[vr a0l, vr a1o] [(.ref a0l), (.ref a1o), (.ref a0l)]) rfl rfl (dG hby D13 9 rfl)
  obtain ⟨T4, X4, e4, st4⟩ := getF X3 hx hZ hown (host := "") (Or.inl (Wd hw 81 rfl)) Via.refl e3 (F_size_a0l.other W2 (Or.inr (slot_ne (a0 := a0) (Or.inl (Wd hw 82 rfl)) (Or.inl (Wd hw 54 rfl)) (by decide) (t := .int) (t' := .int) (by decide) (by decide)))) (g := mkF m 17 #[vr a0l, vr a1o] [(.ref a0l), (.ref ae), (.ref a1o), (.ref a0l)]) rfl rfl (dG hby D13 11 rfl)
  obtain ⟨cq5, q5, q5'⟩ := (E_a0l.wr W2).cell
  obtain ⟨_, _, ⟨T5, L5, k5, n5⟩, -, X5, ⟨Lc5, hQ5, l5, y5, z5⟩, st5⟩ := X4.privateBack hx (y := MN_36) hown (mvT hZ (Wd hw 83 rfl)) (mvT hZ (Wd hw 84 rfl)) (mvT hZ (Wd hw 86 rfl)) (Cond.privateMethod_at (mvP hZ (Wd hw 85 rfl) (args := #[]))) (mvT hZ (Wd hw 87 rfl)) (by decide) (backOf (W := 0) (rmA3_1 l Z a0 hw [] cS aDE kDE aUS aSS aIE mO a0l a1o ae ((mc + (1 : Int32))) ka ob0 h2 n0 O2 GL (E_a0l.wr W2) (F_elementData_a0l.other W2 (Or.inr (slot_ne (a0 := a0) (Or.inl (Wd hw 57 rfl)) (Or.inl (Wd hw 54 rfl)) (by decide) (t := (.array (.object "java/lang/Object"))) (t' := .int) (by decide) (by decide)))) (F_size_a0l.other W2 (Or.inr (slot_ne (a0 := a0) (Or.inl (Wd hw 82 rfl)) (Or.inl (Wd hw 54 rfl)) (by decide) (t := .int) (t' := .int) (by decide) (by decide)))) Fw2 g_a0l (E_a1o.wr W2) (E_ae.wr W2) (V_ae.other W2 (Exa.ne E_ae E_a0l (by decide))) ov g_ae) hZ (Wd hw 87 rfl) (Wd hw 36 rfl) (by decide) (by decide)) (g := mkF m 20 #[vr a0l, vr a1o] [(.int 1), (.ref ae), (.ref a1o), (.ref a0l)]) rfl (by rw [hml]; rfl) (Steps.refl _) (a := a0l) (by rw [e4]; exact q5) q5' (argsL := [(.ref a1o), (.ref ae), (.int 1)]) (rest := []) (lenOf pdv23 rfl) rfl (by show 2 * 0 + _ ≤ _; exact lEq rfl) (dG hby D13 12 rfl) (fun _ _ => ⟨rfl, e4, (by decide : 0 + 0 ≤ _), (by decide : 0 + 0 ≤ _)⟩)
  dsimp only [Pt.U, Pt.locs, Pt.cells, Pt.slots] at X5 l5 y5 z5 st5 hQ5
  subst l5 y5 z5
  obtain ⟨rfl, N5q, Kc5, P5_0, P5_1, P5_2, P5_3, P5_4, P5_5, P5_6⟩ := hQ5
  have K5 : Keep h0 T5.heap [a0l, ae] := K2.trans Kc5 (allS (Or.inl (List.mem_of_getElem? (i := 0) rfl)) (allS (Or.inl (List.mem_of_getElem? (i := 1) rfl)) all0))
  have O5 := O2.keep Kc5 (allS g_a0l (allS g_ae all0))
  have N5 := Fr.app N2 N5q
  obtain ⟨fs, hr, hrun, hended, hW, hsame⟩ := X5.leave (v := some (.int 1)) (fun h => by rw [Bd.returns] at h; cases h)
  refine ⟨_, _, pre0 _ ?_, hrun, hended, _, _, rfl, ?_, ⟨_, rfl⟩, hW, hsame.mono (by decide) (by decide)⟩
  · show SP p e below s₁ m 0 #[vr a0l, vr a1o] [] _
    refine XS.aloadN X0.here hx rfl (dG hby D13 0 rfl) rfl rfl ?_
    refine XS.dup X0.here hx rfl (dG hby D13 1 rfl) rfl rfl ?_
    show SP p e below s₁ m 2 #[vr a0l, vr a1o] [(.ref a0l), (.ref a0l)] _
    refine st1 _ ?_
    show SP p e below T1 m 5 #[vr a0l, vr a1o] [(.int mc), (.ref a0l)] _
    refine XS.iconst X1.here hx rfl (dG hby D13 3 rfl) ?_
    refine XS.iadd X1.here hx rfl (dG hby D13 4 rfl) rfl ?_
    show SP p e below T1 m 7 #[vr a0l, vr a1o] [(.int (mc + (1 : Int32))), (.ref a0l)] _
    refine st2 _ ?_
    show SP p e below T2 m 10 #[vr a0l, vr a1o] [] _
    refine XS.aloadN X2.here hx rfl (dG hby D13 6 rfl) rfl rfl ?_
    refine XS.aloadN X2.here hx rfl (dG hby D13 7 rfl) rfl rfl ?_
    refine XS.aloadN X2.here hx rfl (dG hby D13 8 rfl) rfl rfl ?_
    show SP p e below T2 m 13 #[vr a0l, vr a1o] [(.ref a0l), (.ref a1o), (.ref a0l)] _
    refine st3 _ ?_
    show SP p e below T3 m 16 #[vr a0l, vr a1o] [(.ref ae), (.ref a1o), (.ref a0l)] _
    refine XS.aloadN X3.here hx rfl (dG hby D13 10 rfl) rfl rfl ?_
    show SP p e below T3 m 17 #[vr a0l, vr a1o] [(.ref a0l), (.ref ae), (.ref a1o), (.ref a0l)] _
    refine st4 _ ?_
    show SP p e below T4 m 20 #[vr a0l, vr a1o] [(.int 1), (.ref ae), (.ref a1o), (.ref a0l)] _
    refine st5.trans ?_
    show SP p e below T5 m 23 #[vr a0l, vr a1o] [] _
    refine XS.iconst X5.here hx rfl (dG hby D13 13 rfl) ?_
    show SP p e below T5 m 24 #[vr a0l, vr a1o] [(.int 1)] _
    exact retN X5 hx (t := .boolean) Bd.returns (by simp) (dG hby D13 14 rfl) hr
  · show Q_rmA1_1 n0 Z cS aDE kDE aUS aSS aIE mO a0l a1o ae mc ka ob0 h0 _ T5.heap _
    exact ⟨rfl, N5, K5, P5_0, P5_1, P5_2, P5_3, P5_4, P5_5, P5_6⟩
theorem ef_rmA3_2 (m : MethodId) (a0l : Addr) (a1o : Addr) (ae : Addr) : entryFrame m #[(.ref a0l), (.ref a1o), (.ref ae), (.int 2)] 4 = mkF m 0 #[vr a0l, vr a1o, vr ae, vi (2 : Int32)] [] := by first | (simp [entryFrame, mkF, argsToLocals, Value.category]; done) | rfl
def Q_rmA3_2 (n0 : Nat) (Z : State) (cS : Int32) (aDE : Addr) (kDE : ClassId) (aUS : Addr) (aSS : Addr) (aIE : Addr) (mO : Addr) (a0l : Addr) (a1o : Addr) (ae : Addr) (mc : Int32) (ka : ClassId) (ob0 : Addr) (ob1 : Addr) (h0 : Heap) (v : Option Value) (h : Heap) (L : List Loc) : Prop := v = none ∧ Fr n0 L ∧ Keep h0 h [a0l, ae] ∧ (Exa Z h ae "[Ljava/lang/Object;") ∧ (Arv Z h ae ka (.object "java/lang/Object") (10 : Int32) [(.ref ob0), (.ref ob1), (.ref a1o), .null, .null, .null, .null, .null, .null, .null] .null) ∧ (Ovr Z ka "java/lang/Object") ∧ (Exa Z h a0l "java/util/ArrayList") ∧ (Fld Z h a0l "java/util/ArrayList" "elementData" "[Ljava/lang/Object;" (.ref ae)) ∧ (Fld Z h a0l "java/util/ArrayList" "size" "I" (.int 3)) ∧ (Fld Z h a0l "java/util/AbstractList" "modCount" "I" (.int mc))
theorem rmA3_2 (l : Launch) (Z : State) (a0 : Array Value) (hw : ∀ d ∈ tables_1, d.before a0 Z = true) (ws : List Jvm.Cond) (cS : Int32) (aDE : Addr) (kDE : ClassId) (aUS : Addr) (aSS : Addr) (aIE : Addr) (mO : Addr) (a0l : Addr) (a1o : Addr) (ae : Addr) (mc : Int32) (ka : ClassId) (ob0 : Addr) (ob1 : Addr) (h0 : Heap) (n0 : Nat) (O0 : Old Z n0 h0) (GL : GF Z cS aDE kDE aUS aSS aIE mO) (E_a0l : Exa Z h0 a0l "java/util/ArrayList") (F_elementData_a0l : Fld Z h0 a0l "java/util/ArrayList" "elementData" "[Ljava/lang/Object;" (.ref ae)) (F_size_a0l : Fld Z h0 a0l "java/util/ArrayList" "size" "I" (.int 2)) (F_modCount_a0l : Fld Z h0 a0l "java/util/AbstractList" "modCount" "I" (.int mc)) (g_a0l : n0 ≤ a0l) (E_a1o : Exa Z h0 a1o "com/example/grantline/grantline/PolicyException$Problem") (E_ae : Exa Z h0 ae "[Ljava/lang/Object;") (V_ae : Arv Z h0 ae ka (.object "java/lang/Object") (10 : Int32) [(.ref ob0), (.ref ob1), .null, .null, .null, .null, .null, .null, .null, .null] .null) (ov : Ovr Z ka "java/lang/Object") (g_ae : n0 ≤ ae) :
    MF l MN_36 jdk_38_method_24_code 4 none ws (Rm 0 0 0 0) #[(.ref a0l), (.ref a1o), (.ref ae), (.int 2)] Z h0 (Q_rmA3_2 n0 Z cS aDE kDE aUS aSS aIE mO a0l a1o ae mc ka ob0 ob1 h0) := by
  refine MetFree.of_bodySF (plainFor_of_name pnv9) hisR ?_
  intro p e s m args below meth c s₁ Bd hml0 hP hK
  obtain ⟨rfl, hZ, hh⟩ := hP
  have hx := Bd.exec
  have hby := Bd.bytes
  have hml : c.maxLocals = 4 := hml0
  have hown : s.vm.findClass "java/util/ArrayList" = some m.cls := findClass_of_methodNamed Bd.named
  have hnm := (name_of_methodNamed Bd.named Bd.method).1
  have X0 : Stand p l e (Rm 0 0 0 0) s m #[(.ref a0l), (.ref a1o), (.ref ae), (.int 2)] below meth c s₁ [] 0 0 := Stand.of_body Bd
  have e0 : s₁.heap = h0 := by rw [← hh, Bd.state]; rfl
  have N0 := Fr.nil n0
  have pre0 : ∀ t, SP p e below s₁ m 0 #[vr a0l, vr a1o, vr ae, vi (2 : Int32)] [] t → Steps p.tables e below (s₁.setTop (entryFrame m #[(.ref a0l), (.ref a1o), (.ref ae), (.int 2)] 4)) t := fun t k => castTop (ef_rmA3_2 m a0l a1o ae) k
  have GL' := GL
  obtain ⟨GCS, GCP, GDE, GVE, GUS, GSS, GIE, GMO⟩ := GL'
  obtain ⟨cl1, Ar1, -, S1, N1_, -, -⟩ := id (V_ae)
  obtain ⟨cl2, Ar2, q2, S2, N2_, H2, G2⟩ := id (V_ae)
  have hin2 : ¬ ((2 : Int32) < 0 ∨ cl2.slots.size ≤ ((2 : Int32)).toNatClampNeg) := inb_of S2 ⟨(by decide), (by decide)⟩
  obtain ⟨T2, h2, X2, e2, W2, st2⟩ := stR X0 hx hZ e0 Ar2 (j := (2 : Int32)) hin2 rfl (Sto.ofV Ar2 q2 ov (Ins.of_exa E_a1o (Wd hw 104 rfl))) (g := mkF m 14 #[vr a0l, vr a1o, vr ae, vi (2 : Int32)] [(.ref a1o), (.int 2), (.ref ae)]) rfl rfl (dG hby D14 10 rfl)
  have K2 : Keep h0 h2 [a0l, ae] := (Keep.refl h0 [a0l, ae]).wr W2 (Or.inl (List.mem_of_getElem? (i := 1) rfl))
  have O2 := O0.wr W2 g_ae
  have N2 := Fr.snoc X2 N0 g_ae
  have V2 : Arv Z h2 ae ka (.object "java/lang/Object") (10 : Int32) [(.ref ob0), (.ref ob1), (.ref a1o), .null, .null, .null, .null, .null, .null, .null] .null := Arv.set Ar2 q2 S2 N2_ H2 G2 rfl W2 2 rfl (Nat.le_of_ble_eq_true rfl)
  obtain ⟨T3, h3, X3, e3, W3, st3⟩ := putF X2 hx hZ hown (host := "") (Or.inl (Wd hw 81 rfl)) Via.refl e2 (F_size_a0l.other W2 (Or.inl (Exa.ne E_a0l E_ae (by decide)))) (E_a0l.wr W2) (Or.inl (Wd hw 82 rfl)) (Wd hw 35 rfl) (ty := .int) (by decide) rfl rfl (g := mkF m 19 #[vr a0l, vr a1o, vr ae, vi (2 : Int32)] [(.int 3), (.ref a0l)]) rfl rfl (dG hby D14 15 rfl)
  have Fw3 := (F_size_a0l.other W2 (Or.inl (Exa.ne E_a0l E_ae (by decide)))).same W3
  have K3 : Keep h0 h3 [a0l, ae] := K2.wr W3 (Or.inl (List.mem_of_getElem? (i := 0) rfl))
  have O3 := O2.wr W3 g_a0l
  have N3 := Fr.snoc X3 N2 g_a0l
  obtain ⟨fs, hr, hrun, hended, hW, hsame⟩ := X3.leave (v := none) (fun _ => rfl)
  refine ⟨_, _, pre0 _ ?_, hrun, hended, _, _, rfl, ?_, ⟨_, rfl⟩, hW, hsame.mono (by decide) (by decide)⟩
  · show SP p e below s₁ m 0 #[vr a0l, vr a1o, vr ae, vi (2 : Int32)] [] _
    refine XS.iloadN X0.here hx rfl (dG hby D14 0 rfl) rfl ?_
    refine XS.aloadN X0.here hx rfl (dG hby D14 1 rfl) rfl rfl ?_
    show SP p e below s₁ m 2 #[vr a0l, vr a1o, vr ae, vi (2 : Int32)] [(.ref ae), (.int 2)] _
    refine X0.arraylength hx (by rw [e0]; exact Ar1.1) (State.isArrayOf_alike hZ.alike Ar1.2.1) (g := mkF m 2 #[vr a0l, vr a1o, vr ae, vi (2 : Int32)] [(.ref ae), (.int 2)]) rfl rfl (dG hby D14 2 rfl) _ ?_
    rw [len_of S1 N1_]
    show SP p e below s₁ m 3 #[vr a0l, vr a1o, vr ae, vi (2 : Int32)] [(.int 10), (.int 2)] _
    refine XS.icmpYes X0.here hx rfl (pc0 := 3) (pc' := 11) rfl (dG hby D14 3 rfl) rfl (feq (by decide : ¬ ((2 : Int32) = (10 : Int32)))).2 (by decide) (by decide) ?_
    refine XS.aloadN X0.here hx rfl (dG hby D14 7 rfl) rfl rfl ?_
    refine XS.iloadN X0.here hx rfl (dG hby D14 8 rfl) rfl ?_
    refine XS.aloadN X0.here hx rfl (dG hby D14 9 rfl) rfl rfl ?_
    show SP p e below s₁ m 14 #[vr a0l, vr a1o, vr ae, vi (2 : Int32)] [(.ref a1o), (.int 2), (.ref ae)] _
    refine st2 _ ?_
    show SP p e below T2 m 15 #[vr a0l, vr a1o, vr ae, vi (2 : Int32)] [] _
    refine XS.aloadN X2.here hx rfl (dG hby D14 11 rfl) rfl rfl ?_
    refine XS.iloadN X2.here hx rfl (dG hby D14 12 rfl) rfl ?_
    refine XS.iconst X2.here hx rfl (dG hby D14 13 rfl) ?_
    refine XS.iadd X2.here hx rfl (dG hby D14 14 rfl) rfl ?_
    show SP p e below T2 m 19 #[vr a0l, vr a1o, vr ae, vi (2 : Int32)] [(.int 3), (.ref a0l)] _
    refine st3 _ ?_
    show SP p e below T3 m 22 #[vr a0l, vr a1o, vr ae, vi (2 : Int32)] [] _
    exact X3.returnOut hx Bd.returns (dG hby D14 16 rfl) hr
  · show Q_rmA3_2 n0 Z cS aDE kDE aUS aSS aIE mO a0l a1o ae mc ka ob0 ob1 h0 _ T3.heap _
    rw [e3]
    exact ⟨rfl, N3, K3, ((E_ae.wr W2).wr W3), (V2.other W3 (Exa.ne E_ae E_a0l (by decide))), ov, ((E_a0l.wr W2).wr W3), ((F_elementData_a0l.other W2 (Or.inl (Exa.ne E_a0l E_ae (by decide)))).other W3 (Or.inr (slot_ne (a0 := a0) (Or.inl (Wd hw 57 rfl)) (Or.inl (Wd hw 82 rfl)) (by decide) (t := (.array (.object "java/lang/Object"))) (t' := .int) (by decide) (by decide)))), Fw3, ((F_modCount_a0l.other W2 (Or.inl (Exa.ne E_a0l E_ae (by decide)))).other W3 (Or.inr (slot_ne (a0 := a0) (Or.inl (Wd hw 54 rfl)) (Or.inl (Wd hw 82 rfl)) (by decide) (t := .int) (t' := .int) (by decide) (by decide))))⟩
def Q_rmA1_2 (n0 : Nat) (Z : State) (cS : Int32) (aDE : Addr) (kDE : ClassId) (aUS : Addr) (aSS : Addr) (aIE : Addr) (mO : Addr) (a0l : Addr) (a1o : Addr) (ae : Addr) (mc : Int32) (ka : ClassId) (ob0 : Addr) (ob1 : Addr) (h0 : Heap) (v : Option Value) (h : Heap) (L : List Loc) : Prop := v = some (.int 1) ∧ Fr n0 L ∧ Keep h0 h [a0l, ae] ∧ (Exa Z h ae "[Ljava/lang/Object;") ∧ (Arv Z h ae ka (.object "java/lang/Object") (10 : Int32) [(.ref ob0), (.ref ob1), (.ref a1o), .null, .null, .null, .null, .null, .null, .null] .null) ∧ (Ovr Z ka "java/lang/Object") ∧ (Exa Z h a0l "java/util/ArrayList") ∧ (Fld Z h a0l "java/util/ArrayList" "elementData" "[Ljava/lang/Object;" (.ref ae)) ∧ (Fld Z h a0l "java/util/ArrayList" "size" "I" (.int 3)) ∧ (Fld Z h a0l "java/util/AbstractList" "modCount" "I" (.int (mc + (1 : Int32))))
theorem rmA1_2 (l : Launch) (Z : State) (a0 : Array Value) (hw : ∀ d ∈ tables_1, d.before a0 Z = true) (ws : List Jvm.Cond) (cS : Int32) (aDE : Addr) (kDE : ClassId) (aUS : Addr) (aSS : Addr) (aIE : Addr) (mO : Addr) (a0l : Addr) (a1o : Addr) (ae : Addr) (mc : Int32) (ka : ClassId) (ob0 : Addr) (ob1 : Addr) (h0 : Heap) (n0 : Nat) (O0 : Old Z n0 h0) (GL : GF Z cS aDE kDE aUS aSS aIE mO) (E_a0l : Exa Z h0 a0l "java/util/ArrayList") (F_elementData_a0l : Fld Z h0 a0l "java/util/ArrayList" "elementData" "[Ljava/lang/Object;" (.ref ae)) (F_size_a0l : Fld Z h0 a0l "java/util/ArrayList" "size" "I" (.int 2)) (F_modCount_a0l : Fld Z h0 a0l "java/util/AbstractList" "modCount" "I" (.int mc)) (g_a0l : n0 ≤ a0l) (E_a1o : Exa Z h0 a1o "com/example/grantline/grantline/PolicyException$Problem") (E_ae : Exa Z h0 ae "[Ljava/lang/Object;") (V_ae : Arv Z h0 ae ka (.object "java/lang/Object") (10 : Int32) [(.ref ob0), (.ref ob1), .null, .null, .null, .null, .null, .null, .null, .null] .null) (ov : Ovr Z ka "java/lang/Object") (g_ae : n0 ≤ ae) :
    MF l MN_37 jdk_38_method_25_code 2 (some .boolean) ws (Rm 1 0 0 15) #[(.ref a0l), (.ref a1o)] Z h0 (Q_rmA1_2 n0 Z cS aDE kDE aUS aSS aIE mO a0l a1o ae mc ka ob0 ob1 h0) := by
  refine MetFree.of_bodySF (plainFor_of_name pnv9) hisR ?_
  intro p e s m args below meth c s₁ Bd hml0 hP hK
  obtain ⟨rfl, hZ, hh⟩ := hP
  have hx := Bd.exec
  have hby := Bd.bytes
  have hml : c.maxLocals = 2 := hml0
  have hown : s.vm.findClass "java/util/ArrayList" = some m.cls := findClass_of_methodNamed Bd.named
  have hnm := (name_of_methodNamed Bd.named Bd.method).1
  have X0 : Stand p l e (Rm 1 0 0 15) s m #[(.ref a0l), (.ref a1o)] below meth c s₁ [] 0 0 := Stand.of_body Bd
  have e0 : s₁.heap = h0 := by rw [← hh, Bd.state]; rfl
  have N0 := Fr.nil n0
  have pre0 : ∀ t, SP p e below s₁ m 0 #[vr a0l, vr a1o] [] t → Steps p.tables e below (s₁.setTop (entryFrame m #[(.ref a0l), (.ref a1o)] 2)) t := fun t k => castTop (ef_rmA1_0 m a0l a1o) k
  have GL' := GL
  obtain ⟨GCS, GCP, GDE, GVE, GUS, GSS, GIE, GMO⟩ := GL'
  obtain ⟨T1, X1, e1, st1⟩ := getF X0 hx hZ hown (host := "") (Or.inl (Wd hw 79 rfl)) (Via.of (Wd hw 80 rfl)) e0 F_modCount_a0l (g := mkF m 2 #[vr a0l, vr a1o] [(.ref a0l), (.ref a0l)]) rfl rfl (dG hby D13 2 rfl)
  obtain ⟨T2, h2, X2, e2, W2, st2⟩ := putF X1 hx hZ hown (host := "") (Or.inl (Wd hw 79 rfl)) (Via.of (Wd hw 80 rfl)) e1 F_modCount_a0l E_a0l (Or.inl (Wd hw 54 rfl)) (Wd hw 35 rfl) (ty := .int) (by decide) rfl rfl (g := mkF m 7 #[vr a0l, vr a1o] [(.int (mc + (1 : Int32))), (.ref a0l)]) rfl rfl (dG hby D13 5 rfl)
  have Fw2 := F_modCount_a0l.same W2
  have K2 : Keep h0 h2 [a0l, ae] := (Keep.refl h0 [a0l, ae]).wr W2 (Or.inl (List.mem_of_getElem? (i := 0) rfl))
  have O2 := O0.wr W2 g_a0l
  have N2 := Fr.snoc X2 N0 g_a0l
  obtain ⟨T3, X3, e3, st3⟩ := getF X2 hx hZ hown (host := "") (Or.inl (Wd hw 56 rfl)) Via.refl e2 (F_elementData_a0l.other W2 (Or.inr (slot_ne (a0 := a0) (Or.inl (Wd hw 57 rfl)) (Or.inl (Wd hw 54 rfl)) (by decide) (t := (.array (.object "java/lang/Object"))) (t' := .int) (by decide) (by decide)))) (g := mkF m 13 #[vr a0l, vr a1o] [(.ref a0l), (.ref a1o), (.ref a0l)]) rfl rfl (dG hby D13 9 rfl)
  obtain ⟨T4, X4, e4, st4⟩ := getF X3 hx hZ hown (host := "") (Or.inl (Wd hw 81 rfl)) Via.refl e3 (F_size_a0l.other W2 (Or.inr (slot_ne (a0 := a0) (Or.inl (Wd hw 82 rfl)) (Or.inl (Wd hw 54 rfl)) (by decide) (t := .int) (t' := .int) (by decide) (by decide)))) (g := mkF m 17 #[vr a0l, vr a1o] [(.ref a0l), (.ref ae), (.ref a1o), (.ref a0l)]) rfl rfl (dG hby D13 11 rfl)
  obtain ⟨cq5, q5, q5'⟩ := (E_a0l.wr W2).cell
  obtain ⟨_, _, ⟨T5, L5, k5, n5⟩, -, X5, ⟨Lc5, hQ5, l5, y5, z5⟩, st5⟩ := X4.privateBack hx (y := MN_36) hown (mvT hZ (Wd hw 83 rfl)) (mvT hZ (Wd hw 84 rfl)) (mvT hZ (Wd hw 86 rfl)) (Cond.privateMethod_at (mvP hZ (Wd hw 85 rfl) (args := #[]))) (mvT hZ (Wd hw 87 rfl)) (by decide) (backOf (W := 0) (rmA3_2 l Z a0 hw [] cS aDE kDE aUS aSS aIE mO a0l a1o ae ((mc + (1 : Int32))) ka ob0 ob1 h2 n0 O2 GL (E_a0l.wr W2) (F_elementData_a0l.other W2 (Or.inr (slot_ne (a0 := a0) (Or.inl (Wd hw 57 rfl)) (Or.inl (Wd hw 54 rfl)) (by decide) (t := (.array (.object "java/lang/Object"))) (t' := .int) (by decide) (by decide)))) (F_size_a0l.other W2 (Or.inr (slot_ne (a0 := a0) (Or.inl (Wd hw 82 rfl)) (Or.inl (Wd hw 54 rfl)) (by decide) (t := .int) (t' := .int) (by decide) (by decide)))) Fw2 g_a0l (E_a1o.wr W2) (E_ae.wr W2) (V_ae.other W2 (Exa.ne E_ae E_a0l (by decide))) ov g_ae) hZ (Wd hw 87 rfl) (Wd hw 36 rfl) (by decide) (by decide)) (g := mkF m 20 #[vr a0l, vr a1o] [(.int 2), (.ref ae), (.ref a1o), (.ref a0l)]) rfl (by rw [hml]; rfl) (Steps.refl _) (a := a0l) (by rw [e4]; exact q5) q5' (argsL := [(.ref a1o), (.ref ae), (.int 2)]) (rest := []) (lenOf pdv23 rfl) rfl (by show 2 * 0 + _ ≤ _; exact lEq rfl) (dG hby D13 12 rfl) (fun _ _ => ⟨rfl, e4, (by decide : 0 + 0 ≤ _), (by decide : 0 + 0 ≤ _)⟩)
  dsimp only [Pt.U, Pt.locs, Pt.cells, Pt.slots] at X5 l5 y5 z5 st5 hQ5
  subst l5 y5 z5
  obtain ⟨rfl, N5q, Kc5, P5_0, P5_1, P5_2, P5_3, P5_4, P5_5, P5_6⟩ := hQ5
  have K5 : Keep h0 T5.heap [a0l, ae] := K2.trans Kc5 (allS (Or.inl (List.mem_of_getElem? (i := 0) rfl)) (allS (Or.inl (List.mem_of_getElem? (i := 1) rfl)) all0))
  have O5 := O2.keep Kc5 (allS g_a0l (allS g_ae all0))
  have N5 := Fr.app N2 N5q
  obtain ⟨fs, hr, hrun, hended, hW, hsame⟩ := X5.leave (v := some (.int 1)) (fun h => by rw [Bd.returns] at h; cases h)
  refine ⟨_, _, pre0 _ ?_, hrun, hended, _, _, rfl, ?_, ⟨_, rfl⟩, hW, hsame.mono (by decide) (by decide)⟩
  · show SP p e below s₁ m 0 #[vr a0l, vr a1o] [] _
    refine XS.aloadN X0.here hx rfl (dG hby D13 0 rfl) rfl rfl ?_
    refine XS.dup X0.here hx rfl (dG hby D13 1 rfl) rfl rfl ?_
    show SP p e below s₁ m 2 #[vr a0l, vr a1o] [(.ref a0l), (.ref a0l)] _
    refine st1 _ ?_
    show SP p e below T1 m 5 #[vr a0l, vr a1o] [(.int mc), (.ref a0l)] _
    refine XS.iconst X1.here hx rfl (dG hby D13 3 rfl) ?_
    refine XS.iadd X1.here hx rfl (dG hby D13 4 rfl) rfl ?_
    show SP p e below T1 m 7 #[vr a0l, vr a1o] [(.int (mc + (1 : Int32))), (.ref a0l)] _
    refine st2 _ ?_
    show SP p e below T2 m 10 #[vr a0l, vr a1o] [] _
    refine XS.aloadN X2.here hx rfl (dG hby D13 6 rfl) rfl rfl ?_
    refine XS.aloadN X2.here hx rfl (dG hby D13 7 rfl) rfl rfl ?_
    refine XS.aloadN X2.here hx rfl (dG hby D13 8 rfl) rfl rfl ?_
    show SP p e below T2 m 13 #[vr a0l, vr a1o] [(.ref a0l), (.ref a1o), (.ref a0l)] _
    refine st3 _ ?_
    show SP p e below T3 m 16 #[vr a0l, vr a1o] [(.ref ae), (.ref a1o), (.ref a0l)] _
    refine XS.aloadN X3.here hx rfl (dG hby D13 10 rfl) rfl rfl ?_
    show SP p e below T3 m 17 #[vr a0l, vr a1o] [(.ref a0l), (.ref ae), (.ref a1o), (.ref a0l)] _
    refine st4 _ ?_
    show SP p e below T4 m 20 #[vr a0l, vr a1o] [(.int 2), (.ref ae), (.ref a1o), (.ref a0l)] _
    refine st5.trans ?_
    show SP p e below T5 m 23 #[vr a0l, vr a1o] [] _
    refine XS.iconst X5.here hx rfl (dG hby D13 13 rfl) ?_
    show SP p e below T5 m 24 #[vr a0l, vr a1o] [(.int 1)] _
    exact retN X5 hx (t := .boolean) Bd.returns (by simp) (dG hby D13 14 rfl) hr
  · show Q_rmA1_2 n0 Z cS aDE kDE aUS aSS aIE mO a0l a1o ae mc ka ob0 ob1 h0 _ T5.heap _
    exact ⟨rfl, N5, K5, P5_0, P5_1, P5_2, P5_3, P5_4, P5_5, P5_6⟩
theorem D20 : dL jdk_38_method_9_code [(0, .aload_n 0, 1), (1, .getfield 48, 3), (4, .ifCond .ne 7, 3), (11, .iconst 0, 1), (12, .ireturn, 1)] = true := by decide +kernel
abbrev MN_38 : MethodName := ⟨"java/util/ArrayList", "isEmpty", "()Z"⟩
def Q_rmIe (n0 : Nat) (Z : State) (cS : Int32) (aDE : Addr) (kDE : ClassId) (aUS : Addr) (aSS : Addr) (aIE : Addr) (mO : Addr) (a0l : Addr) (sz : Int32) (h0 : Heap) (v : Option Value) (h : Heap) (L : List Loc) : Prop := v = some (.int 0) ∧ Fr n0 L ∧ h = h0
theorem rmIe (l : Launch) (Z : State) (a0 : Array Value) (hw : ∀ d ∈ tables_1, d.before a0 Z = true) (ws : List Jvm.Cond) (cS : Int32) (aDE : Addr) (kDE : ClassId) (aUS : Addr) (aSS : Addr) (aIE : Addr) (mO : Addr) (a0l : Addr) (sz : Int32) (h0 : Heap) (n0 : Nat) (O0 : Old Z n0 h0) (GL : GF Z cS aDE kDE aUS aSS aIE mO) (F_size_a0l : Fld Z h0 a0l "java/util/ArrayList" "size" "I" (.int sz)) (hz : ¬ (sz = (0 : Int32))) :
    MF l MN_38 jdk_38_method_9_code 1 (some .boolean) ws (Rm 0 0 0 0) #[(.ref a0l)] Z h0 (Q_rmIe n0 Z cS aDE kDE aUS aSS aIE mO a0l sz h0) := by
  refine MetFree.of_bodySF (plainFor_of_name pnv9) hisR ?_
  intro p e s m args below meth c s₁ Bd hml0 hP hK
  obtain ⟨rfl, hZ, hh⟩ := hP
  have hx := Bd.exec
  have hby := Bd.bytes
  have hml : c.maxLocals = 1 := hml0
  have hown : s.vm.findClass "java/util/ArrayList" = some m.cls := findClass_of_methodNamed Bd.named
  have hnm := (name_of_methodNamed Bd.named Bd.method).1
  have X0 : Stand p l e (Rm 0 0 0 0) s m #[(.ref a0l)] below meth c s₁ [] 0 0 := Stand.of_body Bd
  have e0 : s₁.heap = h0 := by rw [← hh, Bd.state]; rfl
  have N0 := Fr.nil n0
  have pre0 : ∀ t, SP p e below s₁ m 0 #[vr a0l] [] t → Steps p.tables e below (s₁.setTop (entryFrame m #[(.ref a0l)] 1)) t := fun t k => castTop (ef_rmAbc m a0l) k
  have GL' := GL
  obtain ⟨GCS, GCP, GDE, GVE, GUS, GSS, GIE, GMO⟩ := GL'
  obtain ⟨T1, X1, e1, st1⟩ := getF X0 hx hZ hown (host := "") (Or.inl (Wd hw 81 rfl)) Via.refl e0 F_size_a0l (g := mkF m 1 #[vr a0l] [(.ref a0l)]) rfl rfl (dG hby D20 1 rfl)
  obtain ⟨fs, hr, hrun, hended, hW, hsame⟩ := X1.leave (v := some (.int 0)) (fun h => by rw [Bd.returns] at h; cases h)
  refine ⟨_, _, pre0 _ ?_, hrun, hended, _, _, rfl, ?_, ⟨_, rfl⟩, hW, hsame.mono (by decide) (by decide)⟩
  · show SP p e below s₁ m 0 #[vr a0l] [] _
    refine XS.aloadN X0.here hx rfl (dG hby D20 0 rfl) rfl rfl ?_
    show SP p e below s₁ m 1 #[vr a0l] [(.ref a0l)] _
    refine st1 _ ?_
    show SP p e below T1 m 4 #[vr a0l] [(.int sz)] _
    refine XS.ifYes X1.here hx rfl (pc0 := 4) (pc' := 11) rfl (dG hby D20 2 rfl) rfl ((if0 _ _).trans (feq hz).2) (by decide) (by decide) ?_
    refine XS.iconst X1.here hx rfl (dG hby D20 3 rfl) ?_
    show SP p e below T1 m 12 #[vr a0l] [(.int 0)] _
    exact retN X1 hx (t := .boolean) Bd.returns (by simp) (dG hby D20 4 rfl) hr
  · show Q_rmIe n0 Z cS aDE kDE aUS aSS aIE mO a0l sz h0 _ T1.heap _
    rw [e1]
    exact ⟨rfl, N0, rfl⟩
theorem D23 : dL jdk_41_method_11_code [(0, .iload_n 0, 1), (1, .ifCond .lt 8, 3), (4, .iload_n 0, 1), (5, .iload_n 1, 1), (6, .if_icmp .lt 10, 3), (16, .iload_n 0, 1), (17, .ireturn, 1)] = true := by decide +kernel
theorem pnv10 : plainName "jdk/internal/util/Preconditions" = true := by first | (simp [plainName, overriddenIn]; done) | decide +kernel
abbrev MN_39 : MethodName := ⟨"jdk/internal/util/Preconditions", "checkIndex", "(IILjava/util/function/BiFunction;)I"⟩
theorem ef_rmCk (m : MethodId) (p1 : Int32) : entryFrame m #[(.int 0), (.int p1), .null] 3 = mkF m 0 #[vi (0 : Int32), vi p1, .val .null] [] := by first | (simp [entryFrame, mkF, argsToLocals, Value.category]; done) | rfl
def Q_rmCk (n0 : Nat) (Z : State) (cS : Int32) (aDE : Addr) (kDE : ClassId) (aUS : Addr) (aSS : Addr) (aIE : Addr) (mO : Addr) (p1 : Int32) (h0 : Heap) (v : Option Value) (h : Heap) (L : List Loc) : Prop := v = some (.int 0) ∧ Fr n0 L ∧ h = h0
theorem rmCk (l : Launch) (Z : State) (a0 : Array Value) (hw : ∀ d ∈ tables_1, d.before a0 Z = true) (ws : List Jvm.Cond) (cS : Int32) (aDE : Addr) (kDE : ClassId) (aUS : Addr) (aSS : Addr) (aIE : Addr) (mO : Addr) (p1 : Int32) (h0 : Heap) (n0 : Nat) (O0 : Old Z n0 h0) (GL : GF Z cS aDE kDE aUS aSS aIE mO) (hp : (0 : Int32) < p1) :
    MF l MN_39 jdk_41_method_11_code 3 (some .int) ws (Rm 0 0 0 0) #[(.int 0), (.int p1), .null] Z h0 (Q_rmCk n0 Z cS aDE kDE aUS aSS aIE mO p1 h0) := by
  refine MetFree.of_bodySF (plainFor_of_name pnv10) hisR ?_
  intro p e s m args below meth c s₁ Bd hml0 hP hK
  obtain ⟨rfl, hZ, hh⟩ := hP
  have hx := Bd.exec
  have hby := Bd.bytes
  have hml : c.maxLocals = 3 := hml0
  have hown : s.vm.findClass "jdk/internal/util/Preconditions" = some m.cls := findClass_of_methodNamed Bd.named
  have hnm := (name_of_methodNamed Bd.named Bd.method).1
  have X0 : Stand p l e (Rm 0 0 0 0) s m #[(.int 0), (.int p1), .null] below meth c s₁ [] 0 0 := Stand.of_body Bd
  have e0 : s₁.heap = h0 := by rw [← hh, Bd.state]; rfl
  have N0 := Fr.nil n0
  have pre0 : ∀ t, SP p e below s₁ m 0 #[vi (0 : Int32), vi p1, .val .null] [] t → Steps p.tables e below (s₁.setTop (entryFrame m #[(.int 0), (.int p1), .null] 3)) t := fun t k => castTop (ef_rmCk m p1) k
  have GL' := GL
  obtain ⟨GCS, GCP, GDE, GVE, GUS, GSS, GIE, GMO⟩ := GL'
  obtain ⟨fs, hr, hrun, hended, hW, hsame⟩ := X0.leave (v := some (.int 0)) (fun h => by rw [Bd.returns] at h; cases h)
  refine ⟨_, _, pre0 _ ?_, hrun, hended, _, _, rfl, ?_, ⟨_, rfl⟩, hW, hsame.mono (by decide) (by decide)⟩
  · show SP p e below s₁ m 0 #[vi (0 : Int32), vi p1, .val .null] [] _
    refine XS.iloadN X0.here hx rfl (dG hby D23 0 rfl) rfl ?_
    refine XS.ifNo X0.here hx rfl (dG hby D23 1 rfl) rfl ((if0 _ _).trans (flt (by decide : ¬ ((0 : Int32) < (0 : Int32)))).1) ?_
    refine XS.iloadN X0.here hx rfl (dG hby D23 2 rfl) rfl ?_
    refine XS.iloadN X0.here hx rfl (dG hby D23 3 rfl) rfl ?_
    refine XS.icmpYes X0.here hx rfl (pc0 := 6) (pc' := 16) rfl (dG hby D23 4 rfl) rfl (tlt hp).1 (by decide) (by decide) ?_
    refine XS.iloadN X0.here hx rfl (dG hby D23 5 rfl) rfl ?_
    show SP p e below s₁ m 17 #[vi (0 : Int32), vi p1, .val .null] [(.int 0)] _
    exact retI X0 hx Bd.returns (dG hby D23 6 rfl) hr
  · show Q_rmCk n0 Z cS aDE kDE aUS aSS aIE mO p1 h0 _ s₁.heap _
    rw [e0]
    exact ⟨rfl, N0, rfl⟩
theorem D22 : dL jdk_31_method_17_code [(0, .iload_n 0, 1), (1, .iload_n 1, 1), (2, .aconst_null, 1), (3, .invokestatic 105, 3), (6, .ireturn, 1)] = true := by decide +kernel
theorem pdv24 : parseMethodDescriptor "(IILjava/util/function/BiFunction;)I" = some ⟨[.int, .int, (.object "java/util/function/BiFunction")], some .int⟩ := by decide +kernel
theorem pnv11 : plainName "java/util/Objects" = true := by first | (simp [plainName, overriddenIn]; done) | decide +kernel
abbrev MN_40 : MethodName := ⟨"java/util/Objects", "checkIndex", "(II)I"⟩
def Q_rmCi (n0 : Nat) (Z : State) (cS : Int32) (aDE : Addr) (kDE : ClassId) (aUS : Addr) (aSS : Addr) (aIE : Addr) (mO : Addr) (p1 : Int32) (h0 : Heap) (v : Option Value) (h : Heap) (L : List Loc) : Prop := v = some (.int 0) ∧ Fr n0 L ∧ h = h0
theorem rmCi (l : Launch) (Z : State) (a0 : Array Value) (hw : ∀ d ∈ tables_1, d.before a0 Z = true) (ws : List Jvm.Cond) (cS : Int32) (aDE : Addr) (kDE : ClassId) (aUS : Addr) (aSS : Addr) (aIE : Addr) (mO : Addr) (p1 : Int32) (h0 : Heap) (n0 : Nat) (O0 : Old Z n0 h0) (GL : GF Z cS aDE kDE aUS aSS aIE mO) (hp : (0 : Int32) < p1) :
    MF l MN_40 jdk_31_method_17_code 2 (some .int) ws (Rm 1 0 0 14) #[(.int 0), (.int p1)] Z h0 (Q_rmCi n0 Z cS aDE kDE aUS aSS aIE mO p1 h0) := by
  refine MetFree.of_bodySF (plainFor_of_name pnv11) hisR ?_
  intro p e s m args below meth c s₁ Bd hml0 hP hK
  obtain ⟨rfl, hZ, hh⟩ := hP
  have hx := Bd.exec
  have hby := Bd.bytes
  have hml : c.maxLocals = 2 := hml0
  have hown : s.vm.findClass "java/util/Objects" = some m.cls := findClass_of_methodNamed Bd.named
  have hnm := (name_of_methodNamed Bd.named Bd.method).1
  have X0 : Stand p l e (Rm 1 0 0 14) s m #[(.int 0), (.int p1)] below meth c s₁ [] 0 0 := Stand.of_body Bd
  have e0 : s₁.heap = h0 := by rw [← hh, Bd.state]; rfl
  have N0 := Fr.nil n0
  have pre0 : ∀ t, SP p e below s₁ m 0 #[vi (0 : Int32), vi p1] [] t → Steps p.tables e below (s₁.setTop (entryFrame m #[(.int 0), (.int p1)] 2)) t := fun t k => castTop (ef_rmCl m p1) k
  have GL' := GL
  obtain ⟨GCS, GCP, GDE, GVE, GUS, GSS, GIE, GMO⟩ := GL'
  obtain ⟨_, _, ⟨T1, L1, k1, n1⟩, -, X1, ⟨Lc1, hQ1, l1, y1, z1⟩, st1⟩ := Jvm.LawKit.callS X0 hx (y := MN_39) hown (mvT hZ (Wd hw 135 rfl)) (mvT hZ (Wd hw 136 rfl)) (mvT hZ (Wd hw 137 rfl)) (mvT hZ (Wd hw 138 rfl)) (by decide) (backOf (W := 0) (rmCk l Z a0 hw [] cS aDE kDE aUS aSS aIE mO p1 h0 n0 O0 GL hp) hZ (Wd hw 138 rfl) (Wd hw 137 rfl) (by decide) (by decide)) (g := mkF m 3 #[vi (0 : Int32), vi p1] [.null, (.int p1), (.int 0)]) rfl (by rw [hml]; rfl) (argsL := [(.int 0), (.int p1), .null]) (rest := []) (lenOf pdv24 rfl) rfl (by show 2 * 0 + _ ≤ _; exact lEq rfl) (dG hby D22 3 rfl) (fun _ _ => ⟨rfl, e0, (by decide : 0 + 0 ≤ _), (by decide : 0 + 0 ≤ _)⟩)
  dsimp only [Pt.U, Pt.locs, Pt.cells, Pt.slots] at X1 l1 y1 z1 st1 hQ1
  subst l1 y1 z1
  obtain ⟨rfl, N1q, e1⟩ := hQ1
  have N1 := Fr.app N0 N1q
  obtain ⟨fs, hr, hrun, hended, hW, hsame⟩ := X1.leave (v := some (.int 0)) (fun h => by rw [Bd.returns] at h; cases h)
  refine ⟨_, _, pre0 _ ?_, hrun, hended, _, _, rfl, ?_, ⟨_, rfl⟩, hW, hsame.mono (by decide) (by decide)⟩
  · show SP p e below s₁ m 0 #[vi (0 : Int32), vi p1] [] _
    refine XS.iloadN X0.here hx rfl (dG hby D22 0 rfl) rfl ?_
    refine XS.iloadN X0.here hx rfl (dG hby D22 1 rfl) rfl ?_
    refine XS.aconstNull X0.here hx rfl (dG hby D22 2 rfl) ?_
    show SP p e below s₁ m 3 #[vi (0 : Int32), vi p1] [.null, (.int p1), (.int 0)] _
    refine st1 _ ?_
    show SP p e below T1 m 6 #[vi (0 : Int32), vi p1] [(.int 0)] _
    exact retI X1 hx Bd.returns (dG hby D22 4 rfl) hr
  · show Q_rmCi n0 Z cS aDE kDE aUS aSS aIE mO p1 h0 _ T1.heap _
    rw [e1]
    exact ⟨rfl, N1, rfl⟩
theorem D24 : dL jdk_38_method_18_code [(0, .aload_n 0, 1), (1, .getfield 9, 3), (4, .iload_n 1, 1), (5, .aaload, 1), (6, .areturn, 1)] = true := by decide +kernel
abbrev MN_41 : MethodName := ⟨"java/util/ArrayList", "elementData", "(I)Ljava/lang/Object;"⟩
theorem ef_rmEd (m : MethodId) (a0l : Addr) : entryFrame m #[(.ref a0l), (.int 0)] 2 = mkF m 0 #[vr a0l, vi (0 : Int32)] [] := by first | (simp [entryFrame, mkF, argsToLocals, Value.category]; done) | rfl
def Q_rmEd (n0 : Nat) (Z : State) (cS : Int32) (aDE : Addr) (kDE : ClassId) (aUS : Addr) (aSS : Addr) (aIE : Addr) (mO : Addr) (a0l : Addr) (ae : Addr) (ka : ClassId) (ob0 : Addr) (u1 : Value) (u2 : Value) (u3 : Value) (u4 : Value) (u5 : Value) (u6 : Value) (u7 : Value) (u8 : Value) (u9 : Value) (h0 : Heap) (v : Option Value) (h : Heap) (L : List Loc) : Prop := v = some (.ref ob0) ∧ Fr n0 L ∧ h = h0
theorem rmEd (l : Launch) (Z : State) (a0 : Array Value) (hw : ∀ d ∈ tables_1, d.before a0 Z = true) (ws : List Jvm.Cond) (cS : Int32) (aDE : Addr) (kDE : ClassId) (aUS : Addr) (aSS : Addr) (aIE : Addr) (mO : Addr) (a0l : Addr) (ae : Addr) (ka : ClassId) (ob0 : Addr) (u1 : Value) (u2 : Value) (u3 : Value) (u4 : Value) (u5 : Value) (u6 : Value) (u7 : Value) (u8 : Value) (u9 : Value) (h0 : Heap) (n0 : Nat) (O0 : Old Z n0 h0) (GL : GF Z cS aDE kDE aUS aSS aIE mO) (E_a0l : Exa Z h0 a0l "java/util/ArrayList") (F_elementData_a0l : Fld Z h0 a0l "java/util/ArrayList" "elementData" "[Ljava/lang/Object;" (.ref ae)) (V_ae : Arv Z h0 ae ka (.object "java/lang/Object") (10 : Int32) [(.ref ob0), u1, u2, u3, u4, u5, u6, u7, u8, u9] .null) :
    MF l MN_41 jdk_38_method_18_code 2 (some (.object "java/lang/Object")) ws (Rm 0 0 0 0) #[(.ref a0l), (.int 0)] Z h0 (Q_rmEd n0 Z cS aDE kDE aUS aSS aIE mO a0l ae ka ob0 u1 u2 u3 u4 u5 u6 u7 u8 u9 h0) := by
  refine MetFree.of_bodySF (plainFor_of_name pnv9) hisR ?_
  intro p e s m args below meth c s₁ Bd hml0 hP hK
  obtain ⟨rfl, hZ, hh⟩ := hP
  have hx := Bd.exec
  have hby := Bd.bytes
  have hml : c.maxLocals = 2 := hml0
  have hown : s.vm.findClass "java/util/ArrayList" = some m.cls := findClass_of_methodNamed Bd.named
  have hnm := (name_of_methodNamed Bd.named Bd.method).1
  have X0 : Stand p l e (Rm 0 0 0 0) s m #[(.ref a0l), (.int 0)] below meth c s₁ [] 0 0 := Stand.of_body Bd
  have e0 : s₁.heap = h0 := by rw [← hh, Bd.state]; rfl
  have N0 := Fr.nil n0
  have pre0 : ∀ t, SP p e below s₁ m 0 #[vr a0l, vi (0 : Int32)] [] t → Steps p.tables e below (s₁.setTop (entryFrame m #[(.ref a0l), (.int 0)] 2)) t := fun t k => castTop (ef_rmEd m a0l) k
  have GL' := GL
  obtain ⟨GCS, GCP, GDE, GVE, GUS, GSS, GIE, GMO⟩ := GL'
  obtain ⟨T1, X1, e1, st1⟩ := getF X0 hx hZ hown (host := "") (Or.inl (Wd hw 56 rfl)) Via.refl e0 F_elementData_a0l (g := mkF m 1 #[vr a0l, vi (0 : Int32)] [(.ref a0l)]) rfl rfl (dG hby D24 1 rfl)
  obtain ⟨cl2, Ar2, -, S2, N2_, H2, G2⟩ := id (V_ae)
  have hin2 : ¬ ((0 : Int32) < 0 ∨ cl2.slots.size ≤ ((0 : Int32)).toNatClampNeg) := inb_of S2 ⟨(by decide), (by decide)⟩
  have hat2 : cl2.slots[((0 : Int32)).toNatClampNeg]? = some (.ref ob0) := H2.at hin2 rfl
  obtain ⟨fs, hr, hrun, hended, hW, hsame⟩ := X1.leave (v := some (.ref ob0)) (fun h => by rw [Bd.returns] at h; cases h)
  refine ⟨_, _, pre0 _ ?_, hrun, hended, _, _, rfl, ?_, ⟨_, rfl⟩, hW, hsame.mono (by decide) (by decide)⟩
  · show SP p e below s₁ m 0 #[vr a0l, vi (0 : Int32)] [] _
    refine XS.aloadN X0.here hx rfl (dG hby D24 0 rfl) rfl rfl ?_
    show SP p e below s₁ m 1 #[vr a0l, vi (0 : Int32)] [(.ref a0l)] _
    refine st1 _ ?_
    show SP p e below T1 m 4 #[vr a0l, vi (0 : Int32)] [(.ref ae)] _
    refine XS.iloadN X1.here hx rfl (dG hby D24 2 rfl) rfl ?_
    show SP p e below T1 m 5 #[vr a0l, vi (0 : Int32)] [(.int 0), (.ref ae)] _
    refine X1.aaload hx (j := (0 : Int32)) (v := (.ref ob0)) (by rw [e1]; exact Ar2.1) (State.isArrayOf_alike hZ.alike Ar2.2.1) rfl Ar2.2.2 hin2 hat2 (g := mkF m 5 #[vr a0l, vi (0 : Int32)] [(.int 0), (.ref ae)]) rfl rfl (dG hby D24 3 rfl) _ ?_
    show SP p e below T1 m 6 #[vr a0l, vi (0 : Int32)] [(.ref ob0)] _
    exact retA X1 hx Bd.returns rfl (dG hby D24 4 rfl) hr
  · show Q_rmEd n0 Z cS aDE kDE aUS aSS aIE mO a0l ae ka ob0 u1 u2 u3 u4 u5 u6 u7 u8 u9 h0 _ T1.heap _
    rw [e1]
    exact ⟨rfl, N0, rfl⟩
theorem D21 : dL jdk_38_method_20_code [(0, .iload_n 1, 1), (1, .aload_n 0, 1), (2, .getfield 48, 3), (5, .invokestatic 118, 3), (8, .pop, 1), (9, .aload_n 0, 1), (10, .iload_n 1, 1), (11, .invokevirtual 123, 3), (14, .areturn, 1)] = true := by decide +kernel
theorem pdv25 : parseMethodDescriptor "(I)Ljava/lang/Object;" = some ⟨[.int], some (.object "java/lang/Object")⟩ := by decide +kernel
abbrev MN_42 : MethodName := ⟨"java/util/ArrayList", "get", "(I)Ljava/lang/Object;"⟩
def Q_rmGet (n0 : Nat) (Z : State) (cS : Int32) (aDE : Addr) (kDE : ClassId) (aUS : Addr) (aSS : Addr) (aIE : Addr) (mO : Addr) (a0l : Addr) (ae : Addr) (ka : ClassId) (ob0 : Addr) (u1 : Value) (u2 : Value) (u3 : Value) (u4 : Value) (u5 : Value) (u6 : Value) (u7 : Value) (u8 : Value) (u9 : Value) (sz : Int32) (h0 : Heap) (v : Option Value) (h : Heap) (L : List Loc) : Prop := v = some (.ref ob0) ∧ Fr n0 L ∧ h = h0
theorem rmGet (l : Launch) (Z : State) (a0 : Array Value) (hw : ∀ d ∈ tables_1, d.before a0 Z = true) (ws : List Jvm.Cond) (cS : Int32) (aDE : Addr) (kDE : ClassId) (aUS : Addr) (aSS : Addr) (aIE : Addr) (mO : Addr) (a0l : Addr) (ae : Addr) (ka : ClassId) (ob0 : Addr) (u1 : Value) (u2 : Value) (u3 : Value) (u4 : Value) (u5 : Value) (u6 : Value) (u7 : Value) (u8 : Value) (u9 : Value) (sz : Int32) (h0 : Heap) (n0 : Nat) (O0 : Old Z n0 h0) (GL : GF Z cS aDE kDE aUS aSS aIE mO) (E_a0l : Exa Z h0 a0l "java/util/ArrayList") (F_elementData_a0l : Fld Z h0 a0l "java/util/ArrayList" "elementData" "[Ljava/lang/Object;" (.ref ae)) (V_ae : Arv Z h0 ae ka (.object "java/lang/Object") (10 : Int32) [(.ref ob0), u1, u2, u3, u4, u5, u6, u7, u8, u9] .null) (F_size_a0l : Fld Z h0 a0l "java/util/ArrayList" "size" "I" (.int sz)) (hp : (0 : Int32) < sz) :
    MF l MN_42 jdk_38_method_20_code 2 (some (.object "java/lang/Object")) ws (Rm 2 0 0 27) #[(.ref a0l), (.int 0)] Z h0 (Q_rmGet n0 Z cS aDE kDE aUS aSS aIE mO a0l ae ka ob0 u1 u2 u3 u4 u5 u6 u7 u8 u9 sz h0) := by
  refine MetFree.of_bodySF (plainFor_of_name pnv9) hisR ?_
  intro p e s m args below meth c s₁ Bd hml0 hP hK
  obtain ⟨rfl, hZ, hh⟩ := hP
  have hx := Bd.exec
  have hby := Bd.bytes
  have hml : c.maxLocals = 2 := hml0
  have hown : s.vm.findClass "java/util/ArrayList" = some m.cls := findClass_of_methodNamed Bd.named
  have hnm := (name_of_methodNamed Bd.named Bd.method).1
  have X0 : Stand p l e (Rm 2 0 0 27) s m #[(.ref a0l), (.int 0)] below meth c s₁ [] 0 0 := Stand.of_body Bd
  have e0 : s₁.heap = h0 := by rw [← hh, Bd.state]; rfl
  have N0 := Fr.nil n0
  have pre0 : ∀ t, SP p e below s₁ m 0 #[vr a0l, vi (0 : Int32)] [] t → Steps p.tables e below (s₁.setTop (entryFrame m #[(.ref a0l), (.int 0)] 2)) t := fun t k => castTop (ef_rmEd m a0l) k
  have GL' := GL
  obtain ⟨GCS, GCP, GDE, GVE, GUS, GSS, GIE, GMO⟩ := GL'
  obtain ⟨T1, X1, e1, st1⟩ := getF X0 hx hZ hown (host := "") (Or.inl (Wd hw 81 rfl)) Via.refl e0 F_size_a0l (g := mkF m 2 #[vr a0l, vi (0 : Int32)] [(.ref a0l), (.int 0)]) rfl rfl (dG hby D21 2 rfl)
  obtain ⟨_, _, ⟨T2, L2, k2, n2⟩, -, X2, ⟨Lc2, hQ2, l2, y2, z2⟩, st2⟩ := Jvm.LawKit.callS X1 hx (y := MN_40) hown (mvT hZ (Wd hw 131 rfl)) (mvT hZ (Wd hw 132 rfl)) (mvT hZ (Wd hw 133 rfl)) (mvT hZ (Wd hw 134 rfl)) (by decide) (backOf (W := 0) (rmCi l Z a0 hw [] cS aDE kDE aUS aSS aIE mO sz h0 n0 O0 GL hp) hZ (Wd hw 134 rfl) (Wd hw 133 rfl) (by decide) (by decide)) (g := mkF m 5 #[vr a0l, vi (0 : Int32)] [(.int sz), (.int 0)]) rfl (by rw [hml]; rfl) (argsL := [(.int 0), (.int sz)]) (rest := []) (lenOf pdv12 rfl) rfl (by show 2 * 0 + _ ≤ _; exact lEq rfl) (dG hby D21 3 rfl) (fun _ _ => ⟨rfl, e1, (by decide : 0 + 0 ≤ _), (by decide : 0 + 0 ≤ _)⟩)
  dsimp only [Pt.U, Pt.locs, Pt.cells, Pt.slots] at X2 l2 y2 z2 st2 hQ2
  subst l2 y2 z2
  obtain ⟨rfl, N2q, e2⟩ := hQ2
  have N2 := Fr.app N0 N2q
  obtain ⟨cq3, kq3, q3a, q3b, q3c⟩ := isOf hZ e2 E_a0l
  obtain ⟨_, _, ⟨T3, L3, k3, n3⟩, -, X3, ⟨Lc3, hQ3, l3, y3, z3⟩, st3⟩ := X2.virtualBack hx (y := MN_41) (z := MN_41) hown (mvT hZ (Wd hw 139 rfl)) (mvT hZ (Wd hw 140 rfl)) (notFace_of_selects (args := #[]) (mvT hZ (Wd hw 142 rfl))) (mvT hZ (Wd hw 142 rfl)) (mvT hZ (Wd hw 141 rfl)) (by decide) (backOf (W := 0) (rmEd l Z a0 hw [] cS aDE kDE aUS aSS aIE mO a0l ae ka ob0 u1 u2 u3 u4 u5 u6 u7 u8 u9 h0 n0 O0 GL E_a0l F_elementData_a0l V_ae) hZ (Wd hw 143 rfl) (Wd hw 36 rfl) (by decide) (by decide)) q3a q3c (g := mkF m 11 #[vr a0l, vi (0 : Int32)] [(.int 0), (.ref a0l)]) rfl (by rw [hml]; rfl) (Steps.refl _) (argsL := [(.int 0)]) (rest := []) (lenOf pdv25 rfl) rfl (by show 2 * 0 + _ ≤ _; exact lEq rfl) (dG hby D21 7 rfl) (fun _ _ => ⟨rfl, e2, (by decide : 0 + 0 ≤ _), (by decide : 0 + 0 ≤ _)⟩)
  dsimp only [Pt.U, Pt.locs, Pt.cells, Pt.slots] at X3 l3 y3 z3 st3 hQ3
  subst l3 y3 z3
  obtain ⟨rfl, N3q, e3⟩ := hQ3
  have N3 := Fr.app N2 N3q
  obtain ⟨fs, hr, hrun, hended, hW, hsame⟩ := X3.leave (v := some (.ref ob0)) (fun h => by rw [Bd.returns] at h; cases h)
  refine ⟨_, _, pre0 _ ?_, hrun, hended, _, _, rfl, ?_, ⟨_, rfl⟩, hW, hsame.mono (by decide) (by decide)⟩
  · show SP p e below s₁ m 0 #[vr a0l, vi (0 : Int32)] [] _
    refine XS.iloadN X0.here hx rfl (dG hby D21 0 rfl) rfl ?_
    refine XS.aloadN X0.here hx rfl (dG hby D21 1 rfl) rfl rfl ?_
    show SP p e below s₁ m 2 #[vr a0l, vi (0 : Int32)] [(.ref a0l), (.int 0)] _
    refine st1 _ ?_
    show SP p e below T1 m 5 #[vr a0l, vi (0 : Int32)] [(.int sz), (.int 0)] _
    refine st2 _ ?_
    show SP p e below T2 m 8 #[vr a0l, vi (0 : Int32)] [(.int 0)] _
    refine XS.pop X2.here hx rfl (dG hby D21 4 rfl) rfl rfl ?_
    refine XS.aloadN X2.here hx rfl (dG hby D21 5 rfl) rfl rfl ?_
    refine XS.iloadN X2.here hx rfl (dG hby D21 6 rfl) rfl ?_
    show SP p e below T2 m 11 #[vr a0l, vi (0 : Int32)] [(.int 0), (.ref a0l)] _
    refine st3.trans ?_
    show SP p e below T3 m 14 #[vr a0l, vi (0 : Int32)] [(.ref ob0)] _
    exact retA X3 hx Bd.returns rfl (dG hby D21 8 rfl) hr
  · show Q_rmGet n0 Z cS aDE kDE aUS aSS aIE mO a0l ae ka ob0 u1 u2 u3 u4 u5 u6 u7 u8 u9 sz h0 _ T3.heap _
    rw [e3]
    exact ⟨rfl, N3, rfl⟩
theorem D19 : dL prog_16_method_3_code [(0, .aload_n 0, 1), (1, .invokeinterface 39 1, 5), (6, .ifCond .eq 13, 3), (19, .aload_n 0, 1), (20, .iconst 0, 1), (21, .invokeinterface 48 2, 5), (26, .checkcast 1, 3), (29, .areturn, 1)] = true := by decide +kernel
abbrev MN_43 : MethodName := ⟨"java/util/List", "isEmpty", "()Z"⟩
abbrev MN_44 : MethodName := ⟨"java/util/List", "get", "(I)Ljava/lang/Object;"⟩
theorem pnv12 : plainName "com/example/grantline/grantline/PolicyException" = true := by first | (simp [plainName, overriddenIn]; done) | decide +kernel
abbrev MN_45 : MethodName := ⟨"com/example/grantline/grantline/PolicyException", "first", "(Ljava/util/List;)Lcom/example/grantline/grantline/PolicyException$Problem;"⟩
def Q_rmFi (n0 : Nat) (Z : State) (cS : Int32) (aDE : Addr) (kDE : ClassId) (aUS : Addr) (aSS : Addr) (aIE : Addr) (mO : Addr) (a0l : Addr) (ae : Addr) (ka : ClassId) (ob0 : Addr) (u1 : Value) (u2 : Value) (u3 : Value) (u4 : Value) (u5 : Value) (u6 : Value) (u7 : Value) (u8 : Value) (u9 : Value) (sz : Int32) (h0 : Heap) (v : Option Value) (h : Heap) (L : List Loc) : Prop := v = some (.ref ob0) ∧ Fr n0 L ∧ h = h0
theorem rmFi (l : Launch) (Z : State) (a0 : Array Value) (hw : ∀ d ∈ tables_1, d.before a0 Z = true) (ws : List Jvm.Cond) (cS : Int32) (aDE : Addr) (kDE : ClassId) (aUS : Addr) (aSS : Addr) (aIE : Addr) (mO : Addr) (a0l : Addr) (ae : Addr) (ka : ClassId) (ob0 : Addr) (u1 : Value) (u2 : Value) (u3 : Value) (u4 : Value) (u5 : Value) (u6 : Value) (u7 : Value) (u8 : Value) (u9 : Value) (sz : Int32) (h0 : Heap) (n0 : Nat) (O0 : Old Z n0 h0) (GL : GF Z cS aDE kDE aUS aSS aIE mO) (E_a0l : Exa Z h0 a0l "java/util/ArrayList") (F_elementData_a0l : Fld Z h0 a0l "java/util/ArrayList" "elementData" "[Ljava/lang/Object;" (.ref ae)) (V_ae : Arv Z h0 ae ka (.object "java/lang/Object") (10 : Int32) [(.ref ob0), u1, u2, u3, u4, u5, u6, u7, u8, u9] .null) (F_size_a0l : Fld Z h0 a0l "java/util/ArrayList" "size" "I" (.int sz)) (E_ob0 : Exa Z h0 ob0 "com/example/grantline/grantline/PolicyException$Problem") (hz : ¬ (sz = (0 : Int32))) (hp : (0 : Int32) < sz) :
    MF l MN_45 prog_16_method_3_code 1 (some (.object "com/example/grantline/grantline/PolicyException$Problem")) ws (Rm 3 0 0 40) #[(.ref a0l)] Z h0 (Q_rmFi n0 Z cS aDE kDE aUS aSS aIE mO a0l ae ka ob0 u1 u2 u3 u4 u5 u6 u7 u8 u9 sz h0) := by
  refine MetFree.of_bodySF (plainFor_of_name pnv12) hisR ?_
  intro p e s m args below meth c s₁ Bd hml0 hP hK
  obtain ⟨rfl, hZ, hh⟩ := hP
  have hx := Bd.exec
  have hby := Bd.bytes
  have hml : c.maxLocals = 1 := hml0
  have hown : s.vm.findClass "com/example/grantline/grantline/PolicyException" = some m.cls := findClass_of_methodNamed Bd.named
  have hnm := (name_of_methodNamed Bd.named Bd.method).1
  have X0 : Stand p l e (Rm 3 0 0 40) s m #[(.ref a0l)] below meth c s₁ [] 0 0 := Stand.of_body Bd
  have e0 : s₁.heap = h0 := by rw [← hh, Bd.state]; rfl
  have N0 := Fr.nil n0
  have pre0 : ∀ t, SP p e below s₁ m 0 #[vr a0l] [] t → Steps p.tables e below (s₁.setTop (entryFrame m #[(.ref a0l)] 1)) t := fun t k => castTop (ef_rmAbc m a0l) k
  have GL' := GL
  obtain ⟨GCS, GCP, GDE, GVE, GUS, GSS, GIE, GMO⟩ := GL'
  obtain ⟨cq1, kq1, q1a, q1b, q1c⟩ := isOf hZ e0 E_a0l
  obtain ⟨_, _, ⟨T1, L1, k1, n1⟩, -, X1, ⟨Lc1, hQ1, l1, y1, z1⟩, st1⟩ := X0.interfaceBack hx (xi := MN_43) (y := MN_38) hown (mvT hZ (Wd hw 114 rfl)) (mvT hZ (Wd hw 115 rfl)) (mvT hZ (Wd hw 116 rfl)) (mvT hZ (Wd hw 117 rfl)) (mvT hZ (Wd hw 118 rfl)) (mvT hZ (Wd hw 119 rfl)) (mvT hZ (Wd hw 120 rfl)) (mvT hZ (Wd hw 121 rfl)) (by decide) (backOf (W := 0) (rmIe l Z a0 hw [] cS aDE kDE aUS aSS aIE mO a0l sz h0 n0 O0 GL F_size_a0l hz) hZ (Wd hw 122 rfl) (Wd hw 36 rfl) (by decide) (by decide)) q1a q1b q1c (g := mkF m 1 #[vr a0l] [(.ref a0l)]) rfl (by rw [hml]; rfl) (Steps.refl _) (argsL := []) (rest := []) (lenOf pdv15 rfl) rfl (by show 2 * 0 + _ ≤ _; exact lEq rfl) (dG hby D19 1 rfl) (fun _ _ => ⟨rfl, e0, (by decide : 0 + 0 ≤ _), (by decide : 0 + 0 ≤ _)⟩)
  dsimp only [Pt.U, Pt.locs, Pt.cells, Pt.slots] at X1 l1 y1 z1 st1 hQ1
  subst l1 y1 z1
  obtain ⟨rfl, N1q, e1⟩ := hQ1
  have N1 := Fr.app N0 N1q
  obtain ⟨cq2, kq2, q2a, q2b, q2c⟩ := isOf hZ e1 E_a0l
  obtain ⟨_, _, ⟨T2, L2, k2, n2⟩, -, X2, ⟨Lc2, hQ2, l2, y2, z2⟩, st2⟩ := X1.interfaceBack hx (xi := MN_44) (y := MN_42) hown (mvT hZ (Wd hw 123 rfl)) (mvT hZ (Wd hw 124 rfl)) (mvT hZ (Wd hw 125 rfl)) (mvT hZ (Wd hw 126 rfl)) (mvT hZ (Wd hw 127 rfl)) (mvT hZ (Wd hw 128 rfl)) (mvT hZ (Wd hw 129 rfl)) (mvT hZ (Wd hw 121 rfl)) (by decide) (backOf (W := 0) (rmGet l Z a0 hw [] cS aDE kDE aUS aSS aIE mO a0l ae ka ob0 u1 u2 u3 u4 u5 u6 u7 u8 u9 sz h0 n0 O0 GL E_a0l F_elementData_a0l V_ae F_size_a0l hp) hZ (Wd hw 130 rfl) (Wd hw 36 rfl) (by decide) (by decide)) q2a q2b q2c (g := mkF m 21 #[vr a0l] [(.int 0), (.ref a0l)]) rfl (by rw [hml]; rfl) (Steps.refl _) (argsL := [(.int 0)]) (rest := []) (lenOf pdv25 rfl) rfl (by show 2 * 0 + _ ≤ _; exact lEq rfl) (dG hby D19 5 rfl) (fun _ _ => ⟨rfl, e1, (by decide : 0 + 0 ≤ _), (by decide : 0 + 0 ≤ _)⟩)
  dsimp only [Pt.U, Pt.locs, Pt.cells, Pt.slots] at X2 l2 y2 z2 st2 hQ2
  subst l2 y2 z2
  obtain ⟨rfl, N2q, e2⟩ := hQ2
  have N2 := Fr.app N1 N2q
  obtain ⟨T3, X3, e3, st3⟩ := castY X2 hx hZ hown (Wd hw 144 rfl) e2 (Ins.self E_ob0) (g := mkF m 26 #[vr a0l] [(.ref ob0)]) rfl rfl (dG hby D19 6 rfl)
  obtain ⟨fs, hr, hrun, hended, hW, hsame⟩ := X3.leave (v := some (.ref ob0)) (fun h => by rw [Bd.returns] at h; cases h)
  refine ⟨_, _, pre0 _ ?_, hrun, hended, _, _, rfl, ?_, ⟨_, rfl⟩, hW, hsame.mono (by decide) (by decide)⟩
  · show SP p e below s₁ m 0 #[vr a0l] [] _
    refine XS.aloadN X0.here hx rfl (dG hby D19 0 rfl) rfl rfl ?_
    show SP p e below s₁ m 1 #[vr a0l] [(.ref a0l)] _
    refine st1.trans ?_
    show SP p e below T1 m 6 #[vr a0l] [(.int 0)] _
    refine XS.ifYes X1.here hx rfl (pc0 := 6) (pc' := 19) rfl (dG hby D19 2 rfl) rfl ((if0 _ _).trans (teq (by decide : (0 : Int32) = (0 : Int32))).1) (by decide) (by decide) ?_
    refine XS.aloadN X1.here hx rfl (dG hby D19 3 rfl) rfl rfl ?_
    refine XS.iconst X1.here hx rfl (dG hby D19 4 rfl) ?_
    show SP p e below T1 m 21 #[vr a0l] [(.int 0), (.ref a0l)] _
    refine st2.trans ?_
    show SP p e below T2 m 26 #[vr a0l] [(.ref ob0)] _
    refine st3 _ ?_
    show SP p e below T3 m 29 #[vr a0l] [(.ref ob0)] _
    exact retA X3 hx Bd.returns rfl (dG hby D19 7 rfl) hr
  · show Q_rmFi n0 Z cS aDE kDE aUS aSS aIE mO a0l ae ka ob0 u1 u2 u3 u4 u5 u6 u7 u8 u9 sz h0 _ T3.heap _
    rw [e3]
    exact ⟨rfl, N2, rfl⟩
theorem D55 : dL jdk_65_method_120_code [(0, .aload_n 2, 1), (1, .ldc 110, 2), (3, .if_acmp .ne 10, 3), (6, .iload_n 1, 1), (7, .anewarray 2, 3), (10, .goto 14, 3), (24, .astore_n 3, 1), (25, .aload_n 0, 1), (26, .iconst 0, 1), (27, .aload_n 3, 1), (28, .iconst 0, 1), (29, .aload_n 0, 1), (30, .arraylength, 1), (31, .iload_n 1, 1), (32, .invokestatic 304, 3), (35, .invokestatic 150, 3), (38, .aload_n 3, 1), (39, .areturn, 1)] = true := by decide +kernel
abbrev MN_46 : MethodName := ⟨"java/util/Arrays", "copyOf", "([Ljava/lang/Object;ILjava/lang/Class;)[Ljava/lang/Object;"⟩
theorem ef_rmC3_1 (m : MethodId) (a0d : Addr) : entryFrame m #[(.ref a0d), (.int 1), (.ref mO)] 4 = mkF m 0 #[vr a0d, vi (1 : Int32), vr mO, .unset] [] := by first | (simp [entryFrame, mkF, argsToLocals, Value.category]; done) | rfl
def Q_rmC3_1 (n0 : Nat) (Z : State) (cS : Int32) (aDE : Addr) (kDE : ClassId) (aUS : Addr) (aSS : Addr) (aIE : Addr) (mO : Addr) (a0d : Addr) (ka : ClassId) (ob0 : Addr) (h0 : Heap) (v : Option Value) (h : Heap) (L : List Loc) : Prop := ∃ b : Addr, ∃ kb : ClassId, v = some (.ref b) ∧ Fr n0 L ∧ Keep h0 h [] ∧ (h0.size ≤ b) ∧ (Arv Z h b kb (.object "java/lang/Object") (1 : Int32) [(.ref ob0)] .null)
theorem rmC3_1 (l : Launch) (Z : State) (a0 : Array Value) (hw : ∀ d ∈ tables_1, d.before a0 Z = true) (ws : List Jvm.Cond) (cS : Int32) (aDE : Addr) (kDE : ClassId) (aUS : Addr) (aSS : Addr) (aIE : Addr) (mO : Addr) (a0d : Addr) (ka : ClassId) (ob0 : Addr) (h0 : Heap) (n0 : Nat) (O0 : Old Z n0 h0) (GL : GF Z cS aDE kDE aUS aSS aIE mO) (E_a0d : Exa Z h0 a0d "[Ljava/lang/Object;") (V_a0d : Arv Z h0 a0d ka (.object "java/lang/Object") (10 : Int32) [(.ref ob0), .null, .null, .null, .null, .null, .null, .null, .null, .null] .null) (E_ob0 : Exa Z h0 ob0 "com/example/grantline/grantline/PolicyException$Problem") :
    MF l MN_46 jdk_65_method_120_code 4 (some (.array (.object "java/lang/Object"))) ws (Rm 1 1 1 18) #[(.ref a0d), (.int 1), (.ref mO)] Z h0 (Q_rmC3_1 n0 Z cS aDE kDE aUS aSS aIE mO a0d ka ob0 h0) := by
  refine MetFree.of_bodySF (plainFor_of_name pnv4) hisR ?_
  intro p e s m args below meth c s₁ Bd hml0 hP hK
  obtain ⟨rfl, hZ, hh⟩ := hP
  have hx := Bd.exec
  have hby := Bd.bytes
  have hml : c.maxLocals = 4 := hml0
  have hown : s.vm.findClass "java/util/Arrays" = some m.cls := findClass_of_methodNamed Bd.named
  have hnm := (name_of_methodNamed Bd.named Bd.method).1
  have X0 : Stand p l e (Rm 1 1 1 18) s m #[(.ref a0d), (.int 1), (.ref mO)] below meth c s₁ [] 0 0 := Stand.of_body Bd
  have e0 : s₁.heap = h0 := by rw [← hh, Bd.state]; rfl
  have N0 := Fr.nil n0
  have pre0 : ∀ t, SP p e below s₁ m 0 #[vr a0d, vi (1 : Int32), vr mO, .unset] [] t → Steps p.tables e below (s₁.setTop (entryFrame m #[(.ref a0d), (.int 1), (.ref mO)] 4)) t := fun t k => castTop (ef_rmC3_1 m a0d) k
  have GL' := GL
  obtain ⟨GCS, GCP, GDE, GVE, GUS, GSS, GIE, GMO⟩ := GL'
  obtain ⟨T1, X1, e1, st1⟩ := own_ldcM X0 hx hZ hown (Wd hw 349 rfl) e0 GMO (g := mkF m 1 #[vr a0d, vi (1 : Int32), vr mO, .unset] [(.ref mO)]) rfl (dG hby D55 1 rfl)
  obtain ⟨T2, h2, k2, X2, e2, E2, A2, A2', Ov2, st2⟩ := newRE X1 hx hZ hown (Wd hw 350 rfl) (Wd hw 103 rfl) e1 (g := mkF m 7 #[vr a0d, vi (1 : Int32), vr mO, .unset] [(.int 1)]) rfl (dG hby D55 4 rfl) rfl (by decide) (cap := 1) (by decide) (by decide) (by decide) (by decide) (ad := "[Ljava/lang/Object;") rfl
  obtain ⟨b2, g2⟩ : ∃ z, z = h0.size := ⟨_, rfl⟩
  rw [← g2] at A2 A2' st2
  have g_b2 : n0 ≤ b2 := lTr (own_sz O0) (lEq g2.symm)
  have sz_b2 : h0.size ≤ b2 := lTr (Keep.refl h0 []).1 (lEq g2.symm)
  have K2 : Keep h0 h2 [] := (Keep.refl h0 []).ext E2
  have O2 := O0.ext E2
  have V_b2 : Arv Z h2 b2 k2 (.object "java/lang/Object") (1 : Int32) [.null] .null := (Arv.new A2 (by decide)).pad (pad_rep [] .null 1)
  obtain ⟨cl3, Ar3, -, S3, N3_, -, -⟩ := id ((V_a0d.ext E2))
  obtain ⟨_, _, ⟨T4, L4, k4, n4⟩, -, X4, ⟨Lc4, hQ4, l4, y4, z4⟩, st4⟩ := Jvm.LawKit.callS X2 hx (y := MN_7) hown (mvT hZ (Wd hw 259 rfl)) (mvT hZ (Wd hw 260 rfl)) (mvT hZ (Wd hw 100 rfl)) (mvT hZ (Wd hw 261 rfl)) (by decide) (backOf (W := 4) (rmMin l Z a0 hw [] cS aDE kDE aUS aSS aIE mO ((10 : Int32)) ((1 : Int32)) h2 n0 O2 GL (by decide)) hZ (Wd hw 261 rfl) (Wd hw 100 rfl) (by decide) (by decide)) (g := mkF m 32 #[vr a0d, vi (1 : Int32), vr mO, vr b2] [(.int 1), (.int 10), (.int 0), (.ref b2), (.int 0), (.ref a0d)]) rfl (by rw [hml]; rfl) (argsL := [(.int 10), (.int 1)]) (rest := [(.int 0), (.ref b2), (.int 0), (.ref a0d)]) (lenOf pdv12 rfl) rfl (by show 2 * 0 + _ ≤ _; exact lEq rfl) (dG hby D55 14 rfl) (fun _ _ => ⟨rfl, e2, (by decide : 1 + 0 ≤ _), (by decide : 1 + 0 ≤ _)⟩)
  dsimp only [Pt.U, Pt.locs, Pt.cells, Pt.slots] at X4 l4 y4 z4 st4 hQ4
  subst l4 y4 z4
  obtain ⟨rfl, N4q, e4⟩ := hQ4
  have N4 := Fr.app N0 N4q
  obtain ⟨cl5, Ar5, q5, -, -, -, -⟩ := id (V_b2)
  obtain ⟨T5, h5, L5, X5, e5, N5, Kc5, V5, st5⟩ := cpA X4 hx hZ hown (Wd hw 262 rfl) (Wd hw 215 rfl) (Wd hw 213 rfl) (Wd hw 214 rfl) e4 (V_a0d.ext E2) V_b2 (us := [(.ref ob0)]) (Or.inr ⟨rfl, rfl, ⟨(Sto.ofV Ar5 q5 Ov2 (Ins.of_exa (E_ob0.ext E2) (Wd hw 104 rfl))), trivial⟩⟩) (by decide) (by decide) (by decide) (by decide) (by decide) rfl (by decide) N4 g_b2 (g := mkF m 35 #[vr a0d, vi (1 : Int32), vr mO, vr b2] [(.int 1), (.int 0), (.ref b2), (.int 0), (.ref a0d)]) rfl (by rw [hml]; rfl) rfl (dG hby D55 15 rfl) (by decide) (W := 0) (by show 2 * 0 + _ ≤ _; exact lEq rfl) (by decide)
  have V5' : Arv Z h5 b2 k2 (.object "java/lang/Object") (1 : Int32) [(.ref ob0)] .null := V5
  have K5 : Keep h0 h5 [] := K2.trans Kc5 (allS (Or.inr sz_b2) all0)
  have O5 := O2.keep Kc5 (allS g_b2 all0)
  obtain ⟨fs, hr, hrun, hended, hW, hsame⟩ := X5.leave (v := some (.ref b2)) (fun h => by rw [Bd.returns] at h; cases h)
  refine ⟨_, _, pre0 _ ?_, hrun, hended, _, _, rfl, ?_, ⟨_, rfl⟩, hW, hsame.mono (by decide) (by decide)⟩
  · show SP p e below s₁ m 0 #[vr a0d, vi (1 : Int32), vr mO, .unset] [] _
    refine XS.aloadN X0.here hx rfl (dG hby D55 0 rfl) rfl rfl ?_
    show SP p e below s₁ m 1 #[vr a0d, vi (1 : Int32), vr mO, .unset] [(.ref mO)] _
    refine st1 _ ?_
    show SP p e below T1 m 3 #[vr a0d, vi (1 : Int32), vr mO, .unset] [(.ref mO), (.ref mO)] _
    refine Jvm.RoadKit.acmp (g := mkF m 3 #[vr a0d, vi (1 : Int32), vr mO, .unset] [(.ref mO), (.ref mO)]) X1 hx rfl rfl rfl (pc0 := 3) (pc' := 6) (same := true) rfl (dG hby D55 2 rfl) rfl (decide_eq_true rfl) (by decide) (by decide) ?_
    show SP p e below T1 m 6 #[vr a0d, vi (1 : Int32), vr mO, .unset] [] _
    refine XS.iloadN X1.here hx rfl (dG hby D55 3 rfl) rfl ?_
    show SP p e below T1 m 7 #[vr a0d, vi (1 : Int32), vr mO, .unset] [(.int 1)] _
    refine st2 _ ?_
    show SP p e below T2 m 10 #[vr a0d, vi (1 : Int32), vr mO, .unset] [(.ref b2)] _
    refine XS.goto X2.here hx rfl (pc0 := 10) (pc' := 24) rfl (dG hby D55 5 rfl) (by decide) (by decide) ?_
    refine XS.astoreN X2.here hx rfl (dG hby D55 6 rfl) rfl rfl (l' := #[vr a0d, vi (1 : Int32), vr mO, vr b2]) rfl ?_
    refine XS.aloadN X2.here hx rfl (dG hby D55 7 rfl) rfl rfl ?_
    refine XS.iconst X2.here hx rfl (dG hby D55 8 rfl) ?_
    refine XS.aloadN X2.here hx rfl (dG hby D55 9 rfl) rfl rfl ?_
    refine XS.iconst X2.here hx rfl (dG hby D55 10 rfl) ?_
    refine XS.aloadN X2.here hx rfl (dG hby D55 11 rfl) rfl rfl ?_
    show SP p e below T2 m 30 #[vr a0d, vi (1 : Int32), vr mO, vr b2] [(.ref a0d), (.int 0), (.ref b2), (.int 0), (.ref a0d)] _
    refine X2.arraylength hx (by rw [e2]; exact Ar3.1) (State.isArrayOf_alike hZ.alike Ar3.2.1) (g := mkF m 30 #[vr a0d, vi (1 : Int32), vr mO, vr b2] [(.ref a0d), (.int 0), (.ref b2), (.int 0), (.ref a0d)]) rfl rfl (dG hby D55 12 rfl) _ ?_
    rw [len_of S3 N3_]
    show SP p e below T2 m 31 #[vr a0d, vi (1 : Int32), vr mO, vr b2] [(.int 10), (.int 0), (.ref b2), (.int 0), (.ref a0d)] _
    refine XS.iloadN X2.here hx rfl (dG hby D55 13 rfl) rfl ?_
    show SP p e below T2 m 32 #[vr a0d, vi (1 : Int32), vr mO, vr b2] [(.int 1), (.int 10), (.int 0), (.ref b2), (.int 0), (.ref a0d)] _
    refine st4 _ ?_
    show SP p e below T4 m 35 #[vr a0d, vi (1 : Int32), vr mO, vr b2] [(.int 1), (.int 0), (.ref b2), (.int 0), (.ref a0d)] _
    refine st5 _ ?_
    show SP p e below T5 m 38 #[vr a0d, vi (1 : Int32), vr mO, vr b2] [] _
    refine XS.aloadN X5.here hx rfl (dG hby D55 16 rfl) rfl rfl ?_
    show SP p e below T5 m 39 #[vr a0d, vi (1 : Int32), vr mO, vr b2] [(.ref b2)] _
    exact retA X5 hx Bd.returns rfl (dG hby D55 17 rfl) hr
  · show Q_rmC3_1 n0 Z cS aDE kDE aUS aSS aIE mO a0d ka ob0 h0 _ T5.heap _
    rw [e5]
    exact ⟨b2, k2, rfl, N5, K5, sz_b2, V5'⟩
theorem D54 : dL jdk_65_method_119_code [(0, .aload_n 0, 1), (1, .iload_n 1, 1), (2, .aload_n 0, 1), (3, .invokevirtual 86, 3), (6, .invokestatic 300, 3), (9, .areturn, 1)] = true := by decide +kernel
theorem pdv26 : parseMethodDescriptor "([Ljava/lang/Object;ILjava/lang/Class;)[Ljava/lang/Object;" = some ⟨[(.array (.object "java/lang/Object")), .int, (.object "java/lang/Class")], some (.array (.object "java/lang/Object"))⟩ := by decide +kernel
abbrev MN_47 : MethodName := ⟨"java/util/Arrays", "copyOf", "([Ljava/lang/Object;I)[Ljava/lang/Object;"⟩
theorem ef_rmC2o_1 (m : MethodId) (a0d : Addr) : entryFrame m #[(.ref a0d), (.int 1)] 2 = mkF m 0 #[vr a0d, vi (1 : Int32)] [] := by first | (simp [entryFrame, mkF, argsToLocals, Value.category]; done) | rfl
def Q_rmC2o_1 (n0 : Nat) (Z : State) (cS : Int32) (aDE : Addr) (kDE : ClassId) (aUS : Addr) (aSS : Addr) (aIE : Addr) (mO : Addr) (a0d : Addr) (ka : ClassId) (ob0 : Addr) (h0 : Heap) (v : Option Value) (h : Heap) (L : List Loc) : Prop := ∃ b : Addr, ∃ kb : ClassId, v = some (.ref b) ∧ Fr n0 L ∧ Keep h0 h [] ∧ (h0.size ≤ b) ∧ (Arv Z h b kb (.object "java/lang/Object") (1 : Int32) [(.ref ob0)] .null)
theorem rmC2o_1 (l : Launch) (Z : State) (a0 : Array Value) (hw : ∀ d ∈ tables_1, d.before a0 Z = true) (ws : List Jvm.Cond) (cS : Int32) (aDE : Addr) (kDE : ClassId) (aUS : Addr) (aSS : Addr) (aIE : Addr) (mO : Addr) (a0d : Addr) (ka : ClassId) (ob0 : Addr) (h0 : Heap) (n0 : Nat) (O0 : Old Z n0 h0) (GL : GF Z cS aDE kDE aUS aSS aIE mO) (E_a0d : Exa Z h0 a0d "[Ljava/lang/Object;") (V_a0d : Arv Z h0 a0d ka (.object "java/lang/Object") (10 : Int32) [(.ref ob0), .null, .null, .null, .null, .null, .null, .null, .null, .null] .null) (E_ob0 : Exa Z h0 ob0 "com/example/grantline/grantline/PolicyException$Problem") :
    MF l MN_47 jdk_65_method_119_code 2 (some (.array (.object "java/lang/Object"))) ws (Rm 2 1 1 33) #[(.ref a0d), (.int 1)] Z h0 (Q_rmC2o_1 n0 Z cS aDE kDE aUS aSS aIE mO a0d ka ob0 h0) := by
  refine MetFree.of_bodySF (plainFor_of_name pnv4) hisR ?_
  intro p e s m args below meth c s₁ Bd hml0 hP hK
  obtain ⟨rfl, hZ, hh⟩ := hP
  have hx := Bd.exec
  have hby := Bd.bytes
  have hml : c.maxLocals = 2 := hml0
  have hown : s.vm.findClass "java/util/Arrays" = some m.cls := findClass_of_methodNamed Bd.named
  have hnm := (name_of_methodNamed Bd.named Bd.method).1
  have X0 : Stand p l e (Rm 2 1 1 33) s m #[(.ref a0d), (.int 1)] below meth c s₁ [] 0 0 := Stand.of_body Bd
  have e0 : s₁.heap = h0 := by rw [← hh, Bd.state]; rfl
  have N0 := Fr.nil n0
  have pre0 : ∀ t, SP p e below s₁ m 0 #[vr a0d, vi (1 : Int32)] [] t → Steps p.tables e below (s₁.setTop (entryFrame m #[(.ref a0d), (.int 1)] 2)) t := fun t k => castTop (ef_rmC2o_1 m a0d) k
  have GL' := GL
  obtain ⟨GCS, GCP, GDE, GVE, GUS, GSS, GIE, GMO⟩ := GL'
  obtain ⟨T1, X1, e1, st1⟩ := gcls X0 hx hZ hown (Wd hw 340 rfl) (Wd hw 341 rfl) (Wd hw 322 rfl) (Wd hw 343 rfl) (Wd hw 342 rfl) (Wd hw 344 rfl) e0 E_a0d GMO (g := mkF m 3 #[vr a0d, vi (1 : Int32)] [(.ref a0d), (.int 1), (.ref a0d)]) rfl (by rw [hml]; rfl) rfl (dG hby D54 3 rfl) (by decide) (W := 2) (by show 2 * 0 + _ ≤ _; exact lEq rfl) (by decide)
  obtain ⟨_, _, ⟨T2, L2, k2, n2⟩, -, X2, ⟨Lc2, hQ2, l2, y2, z2⟩, st2⟩ := Jvm.LawKit.callS X1 hx (y := MN_46) hown (mvT hZ (Wd hw 346 rfl)) (mvT hZ (Wd hw 347 rfl)) (mvT hZ (Wd hw 251 rfl)) (mvT hZ (Wd hw 348 rfl)) (by decide) (backOf (W := 0) (rmC3_1 l Z a0 hw [] cS aDE kDE aUS aSS aIE mO a0d ka ob0 h0 n0 O0 GL E_a0d V_a0d E_ob0) hZ (Wd hw 348 rfl) (Wd hw 251 rfl) (by decide) (by decide)) (g := mkF m 6 #[vr a0d, vi (1 : Int32)] [(.ref mO), (.int 1), (.ref a0d)]) rfl (by rw [hml]; rfl) (argsL := [(.ref a0d), (.int 1), (.ref mO)]) (rest := []) (lenOf pdv26 rfl) rfl (by show 2 * 0 + _ ≤ _; exact lEq rfl) (dG hby D54 4 rfl) (fun _ _ => ⟨rfl, e1, (by decide : 0 + 1 ≤ _), (by decide : 0 + 1 ≤ _)⟩)
  dsimp only [Pt.U, Pt.locs, Pt.cells, Pt.slots] at X2 l2 y2 z2 st2 hQ2
  subst l2 y2 z2
  obtain ⟨b_2, kb_2, rfl, N2q, Kc2, P2_0, P2_1⟩ := hQ2
  have K2 : Keep h0 T2.heap [] := (Keep.refl h0 []).trans Kc2 all0
  have O2 := O0.keep Kc2 all0
  have g_b_2 : n0 ≤ b_2 := lTr (own_sz O0) P2_0
  have sz_b_2 : h0.size ≤ b_2 := lTr (Keep.refl h0 []).1 P2_0
  have N2 := Fr.app N0 N2q
  obtain ⟨fs, hr, hrun, hended, hW, hsame⟩ := X2.leave (v := some (.ref b_2)) (fun h => by rw [Bd.returns] at h; cases h)
  refine ⟨_, _, pre0 _ ?_, hrun, hended, _, _, rfl, ?_, ⟨_, rfl⟩, hW, hsame.mono (by decide) (by decide)⟩
  · show SP p e below s₁ m 0 #[vr a0d, vi (1 : Int32)] [] _
    refine XS.aloadN X0.here hx rfl (dG hby D54 0 rfl) rfl rfl ?_
    refine XS.iloadN X0.here hx rfl (dG hby D54 1 rfl) rfl ?_
    refine XS.aloadN X0.here hx rfl (dG hby D54 2 rfl) rfl rfl ?_
    show SP p e below s₁ m 3 #[vr a0d, vi (1 : Int32)] [(.ref a0d), (.int 1), (.ref a0d)] _
    refine st1 _ ?_
    show SP p e below T1 m 6 #[vr a0d, vi (1 : Int32)] [(.ref mO), (.int 1), (.ref a0d)] _
    refine st2 _ ?_
    show SP p e below T2 m 9 #[vr a0d, vi (1 : Int32)] [(.ref b_2)] _
    exact retA X2 hx Bd.returns rfl (dG hby D54 5 rfl) hr
  · show Q_rmC2o_1 n0 Z cS aDE kDE aUS aSS aIE mO a0d ka ob0 h0 _ T2.heap _
    exact ⟨b_2, kb_2, rfl, N2, K2, sz_b_2, P2_1⟩
theorem D53 : dL jdk_38_method_16_code [(0, .aload_n 0, 1), (1, .getfield 9, 3), (4, .aload_n 0, 1), (5, .getfield 48, 3), (8, .invokestatic 66, 3), (11, .areturn, 1)] = true := by decide +kernel
theorem pdv27 : parseMethodDescriptor "([Ljava/lang/Object;I)[Ljava/lang/Object;" = some ⟨[(.array (.object "java/lang/Object")), .int], some (.array (.object "java/lang/Object"))⟩ := by decide +kernel
abbrev MN_48 : MethodName := ⟨"java/util/ArrayList", "toArray", "()[Ljava/lang/Object;"⟩
def Q_rmTa_1 (n0 : Nat) (Z : State) (cS : Int32) (aDE : Addr) (kDE : ClassId) (aUS : Addr) (aSS : Addr) (aIE : Addr) (mO : Addr) (a0l : Addr) (ae : Addr) (ka : ClassId) (ob0 : Addr) (h0 : Heap) (v : Option Value) (h : Heap) (L : List Loc) : Prop := ∃ b : Addr, ∃ kb : ClassId, v = some (.ref b) ∧ Fr n0 L ∧ Keep h0 h [] ∧ (h0.size ≤ b) ∧ (Arv Z h b kb (.object "java/lang/Object") (1 : Int32) [(.ref ob0)] .null)
theorem rmTa_1 (l : Launch) (Z : State) (a0 : Array Value) (hw : ∀ d ∈ tables_1, d.before a0 Z = true) (ws : List Jvm.Cond) (cS : Int32) (aDE : Addr) (kDE : ClassId) (aUS : Addr) (aSS : Addr) (aIE : Addr) (mO : Addr) (a0l : Addr) (ae : Addr) (ka : ClassId) (ob0 : Addr) (h0 : Heap) (n0 : Nat) (O0 : Old Z n0 h0) (GL : GF Z cS aDE kDE aUS aSS aIE mO) (E_a0l : Exa Z h0 a0l "java/util/ArrayList") (F_elementData_a0l : Fld Z h0 a0l "java/util/ArrayList" "elementData" "[Ljava/lang/Object;" (.ref ae)) (F_size_a0l : Fld Z h0 a0l "java/util/ArrayList" "size" "I" (.int 1)) (E_ae : Exa Z h0 ae "[Ljava/lang/Object;") (V_ae : Arv Z h0 ae ka (.object "java/lang/Object") (10 : Int32) [(.ref ob0), .null, .null, .null, .null, .null, .null, .null, .null, .null] .null) (E_ob0 : Exa Z h0 ob0 "com/example/grantline/grantline/PolicyException$Problem") :
    MF l MN_48 jdk_38_method_16_code 1 (some (.array (.object "java/lang/Object"))) ws (Rm 3 1 1 46) #[(.ref a0l)] Z h0 (Q_rmTa_1 n0 Z cS aDE kDE aUS aSS aIE mO a0l ae ka ob0 h0) := by
  refine MetFree.of_bodySF (plainFor_of_name pnv9) hisR ?_
  intro p e s m args below meth c s₁ Bd hml0 hP hK
  obtain ⟨rfl, hZ, hh⟩ := hP
  have hx := Bd.exec
  have hby := Bd.bytes
  have hml : c.maxLocals = 1 := hml0
  have hown : s.vm.findClass "java/util/ArrayList" = some m.cls := findClass_of_methodNamed Bd.named
  have hnm := (name_of_methodNamed Bd.named Bd.method).1
  have X0 : Stand p l e (Rm 3 1 1 46) s m #[(.ref a0l)] below meth c s₁ [] 0 0 := Stand.of_body Bd
  have e0 : s₁.heap = h0 := by rw [← hh, Bd.state]; rfl
  have N0 := Fr.nil n0
  have pre0 : ∀ t, SP p e below s₁ m 0 #[vr a0l] [] t → Steps p.tables e below (s₁.setTop (entryFrame m #[(.ref a0l)] 1)) t := fun t k => castTop (ef_rmAbc m a0l) k
  have GL' := GL
  obtain ⟨GCS, GCP, GDE, GVE, GUS, GSS, GIE, GMO⟩ := GL'
  obtain ⟨T1, X1, e1, st1⟩ := getF X0 hx hZ hown (host := "") (Or.inl (Wd hw 56 rfl)) Via.refl e0 F_elementData_a0l (g := mkF m 1 #[vr a0l] [(.ref a0l)]) rfl rfl (dG hby D53 1 rfl)
  obtain ⟨T2, X2, e2, st2⟩ := getF X1 hx hZ hown (host := "") (Or.inl (Wd hw 81 rfl)) Via.refl e1 F_size_a0l (g := mkF m 5 #[vr a0l] [(.ref a0l), (.ref ae)]) rfl rfl (dG hby D53 3 rfl)
  obtain ⟨_, _, ⟨T3, L3, k3, n3⟩, -, X3, ⟨Lc3, hQ3, l3, y3, z3⟩, st3⟩ := Jvm.LawKit.callS X2 hx (y := MN_47) hown (mvT hZ (Wd hw 337 rfl)) (mvT hZ (Wd hw 338 rfl)) (mvT hZ (Wd hw 251 rfl)) (mvT hZ (Wd hw 339 rfl)) (by decide) (backOf (W := 0) (rmC2o_1 l Z a0 hw [] cS aDE kDE aUS aSS aIE mO ae ka ob0 h0 n0 O0 GL E_ae V_ae E_ob0) hZ (Wd hw 339 rfl) (Wd hw 251 rfl) (by decide) (by decide)) (g := mkF m 8 #[vr a0l] [(.int 1), (.ref ae)]) rfl (by rw [hml]; rfl) (argsL := [(.ref ae), (.int 1)]) (rest := []) (lenOf pdv27 rfl) rfl (by show 2 * 0 + _ ≤ _; exact lEq rfl) (dG hby D53 4 rfl) (fun _ _ => ⟨rfl, e2, (by decide : 0 + 1 ≤ _), (by decide : 0 + 1 ≤ _)⟩)
  dsimp only [Pt.U, Pt.locs, Pt.cells, Pt.slots] at X3 l3 y3 z3 st3 hQ3
  subst l3 y3 z3
  obtain ⟨b_3, kb_3, rfl, N3q, Kc3, P3_0, P3_1⟩ := hQ3
  have K3 : Keep h0 T3.heap [] := (Keep.refl h0 []).trans Kc3 all0
  have O3 := O0.keep Kc3 all0
  have g_b_3 : n0 ≤ b_3 := lTr (own_sz O0) P3_0
  have sz_b_3 : h0.size ≤ b_3 := lTr (Keep.refl h0 []).1 P3_0
  have N3 := Fr.app N0 N3q
  obtain ⟨fs, hr, hrun, hended, hW, hsame⟩ := X3.leave (v := some (.ref b_3)) (fun h => by rw [Bd.returns] at h; cases h)
  refine ⟨_, _, pre0 _ ?_, hrun, hended, _, _, rfl, ?_, ⟨_, rfl⟩, hW, hsame.mono (by decide) (by decide)⟩
  · show SP p e below s₁ m 0 #[vr a0l] [] _
    refine XS.aloadN X0.here hx rfl (dG hby D53 0 rfl) rfl rfl ?_
    show SP p e below s₁ m 1 #[vr a0l] [(.ref a0l)] _
    refine st1 _ ?_
    show SP p e below T1 m 4 #[vr a0l] [(.ref ae)] _
    refine XS.aloadN X1.here hx rfl (dG hby D53 2 rfl) rfl rfl ?_
    show SP p e below T1 m 5 #[vr a0l] [(.ref a0l), (.ref ae)] _
    refine st2 _ ?_
    show SP p e below T2 m 8 #[vr a0l] [(.int 1), (.ref ae)] _
    refine st3 _ ?_
    show SP p e below T3 m 11 #[vr a0l] [(.ref b_3)] _
    exact retA X3 hx Bd.returns rfl (dG hby D53 5 rfl) hr
  · show Q_rmTa_1 n0 Z cS aDE kDE aUS aSS aIE mO a0l ae ka ob0 h0 _ T3.heap _
    exact ⟨b_3, kb_3, rfl, N3, K3, sz_b_3, P3_1⟩
theorem ef_rmC3_2 (m : MethodId) (a0d : Addr) : entryFrame m #[(.ref a0d), (.int 2), (.ref mO)] 4 = mkF m 0 #[vr a0d, vi (2 : Int32), vr mO, .unset] [] := by first | (simp [entryFrame, mkF, argsToLocals, Value.category]; done) | rfl
def Q_rmC3_2 (n0 : Nat) (Z : State) (cS : Int32) (aDE : Addr) (kDE : ClassId) (aUS : Addr) (aSS : Addr) (aIE : Addr) (mO : Addr) (a0d : Addr) (ka : ClassId) (ob0 : Addr) (ob1 : Addr) (h0 : Heap) (v : Option Value) (h : Heap) (L : List Loc) : Prop := ∃ b : Addr, ∃ kb : ClassId, v = some (.ref b) ∧ Fr n0 L ∧ Keep h0 h [] ∧ (h0.size ≤ b) ∧ (Arv Z h b kb (.object "java/lang/Object") (2 : Int32) [(.ref ob0), (.ref ob1)] .null)
theorem rmC3_2 (l : Launch) (Z : State) (a0 : Array Value) (hw : ∀ d ∈ tables_1, d.before a0 Z = true) (ws : List Jvm.Cond) (cS : Int32) (aDE : Addr) (kDE : ClassId) (aUS : Addr) (aSS : Addr) (aIE : Addr) (mO : Addr) (a0d : Addr) (ka : ClassId) (ob0 : Addr) (ob1 : Addr) (h0 : Heap) (n0 : Nat) (O0 : Old Z n0 h0) (GL : GF Z cS aDE kDE aUS aSS aIE mO) (E_a0d : Exa Z h0 a0d "[Ljava/lang/Object;") (V_a0d : Arv Z h0 a0d ka (.object "java/lang/Object") (10 : Int32) [(.ref ob0), (.ref ob1), .null, .null, .null, .null, .null, .null, .null, .null] .null) (E_ob0 : Exa Z h0 ob0 "com/example/grantline/grantline/PolicyException$Problem") (E_ob1 : Exa Z h0 ob1 "com/example/grantline/grantline/PolicyException$Problem") :
    MF l MN_46 jdk_65_method_120_code 4 (some (.array (.object "java/lang/Object"))) ws (Rm 1 1 2 18) #[(.ref a0d), (.int 2), (.ref mO)] Z h0 (Q_rmC3_2 n0 Z cS aDE kDE aUS aSS aIE mO a0d ka ob0 ob1 h0) := by
  refine MetFree.of_bodySF (plainFor_of_name pnv4) hisR ?_
  intro p e s m args below meth c s₁ Bd hml0 hP hK
  obtain ⟨rfl, hZ, hh⟩ := hP
  have hx := Bd.exec
  have hby := Bd.bytes
  have hml : c.maxLocals = 4 := hml0
  have hown : s.vm.findClass "java/util/Arrays" = some m.cls := findClass_of_methodNamed Bd.named
  have hnm := (name_of_methodNamed Bd.named Bd.method).1
  have X0 : Stand p l e (Rm 1 1 2 18) s m #[(.ref a0d), (.int 2), (.ref mO)] below meth c s₁ [] 0 0 := Stand.of_body Bd
  have e0 : s₁.heap = h0 := by rw [← hh, Bd.state]; rfl
  have N0 := Fr.nil n0
  have pre0 : ∀ t, SP p e below s₁ m 0 #[vr a0d, vi (2 : Int32), vr mO, .unset] [] t → Steps p.tables e below (s₁.setTop (entryFrame m #[(.ref a0d), (.int 2), (.ref mO)] 4)) t := fun t k => castTop (ef_rmC3_2 m a0d) k
  have GL' := GL
  obtain ⟨GCS, GCP, GDE, GVE, GUS, GSS, GIE, GMO⟩ := GL'
  obtain ⟨T1, X1, e1, st1⟩ := own_ldcM X0 hx hZ hown (Wd hw 349 rfl) e0 GMO (g := mkF m 1 #[vr a0d, vi (2 : Int32), vr mO, .unset] [(.ref mO)]) rfl (dG hby D55 1 rfl)
  obtain ⟨T2, h2, k2, X2, e2, E2, A2, A2', Ov2, st2⟩ := newRE X1 hx hZ hown (Wd hw 350 rfl) (Wd hw 103 rfl) e1 (g := mkF m 7 #[vr a0d, vi (2 : Int32), vr mO, .unset] [(.int 2)]) rfl (dG hby D55 4 rfl) rfl (by decide) (cap := 2) (by decide) (by decide) (by decide) (by decide) (ad := "[Ljava/lang/Object;") rfl
  obtain ⟨b2, g2⟩ : ∃ z, z = h0.size := ⟨_, rfl⟩
  rw [← g2] at A2 A2' st2
  have g_b2 : n0 ≤ b2 := lTr (own_sz O0) (lEq g2.symm)
  have sz_b2 : h0.size ≤ b2 := lTr (Keep.refl h0 []).1 (lEq g2.symm)
  have K2 : Keep h0 h2 [] := (Keep.refl h0 []).ext E2
  have O2 := O0.ext E2
  have V_b2 : Arv Z h2 b2 k2 (.object "java/lang/Object") (2 : Int32) [.null, .null] .null := (Arv.new A2 (by decide)).pad (pad_rep [] .null 2)
  obtain ⟨cl3, Ar3, -, S3, N3_, -, -⟩ := id ((V_a0d.ext E2))
  obtain ⟨_, _, ⟨T4, L4, k4, n4⟩, -, X4, ⟨Lc4, hQ4, l4, y4, z4⟩, st4⟩ := Jvm.LawKit.callS X2 hx (y := MN_7) hown (mvT hZ (Wd hw 259 rfl)) (mvT hZ (Wd hw 260 rfl)) (mvT hZ (Wd hw 100 rfl)) (mvT hZ (Wd hw 261 rfl)) (by decide) (backOf (W := 4) (rmMin l Z a0 hw [] cS aDE kDE aUS aSS aIE mO ((10 : Int32)) ((2 : Int32)) h2 n0 O2 GL (by decide)) hZ (Wd hw 261 rfl) (Wd hw 100 rfl) (by decide) (by decide)) (g := mkF m 32 #[vr a0d, vi (2 : Int32), vr mO, vr b2] [(.int 2), (.int 10), (.int 0), (.ref b2), (.int 0), (.ref a0d)]) rfl (by rw [hml]; rfl) (argsL := [(.int 10), (.int 2)]) (rest := [(.int 0), (.ref b2), (.int 0), (.ref a0d)]) (lenOf pdv12 rfl) rfl (by show 2 * 0 + _ ≤ _; exact lEq rfl) (dG hby D55 14 rfl) (fun _ _ => ⟨rfl, e2, (by decide : 1 + 0 ≤ _), (by decide : 2 + 0 ≤ _)⟩)
  dsimp only [Pt.U, Pt.locs, Pt.cells, Pt.slots] at X4 l4 y4 z4 st4 hQ4
  subst l4 y4 z4
  obtain ⟨rfl, N4q, e4⟩ := hQ4
  have N4 := Fr.app N0 N4q
  obtain ⟨cl5, Ar5, q5, -, -, -, -⟩ := id (V_b2)
  obtain ⟨T5, h5, L5, X5, e5, N5, Kc5, V5, st5⟩ := cpA X4 hx hZ hown (Wd hw 262 rfl) (Wd hw 215 rfl) (Wd hw 213 rfl) (Wd hw 214 rfl) e4 (V_a0d.ext E2) V_b2 (us := [(.ref ob0), (.ref ob1)]) (Or.inr ⟨rfl, rfl, ⟨(Sto.ofV Ar5 q5 Ov2 (Ins.of_exa (E_ob0.ext E2) (Wd hw 104 rfl))), ⟨(Sto.ofV Ar5 q5 Ov2 (Ins.of_exa (E_ob1.ext E2) (Wd hw 104 rfl))), trivial⟩⟩⟩) (by decide) (by decide) (by decide) (by decide) (by decide) rfl (by decide) N4 g_b2 (g := mkF m 35 #[vr a0d, vi (2 : Int32), vr mO, vr b2] [(.int 2), (.int 0), (.ref b2), (.int 0), (.ref a0d)]) rfl (by rw [hml]; rfl) rfl (dG hby D55 15 rfl) (by decide) (W := 0) (by show 2 * 0 + _ ≤ _; exact lEq rfl) (by decide)
  have V5' : Arv Z h5 b2 k2 (.object "java/lang/Object") (2 : Int32) [(.ref ob0), (.ref ob1)] .null := V5
  have K5 : Keep h0 h5 [] := K2.trans Kc5 (allS (Or.inr sz_b2) all0)
  have O5 := O2.keep Kc5 (allS g_b2 all0)
  obtain ⟨fs, hr, hrun, hended, hW, hsame⟩ := X5.leave (v := some (.ref b2)) (fun h => by rw [Bd.returns] at h; cases h)
  refine ⟨_, _, pre0 _ ?_, hrun, hended, _, _, rfl, ?_, ⟨_, rfl⟩, hW, hsame.mono (by decide) (by decide)⟩
  · show SP p e below s₁ m 0 #[vr a0d, vi (2 : Int32), vr mO, .unset] [] _
    refine XS.aloadN X0.here hx rfl (dG hby D55 0 rfl) rfl rfl ?_
    show SP p e below s₁ m 1 #[vr a0d, vi (2 : Int32), vr mO, .unset] [(.ref mO)] _
    refine st1 _ ?_
    show SP p e below T1 m 3 #[vr a0d, vi (2 : Int32), vr mO, .unset] [(.ref mO), (.ref mO)] _
    refine Jvm.RoadKit.acmp (g := mkF m 3 #[vr a0d, vi (2 : Int32), vr mO, .unset] [(.ref mO), (.ref mO)]) X1 hx rfl rfl rfl (pc0 := 3) (pc' := 6) (same := true) rfl (dG hby D55 2 rfl) rfl (decide_eq_true rfl) (by decide) (by decide) ?_
    show SP p e below T1 m 6 #[vr a0d, vi (2 : Int32), vr mO, .unset] [] _
    refine XS.iloadN X1.here hx rfl (dG hby D55 3 rfl) rfl ?_
    show SP p e below T1 m 7 #[vr a0d, vi (2 : Int32), vr mO, .unset] [(.int 2)] _
    refine st2 _ ?_
    show SP p e below T2 m 10 #[vr a0d, vi (2 : Int32), vr mO, .unset] [(.ref b2)] _
    refine XS.goto X2.here hx rfl (pc0 := 10) (pc' := 24) rfl (dG hby D55 5 rfl) (by decide) (by decide) ?_
    refine XS.astoreN X2.here hx rfl (dG hby D55 6 rfl) rfl rfl (l' := #[vr a0d, vi (2 : Int32), vr mO, vr b2]) rfl ?_
    refine XS.aloadN X2.here hx rfl (dG hby D55 7 rfl) rfl rfl ?_
    refine XS.iconst X2.here hx rfl (dG hby D55 8 rfl) ?_
    refine XS.aloadN X2.here hx rfl (dG hby D55 9 rfl) rfl rfl ?_
    refine XS.iconst X2.here hx rfl (dG hby D55 10 rfl) ?_
    refine XS.aloadN X2.here hx rfl (dG hby D55 11 rfl) rfl rfl ?_
    show SP p e below T2 m 30 #[vr a0d, vi (2 : Int32), vr mO, vr b2] [(.ref a0d), (.int 0), (.ref b2), (.int 0), (.ref a0d)] _
    refine X2.arraylength hx (by rw [e2]; exact Ar3.1) (State.isArrayOf_alike hZ.alike Ar3.2.1) (g := mkF m 30 #[vr a0d, vi (2 : Int32), vr mO, vr b2] [(.ref a0d), (.int 0), (.ref b2), (.int 0), (.ref a0d)]) rfl rfl (dG hby D55 12 rfl) _ ?_
    rw [len_of S3 N3_]
    show SP p e below T2 m 31 #[vr a0d, vi (2 : Int32), vr mO, vr b2] [(.int 10), (.int 0), (.ref b2), (.int 0), (.ref a0d)] _
    refine XS.iloadN X2.here hx rfl (dG hby D55 13 rfl) rfl ?_
    show SP p e below T2 m 32 #[vr a0d, vi (2 : Int32), vr mO, vr b2] [(.int 2), (.int 10), (.int 0), (.ref b2), (.int 0), (.ref a0d)] _
    refine st4 _ ?_
    show SP p e below T4 m 35 #[vr a0d, vi (2 : Int32), vr mO, vr b2] [(.int 2), (.int 0), (.ref b2), (.int 0), (.ref a0d)] _
    refine st5 _ ?_
    show SP p e below T5 m 38 #[vr a0d, vi (2 : Int32), vr mO, vr b2] [] _
    refine XS.aloadN X5.here hx rfl (dG hby D55 16 rfl) rfl rfl ?_
    show SP p e below T5 m 39 #[vr a0d, vi (2 : Int32), vr mO, vr b2] [(.ref b2)] _
    exact retA X5 hx Bd.returns rfl (dG hby D55 17 rfl) hr
  · show Q_rmC3_2 n0 Z cS aDE kDE aUS aSS aIE mO a0d ka ob0 ob1 h0 _ T5.heap _
    rw [e5]
    exact ⟨b2, k2, rfl, N5, K5, sz_b2, V5'⟩
theorem ef_rmC2o_2 (m : MethodId) (a0d : Addr) : entryFrame m #[(.ref a0d), (.int 2)] 2 = mkF m 0 #[vr a0d, vi (2 : Int32)] [] := by first | (simp [entryFrame, mkF, argsToLocals, Value.category]; done) | rfl
def Q_rmC2o_2 (n0 : Nat) (Z : State) (cS : Int32) (aDE : Addr) (kDE : ClassId) (aUS : Addr) (aSS : Addr) (aIE : Addr) (mO : Addr) (a0d : Addr) (ka : ClassId) (ob0 : Addr) (ob1 : Addr) (h0 : Heap) (v : Option Value) (h : Heap) (L : List Loc) : Prop := ∃ b : Addr, ∃ kb : ClassId, v = some (.ref b) ∧ Fr n0 L ∧ Keep h0 h [] ∧ (h0.size ≤ b) ∧ (Arv Z h b kb (.object "java/lang/Object") (2 : Int32) [(.ref ob0), (.ref ob1)] .null)
theorem rmC2o_2 (l : Launch) (Z : State) (a0 : Array Value) (hw : ∀ d ∈ tables_1, d.before a0 Z = true) (ws : List Jvm.Cond) (cS : Int32) (aDE : Addr) (kDE : ClassId) (aUS : Addr) (aSS : Addr) (aIE : Addr) (mO : Addr) (a0d : Addr) (ka : ClassId) (ob0 : Addr) (ob1 : Addr) (h0 : Heap) (n0 : Nat) (O0 : Old Z n0 h0) (GL : GF Z cS aDE kDE aUS aSS aIE mO) (E_a0d : Exa Z h0 a0d "[Ljava/lang/Object;") (V_a0d : Arv Z h0 a0d ka (.object "java/lang/Object") (10 : Int32) [(.ref ob0), (.ref ob1), .null, .null, .null, .null, .null, .null, .null, .null] .null) (E_ob0 : Exa Z h0 ob0 "com/example/grantline/grantline/PolicyException$Problem") (E_ob1 : Exa Z h0 ob1 "com/example/grantline/grantline/PolicyException$Problem") :
    MF l MN_47 jdk_65_method_119_code 2 (some (.array (.object "java/lang/Object"))) ws (Rm 2 1 2 33) #[(.ref a0d), (.int 2)] Z h0 (Q_rmC2o_2 n0 Z cS aDE kDE aUS aSS aIE mO a0d ka ob0 ob1 h0) := by
  refine MetFree.of_bodySF (plainFor_of_name pnv4) hisR ?_
  intro p e s m args below meth c s₁ Bd hml0 hP hK
  obtain ⟨rfl, hZ, hh⟩ := hP
  have hx := Bd.exec
  have hby := Bd.bytes
  have hml : c.maxLocals = 2 := hml0
  have hown : s.vm.findClass "java/util/Arrays" = some m.cls := findClass_of_methodNamed Bd.named
  have hnm := (name_of_methodNamed Bd.named Bd.method).1
  have X0 : Stand p l e (Rm 2 1 2 33) s m #[(.ref a0d), (.int 2)] below meth c s₁ [] 0 0 := Stand.of_body Bd
  have e0 : s₁.heap = h0 := by rw [← hh, Bd.state]; rfl
  have N0 := Fr.nil n0
  have pre0 : ∀ t, SP p e below s₁ m 0 #[vr a0d, vi (2 : Int32)] [] t → Steps p.tables e below (s₁.setTop (entryFrame m #[(.ref a0d), (.int 2)] 2)) t := fun t k => castTop (ef_rmC2o_2 m a0d) k
  have GL' := GL
  obtain ⟨GCS, GCP, GDE, GVE, GUS, GSS, GIE, GMO⟩ := GL'
  obtain ⟨T1, X1, e1, st1⟩ := gcls X0 hx hZ hown (Wd hw 340 rfl) (Wd hw 341 rfl) (Wd hw 322 rfl) (Wd hw 343 rfl) (Wd hw 342 rfl) (Wd hw 344 rfl) e0 E_a0d GMO (g := mkF m 3 #[vr a0d, vi (2 : Int32)] [(.ref a0d), (.int 2), (.ref a0d)]) rfl (by rw [hml]; rfl) rfl (dG hby D54 3 rfl) (by decide) (W := 2) (by show 2 * 0 + _ ≤ _; exact lEq rfl) (by decide)
  obtain ⟨_, _, ⟨T2, L2, k2, n2⟩, -, X2, ⟨Lc2, hQ2, l2, y2, z2⟩, st2⟩ := Jvm.LawKit.callS X1 hx (y := MN_46) hown (mvT hZ (Wd hw 346 rfl)) (mvT hZ (Wd hw 347 rfl)) (mvT hZ (Wd hw 251 rfl)) (mvT hZ (Wd hw 348 rfl)) (by decide) (backOf (W := 0) (rmC3_2 l Z a0 hw [] cS aDE kDE aUS aSS aIE mO a0d ka ob0 ob1 h0 n0 O0 GL E_a0d V_a0d E_ob0 E_ob1) hZ (Wd hw 348 rfl) (Wd hw 251 rfl) (by decide) (by decide)) (g := mkF m 6 #[vr a0d, vi (2 : Int32)] [(.ref mO), (.int 2), (.ref a0d)]) rfl (by rw [hml]; rfl) (argsL := [(.ref a0d), (.int 2), (.ref mO)]) (rest := []) (lenOf pdv26 rfl) rfl (by show 2 * 0 + _ ≤ _; exact lEq rfl) (dG hby D54 4 rfl) (fun _ _ => ⟨rfl, e1, (by decide : 0 + 1 ≤ _), (by decide : 0 + 2 ≤ _)⟩)
  dsimp only [Pt.U, Pt.locs, Pt.cells, Pt.slots] at X2 l2 y2 z2 st2 hQ2
  subst l2 y2 z2
  obtain ⟨b_2, kb_2, rfl, N2q, Kc2, P2_0, P2_1⟩ := hQ2
  have K2 : Keep h0 T2.heap [] := (Keep.refl h0 []).trans Kc2 all0
  have O2 := O0.keep Kc2 all0
  have g_b_2 : n0 ≤ b_2 := lTr (own_sz O0) P2_0
  have sz_b_2 : h0.size ≤ b_2 := lTr (Keep.refl h0 []).1 P2_0
  have N2 := Fr.app N0 N2q
  obtain ⟨fs, hr, hrun, hended, hW, hsame⟩ := X2.leave (v := some (.ref b_2)) (fun h => by rw [Bd.returns] at h; cases h)
  refine ⟨_, _, pre0 _ ?_, hrun, hended, _, _, rfl, ?_, ⟨_, rfl⟩, hW, hsame.mono (by decide) (by decide)⟩
  · show SP p e below s₁ m 0 #[vr a0d, vi (2 : Int32)] [] _
    refine XS.aloadN X0.here hx rfl (dG hby D54 0 rfl) rfl rfl ?_
    refine XS.iloadN X0.here hx rfl (dG hby D54 1 rfl) rfl ?_
    refine XS.aloadN X0.here hx rfl (dG hby D54 2 rfl) rfl rfl ?_
    show SP p e below s₁ m 3 #[vr a0d, vi (2 : Int32)] [(.ref a0d), (.int 2), (.ref a0d)] _
    refine st1 _ ?_
    show SP p e below T1 m 6 #[vr a0d, vi (2 : Int32)] [(.ref mO), (.int 2), (.ref a0d)] _
    refine st2 _ ?_
    show SP p e below T2 m 9 #[vr a0d, vi (2 : Int32)] [(.ref b_2)] _
    exact retA X2 hx Bd.returns rfl (dG hby D54 5 rfl) hr
  · show Q_rmC2o_2 n0 Z cS aDE kDE aUS aSS aIE mO a0d ka ob0 ob1 h0 _ T2.heap _
    exact ⟨b_2, kb_2, rfl, N2, K2, sz_b_2, P2_1⟩
def Q_rmTa_2 (n0 : Nat) (Z : State) (cS : Int32) (aDE : Addr) (kDE : ClassId) (aUS : Addr) (aSS : Addr) (aIE : Addr) (mO : Addr) (a0l : Addr) (ae : Addr) (ka : ClassId) (ob0 : Addr) (ob1 : Addr) (h0 : Heap) (v : Option Value) (h : Heap) (L : List Loc) : Prop := ∃ b : Addr, ∃ kb : ClassId, v = some (.ref b) ∧ Fr n0 L ∧ Keep h0 h [] ∧ (h0.size ≤ b) ∧ (Arv Z h b kb (.object "java/lang/Object") (2 : Int32) [(.ref ob0), (.ref ob1)] .null)
theorem rmTa_2 (l : Launch) (Z : State) (a0 : Array Value) (hw : ∀ d ∈ tables_1, d.before a0 Z = true) (ws : List Jvm.Cond) (cS : Int32) (aDE : Addr) (kDE : ClassId) (aUS : Addr) (aSS : Addr) (aIE : Addr) (mO : Addr) (a0l : Addr) (ae : Addr) (ka : ClassId) (ob0 : Addr) (ob1 : Addr) (h0 : Heap) (n0 : Nat) (O0 : Old Z n0 h0) (GL : GF Z cS aDE kDE aUS aSS aIE mO) (E_a0l : Exa Z h0 a0l "java/util/ArrayList") (F_elementData_a0l : Fld Z h0 a0l "java/util/ArrayList" "elementData" "[Ljava/lang/Object;" (.ref ae)) (F_size_a0l : Fld Z h0 a0l "java/util/ArrayList" "size" "I" (.int 2)) (E_ae : Exa Z h0 ae "[Ljava/lang/Object;") (V_ae : Arv Z h0 ae ka (.object "java/lang/Object") (10 : Int32) [(.ref ob0), (.ref ob1), .null, .null, .null, .null, .null, .null, .null, .null] .null) (E_ob0 : Exa Z h0 ob0 "com/example/grantline/grantline/PolicyException$Problem") (E_ob1 : Exa Z h0 ob1 "com/example/grantline/grantline/PolicyException$Problem") :
    MF l MN_48 jdk_38_method_16_code 1 (some (.array (.object "java/lang/Object"))) ws (Rm 3 1 2 46) #[(.ref a0l)] Z h0 (Q_rmTa_2 n0 Z cS aDE kDE aUS aSS aIE mO a0l ae ka ob0 ob1 h0) := by
  refine MetFree.of_bodySF (plainFor_of_name pnv9) hisR ?_
  intro p e s m args below meth c s₁ Bd hml0 hP hK
  obtain ⟨rfl, hZ, hh⟩ := hP
  have hx := Bd.exec
  have hby := Bd.bytes
  have hml : c.maxLocals = 1 := hml0
  have hown : s.vm.findClass "java/util/ArrayList" = some m.cls := findClass_of_methodNamed Bd.named
  have hnm := (name_of_methodNamed Bd.named Bd.method).1
  have X0 : Stand p l e (Rm 3 1 2 46) s m #[(.ref a0l)] below meth c s₁ [] 0 0 := Stand.of_body Bd
  have e0 : s₁.heap = h0 := by rw [← hh, Bd.state]; rfl
  have N0 := Fr.nil n0
  have pre0 : ∀ t, SP p e below s₁ m 0 #[vr a0l] [] t → Steps p.tables e below (s₁.setTop (entryFrame m #[(.ref a0l)] 1)) t := fun t k => castTop (ef_rmAbc m a0l) k
  have GL' := GL
  obtain ⟨GCS, GCP, GDE, GVE, GUS, GSS, GIE, GMO⟩ := GL'
  obtain ⟨T1, X1, e1, st1⟩ := getF X0 hx hZ hown (host := "") (Or.inl (Wd hw 56 rfl)) Via.refl e0 F_elementData_a0l (g := mkF m 1 #[vr a0l] [(.ref a0l)]) rfl rfl (dG hby D53 1 rfl)
  obtain ⟨T2, X2, e2, st2⟩ := getF X1 hx hZ hown (host := "") (Or.inl (Wd hw 81 rfl)) Via.refl e1 F_size_a0l (g := mkF m 5 #[vr a0l] [(.ref a0l), (.ref ae)]) rfl rfl (dG hby D53 3 rfl)
  obtain ⟨_, _, ⟨T3, L3, k3, n3⟩, -, X3, ⟨Lc3, hQ3, l3, y3, z3⟩, st3⟩ := Jvm.LawKit.callS X2 hx (y := MN_47) hown (mvT hZ (Wd hw 337 rfl)) (mvT hZ (Wd hw 338 rfl)) (mvT hZ (Wd hw 251 rfl)) (mvT hZ (Wd hw 339 rfl)) (by decide) (backOf (W := 0) (rmC2o_2 l Z a0 hw [] cS aDE kDE aUS aSS aIE mO ae ka ob0 ob1 h0 n0 O0 GL E_ae V_ae E_ob0 E_ob1) hZ (Wd hw 339 rfl) (Wd hw 251 rfl) (by decide) (by decide)) (g := mkF m 8 #[vr a0l] [(.int 2), (.ref ae)]) rfl (by rw [hml]; rfl) (argsL := [(.ref ae), (.int 2)]) (rest := []) (lenOf pdv27 rfl) rfl (by show 2 * 0 + _ ≤ _; exact lEq rfl) (dG hby D53 4 rfl) (fun _ _ => ⟨rfl, e2, (by decide : 0 + 1 ≤ _), (by decide : 0 + 2 ≤ _)⟩)
  dsimp only [Pt.U, Pt.locs, Pt.cells, Pt.slots] at X3 l3 y3 z3 st3 hQ3
  subst l3 y3 z3
  obtain ⟨b_3, kb_3, rfl, N3q, Kc3, P3_0, P3_1⟩ := hQ3
  have K3 : Keep h0 T3.heap [] := (Keep.refl h0 []).trans Kc3 all0
  have O3 := O0.keep Kc3 all0
  have g_b_3 : n0 ≤ b_3 := lTr (own_sz O0) P3_0
  have sz_b_3 : h0.size ≤ b_3 := lTr (Keep.refl h0 []).1 P3_0
  have N3 := Fr.app N0 N3q
  obtain ⟨fs, hr, hrun, hended, hW, hsame⟩ := X3.leave (v := some (.ref b_3)) (fun h => by rw [Bd.returns] at h; cases h)
  refine ⟨_, _, pre0 _ ?_, hrun, hended, _, _, rfl, ?_, ⟨_, rfl⟩, hW, hsame.mono (by decide) (by decide)⟩
  · show SP p e below s₁ m 0 #[vr a0l] [] _
    refine XS.aloadN X0.here hx rfl (dG hby D53 0 rfl) rfl rfl ?_
    show SP p e below s₁ m 1 #[vr a0l] [(.ref a0l)] _
    refine st1 _ ?_
    show SP p e below T1 m 4 #[vr a0l] [(.ref ae)] _
    refine XS.aloadN X1.here hx rfl (dG hby D53 2 rfl) rfl rfl ?_
    show SP p e below T1 m 5 #[vr a0l] [(.ref a0l), (.ref ae)] _
    refine st2 _ ?_
    show SP p e below T2 m 8 #[vr a0l] [(.int 2), (.ref ae)] _
    refine st3 _ ?_
    show SP p e below T3 m 11 #[vr a0l] [(.ref b_3)] _
    exact retA X3 hx Bd.returns rfl (dG hby D53 5 rfl) hr
  · show Q_rmTa_2 n0 Z cS aDE kDE aUS aSS aIE mO a0l ae ka ob0 ob1 h0 _ T3.heap _
    exact ⟨b_3, kb_3, rfl, N3, K3, sz_b_3, P3_1⟩
theorem ef_rmC3_3 (m : MethodId) (a0d : Addr) : entryFrame m #[(.ref a0d), (.int 3), (.ref mO)] 4 = mkF m 0 #[vr a0d, vi (3 : Int32), vr mO, .unset] [] := by first | (simp [entryFrame, mkF, argsToLocals, Value.category]; done) | rfl
def Q_rmC3_3 (n0 : Nat) (Z : State) (cS : Int32) (aDE : Addr) (kDE : ClassId) (aUS : Addr) (aSS : Addr) (aIE : Addr) (mO : Addr) (a0d : Addr) (ka : ClassId) (ob0 : Addr) (ob1 : Addr) (ob2 : Addr) (h0 : Heap) (v : Option Value) (h : Heap) (L : List Loc) : Prop := ∃ b : Addr, ∃ kb : ClassId, v = some (.ref b) ∧ Fr n0 L ∧ Keep h0 h [] ∧ (h0.size ≤ b) ∧ (Arv Z h b kb (.object "java/lang/Object") (3 : Int32) [(.ref ob0), (.ref ob1), (.ref ob2)] .null)
theorem rmC3_3 (l : Launch) (Z : State) (a0 : Array Value) (hw : ∀ d ∈ tables_1, d.before a0 Z = true) (ws : List Jvm.Cond) (cS : Int32) (aDE : Addr) (kDE : ClassId) (aUS : Addr) (aSS : Addr) (aIE : Addr) (mO : Addr) (a0d : Addr) (ka : ClassId) (ob0 : Addr) (ob1 : Addr) (ob2 : Addr) (h0 : Heap) (n0 : Nat) (O0 : Old Z n0 h0) (GL : GF Z cS aDE kDE aUS aSS aIE mO) (E_a0d : Exa Z h0 a0d "[Ljava/lang/Object;") (V_a0d : Arv Z h0 a0d ka (.object "java/lang/Object") (10 : Int32) [(.ref ob0), (.ref ob1), (.ref ob2), .null, .null, .null, .null, .null, .null, .null] .null) (E_ob0 : Exa Z h0 ob0 "com/example/grantline/grantline/PolicyException$Problem") (E_ob1 : Exa Z h0 ob1 "com/example/grantline/grantline/PolicyException$Problem") (E_ob2 : Exa Z h0 ob2 "com/example/grantline/grantline/PolicyException$Problem") :
    MF l MN_46 jdk_65_method_120_code 4 (some (.array (.object "java/lang/Object"))) ws (Rm 1 1 3 18) #[(.ref a0d), (.int 3), (.ref mO)] Z h0 (Q_rmC3_3 n0 Z cS aDE kDE aUS aSS aIE mO a0d ka ob0 ob1 ob2 h0) := by
  refine MetFree.of_bodySF (plainFor_of_name pnv4) hisR ?_
  intro p e s m args below meth c s₁ Bd hml0 hP hK
  obtain ⟨rfl, hZ, hh⟩ := hP
  have hx := Bd.exec
  have hby := Bd.bytes
  have hml : c.maxLocals = 4 := hml0
  have hown : s.vm.findClass "java/util/Arrays" = some m.cls := findClass_of_methodNamed Bd.named
  have hnm := (name_of_methodNamed Bd.named Bd.method).1
  have X0 : Stand p l e (Rm 1 1 3 18) s m #[(.ref a0d), (.int 3), (.ref mO)] below meth c s₁ [] 0 0 := Stand.of_body Bd
  have e0 : s₁.heap = h0 := by rw [← hh, Bd.state]; rfl
  have N0 := Fr.nil n0
  have pre0 : ∀ t, SP p e below s₁ m 0 #[vr a0d, vi (3 : Int32), vr mO, .unset] [] t → Steps p.tables e below (s₁.setTop (entryFrame m #[(.ref a0d), (.int 3), (.ref mO)] 4)) t := fun t k => castTop (ef_rmC3_3 m a0d) k
  have GL' := GL
  obtain ⟨GCS, GCP, GDE, GVE, GUS, GSS, GIE, GMO⟩ := GL'
  obtain ⟨T1, X1, e1, st1⟩ := own_ldcM X0 hx hZ hown (Wd hw 349 rfl) e0 GMO (g := mkF m 1 #[vr a0d, vi (3 : Int32), vr mO, .unset] [(.ref mO)]) rfl (dG hby D55 1 rfl)
  obtain ⟨T2, h2, k2, X2, e2, E2, A2, A2', Ov2, st2⟩ := newRE X1 hx hZ hown (Wd hw 350 rfl) (Wd hw 103 rfl) e1 (g := mkF m 7 #[vr a0d, vi (3 : Int32), vr mO, .unset] [(.int 3)]) rfl (dG hby D55 4 rfl) rfl (by decide) (cap := 3) (by decide) (by decide) (by decide) (by decide) (ad := "[Ljava/lang/Object;") rfl
  obtain ⟨b2, g2⟩ : ∃ z, z = h0.size := ⟨_, rfl⟩
  rw [← g2] at A2 A2' st2
  have g_b2 : n0 ≤ b2 := lTr (own_sz O0) (lEq g2.symm)
  have sz_b2 : h0.size ≤ b2 := lTr (Keep.refl h0 []).1 (lEq g2.symm)
  have K2 : Keep h0 h2 [] := (Keep.refl h0 []).ext E2
  have O2 := O0.ext E2
  have V_b2 : Arv Z h2 b2 k2 (.object "java/lang/Object") (3 : Int32) [.null, .null, .null] .null := (Arv.new A2 (by decide)).pad (pad_rep [] .null 3)
  obtain ⟨cl3, Ar3, -, S3, N3_, -, -⟩ := id ((V_a0d.ext E2))
  obtain ⟨_, _, ⟨T4, L4, k4, n4⟩, -, X4, ⟨Lc4, hQ4, l4, y4, z4⟩, st4⟩ := Jvm.LawKit.callS X2 hx (y := MN_7) hown (mvT hZ (Wd hw 259 rfl)) (mvT hZ (Wd hw 260 rfl)) (mvT hZ (Wd hw 100 rfl)) (mvT hZ (Wd hw 261 rfl)) (by decide) (backOf (W := 4) (rmMin l Z a0 hw [] cS aDE kDE aUS aSS aIE mO ((10 : Int32)) ((3 : Int32)) h2 n0 O2 GL (by decide)) hZ (Wd hw 261 rfl) (Wd hw 100 rfl) (by decide) (by decide)) (g := mkF m 32 #[vr a0d, vi (3 : Int32), vr mO, vr b2] [(.int 3), (.int 10), (.int 0), (.ref b2), (.int 0), (.ref a0d)]) rfl (by rw [hml]; rfl) (argsL := [(.int 10), (.int 3)]) (rest := [(.int 0), (.ref b2), (.int 0), (.ref a0d)]) (lenOf pdv12 rfl) rfl (by show 2 * 0 + _ ≤ _; exact lEq rfl) (dG hby D55 14 rfl) (fun _ _ => ⟨rfl, e2, (by decide : 1 + 0 ≤ _), (by decide : 3 + 0 ≤ _)⟩)
  dsimp only [Pt.U, Pt.locs, Pt.cells, Pt.slots] at X4 l4 y4 z4 st4 hQ4
  subst l4 y4 z4
  obtain ⟨rfl, N4q, e4⟩ := hQ4
  have N4 := Fr.app N0 N4q
  obtain ⟨cl5, Ar5, q5, -, -, -, -⟩ := id (V_b2)
  obtain ⟨T5, h5, L5, X5, e5, N5, Kc5, V5, st5⟩ := cpA X4 hx hZ hown (Wd hw 262 rfl) (Wd hw 215 rfl) (Wd hw 213 rfl) (Wd hw 214 rfl) e4 (V_a0d.ext E2) V_b2 (us := [(.ref ob0), (.ref ob1), (.ref ob2)]) (Or.inr ⟨rfl, rfl, ⟨(Sto.ofV Ar5 q5 Ov2 (Ins.of_exa (E_ob0.ext E2) (Wd hw 104 rfl))), ⟨(Sto.ofV Ar5 q5 Ov2 (Ins.of_exa (E_ob1.ext E2) (Wd hw 104 rfl))), ⟨(Sto.ofV Ar5 q5 Ov2 (Ins.of_exa (E_ob2.ext E2) (Wd hw 104 rfl))), trivial⟩⟩⟩⟩) (by decide) (by decide) (by decide) (by decide) (by decide) rfl (by decide) N4 g_b2 (g := mkF m 35 #[vr a0d, vi (3 : Int32), vr mO, vr b2] [(.int 3), (.int 0), (.ref b2), (.int 0), (.ref a0d)]) rfl (by rw [hml]; rfl) rfl (dG hby D55 15 rfl) (by decide) (W := 0) (by show 2 * 0 + _ ≤ _; exact lEq rfl) (by decide)
  have V5' : Arv Z h5 b2 k2 (.object "java/lang/Object") (3 : Int32) [(.ref ob0), (.ref ob1), (.ref ob2)] .null := V5
  have K5 : Keep h0 h5 [] := K2.trans Kc5 (allS (Or.inr sz_b2) all0)
  have O5 := O2.keep Kc5 (allS g_b2 all0)
  obtain ⟨fs, hr, hrun, hended, hW, hsame⟩ := X5.leave (v := some (.ref b2)) (fun h => by rw [Bd.returns] at h; cases h)
  refine ⟨_, _, pre0 _ ?_, hrun, hended, _, _, rfl, ?_, ⟨_, rfl⟩, hW, hsame.mono (by decide) (by decide)⟩
  · show SP p e below s₁ m 0 #[vr a0d, vi (3 : Int32), vr mO, .unset] [] _
    refine XS.aloadN X0.here hx rfl (dG hby D55 0 rfl) rfl rfl ?_
    show SP p e below s₁ m 1 #[vr a0d, vi (3 : Int32), vr mO, .unset] [(.ref mO)] _
    refine st1 _ ?_
    show SP p e below T1 m 3 #[vr a0d, vi (3 : Int32), vr mO, .unset] [(.ref mO), (.ref mO)] _
    refine Jvm.RoadKit.acmp (g := mkF m 3 #[vr a0d, vi (3 : Int32), vr mO, .unset] [(.ref mO), (.ref mO)]) X1 hx rfl rfl rfl (pc0 := 3) (pc' := 6) (same := true) rfl (dG hby D55 2 rfl) rfl (decide_eq_true rfl) (by decide) (by decide) ?_
    show SP p e below T1 m 6 #[vr a0d, vi (3 : Int32), vr mO, .unset] [] _
    refine XS.iloadN X1.here hx rfl (dG hby D55 3 rfl) rfl ?_
    show SP p e below T1 m 7 #[vr a0d, vi (3 : Int32), vr mO, .unset] [(.int 3)] _
    refine st2 _ ?_
    show SP p e below T2 m 10 #[vr a0d, vi (3 : Int32), vr mO, .unset] [(.ref b2)] _
    refine XS.goto X2.here hx rfl (pc0 := 10) (pc' := 24) rfl (dG hby D55 5 rfl) (by decide) (by decide) ?_
    refine XS.astoreN X2.here hx rfl (dG hby D55 6 rfl) rfl rfl (l' := #[vr a0d, vi (3 : Int32), vr mO, vr b2]) rfl ?_
    refine XS.aloadN X2.here hx rfl (dG hby D55 7 rfl) rfl rfl ?_
    refine XS.iconst X2.here hx rfl (dG hby D55 8 rfl) ?_
    refine XS.aloadN X2.here hx rfl (dG hby D55 9 rfl) rfl rfl ?_
    refine XS.iconst X2.here hx rfl (dG hby D55 10 rfl) ?_
    refine XS.aloadN X2.here hx rfl (dG hby D55 11 rfl) rfl rfl ?_
    show SP p e below T2 m 30 #[vr a0d, vi (3 : Int32), vr mO, vr b2] [(.ref a0d), (.int 0), (.ref b2), (.int 0), (.ref a0d)] _
    refine X2.arraylength hx (by rw [e2]; exact Ar3.1) (State.isArrayOf_alike hZ.alike Ar3.2.1) (g := mkF m 30 #[vr a0d, vi (3 : Int32), vr mO, vr b2] [(.ref a0d), (.int 0), (.ref b2), (.int 0), (.ref a0d)]) rfl rfl (dG hby D55 12 rfl) _ ?_
    rw [len_of S3 N3_]
    show SP p e below T2 m 31 #[vr a0d, vi (3 : Int32), vr mO, vr b2] [(.int 10), (.int 0), (.ref b2), (.int 0), (.ref a0d)] _
    refine XS.iloadN X2.here hx rfl (dG hby D55 13 rfl) rfl ?_
    show SP p e below T2 m 32 #[vr a0d, vi (3 : Int32), vr mO, vr b2] [(.int 3), (.int 10), (.int 0), (.ref b2), (.int 0), (.ref a0d)] _
    refine st4 _ ?_
    show SP p e below T4 m 35 #[vr a0d, vi (3 : Int32), vr mO, vr b2] [(.int 3), (.int 0), (.ref b2), (.int 0), (.ref a0d)] _
    refine st5 _ ?_
    show SP p e below T5 m 38 #[vr a0d, vi (3 : Int32), vr mO, vr b2] [] _
    refine XS.aloadN X5.here hx rfl (dG hby D55 16 rfl) rfl rfl ?_
    show SP p e below T5 m 39 #[vr a0d, vi (3 : Int32), vr mO, vr b2] [(.ref b2)] _
    exact retA X5 hx Bd.returns rfl (dG hby D55 17 rfl) hr
  · show Q_rmC3_3 n0 Z cS aDE kDE aUS aSS aIE mO a0d ka ob0 ob1 ob2 h0 _ T5.heap _
    rw [e5]
    exact ⟨b2, k2, rfl, N5, K5, sz_b2, V5'⟩
theorem ef_rmC2o_3 (m : MethodId) (a0d : Addr) : entryFrame m #[(.ref a0d), (.int 3)] 2 = mkF m 0 #[vr a0d, vi (3 : Int32)] [] := by first | (simp [entryFrame, mkF, argsToLocals, Value.category]; done) | rfl
def Q_rmC2o_3 (n0 : Nat) (Z : State) (cS : Int32) (aDE : Addr) (kDE : ClassId) (aUS : Addr) (aSS : Addr) (aIE : Addr) (mO : Addr) (a0d : Addr) (ka : ClassId) (ob0 : Addr) (ob1 : Addr) (ob2 : Addr) (h0 : Heap) (v : Option Value) (h : Heap) (L : List Loc) : Prop := ∃ b : Addr, ∃ kb : ClassId, v = some (.ref b) ∧ Fr n0 L ∧ Keep h0 h [] ∧ (h0.size ≤ b) ∧ (Arv Z h b kb (.object "java/lang/Object") (3 : Int32) [(.ref ob0), (.ref ob1), (.ref ob2)] .null)
theorem rmC2o_3 (l : Launch) (Z : State) (a0 : Array Value) (hw : ∀ d ∈ tables_1, d.before a0 Z = true) (ws : List Jvm.Cond) (cS : Int32) (aDE : Addr) (kDE : ClassId) (aUS : Addr) (aSS : Addr) (aIE : Addr) (mO : Addr) (a0d : Addr) (ka : ClassId) (ob0 : Addr) (ob1 : Addr) (ob2 : Addr) (h0 : Heap) (n0 : Nat) (O0 : Old Z n0 h0) (GL : GF Z cS aDE kDE aUS aSS aIE mO) (E_a0d : Exa Z h0 a0d "[Ljava/lang/Object;") (V_a0d : Arv Z h0 a0d ka (.object "java/lang/Object") (10 : Int32) [(.ref ob0), (.ref ob1), (.ref ob2), .null, .null, .null, .null, .null, .null, .null] .null) (E_ob0 : Exa Z h0 ob0 "com/example/grantline/grantline/PolicyException$Problem") (E_ob1 : Exa Z h0 ob1 "com/example/grantline/grantline/PolicyException$Problem") (E_ob2 : Exa Z h0 ob2 "com/example/grantline/grantline/PolicyException$Problem") :
    MF l MN_47 jdk_65_method_119_code 2 (some (.array (.object "java/lang/Object"))) ws (Rm 2 1 3 33) #[(.ref a0d), (.int 3)] Z h0 (Q_rmC2o_3 n0 Z cS aDE kDE aUS aSS aIE mO a0d ka ob0 ob1 ob2 h0) := by
  refine MetFree.of_bodySF (plainFor_of_name pnv4) hisR ?_
  intro p e s m args below meth c s₁ Bd hml0 hP hK
  obtain ⟨rfl, hZ, hh⟩ := hP
  have hx := Bd.exec
  have hby := Bd.bytes
  have hml : c.maxLocals = 2 := hml0
  have hown : s.vm.findClass "java/util/Arrays" = some m.cls := findClass_of_methodNamed Bd.named
  have hnm := (name_of_methodNamed Bd.named Bd.method).1
  have X0 : Stand p l e (Rm 2 1 3 33) s m #[(.ref a0d), (.int 3)] below meth c s₁ [] 0 0 := Stand.of_body Bd
  have e0 : s₁.heap = h0 := by rw [← hh, Bd.state]; rfl
  have N0 := Fr.nil n0
  have pre0 : ∀ t, SP p e below s₁ m 0 #[vr a0d, vi (3 : Int32)] [] t → Steps p.tables e below (s₁.setTop (entryFrame m #[(.ref a0d), (.int 3)] 2)) t := fun t k => castTop (ef_rmC2o_3 m a0d) k
  have GL' := GL
  obtain ⟨GCS, GCP, GDE, GVE, GUS, GSS, GIE, GMO⟩ := GL'
  obtain ⟨T1, X1, e1, st1⟩ := gcls X0 hx hZ hown (Wd hw 340 rfl) (Wd hw 341 rfl) (Wd hw 322 rfl) (Wd hw 343 rfl) (Wd hw 342 rfl) (Wd hw 344 rfl) e0 E_a0d GMO (g := mkF m 3 #[vr a0d, vi (3 : Int32)] [(.ref a0d), (.int 3), (.ref a0d)]) rfl (by rw [hml]; rfl) rfl (dG hby D54 3 rfl) (by decide) (W := 2) (by show 2 * 0 + _ ≤ _; exact lEq rfl) (by decide)
  obtain ⟨_, _, ⟨T2, L2, k2, n2⟩, -, X2, ⟨Lc2, hQ2, l2, y2, z2⟩, st2⟩ := Jvm.LawKit.callS X1 hx (y := MN_46) hown (mvT hZ (Wd hw 346 rfl)) (mvT hZ (Wd hw 347 rfl)) (mvT hZ (Wd hw 251 rfl)) (mvT hZ (Wd hw 348 rfl)) (by decide) (backOf (W := 0) (rmC3_3 l Z a0 hw [] cS aDE kDE aUS aSS aIE mO a0d ka ob0 ob1 ob2 h0 n0 O0 GL E_a0d V_a0d E_ob0 E_ob1 E_ob2) hZ (Wd hw 348 rfl) (Wd hw 251 rfl) (by decide) (by decide)) (g := mkF m 6 #[vr a0d, vi (3 : Int32)] [(.ref mO), (.int 3), (.ref a0d)]) rfl (by rw [hml]; rfl) (argsL := [(.ref a0d), (.int 3), (.ref mO)]) (rest := []) (lenOf pdv26 rfl) rfl (by show 2 * 0 + _ ≤ _; exact lEq rfl) (dG hby D54 4 rfl) (fun _ _ => ⟨rfl, e1, (by decide : 0 + 1 ≤ _), (by decide : 0 + 3 ≤ _)⟩)
  dsimp only [Pt.U, Pt.locs, Pt.cells, Pt.slots] at X2 l2 y2 z2 st2 hQ2
  subst l2 y2 z2
  obtain ⟨b_2, kb_2, rfl, N2q, Kc2, P2_0, P2_1⟩ := hQ2
  have K2 : Keep h0 T2.heap [] := (Keep.refl h0 []).trans Kc2 all0
  have O2 := O0.keep Kc2 all0
  have g_b_2 : n0 ≤ b_2 := lTr (own_sz O0) P2_0
  have sz_b_2 : h0.size ≤ b_2 := lTr (Keep.refl h0 []).1 P2_0
  have N2 := Fr.app N0 N2q
  obtain ⟨fs, hr, hrun, hended, hW, hsame⟩ := X2.leave (v := some (.ref b_2)) (fun h => by rw [Bd.returns] at h; cases h)
  refine ⟨_, _, pre0 _ ?_, hrun, hended, _, _, rfl, ?_, ⟨_, rfl⟩, hW, hsame.mono (by decide) (by decide)⟩
  · show SP p e below s₁ m 0 #[vr a0d, vi (3 : Int32)] [] _
    refine XS.aloadN X0.here hx rfl (dG hby D54 0 rfl) rfl rfl ?_
    refine XS.iloadN X0.here hx rfl (dG hby D54 1 rfl) rfl ?_
    refine XS.aloadN X0.here hx rfl (dG hby D54 2 rfl) rfl rfl ?_
    show SP p e below s₁ m 3 #[vr a0d, vi (3 : Int32)] [(.ref a0d), (.int 3), (.ref a0d)] _
    refine st1 _ ?_
    show SP p e below T1 m 6 #[vr a0d, vi (3 : Int32)] [(.ref mO), (.int 3), (.ref a0d)] _
    refine st2 _ ?_
    show SP p e below T2 m 9 #[vr a0d, vi (3 : Int32)] [(.ref b_2)] _
    exact retA X2 hx Bd.returns rfl (dG hby D54 5 rfl) hr
  · show Q_rmC2o_3 n0 Z cS aDE kDE aUS aSS aIE mO a0d ka ob0 ob1 ob2 h0 _ T2.heap _
    exact ⟨b_2, kb_2, rfl, N2, K2, sz_b_2, P2_1⟩
def Q_rmTa_3 (n0 : Nat) (Z : State) (cS : Int32) (aDE : Addr) (kDE : ClassId) (aUS : Addr) (aSS : Addr) (aIE : Addr) (mO : Addr) (a0l : Addr) (ae : Addr) (ka : ClassId) (ob0 : Addr) (ob1 : Addr) (ob2 : Addr) (h0 : Heap) (v : Option Value) (h : Heap) (L : List Loc) : Prop := ∃ b : Addr, ∃ kb : ClassId, v = some (.ref b) ∧ Fr n0 L ∧ Keep h0 h [] ∧ (h0.size ≤ b) ∧ (Arv Z h b kb (.object "java/lang/Object") (3 : Int32) [(.ref ob0), (.ref ob1), (.ref ob2)] .null)
theorem rmTa_3 (l : Launch) (Z : State) (a0 : Array Value) (hw : ∀ d ∈ tables_1, d.before a0 Z = true) (ws : List Jvm.Cond) (cS : Int32) (aDE : Addr) (kDE : ClassId) (aUS : Addr) (aSS : Addr) (aIE : Addr) (mO : Addr) (a0l : Addr) (ae : Addr) (ka : ClassId) (ob0 : Addr) (ob1 : Addr) (ob2 : Addr) (h0 : Heap) (n0 : Nat) (O0 : Old Z n0 h0) (GL : GF Z cS aDE kDE aUS aSS aIE mO) (E_a0l : Exa Z h0 a0l "java/util/ArrayList") (F_elementData_a0l : Fld Z h0 a0l "java/util/ArrayList" "elementData" "[Ljava/lang/Object;" (.ref ae)) (F_size_a0l : Fld Z h0 a0l "java/util/ArrayList" "size" "I" (.int 3)) (E_ae : Exa Z h0 ae "[Ljava/lang/Object;") (V_ae : Arv Z h0 ae ka (.object "java/lang/Object") (10 : Int32) [(.ref ob0), (.ref ob1), (.ref ob2), .null, .null, .null, .null, .null, .null, .null] .null) (E_ob0 : Exa Z h0 ob0 "com/example/grantline/grantline/PolicyException$Problem") (E_ob1 : Exa Z h0 ob1 "com/example/grantline/grantline/PolicyException$Problem") (E_ob2 : Exa Z h0 ob2 "com/example/grantline/grantline/PolicyException$Problem") :
    MF l MN_48 jdk_38_method_16_code 1 (some (.array (.object "java/lang/Object"))) ws (Rm 3 1 3 46) #[(.ref a0l)] Z h0 (Q_rmTa_3 n0 Z cS aDE kDE aUS aSS aIE mO a0l ae ka ob0 ob1 ob2 h0) := by
  refine MetFree.of_bodySF (plainFor_of_name pnv9) hisR ?_
  intro p e s m args below meth c s₁ Bd hml0 hP hK
  obtain ⟨rfl, hZ, hh⟩ := hP
  have hx := Bd.exec
  have hby := Bd.bytes
  have hml : c.maxLocals = 1 := hml0
  have hown : s.vm.findClass "java/util/ArrayList" = some m.cls := findClass_of_methodNamed Bd.named
  have hnm := (name_of_methodNamed Bd.named Bd.method).1
  have X0 : Stand p l e (Rm 3 1 3 46) s m #[(.ref a0l)] below meth c s₁ [] 0 0 := Stand.of_body Bd
  have e0 : s₁.heap = h0 := by rw [← hh, Bd.state]; rfl
  have N0 := Fr.nil n0
  have pre0 : ∀ t, SP p e below s₁ m 0 #[vr a0l] [] t → Steps p.tables e below (s₁.setTop (entryFrame m #[(.ref a0l)] 1)) t := fun t k => castTop (ef_rmAbc m a0l) k
  have GL' := GL
  obtain ⟨GCS, GCP, GDE, GVE, GUS, GSS, GIE, GMO⟩ := GL'
  obtain ⟨T1, X1, e1, st1⟩ := getF X0 hx hZ hown (host := "") (Or.inl (Wd hw 56 rfl)) Via.refl e0 F_elementData_a0l (g := mkF m 1 #[vr a0l] [(.ref a0l)]) rfl rfl (dG hby D53 1 rfl)
  obtain ⟨T2, X2, e2, st2⟩ := getF X1 hx hZ hown (host := "") (Or.inl (Wd hw 81 rfl)) Via.refl e1 F_size_a0l (g := mkF m 5 #[vr a0l] [(.ref a0l), (.ref ae)]) rfl rfl (dG hby D53 3 rfl)
  obtain ⟨_, _, ⟨T3, L3, k3, n3⟩, -, X3, ⟨Lc3, hQ3, l3, y3, z3⟩, st3⟩ := Jvm.LawKit.callS X2 hx (y := MN_47) hown (mvT hZ (Wd hw 337 rfl)) (mvT hZ (Wd hw 338 rfl)) (mvT hZ (Wd hw 251 rfl)) (mvT hZ (Wd hw 339 rfl)) (by decide) (backOf (W := 0) (rmC2o_3 l Z a0 hw [] cS aDE kDE aUS aSS aIE mO ae ka ob0 ob1 ob2 h0 n0 O0 GL E_ae V_ae E_ob0 E_ob1 E_ob2) hZ (Wd hw 339 rfl) (Wd hw 251 rfl) (by decide) (by decide)) (g := mkF m 8 #[vr a0l] [(.int 3), (.ref ae)]) rfl (by rw [hml]; rfl) (argsL := [(.ref ae), (.int 3)]) (rest := []) (lenOf pdv27 rfl) rfl (by show 2 * 0 + _ ≤ _; exact lEq rfl) (dG hby D53 4 rfl) (fun _ _ => ⟨rfl, e2, (by decide : 0 + 1 ≤ _), (by decide : 0 + 3 ≤ _)⟩)
  dsimp only [Pt.U, Pt.locs, Pt.cells, Pt.slots] at X3 l3 y3 z3 st3 hQ3
  subst l3 y3 z3
  obtain ⟨b_3, kb_3, rfl, N3q, Kc3, P3_0, P3_1⟩ := hQ3
  have K3 : Keep h0 T3.heap [] := (Keep.refl h0 []).trans Kc3 all0
  have O3 := O0.keep Kc3 all0
  have g_b_3 : n0 ≤ b_3 := lTr (own_sz O0) P3_0
  have sz_b_3 : h0.size ≤ b_3 := lTr (Keep.refl h0 []).1 P3_0
  have N3 := Fr.app N0 N3q
  obtain ⟨fs, hr, hrun, hended, hW, hsame⟩ := X3.leave (v := some (.ref b_3)) (fun h => by rw [Bd.returns] at h; cases h)
  refine ⟨_, _, pre0 _ ?_, hrun, hended, _, _, rfl, ?_, ⟨_, rfl⟩, hW, hsame.mono (by decide) (by decide)⟩
  · show SP p e below s₁ m 0 #[vr a0l] [] _
    refine XS.aloadN X0.here hx rfl (dG hby D53 0 rfl) rfl rfl ?_
    show SP p e below s₁ m 1 #[vr a0l] [(.ref a0l)] _
    refine st1 _ ?_
    show SP p e below T1 m 4 #[vr a0l] [(.ref ae)] _
    refine XS.aloadN X1.here hx rfl (dG hby D53 2 rfl) rfl rfl ?_
    show SP p e below T1 m 5 #[vr a0l] [(.ref a0l), (.ref ae)] _
    refine st2 _ ?_
    show SP p e below T2 m 8 #[vr a0l] [(.int 3), (.ref ae)] _
    refine st3 _ ?_
    show SP p e below T3 m 11 #[vr a0l] [(.ref b_3)] _
    exact retA X3 hx Bd.returns rfl (dG hby D53 5 rfl) hr
  · show Q_rmTa_3 n0 Z cS aDE kDE aUS aSS aIE mO a0l ae ka ob0 ob1 ob2 h0 _ T3.heap _
    exact ⟨b_3, kb_3, rfl, N3, K3, sz_b_3, P3_1⟩
theorem D60 : dL jdk_31_method_10_code [(0, .aload_n 0, 1), (1, .ifnonnull 11, 3), (12, .aload_n 0, 1), (13, .areturn, 1)] = true := by decide +kernel
abbrev MN_49 : MethodName := ⟨"java/util/Objects", "requireNonNull", "(Ljava/lang/Object;)Ljava/lang/Object;"⟩
theorem ef_rmRn (m : MethodId) (a0o : Addr) : entryFrame m #[(.ref a0o)] 1 = mkF m 0 #[vr a0o] [] := by first | (simp [entryFrame, mkF, argsToLocals, Value.category]; done) | rfl
def Q_rmRn (n0 : Nat) (Z : State) (cS : Int32) (aDE : Addr) (kDE : ClassId) (aUS : Addr) (aSS : Addr) (aIE : Addr) (mO : Addr) (a0o : Addr) (h0 : Heap) (v : Option Value) (h : Heap) (L : List Loc) : Prop := v = some (.ref a0o) ∧ Fr n0 L ∧ h = h0
theorem rmRn (l : Launch) (Z : State) (a0 : Array Value) (hw : ∀ d ∈ tables_1, d.before a0 Z = true) (ws : List Jvm.Cond) (cS : Int32) (aDE : Addr) (kDE : ClassId) (aUS : Addr) (aSS : Addr) (aIE : Addr) (mO : Addr) (a0o : Addr) (h0 : Heap) (n0 : Nat) (O0 : Old Z n0 h0) (GL : GF Z cS aDE kDE aUS aSS aIE mO) :
    MF l MN_49 jdk_31_method_10_code 1 (some (.object "java/lang/Object")) ws (Rm 0 0 0 0) #[(.ref a0o)] Z h0 (Q_rmRn n0 Z cS aDE kDE aUS aSS aIE mO a0o h0) := by
  refine MetFree.of_bodySF (plainFor_of_name pnv11) hisR ?_
  intro p e s m args below meth c s₁ Bd hml0 hP hK
  obtain ⟨rfl, hZ, hh⟩ := hP
  have hx := Bd.exec
  have hby := Bd.bytes
  have hml : c.maxLocals = 1 := hml0
  have hown : s.vm.findClass "java/util/Objects" = some m.cls := findClass_of_methodNamed Bd.named
  have hnm := (name_of_methodNamed Bd.named Bd.method).1
  have X0 : Stand p l e (Rm 0 0 0 0) s m #[(.ref a0o)] below meth c s₁ [] 0 0 := Stand.of_body Bd
  have e0 : s₁.heap = h0 := by rw [← hh, Bd.state]; rfl
  have N0 := Fr.nil n0
  have pre0 : ∀ t, SP p e below s₁ m 0 #[vr a0o] [] t → Steps p.tables e below (s₁.setTop (entryFrame m #[(.ref a0o)] 1)) t := fun t k => castTop (ef_rmRn m a0o) k
  have GL' := GL
  obtain ⟨GCS, GCP, GDE, GVE, GUS, GSS, GIE, GMO⟩ := GL'
  obtain ⟨fs, hr, hrun, hended, hW, hsame⟩ := X0.leave (v := some (.ref a0o)) (fun h => by rw [Bd.returns] at h; cases h)
  refine ⟨_, _, pre0 _ ?_, hrun, hended, _, _, rfl, ?_, ⟨_, rfl⟩, hW, hsame.mono (by decide) (by decide)⟩
  · show SP p e below s₁ m 0 #[vr a0o] [] _
    refine XS.aloadN X0.here hx rfl (dG hby D60 0 rfl) rfl rfl ?_
    refine XS.ifnonnullYes X0.here hx rfl (pc0 := 1) (pc' := 12) rfl (dG hby D60 1 rfl) rfl (by decide) (by decide) ?_
    refine XS.aloadN X0.here hx rfl (dG hby D60 2 rfl) rfl rfl ?_
    show SP p e below s₁ m 13 #[vr a0o] [(.ref a0o)] _
    exact retA X0 hx Bd.returns rfl (dG hby D60 3 rfl) hr
  · show Q_rmRn n0 Z cS aDE kDE aUS aSS aIE mO a0o h0 _ s₁.heap _
    rw [e0]
    exact ⟨rfl, N0, rfl⟩
theorem D59 : dL jdk_47_method_1_code [(0, .aload_n 0, 1), (1, .invokespecial 1, 3), (4, .return_, 1)] = true := by decide +kernel
theorem pnv13 : plainName "java/util/ImmutableCollections$AbstractImmutableCollection" = true := by first | (simp [plainName, overriddenIn]; done) | decide +kernel
abbrev MN_50 : MethodName := ⟨"java/util/ImmutableCollections$AbstractImmutableCollection", "<init>", "()V"⟩
def Q_rmAic (n0 : Nat) (Z : State) (cS : Int32) (aDE : Addr) (kDE : ClassId) (aUS : Addr) (aSS : Addr) (aIE : Addr) (mO : Addr) (a0l : Addr) (h0 : Heap) (v : Option Value) (h : Heap) (L : List Loc) : Prop := v = none ∧ Fr n0 L ∧ h = h0
theorem rmAic (l : Launch) (Z : State) (a0 : Array Value) (hw : ∀ d ∈ tables_1, d.before a0 Z = true) (ws : List Jvm.Cond) (cS : Int32) (aDE : Addr) (kDE : ClassId) (aUS : Addr) (aSS : Addr) (aIE : Addr) (mO : Addr) (a0l : Addr) (h0 : Heap) (n0 : Nat) (O0 : Old Z n0 h0) (GL : GF Z cS aDE kDE aUS aSS aIE mO) :
    MF l MN_50 jdk_47_method_1_code 1 none ws (Rm 2 0 0 24) #[(.ref a0l)] Z h0 (Q_rmAic n0 Z cS aDE kDE aUS aSS aIE mO a0l h0) := by
  refine MetFree.of_bodySF (plainFor_of_name pnv13) hisR ?_
  intro p e s m args below meth c s₁ Bd hml0 hP hK
  obtain ⟨rfl, hZ, hh⟩ := hP
  have hx := Bd.exec
  have hby := Bd.bytes
  have hml : c.maxLocals = 1 := hml0
  have hown : s.vm.findClass "java/util/ImmutableCollections$AbstractImmutableCollection" = some m.cls := findClass_of_methodNamed Bd.named
  have hnm := (name_of_methodNamed Bd.named Bd.method).1
  have X0 : Stand p l e (Rm 2 0 0 24) s m #[(.ref a0l)] below meth c s₁ [] 0 0 := Stand.of_body Bd
  have e0 : s₁.heap = h0 := by rw [← hh, Bd.state]; rfl
  have N0 := Fr.nil n0
  have pre0 : ∀ t, SP p e below s₁ m 0 #[vr a0l] [] t → Steps p.tables e below (s₁.setTop (entryFrame m #[(.ref a0l)] 1)) t := fun t k => castTop (ef_rmAbc m a0l) k
  have GL' := GL
  obtain ⟨GCS, GCP, GDE, GVE, GUS, GSS, GIE, GMO⟩ := GL'
  obtain ⟨_, _, ⟨T1, L1, k1, n1⟩, -, X1, ⟨Lc1, hQ1, l1, y1, z1⟩, st1⟩ := X0.specialBack hx (y := MN_30) rfl hown (mvT hZ (Wd hw 373 rfl)) (mvT hZ (Wd hw 47 rfl)) (mvT hZ (Wd hw 51 rfl)) (by decide) (backOf (W := 0) (rmAbc l Z a0 hw [] cS aDE kDE aUS aSS aIE mO a0l h0 n0 O0 GL) hZ (Wd hw 51 rfl) (Wd hw 50 rfl) (by decide) (by decide)) (g := mkF m 1 #[vr a0l] [(.ref a0l)]) rfl (by rw [hml]; rfl) (Steps.refl _) (a := a0l) (argsL := []) (rest := []) (lenOf pdv18 rfl) rfl (by show 2 * 0 + _ ≤ _; exact lEq rfl) (dG hby D59 1 rfl) (fun _ _ => ⟨rfl, e0, (by decide : 0 + 0 ≤ _), (by decide : 0 + 0 ≤ _)⟩)
  dsimp only [Pt.U, Pt.locs, Pt.cells, Pt.slots] at X1 l1 y1 z1 st1 hQ1
  subst l1 y1 z1
  obtain ⟨rfl, N1q, e1⟩ := hQ1
  have N1 := Fr.app N0 N1q
  obtain ⟨fs, hr, hrun, hended, hW, hsame⟩ := X1.leave (v := none) (fun _ => rfl)
  refine ⟨_, _, pre0 _ ?_, hrun, hended, _, _, rfl, ?_, ⟨_, rfl⟩, hW, hsame.mono (by decide) (by decide)⟩
  · show SP p e below s₁ m 0 #[vr a0l] [] _
    refine XS.aloadN X0.here hx rfl (dG hby D59 0 rfl) rfl rfl ?_
    show SP p e below s₁ m 1 #[vr a0l] [(.ref a0l)] _
    refine st1.trans ?_
    show SP p e below T1 m 4 #[vr a0l] [] _
    exact X1.returnOut hx Bd.returns (dG hby D59 2 rfl) hr
  · show Q_rmAic n0 Z cS aDE kDE aUS aSS aIE mO a0l h0 _ T1.heap _
    rw [e1]
    exact ⟨rfl, N1, rfl⟩
theorem D58 : dL jdk_46_method_1_code [(0, .aload_n 0, 1), (1, .invokespecial 1, 3), (4, .return_, 1)] = true := by decide +kernel
theorem pnv14 : plainName "java/util/ImmutableCollections$AbstractImmutableList" = true := by first | (simp [plainName, overriddenIn]; done) | decide +kernel
abbrev MN_51 : MethodName := ⟨"java/util/ImmutableCollections$AbstractImmutableList", "<init>", "()V"⟩
def Q_rmAil (n0 : Nat) (Z : State) (cS : Int32) (aDE : Addr) (kDE : ClassId) (aUS : Addr) (aSS : Addr) (aIE : Addr) (mO : Addr) (a0l : Addr) (h0 : Heap) (v : Option Value) (h : Heap) (L : List Loc) : Prop := v = none ∧ Fr n0 L ∧ h = h0
theorem rmAil (l : Launch) (Z : State) (a0 : Array Value) (hw : ∀ d ∈ tables_1, d.before a0 Z = true) (ws : List Jvm.Cond) (cS : Int32) (aDE : Addr) (kDE : ClassId) (aUS : Addr) (aSS : Addr) (aIE : Addr) (mO : Addr) (a0l : Addr) (h0 : Heap) (n0 : Nat) (O0 : Old Z n0 h0) (GL : GF Z cS aDE kDE aUS aSS aIE mO) :
    MF l MN_51 jdk_46_method_1_code 1 none ws (Rm 3 0 0 36) #[(.ref a0l)] Z h0 (Q_rmAil n0 Z cS aDE kDE aUS aSS aIE mO a0l h0) := by
  refine MetFree.of_bodySF (plainFor_of_name pnv14) hisR ?_
  intro p e s m args below meth c s₁ Bd hml0 hP hK
  obtain ⟨rfl, hZ, hh⟩ := hP
  have hx := Bd.exec
  have hby := Bd.bytes
  have hml : c.maxLocals = 1 := hml0
  have hown : s.vm.findClass "java/util/ImmutableCollections$AbstractImmutableList" = some m.cls := findClass_of_methodNamed Bd.named
  have hnm := (name_of_methodNamed Bd.named Bd.method).1
  have X0 : Stand p l e (Rm 3 0 0 36) s m #[(.ref a0l)] below meth c s₁ [] 0 0 := Stand.of_body Bd
  have e0 : s₁.heap = h0 := by rw [← hh, Bd.state]; rfl
  have N0 := Fr.nil n0
  have pre0 : ∀ t, SP p e below s₁ m 0 #[vr a0l] [] t → Steps p.tables e below (s₁.setTop (entryFrame m #[(.ref a0l)] 1)) t := fun t k => castTop (ef_rmAbc m a0l) k
  have GL' := GL
  obtain ⟨GCS, GCP, GDE, GVE, GUS, GSS, GIE, GMO⟩ := GL'
  obtain ⟨_, _, ⟨T1, L1, k1, n1⟩, -, X1, ⟨Lc1, hQ1, l1, y1, z1⟩, st1⟩ := X0.specialBack hx (y := MN_50) rfl hown (mvT hZ (Wd hw 367 rfl)) (mvT hZ (Wd hw 368 rfl)) (mvT hZ (Wd hw 372 rfl)) (by decide) (backOf (W := 0) (rmAic l Z a0 hw [] cS aDE kDE aUS aSS aIE mO a0l h0 n0 O0 GL) hZ (Wd hw 372 rfl) (Wd hw 371 rfl) (by decide) (by decide)) (g := mkF m 1 #[vr a0l] [(.ref a0l)]) rfl (by rw [hml]; rfl) (Steps.refl _) (a := a0l) (argsL := []) (rest := []) (lenOf pdv18 rfl) rfl (by show 2 * 0 + _ ≤ _; exact lEq rfl) (dG hby D58 1 rfl) (fun _ _ => ⟨rfl, e0, (by decide : 0 + 0 ≤ _), (by decide : 0 + 0 ≤ _)⟩)
  dsimp only [Pt.U, Pt.locs, Pt.cells, Pt.slots] at X1 l1 y1 z1 st1 hQ1
  subst l1 y1 z1
  obtain ⟨rfl, N1q, e1⟩ := hQ1
  have N1 := Fr.app N0 N1q
  obtain ⟨fs, hr, hrun, hended, hW, hsame⟩ := X1.leave (v := none) (fun _ => rfl)
  refine ⟨_, _, pre0 _ ?_, hrun, hended, _, _, rfl, ?_, ⟨_, rfl⟩, hW, hsame.mono (by decide) (by decide)⟩
  · show SP p e below s₁ m 0 #[vr a0l] [] _
    refine XS.aloadN X0.here hx rfl (dG hby D58 0 rfl) rfl rfl ?_
    show SP p e below s₁ m 1 #[vr a0l] [(.ref a0l)] _
    refine st1.trans ?_
    show SP p e below T1 m 4 #[vr a0l] [] _
    exact X1.returnOut hx Bd.returns (dG hby D58 2 rfl) hr
  · show Q_rmAil n0 Z cS aDE kDE aUS aSS aIE mO a0l h0 _ T1.heap _
    rw [e1]
    exact ⟨rfl, N1, rfl⟩
theorem D68 : dL jdk_44_method_1_code [(0, .aload_n 0, 1), (1, .invokespecial 1, 3), (4, .aload_n 0, 1), (5, .aload_n 1, 1), (6, .invokestatic 7, 3), (9, .putfield 13, 3), (12, .aload_n 0, 1), (13, .getstatic 19, 3), (16, .putfield 24, 3), (19, .return_, 1)] = true := by decide +kernel
theorem pdv28 : parseMethodDescriptor "(Ljava/lang/Object;)Ljava/lang/Object;" = some ⟨[(.object "java/lang/Object")], some (.object "java/lang/Object")⟩ := by decide +kernel
theorem pnv15 : plainName "java/util/ImmutableCollections$List12" = true := by first | (simp [plainName, overriddenIn]; done) | decide +kernel
abbrev MN_52 : MethodName := ⟨"java/util/ImmutableCollections$List12", "<init>", "(Ljava/lang/Object;)V"⟩
theorem ef_rmT1 (m : MethodId) (a0l : Addr) (ob0 : Addr) : entryFrame m #[(.ref a0l), (.ref ob0)] 2 = mkF m 0 #[vr a0l, vr ob0] [] := by first | (simp [entryFrame, mkF, argsToLocals, Value.category]; done) | rfl
def Q_rmT1 (n0 : Nat) (Z : State) (cS : Int32) (aDE : Addr) (kDE : ClassId) (aUS : Addr) (aSS : Addr) (aIE : Addr) (mO : Addr) (a0l : Addr) (ob0 : Addr) (h0 : Heap) (v : Option Value) (h : Heap) (L : List Loc) : Prop := v = none ∧ Fr n0 L ∧ Keep h0 h [a0l] ∧ (Exa Z h a0l "java/util/ImmutableCollections$List12") ∧ (Fld Z h a0l "java/util/ImmutableCollections$List12" "e0" "Ljava/lang/Object;" (.ref ob0)) ∧ (Fld Z h a0l "java/util/ImmutableCollections$List12" "e1" "Ljava/lang/Object;" (.ref aIE))
theorem rmT1 (l : Launch) (Z : State) (a0 : Array Value) (hw : ∀ d ∈ tables_1, d.before a0 Z = true) (ws : List Jvm.Cond) (cS : Int32) (aDE : Addr) (kDE : ClassId) (aUS : Addr) (aSS : Addr) (aIE : Addr) (mO : Addr) (a0l : Addr) (ob0 : Addr) (h0 : Heap) (n0 : Nat) (O0 : Old Z n0 h0) (GL : GF Z cS aDE kDE aUS aSS aIE mO) (E_a0l : Exa Z h0 a0l "java/util/ImmutableCollections$List12") (F_e0_a0l : Fld Z h0 a0l "java/util/ImmutableCollections$List12" "e0" "Ljava/lang/Object;" .null) (F_e1_a0l : Fld Z h0 a0l "java/util/ImmutableCollections$List12" "e1" "Ljava/lang/Object;" .null) (g_a0l : n0 ≤ a0l) :
    MF l MN_52 jdk_44_method_1_code 2 none ws (Rm 4 0 0 48) #[(.ref a0l), (.ref ob0)] Z h0 (Q_rmT1 n0 Z cS aDE kDE aUS aSS aIE mO a0l ob0 h0) := by
  refine MetFree.of_bodySF (plainFor_of_name pnv15) hisR ?_
  intro p e s m args below meth c s₁ Bd hml0 hP hK
  obtain ⟨rfl, hZ, hh⟩ := hP
  have hx := Bd.exec
  have hby := Bd.bytes
  have hml : c.maxLocals = 2 := hml0
  have hown : s.vm.findClass "java/util/ImmutableCollections$List12" = some m.cls := findClass_of_methodNamed Bd.named
  have hnm := (name_of_methodNamed Bd.named Bd.method).1
  have X0 : Stand p l e (Rm 4 0 0 48) s m #[(.ref a0l), (.ref ob0)] below meth c s₁ [] 0 0 := Stand.of_body Bd
  have e0 : s₁.heap = h0 := by rw [← hh, Bd.state]; rfl
  have N0 := Fr.nil n0
  have pre0 : ∀ t, SP p e below s₁ m 0 #[vr a0l, vr ob0] [] t → Steps p.tables e below (s₁.setTop (entryFrame m #[(.ref a0l), (.ref ob0)] 2)) t := fun t k => castTop (ef_rmT1 m a0l ob0) k
  have GL' := GL
  obtain ⟨GCS, GCP, GDE, GVE, GUS, GSS, GIE, GMO⟩ := GL'
  obtain ⟨_, _, ⟨T1, L1, k1, n1⟩, -, X1, ⟨Lc1, hQ1, l1, y1, z1⟩, st1⟩ := X0.specialBack hx (y := MN_51) rfl hown (mvT hZ (Wd hw 361 rfl)) (mvT hZ (Wd hw 362 rfl)) (mvT hZ (Wd hw 366 rfl)) (by decide) (backOf (W := 0) (rmAil l Z a0 hw [] cS aDE kDE aUS aSS aIE mO a0l h0 n0 O0 GL) hZ (Wd hw 366 rfl) (Wd hw 365 rfl) (by decide) (by decide)) (g := mkF m 1 #[vr a0l, vr ob0] [(.ref a0l)]) rfl (by rw [hml]; rfl) (Steps.refl _) (a := a0l) (argsL := []) (rest := []) (lenOf pdv18 rfl) rfl (by show 2 * 0 + _ ≤ _; exact lEq rfl) (dG hby D68 1 rfl) (fun _ _ => ⟨rfl, e0, (by decide : 0 + 0 ≤ _), (by decide : 0 + 0 ≤ _)⟩)
  dsimp only [Pt.U, Pt.locs, Pt.cells, Pt.slots] at X1 l1 y1 z1 st1 hQ1
  subst l1 y1 z1
  obtain ⟨rfl, N1q, e1⟩ := hQ1
  have N1 := Fr.app N0 N1q
  obtain ⟨_, _, ⟨T2, L2, k2, n2⟩, -, X2, ⟨Lc2, hQ2, l2, y2, z2⟩, st2⟩ := Jvm.LawKit.callS X1 hx (y := MN_49) hown (mvT hZ (Wd hw 375 rfl)) (mvT hZ (Wd hw 376 rfl)) (mvT hZ (Wd hw 133 rfl)) (mvT hZ (Wd hw 377 rfl)) (by decide) (backOf (W := 1) (rmRn l Z a0 hw [] cS aDE kDE aUS aSS aIE mO ob0 h0 n0 O0 GL) hZ (Wd hw 377 rfl) (Wd hw 133 rfl) (by decide) (by decide)) (g := mkF m 6 #[vr a0l, vr ob0] [(.ref ob0), (.ref a0l)]) rfl (by rw [hml]; rfl) (argsL := [(.ref ob0)]) (rest := [(.ref a0l)]) (lenOf pdv28 rfl) rfl (by show 2 * 0 + _ ≤ _; exact lEq rfl) (dG hby D68 4 rfl) (fun _ _ => ⟨rfl, e1, (by decide : 0 + 0 ≤ _), (by decide : 0 + 0 ≤ _)⟩)
  dsimp only [Pt.U, Pt.locs, Pt.cells, Pt.slots] at X2 l2 y2 z2 st2 hQ2
  subst l2 y2 z2
  obtain ⟨rfl, N2q, e2⟩ := hQ2
  have N2 := Fr.app N1 N2q
  obtain ⟨T3, h3, X3, e3, W3, st3⟩ := putF X2 hx hZ hown (host := "") (Or.inl (Wd hw 378 rfl)) Via.refl e2 F_e0_a0l E_a0l (Or.inr ⟨(Wd hw 379 rfl), rfl, hnm⟩) (Wd hw 355 rfl) (ty := (.object "java/lang/Object")) (by decide) rfl rfl (g := mkF m 9 #[vr a0l, vr ob0] [(.ref ob0), (.ref a0l)]) rfl rfl (dG hby D68 5 rfl)
  have Fw3 := F_e0_a0l.same W3
  have K3 : Keep h0 h3 [a0l] := (Keep.refl h0 [a0l]).wr W3 (Or.inl (List.mem_of_getElem? (i := 0) rfl))
  have O3 := O0.wr W3 g_a0l
  have N3 := Fr.snoc X3 N2 g_a0l
  obtain ⟨T4, X4, e4, st4⟩ := getS2 X3 hx hZ hown (Or.inr (Wd hw 433 rfl)) Via.refl e3 (GIE.ext O3.2) (g := mkF m 13 #[vr a0l, vr ob0] [(.ref a0l)]) rfl (dG hby D68 7 rfl)
  obtain ⟨T5, h5, X5, e5, W5, st5⟩ := putF X4 hx hZ hown (host := "") (Or.inl (Wd hw 380 rfl)) Via.refl e4 (F_e1_a0l.other W3 (Or.inr (slot_ne (a0 := a0) (Or.inr (Wd hw 381 rfl)) (Or.inr (Wd hw 379 rfl)) (by decide) (t := (.object "java/lang/Object")) (t' := (.object "java/lang/Object")) (by decide) (by decide)))) (E_a0l.wr W3) (Or.inr ⟨(Wd hw 381 rfl), rfl, hnm⟩) (Wd hw 355 rfl) (ty := (.object "java/lang/Object")) (by decide) rfl rfl (g := mkF m 16 #[vr a0l, vr ob0] [(.ref aIE), (.ref a0l)]) rfl rfl (dG hby D68 8 rfl)
  have Fw5 := (F_e1_a0l.other W3 (Or.inr (slot_ne (a0 := a0) (Or.inr (Wd hw 381 rfl)) (Or.inr (Wd hw 379 rfl)) (by decide) (t := (.object "java/lang/Object")) (t' := (.object "java/lang/Object")) (by decide) (by decide)))).same W5
  have K5 : Keep h0 h5 [a0l] := K3.wr W5 (Or.inl (List.mem_of_getElem? (i := 0) rfl))
  have O5 := O3.wr W5 g_a0l
  have N5 := Fr.snoc X5 N3 g_a0l
  obtain ⟨fs, hr, hrun, hended, hW, hsame⟩ := X5.leave (v := none) (fun _ => rfl)
  refine ⟨_, _, pre0 _ ?_, hrun, hended, _, _, rfl, ?_, ⟨_, rfl⟩, hW, hsame.mono (by decide) (by decide)⟩
  · show SP p e below s₁ m 0 #[vr a0l, vr ob0] [] _
    refine XS.aloadN X0.here hx rfl (dG hby D68 0 rfl) rfl rfl ?_
    show SP p e below s₁ m 1 #[vr a0l, vr ob0] [(.ref a0l)] _
    refine st1.trans ?_
    show SP p e below T1 m 4 #[vr a0l, vr ob0] [] _
    refine XS.aloadN X1.here hx rfl (dG hby D68 2 rfl) rfl rfl ?_
    refine XS.aloadN X1.here hx rfl (dG hby D68 3 rfl) rfl rfl ?_
    show SP p e below T1 m 6 #[vr a0l, vr ob0] [(.ref ob0), (.ref a0l)] _
    refine st2 _ ?_
    show SP p e below T2 m 9 #[vr a0l, vr ob0] [(.ref ob0), (.ref a0l)] _
    refine st3 _ ?_
    show SP p e below T3 m 12 #[vr a0l, vr ob0] [] _
    refine XS.aloadN X3.here hx rfl (dG hby D68 6 rfl) rfl rfl ?_
    show SP p e below T3 m 13 #[vr a0l, vr ob0] [(.ref a0l)] _
    refine st4 _ ?_
    show SP p e below T4 m 16 #[vr a0l, vr ob0] [(.ref aIE), (.ref a0l)] _
    refine st5 _ ?_
    show SP p e below T5 m 19 #[vr a0l, vr ob0] [] _
    exact X5.returnOut hx Bd.returns (dG hby D68 9 rfl) hr
  · show Q_rmT1 n0 Z cS aDE kDE aUS aSS aIE mO a0l ob0 h0 _ T5.heap _
    rw [e5]
    exact ⟨rfl, N5, K5, ((E_a0l.wr W3).wr W5), (Fw3.other W5 (Or.inr (slot_ne (a0 := a0) (Or.inr (Wd hw 379 rfl)) (Or.inr (Wd hw 381 rfl)) (by decide) (t := (.object "java/lang/Object")) (t' := (.object "java/lang/Object")) (by decide) (by decide)))), Fw5⟩
theorem D57 : dL jdk_44_method_2_code [(0, .aload_n 0, 1), (1, .invokespecial 1, 3), (4, .aload_n 0, 1), (5, .aload_n 1, 1), (6, .invokestatic 7, 3), (9, .putfield 13, 3), (12, .aload_n 0, 1), (13, .aload_n 2, 1), (14, .invokestatic 7, 3), (17, .putfield 24, 3), (20, .return_, 1)] = true := by decide +kernel
abbrev MN_53 : MethodName := ⟨"java/util/ImmutableCollections$List12", "<init>", "(Ljava/lang/Object;Ljava/lang/Object;)V"⟩
theorem ef_rmT2 (m : MethodId) (a0l : Addr) (ob0 : Addr) (ob1 : Addr) : entryFrame m #[(.ref a0l), (.ref ob0), (.ref ob1)] 3 = mkF m 0 #[vr a0l, vr ob0, vr ob1] [] := by first | (simp [entryFrame, mkF, argsToLocals, Value.category]; done) | rfl
def Q_rmT2 (n0 : Nat) (Z : State) (cS : Int32) (aDE : Addr) (kDE : ClassId) (aUS : Addr) (aSS : Addr) (aIE : Addr) (mO : Addr) (a0l : Addr) (ob0 : Addr) (ob1 : Addr) (h0 : Heap) (v : Option Value) (h : Heap) (L : List Loc) : Prop := v = none ∧ Fr n0 L ∧ Keep h0 h [a0l] ∧ (Exa Z h a0l "java/util/ImmutableCollections$List12") ∧ (Fld Z h a0l "java/util/ImmutableCollections$List12" "e0" "Ljava/lang/Object;" (.ref ob0)) ∧ (Fld Z h a0l "java/util/ImmutableCollections$List12" "e1" "Ljava/lang/Object;" (.ref ob1))
theorem rmT2 (l : Launch) (Z : State) (a0 : Array Value) (hw : ∀ d ∈ tables_1, d.before a0 Z = true) (ws : List Jvm.Cond) (cS : Int32) (aDE : Addr) (kDE : ClassId) (aUS : Addr) (aSS : Addr) (aIE : Addr) (mO : Addr) (a0l : Addr) (ob0 : Addr) (ob1 : Addr) (h0 : Heap) (n0 : Nat) (O0 : Old Z n0 h0) (GL : GF Z cS aDE kDE aUS aSS aIE mO) (E_a0l : Exa Z h0 a0l "java/util/ImmutableCollections$List12") (F_e0_a0l : Fld Z h0 a0l "java/util/ImmutableCollections$List12" "e0" "Ljava/lang/Object;" .null) (F_e1_a0l : Fld Z h0 a0l "java/util/ImmutableCollections$List12" "e1" "Ljava/lang/Object;" .null) (g_a0l : n0 ≤ a0l) :
    MF l MN_53 jdk_44_method_2_code 3 none ws (Rm 4 0 0 48) #[(.ref a0l), (.ref ob0), (.ref ob1)] Z h0 (Q_rmT2 n0 Z cS aDE kDE aUS aSS aIE mO a0l ob0 ob1 h0) := by
  refine MetFree.of_bodySF (plainFor_of_name pnv15) hisR ?_
  intro p e s m args below meth c s₁ Bd hml0 hP hK
  obtain ⟨rfl, hZ, hh⟩ := hP
  have hx := Bd.exec
  have hby := Bd.bytes
  have hml : c.maxLocals = 3 := hml0
  have hown : s.vm.findClass "java/util/ImmutableCollections$List12" = some m.cls := findClass_of_methodNamed Bd.named
  have hnm := (name_of_methodNamed Bd.named Bd.method).1
  have X0 : Stand p l e (Rm 4 0 0 48) s m #[(.ref a0l), (.ref ob0), (.ref ob1)] below meth c s₁ [] 0 0 := Stand.of_body Bd
  have e0 : s₁.heap = h0 := by rw [← hh, Bd.state]; rfl
  have N0 := Fr.nil n0
  have pre0 : ∀ t, SP p e below s₁ m 0 #[vr a0l, vr ob0, vr ob1] [] t → Steps p.tables e below (s₁.setTop (entryFrame m #[(.ref a0l), (.ref ob0), (.ref ob1)] 3)) t := fun t k => castTop (ef_rmT2 m a0l ob0 ob1) k
  have GL' := GL
  obtain ⟨GCS, GCP, GDE, GVE, GUS, GSS, GIE, GMO⟩ := GL'
  obtain ⟨_, _, ⟨T1, L1, k1, n1⟩, -, X1, ⟨Lc1, hQ1, l1, y1, z1⟩, st1⟩ := X0.specialBack hx (y := MN_51) rfl hown (mvT hZ (Wd hw 361 rfl)) (mvT hZ (Wd hw 362 rfl)) (mvT hZ (Wd hw 366 rfl)) (by decide) (backOf (W := 0) (rmAil l Z a0 hw [] cS aDE kDE aUS aSS aIE mO a0l h0 n0 O0 GL) hZ (Wd hw 366 rfl) (Wd hw 365 rfl) (by decide) (by decide)) (g := mkF m 1 #[vr a0l, vr ob0, vr ob1] [(.ref a0l)]) rfl (by rw [hml]; rfl) (Steps.refl _) (a := a0l) (argsL := []) (rest := []) (lenOf pdv18 rfl) rfl (by show 2 * 0 + _ ≤ _; exact lEq rfl) (dG hby D57 1 rfl) (fun _ _ => ⟨rfl, e0, (by decide : 0 + 0 ≤ _), (by decide : 0 + 0 ≤ _)⟩)
  dsimp only [Pt.U, Pt.locs, Pt.cells, Pt.slots] at X1 l1 y1 z1 st1 hQ1
  subst l1 y1 z1
  obtain ⟨rfl, N1q, e1⟩ := hQ1
  have N1 := Fr.app N0 N1q
  obtain ⟨_, _, ⟨T2, L2, k2, n2⟩, -, X2, ⟨Lc2, hQ2, l2, y2, z2⟩, st2⟩ := Jvm.LawKit.callS X1 hx (y := MN_49) hown (mvT hZ (Wd hw 375 rfl)) (mvT hZ (Wd hw 376 rfl)) (mvT hZ (Wd hw 133 rfl)) (mvT hZ (Wd hw 377 rfl)) (by decide) (backOf (W := 1) (rmRn l Z a0 hw [] cS aDE kDE aUS aSS aIE mO ob0 h0 n0 O0 GL) hZ (Wd hw 377 rfl) (Wd hw 133 rfl) (by decide) (by decide)) (g := mkF m 6 #[vr a0l, vr ob0, vr ob1] [(.ref ob0), (.ref a0l)]) rfl (by rw [hml]; rfl) (argsL := [(.ref ob0)]) (rest := [(.ref a0l)]) (lenOf pdv28 rfl) rfl (by show 2 * 0 + _ ≤ _; exact lEq rfl) (dG hby D57 4 rfl) (fun _ _ => ⟨rfl, e1, (by decide : 0 + 0 ≤ _), (by decide : 0 + 0 ≤ _)⟩)
  dsimp only [Pt.U, Pt.locs, Pt.cells, Pt.slots] at X2 l2 y2 z2 st2 hQ2
  subst l2 y2 z2
  obtain ⟨rfl, N2q, e2⟩ := hQ2
  have N2 := Fr.app N1 N2q
  obtain ⟨T3, h3, X3, e3, W3, st3⟩ := putF X2 hx hZ hown (host := "") (Or.inl (Wd hw 378 rfl)) Via.refl e2 F_e0_a0l E_a0l (Or.inr ⟨(Wd hw 379 rfl), rfl, hnm⟩) (Wd hw 355 rfl) (ty := (.object "java/lang/Object")) (by decide) rfl rfl (g := mkF m 9 #[vr a0l, vr ob0, vr ob1] [(.ref ob0), (.ref a0l)]) rfl rfl (dG hby D57 5 rfl)
  have Fw3 := F_e0_a0l.same W3
  have K3 : Keep h0 h3 [a0l] := (Keep.refl h0 [a0l]).wr W3 (Or.inl (List.mem_of_getElem? (i := 0) rfl))
  have O3 := O0.wr W3 g_a0l
  have N3 := Fr.snoc X3 N2 g_a0l
  obtain ⟨_, _, ⟨T4, L4, k4, n4⟩, -, X4, ⟨Lc4, hQ4, l4, y4, z4⟩, st4⟩ := Jvm.LawKit.callS X3 hx (y := MN_49) hown (mvT hZ (Wd hw 375 rfl)) (mvT hZ (Wd hw 376 rfl)) (mvT hZ (Wd hw 133 rfl)) (mvT hZ (Wd hw 377 rfl)) (by decide) (backOf (W := 1) (rmRn l Z a0 hw [] cS aDE kDE aUS aSS aIE mO ob1 h3 n0 O3 GL) hZ (Wd hw 377 rfl) (Wd hw 133 rfl) (by decide) (by decide)) (g := mkF m 14 #[vr a0l, vr ob0, vr ob1] [(.ref ob1), (.ref a0l)]) rfl (by rw [hml]; rfl) (argsL := [(.ref ob1)]) (rest := [(.ref a0l)]) (lenOf pdv28 rfl) rfl (by show 2 * 0 + _ ≤ _; exact lEq rfl) (dG hby D57 8 rfl) (fun _ _ => ⟨rfl, e3, (by decide : 0 + 0 ≤ _), (by decide : 0 + 0 ≤ _)⟩)
  dsimp only [Pt.U, Pt.locs, Pt.cells, Pt.slots] at X4 l4 y4 z4 st4 hQ4
  subst l4 y4 z4
  obtain ⟨rfl, N4q, e4⟩ := hQ4
  have N4 := Fr.app N3 N4q
  obtain ⟨T5, h5, X5, e5, W5, st5⟩ := putF X4 hx hZ hown (host := "") (Or.inl (Wd hw 380 rfl)) Via.refl e4 (F_e1_a0l.other W3 (Or.inr (slot_ne (a0 := a0) (Or.inr (Wd hw 381 rfl)) (Or.inr (Wd hw 379 rfl)) (by decide) (t := (.object "java/lang/Object")) (t' := (.object "java/lang/Object")) (by decide) (by decide)))) (E_a0l.wr W3) (Or.inr ⟨(Wd hw 381 rfl), rfl, hnm⟩) (Wd hw 355 rfl) (ty := (.object "java/lang/Object")) (by decide) rfl rfl (g := mkF m 17 #[vr a0l, vr ob0, vr ob1] [(.ref ob1), (.ref a0l)]) rfl rfl (dG hby D57 9 rfl)
  have Fw5 := (F_e1_a0l.other W3 (Or.inr (slot_ne (a0 := a0) (Or.inr (Wd hw 381 rfl)) (Or.inr (Wd hw 379 rfl)) (by decide) (t := (.object "java/lang/Object")) (t' := (.object "java/lang/Object")) (by decide) (by decide)))).same W5
  have K5 : Keep h0 h5 [a0l] := K3.wr W5 (Or.inl (List.mem_of_getElem? (i := 0) rfl))
  have O5 := O3.wr W5 g_a0l
  have N5 := Fr.snoc X5 N4 g_a0l
  obtain ⟨fs, hr, hrun, hended, hW, hsame⟩ := X5.leave (v := none) (fun _ => rfl)
  refine ⟨_, _, pre0 _ ?_, hrun, hended, _, _, rfl, ?_, ⟨_, rfl⟩, hW, hsame.mono (by decide) (by decide)⟩
  · show SP p e below s₁ m 0 #[vr a0l, vr ob0, vr ob1] [] _
    refine XS.aloadN X0.here hx rfl (dG hby D57 0 rfl) rfl rfl ?_
    show SP p e below s₁ m 1 #[vr a0l, vr ob0, vr ob1] [(.ref a0l)] _
    refine st1.trans ?_
    show SP p e below T1 m 4 #[vr a0l, vr ob0, vr ob1] [] _
    refine XS.aloadN X1.here hx rfl (dG hby D57 2 rfl) rfl rfl ?_
    refine XS.aloadN X1.here hx rfl (dG hby D57 3 rfl) rfl rfl ?_
    show SP p e below T1 m 6 #[vr a0l, vr ob0, vr ob1] [(.ref ob0), (.ref a0l)] _
    refine st2 _ ?_
    show SP p e below T2 m 9 #[vr a0l, vr ob0, vr ob1] [(.ref ob0), (.ref a0l)] _
    refine st3 _ ?_
    show SP p e below T3 m 12 #[vr a0l, vr ob0, vr ob1] [] _
    refine XS.aloadN X3.here hx rfl (dG hby D57 6 rfl) rfl rfl ?_
    refine XS.aloadN X3.here hx rfl (dG hby D57 7 rfl) rfl rfl ?_
    show SP p e below T3 m 14 #[vr a0l, vr ob0, vr ob1] [(.ref ob1), (.ref a0l)] _
    refine st4 _ ?_
    show SP p e below T4 m 17 #[vr a0l, vr ob0, vr ob1] [(.ref ob1), (.ref a0l)] _
    refine st5 _ ?_
    show SP p e below T5 m 20 #[vr a0l, vr ob0, vr ob1] [] _
    exact X5.returnOut hx Bd.returns (dG hby D57 10 rfl) hr
  · show Q_rmT2 n0 Z cS aDE kDE aUS aSS aIE mO a0l ob0 ob1 h0 _ T5.heap _
    rw [e5]
    exact ⟨rfl, N5, K5, ((E_a0l.wr W3).wr W5), (Fw3.other W5 (Or.inr (slot_ne (a0 := a0) (Or.inr (Wd hw 379 rfl)) (Or.inr (Wd hw 381 rfl)) (by decide) (t := (.object "java/lang/Object")) (t' := (.object "java/lang/Object")) (by decide) (by decide)))), Fw5⟩
theorem D66 : dL jdk_45_method_1_code [(0, .aload_n 0, 1), (1, .invokespecial 1, 3), (4, .aload_n 0, 1), (5, .aload_n 1, 1), (6, .putfield 7, 3), (9, .aload_n 0, 1), (10, .iload_n 2, 1), (11, .putfield 13, 3), (14, .return_, 1)] = true := by decide +kernel
theorem pnv16 : plainName "java/util/ImmutableCollections$ListN" = true := by first | (simp [plainName, overriddenIn]; done) | decide +kernel
abbrev MN_54 : MethodName := ⟨"java/util/ImmutableCollections$ListN", "<init>", "([Ljava/lang/Object;Z)V"⟩
theorem ef_rmTn (m : MethodId) (a0l : Addr) (a1d : Addr) : entryFrame m #[(.ref a0l), (.ref a1d), (.int 0)] 3 = mkF m 0 #[vr a0l, vr a1d, vi (0 : Int32)] [] := by first | (simp [entryFrame, mkF, argsToLocals, Value.category]; done) | rfl
def Q_rmTn (n0 : Nat) (Z : State) (cS : Int32) (aDE : Addr) (kDE : ClassId) (aUS : Addr) (aSS : Addr) (aIE : Addr) (mO : Addr) (a0l : Addr) (a1d : Addr) (h0 : Heap) (v : Option Value) (h : Heap) (L : List Loc) : Prop := v = none ∧ Fr n0 L ∧ Keep h0 h [a0l] ∧ (Exa Z h a0l "java/util/ImmutableCollections$ListN") ∧ (Fld Z h a0l "java/util/ImmutableCollections$ListN" "elements" "[Ljava/lang/Object;" (.ref a1d))
theorem rmTn (l : Launch) (Z : State) (a0 : Array Value) (hw : ∀ d ∈ tables_1, d.before a0 Z = true) (ws : List Jvm.Cond) (cS : Int32) (aDE : Addr) (kDE : ClassId) (aUS : Addr) (aSS : Addr) (aIE : Addr) (mO : Addr) (a0l : Addr) (a1d : Addr) (h0 : Heap) (n0 : Nat) (O0 : Old Z n0 h0) (GL : GF Z cS aDE kDE aUS aSS aIE mO) (E_a0l : Exa Z h0 a0l "java/util/ImmutableCollections$ListN") (F_elements_a0l : Fld Z h0 a0l "java/util/ImmutableCollections$ListN" "elements" "[Ljava/lang/Object;" .null) (F_allowNulls_a0l : Fld Z h0 a0l "java/util/ImmutableCollections$ListN" "allowNulls" "Z" (.int 0)) (g_a0l : n0 ≤ a0l) :
    MF l MN_54 jdk_45_method_1_code 3 none ws (Rm 4 0 0 48) #[(.ref a0l), (.ref a1d), (.int 0)] Z h0 (Q_rmTn n0 Z cS aDE kDE aUS aSS aIE mO a0l a1d h0) := by
  refine MetFree.of_bodySF (plainFor_of_name pnv16) hisR ?_
  intro p e s m args below meth c s₁ Bd hml0 hP hK
  obtain ⟨rfl, hZ, hh⟩ := hP
  have hx := Bd.exec
  have hby := Bd.bytes
  have hml : c.maxLocals = 3 := hml0
  have hown : s.vm.findClass "java/util/ImmutableCollections$ListN" = some m.cls := findClass_of_methodNamed Bd.named
  have hnm := (name_of_methodNamed Bd.named Bd.method).1
  have X0 : Stand p l e (Rm 4 0 0 48) s m #[(.ref a0l), (.ref a1d), (.int 0)] below meth c s₁ [] 0 0 := Stand.of_body Bd
  have e0 : s₁.heap = h0 := by rw [← hh, Bd.state]; rfl
  have N0 := Fr.nil n0
  have pre0 : ∀ t, SP p e below s₁ m 0 #[vr a0l, vr a1d, vi (0 : Int32)] [] t → Steps p.tables e below (s₁.setTop (entryFrame m #[(.ref a0l), (.ref a1d), (.int 0)] 3)) t := fun t k => castTop (ef_rmTn m a0l a1d) k
  have GL' := GL
  obtain ⟨GCS, GCP, GDE, GVE, GUS, GSS, GIE, GMO⟩ := GL'
  obtain ⟨_, _, ⟨T1, L1, k1, n1⟩, -, X1, ⟨Lc1, hQ1, l1, y1, z1⟩, st1⟩ := X0.specialBack hx (y := MN_51) rfl hown (mvT hZ (Wd hw 416 rfl)) (mvT hZ (Wd hw 362 rfl)) (mvT hZ (Wd hw 366 rfl)) (by decide) (backOf (W := 0) (rmAil l Z a0 hw [] cS aDE kDE aUS aSS aIE mO a0l h0 n0 O0 GL) hZ (Wd hw 366 rfl) (Wd hw 365 rfl) (by decide) (by decide)) (g := mkF m 1 #[vr a0l, vr a1d, vi (0 : Int32)] [(.ref a0l)]) rfl (by rw [hml]; rfl) (Steps.refl _) (a := a0l) (argsL := []) (rest := []) (lenOf pdv18 rfl) rfl (by show 2 * 0 + _ ≤ _; exact lEq rfl) (dG hby D66 1 rfl) (fun _ _ => ⟨rfl, e0, (by decide : 0 + 0 ≤ _), (by decide : 0 + 0 ≤ _)⟩)
  dsimp only [Pt.U, Pt.locs, Pt.cells, Pt.slots] at X1 l1 y1 z1 st1 hQ1
  subst l1 y1 z1
  obtain ⟨rfl, N1q, e1⟩ := hQ1
  have N1 := Fr.app N0 N1q
  obtain ⟨T2, h2, X2, e2, W2, st2⟩ := putF X1 hx hZ hown (host := "") (Or.inl (Wd hw 420 rfl)) Via.refl e1 F_elements_a0l E_a0l (Or.inr ⟨(Wd hw 421 rfl), rfl, hnm⟩) (Wd hw 410 rfl) (ty := (.array (.object "java/lang/Object"))) (by decide) rfl rfl (g := mkF m 6 #[vr a0l, vr a1d, vi (0 : Int32)] [(.ref a1d), (.ref a0l)]) rfl rfl (dG hby D66 4 rfl)
  have Fw2 := F_elements_a0l.same W2
  have K2 : Keep h0 h2 [a0l] := (Keep.refl h0 [a0l]).wr W2 (Or.inl (List.mem_of_getElem? (i := 0) rfl))
  have O2 := O0.wr W2 g_a0l
  have N2 := Fr.snoc X2 N1 g_a0l
  obtain ⟨T3, h3, X3, e3, W3, st3⟩ := putFN X2 hx hZ hown (Wd hw 422 rfl) Via.refl e2 (F_allowNulls_a0l.other W2 (Or.inr (slot_ne (a0 := a0) (Or.inr (Wd hw 423 rfl)) (Or.inr (Wd hw 421 rfl)) (by decide) (t := .boolean) (t' := (.array (.object "java/lang/Object"))) (by decide) (by decide)))) (E_a0l.wr W2) (Or.inr ⟨(Wd hw 423 rfl), rfl, hnm⟩) (Wd hw 410 rfl) (ty := .boolean) (v' := (.int 0)) (by decide) rfl (by decide) (g := mkF m 11 #[vr a0l, vr a1d, vi (0 : Int32)] [(.int 0), (.ref a0l)]) rfl rfl (dG hby D66 7 rfl)
  have Fw3 := (F_allowNulls_a0l.other W2 (Or.inr (slot_ne (a0 := a0) (Or.inr (Wd hw 423 rfl)) (Or.inr (Wd hw 421 rfl)) (by decide) (t := .boolean) (t' := (.array (.object "java/lang/Object"))) (by decide) (by decide)))).same W3
  have K3 : Keep h0 h3 [a0l] := K2.wr W3 (Or.inl (List.mem_of_getElem? (i := 0) rfl))
  have O3 := O2.wr W3 g_a0l
  have N3 := Fr.snoc X3 N2 g_a0l
  obtain ⟨fs, hr, hrun, hended, hW, hsame⟩ := X3.leave (v := none) (fun _ => rfl)
  refine ⟨_, _, pre0 _ ?_, hrun, hended, _, _, rfl, ?_, ⟨_, rfl⟩, hW, hsame.mono (by decide) (by decide)⟩
  · show SP p e below s₁ m 0 #[vr a0l, vr a1d, vi (0 : Int32)] [] _
    refine XS.aloadN X0.here hx rfl (dG hby D66 0 rfl) rfl rfl ?_
    show SP p e below s₁ m 1 #[vr a0l, vr a1d, vi (0 : Int32)] [(.ref a0l)] _
    refine st1.trans ?_
    show SP p e below T1 m 4 #[vr a0l, vr a1d, vi (0 : Int32)] [] _
    refine XS.aloadN X1.here hx rfl (dG hby D66 2 rfl) rfl rfl ?_
    refine XS.aloadN X1.here hx rfl (dG hby D66 3 rfl) rfl rfl ?_
    show SP p e below T1 m 6 #[vr a0l, vr a1d, vi (0 : Int32)] [(.ref a1d), (.ref a0l)] _
    refine st2 _ ?_
    show SP p e below T2 m 9 #[vr a0l, vr a1d, vi (0 : Int32)] [] _
    refine XS.aloadN X2.here hx rfl (dG hby D66 5 rfl) rfl rfl ?_
    refine XS.iloadN X2.here hx rfl (dG hby D66 6 rfl) rfl ?_
    show SP p e below T2 m 11 #[vr a0l, vr a1d, vi (0 : Int32)] [(.int 0), (.ref a0l)] _
    refine st3 _ ?_
    show SP p e below T3 m 14 #[vr a0l, vr a1d, vi (0 : Int32)] [] _
    exact X3.returnOut hx Bd.returns (dG hby D66 8 rfl) hr
  · show Q_rmTn n0 Z cS aDE kDE aUS aSS aIE mO a0l a1d h0 _ T3.heap _
    rw [e3]
    exact ⟨rfl, N3, K3, ((E_a0l.wr W2).wr W3), (Fw2.other W3 (Or.inr (slot_ne (a0 := a0) (Or.inr (Wd hw 421 rfl)) (Or.inr (Wd hw 423 rfl)) (by decide) (t := (.array (.object "java/lang/Object"))) (t' := .boolean) (by decide) (by decide))))⟩
theorem D65 : dL jdk_56_method_4_code [(0, .aload_n 0, 1), (1, .arraylength, 1), (2, .anewarray 2, 3), (5, .astore_n 1, 1), (6, .iconst 0, 1), (7, .istore_n 2, 1), (8, .iload_n 2, 1), (9, .aload_n 0, 1), (10, .arraylength, 1), (11, .if_icmp .ge 18, 3), (14, .aload_n 1, 1), (15, .iload_n 2, 1), (16, .aload_n 0, 1), (17, .iload_n 2, 1), (18, .aaload, 1), (19, .invokestatic 37, 3), (22, .aastore, 1), (23, .iinc 2 1, 3), (26, .goto (-18), 3), (29, .new 12, 3), (32, .dup, 1), (33, .aload_n 1, 1), (34, .iconst 0, 1), (35, .invokespecial 43, 3), (38, .areturn, 1)] = true := by decide +kernel
theorem pdv29 : parseMethodDescriptor "([Ljava/lang/Object;Z)V" = some ⟨[(.array (.object "java/lang/Object")), .boolean], none⟩ := by decide +kernel
theorem pnv17 : plainName "java/util/ImmutableCollections" = true := by first | (simp [plainName, overriddenIn]; done) | decide +kernel
abbrev MN_55 : MethodName := ⟨"java/util/ImmutableCollections", "listFromArray", "([Ljava/lang/Object;)Ljava/util/List;"⟩
theorem ef_rmLfa (m : MethodId) (a0d : Addr) : entryFrame m #[(.ref a0d)] 3 = mkF m 0 #[vr a0d, .unset, .unset] [] := by first | (simp [entryFrame, mkF, argsToLocals, Value.category]; done) | rfl
def Q_rmLfa (n0 : Nat) (Z : State) (cS : Int32) (aDE : Addr) (kDE : ClassId) (aUS : Addr) (aSS : Addr) (aIE : Addr) (mO : Addr) (a0d : Addr) (ka : ClassId) (ob0 : Addr) (ob1 : Addr) (ob2 : Addr) (h0 : Heap) (v : Option Value) (h : Heap) (L : List Loc) : Prop := ∃ b : Addr, ∃ d : Addr, ∃ kd : ClassId, v = some (.ref b) ∧ Fr n0 L ∧ Keep h0 h [] ∧ (h0.size ≤ b) ∧ (h0.size ≤ d) ∧ (Exa Z h b "java/util/ImmutableCollections$ListN") ∧ (Fld Z h b "java/util/ImmutableCollections$ListN" "elements" "[Ljava/lang/Object;" (.ref d)) ∧ (Arv Z h d kd (.object "java/lang/Object") (3 : Int32) [(.ref ob0), (.ref ob1), (.ref ob2)] .null)
theorem rmLfa (l : Launch) (Z : State) (a0 : Array Value) (hw : ∀ d ∈ tables_1, d.before a0 Z = true) (ws : List Jvm.Cond) (cS : Int32) (aDE : Addr) (kDE : ClassId) (aUS : Addr) (aSS : Addr) (aIE : Addr) (mO : Addr) (a0d : Addr) (ka : ClassId) (ob0 : Addr) (ob1 : Addr) (ob2 : Addr) (h0 : Heap) (n0 : Nat) (O0 : Old Z n0 h0) (GL : GF Z cS aDE kDE aUS aSS aIE mO) (V_a0d : Arv Z h0 a0d ka (.object "java/lang/Object") (3 : Int32) [(.ref ob0), (.ref ob1), (.ref ob2)] .null) (E_ob0 : Exa Z h0 ob0 "com/example/grantline/grantline/PolicyException$Problem") (E_ob1 : Exa Z h0 ob1 "com/example/grantline/grantline/PolicyException$Problem") (E_ob2 : Exa Z h0 ob2 "com/example/grantline/grantline/PolicyException$Problem") :
    MF l MN_55 jdk_56_method_4_code 3 (some (.object "java/util/List")) ws (Rm 5 2 5 63) #[(.ref a0d)] Z h0 (Q_rmLfa n0 Z cS aDE kDE aUS aSS aIE mO a0d ka ob0 ob1 ob2 h0) := by
  refine MetFree.of_bodySF (plainFor_of_name pnv17) hisR ?_
  intro p e s m args below meth c s₁ Bd hml0 hP hK
  obtain ⟨rfl, hZ, hh⟩ := hP
  have hx := Bd.exec
  have hby := Bd.bytes
  have hml : c.maxLocals = 3 := hml0
  have hown : s.vm.findClass "java/util/ImmutableCollections" = some m.cls := findClass_of_methodNamed Bd.named
  have hnm := (name_of_methodNamed Bd.named Bd.method).1
  have X0 : Stand p l e (Rm 5 2 5 63) s m #[(.ref a0d)] below meth c s₁ [] 0 0 := Stand.of_body Bd
  have e0 : s₁.heap = h0 := by rw [← hh, Bd.state]; rfl
  have N0 := Fr.nil n0
  have pre0 : ∀ t, SP p e below s₁ m 0 #[vr a0d, .unset, .unset] [] t → Steps p.tables e below (s₁.setTop (entryFrame m #[(.ref a0d)] 3)) t := fun t k => castTop (ef_rmLfa m a0d) k
  have GL' := GL
  obtain ⟨GCS, GCP, GDE, GVE, GUS, GSS, GIE, GMO⟩ := GL'
  obtain ⟨cl1, Ar1, -, S1, N1_, -, -⟩ := id (V_a0d)
  obtain ⟨T2, h2, k2, X2, e2, E2, A2, A2', Ov2, st2⟩ := newRE X0 hx hZ hown (Wd hw 408 rfl) (Wd hw 103 rfl) e0 (g := mkF m 2 #[vr a0d, .unset, .unset] [(.int 3)]) rfl (dG hby D65 2 rfl) rfl (by decide) (cap := 3) (by decide) (by decide) (by decide) (by decide) (ad := "[Ljava/lang/Object;") rfl
  obtain ⟨b2, g2⟩ : ∃ z, z = h0.size := ⟨_, rfl⟩
  rw [← g2] at A2 A2' st2
  have g_b2 : n0 ≤ b2 := lTr (own_sz O0) (lEq g2.symm)
  have sz_b2 : h0.size ≤ b2 := lTr (Keep.refl h0 []).1 (lEq g2.symm)
  have K2 : Keep h0 h2 [] := (Keep.refl h0 []).ext E2
  have O2 := O0.ext E2
  have V_b2 : Arv Z h2 b2 k2 (.object "java/lang/Object") (3 : Int32) [.null, .null, .null] .null := (Arv.new A2 (by decide)).pad (pad_rep [] .null 3)
  obtain ⟨cl3, Ar3, -, S3, N3_, -, -⟩ := id ((V_a0d.ext E2))
  obtain ⟨cl4, Ar4, -, S4, N4_, H4, G4⟩ := id ((V_a0d.ext E2))
  have hin4 : ¬ ((0 : Int32) < 0 ∨ cl4.slots.size ≤ ((0 : Int32)).toNatClampNeg) := inb_of S4 ⟨(by decide), (by decide)⟩
  have hat4 : cl4.slots[((0 : Int32)).toNatClampNeg]? = some (.ref ob0) := H4.at hin4 rfl
  obtain ⟨_, _, ⟨T5, L5, k5, n5⟩, -, X5, ⟨Lc5, hQ5, l5, y5, z5⟩, st5⟩ := Jvm.LawKit.callS X2 hx (y := MN_49) hown (mvT hZ (Wd hw 409 rfl)) (mvT hZ (Wd hw 376 rfl)) (mvT hZ (Wd hw 133 rfl)) (mvT hZ (Wd hw 377 rfl)) (by decide) (backOf (W := 2) (rmRn l Z a0 hw [] cS aDE kDE aUS aSS aIE mO ob0 h2 n0 O2 GL) hZ (Wd hw 377 rfl) (Wd hw 133 rfl) (by decide) (by decide)) (g := mkF m 19 #[vr a0d, vr b2, vi (0 : Int32)] [(.ref ob0), (.int 0), (.ref b2)]) rfl (by rw [hml]; rfl) (argsL := [(.ref ob0)]) (rest := [(.int 0), (.ref b2)]) (lenOf pdv28 rfl) rfl (by show 2 * 0 + _ ≤ _; exact lEq rfl) (dG hby D65 15 rfl) (fun _ _ => ⟨rfl, e2, (by decide : 1 + 0 ≤ _), (by decide : 3 + 0 ≤ _)⟩)
  dsimp only [Pt.U, Pt.locs, Pt.cells, Pt.slots] at X5 l5 y5 z5 st5 hQ5
  subst l5 y5 z5
  obtain ⟨rfl, N5q, e5⟩ := hQ5
  have N5 := Fr.app N0 N5q
  obtain ⟨cl6, Ar6, q6, S6, N6_, H6, G6⟩ := id (V_b2)
  have hin6 : ¬ ((0 : Int32) < 0 ∨ cl6.slots.size ≤ ((0 : Int32)).toNatClampNeg) := inb_of S6 ⟨(by decide), (by decide)⟩
  obtain ⟨T6, h6, X6, e6, W6, st6⟩ := stR X5 hx hZ e5 Ar6 (j := (0 : Int32)) hin6 rfl (Sto.ofV Ar6 q6 Ov2 (Ins.of_exa (E_ob0.ext E2) (Wd hw 104 rfl))) (g := mkF m 22 #[vr a0d, vr b2, vi (0 : Int32)] [(.ref ob0), (.int 0), (.ref b2)]) rfl rfl (dG hby D65 16 rfl)
  have K6 : Keep h0 h6 [] := K2.wr W6 (Or.inr sz_b2)
  have O6 := O2.wr W6 g_b2
  have N6 := Fr.snoc X6 N5 g_b2
  have V6 : Arv Z h6 b2 k2 (.object "java/lang/Object") (3 : Int32) [(.ref ob0), .null, .null] .null := Arv.set Ar6 q6 S6 N6_ H6 G6 rfl W6 0 rfl (Nat.le_of_ble_eq_true rfl)
  obtain ⟨cl7, Ar7, -, S7, N7_, -, -⟩ := id (((V_a0d.ext E2).other W6 (nLt (lLt V_a0d.lt (lEq g2.symm)))))
  obtain ⟨cl8, Ar8, -, S8, N8_, H8, G8⟩ := id (((V_a0d.ext E2).other W6 (nLt (lLt V_a0d.lt (lEq g2.symm)))))
  have hin8 : ¬ ((1 : Int32) < 0 ∨ cl8.slots.size ≤ ((1 : Int32)).toNatClampNeg) := inb_of S8 ⟨(by decide), (by decide)⟩
  have hat8 : cl8.slots[((1 : Int32)).toNatClampNeg]? = some (.ref ob1) := H8.at hin8 rfl
  obtain ⟨_, _, ⟨T9, L9, k9, n9⟩, -, X9, ⟨Lc9, hQ9, l9, y9, z9⟩, st9⟩ := Jvm.LawKit.callS X6 hx (y := MN_49) hown (mvT hZ (Wd hw 409 rfl)) (mvT hZ (Wd hw 376 rfl)) (mvT hZ (Wd hw 133 rfl)) (mvT hZ (Wd hw 377 rfl)) (by decide) (backOf (W := 2) (rmRn l Z a0 hw [] cS aDE kDE aUS aSS aIE mO ob1 h6 n0 O6 GL) hZ (Wd hw 377 rfl) (Wd hw 133 rfl) (by decide) (by decide)) (g := mkF m 19 #[vr a0d, vr b2, vi (1 : Int32)] [(.ref ob1), (.int 1), (.ref b2)]) rfl (by rw [hml]; rfl) (argsL := [(.ref ob1)]) (rest := [(.int 1), (.ref b2)]) (lenOf pdv28 rfl) rfl (by show 2 * 0 + _ ≤ _; exact lEq rfl) (dG hby D65 15 rfl) (fun _ _ => ⟨rfl, e6, (by decide : 1 + 0 ≤ _), (by decide : 3 + 0 ≤ _)⟩)
  dsimp only [Pt.U, Pt.locs, Pt.cells, Pt.slots] at X9 l9 y9 z9 st9 hQ9
  subst l9 y9 z9
  obtain ⟨rfl, N9q, e9⟩ := hQ9
  have N9 := Fr.app N6 N9q
  obtain ⟨cl10, Ar10, q10, S10, N10_, H10, G10⟩ := id (V6)
  have hin10 : ¬ ((1 : Int32) < 0 ∨ cl10.slots.size ≤ ((1 : Int32)).toNatClampNeg) := inb_of S10 ⟨(by decide), (by decide)⟩
  obtain ⟨T10, h10, X10, e10, W10, st10⟩ := stR X9 hx hZ e9 Ar10 (j := (1 : Int32)) hin10 rfl (Sto.ofV Ar10 q10 Ov2 (Ins.of_exa ((E_ob1.ext E2).wr W6) (Wd hw 104 rfl))) (g := mkF m 22 #[vr a0d, vr b2, vi (1 : Int32)] [(.ref ob1), (.int 1), (.ref b2)]) rfl rfl (dG hby D65 16 rfl)
  have K10 : Keep h0 h10 [] := K6.wr W10 (Or.inr sz_b2)
  have O10 := O6.wr W10 g_b2
  have N10 := Fr.snoc X10 N9 g_b2
  have V10 : Arv Z h10 b2 k2 (.object "java/lang/Object") (3 : Int32) [(.ref ob0), (.ref ob1), .null] .null := Arv.set Ar10 q10 S10 N10_ H10 G10 rfl W10 1 rfl (Nat.le_of_ble_eq_true rfl)
  obtain ⟨cl11, Ar11, -, S11, N11_, -, -⟩ := id ((((V_a0d.ext E2).other W6 (nLt (lLt V_a0d.lt (lEq g2.symm)))).other W10 (nLt (lLt V_a0d.lt (lEq g2.symm)))))
  obtain ⟨cl12, Ar12, -, S12, N12_, H12, G12⟩ := id ((((V_a0d.ext E2).other W6 (nLt (lLt V_a0d.lt (lEq g2.symm)))).other W10 (nLt (lLt V_a0d.lt (lEq g2.symm)))))
  have hin12 : ¬ ((2 : Int32) < 0 ∨ cl12.slots.size ≤ ((2 : Int32)).toNatClampNeg) := inb_of S12 ⟨(by decide), (by decide)⟩
  have hat12 : cl12.slots[((2 : Int32)).toNatClampNeg]? = some (.ref ob2) := H12.at hin12 rfl
  obtain ⟨_, _, ⟨T13, L13, k13, n13⟩, -, X13, ⟨Lc13, hQ13, l13, y13, z13⟩, st13⟩ := Jvm.LawKit.callS X10 hx (y := MN_49) hown (mvT hZ (Wd hw 409 rfl)) (mvT hZ (Wd hw 376 rfl)) (mvT hZ (Wd hw 133 rfl)) (mvT hZ (Wd hw 377 rfl)) (by decide) (backOf (W := 2) (rmRn l Z a0 hw [] cS aDE kDE aUS aSS aIE mO ob2 h10 n0 O10 GL) hZ (Wd hw 377 rfl) (Wd hw 133 rfl) (by decide) (by decide)) (g := mkF m 19 #[vr a0d, vr b2, vi (2 : Int32)] [(.ref ob2), (.int 2), (.ref b2)]) rfl (by rw [hml]; rfl) (argsL := [(.ref ob2)]) (rest := [(.int 2), (.ref b2)]) (lenOf pdv28 rfl) rfl (by show 2 * 0 + _ ≤ _; exact lEq rfl) (dG hby D65 15 rfl) (fun _ _ => ⟨rfl, e10, (by decide : 1 + 0 ≤ _), (by decide : 3 + 0 ≤ _)⟩)
  dsimp only [Pt.U, Pt.locs, Pt.cells, Pt.slots] at X13 l13 y13 z13 st13 hQ13
  subst l13 y13 z13
  obtain ⟨rfl, N13q, e13⟩ := hQ13
  have N13 := Fr.app N10 N13q
  obtain ⟨cl14, Ar14, q14, S14, N14_, H14, G14⟩ := id (V10)
  have hin14 : ¬ ((2 : Int32) < 0 ∨ cl14.slots.size ≤ ((2 : Int32)).toNatClampNeg) := inb_of S14 ⟨(by decide), (by decide)⟩
  obtain ⟨T14, h14, X14, e14, W14, st14⟩ := stR X13 hx hZ e13 Ar14 (j := (2 : Int32)) hin14 rfl (Sto.ofV Ar14 q14 Ov2 (Ins.of_exa (((E_ob2.ext E2).wr W6).wr W10) (Wd hw 104 rfl))) (g := mkF m 22 #[vr a0d, vr b2, vi (2 : Int32)] [(.ref ob2), (.int 2), (.ref b2)]) rfl rfl (dG hby D65 16 rfl)
  have K14 : Keep h0 h14 [] := K10.wr W14 (Or.inr sz_b2)
  have O14 := O10.wr W14 g_b2
  have N14 := Fr.snoc X14 N13 g_b2
  have V14 : Arv Z h14 b2 k2 (.object "java/lang/Object") (3 : Int32) [(.ref ob0), (.ref ob1), (.ref ob2)] .null := Arv.set Ar14 q14 S14 N14_ H14 G14 rfl W14 2 rfl (Nat.le_of_ble_eq_true rfl)
  obtain ⟨cl15, Ar15, -, S15, N15_, -, -⟩ := id (((((V_a0d.ext E2).other W6 (nLt (lLt V_a0d.lt (lEq g2.symm)))).other W10 (nLt (lLt V_a0d.lt (lEq g2.symm)))).other W14 (nLt (lLt V_a0d.lt (lEq g2.symm)))))
  obtain ⟨T16, h16, X16, e16, E16, A16, D16, -, st16⟩ := newO X14 hx hZ hown (Wd hw 323 rfl) (Wd hw 410 rfl) (Wd hw 411 rfl) e14 (g := mkF m 29 #[vr a0d, vr b2, vi (3 : Int32)] []) rfl (dG hby D65 19 rfl) (by decide) (by decide)
  obtain ⟨b16, g16⟩ : ∃ z, z = h14.size := ⟨_, rfl⟩
  rw [← g16] at A16 D16 st16
  have g_b16 : n0 ≤ b16 := lTr (own_sz O14) (lEq g16.symm)
  have sz_b16 : h0.size ≤ b16 := lTr K14.1 (lEq g16.symm)
  have K16 : Keep h0 h16 [] := K14.ext E16
  have O16 := O14.ext E16
  have F_elements_b16 : Fld Z h16 b16 "java/util/ImmutableCollections$ListN" "elements" "[Ljava/lang/Object;" .null := D16 (Or.inr (Wd hw 421 rfl)) (ty := (.array (.object "java/lang/Object"))) (by decide)
  have F_allowNulls_b16 : Fld Z h16 b16 "java/util/ImmutableCollections$ListN" "allowNulls" "Z" (.int 0) := D16 (Or.inr (Wd hw 423 rfl)) (ty := .boolean) (by decide)
  obtain ⟨_, _, ⟨T17, L17, k17, n17⟩, -, X17, ⟨Lc17, hQ17, l17, y17, z17⟩, st17⟩ := X16.specialBackNest hx (y := MN_54) rfl hown (own_mvM hZ (Wd hw 412 rfl)) (mvT hZ (Wd hw 413 rfl)) (mvT hZ (Wd hw 415 rfl)) (by decide) (backOf (W := 1) (rmTn l Z a0 hw [] cS aDE kDE aUS aSS aIE mO b16 b2 h16 n0 O16 GL A16 F_elements_b16 F_allowNulls_b16 g_b16) hZ (Wd hw 415 rfl) (Wd hw 411 rfl) (by decide) (by decide)) (g := mkF m 35 #[vr a0d, vr b2, vi (3 : Int32)] [(.int 0), (.ref b2), (.ref b16), (.ref b16)]) rfl (by rw [hml]; rfl) (Steps.refl _) (a := b16) (argsL := [(.ref b2), (.int 0)]) (rest := [(.ref b16)]) (lenOf pdv29 rfl) rfl (by show 2 * 0 + _ ≤ _; exact lEq rfl) (dG hby D65 23 rfl) (fun _ _ => ⟨rfl, e16, (by decide : 2 + 0 ≤ _), (by decide : 5 + 0 ≤ _)⟩)
  dsimp only [Pt.U, Pt.locs, Pt.cells, Pt.slots] at X17 l17 y17 z17 st17 hQ17
  subst l17 y17 z17
  obtain ⟨rfl, N17q, Kc17, P17_0, P17_1⟩ := hQ17
  have K17 : Keep h0 T17.heap [] := K16.trans Kc17 (allS (Or.inr sz_b16) all0)
  have O17 := O16.keep Kc17 (allS g_b16 all0)
  have N17 := Fr.app N14 N17q
  obtain ⟨fs, hr, hrun, hended, hW, hsame⟩ := X17.leave (v := some (.ref b16)) (fun h => by rw [Bd.returns] at h; cases h)
  refine ⟨_, _, pre0 _ ?_, hrun, hended, _, _, rfl, ?_, ⟨_, rfl⟩, hW, hsame.mono (by decide) (by decide)⟩
  · show SP p e below s₁ m 0 #[vr a0d, .unset, .unset] [] _
    refine XS.aloadN X0.here hx rfl (dG hby D65 0 rfl) rfl rfl ?_
    show SP p e below s₁ m 1 #[vr a0d, .unset, .unset] [(.ref a0d)] _
    refine X0.arraylength hx (by rw [e0]; exact Ar1.1) (State.isArrayOf_alike hZ.alike Ar1.2.1) (g := mkF m 1 #[vr a0d, .unset, .unset] [(.ref a0d)]) rfl rfl (dG hby D65 1 rfl) _ ?_
    rw [len_of S1 N1_]
    show SP p e below s₁ m 2 #[vr a0d, .unset, .unset] [(.int 3)] _
    refine st2 _ ?_
    show SP p e below T2 m 5 #[vr a0d, .unset, .unset] [(.ref b2)] _
    refine XS.astoreN X2.here hx rfl (dG hby D65 3 rfl) rfl rfl (l' := #[vr a0d, vr b2, .unset]) rfl ?_
    refine XS.iconst X2.here hx rfl (dG hby D65 4 rfl) ?_
    refine XS.istoreN X2.here hx rfl (dG hby D65 5 rfl) rfl (l' := #[vr a0d, vr b2, vi (0 : Int32)]) rfl ?_
    refine XS.iloadN X2.here hx rfl (dG hby D65 6 rfl) rfl ?_
    refine XS.aloadN X2.here hx rfl (dG hby D65 7 rfl) rfl rfl ?_
    show SP p e below T2 m 10 #[vr a0d, vr b2, vi (0 : Int32)] [(.ref a0d), (.int 0)] _
    refine X2.arraylength hx (by rw [e2]; exact Ar3.1) (State.isArrayOf_alike hZ.alike Ar3.2.1) (g := mkF m 10 #[vr a0d, vr b2, vi (0 : Int32)] [(.ref a0d), (.int 0)]) rfl rfl (dG hby D65 8 rfl) _ ?_
    rw [len_of S3 N3_]
    show SP p e below T2 m 11 #[vr a0d, vr b2, vi (0 : Int32)] [(.int 3), (.int 0)] _
    refine XS.icmpNo X2.here hx rfl (dG hby D65 9 rfl) rfl (tlt (by decide : (0 : Int32) < (3 : Int32))).2.1 ?_
    refine XS.aloadN X2.here hx rfl (dG hby D65 10 rfl) rfl rfl ?_
    refine XS.iloadN X2.here hx rfl (dG hby D65 11 rfl) rfl ?_
    refine XS.aloadN X2.here hx rfl (dG hby D65 12 rfl) rfl rfl ?_
    refine XS.iloadN X2.here hx rfl (dG hby D65 13 rfl) rfl ?_
    show SP p e below T2 m 18 #[vr a0d, vr b2, vi (0 : Int32)] [(.int 0), (.ref a0d), (.int 0), (.ref b2)] _
    refine X2.aaload hx (j := (0 : Int32)) (v := (.ref ob0)) (by rw [e2]; exact Ar4.1) (State.isArrayOf_alike hZ.alike Ar4.2.1) rfl Ar4.2.2 hin4 hat4 (g := mkF m 18 #[vr a0d, vr b2, vi (0 : Int32)] [(.int 0), (.ref a0d), (.int 0), (.ref b2)]) rfl rfl (dG hby D65 14 rfl) _ ?_
    show SP p e below T2 m 19 #[vr a0d, vr b2, vi (0 : Int32)] [(.ref ob0), (.int 0), (.ref b2)] _
    refine st5 _ ?_
    show SP p e below T5 m 22 #[vr a0d, vr b2, vi (0 : Int32)] [(.ref ob0), (.int 0), (.ref b2)] _
    refine st6 _ ?_
    show SP p e below T6 m 23 #[vr a0d, vr b2, vi (0 : Int32)] [] _
    refine XS.iinc X6.here hx rfl (dG hby D65 17 rfl) rfl (l' := #[vr a0d, vr b2, vi (1 : Int32)]) rfl ?_
    refine XS.goto X6.here hx rfl (pc0 := 26) (pc' := 8) rfl (dG hby D65 18 rfl) (by decide) (by decide) ?_
    refine XS.iloadN X6.here hx rfl (dG hby D65 6 rfl) rfl ?_
    refine XS.aloadN X6.here hx rfl (dG hby D65 7 rfl) rfl rfl ?_
    show SP p e below T6 m 10 #[vr a0d, vr b2, vi (1 : Int32)] [(.ref a0d), (.int 1)] _
    refine X6.arraylength hx (by rw [e6]; exact Ar7.1) (State.isArrayOf_alike hZ.alike Ar7.2.1) (g := mkF m 10 #[vr a0d, vr b2, vi (1 : Int32)] [(.ref a0d), (.int 1)]) rfl rfl (dG hby D65 8 rfl) _ ?_
    rw [len_of S7 N7_]
    show SP p e below T6 m 11 #[vr a0d, vr b2, vi (1 : Int32)] [(.int 3), (.int 1)] _
    refine XS.icmpNo X6.here hx rfl (dG hby D65 9 rfl) rfl (tlt (by decide : (1 : Int32) < (3 : Int32))).2.1 ?_
    refine XS.aloadN X6.here hx rfl (dG hby D65 10 rfl) rfl rfl ?_
    refine XS.iloadN X6.here hx rfl (dG hby D65 11 rfl) rfl ?_
    refine XS.aloadN X6.here hx rfl (dG hby D65 12 rfl) rfl rfl ?_
    refine XS.iloadN X6.here hx rfl (dG hby D65 13 rfl) rfl ?_
    show SP p e below T6 m 18 #[vr a0d, vr b2, vi (1 : Int32)] [(.int 1), (.ref a0d), (.int 1), (.ref b2)] _
    refine X6.aaload hx (j := (1 : Int32)) (v := (.ref ob1)) (by rw [e6]; exact Ar8.1) (State.isArrayOf_alike hZ.alike Ar8.2.1) rfl Ar8.2.2 hin8 hat8 (g := mkF m 18 #[vr a0d, vr b2, vi (1 : Int32)] [(.int 1), (.ref a0d), (.int 1), (.ref b2)]) rfl rfl (dG hby D65 14 rfl) _ ?_
    show SP p e below T6 m 19 #[vr a0d, vr b2, vi (1 : Int32)] [(.ref ob1), (.int 1), (.ref b2)] _
    refine st9 _ ?_
    show SP p e below T9 m 22 #[vr a0d, vr b2, vi (1 : Int32)] [(.ref ob1), (.int 1), (.ref b2)] _
    refine st10 _ ?_
    show SP p e below T10 m 23 #[vr a0d, vr b2, vi (1 : Int32)] [] _
    refine XS.iinc X10.here hx rfl (dG hby D65 17 rfl) rfl (l' := #[vr a0d, vr b2, vi (2 : Int32)]) rfl ?_
    refine XS.goto X10.here hx rfl (pc0 := 26) (pc' := 8) rfl (dG hby D65 18 rfl) (by decide) (by decide) ?_
    refine XS.iloadN X10.here hx rfl (dG hby D65 6 rfl) rfl ?_
    refine XS.aloadN X10.here hx rfl (dG hby D65 7 rfl) rfl rfl ?_
    show SP p e below T10 m 10 #[vr a0d, vr b2, vi (2 : Int32)] [(.ref a0d), (.int 2)] _
    refine X10.arraylength hx (by rw [e10]; exact Ar11.1) (State.isArrayOf_alike hZ.alike Ar11.2.1) (g := mkF m 10 #[vr a0d, vr b2, vi (2 : Int32)] [(.ref a0d), (.int 2)]) rfl rfl (dG hby D65 8 rfl) _ ?_
    rw [len_of S11 N11_]
    show SP p e below T10 m 11 #[vr a0d, vr b2, vi (2 : Int32)] [(.int 3), (.int 2)] _
    refine XS.icmpNo X10.here hx rfl (dG hby D65 9 rfl) rfl (tlt (by decide : (2 : Int32) < (3 : Int32))).2.1 ?_
    refine XS.aloadN X10.here hx rfl (dG hby D65 10 rfl) rfl rfl ?_
    refine XS.iloadN X10.here hx rfl (dG hby D65 11 rfl) rfl ?_
    refine XS.aloadN X10.here hx rfl (dG hby D65 12 rfl) rfl rfl ?_
    refine XS.iloadN X10.here hx rfl (dG hby D65 13 rfl) rfl ?_
    show SP p e below T10 m 18 #[vr a0d, vr b2, vi (2 : Int32)] [(.int 2), (.ref a0d), (.int 2), (.ref b2)] _
    refine X10.aaload hx (j := (2 : Int32)) (v := (.ref ob2)) (by rw [e10]; exact Ar12.1) (State.isArrayOf_alike hZ.alike Ar12.2.1) rfl Ar12.2.2 hin12 hat12 (g := mkF m 18 #[vr a0d, vr b2, vi (2 : Int32)] [(.int 2), (.ref a0d), (.int 2), (.ref b2)]) rfl rfl (dG hby D65 14 rfl) _ ?_
    show SP p e below T10 m 19 #[vr a0d, vr b2, vi (2 : Int32)] [(.ref ob2), (.int 2), (.ref b2)] _
    refine st13 _ ?_
    show SP p e below T13 m 22 #[vr a0d, vr b2, vi (2 : Int32)] [(.ref ob2), (.int 2), (.ref b2)] _
    refine st14 _ ?_
    show SP p e below T14 m 23 #[vr a0d, vr b2, vi (2 : Int32)] [] _
    refine XS.iinc X14.here hx rfl (dG hby D65 17 rfl) rfl (l' := #[vr a0d, vr b2, vi (3 : Int32)]) rfl ?_
    refine XS.goto X14.here hx rfl (pc0 := 26) (pc' := 8) rfl (dG hby D65 18 rfl) (by decide) (by decide) ?_
    refine XS.iloadN X14.here hx rfl (dG hby D65 6 rfl) rfl ?_
    refine XS.aloadN X14.here hx rfl (dG hby D65 7 rfl) rfl rfl ?_
    show SP p e below T14 m 10 #[vr a0d, vr b2, vi (3 : Int32)] [(.ref a0d), (.int 3)] _
    refine X14.arraylength hx (by rw [e14]; exact Ar15.1) (State.isArrayOf_alike hZ.alike Ar15.2.1) (g := mkF m 10 #[vr a0d, vr b2, vi (3 : Int32)] [(.ref a0d), (.int 3)]) rfl rfl (dG hby D65 8 rfl) _ ?_
    rw [len_of S15 N15_]
    show SP p e below T14 m 11 #[vr a0d, vr b2, vi (3 : Int32)] [(.int 3), (.int 3)] _
    refine XS.icmpYes X14.here hx rfl (pc0 := 11) (pc' := 29) rfl (dG hby D65 9 rfl) rfl (flt (by decide : ¬ ((3 : Int32) < (3 : Int32)))).2.1 (by decide) (by decide) ?_
    show SP p e below T14 m 29 #[vr a0d, vr b2, vi (3 : Int32)] [] _
    refine st16 _ ?_
    show SP p e below T16 m 32 #[vr a0d, vr b2, vi (3 : Int32)] [(.ref b16)] _
    refine XS.dup X16.here hx rfl (dG hby D65 20 rfl) rfl rfl ?_
    refine XS.aloadN X16.here hx rfl (dG hby D65 21 rfl) rfl rfl ?_
    refine XS.iconst X16.here hx rfl (dG hby D65 22 rfl) ?_
    show SP p e below T16 m 35 #[vr a0d, vr b2, vi (3 : Int32)] [(.int 0), (.ref b2), (.ref b16), (.ref b16)] _
    refine st17.trans ?_
    show SP p e below T17 m 38 #[vr a0d, vr b2, vi (3 : Int32)] [(.ref b16)] _
    exact retA X17 hx Bd.returns rfl (dG hby D65 24 rfl) hr
  · show Q_rmLfa n0 Z cS aDE kDE aUS aSS aIE mO a0d ka ob0 ob1 ob2 h0 _ T17.heap _
    exact ⟨b16, b2, k2, rfl, N17, K17, sz_b16, sz_b2, P17_0, P17_1, ((V14.ext E16).keep Kc17 (ninS (nLt (lLt (lLt V_b2.lt (lTr (lTr (Keep.of_wr W6).1 (Keep.of_wr W10).1) (Keep.of_wr W14).1)) (lEq g16.symm))) nin0))⟩
theorem D56 : dL jdk_40_method_47_code [(0, .aload_n 0, 1), (1, .arraylength, 1), (2, .tableswitch 57 0 2 #[26, 32, 43], 26), (34, .new 96, 3), (37, .dup, 1), (38, .aload_n 0, 1), (39, .iconst 0, 1), (40, .aaload, 1), (41, .invokespecial 98, 3), (44, .areturn, 1), (45, .new 96, 3), (48, .dup, 1), (49, .aload_n 0, 1), (50, .iconst 0, 1), (51, .aaload, 1), (52, .aload_n 0, 1), (53, .iconst 1, 1), (54, .aaload, 1), (55, .invokespecial 100, 3), (58, .areturn, 1), (59, .aload_n 0, 1), (60, .invokestatic 109, 3), (63, .areturn, 1)] = true := by decide +kernel
theorem pdv30 : parseMethodDescriptor "(Ljava/lang/Object;)V" = some ⟨[(.object "java/lang/Object")], none⟩ := by decide +kernel
theorem pnv18 : plainName "java/util/List" = true := by first | (simp [plainName, overriddenIn]; done) | decide +kernel
abbrev MN_56 : MethodName := ⟨"java/util/List", "of", "([Ljava/lang/Object;)Ljava/util/List;"⟩
theorem ef_rmLo_1 (m : MethodId) (a0d : Addr) : entryFrame m #[(.ref a0d)] 2 = mkF m 0 #[vr a0d, .unset] [] := by first | (simp [entryFrame, mkF, argsToLocals, Value.category]; done) | rfl
def Q_rmLo_1 (n0 : Nat) (Z : State) (cS : Int32) (aDE : Addr) (kDE : ClassId) (aUS : Addr) (aSS : Addr) (aIE : Addr) (mO : Addr) (a0d : Addr) (ka : ClassId) (ob0 : Addr) (h0 : Heap) (v : Option Value) (h : Heap) (L : List Loc) : Prop := ∃ b : Addr, v = some (.ref b) ∧ Fr n0 L ∧ Keep h0 h [] ∧ (h0.size ≤ b) ∧ (Exa Z h b "java/util/ImmutableCollections$List12") ∧ (Fld Z h b "java/util/ImmutableCollections$List12" "e0" "Ljava/lang/Object;" (.ref ob0))
theorem rmLo_1 (l : Launch) (Z : State) (a0 : Array Value) (hw : ∀ d ∈ tables_1, d.before a0 Z = true) (ws : List Jvm.Cond) (cS : Int32) (aDE : Addr) (kDE : ClassId) (aUS : Addr) (aSS : Addr) (aIE : Addr) (mO : Addr) (a0d : Addr) (ka : ClassId) (ob0 : Addr) (h0 : Heap) (n0 : Nat) (O0 : Old Z n0 h0) (GL : GF Z cS aDE kDE aUS aSS aIE mO) (V_a0d : Arv Z h0 a0d ka (.object "java/lang/Object") (1 : Int32) [(.ref ob0)] .null) (E_ob0 : Exa Z h0 ob0 "com/example/grantline/grantline/PolicyException$Problem") :
    MF l MN_56 jdk_40_method_47_code 2 (some (.object "java/util/List")) ws (Rm 5 1 2 62) #[(.ref a0d)] Z h0 (Q_rmLo_1 n0 Z cS aDE kDE aUS aSS aIE mO a0d ka ob0 h0) := by
  refine MetFree.of_bodySF (plainFor_of_name pnv18) hisR ?_
  intro p e s m args below meth c s₁ Bd hml0 hP hK
  obtain ⟨rfl, hZ, hh⟩ := hP
  have hx := Bd.exec
  have hby := Bd.bytes
  have hml : c.maxLocals = 2 := hml0
  have hown : s.vm.findClass "java/util/List" = some m.cls := findClass_of_methodNamed Bd.named
  have hnm := (name_of_methodNamed Bd.named Bd.method).1
  have X0 : Stand p l e (Rm 5 1 2 62) s m #[(.ref a0d)] below meth c s₁ [] 0 0 := Stand.of_body Bd
  have e0 : s₁.heap = h0 := by rw [← hh, Bd.state]; rfl
  have N0 := Fr.nil n0
  have pre0 : ∀ t, SP p e below s₁ m 0 #[vr a0d, .unset] [] t → Steps p.tables e below (s₁.setTop (entryFrame m #[(.ref a0d)] 2)) t := fun t k => castTop (ef_rmLo_1 m a0d) k
  have GL' := GL
  obtain ⟨GCS, GCP, GDE, GVE, GUS, GSS, GIE, GMO⟩ := GL'
  obtain ⟨cl1, Ar1, -, S1, N1_, -, -⟩ := id (V_a0d)
  obtain ⟨T2, h2, X2, e2, E2, A2, D2, -, st2⟩ := newO X0 hx hZ hown (Wd hw 354 rfl) (Wd hw 355 rfl) (Wd hw 356 rfl) e0 (g := mkF m 34 #[vr a0d, .unset] []) rfl (dG hby D56 3 rfl) (by decide) (by decide)
  obtain ⟨b2, g2⟩ : ∃ z, z = h0.size := ⟨_, rfl⟩
  rw [← g2] at A2 D2 st2
  have g_b2 : n0 ≤ b2 := lTr (own_sz O0) (lEq g2.symm)
  have sz_b2 : h0.size ≤ b2 := lTr (Keep.refl h0 []).1 (lEq g2.symm)
  have K2 : Keep h0 h2 [] := (Keep.refl h0 []).ext E2
  have O2 := O0.ext E2
  have F_e0_b2 : Fld Z h2 b2 "java/util/ImmutableCollections$List12" "e0" "Ljava/lang/Object;" .null := D2 (Or.inr (Wd hw 379 rfl)) (ty := (.object "java/lang/Object")) (by decide)
  have F_e1_b2 : Fld Z h2 b2 "java/util/ImmutableCollections$List12" "e1" "Ljava/lang/Object;" .null := D2 (Or.inr (Wd hw 381 rfl)) (ty := (.object "java/lang/Object")) (by decide)
  obtain ⟨cl3, Ar3, -, S3, N3_, H3, G3⟩ := id ((V_a0d.ext E2))
  have hin3 : ¬ ((0 : Int32) < 0 ∨ cl3.slots.size ≤ ((0 : Int32)).toNatClampNeg) := inb_of S3 ⟨(by decide), (by decide)⟩
  have hat3 : cl3.slots[((0 : Int32)).toNatClampNeg]? = some (.ref ob0) := H3.at hin3 rfl
  obtain ⟨_, _, ⟨T4, L4, k4, n4⟩, -, X4, ⟨Lc4, hQ4, l4, y4, z4⟩, st4⟩ := X2.specialBack hx (y := MN_52) rfl hown (mvT hZ (Wd hw 430 rfl)) (mvT hZ (Wd hw 431 rfl)) (mvT hZ (Wd hw 432 rfl)) (by decide) (backOf (W := 1) (rmT1 l Z a0 hw [] cS aDE kDE aUS aSS aIE mO b2 ob0 h2 n0 O2 GL A2 F_e0_b2 F_e1_b2 g_b2) hZ (Wd hw 432 rfl) (Wd hw 356 rfl) (by decide) (by decide)) (g := mkF m 41 #[vr a0d, .unset] [(.ref ob0), (.ref b2), (.ref b2)]) rfl (by rw [hml]; rfl) (Steps.refl _) (a := b2) (argsL := [(.ref ob0)]) (rest := [(.ref b2)]) (lenOf pdv30 rfl) rfl (by show 2 * 0 + _ ≤ _; exact lEq rfl) (dG hby D56 8 rfl) (fun _ _ => ⟨rfl, e2, (by decide : 1 + 0 ≤ _), (by decide : 2 + 0 ≤ _)⟩)
  dsimp only [Pt.U, Pt.locs, Pt.cells, Pt.slots] at X4 l4 y4 z4 st4 hQ4
  subst l4 y4 z4
  obtain ⟨rfl, N4q, Kc4, P4_0, P4_1, P4_2⟩ := hQ4
  have K4 : Keep h0 T4.heap [] := K2.trans Kc4 (allS (Or.inr sz_b2) all0)
  have O4 := O2.keep Kc4 (allS g_b2 all0)
  have N4 := Fr.app N0 N4q
  obtain ⟨fs, hr, hrun, hended, hW, hsame⟩ := X4.leave (v := some (.ref b2)) (fun h => by rw [Bd.returns] at h; cases h)
  refine ⟨_, _, pre0 _ ?_, hrun, hended, _, _, rfl, ?_, ⟨_, rfl⟩, hW, hsame.mono (by decide) (by decide)⟩
  · show SP p e below s₁ m 0 #[vr a0d, .unset] [] _
    refine XS.aloadN X0.here hx rfl (dG hby D56 0 rfl) rfl rfl ?_
    show SP p e below s₁ m 1 #[vr a0d, .unset] [(.ref a0d)] _
    refine X0.arraylength hx (by rw [e0]; exact Ar1.1) (State.isArrayOf_alike hZ.alike Ar1.2.1) (g := mkF m 1 #[vr a0d, .unset] [(.ref a0d)]) rfl rfl (dG hby D56 1 rfl) _ ?_
    rw [len_of S1 N1_]
    show SP p e below s₁ m 2 #[vr a0d, .unset] [(.int 1)] _
    refine XS.tswIn X0.here hx rfl (o := 32) (pc0 := 2) (pc' := 34) rfl (dG hby D56 2 rfl) rfl (by decide) (by decide) (by decide) (by decide) ?_
    show SP p e below s₁ m 34 #[vr a0d, .unset] [] _
    refine st2 _ ?_
    show SP p e below T2 m 37 #[vr a0d, .unset] [(.ref b2)] _
    refine XS.dup X2.here hx rfl (dG hby D56 4 rfl) rfl rfl ?_
    refine XS.aloadN X2.here hx rfl (dG hby D56 5 rfl) rfl rfl ?_
    refine XS.iconst X2.here hx rfl (dG hby D56 6 rfl) ?_
    show SP p e below T2 m 40 #[vr a0d, .unset] [(.int 0), (.ref a0d), (.ref b2), (.ref b2)] _
    refine X2.aaload hx (j := (0 : Int32)) (v := (.ref ob0)) (by rw [e2]; exact Ar3.1) (State.isArrayOf_alike hZ.alike Ar3.2.1) rfl Ar3.2.2 hin3 hat3 (g := mkF m 40 #[vr a0d, .unset] [(.int 0), (.ref a0d), (.ref b2), (.ref b2)]) rfl rfl (dG hby D56 7 rfl) _ ?_
    show SP p e below T2 m 41 #[vr a0d, .unset] [(.ref ob0), (.ref b2), (.ref b2)] _
    refine st4.trans ?_
    show SP p e below T4 m 44 #[vr a0d, .unset] [(.ref b2)] _
    exact retA X4 hx Bd.returns rfl (dG hby D56 9 rfl) hr
  · show Q_rmLo_1 n0 Z cS aDE kDE aUS aSS aIE mO a0d ka ob0 h0 _ T4.heap _
    exact ⟨b2, rfl, N4, K4, sz_b2, P4_0, P4_1⟩
theorem D52 : dL jdk_56_method_3_code [(0, .aload_n 0, 1), (1, .instanceof 10, 3), (4, .ifCond .ne 22, 3), (7, .aload_n 0, 1), (8, .instanceof 12, 3), (11, .ifCond .eq 20, 3), (31, .aload_n 0, 1), (32, .invokeinterface 20 1, 5), (37, .ifCond .eq 7, 3), (44, .aload_n 0, 1), (45, .invokeinterface 30 1, 5), (50, .invokestatic 34, 3), (53, .areturn, 1)] = true := by decide +kernel
abbrev MN_57 : MethodName := ⟨"java/util/Collection", "isEmpty", "()Z"⟩
abbrev MN_58 : MethodName := ⟨"java/util/Collection", "toArray", "()[Ljava/lang/Object;"⟩
theorem pdv31 : parseMethodDescriptor "([Ljava/lang/Object;)Ljava/util/List;" = some ⟨[(.array (.object "java/lang/Object"))], some (.object "java/util/List")⟩ := by decide +kernel
abbrev MN_59 : MethodName := ⟨"java/util/ImmutableCollections", "listCopy", "(Ljava/util/Collection;)Ljava/util/List;"⟩
theorem ef_rmLk_1 (m : MethodId) (a0l : Addr) : entryFrame m #[(.ref a0l)] 2 = mkF m 0 #[vr a0l, .unset] [] := by first | (simp [entryFrame, mkF, argsToLocals, Value.category]; done) | rfl
def Q_rmLk_1 (n0 : Nat) (Z : State) (cS : Int32) (aDE : Addr) (kDE : ClassId) (aUS : Addr) (aSS : Addr) (aIE : Addr) (mO : Addr) (a0l : Addr) (ae : Addr) (ka : ClassId) (ob0 : Addr) (h0 : Heap) (v : Option Value) (h : Heap) (L : List Loc) : Prop := ∃ b : Addr, v = some (.ref b) ∧ Fr n0 L ∧ Keep h0 h [] ∧ (h0.size ≤ b) ∧ (Exa Z h b "java/util/ImmutableCollections$List12") ∧ (Fld Z h b "java/util/ImmutableCollections$List12" "e0" "Ljava/lang/Object;" (.ref ob0))
theorem rmLk_1 (l : Launch) (Z : State) (a0 : Array Value) (hw : ∀ d ∈ tables_1, d.before a0 Z = true) (ws : List Jvm.Cond) (cS : Int32) (aDE : Addr) (kDE : ClassId) (aUS : Addr) (aSS : Addr) (aIE : Addr) (mO : Addr) (a0l : Addr) (ae : Addr) (ka : ClassId) (ob0 : Addr) (h0 : Heap) (n0 : Nat) (O0 : Old Z n0 h0) (GL : GF Z cS aDE kDE aUS aSS aIE mO) (E_a0l : Exa Z h0 a0l "java/util/ArrayList") (F_elementData_a0l : Fld Z h0 a0l "java/util/ArrayList" "elementData" "[Ljava/lang/Object;" (.ref ae)) (F_size_a0l : Fld Z h0 a0l "java/util/ArrayList" "size" "I" (.int 1)) (E_ae : Exa Z h0 ae "[Ljava/lang/Object;") (V_ae : Arv Z h0 ae ka (.object "java/lang/Object") (10 : Int32) [(.ref ob0), .null, .null, .null, .null, .null, .null, .null, .null, .null] .null) (E_ob0 : Exa Z h0 ob0 "com/example/grantline/grantline/PolicyException$Problem") :
    MF l MN_59 jdk_56_method_3_code 2 (some (.object "java/util/List")) ws (Rm 6 2 3 75) #[(.ref a0l)] Z h0 (Q_rmLk_1 n0 Z cS aDE kDE aUS aSS aIE mO a0l ae ka ob0 h0) := by
  refine MetFree.of_bodySF (plainFor_of_name pnv17) hisR ?_
  intro p e s m args below meth c s₁ Bd hml0 hP hK
  obtain ⟨rfl, hZ, hh⟩ := hP
  have hx := Bd.exec
  have hby := Bd.bytes
  have hml : c.maxLocals = 2 := hml0
  have hown : s.vm.findClass "java/util/ImmutableCollections" = some m.cls := findClass_of_methodNamed Bd.named
  have hnm := (name_of_methodNamed Bd.named Bd.method).1
  have X0 : Stand p l e (Rm 6 2 3 75) s m #[(.ref a0l)] below meth c s₁ [] 0 0 := Stand.of_body Bd
  have e0 : s₁.heap = h0 := by rw [← hh, Bd.state]; rfl
  have N0 := Fr.nil n0
  have pre0 : ∀ t, SP p e below s₁ m 0 #[vr a0l, .unset] [] t → Steps p.tables e below (s₁.setTop (entryFrame m #[(.ref a0l)] 2)) t := fun t k => castTop (ef_rmLk_1 m a0l) k
  have GL' := GL
  obtain ⟨GCS, GCP, GDE, GVE, GUS, GSS, GIE, GMO⟩ := GL'
  obtain ⟨T1, X1, e1, st1⟩ := instNo X0 hx hZ hown (Wd hw 318 rfl) e0 E_a0l (own_nsNo (Wd hw 319 rfl) (Wd hw 355 rfl) (NS.step (Wd hw 319 rfl) (NS.step (Wd hw 320 rfl) (NS.step (Wd hw 321 rfl) (own_nsRoot (Wd hw 322 rfl) (Wd hw 355 rfl) (by decide)) (by decide)) (by decide)) (by decide)) (by decide)) (g := mkF m 1 #[vr a0l, .unset] [(.ref a0l)]) rfl rfl (dG hby D52 1 rfl)
  obtain ⟨T2, X2, e2, st2⟩ := instNo X1 hx hZ hown (Wd hw 323 rfl) e1 E_a0l (own_nsNo (Wd hw 319 rfl) (Wd hw 410 rfl) (NS.step (Wd hw 319 rfl) (NS.step (Wd hw 320 rfl) (NS.step (Wd hw 321 rfl) (own_nsRoot (Wd hw 322 rfl) (Wd hw 410 rfl) (by decide)) (by decide)) (by decide)) (by decide)) (by decide)) (g := mkF m 8 #[vr a0l, .unset] [(.ref a0l)]) rfl rfl (dG hby D52 4 rfl)
  obtain ⟨cq3, kq3, q3a, q3b, q3c⟩ := isOf hZ e2 E_a0l
  obtain ⟨_, _, ⟨T3, L3, k3, n3⟩, -, X3, ⟨Lc3, hQ3, l3, y3, z3⟩, st3⟩ := X2.interfaceBack hx (xi := MN_57) (y := MN_38) hown (mvT hZ (Wd hw 324 rfl)) (mvT hZ (Wd hw 325 rfl)) (mvT hZ (Wd hw 326 rfl)) (mvT hZ (Wd hw 327 rfl)) (mvT hZ (Wd hw 118 rfl)) (mvT hZ (Wd hw 119 rfl)) (mvT hZ (Wd hw 120 rfl)) (mvT hZ (Wd hw 328 rfl)) (by decide) (backOf (W := 0) (rmIe l Z a0 hw [] cS aDE kDE aUS aSS aIE mO a0l ((1 : Int32)) h0 n0 O0 GL F_size_a0l (by decide)) hZ (Wd hw 122 rfl) (Wd hw 36 rfl) (by decide) (by decide)) q3a q3b q3c (g := mkF m 32 #[vr a0l, .unset] [(.ref a0l)]) rfl (by rw [hml]; rfl) (Steps.refl _) (argsL := []) (rest := []) (lenOf pdv15 rfl) rfl (by show 2 * 0 + _ ≤ _; exact lEq rfl) (dG hby D52 7 rfl) (fun _ _ => ⟨rfl, e2, (by decide : 0 + 0 ≤ _), (by decide : 0 + 0 ≤ _)⟩)
  dsimp only [Pt.U, Pt.locs, Pt.cells, Pt.slots] at X3 l3 y3 z3 st3 hQ3
  subst l3 y3 z3
  obtain ⟨rfl, N3q, e3⟩ := hQ3
  have N3 := Fr.app N0 N3q
  obtain ⟨cq4, kq4, q4a, q4b, q4c⟩ := isOf hZ e3 E_a0l
  obtain ⟨_, _, ⟨T4, L4, k4, n4⟩, -, X4, ⟨Lc4, hQ4, l4, y4, z4⟩, st4⟩ := X3.interfaceBack hx (xi := MN_58) (y := MN_48) hown (mvT hZ (Wd hw 329 rfl)) (mvT hZ (Wd hw 330 rfl)) (mvT hZ (Wd hw 331 rfl)) (mvT hZ (Wd hw 332 rfl)) (mvT hZ (Wd hw 333 rfl)) (mvT hZ (Wd hw 334 rfl)) (mvT hZ (Wd hw 335 rfl)) (mvT hZ (Wd hw 328 rfl)) (by decide) (backOf (W := 0) (rmTa_1 l Z a0 hw [] cS aDE kDE aUS aSS aIE mO a0l ae ka ob0 h0 n0 O0 GL E_a0l F_elementData_a0l F_size_a0l E_ae V_ae E_ob0) hZ (Wd hw 336 rfl) (Wd hw 36 rfl) (by decide) (by decide)) q4a q4b q4c (g := mkF m 45 #[vr a0l, .unset] [(.ref a0l)]) rfl (by rw [hml]; rfl) (Steps.refl _) (argsL := []) (rest := []) (lenOf pdv22 rfl) rfl (by show 2 * 0 + _ ≤ _; exact lEq rfl) (dG hby D52 10 rfl) (fun _ _ => ⟨rfl, e3, (by decide : 0 + 1 ≤ _), (by decide : 0 + 1 ≤ _)⟩)
  dsimp only [Pt.U, Pt.locs, Pt.cells, Pt.slots] at X4 l4 y4 z4 st4 hQ4
  subst l4 y4 z4
  obtain ⟨b_4, kb_4, rfl, N4q, Kc4, P4_0, P4_1⟩ := hQ4
  have K4 : Keep h0 T4.heap [] := (Keep.refl h0 []).trans Kc4 all0
  have O4 := O0.keep Kc4 all0
  have g_b_4 : n0 ≤ b_4 := lTr (own_sz O0) P4_0
  have sz_b_4 : h0.size ≤ b_4 := lTr (Keep.refl h0 []).1 P4_0
  have N4 := Fr.app N3 N4q
  obtain ⟨_, _, ⟨T5, L5, k5, n5⟩, -, X5, ⟨Lc5, hQ5, l5, y5, z5⟩, st5⟩ := Jvm.LawKit.callS X4 hx (y := MN_56) hown (mvT hZ (Wd hw 351 rfl)) (mvT hZ (Wd hw 352 rfl)) (mvT hZ (Wd hw 312 rfl)) (mvT hZ (Wd hw 353 rfl)) (by decide) (backOf (W := 0) (rmLo_1 l Z a0 hw [] cS aDE kDE aUS aSS aIE mO b_4 kb_4 ob0 (T4.heap) n0 O4 GL P4_1 (E_ob0.keep Kc4)) hZ (Wd hw 353 rfl) (Wd hw 312 rfl) (by decide) (by decide)) (g := mkF m 50 #[vr a0l, .unset] [(.ref b_4)]) rfl (by rw [hml]; rfl) (argsL := [(.ref b_4)]) (rest := []) (lenOf pdv31 rfl) rfl (by show 2 * 0 + _ ≤ _; exact lEq rfl) (dG hby D52 11 rfl) (fun _ _ => ⟨rfl, rfl, (by decide : 1 + 1 ≤ _), (by decide : 1 + 2 ≤ _)⟩)
  dsimp only [Pt.U, Pt.locs, Pt.cells, Pt.slots] at X5 l5 y5 z5 st5 hQ5
  subst l5 y5 z5
  obtain ⟨b_5, rfl, N5q, Kc5, P5_0, P5_1, P5_2⟩ := hQ5
  have K5 : Keep h0 T5.heap [] := K4.trans Kc5 all0
  have O5 := O4.keep Kc5 all0
  have g_b_5 : n0 ≤ b_5 := lTr (own_sz O4) P5_0
  have sz_b_5 : h0.size ≤ b_5 := lTr K4.1 P5_0
  have N5 := Fr.app N4 N5q
  obtain ⟨fs, hr, hrun, hended, hW, hsame⟩ := X5.leave (v := some (.ref b_5)) (fun h => by rw [Bd.returns] at h; cases h)
  refine ⟨_, _, pre0 _ ?_, hrun, hended, _, _, rfl, ?_, ⟨_, rfl⟩, hW, hsame.mono (by decide) (by decide)⟩
  · show SP p e below s₁ m 0 #[vr a0l, .unset] [] _
    refine XS.aloadN X0.here hx rfl (dG hby D52 0 rfl) rfl rfl ?_
    show SP p e below s₁ m 1 #[vr a0l, .unset] [(.ref a0l)] _
    refine st1 _ ?_
    show SP p e below T1 m 4 #[vr a0l, .unset] [(.int 0)] _
    refine XS.ifNo X1.here hx rfl (dG hby D52 2 rfl) rfl ((if0 _ _).trans (teq (by decide : (0 : Int32) = (0 : Int32))).2) ?_
    refine XS.aloadN X1.here hx rfl (dG hby D52 3 rfl) rfl rfl ?_
    show SP p e below T1 m 8 #[vr a0l, .unset] [(.ref a0l)] _
    refine st2 _ ?_
    show SP p e below T2 m 11 #[vr a0l, .unset] [(.int 0)] _
    refine XS.ifYes X2.here hx rfl (pc0 := 11) (pc' := 31) rfl (dG hby D52 5 rfl) rfl ((if0 _ _).trans (teq (by decide : (0 : Int32) = (0 : Int32))).1) (by decide) (by decide) ?_
    refine XS.aloadN X2.here hx rfl (dG hby D52 6 rfl) rfl rfl ?_
    show SP p e below T2 m 32 #[vr a0l, .unset] [(.ref a0l)] _
    refine st3.trans ?_
    show SP p e below T3 m 37 #[vr a0l, .unset] [(.int 0)] _
    refine XS.ifYes X3.here hx rfl (pc0 := 37) (pc' := 44) rfl (dG hby D52 8 rfl) rfl ((if0 _ _).trans (teq (by decide : (0 : Int32) = (0 : Int32))).1) (by decide) (by decide) ?_
    refine XS.aloadN X3.here hx rfl (dG hby D52 9 rfl) rfl rfl ?_
    show SP p e below T3 m 45 #[vr a0l, .unset] [(.ref a0l)] _
    refine st4.trans ?_
    show SP p e below T4 m 50 #[vr a0l, .unset] [(.ref b_4)] _
    refine st5 _ ?_
    show SP p e below T5 m 53 #[vr a0l, .unset] [(.ref b_5)] _
    exact retA X5 hx Bd.returns rfl (dG hby D52 12 rfl) hr
  · show Q_rmLk_1 n0 Z cS aDE kDE aUS aSS aIE mO a0l ae ka ob0 h0 _ T5.heap _
    exact ⟨b_5, rfl, N5, K5, sz_b_5, P5_1, P5_2⟩
theorem D51 : dL jdk_40_method_48_code [(0, .aload_n 0, 1), (1, .invokestatic 112, 3), (4, .areturn, 1)] = true := by decide +kernel
theorem pdv32 : parseMethodDescriptor "(Ljava/util/Collection;)Ljava/util/List;" = some ⟨[(.object "java/util/Collection")], some (.object "java/util/List")⟩ := by decide +kernel
abbrev MN_60 : MethodName := ⟨"java/util/List", "copyOf", "(Ljava/util/Collection;)Ljava/util/List;"⟩
def Q_rmLc_1 (n0 : Nat) (Z : State) (cS : Int32) (aDE : Addr) (kDE : ClassId) (aUS : Addr) (aSS : Addr) (aIE : Addr) (mO : Addr) (a0l : Addr) (ae : Addr) (ka : ClassId) (ob0 : Addr) (h0 : Heap) (v : Option Value) (h : Heap) (L : List Loc) : Prop := ∃ b : Addr, v = some (.ref b) ∧ Fr n0 L ∧ Keep h0 h [] ∧ (h0.size ≤ b) ∧ (Exa Z h b "java/util/ImmutableCollections$List12") ∧ (Fld Z h b "java/util/ImmutableCollections$List12" "e0" "Ljava/lang/Object;" (.ref ob0))
theorem rmLc_1 (l : Launch) (Z : State) (a0 : Array Value) (hw : ∀ d ∈ tables_1, d.before a0 Z = true) (ws : List Jvm.Cond) (cS : Int32) (aDE : Addr) (kDE : ClassId) (aUS : Addr) (aSS : Addr) (aIE : Addr) (mO : Addr) (a0l : Addr) (ae : Addr) (ka : ClassId) (ob0 : Addr) (h0 : Heap) (n0 : Nat) (O0 : Old Z n0 h0) (GL : GF Z cS aDE kDE aUS aSS aIE mO) (E_a0l : Exa Z h0 a0l "java/util/ArrayList") (F_elementData_a0l : Fld Z h0 a0l "java/util/ArrayList" "elementData" "[Ljava/lang/Object;" (.ref ae)) (F_size_a0l : Fld Z h0 a0l "java/util/ArrayList" "size" "I" (.int 1)) (E_ae : Exa Z h0 ae "[Ljava/lang/Object;") (V_ae : Arv Z h0 ae ka (.object "java/lang/Object") (10 : Int32) [(.ref ob0), .null, .null, .null, .null, .null, .null, .null, .null, .null] .null) (E_ob0 : Exa Z h0 ob0 "com/example/grantline/grantline/PolicyException$Problem") :
    MF l MN_60 jdk_40_method_48_code 1 (some (.object "java/util/List")) ws (Rm 7 2 3 88) #[(.ref a0l)] Z h0 (Q_rmLc_1 n0 Z cS aDE kDE aUS aSS aIE mO a0l ae ka ob0 h0) := by
  refine MetFree.of_bodySF (plainFor_of_name pnv18) hisR ?_
  intro p e s m args below meth c s₁ Bd hml0 hP hK
  obtain ⟨rfl, hZ, hh⟩ := hP
  have hx := Bd.exec
  have hby := Bd.bytes
  have hml : c.maxLocals = 1 := hml0
  have hown : s.vm.findClass "java/util/List" = some m.cls := findClass_of_methodNamed Bd.named
  have hnm := (name_of_methodNamed Bd.named Bd.method).1
  have X0 : Stand p l e (Rm 7 2 3 88) s m #[(.ref a0l)] below meth c s₁ [] 0 0 := Stand.of_body Bd
  have e0 : s₁.heap = h0 := by rw [← hh, Bd.state]; rfl
  have N0 := Fr.nil n0
  have pre0 : ∀ t, SP p e below s₁ m 0 #[vr a0l] [] t → Steps p.tables e below (s₁.setTop (entryFrame m #[(.ref a0l)] 1)) t := fun t k => castTop (ef_rmAbc m a0l) k
  have GL' := GL
  obtain ⟨GCS, GCP, GDE, GVE, GUS, GSS, GIE, GMO⟩ := GL'
  obtain ⟨_, _, ⟨T1, L1, k1, n1⟩, -, X1, ⟨Lc1, hQ1, l1, y1, z1⟩, st1⟩ := Jvm.LawKit.callS X0 hx (y := MN_59) hown (mvT hZ (Wd hw 314 rfl)) (mvT hZ (Wd hw 315 rfl)) (mvT hZ (Wd hw 316 rfl)) (mvT hZ (Wd hw 317 rfl)) (by decide) (backOf (W := 0) (rmLk_1 l Z a0 hw [] cS aDE kDE aUS aSS aIE mO a0l ae ka ob0 h0 n0 O0 GL E_a0l F_elementData_a0l F_size_a0l E_ae V_ae E_ob0) hZ (Wd hw 317 rfl) (Wd hw 316 rfl) (by decide) (by decide)) (g := mkF m 1 #[vr a0l] [(.ref a0l)]) rfl (by rw [hml]; rfl) (argsL := [(.ref a0l)]) (rest := []) (lenOf pdv32 rfl) rfl (by show 2 * 0 + _ ≤ _; exact lEq rfl) (dG hby D51 1 rfl) (fun _ _ => ⟨rfl, e0, (by decide : 0 + 2 ≤ _), (by decide : 0 + 3 ≤ _)⟩)
  dsimp only [Pt.U, Pt.locs, Pt.cells, Pt.slots] at X1 l1 y1 z1 st1 hQ1
  subst l1 y1 z1
  obtain ⟨b_1, rfl, N1q, Kc1, P1_0, P1_1, P1_2⟩ := hQ1
  have K1 : Keep h0 T1.heap [] := (Keep.refl h0 []).trans Kc1 all0
  have O1 := O0.keep Kc1 all0
  have g_b_1 : n0 ≤ b_1 := lTr (own_sz O0) P1_0
  have sz_b_1 : h0.size ≤ b_1 := lTr (Keep.refl h0 []).1 P1_0
  have N1 := Fr.app N0 N1q
  obtain ⟨fs, hr, hrun, hended, hW, hsame⟩ := X1.leave (v := some (.ref b_1)) (fun h => by rw [Bd.returns] at h; cases h)
  refine ⟨_, _, pre0 _ ?_, hrun, hended, _, _, rfl, ?_, ⟨_, rfl⟩, hW, hsame.mono (by decide) (by decide)⟩
  · show SP p e below s₁ m 0 #[vr a0l] [] _
    refine XS.aloadN X0.here hx rfl (dG hby D51 0 rfl) rfl rfl ?_
    show SP p e below s₁ m 1 #[vr a0l] [(.ref a0l)] _
    refine st1 _ ?_
    show SP p e below T1 m 4 #[vr a0l] [(.ref b_1)] _
    exact retA X1 hx Bd.returns rfl (dG hby D51 2 rfl) hr
  · show Q_rmLc_1 n0 Z cS aDE kDE aUS aSS aIE mO a0l ae ka ob0 h0 _ T1.heap _
    exact ⟨b_1, rfl, N1, K1, sz_b_1, P1_1, P1_2⟩
theorem pdv33 : parseMethodDescriptor "(Ljava/lang/Object;Ljava/lang/Object;)V" = some ⟨[(.object "java/lang/Object"), (.object "java/lang/Object")], none⟩ := by decide +kernel
def Q_rmLo_2 (n0 : Nat) (Z : State) (cS : Int32) (aDE : Addr) (kDE : ClassId) (aUS : Addr) (aSS : Addr) (aIE : Addr) (mO : Addr) (a0d : Addr) (ka : ClassId) (ob0 : Addr) (ob1 : Addr) (h0 : Heap) (v : Option Value) (h : Heap) (L : List Loc) : Prop := ∃ b : Addr, v = some (.ref b) ∧ Fr n0 L ∧ Keep h0 h [] ∧ (h0.size ≤ b) ∧ (Exa Z h b "java/util/ImmutableCollections$List12") ∧ (Fld Z h b "java/util/ImmutableCollections$List12" "e0" "Ljava/lang/Object;" (.ref ob0))
theorem rmLo_2 (l : Launch) (Z : State) (a0 : Array Value) (hw : ∀ d ∈ tables_1, d.before a0 Z = true) (ws : List Jvm.Cond) (cS : Int32) (aDE : Addr) (kDE : ClassId) (aUS : Addr) (aSS : Addr) (aIE : Addr) (mO : Addr) (a0d : Addr) (ka : ClassId) (ob0 : Addr) (ob1 : Addr) (h0 : Heap) (n0 : Nat) (O0 : Old Z n0 h0) (GL : GF Z cS aDE kDE aUS aSS aIE mO) (V_a0d : Arv Z h0 a0d ka (.object "java/lang/Object") (2 : Int32) [(.ref ob0), (.ref ob1)] .null) (E_ob0 : Exa Z h0 ob0 "com/example/grantline/grantline/PolicyException$Problem") (E_ob1 : Exa Z h0 ob1 "com/example/grantline/grantline/PolicyException$Problem") :
    MF l MN_56 jdk_40_method_47_code 2 (some (.object "java/util/List")) ws (Rm 5 1 2 63) #[(.ref a0d)] Z h0 (Q_rmLo_2 n0 Z cS aDE kDE aUS aSS aIE mO a0d ka ob0 ob1 h0) := by
  refine MetFree.of_bodySF (plainFor_of_name pnv18) hisR ?_
  intro p e s m args below meth c s₁ Bd hml0 hP hK
  obtain ⟨rfl, hZ, hh⟩ := hP
  have hx := Bd.exec
  have hby := Bd.bytes
  have hml : c.maxLocals = 2 := hml0
  have hown : s.vm.findClass "java/util/List" = some m.cls := findClass_of_methodNamed Bd.named
  have hnm := (name_of_methodNamed Bd.named Bd.method).1
  have X0 : Stand p l e (Rm 5 1 2 63) s m #[(.ref a0d)] below meth c s₁ [] 0 0 := Stand.of_body Bd
  have e0 : s₁.heap = h0 := by rw [← hh, Bd.state]; rfl
  have N0 := Fr.nil n0
  have pre0 : ∀ t, SP p e below s₁ m 0 #[vr a0d, .unset] [] t → Steps p.tables e below (s₁.setTop (entryFrame m #[(.ref a0d)] 2)) t := fun t k => castTop (ef_rmLo_1 m a0d) k
  have GL' := GL
  obtain ⟨GCS, GCP, GDE, GVE, GUS, GSS, GIE, GMO⟩ := GL'
  obtain ⟨cl1, Ar1, -, S1, N1_, -, -⟩ := id (V_a0d)
  obtain ⟨T2, h2, X2, e2, E2, A2, D2, -, st2⟩ := newO X0 hx hZ hown (Wd hw 354 rfl) (Wd hw 355 rfl) (Wd hw 356 rfl) e0 (g := mkF m 45 #[vr a0d, .unset] []) rfl (dG hby D56 10 rfl) (by decide) (by decide)
  obtain ⟨b2, g2⟩ : ∃ z, z = h0.size := ⟨_, rfl⟩
  rw [← g2] at A2 D2 st2
  have g_b2 : n0 ≤ b2 := lTr (own_sz O0) (lEq g2.symm)
  have sz_b2 : h0.size ≤ b2 := lTr (Keep.refl h0 []).1 (lEq g2.symm)
  have K2 : Keep h0 h2 [] := (Keep.refl h0 []).ext E2
  have O2 := O0.ext E2
  have F_e0_b2 : Fld Z h2 b2 "java/util/ImmutableCollections$List12" "e0" "Ljava/lang/Object;" .null := D2 (Or.inr (Wd hw 379 rfl)) (ty := (.object "java/lang/Object")) (by decide)
  have F_e1_b2 : Fld Z h2 b2 "java/util/ImmutableCollections$List12" "e1" "Ljava/lang/Object;" .null := D2 (Or.inr (Wd hw 381 rfl)) (ty := (.object "java/lang/Object")) (by decide)
  obtain ⟨cl3, Ar3, -, S3, N3_, H3, G3⟩ := id ((V_a0d.ext E2))
  have hin3 : ¬ ((0 : Int32) < 0 ∨ cl3.slots.size ≤ ((0 : Int32)).toNatClampNeg) := inb_of S3 ⟨(by decide), (by decide)⟩
  have hat3 : cl3.slots[((0 : Int32)).toNatClampNeg]? = some (.ref ob0) := H3.at hin3 rfl
  obtain ⟨cl4, Ar4, -, S4, N4_, H4, G4⟩ := id ((V_a0d.ext E2))
  have hin4 : ¬ ((1 : Int32) < 0 ∨ cl4.slots.size ≤ ((1 : Int32)).toNatClampNeg) := inb_of S4 ⟨(by decide), (by decide)⟩
  have hat4 : cl4.slots[((1 : Int32)).toNatClampNeg]? = some (.ref ob1) := H4.at hin4 rfl
  obtain ⟨_, _, ⟨T5, L5, k5, n5⟩, -, X5, ⟨Lc5, hQ5, l5, y5, z5⟩, st5⟩ := X2.specialBack hx (y := MN_53) rfl hown (mvT hZ (Wd hw 357 rfl)) (mvT hZ (Wd hw 358 rfl)) (mvT hZ (Wd hw 360 rfl)) (by decide) (backOf (W := 1) (rmT2 l Z a0 hw [] cS aDE kDE aUS aSS aIE mO b2 ob0 ob1 h2 n0 O2 GL A2 F_e0_b2 F_e1_b2 g_b2) hZ (Wd hw 360 rfl) (Wd hw 356 rfl) (by decide) (by decide)) (g := mkF m 55 #[vr a0d, .unset] [(.ref ob1), (.ref ob0), (.ref b2), (.ref b2)]) rfl (by rw [hml]; rfl) (Steps.refl _) (a := b2) (argsL := [(.ref ob0), (.ref ob1)]) (rest := [(.ref b2)]) (lenOf pdv33 rfl) rfl (by show 2 * 0 + _ ≤ _; exact lEq rfl) (dG hby D56 18 rfl) (fun _ _ => ⟨rfl, e2, (by decide : 1 + 0 ≤ _), (by decide : 2 + 0 ≤ _)⟩)
  dsimp only [Pt.U, Pt.locs, Pt.cells, Pt.slots] at X5 l5 y5 z5 st5 hQ5
  subst l5 y5 z5
  obtain ⟨rfl, N5q, Kc5, P5_0, P5_1, P5_2⟩ := hQ5
  have K5 : Keep h0 T5.heap [] := K2.trans Kc5 (allS (Or.inr sz_b2) all0)
  have O5 := O2.keep Kc5 (allS g_b2 all0)
  have N5 := Fr.app N0 N5q
  obtain ⟨fs, hr, hrun, hended, hW, hsame⟩ := X5.leave (v := some (.ref b2)) (fun h => by rw [Bd.returns] at h; cases h)
  refine ⟨_, _, pre0 _ ?_, hrun, hended, _, _, rfl, ?_, ⟨_, rfl⟩, hW, hsame.mono (by decide) (by decide)⟩
  · show SP p e below s₁ m 0 #[vr a0d, .unset] [] _
    refine XS.aloadN X0.here hx rfl (dG hby D56 0 rfl) rfl rfl ?_
    show SP p e below s₁ m 1 #[vr a0d, .unset] [(.ref a0d)] _
    refine X0.arraylength hx (by rw [e0]; exact Ar1.1) (State.isArrayOf_alike hZ.alike Ar1.2.1) (g := mkF m 1 #[vr a0d, .unset] [(.ref a0d)]) rfl rfl (dG hby D56 1 rfl) _ ?_
    rw [len_of S1 N1_]
    show SP p e below s₁ m 2 #[vr a0d, .unset] [(.int 2)] _
    refine XS.tswIn X0.here hx rfl (o := 43) (pc0 := 2) (pc' := 45) rfl (dG hby D56 2 rfl) rfl (by decide) (by decide) (by decide) (by decide) ?_
    show SP p e below s₁ m 45 #[vr a0d, .unset] [] _
    refine st2 _ ?_
    show SP p e below T2 m 48 #[vr a0d, .unset] [(.ref b2)] _
    refine XS.dup X2.here hx rfl (dG hby D56 11 rfl) rfl rfl ?_
    refine XS.aloadN X2.here hx rfl (dG hby D56 12 rfl) rfl rfl ?_
    refine XS.iconst X2.here hx rfl (dG hby D56 13 rfl) ?_
    show SP p e below T2 m 51 #[vr a0d, .unset] [(.int 0), (.ref a0d), (.ref b2), (.ref b2)] _
    refine X2.aaload hx (j := (0 : Int32)) (v := (.ref ob0)) (by rw [e2]; exact Ar3.1) (State.isArrayOf_alike hZ.alike Ar3.2.1) rfl Ar3.2.2 hin3 hat3 (g := mkF m 51 #[vr a0d, .unset] [(.int 0), (.ref a0d), (.ref b2), (.ref b2)]) rfl rfl (dG hby D56 14 rfl) _ ?_
    show SP p e below T2 m 52 #[vr a0d, .unset] [(.ref ob0), (.ref b2), (.ref b2)] _
    refine XS.aloadN X2.here hx rfl (dG hby D56 15 rfl) rfl rfl ?_
    refine XS.iconst X2.here hx rfl (dG hby D56 16 rfl) ?_
    show SP p e below T2 m 54 #[vr a0d, .unset] [(.int 1), (.ref a0d), (.ref ob0), (.ref b2), (.ref b2)] _
    refine X2.aaload hx (j := (1 : Int32)) (v := (.ref ob1)) (by rw [e2]; exact Ar4.1) (State.isArrayOf_alike hZ.alike Ar4.2.1) rfl Ar4.2.2 hin4 hat4 (g := mkF m 54 #[vr a0d, .unset] [(.int 1), (.ref a0d), (.ref ob0), (.ref b2), (.ref b2)]) rfl rfl (dG hby D56 17 rfl) _ ?_
    show SP p e below T2 m 55 #[vr a0d, .unset] [(.ref ob1), (.ref ob0), (.ref b2), (.ref b2)] _
    refine st5.trans ?_
    show SP p e below T5 m 58 #[vr a0d, .unset] [(.ref b2)] _
    exact retA X5 hx Bd.returns rfl (dG hby D56 19 rfl) hr
  · show Q_rmLo_2 n0 Z cS aDE kDE aUS aSS aIE mO a0d ka ob0 ob1 h0 _ T5.heap _
    exact ⟨b2, rfl, N5, K5, sz_b2, P5_0, P5_1⟩
def Q_rmLk_2 (n0 : Nat) (Z : State) (cS : Int32) (aDE : Addr) (kDE : ClassId) (aUS : Addr) (aSS : Addr) (aIE : Addr) (mO : Addr) (a0l : Addr) (ae : Addr) (ka : ClassId) (ob0 : Addr) (ob1 : Addr) (h0 : Heap) (v : Option Value) (h : Heap) (L : List Loc) : Prop := ∃ b : Addr, v = some (.ref b) ∧ Fr n0 L ∧ Keep h0 h [] ∧ (h0.size ≤ b) ∧ (Exa Z h b "java/util/ImmutableCollections$List12") ∧ (Fld Z h b "java/util/ImmutableCollections$List12" "e0" "Ljava/lang/Object;" (.ref ob0))
theorem rmLk_2 (l : Launch) (Z : State) (a0 : Array Value) (hw : ∀ d ∈ tables_1, d.before a0 Z = true) (ws : List Jvm.Cond) (cS : Int32) (aDE : Addr) (kDE : ClassId) (aUS : Addr) (aSS : Addr) (aIE : Addr) (mO : Addr) (a0l : Addr) (ae : Addr) (ka : ClassId) (ob0 : Addr) (ob1 : Addr) (h0 : Heap) (n0 : Nat) (O0 : Old Z n0 h0) (GL : GF Z cS aDE kDE aUS aSS aIE mO) (E_a0l : Exa Z h0 a0l "java/util/ArrayList") (F_elementData_a0l : Fld Z h0 a0l "java/util/ArrayList" "elementData" "[Ljava/lang/Object;" (.ref ae)) (F_size_a0l : Fld Z h0 a0l "java/util/ArrayList" "size" "I" (.int 2)) (E_ae : Exa Z h0 ae "[Ljava/lang/Object;") (V_ae : Arv Z h0 ae ka (.object "java/lang/Object") (10 : Int32) [(.ref ob0), (.ref ob1), .null, .null, .null, .null, .null, .null, .null, .null] .null) (E_ob0 : Exa Z h0 ob0 "com/example/grantline/grantline/PolicyException$Problem") (E_ob1 : Exa Z h0 ob1 "com/example/grantline/grantline/PolicyException$Problem") :
    MF l MN_59 jdk_56_method_3_code 2 (some (.object "java/util/List")) ws (Rm 6 2 4 76) #[(.ref a0l)] Z h0 (Q_rmLk_2 n0 Z cS aDE kDE aUS aSS aIE mO a0l ae ka ob0 ob1 h0) := by
  refine MetFree.of_bodySF (plainFor_of_name pnv17) hisR ?_
  intro p e s m args below meth c s₁ Bd hml0 hP hK
  obtain ⟨rfl, hZ, hh⟩ := hP
  have hx := Bd.exec
  have hby := Bd.bytes
  have hml : c.maxLocals = 2 := hml0
  have hown : s.vm.findClass "java/util/ImmutableCollections" = some m.cls := findClass_of_methodNamed Bd.named
  have hnm := (name_of_methodNamed Bd.named Bd.method).1
  have X0 : Stand p l e (Rm 6 2 4 76) s m #[(.ref a0l)] below meth c s₁ [] 0 0 := Stand.of_body Bd
  have e0 : s₁.heap = h0 := by rw [← hh, Bd.state]; rfl
  have N0 := Fr.nil n0
  have pre0 : ∀ t, SP p e below s₁ m 0 #[vr a0l, .unset] [] t → Steps p.tables e below (s₁.setTop (entryFrame m #[(.ref a0l)] 2)) t := fun t k => castTop (ef_rmLk_1 m a0l) k
  have GL' := GL
  obtain ⟨GCS, GCP, GDE, GVE, GUS, GSS, GIE, GMO⟩ := GL'
  obtain ⟨T1, X1, e1, st1⟩ := instNo X0 hx hZ hown (Wd hw 318 rfl) e0 E_a0l (own_nsNo (Wd hw 319 rfl) (Wd hw 355 rfl) (NS.step (Wd hw 319 rfl) (NS.step (Wd hw 320 rfl) (NS.step (Wd hw 321 rfl) (own_nsRoot (Wd hw 322 rfl) (Wd hw 355 rfl) (by decide)) (by decide)) (by decide)) (by decide)) (by decide)) (g := mkF m 1 #[vr a0l, .unset] [(.ref a0l)]) rfl rfl (dG hby D52 1 rfl)
  obtain ⟨T2, X2, e2, st2⟩ := instNo X1 hx hZ hown (Wd hw 323 rfl) e1 E_a0l (own_nsNo (Wd hw 319 rfl) (Wd hw 410 rfl) (NS.step (Wd hw 319 rfl) (NS.step (Wd hw 320 rfl) (NS.step (Wd hw 321 rfl) (own_nsRoot (Wd hw 322 rfl) (Wd hw 410 rfl) (by decide)) (by decide)) (by decide)) (by decide)) (by decide)) (g := mkF m 8 #[vr a0l, .unset] [(.ref a0l)]) rfl rfl (dG hby D52 4 rfl)
  obtain ⟨cq3, kq3, q3a, q3b, q3c⟩ := isOf hZ e2 E_a0l
  obtain ⟨_, _, ⟨T3, L3, k3, n3⟩, -, X3, ⟨Lc3, hQ3, l3, y3, z3⟩, st3⟩ := X2.interfaceBack hx (xi := MN_57) (y := MN_38) hown (mvT hZ (Wd hw 324 rfl)) (mvT hZ (Wd hw 325 rfl)) (mvT hZ (Wd hw 326 rfl)) (mvT hZ (Wd hw 327 rfl)) (mvT hZ (Wd hw 118 rfl)) (mvT hZ (Wd hw 119 rfl)) (mvT hZ (Wd hw 120 rfl)) (mvT hZ (Wd hw 328 rfl)) (by decide) (backOf (W := 0) (rmIe l Z a0 hw [] cS aDE kDE aUS aSS aIE mO a0l ((2 : Int32)) h0 n0 O0 GL F_size_a0l (by decide)) hZ (Wd hw 122 rfl) (Wd hw 36 rfl) (by decide) (by decide)) q3a q3b q3c (g := mkF m 32 #[vr a0l, .unset] [(.ref a0l)]) rfl (by rw [hml]; rfl) (Steps.refl _) (argsL := []) (rest := []) (lenOf pdv15 rfl) rfl (by show 2 * 0 + _ ≤ _; exact lEq rfl) (dG hby D52 7 rfl) (fun _ _ => ⟨rfl, e2, (by decide : 0 + 0 ≤ _), (by decide : 0 + 0 ≤ _)⟩)
  dsimp only [Pt.U, Pt.locs, Pt.cells, Pt.slots] at X3 l3 y3 z3 st3 hQ3
  subst l3 y3 z3
  obtain ⟨rfl, N3q, e3⟩ := hQ3
  have N3 := Fr.app N0 N3q
  obtain ⟨cq4, kq4, q4a, q4b, q4c⟩ := isOf hZ e3 E_a0l
  obtain ⟨_, _, ⟨T4, L4, k4, n4⟩, -, X4, ⟨Lc4, hQ4, l4, y4, z4⟩, st4⟩ := X3.interfaceBack hx (xi := MN_58) (y := MN_48) hown (mvT hZ (Wd hw 329 rfl)) (mvT hZ (Wd hw 330 rfl)) (mvT hZ (Wd hw 331 rfl)) (mvT hZ (Wd hw 332 rfl)) (mvT hZ (Wd hw 333 rfl)) (mvT hZ (Wd hw 334 rfl)) (mvT hZ (Wd hw 335 rfl)) (mvT hZ (Wd hw 328 rfl)) (by decide) (backOf (W := 0) (rmTa_2 l Z a0 hw [] cS aDE kDE aUS aSS aIE mO a0l ae ka ob0 ob1 h0 n0 O0 GL E_a0l F_elementData_a0l F_size_a0l E_ae V_ae E_ob0 E_ob1) hZ (Wd hw 336 rfl) (Wd hw 36 rfl) (by decide) (by decide)) q4a q4b q4c (g := mkF m 45 #[vr a0l, .unset] [(.ref a0l)]) rfl (by rw [hml]; rfl) (Steps.refl _) (argsL := []) (rest := []) (lenOf pdv22 rfl) rfl (by show 2 * 0 + _ ≤ _; exact lEq rfl) (dG hby D52 10 rfl) (fun _ _ => ⟨rfl, e3, (by decide : 0 + 1 ≤ _), (by decide : 0 + 2 ≤ _)⟩)
  dsimp only [Pt.U, Pt.locs, Pt.cells, Pt.slots] at X4 l4 y4 z4 st4 hQ4
  subst l4 y4 z4
  obtain ⟨b_4, kb_4, rfl, N4q, Kc4, P4_0, P4_1⟩ := hQ4
  have K4 : Keep h0 T4.heap [] := (Keep.refl h0 []).trans Kc4 all0
  have O4 := O0.keep Kc4 all0
  have g_b_4 : n0 ≤ b_4 := lTr (own_sz O0) P4_0
  have sz_b_4 : h0.size ≤ b_4 := lTr (Keep.refl h0 []).1 P4_0
  have N4 := Fr.app N3 N4q
  obtain ⟨_, _, ⟨T5, L5, k5, n5⟩, -, X5, ⟨Lc5, hQ5, l5, y5, z5⟩, st5⟩ := Jvm.LawKit.callS X4 hx (y := MN_56) hown (mvT hZ (Wd hw 351 rfl)) (mvT hZ (Wd hw 352 rfl)) (mvT hZ (Wd hw 312 rfl)) (mvT hZ (Wd hw 353 rfl)) (by decide) (backOf (W := 0) (rmLo_2 l Z a0 hw [] cS aDE kDE aUS aSS aIE mO b_4 kb_4 ob0 ob1 (T4.heap) n0 O4 GL P4_1 (E_ob0.keep Kc4) (E_ob1.keep Kc4)) hZ (Wd hw 353 rfl) (Wd hw 312 rfl) (by decide) (by decide)) (g := mkF m 50 #[vr a0l, .unset] [(.ref b_4)]) rfl (by rw [hml]; rfl) (argsL := [(.ref b_4)]) (rest := []) (lenOf pdv31 rfl) rfl (by show 2 * 0 + _ ≤ _; exact lEq rfl) (dG hby D52 11 rfl) (fun _ _ => ⟨rfl, rfl, (by decide : 1 + 1 ≤ _), (by decide : 2 + 2 ≤ _)⟩)
  dsimp only [Pt.U, Pt.locs, Pt.cells, Pt.slots] at X5 l5 y5 z5 st5 hQ5
  subst l5 y5 z5
  obtain ⟨b_5, rfl, N5q, Kc5, P5_0, P5_1, P5_2⟩ := hQ5
  have K5 : Keep h0 T5.heap [] := K4.trans Kc5 all0
  have O5 := O4.keep Kc5 all0
  have g_b_5 : n0 ≤ b_5 := lTr (own_sz O4) P5_0
  have sz_b_5 : h0.size ≤ b_5 := lTr K4.1 P5_0
  have N5 := Fr.app N4 N5q
  obtain ⟨fs, hr, hrun, hended, hW, hsame⟩ := X5.leave (v := some (.ref b_5)) (fun h => by rw [Bd.returns] at h; cases h)
  refine ⟨_, _, pre0 _ ?_, hrun, hended, _, _, rfl, ?_, ⟨_, rfl⟩, hW, hsame.mono (by decide) (by decide)⟩
  · show SP p e below s₁ m 0 #[vr a0l, .unset] [] _
    refine XS.aloadN X0.here hx rfl (dG hby D52 0 rfl) rfl rfl ?_
    show SP p e below s₁ m 1 #[vr a0l, .unset] [(.ref a0l)] _
    refine st1 _ ?_
    show SP p e below T1 m 4 #[vr a0l, .unset] [(.int 0)] _
    refine XS.ifNo X1.here hx rfl (dG hby D52 2 rfl) rfl ((if0 _ _).trans (teq (by decide : (0 : Int32) = (0 : Int32))).2) ?_
    refine XS.aloadN X1.here hx rfl (dG hby D52 3 rfl) rfl rfl ?_
    show SP p e below T1 m 8 #[vr a0l, .unset] [(.ref a0l)] _
    refine st2 _ ?_
    show SP p e below T2 m 11 #[vr a0l, .unset] [(.int 0)] _
    refine XS.ifYes X2.here hx rfl (pc0 := 11) (pc' := 31) rfl (dG hby D52 5 rfl) rfl ((if0 _ _).trans (teq (by decide : (0 : Int32) = (0 : Int32))).1) (by decide) (by decide) ?_
    refine XS.aloadN X2.here hx rfl (dG hby D52 6 rfl) rfl rfl ?_
    show SP p e below T2 m 32 #[vr a0l, .unset] [(.ref a0l)] _
    refine st3.trans ?_
    show SP p e below T3 m 37 #[vr a0l, .unset] [(.int 0)] _
    refine XS.ifYes X3.here hx rfl (pc0 := 37) (pc' := 44) rfl (dG hby D52 8 rfl) rfl ((if0 _ _).trans (teq (by decide : (0 : Int32) = (0 : Int32))).1) (by decide) (by decide) ?_
    refine XS.aloadN X3.here hx rfl (dG hby D52 9 rfl) rfl rfl ?_
    show SP p e below T3 m 45 #[vr a0l, .unset] [(.ref a0l)] _
    refine st4.trans ?_
    show SP p e below T4 m 50 #[vr a0l, .unset] [(.ref b_4)] _
    refine st5 _ ?_
    show SP p e below T5 m 53 #[vr a0l, .unset] [(.ref b_5)] _
    exact retA X5 hx Bd.returns rfl (dG hby D52 12 rfl) hr
  · show Q_rmLk_2 n0 Z cS aDE kDE aUS aSS aIE mO a0l ae ka ob0 ob1 h0 _ T5.heap _
    exact ⟨b_5, rfl, N5, K5, sz_b_5, P5_1, P5_2⟩
def Q_rmLc_2 (n0 : Nat) (Z : State) (cS : Int32) (aDE : Addr) (kDE : ClassId) (aUS : Addr) (aSS : Addr) (aIE : Addr) (mO : Addr) (a0l : Addr) (ae : Addr) (ka : ClassId) (ob0 : Addr) (ob1 : Addr) (h0 : Heap) (v : Option Value) (h : Heap) (L : List Loc) : Prop := ∃ b : Addr, v = some (.ref b) ∧ Fr n0 L ∧ Keep h0 h [] ∧ (h0.size ≤ b) ∧ (Exa Z h b "java/util/ImmutableCollections$List12") ∧ (Fld Z h b "java/util/ImmutableCollections$List12" "e0" "Ljava/lang/Object;" (.ref ob0))
theorem rmLc_2 (l : Launch) (Z : State) (a0 : Array Value) (hw : ∀ d ∈ tables_1, d.before a0 Z = true) (ws : List Jvm.Cond) (cS : Int32) (aDE : Addr) (kDE : ClassId) (aUS : Addr) (aSS : Addr) (aIE : Addr) (mO : Addr) (a0l : Addr) (ae : Addr) (ka : ClassId) (ob0 : Addr) (ob1 : Addr) (h0 : Heap) (n0 : Nat) (O0 : Old Z n0 h0) (GL : GF Z cS aDE kDE aUS aSS aIE mO) (E_a0l : Exa Z h0 a0l "java/util/ArrayList") (F_elementData_a0l : Fld Z h0 a0l "java/util/ArrayList" "elementData" "[Ljava/lang/Object;" (.ref ae)) (F_size_a0l : Fld Z h0 a0l "java/util/ArrayList" "size" "I" (.int 2)) (E_ae : Exa Z h0 ae "[Ljava/lang/Object;") (V_ae : Arv Z h0 ae ka (.object "java/lang/Object") (10 : Int32) [(.ref ob0), (.ref ob1), .null, .null, .null, .null, .null, .null, .null, .null] .null) (E_ob0 : Exa Z h0 ob0 "com/example/grantline/grantline/PolicyException$Problem") (E_ob1 : Exa Z h0 ob1 "com/example/grantline/grantline/PolicyException$Problem") :
    MF l MN_60 jdk_40_method_48_code 1 (some (.object "java/util/List")) ws (Rm 7 2 4 89) #[(.ref a0l)] Z h0 (Q_rmLc_2 n0 Z cS aDE kDE aUS aSS aIE mO a0l ae ka ob0 ob1 h0) := by
  refine MetFree.of_bodySF (plainFor_of_name pnv18) hisR ?_
  intro p e s m args below meth c s₁ Bd hml0 hP hK
  obtain ⟨rfl, hZ, hh⟩ := hP
  have hx := Bd.exec
  have hby := Bd.bytes
  have hml : c.maxLocals = 1 := hml0
  have hown : s.vm.findClass "java/util/List" = some m.cls := findClass_of_methodNamed Bd.named
  have hnm := (name_of_methodNamed Bd.named Bd.method).1
  have X0 : Stand p l e (Rm 7 2 4 89) s m #[(.ref a0l)] below meth c s₁ [] 0 0 := Stand.of_body Bd
  have e0 : s₁.heap = h0 := by rw [← hh, Bd.state]; rfl
  have N0 := Fr.nil n0
  have pre0 : ∀ t, SP p e below s₁ m 0 #[vr a0l] [] t → Steps p.tables e below (s₁.setTop (entryFrame m #[(.ref a0l)] 1)) t := fun t k => castTop (ef_rmAbc m a0l) k
  have GL' := GL
  obtain ⟨GCS, GCP, GDE, GVE, GUS, GSS, GIE, GMO⟩ := GL'
  obtain ⟨_, _, ⟨T1, L1, k1, n1⟩, -, X1, ⟨Lc1, hQ1, l1, y1, z1⟩, st1⟩ := Jvm.LawKit.callS X0 hx (y := MN_59) hown (mvT hZ (Wd hw 314 rfl)) (mvT hZ (Wd hw 315 rfl)) (mvT hZ (Wd hw 316 rfl)) (mvT hZ (Wd hw 317 rfl)) (by decide) (backOf (W := 0) (rmLk_2 l Z a0 hw [] cS aDE kDE aUS aSS aIE mO a0l ae ka ob0 ob1 h0 n0 O0 GL E_a0l F_elementData_a0l F_size_a0l E_ae V_ae E_ob0 E_ob1) hZ (Wd hw 317 rfl) (Wd hw 316 rfl) (by decide) (by decide)) (g := mkF m 1 #[vr a0l] [(.ref a0l)]) rfl (by rw [hml]; rfl) (argsL := [(.ref a0l)]) (rest := []) (lenOf pdv32 rfl) rfl (by show 2 * 0 + _ ≤ _; exact lEq rfl) (dG hby D51 1 rfl) (fun _ _ => ⟨rfl, e0, (by decide : 0 + 2 ≤ _), (by decide : 0 + 4 ≤ _)⟩)
  dsimp only [Pt.U, Pt.locs, Pt.cells, Pt.slots] at X1 l1 y1 z1 st1 hQ1
  subst l1 y1 z1
  obtain ⟨b_1, rfl, N1q, Kc1, P1_0, P1_1, P1_2⟩ := hQ1
  have K1 : Keep h0 T1.heap [] := (Keep.refl h0 []).trans Kc1 all0
  have O1 := O0.keep Kc1 all0
  have g_b_1 : n0 ≤ b_1 := lTr (own_sz O0) P1_0
  have sz_b_1 : h0.size ≤ b_1 := lTr (Keep.refl h0 []).1 P1_0
  have N1 := Fr.app N0 N1q
  obtain ⟨fs, hr, hrun, hended, hW, hsame⟩ := X1.leave (v := some (.ref b_1)) (fun h => by rw [Bd.returns] at h; cases h)
  refine ⟨_, _, pre0 _ ?_, hrun, hended, _, _, rfl, ?_, ⟨_, rfl⟩, hW, hsame.mono (by decide) (by decide)⟩
  · show SP p e below s₁ m 0 #[vr a0l] [] _
    refine XS.aloadN X0.here hx rfl (dG hby D51 0 rfl) rfl rfl ?_
    show SP p e below s₁ m 1 #[vr a0l] [(.ref a0l)] _
    refine st1 _ ?_
    show SP p e below T1 m 4 #[vr a0l] [(.ref b_1)] _
    exact retA X1 hx Bd.returns rfl (dG hby D51 2 rfl) hr
  · show Q_rmLc_2 n0 Z cS aDE kDE aUS aSS aIE mO a0l ae ka ob0 ob1 h0 _ T1.heap _
    exact ⟨b_1, rfl, N1, K1, sz_b_1, P1_1, P1_2⟩
def Q_rmLo_3 (n0 : Nat) (Z : State) (cS : Int32) (aDE : Addr) (kDE : ClassId) (aUS : Addr) (aSS : Addr) (aIE : Addr) (mO : Addr) (a0d : Addr) (ka : ClassId) (ob0 : Addr) (ob1 : Addr) (ob2 : Addr) (h0 : Heap) (v : Option Value) (h : Heap) (L : List Loc) : Prop := ∃ b : Addr, ∃ d : Addr, ∃ kd : ClassId, v = some (.ref b) ∧ Fr n0 L ∧ Keep h0 h [] ∧ (h0.size ≤ b) ∧ (h0.size ≤ d) ∧ (Exa Z h b "java/util/ImmutableCollections$ListN") ∧ (Fld Z h b "java/util/ImmutableCollections$ListN" "elements" "[Ljava/lang/Object;" (.ref d)) ∧ (Arv Z h d kd (.object "java/lang/Object") (3 : Int32) [(.ref ob0), (.ref ob1), (.ref ob2)] .null)
theorem rmLo_3 (l : Launch) (Z : State) (a0 : Array Value) (hw : ∀ d ∈ tables_1, d.before a0 Z = true) (ws : List Jvm.Cond) (cS : Int32) (aDE : Addr) (kDE : ClassId) (aUS : Addr) (aSS : Addr) (aIE : Addr) (mO : Addr) (a0d : Addr) (ka : ClassId) (ob0 : Addr) (ob1 : Addr) (ob2 : Addr) (h0 : Heap) (n0 : Nat) (O0 : Old Z n0 h0) (GL : GF Z cS aDE kDE aUS aSS aIE mO) (V_a0d : Arv Z h0 a0d ka (.object "java/lang/Object") (3 : Int32) [(.ref ob0), (.ref ob1), (.ref ob2)] .null) (E_ob0 : Exa Z h0 ob0 "com/example/grantline/grantline/PolicyException$Problem") (E_ob1 : Exa Z h0 ob1 "com/example/grantline/grantline/PolicyException$Problem") (E_ob2 : Exa Z h0 ob2 "com/example/grantline/grantline/PolicyException$Problem") :
    MF l MN_56 jdk_40_method_47_code 2 (some (.object "java/util/List")) ws (Rm 6 2 5 77) #[(.ref a0d)] Z h0 (Q_rmLo_3 n0 Z cS aDE kDE aUS aSS aIE mO a0d ka ob0 ob1 ob2 h0) := by
  refine MetFree.of_bodySF (plainFor_of_name pnv18) hisR ?_
  intro p e s m args below meth c s₁ Bd hml0 hP hK
  obtain ⟨rfl, hZ, hh⟩ := hP
  have hx := Bd.exec
  have hby := Bd.bytes
  have hml : c.maxLocals = 2 := hml0
  have hown : s.vm.findClass "java/util/List" = some m.cls := findClass_of_methodNamed Bd.named
  have hnm := (name_of_methodNamed Bd.named Bd.method).1
  have X0 : Stand p l e (Rm 6 2 5 77) s m #[(.ref a0d)] below meth c s₁ [] 0 0 := Stand.of_body Bd
  have e0 : s₁.heap = h0 := by rw [← hh, Bd.state]; rfl
  have N0 := Fr.nil n0
  have pre0 : ∀ t, SP p e below s₁ m 0 #[vr a0d, .unset] [] t → Steps p.tables e below (s₁.setTop (entryFrame m #[(.ref a0d)] 2)) t := fun t k => castTop (ef_rmLo_1 m a0d) k
  have GL' := GL
  obtain ⟨GCS, GCP, GDE, GVE, GUS, GSS, GIE, GMO⟩ := GL'
  obtain ⟨cl1, Ar1, -, S1, N1_, -, -⟩ := id (V_a0d)
  obtain ⟨_, _, ⟨T2, L2, k2, n2⟩, -, X2, ⟨Lc2, hQ2, l2, y2, z2⟩, st2⟩ := Jvm.LawKit.callS X0 hx (y := MN_55) hown (mvT hZ (Wd hw 405 rfl)) (mvT hZ (Wd hw 406 rfl)) (mvT hZ (Wd hw 316 rfl)) (mvT hZ (Wd hw 407 rfl)) (by decide) (backOf (W := 0) (rmLfa l Z a0 hw [] cS aDE kDE aUS aSS aIE mO a0d ka ob0 ob1 ob2 h0 n0 O0 GL V_a0d E_ob0 E_ob1 E_ob2) hZ (Wd hw 407 rfl) (Wd hw 316 rfl) (by decide) (by decide)) (g := mkF m 60 #[vr a0d, .unset] [(.ref a0d)]) rfl (by rw [hml]; rfl) (argsL := [(.ref a0d)]) (rest := []) (lenOf pdv31 rfl) rfl (by show 2 * 0 + _ ≤ _; exact lEq rfl) (dG hby D56 21 rfl) (fun _ _ => ⟨rfl, e0, (by decide : 0 + 2 ≤ _), (by decide : 0 + 5 ≤ _)⟩)
  dsimp only [Pt.U, Pt.locs, Pt.cells, Pt.slots] at X2 l2 y2 z2 st2 hQ2
  subst l2 y2 z2
  obtain ⟨b_2, d_2, kd_2, rfl, N2q, Kc2, P2_0, P2_1, P2_2, P2_3, P2_4⟩ := hQ2
  have K2 : Keep h0 T2.heap [] := (Keep.refl h0 []).trans Kc2 all0
  have O2 := O0.keep Kc2 all0
  have g_b_2 : n0 ≤ b_2 := lTr (own_sz O0) P2_0
  have sz_b_2 : h0.size ≤ b_2 := lTr (Keep.refl h0 []).1 P2_0
  have g_d_2 : n0 ≤ d_2 := lTr (own_sz O0) P2_1
  have sz_d_2 : h0.size ≤ d_2 := lTr (Keep.refl h0 []).1 P2_1
  have N2 := Fr.app N0 N2q
  obtain ⟨fs, hr, hrun, hended, hW, hsame⟩ := X2.leave (v := some (.ref b_2)) (fun h => by rw [Bd.returns] at h; cases h)
  refine ⟨_, _, pre0 _ ?_, hrun, hended, _, _, rfl, ?_, ⟨_, rfl⟩, hW, hsame.mono (by decide) (by decide)⟩
  · show SP p e below s₁ m 0 #[vr a0d, .unset] [] _
    refine XS.aloadN X0.here hx rfl (dG hby D56 0 rfl) rfl rfl ?_
    show SP p e below s₁ m 1 #[vr a0d, .unset] [(.ref a0d)] _
    refine X0.arraylength hx (by rw [e0]; exact Ar1.1) (State.isArrayOf_alike hZ.alike Ar1.2.1) (g := mkF m 1 #[vr a0d, .unset] [(.ref a0d)]) rfl rfl (dG hby D56 1 rfl) _ ?_
    rw [len_of S1 N1_]
    show SP p e below s₁ m 2 #[vr a0d, .unset] [(.int 3)] _
    refine XS.tswOut X0.here hx rfl (pc0 := 2) (pc' := 59) rfl (dG hby D56 2 rfl) rfl (by decide) (by decide) (by decide) ?_
    refine XS.aloadN X0.here hx rfl (dG hby D56 20 rfl) rfl rfl ?_
    show SP p e below s₁ m 60 #[vr a0d, .unset] [(.ref a0d)] _
    refine st2 _ ?_
    show SP p e below T2 m 63 #[vr a0d, .unset] [(.ref b_2)] _
    exact retA X2 hx Bd.returns rfl (dG hby D56 22 rfl) hr
  · show Q_rmLo_3 n0 Z cS aDE kDE aUS aSS aIE mO a0d ka ob0 ob1 ob2 h0 _ T2.heap _
    exact ⟨b_2, d_2, kd_2, rfl, N2, K2, sz_b_2, sz_d_2, P2_2, P2_3, P2_4⟩
def Q_rmLk_3 (n0 : Nat) (Z : State) (cS : Int32) (aDE : Addr) (kDE : ClassId) (aUS : Addr) (aSS : Addr) (aIE : Addr) (mO : Addr) (a0l : Addr) (ae : Addr) (ka : ClassId) (ob0 : Addr) (ob1 : Addr) (ob2 : Addr) (h0 : Heap) (v : Option Value) (h : Heap) (L : List Loc) : Prop := ∃ b : Addr, ∃ d : Addr, ∃ kd : ClassId, v = some (.ref b) ∧ Fr n0 L ∧ Keep h0 h [] ∧ (h0.size ≤ b) ∧ (h0.size ≤ d) ∧ (Exa Z h b "java/util/ImmutableCollections$ListN") ∧ (Fld Z h b "java/util/ImmutableCollections$ListN" "elements" "[Ljava/lang/Object;" (.ref d)) ∧ (Arv Z h d kd (.object "java/lang/Object") (3 : Int32) [(.ref ob0), (.ref ob1), (.ref ob2)] .null)
theorem rmLk_3 (l : Launch) (Z : State) (a0 : Array Value) (hw : ∀ d ∈ tables_1, d.before a0 Z = true) (ws : List Jvm.Cond) (cS : Int32) (aDE : Addr) (kDE : ClassId) (aUS : Addr) (aSS : Addr) (aIE : Addr) (mO : Addr) (a0l : Addr) (ae : Addr) (ka : ClassId) (ob0 : Addr) (ob1 : Addr) (ob2 : Addr) (h0 : Heap) (n0 : Nat) (O0 : Old Z n0 h0) (GL : GF Z cS aDE kDE aUS aSS aIE mO) (E_a0l : Exa Z h0 a0l "java/util/ArrayList") (F_elementData_a0l : Fld Z h0 a0l "java/util/ArrayList" "elementData" "[Ljava/lang/Object;" (.ref ae)) (F_size_a0l : Fld Z h0 a0l "java/util/ArrayList" "size" "I" (.int 3)) (E_ae : Exa Z h0 ae "[Ljava/lang/Object;") (V_ae : Arv Z h0 ae ka (.object "java/lang/Object") (10 : Int32) [(.ref ob0), (.ref ob1), (.ref ob2), .null, .null, .null, .null, .null, .null, .null] .null) (E_ob0 : Exa Z h0 ob0 "com/example/grantline/grantline/PolicyException$Problem") (E_ob1 : Exa Z h0 ob1 "com/example/grantline/grantline/PolicyException$Problem") (E_ob2 : Exa Z h0 ob2 "com/example/grantline/grantline/PolicyException$Problem") :
    MF l MN_59 jdk_56_method_3_code 2 (some (.object "java/util/List")) ws (Rm 7 3 8 90) #[(.ref a0l)] Z h0 (Q_rmLk_3 n0 Z cS aDE kDE aUS aSS aIE mO a0l ae ka ob0 ob1 ob2 h0) := by
  refine MetFree.of_bodySF (plainFor_of_name pnv17) hisR ?_
  intro p e s m args below meth c s₁ Bd hml0 hP hK
  obtain ⟨rfl, hZ, hh⟩ := hP
  have hx := Bd.exec
  have hby := Bd.bytes
  have hml : c.maxLocals = 2 := hml0
  have hown : s.vm.findClass "java/util/ImmutableCollections" = some m.cls := findClass_of_methodNamed Bd.named
  have hnm := (name_of_methodNamed Bd.named Bd.method).1
  have X0 : Stand p l e (Rm 7 3 8 90) s m #[(.ref a0l)] below meth c s₁ [] 0 0 := Stand.of_body Bd
  have e0 : s₁.heap = h0 := by rw [← hh, Bd.state]; rfl
  have N0 := Fr.nil n0
  have pre0 : ∀ t, SP p e below s₁ m 0 #[vr a0l, .unset] [] t → Steps p.tables e below (s₁.setTop (entryFrame m #[(.ref a0l)] 2)) t := fun t k => castTop (ef_rmLk_1 m a0l) k
  have GL' := GL
  obtain ⟨GCS, GCP, GDE, GVE, GUS, GSS, GIE, GMO⟩ := GL'
  obtain ⟨T1, X1, e1, st1⟩ := instNo X0 hx hZ hown (Wd hw 318 rfl) e0 E_a0l (own_nsNo (Wd hw 319 rfl) (Wd hw 355 rfl) (NS.step (Wd hw 319 rfl) (NS.step (Wd hw 320 rfl) (NS.step (Wd hw 321 rfl) (own_nsRoot (Wd hw 322 rfl) (Wd hw 355 rfl) (by decide)) (by decide)) (by decide)) (by decide)) (by decide)) (g := mkF m 1 #[vr a0l, .unset] [(.ref a0l)]) rfl rfl (dG hby D52 1 rfl)
  obtain ⟨T2, X2, e2, st2⟩ := instNo X1 hx hZ hown (Wd hw 323 rfl) e1 E_a0l (own_nsNo (Wd hw 319 rfl) (Wd hw 410 rfl) (NS.step (Wd hw 319 rfl) (NS.step (Wd hw 320 rfl) (NS.step (Wd hw 321 rfl) (own_nsRoot (Wd hw 322 rfl) (Wd hw 410 rfl) (by decide)) (by decide)) (by decide)) (by decide)) (by decide)) (g := mkF m 8 #[vr a0l, .unset] [(.ref a0l)]) rfl rfl (dG hby D52 4 rfl)
  obtain ⟨cq3, kq3, q3a, q3b, q3c⟩ := isOf hZ e2 E_a0l
  obtain ⟨_, _, ⟨T3, L3, k3, n3⟩, -, X3, ⟨Lc3, hQ3, l3, y3, z3⟩, st3⟩ := X2.interfaceBack hx (xi := MN_57) (y := MN_38) hown (mvT hZ (Wd hw 324 rfl)) (mvT hZ (Wd hw 325 rfl)) (mvT hZ (Wd hw 326 rfl)) (mvT hZ (Wd hw 327 rfl)) (mvT hZ (Wd hw 118 rfl)) (mvT hZ (Wd hw 119 rfl)) (mvT hZ (Wd hw 120 rfl)) (mvT hZ (Wd hw 328 rfl)) (by decide) (backOf (W := 0) (rmIe l Z a0 hw [] cS aDE kDE aUS aSS aIE mO a0l ((3 : Int32)) h0 n0 O0 GL F_size_a0l (by decide)) hZ (Wd hw 122 rfl) (Wd hw 36 rfl) (by decide) (by decide)) q3a q3b q3c (g := mkF m 32 #[vr a0l, .unset] [(.ref a0l)]) rfl (by rw [hml]; rfl) (Steps.refl _) (argsL := []) (rest := []) (lenOf pdv15 rfl) rfl (by show 2 * 0 + _ ≤ _; exact lEq rfl) (dG hby D52 7 rfl) (fun _ _ => ⟨rfl, e2, (by decide : 0 + 0 ≤ _), (by decide : 0 + 0 ≤ _)⟩)
  dsimp only [Pt.U, Pt.locs, Pt.cells, Pt.slots] at X3 l3 y3 z3 st3 hQ3
  subst l3 y3 z3
  obtain ⟨rfl, N3q, e3⟩ := hQ3
  have N3 := Fr.app N0 N3q
  obtain ⟨cq4, kq4, q4a, q4b, q4c⟩ := isOf hZ e3 E_a0l
  obtain ⟨_, _, ⟨T4, L4, k4, n4⟩, -, X4, ⟨Lc4, hQ4, l4, y4, z4⟩, st4⟩ := X3.interfaceBack hx (xi := MN_58) (y := MN_48) hown (mvT hZ (Wd hw 329 rfl)) (mvT hZ (Wd hw 330 rfl)) (mvT hZ (Wd hw 331 rfl)) (mvT hZ (Wd hw 332 rfl)) (mvT hZ (Wd hw 333 rfl)) (mvT hZ (Wd hw 334 rfl)) (mvT hZ (Wd hw 335 rfl)) (mvT hZ (Wd hw 328 rfl)) (by decide) (backOf (W := 0) (rmTa_3 l Z a0 hw [] cS aDE kDE aUS aSS aIE mO a0l ae ka ob0 ob1 ob2 h0 n0 O0 GL E_a0l F_elementData_a0l F_size_a0l E_ae V_ae E_ob0 E_ob1 E_ob2) hZ (Wd hw 336 rfl) (Wd hw 36 rfl) (by decide) (by decide)) q4a q4b q4c (g := mkF m 45 #[vr a0l, .unset] [(.ref a0l)]) rfl (by rw [hml]; rfl) (Steps.refl _) (argsL := []) (rest := []) (lenOf pdv22 rfl) rfl (by show 2 * 0 + _ ≤ _; exact lEq rfl) (dG hby D52 10 rfl) (fun _ _ => ⟨rfl, e3, (by decide : 0 + 1 ≤ _), (by decide : 0 + 3 ≤ _)⟩)
  dsimp only [Pt.U, Pt.locs, Pt.cells, Pt.slots] at X4 l4 y4 z4 st4 hQ4
  subst l4 y4 z4
  obtain ⟨b_4, kb_4, rfl, N4q, Kc4, P4_0, P4_1⟩ := hQ4
  have K4 : Keep h0 T4.heap [] := (Keep.refl h0 []).trans Kc4 all0
  have O4 := O0.keep Kc4 all0
  have g_b_4 : n0 ≤ b_4 := lTr (own_sz O0) P4_0
  have sz_b_4 : h0.size ≤ b_4 := lTr (Keep.refl h0 []).1 P4_0
  have N4 := Fr.app N3 N4q
  obtain ⟨_, _, ⟨T5, L5, k5, n5⟩, -, X5, ⟨Lc5, hQ5, l5, y5, z5⟩, st5⟩ := Jvm.LawKit.callS X4 hx (y := MN_56) hown (mvT hZ (Wd hw 351 rfl)) (mvT hZ (Wd hw 352 rfl)) (mvT hZ (Wd hw 312 rfl)) (mvT hZ (Wd hw 353 rfl)) (by decide) (backOf (W := 0) (rmLo_3 l Z a0 hw [] cS aDE kDE aUS aSS aIE mO b_4 kb_4 ob0 ob1 ob2 (T4.heap) n0 O4 GL P4_1 (E_ob0.keep Kc4) (E_ob1.keep Kc4) (E_ob2.keep Kc4)) hZ (Wd hw 353 rfl) (Wd hw 312 rfl) (by decide) (by decide)) (g := mkF m 50 #[vr a0l, .unset] [(.ref b_4)]) rfl (by rw [hml]; rfl) (argsL := [(.ref b_4)]) (rest := []) (lenOf pdv31 rfl) rfl (by show 2 * 0 + _ ≤ _; exact lEq rfl) (dG hby D52 11 rfl) (fun _ _ => ⟨rfl, rfl, (by decide : 1 + 2 ≤ _), (by decide : 3 + 5 ≤ _)⟩)
  dsimp only [Pt.U, Pt.locs, Pt.cells, Pt.slots] at X5 l5 y5 z5 st5 hQ5
  subst l5 y5 z5
  obtain ⟨b_5, d_5, kd_5, rfl, N5q, Kc5, P5_0, P5_1, P5_2, P5_3, P5_4⟩ := hQ5
  have K5 : Keep h0 T5.heap [] := K4.trans Kc5 all0
  have O5 := O4.keep Kc5 all0
  have g_b_5 : n0 ≤ b_5 := lTr (own_sz O4) P5_0
  have sz_b_5 : h0.size ≤ b_5 := lTr K4.1 P5_0
  have g_d_5 : n0 ≤ d_5 := lTr (own_sz O4) P5_1
  have sz_d_5 : h0.size ≤ d_5 := lTr K4.1 P5_1
  have N5 := Fr.app N4 N5q
  obtain ⟨fs, hr, hrun, hended, hW, hsame⟩ := X5.leave (v := some (.ref b_5)) (fun h => by rw [Bd.returns] at h; cases h)
  refine ⟨_, _, pre0 _ ?_, hrun, hended, _, _, rfl, ?_, ⟨_, rfl⟩, hW, hsame.mono (by decide) (by decide)⟩
  · show SP p e below s₁ m 0 #[vr a0l, .unset] [] _
    refine XS.aloadN X0.here hx rfl (dG hby D52 0 rfl) rfl rfl ?_
    show SP p e below s₁ m 1 #[vr a0l, .unset] [(.ref a0l)] _
    refine st1 _ ?_
    show SP p e below T1 m 4 #[vr a0l, .unset] [(.int 0)] _
    refine XS.ifNo X1.here hx rfl (dG hby D52 2 rfl) rfl ((if0 _ _).trans (teq (by decide : (0 : Int32) = (0 : Int32))).2) ?_
    refine XS.aloadN X1.here hx rfl (dG hby D52 3 rfl) rfl rfl ?_
    show SP p e below T1 m 8 #[vr a0l, .unset] [(.ref a0l)] _
    refine st2 _ ?_
    show SP p e below T2 m 11 #[vr a0l, .unset] [(.int 0)] _
    refine XS.ifYes X2.here hx rfl (pc0 := 11) (pc' := 31) rfl (dG hby D52 5 rfl) rfl ((if0 _ _).trans (teq (by decide : (0 : Int32) = (0 : Int32))).1) (by decide) (by decide) ?_
    refine XS.aloadN X2.here hx rfl (dG hby D52 6 rfl) rfl rfl ?_
    show SP p e below T2 m 32 #[vr a0l, .unset] [(.ref a0l)] _
    refine st3.trans ?_
    show SP p e below T3 m 37 #[vr a0l, .unset] [(.int 0)] _
    refine XS.ifYes X3.here hx rfl (pc0 := 37) (pc' := 44) rfl (dG hby D52 8 rfl) rfl ((if0 _ _).trans (teq (by decide : (0 : Int32) = (0 : Int32))).1) (by decide) (by decide) ?_
    refine XS.aloadN X3.here hx rfl (dG hby D52 9 rfl) rfl rfl ?_
    show SP p e below T3 m 45 #[vr a0l, .unset] [(.ref a0l)] _
    refine st4.trans ?_
    show SP p e below T4 m 50 #[vr a0l, .unset] [(.ref b_4)] _
    refine st5 _ ?_
    show SP p e below T5 m 53 #[vr a0l, .unset] [(.ref b_5)] _
    exact retA X5 hx Bd.returns rfl (dG hby D52 12 rfl) hr
  · show Q_rmLk_3 n0 Z cS aDE kDE aUS aSS aIE mO a0l ae ka ob0 ob1 ob2 h0 _ T5.heap _
    exact ⟨b_5, d_5, kd_5, rfl, N5, K5, sz_b_5, sz_d_5, P5_2, P5_3, P5_4⟩
def Q_rmLc_3 (n0 : Nat) (Z : State) (cS : Int32) (aDE : Addr) (kDE : ClassId) (aUS : Addr) (aSS : Addr) (aIE : Addr) (mO : Addr) (a0l : Addr) (ae : Addr) (ka : ClassId) (ob0 : Addr) (ob1 : Addr) (ob2 : Addr) (h0 : Heap) (v : Option Value) (h : Heap) (L : List Loc) : Prop := ∃ b : Addr, ∃ d : Addr, ∃ kd : ClassId, v = some (.ref b) ∧ Fr n0 L ∧ Keep h0 h [] ∧ (h0.size ≤ b) ∧ (h0.size ≤ d) ∧ (Exa Z h b "java/util/ImmutableCollections$ListN") ∧ (Fld Z h b "java/util/ImmutableCollections$ListN" "elements" "[Ljava/lang/Object;" (.ref d)) ∧ (Arv Z h d kd (.object "java/lang/Object") (3 : Int32) [(.ref ob0), (.ref ob1), (.ref ob2)] .null)
theorem rmLc_3 (l : Launch) (Z : State) (a0 : Array Value) (hw : ∀ d ∈ tables_1, d.before a0 Z = true) (ws : List Jvm.Cond) (cS : Int32) (aDE : Addr) (kDE : ClassId) (aUS : Addr) (aSS : Addr) (aIE : Addr) (mO : Addr) (a0l : Addr) (ae : Addr) (ka : ClassId) (ob0 : Addr) (ob1 : Addr) (ob2 : Addr) (h0 : Heap) (n0 : Nat) (O0 : Old Z n0 h0) (GL : GF Z cS aDE kDE aUS aSS aIE mO) (E_a0l : Exa Z h0 a0l "java/util/ArrayList") (F_elementData_a0l : Fld Z h0 a0l "java/util/ArrayList" "elementData" "[Ljava/lang/Object;" (.ref ae)) (F_size_a0l : Fld Z h0 a0l "java/util/ArrayList" "size" "I" (.int 3)) (E_ae : Exa Z h0 ae "[Ljava/lang/Object;") (V_ae : Arv Z h0 ae ka (.object "java/lang/Object") (10 : Int32) [(.ref ob0), (.ref ob1), (.ref ob2), .null, .null, .null, .null, .null, .null, .null] .null) (E_ob0 : Exa Z h0 ob0 "com/example/grantline/grantline/PolicyException$Problem") (E_ob1 : Exa Z h0 ob1 "com/example/grantline/grantline/PolicyException$Problem") (E_ob2 : Exa Z h0 ob2 "com/example/grantline/grantline/PolicyException$Problem") :
    MF l MN_60 jdk_40_method_48_code 1 (some (.object "java/util/List")) ws (Rm 8 3 8 103) #[(.ref a0l)] Z h0 (Q_rmLc_3 n0 Z cS aDE kDE aUS aSS aIE mO a0l ae ka ob0 ob1 ob2 h0) := by
  refine MetFree.of_bodySF (plainFor_of_name pnv18) hisR ?_
  intro p e s m args below meth c s₁ Bd hml0 hP hK
  obtain ⟨rfl, hZ, hh⟩ := hP
  have hx := Bd.exec
  have hby := Bd.bytes
  have hml : c.maxLocals = 1 := hml0
  have hown : s.vm.findClass "java/util/List" = some m.cls := findClass_of_methodNamed Bd.named
  have hnm := (name_of_methodNamed Bd.named Bd.method).1
  have X0 : Stand p l e (Rm 8 3 8 103) s m #[(.ref a0l)] below meth c s₁ [] 0 0 := Stand.of_body Bd
  have e0 : s₁.heap = h0 := by rw [← hh, Bd.state]; rfl
  have N0 := Fr.nil n0
  have pre0 : ∀ t, SP p e below s₁ m 0 #[vr a0l] [] t → Steps p.tables e below (s₁.setTop (entryFrame m #[(.ref a0l)] 1)) t := fun t k => castTop (ef_rmAbc m a0l) k
  have GL' := GL
  obtain ⟨GCS, GCP, GDE, GVE, GUS, GSS, GIE, GMO⟩ := GL'
  obtain ⟨_, _, ⟨T1, L1, k1, n1⟩, -, X1, ⟨Lc1, hQ1, l1, y1, z1⟩, st1⟩ := Jvm.LawKit.callS X0 hx (y := MN_59) hown (mvT hZ (Wd hw 314 rfl)) (mvT hZ (Wd hw 315 rfl)) (mvT hZ (Wd hw 316 rfl)) (mvT hZ (Wd hw 317 rfl)) (by decide) (backOf (W := 0) (rmLk_3 l Z a0 hw [] cS aDE kDE aUS aSS aIE mO a0l ae ka ob0 ob1 ob2 h0 n0 O0 GL E_a0l F_elementData_a0l F_size_a0l E_ae V_ae E_ob0 E_ob1 E_ob2) hZ (Wd hw 317 rfl) (Wd hw 316 rfl) (by decide) (by decide)) (g := mkF m 1 #[vr a0l] [(.ref a0l)]) rfl (by rw [hml]; rfl) (argsL := [(.ref a0l)]) (rest := []) (lenOf pdv32 rfl) rfl (by show 2 * 0 + _ ≤ _; exact lEq rfl) (dG hby D51 1 rfl) (fun _ _ => ⟨rfl, e0, (by decide : 0 + 3 ≤ _), (by decide : 0 + 8 ≤ _)⟩)
  dsimp only [Pt.U, Pt.locs, Pt.cells, Pt.slots] at X1 l1 y1 z1 st1 hQ1
  subst l1 y1 z1
  obtain ⟨b_1, d_1, kd_1, rfl, N1q, Kc1, P1_0, P1_1, P1_2, P1_3, P1_4⟩ := hQ1
  have K1 : Keep h0 T1.heap [] := (Keep.refl h0 []).trans Kc1 all0
  have O1 := O0.keep Kc1 all0
  have g_b_1 : n0 ≤ b_1 := lTr (own_sz O0) P1_0
  have sz_b_1 : h0.size ≤ b_1 := lTr (Keep.refl h0 []).1 P1_0
  have g_d_1 : n0 ≤ d_1 := lTr (own_sz O0) P1_1
  have sz_d_1 : h0.size ≤ d_1 := lTr (Keep.refl h0 []).1 P1_1
  have N1 := Fr.app N0 N1q
  obtain ⟨fs, hr, hrun, hended, hW, hsame⟩ := X1.leave (v := some (.ref b_1)) (fun h => by rw [Bd.returns] at h; cases h)
  refine ⟨_, _, pre0 _ ?_, hrun, hended, _, _, rfl, ?_, ⟨_, rfl⟩, hW, hsame.mono (by decide) (by decide)⟩
  · show SP p e below s₁ m 0 #[vr a0l] [] _
    refine XS.aloadN X0.here hx rfl (dG hby D51 0 rfl) rfl rfl ?_
    show SP p e below s₁ m 1 #[vr a0l] [(.ref a0l)] _
    refine st1 _ ?_
    show SP p e below T1 m 4 #[vr a0l] [(.ref b_1)] _
    exact retA X1 hx Bd.returns rfl (dG hby D51 2 rfl) hr
  · show Q_rmLc_3 n0 Z cS aDE kDE aUS aSS aIE mO a0l ae ka ob0 ob1 ob2 h0 _ T1.heap _
    exact ⟨b_1, d_1, kd_1, rfl, N1, K1, sz_b_1, sz_d_1, P1_2, P1_3, P1_4⟩
theorem D48 : dL jdk_78_method_2_code [(0, .aload_n 0, 1), (1, .invokespecial 1, 3), (4, .aload_n 0, 1), (5, .aload_n 0, 1), (6, .putfield 7, 3), (9, .aload_n 0, 1), (10, .getstatic 13, 3), (13, .putfield 17, 3), (16, .aload_n 0, 1), (17, .getstatic 20, 3), (20, .putfield 24, 3), (23, .aload_n 0, 1), (24, .invokevirtual 27, 3), (27, .pop, 1), (28, .aload_n 0, 1), (29, .aload_n 1, 1), (30, .putfield 31, 3), (33, .return_, 1)] = true := by decide +kernel
theorem pnv19 : plainName "java/lang/Throwable" = true := by first | (simp [plainName, overriddenIn]; done) | decide +kernel
abbrev MN_61 : MethodName := ⟨"java/lang/Throwable", "<init>", "(Ljava/lang/String;)V"⟩
theorem ef_rmTh (m : MethodId) (a0x : Addr) (am : Addr) : entryFrame m #[(.ref a0x), (.ref am)] 2 = mkF m 0 #[vr a0x, vr am] [] := by first | (simp [entryFrame, mkF, argsToLocals, Value.category]; done) | rfl
def Q_rmTh (n0 : Nat) (Z : State) (cS : Int32) (aDE : Addr) (kDE : ClassId) (aUS : Addr) (aSS : Addr) (aIE : Addr) (mO : Addr) (a0x : Addr) (am : Addr) (h0 : Heap) (v : Option Value) (h : Heap) (L : List Loc) : Prop := v = none ∧ Fr n0 L ∧ Keep h0 h [a0x] ∧ (Exa Z h a0x "com/example/grantline/grantline/PolicyException") ∧ (Fld Z h a0x "com/example/grantline/grantline/PolicyException" "problems" "Ljava/util/List;" .null)
theorem rmTh (l : Launch) (Z : State) (a0 : Array Value) (hw : ∀ d ∈ tables_1, d.before a0 Z = true) (ws : List Jvm.Cond) (hlt : l.stackTraces = true) (cS : Int32) (aDE : Addr) (kDE : ClassId) (aUS : Addr) (aSS : Addr) (aIE : Addr) (mO : Addr) (a0x : Addr) (am : Addr) (h0 : Heap) (n0 : Nat) (O0 : Old Z n0 h0) (GL : GF Z cS aDE kDE aUS aSS aIE mO) (E_a0x : Exa Z h0 a0x "com/example/grantline/grantline/PolicyException") (U_a0x : Unt h0 a0x) (F_cause_a0x : Fld Z h0 a0x "java/lang/Throwable" "cause" "Ljava/lang/Throwable;" .null) (F_stackTrace_a0x : Fld Z h0 a0x "java/lang/Throwable" "stackTrace" "[Ljava/lang/StackTraceElement;" .null) (F_suppressedExceptions_a0x : Fld Z h0 a0x "java/lang/Throwable" "suppressedExceptions" "Ljava/util/List;" .null) (F_detailMessage_a0x : Fld Z h0 a0x "java/lang/Throwable" "detailMessage" "Ljava/lang/String;" .null) (F_backtrace_a0x : Fld Z h0 a0x "java/lang/Throwable" "backtrace" "Ljava/lang/Object;" .null) (F_problems_a0x : Fld Z h0 a0x "com/example/grantline/grantline/PolicyException" "problems" "Ljava/util/List;" .null) (g_a0x : n0 ≤ a0x) :
    MetFree l MN_61 (head1 (Jvm.Cond.code MN_61 jdk_78_method_2_code 2 none :: ws) (Rm 3 1 2752 42)) (fun a U => a = #[(.ref a0x), (.ref am)] ∧ Z.Warmed39 U.vm ∧ U.heap = h0) (fun _ _ bl s _ => s.vm.MethodsKnown ∧ s.vm.FramesKnown bl) (fun _ U o U' => ∃ v L, o = .returned v ∧ Q_rmTh n0 Z cS aDE kDE aUS aSS aIE mO a0x am h0 v U'.heap L ∧ FrameEnd U o U' L (Rm 3 1 2752 42).cells (Rm 3 1 2752 42).slots) := by
  refine MetFree.of_bodySF (plainFor_of_name pnv19) hisR ?_
  intro p e s m args below meth c s₁ Bd hml0 hP hK
  obtain ⟨rfl, hZ, hh⟩ := hP
  have hx := Bd.exec
  have hby := Bd.bytes
  have hml : c.maxLocals = 2 := hml0
  have hown : s.vm.findClass "java/lang/Throwable" = some m.cls := findClass_of_methodNamed Bd.named
  have hnm := (name_of_methodNamed Bd.named Bd.method).1
  have X0 : Stand p l e (Rm 3 1 2752 42) s m #[(.ref a0x), (.ref am)] below meth c s₁ [] 0 0 := Stand.of_body Bd
  have e0 : s₁.heap = h0 := by rw [← hh, Bd.state]; rfl
  have N0 := Fr.nil n0
  have pre0 : ∀ t, SP p e below s₁ m 0 #[vr a0x, vr am] [] t → Steps p.tables e below (s₁.setTop (entryFrame m #[(.ref a0x), (.ref am)] 2)) t := fun t k => castTop (ef_rmTh m a0x am) k
  obtain ⟨hTK, hBW⟩ := hK
  have GL' := GL
  obtain ⟨GCS, GCP, GDE, GVE, GUS, GSS, GIE, GMO⟩ := GL'
  obtain ⟨T1, X1, e1, st1⟩ := initO X0 hx hZ hown (Wd hw 274 rfl) (Wd hw 16 rfl) (Wd hw 17 rfl) e0 (g := mkF m 1 #[vr a0x, vr am] [(.ref a0x)]) rfl (by rw [hml]; rfl) rfl (dG hby D48 1 rfl) (by decide) (W := 0) (by show 2 * 0 + _ ≤ _; exact lEq rfl) (by decide)
  obtain ⟨T2, h2, X2, e2, W2, st2⟩ := putF X1 hx hZ hown (host := "") (Or.inl (Wd hw 275 rfl)) Via.refl e1 F_cause_a0x E_a0x (Or.inl (Wd hw 276 rfl)) (Wd hw 106 rfl) (ty := (.object "java/lang/Throwable")) (by decide) rfl rfl (g := mkF m 6 #[vr a0x, vr am] [(.ref a0x), (.ref a0x)]) rfl rfl (dG hby D48 4 rfl)
  have Fw2 := F_cause_a0x.same W2
  have K2 : Keep h0 h2 [a0x] := (Keep.refl h0 [a0x]).wr W2 (Or.inl (List.mem_of_getElem? (i := 0) rfl))
  have O2 := O0.wr W2 g_a0x
  have N2 := Fr.snoc X2 N0 g_a0x
  obtain ⟨T3, X3, e3, st3⟩ := getS2 X2 hx hZ hown (host := "") (Or.inl (Wd hw 277 rfl)) Via.refl e2 (GUS.ext O2.2) (g := mkF m 10 #[vr a0x, vr am] [(.ref a0x)]) rfl (dG hby D48 6 rfl)
  obtain ⟨T4, h4, X4, e4, W4, st4⟩ := putF X3 hx hZ hown (host := "") (Or.inl (Wd hw 278 rfl)) Via.refl e3 (F_stackTrace_a0x.other W2 (Or.inr (slot_ne (a0 := a0) (Or.inl (Wd hw 279 rfl)) (Or.inl (Wd hw 276 rfl)) (by decide) (t := (.array (.object "java/lang/StackTraceElement"))) (t' := (.object "java/lang/Throwable")) (by decide) (by decide)))) (E_a0x.wr W2) (Or.inl (Wd hw 279 rfl)) (Wd hw 106 rfl) (ty := (.array (.object "java/lang/StackTraceElement"))) (by decide) rfl rfl (g := mkF m 13 #[vr a0x, vr am] [(.ref aUS), (.ref a0x)]) rfl rfl (dG hby D48 7 rfl)
  have Fw4 := (F_stackTrace_a0x.other W2 (Or.inr (slot_ne (a0 := a0) (Or.inl (Wd hw 279 rfl)) (Or.inl (Wd hw 276 rfl)) (by decide) (t := (.array (.object "java/lang/StackTraceElement"))) (t' := (.object "java/lang/Throwable")) (by decide) (by decide)))).same W4
  have K4 : Keep h0 h4 [a0x] := K2.wr W4 (Or.inl (List.mem_of_getElem? (i := 0) rfl))
  have O4 := O2.wr W4 g_a0x
  have N4 := Fr.snoc X4 N2 g_a0x
  obtain ⟨T5, X5, e5, st5⟩ := getS2 X4 hx hZ hown (host := "") (Or.inl (Wd hw 280 rfl)) Via.refl e4 (GSS.ext O4.2) (g := mkF m 17 #[vr a0x, vr am] [(.ref a0x)]) rfl (dG hby D48 9 rfl)
  obtain ⟨T6, h6, X6, e6, W6, st6⟩ := putF X5 hx hZ hown (host := "") (Or.inl (Wd hw 281 rfl)) Via.refl e5 ((F_suppressedExceptions_a0x.other W2 (Or.inr (slot_ne (a0 := a0) (Or.inl (Wd hw 282 rfl)) (Or.inl (Wd hw 276 rfl)) (by decide) (t := (.object "java/util/List")) (t' := (.object "java/lang/Throwable")) (by decide) (by decide)))).other W4 (Or.inr (slot_ne (a0 := a0) (Or.inl (Wd hw 282 rfl)) (Or.inl (Wd hw 279 rfl)) (by decide) (t := (.object "java/util/List")) (t' := (.array (.object "java/lang/StackTraceElement"))) (by decide) (by decide)))) ((E_a0x.wr W2).wr W4) (Or.inl (Wd hw 282 rfl)) (Wd hw 106 rfl) (ty := (.object "java/util/List")) (by decide) rfl rfl (g := mkF m 20 #[vr a0x, vr am] [(.ref aSS), (.ref a0x)]) rfl rfl (dG hby D48 10 rfl)
  have Fw6 := ((F_suppressedExceptions_a0x.other W2 (Or.inr (slot_ne (a0 := a0) (Or.inl (Wd hw 282 rfl)) (Or.inl (Wd hw 276 rfl)) (by decide) (t := (.object "java/util/List")) (t' := (.object "java/lang/Throwable")) (by decide) (by decide)))).other W4 (Or.inr (slot_ne (a0 := a0) (Or.inl (Wd hw 282 rfl)) (Or.inl (Wd hw 279 rfl)) (by decide) (t := (.object "java/util/List")) (t' := (.array (.object "java/lang/StackTraceElement"))) (by decide) (by decide)))).same W6
  have K6 : Keep h0 h6 [a0x] := K4.wr W6 (Or.inl (List.mem_of_getElem? (i := 0) rfl))
  have O6 := O4.wr W6 g_a0x
  have N6 := Fr.snoc X6 N4 g_a0x
  obtain ⟨T7, h7, X7, e7, Kc7, Ex7, Ff7, st7⟩ := own_fill X6 hx hlt hZ hw hown (hTK.alikeC (hZ.alike.symm.trans hZ.alike)) (hBW.alikeC (hZ.alike.symm.trans hZ.alike)) (own_ths (by rw [hh]; exact O0)) (own_ths O6) e6 (((E_a0x.wr W2).wr W4).wr W6) (((U_a0x.wr W2).wr W4).wr W6) (((F_backtrace_a0x.other W2 (Or.inr (slot_ne (a0 := a0) (Or.inl (Wd hw 306 rfl)) (Or.inl (Wd hw 276 rfl)) (by decide) (t := (.object "java/lang/Object")) (t' := (.object "java/lang/Throwable")) (by decide) (by decide)))).other W4 (Or.inr (slot_ne (a0 := a0) (Or.inl (Wd hw 306 rfl)) (Or.inl (Wd hw 279 rfl)) (by decide) (t := (.object "java/lang/Object")) (t' := (.array (.object "java/lang/StackTraceElement"))) (by decide) (by decide)))).other W6 (Or.inr (slot_ne (a0 := a0) (Or.inl (Wd hw 306 rfl)) (Or.inl (Wd hw 282 rfl)) (by decide) (t := (.object "java/lang/Object")) (t' := (.object "java/util/List")) (by decide) (by decide)))) (Fw4.other W6 (Or.inr (slot_ne (a0 := a0) (Or.inl (Wd hw 279 rfl)) (Or.inl (Wd hw 282 rfl)) (by decide) (t := (.array (.object "java/lang/StackTraceElement"))) (t' := (.object "java/util/List")) (by decide) (by decide)))) (GUS.ext O6.2) (g := mkF m 24 #[vr a0x, vr am] [(.ref a0x)]) rfl (by rw [hml]; rfl) rfl (dG hby D48 12 rfl) (by decide) (W := 0) (by show 2 * 0 + _ ≤ _; exact lEq rfl) (by decide) (by decide) (by decide)
  have K7 : Keep h0 h7 [a0x] := K6.trans Kc7 (allS (Or.inl (List.mem_of_getElem? (i := 0) rfl)) all0)
  have O7 := O6.keep Kc7 (allS g_a0x all0)
  have N7 := own_frfill (Z := Z) N6 g_a0x
  have Fl7_problems := Ff7 (((F_problems_a0x.other W2 (Or.inr (slot_ne (a0 := a0) (Or.inr (Wd hw 383 rfl)) (Or.inl (Wd hw 276 rfl)) (by decide) (t := (.object "java/util/List")) (t' := (.object "java/lang/Throwable")) (by decide) (by decide)))).other W4 (Or.inr (slot_ne (a0 := a0) (Or.inr (Wd hw 383 rfl)) (Or.inl (Wd hw 279 rfl)) (by decide) (t := (.object "java/util/List")) (t' := (.array (.object "java/lang/StackTraceElement"))) (by decide) (by decide)))).other W6 (Or.inr (slot_ne (a0 := a0) (Or.inr (Wd hw 383 rfl)) (Or.inl (Wd hw 282 rfl)) (by decide) (t := (.object "java/util/List")) (t' := (.object "java/util/List")) (by decide) (by decide)))) (slot_ne (a0 := a0) (Or.inr (Wd hw 383 rfl)) (Or.inl (Wd hw 306 rfl)) (by decide) (t := (.object "java/util/List")) (t' := (.object "java/lang/Object")) (by decide) (by decide)) (slot_ne (a0 := a0) (Or.inr (Wd hw 383 rfl)) (Or.inl (Wd hw 307 rfl)) (by decide) (t := (.object "java/util/List")) (t' := .int) (by decide) (by decide)) (slot_ne (a0 := a0) (Or.inr (Wd hw 383 rfl)) (Or.inl (Wd hw 279 rfl)) (by decide) (t := (.object "java/util/List")) (t' := (.array (.object "java/lang/StackTraceElement"))) (by decide) (by decide))
  have Fl7_detailMessage := Ff7 (((F_detailMessage_a0x.other W2 (Or.inr (slot_ne (a0 := a0) (Or.inl (Wd hw 305 rfl)) (Or.inl (Wd hw 276 rfl)) (by decide) (t := (.object "java/lang/String")) (t' := (.object "java/lang/Throwable")) (by decide) (by decide)))).other W4 (Or.inr (slot_ne (a0 := a0) (Or.inl (Wd hw 305 rfl)) (Or.inl (Wd hw 279 rfl)) (by decide) (t := (.object "java/lang/String")) (t' := (.array (.object "java/lang/StackTraceElement"))) (by decide) (by decide)))).other W6 (Or.inr (slot_ne (a0 := a0) (Or.inl (Wd hw 305 rfl)) (Or.inl (Wd hw 282 rfl)) (by decide) (t := (.object "java/lang/String")) (t' := (.object "java/util/List")) (by decide) (by decide)))) (slot_ne (a0 := a0) (Or.inl (Wd hw 305 rfl)) (Or.inl (Wd hw 306 rfl)) (by decide) (t := (.object "java/lang/String")) (t' := (.object "java/lang/Object")) (by decide) (by decide)) (slot_ne (a0 := a0) (Or.inl (Wd hw 305 rfl)) (Or.inl (Wd hw 307 rfl)) (by decide) (t := (.object "java/lang/String")) (t' := .int) (by decide) (by decide)) (slot_ne (a0 := a0) (Or.inl (Wd hw 305 rfl)) (Or.inl (Wd hw 279 rfl)) (by decide) (t := (.object "java/lang/String")) (t' := (.array (.object "java/lang/StackTraceElement"))) (by decide) (by decide))
  obtain ⟨T8, h8, X8, e8, W8, st8⟩ := putF X7 hx hZ hown (host := "") (Or.inl (Wd hw 309 rfl)) Via.refl e7 Fl7_detailMessage Ex7 (Or.inl (Wd hw 305 rfl)) (Wd hw 106 rfl) (ty := (.object "java/lang/String")) (by decide) rfl rfl (g := mkF m 30 #[vr a0x, vr am] [(.ref am), (.ref a0x)]) rfl rfl (dG hby D48 16 rfl)
  have Fw8 := Fl7_detailMessage.same W8
  have K8 : Keep h0 h8 [a0x] := K7.wr W8 (Or.inl (List.mem_of_getElem? (i := 0) rfl))
  have O8 := O7.wr W8 g_a0x
  have N8 := Fr.snoc X8 N7 g_a0x
  obtain ⟨fs, hr, hrun, hended, hW, hsame⟩ := X8.leave (v := none) (fun _ => rfl)
  refine ⟨_, _, pre0 _ ?_, hrun, hended, _, _, rfl, ?_, ⟨_, rfl⟩, hW, hsame.mono (by decide) (by decide)⟩
  · show SP p e below s₁ m 0 #[vr a0x, vr am] [] _
    refine XS.aloadN X0.here hx rfl (dG hby D48 0 rfl) rfl rfl ?_
    show SP p e below s₁ m 1 #[vr a0x, vr am] [(.ref a0x)] _
    refine st1 _ ?_
    show SP p e below T1 m 4 #[vr a0x, vr am] [] _
    refine XS.aloadN X1.here hx rfl (dG hby D48 2 rfl) rfl rfl ?_
    refine XS.aloadN X1.here hx rfl (dG hby D48 3 rfl) rfl rfl ?_
    show SP p e below T1 m 6 #[vr a0x, vr am] [(.ref a0x), (.ref a0x)] _
    refine st2 _ ?_
    show SP p e below T2 m 9 #[vr a0x, vr am] [] _
    refine XS.aloadN X2.here hx rfl (dG hby D48 5 rfl) rfl rfl ?_
    show SP p e below T2 m 10 #[vr a0x, vr am] [(.ref a0x)] _
    refine st3 _ ?_
    show SP p e below T3 m 13 #[vr a0x, vr am] [(.ref aUS), (.ref a0x)] _
    refine st4 _ ?_
    show SP p e below T4 m 16 #[vr a0x, vr am] [] _
    refine XS.aloadN X4.here hx rfl (dG hby D48 8 rfl) rfl rfl ?_
    show SP p e below T4 m 17 #[vr a0x, vr am] [(.ref a0x)] _
    refine st5 _ ?_
    show SP p e below T5 m 20 #[vr a0x, vr am] [(.ref aSS), (.ref a0x)] _
    refine st6 _ ?_
    show SP p e below T6 m 23 #[vr a0x, vr am] [] _
    refine XS.aloadN X6.here hx rfl (dG hby D48 11 rfl) rfl rfl ?_
    show SP p e below T6 m 24 #[vr a0x, vr am] [(.ref a0x)] _
    refine st7 _ ?_
    show SP p e below T7 m 27 #[vr a0x, vr am] [(.ref a0x)] _
    refine XS.pop X7.here hx rfl (dG hby D48 13 rfl) rfl rfl ?_
    refine XS.aloadN X7.here hx rfl (dG hby D48 14 rfl) rfl rfl ?_
    refine XS.aloadN X7.here hx rfl (dG hby D48 15 rfl) rfl rfl ?_
    show SP p e below T7 m 30 #[vr a0x, vr am] [(.ref am), (.ref a0x)] _
    refine st8 _ ?_
    show SP p e below T8 m 33 #[vr a0x, vr am] [] _
    exact X8.returnOut hx Bd.returns (dG hby D48 17 rfl) hr
  · show Q_rmTh n0 Z cS aDE kDE aUS aSS aIE mO a0x am h0 _ T8.heap _
    rw [e8]
    exact ⟨rfl, N8, K8, (Ex7.wr W8), (Fl7_problems.other W8 (Or.inr (slot_ne (a0 := a0) (Or.inr (Wd hw 383 rfl)) (Or.inl (Wd hw 305 rfl)) (by decide) (t := (.object "java/util/List")) (t' := (.object "java/lang/String")) (by decide) (by decide))))⟩
theorem D47 : dL jdk_59_method_2_code [(0, .aload_n 0, 1), (1, .aload_n 1, 1), (2, .invokespecial 7, 3), (5, .return_, 1)] = true := by decide +kernel
theorem pnv20 : plainName "java/lang/Exception" = true := by first | (simp [plainName, overriddenIn]; done) | decide +kernel
abbrev MN_62 : MethodName := ⟨"java/lang/Exception", "<init>", "(Ljava/lang/String;)V"⟩
def Q_rmEx (n0 : Nat) (Z : State) (cS : Int32) (aDE : Addr) (kDE : ClassId) (aUS : Addr) (aSS : Addr) (aIE : Addr) (mO : Addr) (a0x : Addr) (am : Addr) (h0 : Heap) (v : Option Value) (h : Heap) (L : List Loc) : Prop := v = none ∧ Fr n0 L ∧ Keep h0 h [a0x] ∧ (Exa Z h a0x "com/example/grantline/grantline/PolicyException") ∧ (Fld Z h a0x "com/example/grantline/grantline/PolicyException" "problems" "Ljava/util/List;" .null)
theorem rmEx (l : Launch) (Z : State) (a0 : Array Value) (hw : ∀ d ∈ tables_1, d.before a0 Z = true) (ws : List Jvm.Cond) (hlt : l.stackTraces = true) (cS : Int32) (aDE : Addr) (kDE : ClassId) (aUS : Addr) (aSS : Addr) (aIE : Addr) (mO : Addr) (a0x : Addr) (am : Addr) (h0 : Heap) (n0 : Nat) (O0 : Old Z n0 h0) (GL : GF Z cS aDE kDE aUS aSS aIE mO) (E_a0x : Exa Z h0 a0x "com/example/grantline/grantline/PolicyException") (U_a0x : Unt h0 a0x) (F_cause_a0x : Fld Z h0 a0x "java/lang/Throwable" "cause" "Ljava/lang/Throwable;" .null) (F_stackTrace_a0x : Fld Z h0 a0x "java/lang/Throwable" "stackTrace" "[Ljava/lang/StackTraceElement;" .null) (F_suppressedExceptions_a0x : Fld Z h0 a0x "java/lang/Throwable" "suppressedExceptions" "Ljava/util/List;" .null) (F_detailMessage_a0x : Fld Z h0 a0x "java/lang/Throwable" "detailMessage" "Ljava/lang/String;" .null) (F_backtrace_a0x : Fld Z h0 a0x "java/lang/Throwable" "backtrace" "Ljava/lang/Object;" .null) (F_problems_a0x : Fld Z h0 a0x "com/example/grantline/grantline/PolicyException" "problems" "Ljava/util/List;" .null) (g_a0x : n0 ≤ a0x) :
    MetFree l MN_62 (head1 (Jvm.Cond.code MN_62 jdk_59_method_2_code 2 none :: ws) (Rm 4 1 2752 55)) (fun a U => a = #[(.ref a0x), (.ref am)] ∧ Z.Warmed39 U.vm ∧ U.heap = h0) (fun _ _ bl s _ => s.vm.MethodsKnown ∧ s.vm.FramesKnown bl) (fun _ U o U' => ∃ v L, o = .returned v ∧ Q_rmEx n0 Z cS aDE kDE aUS aSS aIE mO a0x am h0 v U'.heap L ∧ FrameEnd U o U' L (Rm 4 1 2752 55).cells (Rm 4 1 2752 55).slots) := by
  refine MetFree.of_bodySF (plainFor_of_name pnv20) hisR ?_
  intro p e s m args below meth c s₁ Bd hml0 hP hK
  obtain ⟨rfl, hZ, hh⟩ := hP
  have hx := Bd.exec
  have hby := Bd.bytes
  have hml : c.maxLocals = 2 := hml0
  have hown : s.vm.findClass "java/lang/Exception" = some m.cls := findClass_of_methodNamed Bd.named
  have hnm := (name_of_methodNamed Bd.named Bd.method).1
  have X0 : Stand p l e (Rm 4 1 2752 55) s m #[(.ref a0x), (.ref am)] below meth c s₁ [] 0 0 := Stand.of_body Bd
  have e0 : s₁.heap = h0 := by rw [← hh, Bd.state]; rfl
  have N0 := Fr.nil n0
  have pre0 : ∀ t, SP p e below s₁ m 0 #[vr a0x, vr am] [] t → Steps p.tables e below (s₁.setTop (entryFrame m #[(.ref a0x), (.ref am)] 2)) t := fun t k => castTop (ef_rmTh m a0x am) k
  obtain ⟨hTK, hBW⟩ := hK
  have GL' := GL
  obtain ⟨GCS, GCP, GDE, GVE, GUS, GSS, GIE, GMO⟩ := GL'
  obtain ⟨_, _, ⟨T1, L1, k1, n1⟩, -, X1, ⟨Lc1, hQ1, l1, y1, z1⟩, st1⟩ := X0.specialBack hx (y := MN_61) rfl hown (mvT hZ (Wd hw 268 rfl)) (mvT hZ (Wd hw 269 rfl)) (mvT hZ (Wd hw 273 rfl)) (by decide) (backOfKL (W := 0) (rmTh l Z a0 hw [] hlt cS aDE kDE aUS aSS aIE mO a0x am h0 n0 O0 GL E_a0x U_a0x F_cause_a0x F_stackTrace_a0x F_suppressedExceptions_a0x F_detailMessage_a0x F_backtrace_a0x F_problems_a0x g_a0x) hZ (Wd hw 273 rfl) (Wd hw 272 rfl) (by decide) (by decide) (hTK.alikeC (hZ.alike.symm.trans hZ.alike)) (hBW.alikeC (hZ.alike.symm.trans hZ.alike))) (g := mkF m 2 #[vr a0x, vr am] [(.ref am), (.ref a0x)]) rfl (by rw [hml]; rfl) (Steps.refl _) (a := a0x) (argsL := [(.ref am)]) (rest := []) (lenOf pdv6 rfl) rfl (by show 2 * 0 + _ ≤ _; exact lEq rfl) (dG hby D47 2 rfl) (fun _ _ => ⟨rfl, e0, (by decide : 0 + 1 ≤ _), (by decide : 0 + 2752 ≤ _)⟩)
  dsimp only [Pt.U, Pt.locs, Pt.cells, Pt.slots] at X1 l1 y1 z1 st1 hQ1
  subst l1 y1 z1
  obtain ⟨rfl, N1q, Kc1, P1_0, P1_1⟩ := hQ1
  have K1 : Keep h0 T1.heap [a0x] := (Keep.refl h0 [a0x]).trans Kc1 (allS (Or.inl (List.mem_of_getElem? (i := 0) rfl)) all0)
  have O1 := O0.keep Kc1 (allS g_a0x all0)
  have N1 := Fr.app N0 N1q
  obtain ⟨fs, hr, hrun, hended, hW, hsame⟩ := X1.leave (v := none) (fun _ => rfl)
  refine ⟨_, _, pre0 _ ?_, hrun, hended, _, _, rfl, ?_, ⟨_, rfl⟩, hW, hsame.mono (by decide) (by decide)⟩
  · show SP p e below s₁ m 0 #[vr a0x, vr am] [] _
    refine XS.aloadN X0.here hx rfl (dG hby D47 0 rfl) rfl rfl ?_
    refine XS.aloadN X0.here hx rfl (dG hby D47 1 rfl) rfl rfl ?_
    show SP p e below s₁ m 2 #[vr a0x, vr am] [(.ref am), (.ref a0x)] _
    refine st1.trans ?_
    show SP p e below T1 m 5 #[vr a0x, vr am] [] _
    exact X1.returnOut hx Bd.returns (dG hby D47 3 rfl) hr
  · show Q_rmEx n0 Z cS aDE kDE aUS aSS aIE mO a0x am h0 _ T1.heap _
    exact ⟨rfl, N1, K1, P1_0, P1_1⟩
theorem D18 : dL prog_16_method_2_code [(0, .aload_n 0, 1), (1, .aload_n 1, 1), (2, .invokestatic 18, 3), (5, .invokevirtual 22, 3), (8, .invokespecial 26, 3), (11, .aload_n 0, 1), (12, .aload_n 1, 1), (13, .invokestatic 31, 3), (16, .putfield 35, 3), (19, .return_, 1)] = true := by decide +kernel
theorem pdv34 : parseMethodDescriptor "(Ljava/util/List;)Lcom/example/grantline/grantline/PolicyException$Problem;" = some ⟨[(.object "java/util/List")], some (.object "com/example/grantline/grantline/PolicyException$Problem")⟩ := by decide +kernel
abbrev MN_63 : MethodName := ⟨"com/example/grantline/grantline/PolicyException", "<init>", "(Ljava/util/List;)V"⟩
theorem ef_rmX_1 (m : MethodId) (a0x : Addr) (a1l : Addr) : entryFrame m #[(.ref a0x), (.ref a1l)] 2 = mkF m 0 #[vr a0x, vr a1l] [] := by first | (simp [entryFrame, mkF, argsToLocals, Value.category]; done) | rfl
def Q_rmX_1 (n0 : Nat) (Z : State) (cS : Int32) (aDE : Addr) (kDE : ClassId) (aUS : Addr) (aSS : Addr) (aIE : Addr) (mO : Addr) (a0x : Addr) (a1l : Addr) (ae : Addr) (ka : ClassId) (ob0 : Addr) (sA : Addr) (vA : Addr) (kA : ClassId) (nA : Int32) (lA : List Value) (sB : Addr) (vB : Addr) (kB : ClassId) (nB : Int32) (lB : List Value) (h0 : Heap) (v : Option Value) (h : Heap) (L : List Loc) : Prop := ∃ b : Addr, v = none ∧ Fr n0 L ∧ Keep h0 h [a0x] ∧ (Exa Z h a0x "com/example/grantline/grantline/PolicyException") ∧ (Fld Z h a0x "com/example/grantline/grantline/PolicyException" "problems" "Ljava/util/List;" (.ref b)) ∧ (Exa Z h b "java/util/ImmutableCollections$List12") ∧ (Fld Z h b "java/util/ImmutableCollections$List12" "e0" "Ljava/lang/Object;" (.ref ob0))
theorem rmX_1 (l : Launch) (Z : State) (a0 : Array Value) (hw : ∀ d ∈ tables_1, d.before a0 Z = true) (ws : List Jvm.Cond) (hlt : l.stackTraces = true) (cS : Int32) (aDE : Addr) (kDE : ClassId) (aUS : Addr) (aSS : Addr) (aIE : Addr) (mO : Addr) (a0x : Addr) (a1l : Addr) (ae : Addr) (ka : ClassId) (ob0 : Addr) (sA : Addr) (vA : Addr) (kA : ClassId) (nA : Int32) (lA : List Value) (sB : Addr) (vB : Addr) (kB : ClassId) (nB : Int32) (lB : List Value) (h0 : Heap) (n0 : Nat) (O0 : Old Z n0 h0) (GL : GF Z cS aDE kDE aUS aSS aIE mO) (E_a0x : Exa Z h0 a0x "com/example/grantline/grantline/PolicyException") (U_a0x : Unt h0 a0x) (F_cause_a0x : Fld Z h0 a0x "java/lang/Throwable" "cause" "Ljava/lang/Throwable;" .null) (F_stackTrace_a0x : Fld Z h0 a0x "java/lang/Throwable" "stackTrace" "[Ljava/lang/StackTraceElement;" .null) (F_suppressedExceptions_a0x : Fld Z h0 a0x "java/lang/Throwable" "suppressedExceptions" "Ljava/util/List;" .null) (F_detailMessage_a0x : Fld Z h0 a0x "java/lang/Throwable" "detailMessage" "Ljava/lang/String;" .null) (F_backtrace_a0x : Fld Z h0 a0x "java/lang/Throwable" "backtrace" "Ljava/lang/Object;" .null) (F_problems_a0x : Fld Z h0 a0x "com/example/grantline/grantline/PolicyException" "problems" "Ljava/util/List;" .null) (g_a0x : n0 ≤ a0x) (E_a1l : Exa Z h0 a1l "java/util/ArrayList") (F_elementData_a1l : Fld Z h0 a1l "java/util/ArrayList" "elementData" "[Ljava/lang/Object;" (.ref ae)) (F_size_a1l : Fld Z h0 a1l "java/util/ArrayList" "size" "I" (.int 1)) (E_ae : Exa Z h0 ae "[Ljava/lang/Object;") (V_ae : Arv Z h0 ae ka (.object "java/lang/Object") (10 : Int32) [(.ref ob0), .null, .null, .null, .null, .null, .null, .null, .null, .null] .null) (E_ob0 : Exa Z h0 ob0 "com/example/grantline/grantline/PolicyException$Problem") (F_pointer_ob0 : Fld Z h0 ob0 "com/example/grantline/grantline/PolicyException$Problem" "pointer" "Ljava/lang/String;" (.ref sA)) (F_description_ob0 : Fld Z h0 ob0 "com/example/grantline/grantline/PolicyException$Problem" "description" "Ljava/lang/String;" (.ref sB)) (E_sA : Exa Z h0 sA "java/lang/String") (F_value_sA : Fld Z h0 sA "java/lang/String" "value" "[B" (.ref vA)) (F_coder_sA : Fld Z h0 sA "java/lang/String" "coder" "B" (.int 0)) (V_vA : Arv Z h0 vA kA .byte nA lA (.int 0)) (E_sB : Exa Z h0 sB "java/lang/String") (F_value_sB : Fld Z h0 sB "java/lang/String" "value" "[B" (.ref vB)) (F_coder_sB : Fld Z h0 sB "java/lang/String" "coder" "B" (.int 0)) (V_vB : Arv Z h0 vB kB .byte nB lB (.int 0)) (hb0 : ¬ (nA < (0 : Int32))) (hb1 : ¬ ((2 : Int32) < nA)) (hb2 : ¬ (nB < (0 : Int32))) (hb3 : ¬ ((2 : Int32) < nB)) :
    MetFree l MN_63 (head1 (Jvm.Cond.code MN_63 prog_16_method_2_code 2 none :: ws) (Rm 8 9 2807 104)) (fun a U => a = #[(.ref a0x), (.ref a1l)] ∧ Z.Warmed39 U.vm ∧ U.heap = h0 ∧ CHv Z EL1 U.vm h0) (fun _ _ bl s _ => s.vm.MethodsKnown ∧ s.vm.FramesKnown bl) (fun _ U o U' => ∃ v L, o = .returned v ∧ Q_rmX_1 n0 Z cS aDE kDE aUS aSS aIE mO a0x a1l ae ka ob0 sA vA kA nA lA sB vB kB nB lB h0 v U'.heap L ∧ CHr Z EL1 U.vm U.heap U'.vm U'.heap ∧ ReturnedEndW U o U' L (Rm 8 9 2807 104).cells (Rm 8 9 2807 104).slots) := by
  refine MetFree.of_bodySF (plainFor_of_name pnv12) hisR ?_
  intro p e s m args below meth c s₁ Bd hml0 hP hK
  obtain ⟨rfl, hZ, hh, H0⟩ := hP
  have hx := Bd.exec
  have hby := Bd.bytes
  have hml : c.maxLocals = 2 := hml0
  have hown : s.vm.findClass "com/example/grantline/grantline/PolicyException" = some m.cls := findClass_of_methodNamed Bd.named
  have hnm := (name_of_methodNamed Bd.named Bd.method).1
  have X0 : Stand p l e (Rm 8 9 2807 104) s m #[(.ref a0x), (.ref a1l)] below meth c s₁ [] 0 0 := Stand.of_body Bd
  have e0 : s₁.heap = h0 := by rw [← hh, Bd.state]; rfl
  have N0 := Fr.nil n0
  have pre0 : ∀ t, SP p e below s₁ m 0 #[vr a0x, vr a1l] [] t → Steps p.tables e below (s₁.setTop (entryFrame m #[(.ref a0x), (.ref a1l)] 2)) t := fun t k => castTop (ef_rmX_1 m a0x a1l) k
  obtain ⟨hTK, hBW⟩ := hK
  have X0w : Stand p l e (Rm 8 9 2807 104) (s.setVm s.vm) m #[(.ref a0x), (.ref a1l)] below meth c s₁ [] 0 0 := X0
  have R0 : CHr Z EL1 s.vm h0 s.vm h0 := CHr.refl H0
  have hS0 : s.Since s.vm h0.size := (State.WarmedH.refl s).since _
  have GL' := GL
  obtain ⟨GCS, GCP, GDE, GVE, GUS, GSS, GIE, GMO⟩ := GL'
  obtain ⟨_, _, ⟨T1, L1, k1, n1⟩, -, X1, ⟨Lc1, hQ1, l1, y1, z1⟩, st1⟩ := Jvm.LawKit.callS X0w hx (y := MN_45) hown (mvT hZ (Wd hw 111 rfl)) (mvT hZ (Wd hw 112 rfl)) (mvT hZ (Wd hw 107 rfl)) (mvT hZ (Wd hw 113 rfl)) (by decide) (backOf (W := 1) (rmFi l Z a0 hw [] cS aDE kDE aUS aSS aIE mO a1l ae ka ob0 (.null) (.null) (.null) (.null) (.null) (.null) (.null) (.null) (.null) ((1 : Int32)) h0 n0 O0 GL E_a1l F_elementData_a1l V_ae F_size_a1l E_ob0 (by decide) (by decide)) hZ (Wd hw 113 rfl) (Wd hw 107 rfl) (by decide) (by decide)) (g := mkF m 2 #[vr a0x, vr a1l] [(.ref a1l), (.ref a0x)]) rfl (by rw [hml]; rfl) (argsL := [(.ref a1l)]) (rest := [(.ref a0x)]) (lenOf pdv34 rfl) rfl (by show 2 * 0 + _ ≤ _; exact lEq rfl) (dG hby D18 2 rfl) (fun _ _ => ⟨rfl, e0, (by decide : 0 + 0 ≤ _), (by decide : 0 + 0 ≤ _)⟩)
  dsimp only [Pt.U, Pt.locs, Pt.cells, Pt.slots] at X1 l1 y1 z1 st1 hQ1
  subst l1 y1 z1
  obtain ⟨rfl, N1q, e1⟩ := hQ1
  have N1 := Fr.app N0 N1q
  obtain ⟨cq2, kq2, q2a, q2b, q2c⟩ := isOf hZ e1 E_ob0
  obtain ⟨_, _, ⟨T2, L2, k2, n2⟩, -, X2', hS2', hg2, ⟨Lc2, hQ2, l2, y2, z2, Rs2⟩, st2⟩ := X1.virtualBackS hx (y := MN_28) (z := MN_28) hown (mvT hZ (Wd hw 146 rfl)) (mvT hZ (Wd hw 147 rfl)) (notFace_of_selects (args := #[]) (mvT hZ (Wd hw 149 rfl))) (mvT hZ (Wd hw 149 rfl)) (mvT hZ (Wd hw 148 rfl)) (by decide) (backOfSH (W := 1) (rmPt l Z a0 hw [] cS aDE kDE aUS aSS aIE mO ob0 sA vA kA nA lA sB vB kB nB lB h0 n0 O0 GL E_ob0 F_pointer_ob0 F_description_ob0 E_sA F_value_sA F_coder_sA V_vA E_sB F_value_sB F_coder_sB V_vB hb0 hb1 hb2 hb3) hZ (Wd hw 150 rfl) (Wd hw 60 rfl) (by decide) (by decide) (own_EW hw) H0) q2a q2c (g := mkF m 5 #[vr a0x, vr a1l] [(.ref ob0), (.ref a0x)]) rfl (by rw [hml]; rfl) (Steps.refl _) (argsL := []) (rest := [(.ref a0x)]) (lenOf pdv20 rfl) rfl (by show 2 * 0 + _ ≤ _; exact lEq rfl) (dG hby D18 3 rfl) (fun _ _ => ⟨rfl, e1, (by decide : 0 + 6 ≤ _), (by decide : 0 + 52 ≤ _)⟩)
  dsimp only [Pt.U, Pt.locs, Pt.cells, Pt.slots] at X2' l2 y2 z2 st2 hQ2 hS2' hg2 Rs2
  subst l2 y2 z2
  obtain ⟨X2, hS2, hZ2, hown2⟩ := rebS hS0 (by rw [e1]; exact (Nat.le_refl _)) X2' hS2' hg2 hZ hown
  obtain ⟨b_2, rfl, N2q, Kc2, P2_0, P2_1⟩ := hQ2
  have K2 : Keep h0 T2.heap [a0x] := (Keep.refl h0 [a0x]).trans Kc2 all0
  have O2 := O0.keep Kc2 all0
  have H_3 := Rs2.1
  have R_3 := R0.trans Rs2
  have g_b_2 : n0 ≤ b_2 := lTr (own_sz O0) P2_0
  have sz_b_2 : h0.size ≤ b_2 := lTr (Keep.refl h0 [a0x]).1 P2_0
  have N2 := Fr.app N1 N2q
  obtain ⟨_, _, ⟨T4, L4, k4, n4⟩, -, X4, ⟨Lc4, hQ4, l4, y4, z4⟩, st4⟩ := X2.specialBack hx (y := MN_62) rfl hown2 (mvT hZ2 (Wd hw 263 rfl)) (mvT hZ2 (Wd hw 264 rfl)) (mvT hZ2 (Wd hw 267 rfl)) (by decide) (backOfKL (W := 0) (rmEx l Z a0 hw [] hlt cS aDE kDE aUS aSS aIE mO a0x b_2 (T2.heap) n0 O2 GL (E_a0x.keep Kc2) (U_a0x.keep Kc2 nin0) (F_cause_a0x.keep Kc2 nin0) (F_stackTrace_a0x.keep Kc2 nin0) (F_suppressedExceptions_a0x.keep Kc2 nin0) (F_detailMessage_a0x.keep Kc2 nin0) (F_backtrace_a0x.keep Kc2 nin0) (F_problems_a0x.keep Kc2 nin0) g_a0x) hZ2 (Wd hw 267 rfl) (Wd hw 266 rfl) (by decide) (by decide) (hTK.alikeC (hZ.alike.symm.trans hZ2.alike)) (hBW.alikeC (hZ.alike.symm.trans hZ2.alike))) (g := mkF m 8 #[vr a0x, vr a1l] [(.ref b_2), (.ref a0x)]) rfl (by rw [hml]; rfl) (Steps.refl _) (a := a0x) (argsL := [(.ref b_2)]) (rest := []) (lenOf pdv6 rfl) rfl (by show 2 * 0 + _ ≤ _; exact lEq rfl) (dG hby D18 4 rfl) (fun _ _ => ⟨rfl, rfl, (by decide : 6 + 1 ≤ _), (by decide : 52 + 2752 ≤ _)⟩)
  dsimp only [Pt.U, Pt.locs, Pt.cells, Pt.slots] at X4 l4 y4 z4 st4 hQ4
  subst l4 y4 z4
  obtain ⟨rfl, N4q, Kc4, P4_0, P4_1⟩ := hQ4
  have K4 : Keep h0 T4.heap [a0x] := K2.trans Kc4 (allS (Or.inl (List.mem_of_getElem? (i := 0) rfl)) all0)
  have O4 := O2.keep Kc4 (allS g_a0x all0)
  have Sf6 : Safe Z EL1 T2.vm T2.heap a0x := Safe.exa (EL := EL1) hZ2.alike (E_a0x.keep Kc2) (by decide) (by decide)
  have H_5 := H_3.keep Kc4 (sfS Sf6 sf0)
  have R_5 := R_3.trans (CHr.keep Kc4 (sfS Sf6 sf0) H_3)
  have N4 := Fr.app N2 N4q
  obtain ⟨_, _, ⟨T7, L7, k7, n7⟩, -, X7, ⟨Lc7, hQ7, l7, y7, z7⟩, st7⟩ := Jvm.LawKit.callS X4 hx (y := MN_60) hown2 (mvT hZ2 (Wd hw 310 rfl)) (mvT hZ2 (Wd hw 311 rfl)) (mvT hZ2 (Wd hw 312 rfl)) (mvT hZ2 (Wd hw 313 rfl)) (by decide) (backOf (W := 1) (rmLc_1 l Z a0 hw [] cS aDE kDE aUS aSS aIE mO a1l ae ka ob0 (T4.heap) n0 O4 GL ((E_a1l.keep Kc2).keep Kc4) ((F_elementData_a1l.keep Kc2 nin0).keep Kc4 (ninS (Exa.ne E_a1l E_a0x (by decide)) nin0)) ((F_size_a1l.keep Kc2 nin0).keep Kc4 (ninS (Exa.ne E_a1l E_a0x (by decide)) nin0)) ((E_ae.keep Kc2).keep Kc4) ((V_ae.keep Kc2 nin0).keep Kc4 (ninS (Exa.ne E_ae E_a0x (by decide)) nin0)) ((E_ob0.keep Kc2).keep Kc4)) hZ2 (Wd hw 313 rfl) (Wd hw 312 rfl) (by decide) (by decide)) (g := mkF m 13 #[vr a0x, vr a1l] [(.ref a1l), (.ref a0x)]) rfl (by rw [hml]; rfl) (argsL := [(.ref a1l)]) (rest := [(.ref a0x)]) (lenOf pdv32 rfl) rfl (by show 2 * 0 + _ ≤ _; exact lEq rfl) (dG hby D18 7 rfl) (fun _ _ => ⟨rfl, rfl, (by decide : 7 + 2 ≤ _), (by decide : 2804 + 3 ≤ _)⟩)
  dsimp only [Pt.U, Pt.locs, Pt.cells, Pt.slots] at X7 l7 y7 z7 st7 hQ7
  subst l7 y7 z7
  obtain ⟨b_7, rfl, N7q, Kc7, P7_0, P7_1, P7_2⟩ := hQ7
  have K7 : Keep h0 T7.heap [a0x] := K4.trans Kc7 all0
  have O7 := O4.keep Kc7 all0
  have H_8 := H_5.keep Kc7 sf0
  have R_8 := R_5.trans (CHr.keep Kc7 sf0 H_5)
  have g_b_7 : n0 ≤ b_7 := lTr (own_sz O4) P7_0
  have sz_b_7 : h0.size ≤ b_7 := lTr K4.1 P7_0
  have N7 := Fr.app N4 N7q
  obtain ⟨T9, h9, X9, e9, W9, st9⟩ := putF X7 hx hZ2 hown2 (host := "") (Or.inl (Wd hw 382 rfl)) Via.refl rfl (P4_1.keep Kc7 nin0) (P4_0.keep Kc7) (Or.inr ⟨(Wd hw 383 rfl), rfl, hnm⟩) (Wd hw 106 rfl) (ty := (.object "java/util/List")) (by decide) rfl rfl (g := mkF m 16 #[vr a0x, vr a1l] [(.ref b_7), (.ref a0x)]) rfl rfl (dG hby D18 8 rfl)
  have Fw9 := (P4_1.keep Kc7 nin0).same W9
  have Sf11 : Safe Z EL1 T2.vm T7.heap a0x := Safe.exa (EL := EL1) hZ2.alike (P4_0.keep Kc7) (by decide) (by decide)
  have H_10 := H_8.wr W9 Sf11
  have R_10 := R_8.trans (CHr.wr W9 Sf11 H_8)
  have K9 : Keep h0 h9 [a0x] := K7.wr W9 (Or.inl (List.mem_of_getElem? (i := 0) rfl))
  have O9 := O7.wr W9 g_a0x
  have N9 := Fr.snoc X9 N7 g_a0x
  obtain ⟨fs, hr, hrun, hended, hRW⟩ := X9.leaveW hS2 (by rw [e9]; exact (lTr (lTr (lTr (Nat.le_refl _) Kc4.1) Kc7.1) (Keep.of_wr W9).1)) (v := none) (fun _ => rfl)
  have hCR : CHr Z EL1 s.vm s.heap T9.vm T9.heap := by
    rw [hh, e9]
    exact R_10.trans (CHv.at X9 hZ2 (own_EW hw) H_10)
  refine ⟨_, _, pre0 _ ?_, hrun, hended, _, _, rfl, ?_, hCR, hRW.1, hRW.2.1, hRW.2.2.1, hRW.2.2.2.mono (by decide) (by decide)⟩
  · show SP p e below s₁ m 0 #[vr a0x, vr a1l] [] _
    refine XS.aloadN X0w.here hx rfl (dG hby D18 0 rfl) rfl rfl ?_
    refine XS.aloadN X0w.here hx rfl (dG hby D18 1 rfl) rfl rfl ?_
    show SP p e below s₁ m 2 #[vr a0x, vr a1l] [(.ref a1l), (.ref a0x)] _
    refine st1 _ ?_
    show SP p e below T1 m 5 #[vr a0x, vr a1l] [(.ref ob0), (.ref a0x)] _
    refine st2.trans ?_
    show SP p e below T2 m 8 #[vr a0x, vr a1l] [(.ref b_2), (.ref a0x)] _
    refine st4.trans ?_
    show SP p e below T4 m 11 #[vr a0x, vr a1l] [] _
    refine XS.aloadN X4.here hx rfl (dG hby D18 5 rfl) rfl rfl ?_
    refine XS.aloadN X4.here hx rfl (dG hby D18 6 rfl) rfl rfl ?_
    show SP p e below T4 m 13 #[vr a0x, vr a1l] [(.ref a1l), (.ref a0x)] _
    refine st7 _ ?_
    show SP p e below T7 m 16 #[vr a0x, vr a1l] [(.ref b_7), (.ref a0x)] _
    refine st9 _ ?_
    show SP p e below T9 m 19 #[vr a0x, vr a1l] [] _
    exact X9.returnOut hx Bd.returns (dG hby D18 9 rfl) hr
  · show Q_rmX_1 n0 Z cS aDE kDE aUS aSS aIE mO a0x a1l ae ka ob0 sA vA kA nA lA sB vB kB nB lB h0 _ T9.heap _
    rw [e9]
    exact ⟨b_7, rfl, N9, K9, ((P4_0.keep Kc7).wr W9), Fw9, (P7_1.wr W9), (P7_2.other W9 (Or.inl (Ne.symm (nLt (lLt (lLt E_a0x.lt (lTr Kc2.1 Kc4.1)) P7_0)))))⟩
def Q_rmX_2 (n0 : Nat) (Z : State) (cS : Int32) (aDE : Addr) (kDE : ClassId) (aUS : Addr) (aSS : Addr) (aIE : Addr) (mO : Addr) (a0x : Addr) (a1l : Addr) (ae : Addr) (ka : ClassId) (ob0 : Addr) (ob1 : Addr) (sA : Addr) (vA : Addr) (kA : ClassId) (nA : Int32) (lA : List Value) (sB : Addr) (vB : Addr) (kB : ClassId) (nB : Int32) (lB : List Value) (h0 : Heap) (v : Option Value) (h : Heap) (L : List Loc) : Prop := ∃ b : Addr, v = none ∧ Fr n0 L ∧ Keep h0 h [a0x] ∧ (Exa Z h a0x "com/example/grantline/grantline/PolicyException") ∧ (Fld Z h a0x "com/example/grantline/grantline/PolicyException" "problems" "Ljava/util/List;" (.ref b)) ∧ (Exa Z h b "java/util/ImmutableCollections$List12") ∧ (Fld Z h b "java/util/ImmutableCollections$List12" "e0" "Ljava/lang/Object;" (.ref ob0))
theorem rmX_2 (l : Launch) (Z : State) (a0 : Array Value) (hw : ∀ d ∈ tables_1, d.before a0 Z = true) (ws : List Jvm.Cond) (hlt : l.stackTraces = true) (cS : Int32) (aDE : Addr) (kDE : ClassId) (aUS : Addr) (aSS : Addr) (aIE : Addr) (mO : Addr) (a0x : Addr) (a1l : Addr) (ae : Addr) (ka : ClassId) (ob0 : Addr) (ob1 : Addr) (sA : Addr) (vA : Addr) (kA : ClassId) (nA : Int32) (lA : List Value) (sB : Addr) (vB : Addr) (kB : ClassId) (nB : Int32) (lB : List Value) (h0 : Heap) (n0 : Nat) (O0 : Old Z n0 h0) (GL : GF Z cS aDE kDE aUS aSS aIE mO) (E_a0x : Exa Z h0 a0x "com/example/grantline/grantline/PolicyException") (U_a0x : Unt h0 a0x) (F_cause_a0x : Fld Z h0 a0x "java/lang/Throwable" "cause" "Ljava/lang/Throwable;" .null) (F_stackTrace_a0x : Fld Z h0 a0x "java/lang/Throwable" "stackTrace" "[Ljava/lang/StackTraceElement;" .null) (F_suppressedExceptions_a0x : Fld Z h0 a0x "java/lang/Throwable" "suppressedExceptions" "Ljava/util/List;" .null) (F_detailMessage_a0x : Fld Z h0 a0x "java/lang/Throwable" "detailMessage" "Ljava/lang/String;" .null) (F_backtrace_a0x : Fld Z h0 a0x "java/lang/Throwable" "backtrace" "Ljava/lang/Object;" .null) (F_problems_a0x : Fld Z h0 a0x "com/example/grantline/grantline/PolicyException" "problems" "Ljava/util/List;" .null) (g_a0x : n0 ≤ a0x) (E_a1l : Exa Z h0 a1l "java/util/ArrayList") (F_elementData_a1l : Fld Z h0 a1l "java/util/ArrayList" "elementData" "[Ljava/lang/Object;" (.ref ae)) (F_size_a1l : Fld Z h0 a1l "java/util/ArrayList" "size" "I" (.int 2)) (E_ae : Exa Z h0 ae "[Ljava/lang/Object;") (V_ae : Arv Z h0 ae ka (.object "java/lang/Object") (10 : Int32) [(.ref ob0), (.ref ob1), .null, .null, .null, .null, .null, .null, .null, .null] .null) (E_ob0 : Exa Z h0 ob0 "com/example/grantline/grantline/PolicyException$Problem") (E_ob1 : Exa Z h0 ob1 "com/example/grantline/grantline/PolicyException$Problem") (F_pointer_ob0 : Fld Z h0 ob0 "com/example/grantline/grantline/PolicyException$Problem" "pointer" "Ljava/lang/String;" (.ref sA)) (F_description_ob0 : Fld Z h0 ob0 "com/example/grantline/grantline/PolicyException$Problem" "description" "Ljava/lang/String;" (.ref sB)) (E_sA : Exa Z h0 sA "java/lang/String") (F_value_sA : Fld Z h0 sA "java/lang/String" "value" "[B" (.ref vA)) (F_coder_sA : Fld Z h0 sA "java/lang/String" "coder" "B" (.int 0)) (V_vA : Arv Z h0 vA kA .byte nA lA (.int 0)) (E_sB : Exa Z h0 sB "java/lang/String") (F_value_sB : Fld Z h0 sB "java/lang/String" "value" "[B" (.ref vB)) (F_coder_sB : Fld Z h0 sB "java/lang/String" "coder" "B" (.int 0)) (V_vB : Arv Z h0 vB kB .byte nB lB (.int 0)) (hb0 : ¬ (nA < (0 : Int32))) (hb1 : ¬ ((2 : Int32) < nA)) (hb2 : ¬ (nB < (0 : Int32))) (hb3 : ¬ ((2 : Int32) < nB)) :
    MetFree l MN_63 (head1 (Jvm.Cond.code MN_63 prog_16_method_2_code 2 none :: ws) (Rm 8 9 2808 104)) (fun a U => a = #[(.ref a0x), (.ref a1l)] ∧ Z.Warmed39 U.vm ∧ U.heap = h0 ∧ CHv Z EL1 U.vm h0) (fun _ _ bl s _ => s.vm.MethodsKnown ∧ s.vm.FramesKnown bl) (fun _ U o U' => ∃ v L, o = .returned v ∧ Q_rmX_2 n0 Z cS aDE kDE aUS aSS aIE mO a0x a1l ae ka ob0 ob1 sA vA kA nA lA sB vB kB nB lB h0 v U'.heap L ∧ CHr Z EL1 U.vm U.heap U'.vm U'.heap ∧ ReturnedEndW U o U' L (Rm 8 9 2808 104).cells (Rm 8 9 2808 104).slots) := by
  refine MetFree.of_bodySF (plainFor_of_name pnv12) hisR ?_
  intro p e s m args below meth c s₁ Bd hml0 hP hK
  obtain ⟨rfl, hZ, hh, H0⟩ := hP
  have hx := Bd.exec
  have hby := Bd.bytes
  have hml : c.maxLocals = 2 := hml0
  have hown : s.vm.findClass "com/example/grantline/grantline/PolicyException" = some m.cls := findClass_of_methodNamed Bd.named
  have hnm := (name_of_methodNamed Bd.named Bd.method).1
  have X0 : Stand p l e (Rm 8 9 2808 104) s m #[(.ref a0x), (.ref a1l)] below meth c s₁ [] 0 0 := Stand.of_body Bd
  have e0 : s₁.heap = h0 := by rw [← hh, Bd.state]; rfl
  have N0 := Fr.nil n0
  have pre0 : ∀ t, SP p e below s₁ m 0 #[vr a0x, vr a1l] [] t → Steps p.tables e below (s₁.setTop (entryFrame m #[(.ref a0x), (.ref a1l)] 2)) t := fun t k => castTop (ef_rmX_1 m a0x a1l) k
  obtain ⟨hTK, hBW⟩ := hK
  have X0w : Stand p l e (Rm 8 9 2808 104) (s.setVm s.vm) m #[(.ref a0x), (.ref a1l)] below meth c s₁ [] 0 0 := X0
  have R0 : CHr Z EL1 s.vm h0 s.vm h0 := CHr.refl H0
  have hS0 : s.Since s.vm h0.size := (State.WarmedH.refl s).since _
  have GL' := GL
  obtain ⟨GCS, GCP, GDE, GVE, GUS, GSS, GIE, GMO⟩ := GL'
  obtain ⟨_, _, ⟨T1, L1, k1, n1⟩, -, X1, ⟨Lc1, hQ1, l1, y1, z1⟩, st1⟩ := Jvm.LawKit.callS X0w hx (y := MN_45) hown (mvT hZ (Wd hw 111 rfl)) (mvT hZ (Wd hw 112 rfl)) (mvT hZ (Wd hw 107 rfl)) (mvT hZ (Wd hw 113 rfl)) (by decide) (backOf (W := 1) (rmFi l Z a0 hw [] cS aDE kDE aUS aSS aIE mO a1l ae ka ob0 ((.ref ob1)) (.null) (.null) (.null) (.null) (.null) (.null) (.null) (.null) ((2 : Int32)) h0 n0 O0 GL E_a1l F_elementData_a1l V_ae F_size_a1l E_ob0 (by decide) (by decide)) hZ (Wd hw 113 rfl) (Wd hw 107 rfl) (by decide) (by decide)) (g := mkF m 2 #[vr a0x, vr a1l] [(.ref a1l), (.ref a0x)]) rfl (by rw [hml]; rfl) (argsL := [(.ref a1l)]) (rest := [(.ref a0x)]) (lenOf pdv34 rfl) rfl (by show 2 * 0 + _ ≤ _; exact lEq rfl) (dG hby D18 2 rfl) (fun _ _ => ⟨rfl, e0, (by decide : 0 + 0 ≤ _), (by decide : 0 + 0 ≤ _)⟩)
  dsimp only [Pt.U, Pt.locs, Pt.cells, Pt.slots] at X1 l1 y1 z1 st1 hQ1
  subst l1 y1 z1
  obtain ⟨rfl, N1q, e1⟩ := hQ1
  have N1 := Fr.app N0 N1q
  obtain ⟨cq2, kq2, q2a, q2b, q2c⟩ := isOf hZ e1 E_ob0
  obtain ⟨_, _, ⟨T2, L2, k2, n2⟩, -, X2', hS2', hg2, ⟨Lc2, hQ2, l2, y2, z2, Rs2⟩, st2⟩ := X1.virtualBackS hx (y := MN_28) (z := MN_28) hown (mvT hZ (Wd hw 146 rfl)) (mvT hZ (Wd hw 147 rfl)) (notFace_of_selects (args := #[]) (mvT hZ (Wd hw 149 rfl))) (mvT hZ (Wd hw 149 rfl)) (mvT hZ (Wd hw 148 rfl)) (by decide) (backOfSH (W := 1) (rmPt l Z a0 hw [] cS aDE kDE aUS aSS aIE mO ob0 sA vA kA nA lA sB vB kB nB lB h0 n0 O0 GL E_ob0 F_pointer_ob0 F_description_ob0 E_sA F_value_sA F_coder_sA V_vA E_sB F_value_sB F_coder_sB V_vB hb0 hb1 hb2 hb3) hZ (Wd hw 150 rfl) (Wd hw 60 rfl) (by decide) (by decide) (own_EW hw) H0) q2a q2c (g := mkF m 5 #[vr a0x, vr a1l] [(.ref ob0), (.ref a0x)]) rfl (by rw [hml]; rfl) (Steps.refl _) (argsL := []) (rest := [(.ref a0x)]) (lenOf pdv20 rfl) rfl (by show 2 * 0 + _ ≤ _; exact lEq rfl) (dG hby D18 3 rfl) (fun _ _ => ⟨rfl, e1, (by decide : 0 + 6 ≤ _), (by decide : 0 + 52 ≤ _)⟩)
  dsimp only [Pt.U, Pt.locs, Pt.cells, Pt.slots] at X2' l2 y2 z2 st2 hQ2 hS2' hg2 Rs2
  subst l2 y2 z2
  obtain ⟨X2, hS2, hZ2, hown2⟩ := rebS hS0 (by rw [e1]; exact (Nat.le_refl _)) X2' hS2' hg2 hZ hown
  obtain ⟨b_2, rfl, N2q, Kc2, P2_0, P2_1⟩ := hQ2
  have K2 : Keep h0 T2.heap [a0x] := (Keep.refl h0 [a0x]).trans Kc2 all0
  have O2 := O0.keep Kc2 all0
  have H_3 := Rs2.1
  have R_3 := R0.trans Rs2
  have g_b_2 : n0 ≤ b_2 := lTr (own_sz O0) P2_0
  have sz_b_2 : h0.size ≤ b_2 := lTr (Keep.refl h0 [a0x]).1 P2_0
  have N2 := Fr.app N1 N2q
  obtain ⟨_, _, ⟨T4, L4, k4, n4⟩, -, X4, ⟨Lc4, hQ4, l4, y4, z4⟩, st4⟩ := X2.specialBack hx (y := MN_62) rfl hown2 (mvT hZ2 (Wd hw 263 rfl)) (mvT hZ2 (Wd hw 264 rfl)) (mvT hZ2 (Wd hw 267 rfl)) (by decide) (backOfKL (W := 0) (rmEx l Z a0 hw [] hlt cS aDE kDE aUS aSS aIE mO a0x b_2 (T2.heap) n0 O2 GL (E_a0x.keep Kc2) (U_a0x.keep Kc2 nin0) (F_cause_a0x.keep Kc2 nin0) (F_stackTrace_a0x.keep Kc2 nin0) (F_suppressedExceptions_a0x.keep Kc2 nin0) (F_detailMessage_a0x.keep Kc2 nin0) (F_backtrace_a0x.keep Kc2 nin0) (F_problems_a0x.keep Kc2 nin0) g_a0x) hZ2 (Wd hw 267 rfl) (Wd hw 266 rfl) (by decide) (by decide) (hTK.alikeC (hZ.alike.symm.trans hZ2.alike)) (hBW.alikeC (hZ.alike.symm.trans hZ2.alike))) (g := mkF m 8 #[vr a0x, vr a1l] [(.ref b_2), (.ref a0x)]) rfl (by rw [hml]; rfl) (Steps.refl _) (a := a0x) (argsL := [(.ref b_2)]) (rest := []) (lenOf pdv6 rfl) rfl (by show 2 * 0 + _ ≤ _; exact lEq rfl) (dG hby D18 4 rfl) (fun _ _ => ⟨rfl, rfl, (by decide : 6 + 1 ≤ _), (by decide : 52 + 2752 ≤ _)⟩)
  dsimp only [Pt.U, Pt.locs, Pt.cells, Pt.slots] at X4 l4 y4 z4 st4 hQ4
  subst l4 y4 z4
  obtain ⟨rfl, N4q, Kc4, P4_0, P4_1⟩ := hQ4
  have K4 : Keep h0 T4.heap [a0x] := K2.trans Kc4 (allS (Or.inl (List.mem_of_getElem? (i := 0) rfl)) all0)
  have O4 := O2.keep Kc4 (allS g_a0x all0)
  have Sf6 : Safe Z EL1 T2.vm T2.heap a0x := Safe.exa (EL := EL1) hZ2.alike (E_a0x.keep Kc2) (by decide) (by decide)
  have H_5 := H_3.keep Kc4 (sfS Sf6 sf0)
  have R_5 := R_3.trans (CHr.keep Kc4 (sfS Sf6 sf0) H_3)
  have N4 := Fr.app N2 N4q
  obtain ⟨_, _, ⟨T7, L7, k7, n7⟩, -, X7, ⟨Lc7, hQ7, l7, y7, z7⟩, st7⟩ := Jvm.LawKit.callS X4 hx (y := MN_60) hown2 (mvT hZ2 (Wd hw 310 rfl)) (mvT hZ2 (Wd hw 311 rfl)) (mvT hZ2 (Wd hw 312 rfl)) (mvT hZ2 (Wd hw 313 rfl)) (by decide) (backOf (W := 1) (rmLc_2 l Z a0 hw [] cS aDE kDE aUS aSS aIE mO a1l ae ka ob0 ob1 (T4.heap) n0 O4 GL ((E_a1l.keep Kc2).keep Kc4) ((F_elementData_a1l.keep Kc2 nin0).keep Kc4 (ninS (Exa.ne E_a1l E_a0x (by decide)) nin0)) ((F_size_a1l.keep Kc2 nin0).keep Kc4 (ninS (Exa.ne E_a1l E_a0x (by decide)) nin0)) ((E_ae.keep Kc2).keep Kc4) ((V_ae.keep Kc2 nin0).keep Kc4 (ninS (Exa.ne E_ae E_a0x (by decide)) nin0)) ((E_ob0.keep Kc2).keep Kc4) ((E_ob1.keep Kc2).keep Kc4)) hZ2 (Wd hw 313 rfl) (Wd hw 312 rfl) (by decide) (by decide)) (g := mkF m 13 #[vr a0x, vr a1l] [(.ref a1l), (.ref a0x)]) rfl (by rw [hml]; rfl) (argsL := [(.ref a1l)]) (rest := [(.ref a0x)]) (lenOf pdv32 rfl) rfl (by show 2 * 0 + _ ≤ _; exact lEq rfl) (dG hby D18 7 rfl) (fun _ _ => ⟨rfl, rfl, (by decide : 7 + 2 ≤ _), (by decide : 2804 + 4 ≤ _)⟩)
  dsimp only [Pt.U, Pt.locs, Pt.cells, Pt.slots] at X7 l7 y7 z7 st7 hQ7
  subst l7 y7 z7
  obtain ⟨b_7, rfl, N7q, Kc7, P7_0, P7_1, P7_2⟩ := hQ7
  have K7 : Keep h0 T7.heap [a0x] := K4.trans Kc7 all0
  have O7 := O4.keep Kc7 all0
  have H_8 := H_5.keep Kc7 sf0
  have R_8 := R_5.trans (CHr.keep Kc7 sf0 H_5)
  have g_b_7 : n0 ≤ b_7 := lTr (own_sz O4) P7_0
  have sz_b_7 : h0.size ≤ b_7 := lTr K4.1 P7_0
  have N7 := Fr.app N4 N7q
  obtain ⟨T9, h9, X9, e9, W9, st9⟩ := putF X7 hx hZ2 hown2 (host := "") (Or.inl (Wd hw 382 rfl)) Via.refl rfl (P4_1.keep Kc7 nin0) (P4_0.keep Kc7) (Or.inr ⟨(Wd hw 383 rfl), rfl, hnm⟩) (Wd hw 106 rfl) (ty := (.object "java/util/List")) (by decide) rfl rfl (g := mkF m 16 #[vr a0x, vr a1l] [(.ref b_7), (.ref a0x)]) rfl rfl (dG hby D18 8 rfl)
  have Fw9 := (P4_1.keep Kc7 nin0).same W9
  have Sf11 : Safe Z EL1 T2.vm T7.heap a0x := Safe.exa (EL := EL1) hZ2.alike (P4_0.keep Kc7) (by decide) (by decide)
  have H_10 := H_8.wr W9 Sf11
  have R_10 := R_8.trans (CHr.wr W9 Sf11 H_8)
  have K9 : Keep h0 h9 [a0x] := K7.wr W9 (Or.inl (List.mem_of_getElem? (i := 0) rfl))
  have O9 := O7.wr W9 g_a0x
  have N9 := Fr.snoc X9 N7 g_a0x
  obtain ⟨fs, hr, hrun, hended, hRW⟩ := X9.leaveW hS2 (by rw [e9]; exact (lTr (lTr (lTr (Nat.le_refl _) Kc4.1) Kc7.1) (Keep.of_wr W9).1)) (v := none) (fun _ => rfl)
  have hCR : CHr Z EL1 s.vm s.heap T9.vm T9.heap := by
    rw [hh, e9]
    exact R_10.trans (CHv.at X9 hZ2 (own_EW hw) H_10)
  refine ⟨_, _, pre0 _ ?_, hrun, hended, _, _, rfl, ?_, hCR, hRW.1, hRW.2.1, hRW.2.2.1, hRW.2.2.2.mono (by decide) (by decide)⟩
  · show SP p e below s₁ m 0 #[vr a0x, vr a1l] [] _
    refine XS.aloadN X0w.here hx rfl (dG hby D18 0 rfl) rfl rfl ?_
    refine XS.aloadN X0w.here hx rfl (dG hby D18 1 rfl) rfl rfl ?_
    show SP p e below s₁ m 2 #[vr a0x, vr a1l] [(.ref a1l), (.ref a0x)] _
    refine st1 _ ?_
    show SP p e below T1 m 5 #[vr a0x, vr a1l] [(.ref ob0), (.ref a0x)] _
    refine st2.trans ?_
    show SP p e below T2 m 8 #[vr a0x, vr a1l] [(.ref b_2), (.ref a0x)] _
    refine st4.trans ?_
    show SP p e below T4 m 11 #[vr a0x, vr a1l] [] _
    refine XS.aloadN X4.here hx rfl (dG hby D18 5 rfl) rfl rfl ?_
    refine XS.aloadN X4.here hx rfl (dG hby D18 6 rfl) rfl rfl ?_
    show SP p e below T4 m 13 #[vr a0x, vr a1l] [(.ref a1l), (.ref a0x)] _
    refine st7 _ ?_
    show SP p e below T7 m 16 #[vr a0x, vr a1l] [(.ref b_7), (.ref a0x)] _
    refine st9 _ ?_
    show SP p e below T9 m 19 #[vr a0x, vr a1l] [] _
    exact X9.returnOut hx Bd.returns (dG hby D18 9 rfl) hr
  · show Q_rmX_2 n0 Z cS aDE kDE aUS aSS aIE mO a0x a1l ae ka ob0 ob1 sA vA kA nA lA sB vB kB nB lB h0 _ T9.heap _
    rw [e9]
    exact ⟨b_7, rfl, N9, K9, ((P4_0.keep Kc7).wr W9), Fw9, (P7_1.wr W9), (P7_2.other W9 (Or.inl (Ne.symm (nLt (lLt (lLt E_a0x.lt (lTr Kc2.1 Kc4.1)) P7_0)))))⟩
def Q_rmX_3 (n0 : Nat) (Z : State) (cS : Int32) (aDE : Addr) (kDE : ClassId) (aUS : Addr) (aSS : Addr) (aIE : Addr) (mO : Addr) (a0x : Addr) (a1l : Addr) (ae : Addr) (ka : ClassId) (ob0 : Addr) (ob1 : Addr) (ob2 : Addr) (sA : Addr) (vA : Addr) (kA : ClassId) (nA : Int32) (lA : List Value) (sB : Addr) (vB : Addr) (kB : ClassId) (nB : Int32) (lB : List Value) (h0 : Heap) (v : Option Value) (h : Heap) (L : List Loc) : Prop := ∃ b : Addr, ∃ d : Addr, ∃ kd : ClassId, v = none ∧ Fr n0 L ∧ Keep h0 h [a0x] ∧ (Exa Z h a0x "com/example/grantline/grantline/PolicyException") ∧ (Fld Z h a0x "com/example/grantline/grantline/PolicyException" "problems" "Ljava/util/List;" (.ref b)) ∧ (h0.size ≤ d) ∧ (Exa Z h b "java/util/ImmutableCollections$ListN") ∧ (Fld Z h b "java/util/ImmutableCollections$ListN" "elements" "[Ljava/lang/Object;" (.ref d)) ∧ (Arv Z h d kd (.object "java/lang/Object") (3 : Int32) [(.ref ob0), (.ref ob1), (.ref ob2)] .null)
theorem rmX_3 (l : Launch) (Z : State) (a0 : Array Value) (hw : ∀ d ∈ tables_1, d.before a0 Z = true) (ws : List Jvm.Cond) (hlt : l.stackTraces = true) (cS : Int32) (aDE : Addr) (kDE : ClassId) (aUS : Addr) (aSS : Addr) (aIE : Addr) (mO : Addr) (a0x : Addr) (a1l : Addr) (ae : Addr) (ka : ClassId) (ob0 : Addr) (ob1 : Addr) (ob2 : Addr) (sA : Addr) (vA : Addr) (kA : ClassId) (nA : Int32) (lA : List Value) (sB : Addr) (vB : Addr) (kB : ClassId) (nB : Int32) (lB : List Value) (h0 : Heap) (n0 : Nat) (O0 : Old Z n0 h0) (GL : GF Z cS aDE kDE aUS aSS aIE mO) (E_a0x : Exa Z h0 a0x "com/example/grantline/grantline/PolicyException") (U_a0x : Unt h0 a0x) (F_cause_a0x : Fld Z h0 a0x "java/lang/Throwable" "cause" "Ljava/lang/Throwable;" .null) (F_stackTrace_a0x : Fld Z h0 a0x "java/lang/Throwable" "stackTrace" "[Ljava/lang/StackTraceElement;" .null) (F_suppressedExceptions_a0x : Fld Z h0 a0x "java/lang/Throwable" "suppressedExceptions" "Ljava/util/List;" .null) (F_detailMessage_a0x : Fld Z h0 a0x "java/lang/Throwable" "detailMessage" "Ljava/lang/String;" .null) (F_backtrace_a0x : Fld Z h0 a0x "java/lang/Throwable" "backtrace" "Ljava/lang/Object;" .null) (F_problems_a0x : Fld Z h0 a0x "com/example/grantline/grantline/PolicyException" "problems" "Ljava/util/List;" .null) (g_a0x : n0 ≤ a0x) (E_a1l : Exa Z h0 a1l "java/util/ArrayList") (F_elementData_a1l : Fld Z h0 a1l "java/util/ArrayList" "elementData" "[Ljava/lang/Object;" (.ref ae)) (F_size_a1l : Fld Z h0 a1l "java/util/ArrayList" "size" "I" (.int 3)) (E_ae : Exa Z h0 ae "[Ljava/lang/Object;") (V_ae : Arv Z h0 ae ka (.object "java/lang/Object") (10 : Int32) [(.ref ob0), (.ref ob1), (.ref ob2), .null, .null, .null, .null, .null, .null, .null] .null) (E_ob0 : Exa Z h0 ob0 "com/example/grantline/grantline/PolicyException$Problem") (E_ob1 : Exa Z h0 ob1 "com/example/grantline/grantline/PolicyException$Problem") (E_ob2 : Exa Z h0 ob2 "com/example/grantline/grantline/PolicyException$Problem") (F_pointer_ob0 : Fld Z h0 ob0 "com/example/grantline/grantline/PolicyException$Problem" "pointer" "Ljava/lang/String;" (.ref sA)) (F_description_ob0 : Fld Z h0 ob0 "com/example/grantline/grantline/PolicyException$Problem" "description" "Ljava/lang/String;" (.ref sB)) (E_sA : Exa Z h0 sA "java/lang/String") (F_value_sA : Fld Z h0 sA "java/lang/String" "value" "[B" (.ref vA)) (F_coder_sA : Fld Z h0 sA "java/lang/String" "coder" "B" (.int 0)) (V_vA : Arv Z h0 vA kA .byte nA lA (.int 0)) (E_sB : Exa Z h0 sB "java/lang/String") (F_value_sB : Fld Z h0 sB "java/lang/String" "value" "[B" (.ref vB)) (F_coder_sB : Fld Z h0 sB "java/lang/String" "coder" "B" (.int 0)) (V_vB : Arv Z h0 vB kB .byte nB lB (.int 0)) (hb0 : ¬ (nA < (0 : Int32))) (hb1 : ¬ ((2 : Int32) < nA)) (hb2 : ¬ (nB < (0 : Int32))) (hb3 : ¬ ((2 : Int32) < nB)) :
    MetFree l MN_63 (head1 (Jvm.Cond.code MN_63 prog_16_method_2_code 2 none :: ws) (Rm 9 10 2812 116)) (fun a U => a = #[(.ref a0x), (.ref a1l)] ∧ Z.Warmed39 U.vm ∧ U.heap = h0 ∧ CHv Z EL1 U.vm h0) (fun _ _ bl s _ => s.vm.MethodsKnown ∧ s.vm.FramesKnown bl) (fun _ U o U' => ∃ v L, o = .returned v ∧ Q_rmX_3 n0 Z cS aDE kDE aUS aSS aIE mO a0x a1l ae ka ob0 ob1 ob2 sA vA kA nA lA sB vB kB nB lB h0 v U'.heap L ∧ CHr Z EL1 U.vm U.heap U'.vm U'.heap ∧ ReturnedEndW U o U' L (Rm 9 10 2812 116).cells (Rm 9 10 2812 116).slots) := by
  refine MetFree.of_bodySF (plainFor_of_name pnv12) hisR ?_
  intro p e s m args below meth c s₁ Bd hml0 hP hK
  obtain ⟨rfl, hZ, hh, H0⟩ := hP
  have hx := Bd.exec
  have hby := Bd.bytes
  have hml : c.maxLocals = 2 := hml0
  have hown : s.vm.findClass "com/example/grantline/grantline/PolicyException" = some m.cls := findClass_of_methodNamed Bd.named
  have hnm := (name_of_methodNamed Bd.named Bd.method).1
  have X0 : Stand p l e (Rm 9 10 2812 116) s m #[(.ref a0x), (.ref a1l)] below meth c s₁ [] 0 0 := Stand.of_body Bd
  have e0 : s₁.heap = h0 := by rw [← hh, Bd.state]; rfl
  have N0 := Fr.nil n0
  have pre0 : ∀ t, SP p e below s₁ m 0 #[vr a0x, vr a1l] [] t → Steps p.tables e below (s₁.setTop (entryFrame m #[(.ref a0x), (.ref a1l)] 2)) t := fun t k => castTop (ef_rmX_1 m a0x a1l) k
  obtain ⟨hTK, hBW⟩ := hK
  have X0w : Stand p l e (Rm 9 10 2812 116) (s.setVm s.vm) m #[(.ref a0x), (.ref a1l)] below meth c s₁ [] 0 0 := X0
  have R0 : CHr Z EL1 s.vm h0 s.vm h0 := CHr.refl H0
  have hS0 : s.Since s.vm h0.size := (State.WarmedH.refl s).since _
  have GL' := GL
  obtain ⟨GCS, GCP, GDE, GVE, GUS, GSS, GIE, GMO⟩ := GL'
  obtain ⟨_, _, ⟨T1, L1, k1, n1⟩, -, X1, ⟨Lc1, hQ1, l1, y1, z1⟩, st1⟩ := Jvm.LawKit.callS X0w hx (y := MN_45) hown (mvT hZ (Wd hw 111 rfl)) (mvT hZ (Wd hw 112 rfl)) (mvT hZ (Wd hw 107 rfl)) (mvT hZ (Wd hw 113 rfl)) (by decide) (backOf (W := 1) (rmFi l Z a0 hw [] cS aDE kDE aUS aSS aIE mO a1l ae ka ob0 ((.ref ob1)) ((.ref ob2)) (.null) (.null) (.null) (.null) (.null) (.null) (.null) ((3 : Int32)) h0 n0 O0 GL E_a1l F_elementData_a1l V_ae F_size_a1l E_ob0 (by decide) (by decide)) hZ (Wd hw 113 rfl) (Wd hw 107 rfl) (by decide) (by decide)) (g := mkF m 2 #[vr a0x, vr a1l] [(.ref a1l), (.ref a0x)]) rfl (by rw [hml]; rfl) (argsL := [(.ref a1l)]) (rest := [(.ref a0x)]) (lenOf pdv34 rfl) rfl (by show 2 * 0 + _ ≤ _; exact lEq rfl) (dG hby D18 2 rfl) (fun _ _ => ⟨rfl, e0, (by decide : 0 + 0 ≤ _), (by decide : 0 + 0 ≤ _)⟩)
  dsimp only [Pt.U, Pt.locs, Pt.cells, Pt.slots] at X1 l1 y1 z1 st1 hQ1
  subst l1 y1 z1
  obtain ⟨rfl, N1q, e1⟩ := hQ1
  have N1 := Fr.app N0 N1q
  obtain ⟨cq2, kq2, q2a, q2b, q2c⟩ := isOf hZ e1 E_ob0
  obtain ⟨_, _, ⟨T2, L2, k2, n2⟩, -, X2', hS2', hg2, ⟨Lc2, hQ2, l2, y2, z2, Rs2⟩, st2⟩ := X1.virtualBackS hx (y := MN_28) (z := MN_28) hown (mvT hZ (Wd hw 146 rfl)) (mvT hZ (Wd hw 147 rfl)) (notFace_of_selects (args := #[]) (mvT hZ (Wd hw 149 rfl))) (mvT hZ (Wd hw 149 rfl)) (mvT hZ (Wd hw 148 rfl)) (by decide) (backOfSH (W := 1) (rmPt l Z a0 hw [] cS aDE kDE aUS aSS aIE mO ob0 sA vA kA nA lA sB vB kB nB lB h0 n0 O0 GL E_ob0 F_pointer_ob0 F_description_ob0 E_sA F_value_sA F_coder_sA V_vA E_sB F_value_sB F_coder_sB V_vB hb0 hb1 hb2 hb3) hZ (Wd hw 150 rfl) (Wd hw 60 rfl) (by decide) (by decide) (own_EW hw) H0) q2a q2c (g := mkF m 5 #[vr a0x, vr a1l] [(.ref ob0), (.ref a0x)]) rfl (by rw [hml]; rfl) (Steps.refl _) (argsL := []) (rest := [(.ref a0x)]) (lenOf pdv20 rfl) rfl (by show 2 * 0 + _ ≤ _; exact lEq rfl) (dG hby D18 3 rfl) (fun _ _ => ⟨rfl, e1, (by decide : 0 + 6 ≤ _), (by decide : 0 + 52 ≤ _)⟩)
  dsimp only [Pt.U, Pt.locs, Pt.cells, Pt.slots] at X2' l2 y2 z2 st2 hQ2 hS2' hg2 Rs2
  subst l2 y2 z2
  obtain ⟨X2, hS2, hZ2, hown2⟩ := rebS hS0 (by rw [e1]; exact (Nat.le_refl _)) X2' hS2' hg2 hZ hown
  obtain ⟨b_2, rfl, N2q, Kc2, P2_0, P2_1⟩ := hQ2
  have K2 : Keep h0 T2.heap [a0x] := (Keep.refl h0 [a0x]).trans Kc2 all0
  have O2 := O0.keep Kc2 all0
  have H_3 := Rs2.1
  have R_3 := R0.trans Rs2
  have g_b_2 : n0 ≤ b_2 := lTr (own_sz O0) P2_0
  have sz_b_2 : h0.size ≤ b_2 := lTr (Keep.refl h0 [a0x]).1 P2_0
  have N2 := Fr.app N1 N2q
  obtain ⟨_, _, ⟨T4, L4, k4, n4⟩, -, X4, ⟨Lc4, hQ4, l4, y4, z4⟩, st4⟩ := X2.specialBack hx (y := MN_62) rfl hown2 (mvT hZ2 (Wd hw 263 rfl)) (mvT hZ2 (Wd hw 264 rfl)) (mvT hZ2 (Wd hw 267 rfl)) (by decide) (backOfKL (W := 0) (rmEx l Z a0 hw [] hlt cS aDE kDE aUS aSS aIE mO a0x b_2 (T2.heap) n0 O2 GL (E_a0x.keep Kc2) (U_a0x.keep Kc2 nin0) (F_cause_a0x.keep Kc2 nin0) (F_stackTrace_a0x.keep Kc2 nin0) (F_suppressedExceptions_a0x.keep Kc2 nin0) (F_detailMessage_a0x.keep Kc2 nin0) (F_backtrace_a0x.keep Kc2 nin0) (F_problems_a0x.keep Kc2 nin0) g_a0x) hZ2 (Wd hw 267 rfl) (Wd hw 266 rfl) (by decide) (by decide) (hTK.alikeC (hZ.alike.symm.trans hZ2.alike)) (hBW.alikeC (hZ.alike.symm.trans hZ2.alike))) (g := mkF m 8 #[vr a0x, vr a1l] [(.ref b_2), (.ref a0x)]) rfl (by rw [hml]; rfl) (Steps.refl _) (a := a0x) (argsL := [(.ref b_2)]) (rest := []) (lenOf pdv6 rfl) rfl (by show 2 * 0 + _ ≤ _; exact lEq rfl) (dG hby D18 4 rfl) (fun _ _ => ⟨rfl, rfl, (by decide : 6 + 1 ≤ _), (by decide : 52 + 2752 ≤ _)⟩)
  dsimp only [Pt.U, Pt.locs, Pt.cells, Pt.slots] at X4 l4 y4 z4 st4 hQ4
  subst l4 y4 z4
  obtain ⟨rfl, N4q, Kc4, P4_0, P4_1⟩ := hQ4
  have K4 : Keep h0 T4.heap [a0x] := K2.trans Kc4 (allS (Or.inl (List.mem_of_getElem? (i := 0) rfl)) all0)
  have O4 := O2.keep Kc4 (allS g_a0x all0)
  have Sf6 : Safe Z EL1 T2.vm T2.heap a0x := Safe.exa (EL := EL1) hZ2.alike (E_a0x.keep Kc2) (by decide) (by decide)
  have H_5 := H_3.keep Kc4 (sfS Sf6 sf0)
  have R_5 := R_3.trans (CHr.keep Kc4 (sfS Sf6 sf0) H_3)
  have N4 := Fr.app N2 N4q
  obtain ⟨_, _, ⟨T7, L7, k7, n7⟩, -, X7, ⟨Lc7, hQ7, l7, y7, z7⟩, st7⟩ := Jvm.LawKit.callS X4 hx (y := MN_60) hown2 (mvT hZ2 (Wd hw 310 rfl)) (mvT hZ2 (Wd hw 311 rfl)) (mvT hZ2 (Wd hw 312 rfl)) (mvT hZ2 (Wd hw 313 rfl)) (by decide) (backOf (W := 1) (rmLc_3 l Z a0 hw [] cS aDE kDE aUS aSS aIE mO a1l ae ka ob0 ob1 ob2 (T4.heap) n0 O4 GL ((E_a1l.keep Kc2).keep Kc4) ((F_elementData_a1l.keep Kc2 nin0).keep Kc4 (ninS (Exa.ne E_a1l E_a0x (by decide)) nin0)) ((F_size_a1l.keep Kc2 nin0).keep Kc4 (ninS (Exa.ne E_a1l E_a0x (by decide)) nin0)) ((E_ae.keep Kc2).keep Kc4) ((V_ae.keep Kc2 nin0).keep Kc4 (ninS (Exa.ne E_ae E_a0x (by decide)) nin0)) ((E_ob0.keep Kc2).keep Kc4) ((E_ob1.keep Kc2).keep Kc4) ((E_ob2.keep Kc2).keep Kc4)) hZ2 (Wd hw 313 rfl) (Wd hw 312 rfl) (by decide) (by decide)) (g := mkF m 13 #[vr a0x, vr a1l] [(.ref a1l), (.ref a0x)]) rfl (by rw [hml]; rfl) (argsL := [(.ref a1l)]) (rest := [(.ref a0x)]) (lenOf pdv32 rfl) rfl (by show 2 * 0 + _ ≤ _; exact lEq rfl) (dG hby D18 7 rfl) (fun _ _ => ⟨rfl, rfl, (by decide : 7 + 3 ≤ _), (by decide : 2804 + 8 ≤ _)⟩)
  dsimp only [Pt.U, Pt.locs, Pt.cells, Pt.slots] at X7 l7 y7 z7 st7 hQ7
  subst l7 y7 z7
  obtain ⟨b_7, d_7, kd_7, rfl, N7q, Kc7, P7_0, P7_1, P7_2, P7_3, P7_4⟩ := hQ7
  have K7 : Keep h0 T7.heap [a0x] := K4.trans Kc7 all0
  have O7 := O4.keep Kc7 all0
  have H_8 := H_5.keep Kc7 sf0
  have R_8 := R_5.trans (CHr.keep Kc7 sf0 H_5)
  have g_b_7 : n0 ≤ b_7 := lTr (own_sz O4) P7_0
  have sz_b_7 : h0.size ≤ b_7 := lTr K4.1 P7_0
  have g_d_7 : n0 ≤ d_7 := lTr (own_sz O4) P7_1
  have sz_d_7 : h0.size ≤ d_7 := lTr K4.1 P7_1
  have N7 := Fr.app N4 N7q
  obtain ⟨T9, h9, X9, e9, W9, st9⟩ := putF X7 hx hZ2 hown2 (host := "") (Or.inl (Wd hw 382 rfl)) Via.refl rfl (P4_1.keep Kc7 nin0) (P4_0.keep Kc7) (Or.inr ⟨(Wd hw 383 rfl), rfl, hnm⟩) (Wd hw 106 rfl) (ty := (.object "java/util/List")) (by decide) rfl rfl (g := mkF m 16 #[vr a0x, vr a1l] [(.ref b_7), (.ref a0x)]) rfl rfl (dG hby D18 8 rfl)
  have Fw9 := (P4_1.keep Kc7 nin0).same W9
  have Sf11 : Safe Z EL1 T2.vm T7.heap a0x := Safe.exa (EL := EL1) hZ2.alike (P4_0.keep Kc7) (by decide) (by decide)
  have H_10 := H_8.wr W9 Sf11
  have R_10 := R_8.trans (CHr.wr W9 Sf11 H_8)
  have K9 : Keep h0 h9 [a0x] := K7.wr W9 (Or.inl (List.mem_of_getElem? (i := 0) rfl))
  have O9 := O7.wr W9 g_a0x
  have N9 := Fr.snoc X9 N7 g_a0x
  obtain ⟨fs, hr, hrun, hended, hRW⟩ := X9.leaveW hS2 (by rw [e9]; exact (lTr (lTr (lTr (Nat.le_refl _) Kc4.1) Kc7.1) (Keep.of_wr W9).1)) (v := none) (fun _ => rfl)
  have hCR : CHr Z EL1 s.vm s.heap T9.vm T9.heap := by
    rw [hh, e9]
    exact R_10.trans (CHv.at X9 hZ2 (own_EW hw) H_10)
  refine ⟨_, _, pre0 _ ?_, hrun, hended, _, _, rfl, ?_, hCR, hRW.1, hRW.2.1, hRW.2.2.1, hRW.2.2.2.mono (by decide) (by decide)⟩
  · show SP p e below s₁ m 0 #[vr a0x, vr a1l] [] _
    refine XS.aloadN X0w.here hx rfl (dG hby D18 0 rfl) rfl rfl ?_
    refine XS.aloadN X0w.here hx rfl (dG hby D18 1 rfl) rfl rfl ?_
    show SP p e below s₁ m 2 #[vr a0x, vr a1l] [(.ref a1l), (.ref a0x)] _
    refine st1 _ ?_
    show SP p e below T1 m 5 #[vr a0x, vr a1l] [(.ref ob0), (.ref a0x)] _
    refine st2.trans ?_
    show SP p e below T2 m 8 #[vr a0x, vr a1l] [(.ref b_2), (.ref a0x)] _
    refine st4.trans ?_
    show SP p e below T4 m 11 #[vr a0x, vr a1l] [] _
    refine XS.aloadN X4.here hx rfl (dG hby D18 5 rfl) rfl rfl ?_
    refine XS.aloadN X4.here hx rfl (dG hby D18 6 rfl) rfl rfl ?_
    show SP p e below T4 m 13 #[vr a0x, vr a1l] [(.ref a1l), (.ref a0x)] _
    refine st7 _ ?_
    show SP p e below T7 m 16 #[vr a0x, vr a1l] [(.ref b_7), (.ref a0x)] _
    refine st9 _ ?_
    show SP p e below T9 m 19 #[vr a0x, vr a1l] [] _
    exact X9.returnOut hx Bd.returns (dG hby D18 9 rfl) hr
  · show Q_rmX_3 n0 Z cS aDE kDE aUS aSS aIE mO a0x a1l ae ka ob0 ob1 ob2 sA vA kA nA lA sB vB kB nB lB h0 _ T9.heap _
    rw [e9]
    exact ⟨b_7, d_7, kd_7, rfl, N9, K9, ((P4_0.keep Kc7).wr W9), Fw9, sz_d_7, (P7_2.wr W9), (P7_3.other W9 (Or.inl (Ne.symm (nLt (lLt (lLt E_a0x.lt (lTr Kc2.1 Kc4.1)) P7_0))))), (P7_4.other W9 (Ne.symm (nLt (lLt (lLt E_a0x.lt (lTr Kc2.1 Kc4.1)) P7_1))))⟩
theorem D62 : dL jdk_44_method_5_code [(0, .iload_n 1, 1), (1, .ifCond .ne 8, 3), (4, .aload_n 0, 1), (5, .getfield 13, 3), (8, .areturn, 1)] = true := by decide +kernel
abbrev MN_64 : MethodName := ⟨"java/util/ImmutableCollections$List12", "get", "(I)Ljava/lang/Object;"⟩
def Q_rmG12 (n0 : Nat) (Z : State) (cS : Int32) (aDE : Addr) (kDE : ClassId) (aUS : Addr) (aSS : Addr) (aIE : Addr) (mO : Addr) (a0l : Addr) (ob0 : Addr) (h0 : Heap) (v : Option Value) (h : Heap) (L : List Loc) : Prop := v = some (.ref ob0) ∧ Fr n0 L ∧ h = h0
theorem rmG12 (l : Launch) (Z : State) (a0 : Array Value) (hw : ∀ d ∈ tables_1, d.before a0 Z = true) (ws : List Jvm.Cond) (cS : Int32) (aDE : Addr) (kDE : ClassId) (aUS : Addr) (aSS : Addr) (aIE : Addr) (mO : Addr) (a0l : Addr) (ob0 : Addr) (h0 : Heap) (n0 : Nat) (O0 : Old Z n0 h0) (GL : GF Z cS aDE kDE aUS aSS aIE mO) (E_a0l : Exa Z h0 a0l "java/util/ImmutableCollections$List12") (F_e0_a0l : Fld Z h0 a0l "java/util/ImmutableCollections$List12" "e0" "Ljava/lang/Object;" (.ref ob0)) :
    MF l MN_64 jdk_44_method_5_code 2 (some (.object "java/lang/Object")) ws (Rm 0 0 0 0) #[(.ref a0l), (.int 0)] Z h0 (Q_rmG12 n0 Z cS aDE kDE aUS aSS aIE mO a0l ob0 h0) := by
  refine MetFree.of_bodySF (plainFor_of_name pnv15) hisR ?_
  intro p e s m args below meth c s₁ Bd hml0 hP hK
  obtain ⟨rfl, hZ, hh⟩ := hP
  have hx := Bd.exec
  have hby := Bd.bytes
  have hml : c.maxLocals = 2 := hml0
  have hown : s.vm.findClass "java/util/ImmutableCollections$List12" = some m.cls := findClass_of_methodNamed Bd.named
  have hnm := (name_of_methodNamed Bd.named Bd.method).1
  have X0 : Stand p l e (Rm 0 0 0 0) s m #[(.ref a0l), (.int 0)] below meth c s₁ [] 0 0 := Stand.of_body Bd
  have e0 : s₁.heap = h0 := by rw [← hh, Bd.state]; rfl
  have N0 := Fr.nil n0
  have pre0 : ∀ t, SP p e below s₁ m 0 #[vr a0l, vi (0 : Int32)] [] t → Steps p.tables e below (s₁.setTop (entryFrame m #[(.ref a0l), (.int 0)] 2)) t := fun t k => castTop (ef_rmEd m a0l) k
  have GL' := GL
  obtain ⟨GCS, GCP, GDE, GVE, GUS, GSS, GIE, GMO⟩ := GL'
  obtain ⟨T1, X1, e1, st1⟩ := getF X0 hx hZ hown (host := "") (Or.inl (Wd hw 378 rfl)) Via.refl e0 F_e0_a0l (g := mkF m 5 #[vr a0l, vi (0 : Int32)] [(.ref a0l)]) rfl rfl (dG hby D62 3 rfl)
  obtain ⟨fs, hr, hrun, hended, hW, hsame⟩ := X1.leave (v := some (.ref ob0)) (fun h => by rw [Bd.returns] at h; cases h)
  refine ⟨_, _, pre0 _ ?_, hrun, hended, _, _, rfl, ?_, ⟨_, rfl⟩, hW, hsame.mono (by decide) (by decide)⟩
  · show SP p e below s₁ m 0 #[vr a0l, vi (0 : Int32)] [] _
    refine XS.iloadN X0.here hx rfl (dG hby D62 0 rfl) rfl ?_
    refine XS.ifNo X0.here hx rfl (dG hby D62 1 rfl) rfl ((if0 _ _).trans (teq (by decide : (0 : Int32) = (0 : Int32))).2) ?_
    refine XS.aloadN X0.here hx rfl (dG hby D62 2 rfl) rfl rfl ?_
    show SP p e below s₁ m 5 #[vr a0l, vi (0 : Int32)] [(.ref a0l)] _
    refine st1 _ ?_
    show SP p e below T1 m 8 #[vr a0l, vi (0 : Int32)] [(.ref ob0)] _
    exact retA X1 hx Bd.returns rfl (dG hby D62 4 rfl) hr
  · show Q_rmG12 n0 Z cS aDE kDE aUS aSS aIE mO a0l ob0 h0 _ T1.heap _
    rw [e1]
    exact ⟨rfl, N0, rfl⟩
theorem D67 : dL jdk_45_method_4_code [(0, .aload_n 0, 1), (1, .getfield 7, 3), (4, .iload_n 1, 1), (5, .aaload, 1), (6, .areturn, 1)] = true := by decide +kernel
abbrev MN_65 : MethodName := ⟨"java/util/ImmutableCollections$ListN", "get", "(I)Ljava/lang/Object;"⟩
def Q_rmGn (n0 : Nat) (Z : State) (cS : Int32) (aDE : Addr) (kDE : ClassId) (aUS : Addr) (aSS : Addr) (aIE : Addr) (mO : Addr) (a0l : Addr) (d : Addr) (kd : ClassId) (ob0 : Addr) (ob1 : Addr) (ob2 : Addr) (h0 : Heap) (v : Option Value) (h : Heap) (L : List Loc) : Prop := v = some (.ref ob0) ∧ Fr n0 L ∧ h = h0
theorem rmGn (l : Launch) (Z : State) (a0 : Array Value) (hw : ∀ d ∈ tables_1, d.before a0 Z = true) (ws : List Jvm.Cond) (cS : Int32) (aDE : Addr) (kDE : ClassId) (aUS : Addr) (aSS : Addr) (aIE : Addr) (mO : Addr) (a0l : Addr) (d : Addr) (kd : ClassId) (ob0 : Addr) (ob1 : Addr) (ob2 : Addr) (h0 : Heap) (n0 : Nat) (O0 : Old Z n0 h0) (GL : GF Z cS aDE kDE aUS aSS aIE mO) (E_a0l : Exa Z h0 a0l "java/util/ImmutableCollections$ListN") (F_elements_a0l : Fld Z h0 a0l "java/util/ImmutableCollections$ListN" "elements" "[Ljava/lang/Object;" (.ref d)) (V_d : Arv Z h0 d kd (.object "java/lang/Object") (3 : Int32) [(.ref ob0), (.ref ob1), (.ref ob2)] .null) :
    MF l MN_65 jdk_45_method_4_code 2 (some (.object "java/lang/Object")) ws (Rm 0 0 0 0) #[(.ref a0l), (.int 0)] Z h0 (Q_rmGn n0 Z cS aDE kDE aUS aSS aIE mO a0l d kd ob0 ob1 ob2 h0) := by
  refine MetFree.of_bodySF (plainFor_of_name pnv16) hisR ?_
  intro p e s m args below meth c s₁ Bd hml0 hP hK
  obtain ⟨rfl, hZ, hh⟩ := hP
  have hx := Bd.exec
  have hby := Bd.bytes
  have hml : c.maxLocals = 2 := hml0
  have hown : s.vm.findClass "java/util/ImmutableCollections$ListN" = some m.cls := findClass_of_methodNamed Bd.named
  have hnm := (name_of_methodNamed Bd.named Bd.method).1
  have X0 : Stand p l e (Rm 0 0 0 0) s m #[(.ref a0l), (.int 0)] below meth c s₁ [] 0 0 := Stand.of_body Bd
  have e0 : s₁.heap = h0 := by rw [← hh, Bd.state]; rfl
  have N0 := Fr.nil n0
  have pre0 : ∀ t, SP p e below s₁ m 0 #[vr a0l, vi (0 : Int32)] [] t → Steps p.tables e below (s₁.setTop (entryFrame m #[(.ref a0l), (.int 0)] 2)) t := fun t k => castTop (ef_rmEd m a0l) k
  have GL' := GL
  obtain ⟨GCS, GCP, GDE, GVE, GUS, GSS, GIE, GMO⟩ := GL'
  obtain ⟨T1, X1, e1, st1⟩ := getF X0 hx hZ hown (host := "") (Or.inl (Wd hw 420 rfl)) Via.refl e0 F_elements_a0l (g := mkF m 1 #[vr a0l, vi (0 : Int32)] [(.ref a0l)]) rfl rfl (dG hby D67 1 rfl)
  obtain ⟨cl2, Ar2, -, S2, N2_, H2, G2⟩ := id (V_d)
  have hin2 : ¬ ((0 : Int32) < 0 ∨ cl2.slots.size ≤ ((0 : Int32)).toNatClampNeg) := inb_of S2 ⟨(by decide), (by decide)⟩
  have hat2 : cl2.slots[((0 : Int32)).toNatClampNeg]? = some (.ref ob0) := H2.at hin2 rfl
  obtain ⟨fs, hr, hrun, hended, hW, hsame⟩ := X1.leave (v := some (.ref ob0)) (fun h => by rw [Bd.returns] at h; cases h)
  refine ⟨_, _, pre0 _ ?_, hrun, hended, _, _, rfl, ?_, ⟨_, rfl⟩, hW, hsame.mono (by decide) (by decide)⟩
  · show SP p e below s₁ m 0 #[vr a0l, vi (0 : Int32)] [] _
    refine XS.aloadN X0.here hx rfl (dG hby D67 0 rfl) rfl rfl ?_
    show SP p e below s₁ m 1 #[vr a0l, vi (0 : Int32)] [(.ref a0l)] _
    refine st1 _ ?_
    show SP p e below T1 m 4 #[vr a0l, vi (0 : Int32)] [(.ref d)] _
    refine XS.iloadN X1.here hx rfl (dG hby D67 2 rfl) rfl ?_
    show SP p e below T1 m 5 #[vr a0l, vi (0 : Int32)] [(.int 0), (.ref d)] _
    refine X1.aaload hx (j := (0 : Int32)) (v := (.ref ob0)) (by rw [e1]; exact Ar2.1) (State.isArrayOf_alike hZ.alike Ar2.2.1) rfl Ar2.2.2 hin2 hat2 (g := mkF m 5 #[vr a0l, vi (0 : Int32)] [(.int 0), (.ref d)]) rfl rfl (dG hby D67 3 rfl) _ ?_
    show SP p e below T1 m 6 #[vr a0l, vi (0 : Int32)] [(.ref ob0)] _
    exact retA X1 hx Bd.returns rfl (dG hby D67 4 rfl) hr
  · show Q_rmGn n0 Z cS aDE kDE aUS aSS aIE mO a0l d kd ob0 ob1 ob2 h0 _ T1.heap _
    rw [e1]
    exact ⟨rfl, N0, rfl⟩
theorem D61 : dL prog_16_method_4_code [(0, .aload_n 0, 1), (1, .getfield 35, 3), (4, .iconst 0, 1), (5, .invokeinterface 48 2, 5), (10, .checkcast 1, 3), (13, .invokevirtual 52, 3), (16, .areturn, 1)] = true := by decide +kernel
abbrev MN_66 : MethodName := ⟨"com/example/grantline/grantline/PolicyException", "pointer", "()Ljava/lang/String;"⟩
theorem ef_rmP12 (m : MethodId) (a0x : Addr) : entryFrame m #[(.ref a0x)] 1 = mkF m 0 #[vr a0x] [] := by first | (simp [entryFrame, mkF, argsToLocals, Value.category]; done) | rfl
def Q_rmP12 (n0 : Nat) (Z : State) (cS : Int32) (aDE : Addr) (kDE : ClassId) (aUS : Addr) (aSS : Addr) (aIE : Addr) (mO : Addr) (a0x : Addr) (b : Addr) (ob0 : Addr) (gv : Addr) (h0 : Heap) (v : Option Value) (h : Heap) (L : List Loc) : Prop := v = some (.ref gv) ∧ Fr n0 L ∧ h = h0
theorem rmP12 (l : Launch) (Z : State) (a0 : Array Value) (hw : ∀ d ∈ tables_1, d.before a0 Z = true) (ws : List Jvm.Cond) (cS : Int32) (aDE : Addr) (kDE : ClassId) (aUS : Addr) (aSS : Addr) (aIE : Addr) (mO : Addr) (a0x : Addr) (b : Addr) (ob0 : Addr) (gv : Addr) (h0 : Heap) (n0 : Nat) (O0 : Old Z n0 h0) (GL : GF Z cS aDE kDE aUS aSS aIE mO) (E_b : Exa Z h0 b "java/util/ImmutableCollections$List12") (F_e0_b : Fld Z h0 b "java/util/ImmutableCollections$List12" "e0" "Ljava/lang/Object;" (.ref ob0)) (F_problems_a0x : Fld Z h0 a0x "com/example/grantline/grantline/PolicyException" "problems" "Ljava/util/List;" (.ref b)) (E_ob0 : Exa Z h0 ob0 "com/example/grantline/grantline/PolicyException$Problem") (F_pointer_ob0 : Fld Z h0 ob0 "com/example/grantline/grantline/PolicyException$Problem" "pointer" "Ljava/lang/String;" (.ref gv)) :
    MF l MN_66 prog_16_method_4_code 1 (some (.object "java/lang/String")) ws (Rm 1 0 0 13) #[(.ref a0x)] Z h0 (Q_rmP12 n0 Z cS aDE kDE aUS aSS aIE mO a0x b ob0 gv h0) := by
  refine MetFree.of_bodySF (plainFor_of_name pnv12) hisR ?_
  intro p e s m args below meth c s₁ Bd hml0 hP hK
  obtain ⟨rfl, hZ, hh⟩ := hP
  have hx := Bd.exec
  have hby := Bd.bytes
  have hml : c.maxLocals = 1 := hml0
  have hown : s.vm.findClass "com/example/grantline/grantline/PolicyException" = some m.cls := findClass_of_methodNamed Bd.named
  have hnm := (name_of_methodNamed Bd.named Bd.method).1
  have X0 : Stand p l e (Rm 1 0 0 13) s m #[(.ref a0x)] below meth c s₁ [] 0 0 := Stand.of_body Bd
  have e0 : s₁.heap = h0 := by rw [← hh, Bd.state]; rfl
  have N0 := Fr.nil n0
  have pre0 : ∀ t, SP p e below s₁ m 0 #[vr a0x] [] t → Steps p.tables e below (s₁.setTop (entryFrame m #[(.ref a0x)] 1)) t := fun t k => castTop (ef_rmP12 m a0x) k
  have GL' := GL
  obtain ⟨GCS, GCP, GDE, GVE, GUS, GSS, GIE, GMO⟩ := GL'
  obtain ⟨T1, X1, e1, st1⟩ := getF X0 hx hZ hown (host := "") (Or.inl (Wd hw 382 rfl)) Via.refl e0 F_problems_a0x (g := mkF m 1 #[vr a0x] [(.ref a0x)]) rfl rfl (dG hby D61 1 rfl)
  obtain ⟨cq2, kq2, q2a, q2b, q2c⟩ := isOf hZ e1 E_b
  obtain ⟨_, _, ⟨T2, L2, k2, n2⟩, -, X2, ⟨Lc2, hQ2, l2, y2, z2⟩, st2⟩ := X1.interfaceBack hx (xi := MN_44) (y := MN_64) hown (mvT hZ (Wd hw 123 rfl)) (mvT hZ (Wd hw 124 rfl)) (mvT hZ (Wd hw 125 rfl)) (mvT hZ (Wd hw 389 rfl)) (mvT hZ (Wd hw 390 rfl)) (mvT hZ (Wd hw 391 rfl)) (mvT hZ (Wd hw 392 rfl)) (mvT hZ (Wd hw 393 rfl)) (by decide) (backOf (W := 0) (rmG12 l Z a0 hw [] cS aDE kDE aUS aSS aIE mO b ob0 h0 n0 O0 GL E_b F_e0_b) hZ (Wd hw 394 rfl) (Wd hw 356 rfl) (by decide) (by decide)) q2a q2b q2c (g := mkF m 5 #[vr a0x] [(.int 0), (.ref b)]) rfl (by rw [hml]; rfl) (Steps.refl _) (argsL := [(.int 0)]) (rest := []) (lenOf pdv25 rfl) rfl (by show 2 * 0 + _ ≤ _; exact lEq rfl) (dG hby D61 3 rfl) (fun _ _ => ⟨rfl, e1, (by decide : 0 + 0 ≤ _), (by decide : 0 + 0 ≤ _)⟩)
  dsimp only [Pt.U, Pt.locs, Pt.cells, Pt.slots] at X2 l2 y2 z2 st2 hQ2
  subst l2 y2 z2
  obtain ⟨rfl, N2q, e2⟩ := hQ2
  have N2 := Fr.app N0 N2q
  obtain ⟨T3, X3, e3, st3⟩ := castY X2 hx hZ hown (Wd hw 144 rfl) e2 (Ins.self E_ob0) (g := mkF m 10 #[vr a0x] [(.ref ob0)]) rfl rfl (dG hby D61 4 rfl)
  obtain ⟨cq4, kq4, q4a, q4b, q4c⟩ := isOf hZ e3 E_ob0
  obtain ⟨_, _, ⟨T4, L4, k4, n4⟩, -, X4, ⟨Lc4, hQ4, l4, y4, z4⟩, st4⟩ := X3.virtualBack hx (y := MN_29) (z := MN_29) hown (mvT hZ (Wd hw 395 rfl)) (mvT hZ (Wd hw 396 rfl)) (notFace_of_selects (args := #[]) (mvT hZ (Wd hw 398 rfl))) (mvT hZ (Wd hw 398 rfl)) (mvT hZ (Wd hw 397 rfl)) (by decide) (backOf (W := 0) (rmGp l Z a0 hw [] cS aDE kDE aUS aSS aIE mO ob0 gv h0 n0 O0 GL F_pointer_ob0) hZ (Wd hw 399 rfl) (Wd hw 60 rfl) (by decide) (by decide)) q4a q4c (g := mkF m 13 #[vr a0x] [(.ref ob0)]) rfl (by rw [hml]; rfl) (Steps.refl _) (argsL := []) (rest := []) (lenOf pdv20 rfl) rfl (by show 2 * 0 + _ ≤ _; exact lEq rfl) (dG hby D61 5 rfl) (fun _ _ => ⟨rfl, e3, (by decide : 0 + 0 ≤ _), (by decide : 0 + 0 ≤ _)⟩)
  dsimp only [Pt.U, Pt.locs, Pt.cells, Pt.slots] at X4 l4 y4 z4 st4 hQ4
  subst l4 y4 z4
  obtain ⟨rfl, N4q, e4⟩ := hQ4
  have N4 := Fr.app N2 N4q
  obtain ⟨fs, hr, hrun, hended, hW, hsame⟩ := X4.leave (v := some (.ref gv)) (fun h => by rw [Bd.returns] at h; cases h)
  refine ⟨_, _, pre0 _ ?_, hrun, hended, _, _, rfl, ?_, ⟨_, rfl⟩, hW, hsame.mono (by decide) (by decide)⟩
  · show SP p e below s₁ m 0 #[vr a0x] [] _
    refine XS.aloadN X0.here hx rfl (dG hby D61 0 rfl) rfl rfl ?_
    show SP p e below s₁ m 1 #[vr a0x] [(.ref a0x)] _
    refine st1 _ ?_
    show SP p e below T1 m 4 #[vr a0x] [(.ref b)] _
    refine XS.iconst X1.here hx rfl (dG hby D61 2 rfl) ?_
    show SP p e below T1 m 5 #[vr a0x] [(.int 0), (.ref b)] _
    refine st2.trans ?_
    show SP p e below T2 m 10 #[vr a0x] [(.ref ob0)] _
    refine st3 _ ?_
    show SP p e below T3 m 13 #[vr a0x] [(.ref ob0)] _
    refine st4.trans ?_
    show SP p e below T4 m 16 #[vr a0x] [(.ref gv)] _
    exact retA X4 hx Bd.returns rfl (dG hby D61 6 rfl) hr
  · show Q_rmP12 n0 Z cS aDE kDE aUS aSS aIE mO a0x b ob0 gv h0 _ T4.heap _
    rw [e4]
    exact ⟨rfl, N4, rfl⟩
def Q_rmPn (n0 : Nat) (Z : State) (cS : Int32) (aDE : Addr) (kDE : ClassId) (aUS : Addr) (aSS : Addr) (aIE : Addr) (mO : Addr) (a0x : Addr) (b : Addr) (d : Addr) (kd : ClassId) (ob0 : Addr) (ob1 : Addr) (ob2 : Addr) (gv : Addr) (h0 : Heap) (v : Option Value) (h : Heap) (L : List Loc) : Prop := v = some (.ref gv) ∧ Fr n0 L ∧ h = h0
theorem rmPn (l : Launch) (Z : State) (a0 : Array Value) (hw : ∀ d ∈ tables_1, d.before a0 Z = true) (ws : List Jvm.Cond) (cS : Int32) (aDE : Addr) (kDE : ClassId) (aUS : Addr) (aSS : Addr) (aIE : Addr) (mO : Addr) (a0x : Addr) (b : Addr) (d : Addr) (kd : ClassId) (ob0 : Addr) (ob1 : Addr) (ob2 : Addr) (gv : Addr) (h0 : Heap) (n0 : Nat) (O0 : Old Z n0 h0) (GL : GF Z cS aDE kDE aUS aSS aIE mO) (E_b : Exa Z h0 b "java/util/ImmutableCollections$ListN") (F_elements_b : Fld Z h0 b "java/util/ImmutableCollections$ListN" "elements" "[Ljava/lang/Object;" (.ref d)) (V_d : Arv Z h0 d kd (.object "java/lang/Object") (3 : Int32) [(.ref ob0), (.ref ob1), (.ref ob2)] .null) (F_problems_a0x : Fld Z h0 a0x "com/example/grantline/grantline/PolicyException" "problems" "Ljava/util/List;" (.ref b)) (E_ob0 : Exa Z h0 ob0 "com/example/grantline/grantline/PolicyException$Problem") (F_pointer_ob0 : Fld Z h0 ob0 "com/example/grantline/grantline/PolicyException$Problem" "pointer" "Ljava/lang/String;" (.ref gv)) :
    MF l MN_66 prog_16_method_4_code 1 (some (.object "java/lang/String")) ws (Rm 1 0 0 13) #[(.ref a0x)] Z h0 (Q_rmPn n0 Z cS aDE kDE aUS aSS aIE mO a0x b d kd ob0 ob1 ob2 gv h0) := by
  refine MetFree.of_bodySF (plainFor_of_name pnv12) hisR ?_
  intro p e s m args below meth c s₁ Bd hml0 hP hK
  obtain ⟨rfl, hZ, hh⟩ := hP
  have hx := Bd.exec
  have hby := Bd.bytes
  have hml : c.maxLocals = 1 := hml0
  have hown : s.vm.findClass "com/example/grantline/grantline/PolicyException" = some m.cls := findClass_of_methodNamed Bd.named
  have hnm := (name_of_methodNamed Bd.named Bd.method).1
  have X0 : Stand p l e (Rm 1 0 0 13) s m #[(.ref a0x)] below meth c s₁ [] 0 0 := Stand.of_body Bd
  have e0 : s₁.heap = h0 := by rw [← hh, Bd.state]; rfl
  have N0 := Fr.nil n0
  have pre0 : ∀ t, SP p e below s₁ m 0 #[vr a0x] [] t → Steps p.tables e below (s₁.setTop (entryFrame m #[(.ref a0x)] 1)) t := fun t k => castTop (ef_rmP12 m a0x) k
  have GL' := GL
  obtain ⟨GCS, GCP, GDE, GVE, GUS, GSS, GIE, GMO⟩ := GL'
  obtain ⟨T1, X1, e1, st1⟩ := getF X0 hx hZ hown (host := "") (Or.inl (Wd hw 382 rfl)) Via.refl e0 F_problems_a0x (g := mkF m 1 #[vr a0x] [(.ref a0x)]) rfl rfl (dG hby D61 1 rfl)
  obtain ⟨cq2, kq2, q2a, q2b, q2c⟩ := isOf hZ e1 E_b
  obtain ⟨_, _, ⟨T2, L2, k2, n2⟩, -, X2, ⟨Lc2, hQ2, l2, y2, z2⟩, st2⟩ := X1.interfaceBack hx (xi := MN_44) (y := MN_65) hown (mvT hZ (Wd hw 123 rfl)) (mvT hZ (Wd hw 124 rfl)) (mvT hZ (Wd hw 125 rfl)) (mvT hZ (Wd hw 424 rfl)) (mvT hZ (Wd hw 425 rfl)) (mvT hZ (Wd hw 426 rfl)) (mvT hZ (Wd hw 427 rfl)) (mvT hZ (Wd hw 428 rfl)) (by decide) (backOf (W := 0) (rmGn l Z a0 hw [] cS aDE kDE aUS aSS aIE mO b d kd ob0 ob1 ob2 h0 n0 O0 GL E_b F_elements_b V_d) hZ (Wd hw 429 rfl) (Wd hw 411 rfl) (by decide) (by decide)) q2a q2b q2c (g := mkF m 5 #[vr a0x] [(.int 0), (.ref b)]) rfl (by rw [hml]; rfl) (Steps.refl _) (argsL := [(.int 0)]) (rest := []) (lenOf pdv25 rfl) rfl (by show 2 * 0 + _ ≤ _; exact lEq rfl) (dG hby D61 3 rfl) (fun _ _ => ⟨rfl, e1, (by decide : 0 + 0 ≤ _), (by decide : 0 + 0 ≤ _)⟩)
  dsimp only [Pt.U, Pt.locs, Pt.cells, Pt.slots] at X2 l2 y2 z2 st2 hQ2
  subst l2 y2 z2
  obtain ⟨rfl, N2q, e2⟩ := hQ2
  have N2 := Fr.app N0 N2q
  obtain ⟨T3, X3, e3, st3⟩ := castY X2 hx hZ hown (Wd hw 144 rfl) e2 (Ins.self E_ob0) (g := mkF m 10 #[vr a0x] [(.ref ob0)]) rfl rfl (dG hby D61 4 rfl)
  obtain ⟨cq4, kq4, q4a, q4b, q4c⟩ := isOf hZ e3 E_ob0
  obtain ⟨_, _, ⟨T4, L4, k4, n4⟩, -, X4, ⟨Lc4, hQ4, l4, y4, z4⟩, st4⟩ := X3.virtualBack hx (y := MN_29) (z := MN_29) hown (mvT hZ (Wd hw 395 rfl)) (mvT hZ (Wd hw 396 rfl)) (notFace_of_selects (args := #[]) (mvT hZ (Wd hw 398 rfl))) (mvT hZ (Wd hw 398 rfl)) (mvT hZ (Wd hw 397 rfl)) (by decide) (backOf (W := 0) (rmGp l Z a0 hw [] cS aDE kDE aUS aSS aIE mO ob0 gv h0 n0 O0 GL F_pointer_ob0) hZ (Wd hw 399 rfl) (Wd hw 60 rfl) (by decide) (by decide)) q4a q4c (g := mkF m 13 #[vr a0x] [(.ref ob0)]) rfl (by rw [hml]; rfl) (Steps.refl _) (argsL := []) (rest := []) (lenOf pdv20 rfl) rfl (by show 2 * 0 + _ ≤ _; exact lEq rfl) (dG hby D61 5 rfl) (fun _ _ => ⟨rfl, e3, (by decide : 0 + 0 ≤ _), (by decide : 0 + 0 ≤ _)⟩)
  dsimp only [Pt.U, Pt.locs, Pt.cells, Pt.slots] at X4 l4 y4 z4 st4 hQ4
  subst l4 y4 z4
  obtain ⟨rfl, N4q, e4⟩ := hQ4
  have N4 := Fr.app N2 N4q
  obtain ⟨fs, hr, hrun, hended, hW, hsame⟩ := X4.leave (v := some (.ref gv)) (fun h => by rw [Bd.returns] at h; cases h)
  refine ⟨_, _, pre0 _ ?_, hrun, hended, _, _, rfl, ?_, ⟨_, rfl⟩, hW, hsame.mono (by decide) (by decide)⟩
  · show SP p e below s₁ m 0 #[vr a0x] [] _
    refine XS.aloadN X0.here hx rfl (dG hby D61 0 rfl) rfl rfl ?_
    show SP p e below s₁ m 1 #[vr a0x] [(.ref a0x)] _
    refine st1 _ ?_
    show SP p e below T1 m 4 #[vr a0x] [(.ref b)] _
    refine XS.iconst X1.here hx rfl (dG hby D61 2 rfl) ?_
    show SP p e below T1 m 5 #[vr a0x] [(.int 0), (.ref b)] _
    refine st2.trans ?_
    show SP p e below T2 m 10 #[vr a0x] [(.ref ob0)] _
    refine st3 _ ?_
    show SP p e below T3 m 13 #[vr a0x] [(.ref ob0)] _
    refine st4.trans ?_
    show SP p e below T4 m 16 #[vr a0x] [(.ref gv)] _
    exact retA X4 hx Bd.returns rfl (dG hby D61 6 rfl) hr
  · show Q_rmPn n0 Z cS aDE kDE aUS aSS aIE mO a0x b d kd ob0 ob1 ob2 gv h0 _ T4.heap _
    rw [e4]
    exact ⟨rfl, N4, rfl⟩
theorem D64 : dL jdk_42_method_66_code [(0, .aload_n 0, 1), (1, .aload_n 1, 1), (2, .if_acmp .ne 5, 3), (5, .iconst 1, 1), (6, .ireturn, 1)] = true := by decide +kernel
abbrev MN_67 : MethodName := ⟨"java/lang/String", "equals", "(Ljava/lang/Object;)Z"⟩
theorem ef_rmEq (m : MethodId) (a0e : Addr) (a0e : Addr) : entryFrame m #[(.ref a0e), (.ref a0e)] 3 = mkF m 0 #[vr a0e, vr a0e, .unset] [] := by first | (simp [entryFrame, mkF, argsToLocals, Value.category]; done) | rfl
def Q_rmEq (n0 : Nat) (Z : State) (cS : Int32) (aDE : Addr) (kDE : ClassId) (aUS : Addr) (aSS : Addr) (aIE : Addr) (mO : Addr) (a0e : Addr) (h0 : Heap) (v : Option Value) (h : Heap) (L : List Loc) : Prop := v = some (.int 1) ∧ Fr n0 L ∧ h = h0
theorem rmEq (l : Launch) (Z : State) (a0 : Array Value) (hw : ∀ d ∈ tables_1, d.before a0 Z = true) (ws : List Jvm.Cond) (cS : Int32) (aDE : Addr) (kDE : ClassId) (aUS : Addr) (aSS : Addr) (aIE : Addr) (mO : Addr) (a0e : Addr) (h0 : Heap) (n0 : Nat) (O0 : Old Z n0 h0) (GL : GF Z cS aDE kDE aUS aSS aIE mO) :
    MF l MN_67 jdk_42_method_66_code 3 (some .boolean) ws (Rm 0 0 0 0) #[(.ref a0e), (.ref a0e)] Z h0 (Q_rmEq n0 Z cS aDE kDE aUS aSS aIE mO a0e h0) := by
  refine MetFree.of_bodySF (plainFor_of_name pnv1) hisR ?_
  intro p e s m args below meth c s₁ Bd hml0 hP hK
  obtain ⟨rfl, hZ, hh⟩ := hP
  have hx := Bd.exec
  have hby := Bd.bytes
  have hml : c.maxLocals = 3 := hml0
  have hown : s.vm.findClass "java/lang/String" = some m.cls := findClass_of_methodNamed Bd.named
  have hnm := (name_of_methodNamed Bd.named Bd.method).1
  have X0 : Stand p l e (Rm 0 0 0 0) s m #[(.ref a0e), (.ref a0e)] below meth c s₁ [] 0 0 := Stand.of_body Bd
  have e0 : s₁.heap = h0 := by rw [← hh, Bd.state]; rfl
  have N0 := Fr.nil n0
  have pre0 : ∀ t, SP p e below s₁ m 0 #[vr a0e, vr a0e, .unset] [] t → Steps p.tables e below (s₁.setTop (entryFrame m #[(.ref a0e), (.ref a0e)] 3)) t := fun t k => castTop (ef_rmEq m a0e a0e) k
  have GL' := GL
  obtain ⟨GCS, GCP, GDE, GVE, GUS, GSS, GIE, GMO⟩ := GL'
  obtain ⟨fs, hr, hrun, hended, hW, hsame⟩ := X0.leave (v := some (.int 1)) (fun h => by rw [Bd.returns] at h; cases h)
  refine ⟨_, _, pre0 _ ?_, hrun, hended, _, _, rfl, ?_, ⟨_, rfl⟩, hW, hsame.mono (by decide) (by decide)⟩
  · show SP p e below s₁ m 0 #[vr a0e, vr a0e, .unset] [] _
    refine XS.aloadN X0.here hx rfl (dG hby D64 0 rfl) rfl rfl ?_
    refine XS.aloadN X0.here hx rfl (dG hby D64 1 rfl) rfl rfl ?_
    show SP p e below s₁ m 2 #[vr a0e, vr a0e, .unset] [(.ref a0e), (.ref a0e)] _
    refine Jvm.RoadKit.acmp (g := mkF m 2 #[vr a0e, vr a0e, .unset] [(.ref a0e), (.ref a0e)]) X0 hx rfl rfl rfl (pc0 := 2) (pc' := 5) (same := true) rfl (dG hby D64 2 rfl) rfl (decide_eq_true rfl) (by decide) (by decide) ?_
    show SP p e below s₁ m 5 #[vr a0e, vr a0e, .unset] [] _
    refine XS.iconst X0.here hx rfl (dG hby D64 3 rfl) ?_
    show SP p e below s₁ m 6 #[vr a0e, vr a0e, .unset] [(.int 1)] _
    exact retN X0 hx (t := .boolean) Bd.returns (by simp) (dG hby D64 4 rfl) hr
  · show Q_rmEq n0 Z cS aDE kDE aUS aSS aIE mO a0e h0 _ s₁.heap _
    rw [e0]
    exact ⟨rfl, N0, rfl⟩
theorem D1 : dL method_2_code [(0, .iconst 2, 1), (1, .newarray .char, 2), (3, .astore_n 1, 1), (4, .aload_n 1, 1), (5, .iconst 0, 1), (6, .iload_n 0, 1), (7, .sipush 255, 3), (10, .iand, 1), (11, .i2c, 1), (12, .castore, 1), (13, .aload_n 1, 1), (14, .iconst 1, 1), (15, .iload_n 0, 1), (16, .bipush 8, 2), (18, .iushr, 1), (19, .sipush 255, 3), (22, .iand, 1), (23, .i2c, 1), (24, .castore, 1), (25, .new 7, 3), (28, .dup, 1), (29, .aload_n 1, 1), (30, .invokespecial 9, 3), (33, .areturn, 1)] = true := by decide +kernel
theorem pdv35 : parseMethodDescriptor "([C)V" = some ⟨[(.array .char)], none⟩ := by decide +kernel
theorem pnv21 : plainName "com/example/grantline/grantline/PolicyExceptionPointerPinLaw" = true := by first | (simp [plainName, overriddenIn]; done) | decide +kernel
abbrev MN_68 : MethodName := ⟨"com/example/grantline/grantline/PolicyExceptionPointerPinLaw", "str", "(I)Ljava/lang/String;"⟩
theorem ef_rmStr (m : MethodId) (p0 : Int32) : entryFrame m #[(.int p0)] 2 = mkF m 0 #[vi p0, .unset] [] := by first | (simp [entryFrame, mkF, argsToLocals, Value.category]; done) | rfl
def Q_rmStr (n0 : Nat) (Z : State) (cS : Int32) (aDE : Addr) (kDE : ClassId) (aUS : Addr) (aSS : Addr) (aIE : Addr) (mO : Addr) (p0 : Int32) (h0 : Heap) (v : Option Value) (h : Heap) (L : List Loc) : Prop := ∃ bS : Addr, ∃ vS : Addr, ∃ kS : ClassId, ∃ nS : Int32, ∃ lS : List Value, v = some (.ref bS) ∧ Fr n0 L ∧ Keep h0 h [] ∧ (Exa Z h bS "java/lang/String") ∧ (Fld Z h bS "java/lang/String" "value" "[B" (.ref vS)) ∧ (Fld Z h bS "java/lang/String" "coder" "B" (.int 0)) ∧ (Arv Z h vS kS .byte nS lS (.int 0)) ∧ (¬ (nS < (0 : Int32))) ∧ (¬ ((2 : Int32) < nS))
theorem rmStr (l : Launch) (Z : State) (a0 : Array Value) (hw : ∀ d ∈ tables_1, d.before a0 Z = true) (ws : List Jvm.Cond) (cS : Int32) (aDE : Addr) (kDE : ClassId) (aUS : Addr) (aSS : Addr) (aIE : Addr) (mO : Addr) (p0 : Int32) (h0 : Heap) (n0 : Nat) (O0 : Old Z n0 h0) (GL : GF Z cS aDE kDE aUS aSS aIE mO) :
    MetFree l MN_68 (head1 (Jvm.Cond.code MN_68 method_2_code 2 (some (.object "java/lang/String")) :: ws) (Rm 4 3 8 66)) (fun a U => a = #[(.int p0)] ∧ Z.Warmed39 U.vm ∧ U.heap = h0 ∧ CHv Z EL1 U.vm h0) (fun _ _ _ _ _ => True) (fun _ U o U' => ∃ v L, o = .returned v ∧ Q_rmStr n0 Z cS aDE kDE aUS aSS aIE mO p0 h0 v U'.heap L ∧ CHr Z EL1 U.vm U.heap U'.vm U'.heap ∧ ReturnedEndW U o U' L (Rm 4 3 8 66).cells (Rm 4 3 8 66).slots) := by
  refine MetFree.of_bodySF (plainFor_of_name pnv21) hisR ?_
  intro p e s m args below meth c s₁ Bd hml0 hP hK
  obtain ⟨rfl, hZ, hh, H0⟩ := hP
  have hx := Bd.exec
  have hby := Bd.bytes
  have hml : c.maxLocals = 2 := hml0
  have hown : s.vm.findClass "com/example/grantline/grantline/PolicyExceptionPointerPinLaw" = some m.cls := findClass_of_methodNamed Bd.named
  have hnm := (name_of_methodNamed Bd.named Bd.method).1
  have X0 : Stand p l e (Rm 4 3 8 66) s m #[(.int p0)] below meth c s₁ [] 0 0 := Stand.of_body Bd
  have e0 : s₁.heap = h0 := by rw [← hh, Bd.state]; rfl
  have N0 := Fr.nil n0
  have pre0 : ∀ t, SP p e below s₁ m 0 #[vi p0, .unset] [] t → Steps p.tables e below (s₁.setTop (entryFrame m #[(.int p0)] 2)) t := fun t k => castTop (ef_rmStr m p0) k
  have X0w : Stand p l e (Rm 4 3 8 66) (s.setVm s.vm) m #[(.int p0)] below meth c s₁ [] 0 0 := X0
  have R0 : CHr Z EL1 s.vm h0 s.vm h0 := CHr.refl H0
  have hS0 : s.Since s.vm h0.size := (State.WarmedH.refl s).since _
  have GL' := GL
  obtain ⟨GCS, GCP, GDE, GVE, GUS, GSS, GIE, GMO⟩ := GL'
  obtain ⟨T1, h1, k1, X1, e1, E1, A1, A1', st1⟩ := newPE X0w hx hZ (Wd hw 4 rfl) e0 (g := mkF m 1 #[vi p0, .unset] [(.int 2)]) rfl (dG hby D1 1 rfl) rfl (by decide) (cap := 2) (by decide) (by decide) (by decide) (by decide) (ad := "[C") rfl
  obtain ⟨b1, g1⟩ : ∃ z, z = h0.size := ⟨_, rfl⟩
  rw [← g1] at A1 A1' st1
  have g_b1 : n0 ≤ b1 := lTr (own_sz O0) (lEq g1.symm)
  have sz_b1 : h0.size ≤ b1 := lTr (Keep.refl h0 []).1 (lEq g1.symm)
  have H_2 := H0.ext E1
  have R_2 := R0.trans (CHr.ext E1 H0)
  have K1 : Keep h0 h1 [] := (Keep.refl h0 []).ext E1
  have O1 := O0.ext E1
  have V_b1 : Arv Z h1 b1 k1 .char (2 : Int32) [(.int 0), (.int 0)] (.int 0) := (Arv.new A1 (by decide)).pad (pad_rep [] (.int 0) 2)
  obtain ⟨cl3, Ar3, q3, S3, N3_, H3, G3⟩ := id (V_b1)
  have hin3 : ¬ ((0 : Int32) < 0 ∨ cl3.slots.size ≤ ((0 : Int32)).toNatClampNeg) := inb_of S3 ⟨(by decide), (by decide)⟩
  obtain ⟨T3, h3, X3, e3, W3, st3⟩ := stC X1 hx hZ e1 Ar3 (j := (0 : Int32)) hin3 (g := mkF m 12 #[vi p0, vr b1] [(.int (p0 &&& (255 : Int32))), (.int 0), (.ref b1)]) rfl rfl (dG hby D1 9 rfl)
  have Sf5 : Safe Z EL1 s.vm h1 b1 := Safe.exa (EL := EL1) hZ.alike A1' (by decide) (by decide)
  have H_4 := H_2.wr W3 Sf5
  have R_4 := R_2.trans (CHr.wr W3 Sf5 H_2)
  have K3 : Keep h0 h3 [] := K1.wr W3 (Or.inr sz_b1)
  have O3 := O1.wr W3 g_b1
  have N3 := Fr.snoc X3 N0 g_b1
  have V3' : Arv Z h3 b1 k1 .char (2 : Int32) [(.int (nar .char (p0 &&& (255 : Int32)))), (.int 0)] (.int 0) := Arv.set Ar3 q3 S3 N3_ H3 G3 (fits_nar_char _) W3 0 rfl (Nat.le_of_ble_eq_true rfl)
  have V3 : Arv Z h3 b1 k1 .char (2 : Int32) [(.int (p0 &&& (255 : Int32))), (.int 0)] (.int 0) := by
    rw [own_nar255 p0] at V3'
    exact V3'
  obtain ⟨cl6, Ar6, q6, S6, N6_, H6, G6⟩ := id (V3)
  have hin6 : ¬ ((1 : Int32) < 0 ∨ cl6.slots.size ≤ ((1 : Int32)).toNatClampNeg) := inb_of S6 ⟨(by decide), (by decide)⟩
  obtain ⟨T6, h6, X6, e6, W6, st6⟩ := stC X3 hx hZ e3 Ar6 (j := (1 : Int32)) hin6 (g := (mkF m 24 #[vi p0, vr b1] [(.int (((p0.toUInt32 >>> ((8 : Int32) &&& 31).toUInt32).toInt32) &&& (255 : Int32))), (.int 1), (.ref b1)])) rfl rfl (dG hby D1 18 rfl)
  have Sf8 : Safe Z EL1 s.vm h3 b1 := Safe.exa (EL := EL1) hZ.alike (A1'.wr W3) (by decide) (by decide)
  have H_7 := H_4.wr W6 Sf8
  have R_7 := R_4.trans (CHr.wr W6 Sf8 H_4)
  have K6 : Keep h0 h6 [] := K3.wr W6 (Or.inr sz_b1)
  have O6 := O3.wr W6 g_b1
  have N6 := Fr.snoc X6 N3 g_b1
  have V6' : Arv Z h6 b1 k1 .char (2 : Int32) [(.int (p0 &&& (255 : Int32))), (.int (nar .char (((p0.toUInt32 >>> ((8 : Int32) &&& 31).toUInt32).toInt32) &&& (255 : Int32))))] (.int 0) := Arv.set Ar6 q6 S6 N6_ H6 G6 (fits_nar_char _) W6 1 rfl (Nat.le_of_ble_eq_true rfl)
  have V6 : Arv Z h6 b1 k1 .char (2 : Int32) [(.int (p0 &&& (255 : Int32))), (.int (((p0.toUInt32 >>> ((8 : Int32) &&& 31).toUInt32).toInt32) &&& (255 : Int32)))] (.int 0) := by
    rw [own_nar255 ((p0.toUInt32 >>> ((8 : Int32) &&& 31).toUInt32).toInt32)] at V6'
    exact V6'
  obtain ⟨T9, h9, X9, e9, E9, A9, D9, -, st9⟩ := newO X6 hx hZ hown (Wd hw 5 rfl) (Wd hw 6 rfl) (Wd hw 7 rfl) e6 (g := mkF m 25 #[vi p0, vr b1] []) rfl (dG hby D1 19 rfl) (by decide) (by decide)
  obtain ⟨b9, g9⟩ : ∃ z, z = h6.size := ⟨_, rfl⟩
  rw [← g9] at A9 D9 st9
  have g_b9 : n0 ≤ b9 := lTr (own_sz O6) (lEq g9.symm)
  have sz_b9 : h0.size ≤ b9 := lTr K6.1 (lEq g9.symm)
  have H_10 := H_7.ext E9
  have R_10 := R_7.trans (CHr.ext E9 H_7)
  have K9 : Keep h0 h9 [] := K6.ext E9
  have O9 := O6.ext E9
  have F_coder_b9 : Fld Z h9 b9 "java/lang/String" "coder" "B" (.int 0) := D9 (Or.inr (Wd hw 31 rfl)) (ty := .byte) (by decide)
  have F_value_b9 : Fld Z h9 b9 "java/lang/String" "value" "[B" .null := D9 (Or.inr (Wd hw 33 rfl)) (ty := (.array .byte)) (by decide)
  have hq0 : ¬ ((255 : Int32) < (p0 &&& (255 : Int32))) := (own_and255 _).1
  have hq1 : ¬ ((255 : Int32) < (((p0.toUInt32 >>> ((8 : Int32) &&& 31).toUInt32).toInt32) &&& (255 : Int32))) := (own_and255 _).1
  obtain ⟨_, _, ⟨T11, L11, k11, n11⟩, -, X11, ⟨Lc11, hQ11, l11, y11, z11⟩, st11⟩ := X9.specialBack hx (y := MN_4) rfl hown (mvT hZ (Wd hw 8 rfl)) (mvT hZ (Wd hw 9 rfl)) (mvT hZ (Wd hw 10 rfl)) (by decide) (backOf (W := 1) (rmIc_2 l Z a0 hw [] cS aDE kDE aUS aSS aIE mO b9 b1 k1 ((p0 &&& (255 : Int32))) ((((p0.toUInt32 >>> ((8 : Int32) &&& 31).toUInt32).toInt32) &&& (255 : Int32))) h9 n0 O9 GL A9 F_value_b9 F_coder_b9 g_b9 (V6.ext E9) hq0 hq1) hZ (Wd hw 10 rfl) (Wd hw 7 rfl) (by decide) (by decide)) (g := mkF m 30 #[vi p0, vr b1] [(.ref b1), (.ref b9), (.ref b9)]) rfl (by rw [hml]; rfl) (Steps.refl _) (a := b9) (argsL := [(.ref b1)]) (rest := [(.ref b9)]) (lenOf pdv35 rfl) rfl (by show 2 * 0 + _ ≤ _; exact lEq rfl) (dG hby D1 22 rfl) (fun _ _ => ⟨rfl, e9, (by decide : 2 + 1 ≤ _), (by decide : 6 + 2 ≤ _)⟩)
  dsimp only [Pt.U, Pt.locs, Pt.cells, Pt.slots] at X11 l11 y11 z11 st11 hQ11
  subst l11 y11 z11
  obtain ⟨b_11, kb_11, rfl, N11q, Kc11, P11_0, P11_1, P11_2, P11_3, P11_4, P11_5⟩ := hQ11
  have K11 : Keep h0 T11.heap [] := K9.trans Kc11 (allS (Or.inr sz_b9) all0)
  have O11 := O9.keep Kc11 (allS g_b9 all0)
  have Sf13 : Safe Z EL1 s.vm h9 b9 := (Safe.ext E9 H_7 (Safe.new (Z := Z) (EL := EL1) (vm := s.vm) (lEq g9.symm)))
  have H_12 := H_10.keep Kc11 (sfS Sf13 sf0)
  have R_12 := R_10.trans (CHr.keep Kc11 (sfS Sf13 sf0) H_10)
  have g_b_11 : n0 ≤ b_11 := lTr (own_sz O9) P11_0
  have sz_b_11 : h0.size ≤ b_11 := lTr K9.1 P11_0
  have N11 := Fr.app N6 N11q
  obtain ⟨fs, hr, hrun, hended, hRW⟩ := X11.leaveW hS0 (lTr (lTr (lTr (lTr (lTr (Nat.le_refl _) E1.1) (Keep.of_wr W3).1) (Keep.of_wr W6).1) E9.1) Kc11.1) (v := some (.ref b9)) (fun h => by rw [Bd.returns] at h; cases h)
  have hCR : CHr Z EL1 s.vm s.heap T11.vm T11.heap := by
    rw [hh]
    exact R_12.trans (CHv.at X11 hZ (own_EW hw) H_12)
  refine ⟨_, _, pre0 _ ?_, hrun, hended, _, _, rfl, ?_, hCR, hRW.1, hRW.2.1, hRW.2.2.1, hRW.2.2.2.mono (by decide) (by decide)⟩
  · show SP p e below s₁ m 0 #[vi p0, .unset] [] _
    refine XS.iconst X0w.here hx rfl (dG hby D1 0 rfl) ?_
    show SP p e below s₁ m 1 #[vi p0, .unset] [(.int 2)] _
    refine st1 _ ?_
    show SP p e below T1 m 3 #[vi p0, .unset] [(.ref b1)] _
    refine XS.astoreN X1.here hx rfl (dG hby D1 2 rfl) rfl rfl (l' := #[vi p0, vr b1]) rfl ?_
    refine XS.aloadN X1.here hx rfl (dG hby D1 3 rfl) rfl rfl ?_
    refine XS.iconst X1.here hx rfl (dG hby D1 4 rfl) ?_
    refine XS.iloadN X1.here hx rfl (dG hby D1 5 rfl) rfl ?_
    refine XS.sipush X1.here hx rfl (dG hby D1 6 rfl) ?_
    refine XS.iand X1.here hx rfl (dG hby D1 7 rfl) rfl ?_
    show SP p e below T1 m 11 #[vi p0, vr b1] [(.int (p0 &&& (255 : Int32))), (.int 0), (.ref b1)] _
    refine XS.i2c X1.here hx rfl (dG hby D1 8 rfl) rfl ?_
    rw [i2c_mask p0]
    show SP p e below T1 m 12 #[vi p0, vr b1] [(.int (p0 &&& (255 : Int32))), (.int 0), (.ref b1)] _
    refine st3 _ ?_
    show SP p e below T3 m 13 #[vi p0, vr b1] [] _
    refine XS.aloadN X3.here hx rfl (dG hby D1 10 rfl) rfl rfl ?_
    refine XS.iconst X3.here hx rfl (dG hby D1 11 rfl) ?_
    refine XS.iloadN X3.here hx rfl (dG hby D1 12 rfl) rfl ?_
    refine XS.bipush X3.here hx rfl (dG hby D1 13 rfl) ?_
    refine XS.iushr X3.here hx rfl (dG hby D1 14 rfl) rfl ?_
    refine XS.sipush X3.here hx rfl (dG hby D1 15 rfl) ?_
    refine XS.iand X3.here hx rfl (dG hby D1 16 rfl) rfl ?_
    show SP p e below T3 m 23 #[vi p0, vr b1] [(.int (((p0.toUInt32 >>> ((8 : Int32) &&& 31).toUInt32).toInt32) &&& (255 : Int32))), (.int 1), (.ref b1)] _
    refine XS.i2c X3.here hx rfl (dG hby D1 17 rfl) rfl ?_
    rw [i2c_mask ((p0.toUInt32 >>> ((8 : Int32) &&& 31).toUInt32).toInt32)]
    show SP p e below T3 m 24 #[vi p0, vr b1] [(.int (((p0.toUInt32 >>> ((8 : Int32) &&& 31).toUInt32).toInt32) &&& (255 : Int32))), (.int 1), (.ref b1)] _
    refine st6 _ ?_
    show SP p e below T6 m 25 #[vi p0, vr b1] [] _
    refine st9 _ ?_
    show SP p e below T9 m 28 #[vi p0, vr b1] [(.ref b9)] _
    refine XS.dup X9.here hx rfl (dG hby D1 20 rfl) rfl rfl ?_
    refine XS.aloadN X9.here hx rfl (dG hby D1 21 rfl) rfl rfl ?_
    show SP p e below T9 m 30 #[vi p0, vr b1] [(.ref b1), (.ref b9), (.ref b9)] _
    refine st11.trans ?_
    show SP p e below T11 m 33 #[vi p0, vr b1] [(.ref b9)] _
    exact retA X11 hx Bd.returns rfl (dG hby D1 23 rfl) hr
  · show Q_rmStr n0 Z cS aDE kDE aUS aSS aIE mO p0 h0 _ T11.heap _
    exact ⟨b9, b_11, kb_11, (2 : Int32), [(.int ((p0 &&& (255 : Int32)).toInt8.toInt32)), (.int ((((p0.toUInt32 >>> ((8 : Int32) &&& 31).toUInt32).toInt32) &&& (255 : Int32)).toInt8.toInt32))], rfl, N11, K11, P11_2, P11_3, P11_4, P11_5, (by decide), (by decide)⟩
theorem pdv36 : parseMethodDescriptor "(I)Ljava/lang/String;" = some ⟨[.int], some (.object "java/lang/String")⟩ := by decide +kernel
theorem pdv37 : parseMethodDescriptor "(Ljava/lang/String;Ljava/lang/String;)V" = some ⟨[(.object "java/lang/String"), (.object "java/lang/String")], none⟩ := by decide +kernel
theorem pdv38 : parseMethodDescriptor "(Ljava/lang/Object;)Z" = some ⟨[(.object "java/lang/Object")], some .boolean⟩ := by decide +kernel
theorem pdv39 : parseMethodDescriptor "(Ljava/util/List;)V" = some ⟨[(.object "java/util/List")], none⟩ := by decide +kernel
theorem ef_rm0 (m : MethodId) (p0 : Int32) (p1 : Int32) (p2 : Int32) (p3 : Int32) : entryFrame m #[(.int p0), (.int p1), (.int p2), (.int p3)] maxLocals = mkF m 0 #[vi p0, vi p1, vi p2, vi p3, .unset, .unset, .unset, .unset, .unset, .unset, .unset, .unset] [] := by first | (simp [entryFrame, mkF, argsToLocals, Value.category, maxLocals]; done) | rfl
def Q_rm0 (n0 : Nat) (v : Option Value) (h : Heap) (L : List Loc) : Prop := v = some (.int 1) ∧ Fr n0 L
theorem rm0 (l : Launch) (Z : State) (a0 : Array Value) (hw : ∀ d ∈ tables_1, d.before a0 Z = true) (ws : List Jvm.Cond) (hlt : l.stackTraces = true) (cS : Int32) (aDE : Addr) (kDE : ClassId) (aUS : Addr) (aSS : Addr) (aIE : Addr) (mO : Addr) (p0 : Int32) (p1 : Int32) (p2 : Int32) (p3 : Int32) (h0 : Heap) (n0 : Nat) (O0 : Old Z n0 h0) (GL : GF Z cS aDE kDE aUS aSS aIE mO) :
    MetFree l x (head1 (Jvm.Cond.code x code maxLocals ret :: ws) room_1) (fun a U => a = #[(.int p0), (.int p1), (.int p2), (.int p3)] ∧ Z.Warmed39 U.vm ∧ U.heap = h0 ∧ CHv Z EL1 U.vm h0) (fun _ _ bl s _ => s.vm.MethodsKnown ∧ s.vm.FramesKnown bl) (fun _ U o U' => ∃ v L, o = .returned v ∧ Q_rm0 n0 v U'.heap L ∧ CHr Z EL1 U.vm U.heap U'.vm U'.heap ∧ ReturnedEndW U o U' L room_1.cells room_1.slots) := by
  refine MetFree.of_bodySF (plainFor_of_name pnv21) hisR ?_
  intro p e s m args below meth c s₁ Bd hml0 hP hK
  obtain ⟨rfl, hZ, hh, H0⟩ := hP
  have hx := Bd.exec
  have hby := Bd.bytes
  have hml : c.maxLocals = 12 := hml0
  have hown : s.vm.findClass "com/example/grantline/grantline/PolicyExceptionPointerPinLaw" = some m.cls := findClass_of_methodNamed Bd.named
  have hnm := (name_of_methodNamed Bd.named Bd.method).1
  have X0 : Stand p l e room_1 s m #[(.int p0), (.int p1), (.int p2), (.int p3)] below meth c s₁ [] 0 0 := Stand.of_body Bd
  have e0 : s₁.heap = h0 := by rw [← hh, Bd.state]; rfl
  have N0 := Fr.nil n0
  have pre0 : ∀ t, SP p e below s₁ m 0 #[vi p0, vi p1, vi p2, vi p3, .unset, .unset, .unset, .unset, .unset, .unset, .unset, .unset] [] t → Steps p.tables e below (s₁.setTop (entryFrame m #[(.int p0), (.int p1), (.int p2), (.int p3)] maxLocals)) t := fun t k => castTop (ef_rm0 m p0 p1 p2 p3) k
  obtain ⟨hTK, hBW⟩ := hK
  have X0w : Stand p l e room_1 (s.setVm s.vm) m #[(.int p0), (.int p1), (.int p2), (.int p3)] below meth c s₁ [] 0 0 := X0
  have R0 : CHr Z EL1 s.vm h0 s.vm h0 := CHr.refl H0
  have hS0 : s.Since s.vm h0.size := (State.WarmedH.refl s).since _
  have GL' := GL
  obtain ⟨GCS, GCP, GDE, GVE, GUS, GSS, GIE, GMO⟩ := GL'
  have pre2 : ∀ t, SP p e below s₁ m 14 #[vi p0, vi p1, vi p2, vi p3, vi ((1 : Int32) + ((p3 &&& (3 : Int32)) % (3 : Int32))), .unset, .unset, .unset, .unset, .unset, .unset, .unset] [(.int (((p3.toUInt32 >>> ((2 : Int32) &&& 31).toUInt32).toInt32) &&& (1 : Int32)))] t → Steps p.tables e below (s₁.setTop (entryFrame m #[(.int p0), (.int p1), (.int p2), (.int p3)] maxLocals)) t := fun t kt => by
    refine pre0 t ?_
    show SP p e below s₁ m 0 #[vi p0, vi p1, vi p2, vi p3, .unset, .unset, .unset, .unset, .unset, .unset, .unset, .unset] [] _
    refine XS.iconst X0w.here hx rfl (hb hby at_0) ?_
    refine XS.iloadN X0w.here hx rfl (hb hby at_1) rfl ?_
    refine XS.iconst X0w.here hx rfl (hb hby at_2) ?_
    refine XS.iand X0w.here hx rfl (hb hby at_3) rfl ?_
    refine XS.iconst X0w.here hx rfl (hb hby at_4) ?_
    show SP p e below s₁ m 5 #[vi p0, vi p1, vi p2, vi p3, .unset, .unset, .unset, .unset, .unset, .unset, .unset, .unset] [(.int 3), (.int (p3 &&& (3 : Int32))), (.int 1)] _
    refine Jvm.RoadKit.iremM X0w hx rfl (hb hby at_5) rfl (by decide) ?_
    show SP p e below s₁ m 6 #[vi p0, vi p1, vi p2, vi p3, .unset, .unset, .unset, .unset, .unset, .unset, .unset, .unset] [(.int ((p3 &&& (3 : Int32)) % (3 : Int32))), (.int 1)] _
    refine XS.iadd X0w.here hx rfl (hb hby at_6) rfl ?_
    refine XS.istore X0w.here hx rfl (hb hby at_7) rfl (l' := #[vi p0, vi p1, vi p2, vi p3, vi ((1 : Int32) + ((p3 &&& (3 : Int32)) % (3 : Int32))), .unset, .unset, .unset, .unset, .unset, .unset, .unset]) rfl ?_
    refine XS.iloadN X0w.here hx rfl (hb hby at_9) rfl ?_
    refine XS.iconst X0w.here hx rfl (hb hby at_10) ?_
    refine XS.iushr X0w.here hx rfl (hb hby at_11) rfl ?_
    refine XS.iconst X0w.here hx rfl (hb hby at_12) ?_
    refine XS.iand X0w.here hx rfl (hb hby at_13) rfl ?_
    exact kt
  by_cases hc14_1 : (((p3.toUInt32 >>> ((2 : Int32) &&& 31).toUInt32).toInt32) &&& (1 : Int32)) = (0 : Int32)
  · obtain ⟨_, _, ⟨T3, L3, k3, n3⟩, -, X3', hS3', hg3, ⟨Lc3, hQ3, l3, y3, z3, Rs3⟩, st3⟩ := callSS X0w hx (y := MN_68) hown (mvT hZ (Wd hw 0 rfl)) (mvT hZ (Wd hw 1 rfl)) (mvT hZ (Wd hw 2 rfl)) (mvT hZ (Wd hw 3 rfl)) (by decide) (backOfSH (W := 0) (rmStr l Z a0 hw [] cS aDE kDE aUS aSS aIE mO p0 h0 n0 O0 GL) hZ (Wd hw 3 rfl) (Wd hw 2 rfl) (by decide) (by decide) (own_EW hw) H0) (g := mkF m 35 #[vi p0, vi p1, vi p2, vi p3, vi ((1 : Int32) + ((p3 &&& (3 : Int32)) % (3 : Int32))), vi (0 : Int32), .unset, .unset, .unset, .unset, .unset, .unset] [(.int p0)]) rfl (by rw [hml]; rfl) (argsL := [(.int p0)]) (rest := []) (lenOf pdv36 rfl) rfl (by show 2 * 0 + _ ≤ _; exact lEq rfl) (hb hby at_35) (fun _ _ => ⟨rfl, e0, (by decide : 0 + 3 ≤ _), (by decide : 0 + 8 ≤ _)⟩)
    dsimp only [Pt.U, Pt.locs, Pt.cells, Pt.slots] at X3' l3 y3 z3 st3 hQ3 hS3' hg3 Rs3
    subst l3 y3 z3
    obtain ⟨X3, hS3, hZ3, hown3⟩ := rebS hS0 (by rw [e0]; exact (Nat.le_refl _)) X3' hS3' hg3 hZ hown
    obtain ⟨bS_3, vS_3, kS_3, nS_3, lS_3, rfl, N3q, Kc3, P3_0, P3_1, P3_2, P3_3, P3_4, P3_5⟩ := hQ3
    have O3 := O0.keep Kc3 all0
    have H_4 := Rs3.1
    have R_4 := R0.trans Rs3
    have N3 := Fr.app N0 N3q
    obtain ⟨_, _, ⟨T5, L5, k5, n5⟩, -, X5', hS5', hg5, ⟨Lc5, hQ5, l5, y5, z5, Rs5⟩, st5⟩ := callSS X3 hx (y := MN_68) hown3 (mvT hZ3 (Wd hw 0 rfl)) (mvT hZ3 (Wd hw 1 rfl)) (mvT hZ3 (Wd hw 2 rfl)) (mvT hZ3 (Wd hw 3 rfl)) (by decide) (backOfSH (W := 0) (rmStr l Z a0 hw [] cS aDE kDE aUS aSS aIE mO p1 (T3.heap) n0 O3 GL) hZ3 (Wd hw 3 rfl) (Wd hw 2 rfl) (by decide) (by decide) (own_EW hw) H_4) (g := mkF m 41 #[vi p0, vi p1, vi p2, vi p3, vi ((1 : Int32) + ((p3 &&& (3 : Int32)) % (3 : Int32))), vi (0 : Int32), vr bS_3, .unset, .unset, .unset, .unset, .unset] [(.int p1)]) rfl (by rw [hml]; rfl) (argsL := [(.int p1)]) (rest := []) (lenOf pdv36 rfl) rfl (by show 2 * 0 + _ ≤ _; exact lEq rfl) (hb hby at_41) (fun _ _ => ⟨rfl, rfl, (by decide : 3 + 3 ≤ _), (by decide : 8 + 8 ≤ _)⟩)
    dsimp only [Pt.U, Pt.locs, Pt.cells, Pt.slots] at X5' l5 y5 z5 st5 hQ5 hS5' hg5 Rs5
    subst l5 y5 z5
    obtain ⟨X5, hS5, hZ5, hown5⟩ := rebS hS3 (Nat.le_refl _) X5' hS5' hg5 hZ3 hown3
    obtain ⟨bS_5, vS_5, kS_5, nS_5, lS_5, rfl, N5q, Kc5, P5_0, P5_1, P5_2, P5_3, P5_4, P5_5⟩ := hQ5
    have O5 := O3.keep Kc5 all0
    have H_6 := Rs5.1
    have R_6 := R_4.trans Rs5
    have N5 := Fr.app N3 N5q
    obtain ⟨_, _, ⟨T7, L7, k7, n7⟩, -, X7', hS7', hg7, ⟨Lc7, hQ7, l7, y7, z7, Rs7⟩, st7⟩ := callSS X5 hx (y := MN_68) hown5 (mvT hZ5 (Wd hw 0 rfl)) (mvT hZ5 (Wd hw 1 rfl)) (mvT hZ5 (Wd hw 2 rfl)) (mvT hZ5 (Wd hw 3 rfl)) (by decide) (backOfSH (W := 0) (rmStr l Z a0 hw [] cS aDE kDE aUS aSS aIE mO p2 (T5.heap) n0 O5 GL) hZ5 (Wd hw 3 rfl) (Wd hw 2 rfl) (by decide) (by decide) (own_EW hw) H_6) (g := mkF m 47 #[vi p0, vi p1, vi p2, vi p3, vi ((1 : Int32) + ((p3 &&& (3 : Int32)) % (3 : Int32))), vi (0 : Int32), vr bS_3, vr bS_5, .unset, .unset, .unset, .unset] [(.int p2)]) rfl (by rw [hml]; rfl) (argsL := [(.int p2)]) (rest := []) (lenOf pdv36 rfl) rfl (by show 2 * 0 + _ ≤ _; exact lEq rfl) (hb hby at_47) (fun _ _ => ⟨rfl, rfl, (by decide : 6 + 3 ≤ _), (by decide : 16 + 8 ≤ _)⟩)
    dsimp only [Pt.U, Pt.locs, Pt.cells, Pt.slots] at X7' l7 y7 z7 st7 hQ7 hS7' hg7 Rs7
    subst l7 y7 z7
    obtain ⟨X7, hS7, hZ7, hown7⟩ := rebS hS5 (Nat.le_refl _) X7' hS7' hg7 hZ5 hown5
    obtain ⟨bS_7, vS_7, kS_7, nS_7, lS_7, rfl, N7q, Kc7, P7_0, P7_1, P7_2, P7_3, P7_4, P7_5⟩ := hQ7
    have O7 := O5.keep Kc7 all0
    have H_8 := Rs7.1
    have R_8 := R_6.trans Rs7
    have N7 := Fr.app N5 N7q
    obtain ⟨T9, h9, X9, e9, E9, A9, D9, -, st9⟩ := newO X7 hx hZ7 hown7 (Wd hw 34 rfl) (Wd hw 35 rfl) (Wd hw 36 rfl) rfl (g := mkF m 52 #[vi p0, vi p1, vi p2, vi p3, vi ((1 : Int32) + ((p3 &&& (3 : Int32)) % (3 : Int32))), vi (0 : Int32), vr bS_3, vr bS_5, vr bS_7, .unset, .unset, .unset] []) rfl (hb hby at_52) (by decide) (by decide)
    obtain ⟨b9, g9⟩ : ∃ z, z = T7.heap.size := ⟨_, rfl⟩
    rw [← g9] at A9 D9 st9
    have g_b9 : n0 ≤ b9 := lTr (own_sz O7) (lEq g9.symm)
    have H_10 := H_8.ext E9
    have R_10 := R_8.trans (CHr.ext E9 H_8)
    have O9 := O7.ext E9
    have F_modCount_b9 : Fld Z h9 b9 "java/util/AbstractList" "modCount" "I" (.int 0) := D9 (Or.inl (Wd hw 54 rfl)) (ty := .int) (by decide)
    have F_elementData_b9 : Fld Z h9 b9 "java/util/ArrayList" "elementData" "[Ljava/lang/Object;" .null := D9 (Or.inl (Wd hw 57 rfl)) (ty := (.array (.object "java/lang/Object"))) (by decide)
    have F_size_b9 : Fld Z h9 b9 "java/util/ArrayList" "size" "I" (.int 0) := D9 (Or.inl (Wd hw 82 rfl)) (ty := .int) (by decide)
    obtain ⟨_, _, ⟨T11, L11, k11, n11⟩, -, X11, ⟨Lc11, hQ11, l11, y11, z11⟩, st11⟩ := X9.specialBack hx (y := MN_32) rfl hown7 (mvT hZ7 (Wd hw 37 rfl)) (mvT hZ7 (Wd hw 38 rfl)) (mvT hZ7 (Wd hw 39 rfl)) (by decide) (backOf (W := 1) (rmLi l Z a0 hw [] cS aDE kDE aUS aSS aIE mO b9 h9 n0 O9 GL A9 F_elementData_b9 F_size_b9 F_modCount_b9 g_b9) hZ7 (Wd hw 39 rfl) (Wd hw 36 rfl) (by decide) (by decide)) (g := mkF m 56 #[vi p0, vi p1, vi p2, vi p3, vi ((1 : Int32) + ((p3 &&& (3 : Int32)) % (3 : Int32))), vi (0 : Int32), vr bS_3, vr bS_5, vr bS_7, .unset, .unset, .unset] [(.ref b9), (.ref b9)]) rfl (by rw [hml]; rfl) (Steps.refl _) (a := b9) (argsL := []) (rest := [(.ref b9)]) (lenOf pdv18 rfl) rfl (by show 2 * 0 + _ ≤ _; exact lEq rfl) (hb hby at_56) (fun _ _ => ⟨rfl, e9, (by decide : 10 + 0 ≤ _), (by decide : 27 + 0 ≤ _)⟩)
    dsimp only [Pt.U, Pt.locs, Pt.cells, Pt.slots] at X11 l11 y11 z11 st11 hQ11
    subst l11 y11 z11
    obtain ⟨rfl, N11q, Kc11, P11_0, P11_1, P11_2, P11_3⟩ := hQ11
    have O11 := O9.keep Kc11 (allS g_b9 all0)
    have Sf13 : Safe Z EL1 T7.vm h9 b9 := Safe.exa (EL := EL1) hZ7.alike A9 (by decide) (by decide)
    have H_12 := H_10.keep Kc11 (sfS Sf13 sf0)
    have R_12 := R_10.trans (CHr.keep Kc11 (sfS Sf13 sf0) H_10)
    have N11 := Fr.app N7 N11q
    obtain ⟨T14, h14, X14, e14, E14, A14, D14, -, st14⟩ := newO X11 hx hZ7 hown7 (Wd hw 58 rfl) (Wd hw 59 rfl) (Wd hw 60 rfl) rfl (g := mkF m 63 #[vi p0, vi p1, vi p2, vi p3, vi ((1 : Int32) + ((p3 &&& (3 : Int32)) % (3 : Int32))), vi (0 : Int32), vr bS_3, vr bS_5, vr bS_7, vr b9, .unset, .unset] [(.ref b9)]) rfl (hb hby at_63) (by decide) (by decide)
    obtain ⟨b14, g14⟩ : ∃ z, z = T11.heap.size := ⟨_, rfl⟩
    rw [← g14] at A14 D14 st14
    have g_b14 : n0 ≤ b14 := lTr (own_sz O11) (lEq g14.symm)
    have H_15 := H_12.ext E14
    have R_15 := R_12.trans (CHr.ext E14 H_12)
    have O14 := O11.ext E14
    have F_pointer_b14 : Fld Z h14 b14 "com/example/grantline/grantline/PolicyException$Problem" "pointer" "Ljava/lang/String;" .null := D14 (Or.inr (Wd hw 71 rfl)) (ty := (.object "java/lang/String")) (by decide)
    have F_description_b14 : Fld Z h14 b14 "com/example/grantline/grantline/PolicyException$Problem" "description" "Ljava/lang/String;" .null := D14 (Or.inr (Wd hw 73 rfl)) (ty := (.object "java/lang/String")) (by decide)
    obtain ⟨_, _, ⟨T16, L16, k16, n16⟩, -, X16, ⟨Lc16, hQ16, l16, y16, z16⟩, st16⟩ := X14.specialBack hx (y := MN_27) rfl hown7 (mvT hZ7 (Wd hw 61 rfl)) (mvT hZ7 (Wd hw 62 rfl)) (mvT hZ7 (Wd hw 63 rfl)) (by decide) (backOf (W := 2) (rmPi l Z a0 hw [] cS aDE kDE aUS aSS aIE mO b14 bS_3 bS_7 h14 n0 O14 GL A14 F_pointer_b14 F_description_b14 g_b14) hZ7 (Wd hw 63 rfl) (Wd hw 60 rfl) (by decide) (by decide)) (g := mkF m 71 #[vi p0, vi p1, vi p2, vi p3, vi ((1 : Int32) + ((p3 &&& (3 : Int32)) % (3 : Int32))), vi (0 : Int32), vr bS_3, vr bS_5, vr bS_7, vr b9, .unset, .unset] [(.ref bS_7), (.ref bS_3), (.ref b14), (.ref b14), (.ref b9)]) rfl (by rw [hml]; rfl) (Steps.refl _) (a := b14) (argsL := [(.ref bS_3), (.ref bS_7)]) (rest := [(.ref b14), (.ref b9)]) (lenOf pdv37 rfl) rfl (by show 2 * 0 + _ ≤ _; exact lEq rfl) (hb hby at_71) (fun _ _ => ⟨rfl, e14, (by decide : 11 + 0 ≤ _), (by decide : 29 + 0 ≤ _)⟩)
    dsimp only [Pt.U, Pt.locs, Pt.cells, Pt.slots] at X16 l16 y16 z16 st16 hQ16
    subst l16 y16 z16
    obtain ⟨rfl, N16q, Kc16, P16_0, P16_1, P16_2⟩ := hQ16
    have O16 := O14.keep Kc16 (allS g_b14 all0)
    have Sf18 : Safe Z EL1 T7.vm h14 b14 := Safe.exa (EL := EL1) hZ7.alike A14 (by decide) (by decide)
    have H_17 := H_15.keep Kc16 (sfS Sf18 sf0)
    have R_17 := R_15.trans (CHr.keep Kc16 (sfS Sf18 sf0) H_15)
    have N16 := Fr.app N11 N16q
    obtain ⟨cq19, kq19, q19a, q19b, q19c⟩ := isOf hZ7 rfl ((P11_0.ext E14).keep Kc16)
    obtain ⟨_, _, ⟨T19, L19, k19, n19⟩, -, X19, ⟨Lc19, hQ19, l19, y19, z19⟩, st19⟩ := X16.virtualBack hx (y := MN_37) (z := MN_37) hown7 (mvT hZ7 (Wd hw 74 rfl)) (mvT hZ7 (Wd hw 75 rfl)) (notFace_of_selects (args := #[]) (mvT hZ7 (Wd hw 77 rfl))) (mvT hZ7 (Wd hw 77 rfl)) (mvT hZ7 (Wd hw 76 rfl)) (by decide) (backOf (W := 0) (rmA1_0 l Z a0 hw [] cS aDE kDE aUS aSS aIE mO b9 b14 ((0 : Int32)) (T16.heap) n0 O16 GL ((P11_0.ext E14).keep Kc16) ((P11_1.ext E14).keep Kc16 (ninS (nLt (lLt (lLt A9.lt Kc11.1) (lEq g14.symm))) nin0)) ((P11_2.ext E14).keep Kc16 (ninS (nLt (lLt (lLt A9.lt Kc11.1) (lEq g14.symm))) nin0)) ((P11_3.ext E14).keep Kc16 (ninS (nLt (lLt (lLt A9.lt Kc11.1) (lEq g14.symm))) nin0)) g_b9 P16_0) hZ7 (Wd hw 78 rfl) (Wd hw 36 rfl) (by decide) (by decide)) q19a q19c (g := mkF m 74 #[vi p0, vi p1, vi p2, vi p3, vi ((1 : Int32) + ((p3 &&& (3 : Int32)) % (3 : Int32))), vi (0 : Int32), vr bS_3, vr bS_5, vr bS_7, vr b9, .unset, .unset] [(.ref b14), (.ref b9)]) rfl (by rw [hml]; rfl) (Steps.refl _) (argsL := [(.ref b14)]) (rest := []) (lenOf pdv38 rfl) rfl (by show 2 * 0 + _ ≤ _; exact lEq rfl) (hb hby at_74) (fun _ _ => ⟨rfl, rfl, (by decide : 11 + 1 ≤ _), (by decide : 29 + 10 ≤ _)⟩)
    dsimp only [Pt.U, Pt.locs, Pt.cells, Pt.slots] at X19 l19 y19 z19 st19 hQ19
    subst l19 y19 z19
    obtain ⟨b_19, kb_19, rfl, N19q, Kc19, P19_0, P19_1, P19_2, P19_3, P19_4, P19_5, P19_6, P19_7⟩ := hQ19
    have O19 := O16.keep Kc19 (allS g_b9 all0)
    have Sf21 : Safe Z EL1 T7.vm T16.heap b9 := Safe.exa (EL := EL1) hZ7.alike ((P11_0.ext E14).keep Kc16) (by decide) (by decide)
    have H_20 := H_17.keep Kc19 (sfS Sf21 sf0)
    have R_20 := R_17.trans (CHr.keep Kc19 (sfS Sf21 sf0) H_17)
    have g_b_19 : n0 ≤ b_19 := lTr (own_sz O16) P19_0
    have N19 := Fr.app N16 N19q
    have pre23 : ∀ t, SP p e below T19 m 81 #[vi p0, vi p1, vi p2, vi p3, vi ((1 : Int32) + ((p3 &&& (3 : Int32)) % (3 : Int32))), vi (0 : Int32), vr bS_3, vr bS_5, vr bS_7, vr b9, .unset, .unset] [(.int 2), (.int ((1 : Int32) + ((p3 &&& (3 : Int32)) % (3 : Int32))))] t → Steps p.tables e below (s₁.setTop (entryFrame m #[(.int p0), (.int p1), (.int p2), (.int p3)] maxLocals)) t := fun t kt => by
      refine pre2 t ?_
      show SP p e below s₁ m 14 #[vi p0, vi p1, vi p2, vi p3, vi ((1 : Int32) + ((p3 &&& (3 : Int32)) % (3 : Int32))), .unset, .unset, .unset, .unset, .unset, .unset, .unset] [(.int (((p3.toUInt32 >>> ((2 : Int32) &&& 31).toUInt32).toInt32) &&& (1 : Int32)))] _
      refine XS.ifYes X0w.here hx rfl (pc0 := 14) (pc' := 21) rfl (hb hby at_14) rfl ((if0 _ _).trans (teq hc14_1).1) (by decide) (by decide) ?_
      refine XS.iconst X0w.here hx rfl (hb hby at_21) ?_
      refine XS.istore X0w.here hx rfl (hb hby at_22) rfl (l' := #[vi p0, vi p1, vi p2, vi p3, vi ((1 : Int32) + ((p3 &&& (3 : Int32)) % (3 : Int32))), vi (0 : Int32), .unset, .unset, .unset, .unset, .unset, .unset]) rfl ?_
      refine XS.iload X0w.here hx rfl (hb hby at_24) rfl ?_
      refine XS.ifYes X0w.here hx rfl (pc0 := 26) (pc' := 34) rfl (hb hby at_26) rfl ((if0 _ _).trans (teq (by decide : (0 : Int32) = (0 : Int32))).1) (by decide) (by decide) ?_
      refine XS.iloadN X0w.here hx rfl (hb hby at_34) rfl ?_
      show SP p e below s₁ m 35 #[vi p0, vi p1, vi p2, vi p3, vi ((1 : Int32) + ((p3 &&& (3 : Int32)) % (3 : Int32))), vi (0 : Int32), .unset, .unset, .unset, .unset, .unset, .unset] [(.int p0)] _
      refine st3.trans ?_
      show SP p e below T3 m 38 #[vi p0, vi p1, vi p2, vi p3, vi ((1 : Int32) + ((p3 &&& (3 : Int32)) % (3 : Int32))), vi (0 : Int32), .unset, .unset, .unset, .unset, .unset, .unset] [(.ref bS_3)] _
      refine XS.astore X3.here hx rfl (hb hby at_38) rfl rfl (l' := #[vi p0, vi p1, vi p2, vi p3, vi ((1 : Int32) + ((p3 &&& (3 : Int32)) % (3 : Int32))), vi (0 : Int32), vr bS_3, .unset, .unset, .unset, .unset, .unset]) rfl ?_
      refine XS.iloadN X3.here hx rfl (hb hby at_40) rfl ?_
      show SP p e below T3 m 41 #[vi p0, vi p1, vi p2, vi p3, vi ((1 : Int32) + ((p3 &&& (3 : Int32)) % (3 : Int32))), vi (0 : Int32), vr bS_3, .unset, .unset, .unset, .unset, .unset] [(.int p1)] _
      refine st5.trans ?_
      show SP p e below T5 m 44 #[vi p0, vi p1, vi p2, vi p3, vi ((1 : Int32) + ((p3 &&& (3 : Int32)) % (3 : Int32))), vi (0 : Int32), vr bS_3, .unset, .unset, .unset, .unset, .unset] [(.ref bS_5)] _
      refine XS.astore X5.here hx rfl (hb hby at_44) rfl rfl (l' := #[vi p0, vi p1, vi p2, vi p3, vi ((1 : Int32) + ((p3 &&& (3 : Int32)) % (3 : Int32))), vi (0 : Int32), vr bS_3, vr bS_5, .unset, .unset, .unset, .unset]) rfl ?_
      refine XS.iloadN X5.here hx rfl (hb hby at_46) rfl ?_
      show SP p e below T5 m 47 #[vi p0, vi p1, vi p2, vi p3, vi ((1 : Int32) + ((p3 &&& (3 : Int32)) % (3 : Int32))), vi (0 : Int32), vr bS_3, vr bS_5, .unset, .unset, .unset, .unset] [(.int p2)] _
      refine st7.trans ?_
      show SP p e below T7 m 50 #[vi p0, vi p1, vi p2, vi p3, vi ((1 : Int32) + ((p3 &&& (3 : Int32)) % (3 : Int32))), vi (0 : Int32), vr bS_3, vr bS_5, .unset, .unset, .unset, .unset] [(.ref bS_7)] _
      refine XS.astore X7.here hx rfl (hb hby at_50) rfl rfl (l' := #[vi p0, vi p1, vi p2, vi p3, vi ((1 : Int32) + ((p3 &&& (3 : Int32)) % (3 : Int32))), vi (0 : Int32), vr bS_3, vr bS_5, vr bS_7, .unset, .unset, .unset]) rfl ?_
      show SP p e below T7 m 52 #[vi p0, vi p1, vi p2, vi p3, vi ((1 : Int32) + ((p3 &&& (3 : Int32)) % (3 : Int32))), vi (0 : Int32), vr bS_3, vr bS_5, vr bS_7, .unset, .unset, .unset] [] _
      refine st9 _ ?_
      show SP p e below T9 m 55 #[vi p0, vi p1, vi p2, vi p3, vi ((1 : Int32) + ((p3 &&& (3 : Int32)) % (3 : Int32))), vi (0 : Int32), vr bS_3, vr bS_5, vr bS_7, .unset, .unset, .unset] [(.ref b9)] _
      refine XS.dup X9.here hx rfl (hb hby at_55) rfl rfl ?_
      show SP p e below T9 m 56 #[vi p0, vi p1, vi p2, vi p3, vi ((1 : Int32) + ((p3 &&& (3 : Int32)) % (3 : Int32))), vi (0 : Int32), vr bS_3, vr bS_5, vr bS_7, .unset, .unset, .unset] [(.ref b9), (.ref b9)] _
      refine st11.trans ?_
      show SP p e below T11 m 59 #[vi p0, vi p1, vi p2, vi p3, vi ((1 : Int32) + ((p3 &&& (3 : Int32)) % (3 : Int32))), vi (0 : Int32), vr bS_3, vr bS_5, vr bS_7, .unset, .unset, .unset] [(.ref b9)] _
      refine XS.astore X11.here hx rfl (hb hby at_59) rfl rfl (l' := #[vi p0, vi p1, vi p2, vi p3, vi ((1 : Int32) + ((p3 &&& (3 : Int32)) % (3 : Int32))), vi (0 : Int32), vr bS_3, vr bS_5, vr bS_7, vr b9, .unset, .unset]) rfl ?_
      refine XS.aload X11.here hx rfl (hb hby at_61) rfl rfl ?_
      show SP p e below T11 m 63 #[vi p0, vi p1, vi p2, vi p3, vi ((1 : Int32) + ((p3 &&& (3 : Int32)) % (3 : Int32))), vi (0 : Int32), vr bS_3, vr bS_5, vr bS_7, vr b9, .unset, .unset] [(.ref b9)] _
      refine st14 _ ?_
      show SP p e below T14 m 66 #[vi p0, vi p1, vi p2, vi p3, vi ((1 : Int32) + ((p3 &&& (3 : Int32)) % (3 : Int32))), vi (0 : Int32), vr bS_3, vr bS_5, vr bS_7, vr b9, .unset, .unset] [(.ref b14), (.ref b9)] _
      refine XS.dup X14.here hx rfl (hb hby at_66) rfl rfl ?_
      refine XS.aload X14.here hx rfl (hb hby at_67) rfl rfl ?_
      refine XS.aload X14.here hx rfl (hb hby at_69) rfl rfl ?_
      show SP p e below T14 m 71 #[vi p0, vi p1, vi p2, vi p3, vi ((1 : Int32) + ((p3 &&& (3 : Int32)) % (3 : Int32))), vi (0 : Int32), vr bS_3, vr bS_5, vr bS_7, vr b9, .unset, .unset] [(.ref bS_7), (.ref bS_3), (.ref b14), (.ref b14), (.ref b9)] _
      refine st16.trans ?_
      show SP p e below T16 m 74 #[vi p0, vi p1, vi p2, vi p3, vi ((1 : Int32) + ((p3 &&& (3 : Int32)) % (3 : Int32))), vi (0 : Int32), vr bS_3, vr bS_5, vr bS_7, vr b9, .unset, .unset] [(.ref b14), (.ref b9)] _
      refine st19.trans ?_
      show SP p e below T19 m 77 #[vi p0, vi p1, vi p2, vi p3, vi ((1 : Int32) + ((p3 &&& (3 : Int32)) % (3 : Int32))), vi (0 : Int32), vr bS_3, vr bS_5, vr bS_7, vr b9, .unset, .unset] [(.int 1)] _
      refine XS.pop X19.here hx rfl (hb hby at_77) rfl rfl ?_
      refine XS.iload X19.here hx rfl (hb hby at_78) rfl ?_
      refine XS.iconst X19.here hx rfl (hb hby at_80) ?_
      exact kt
    by_cases hc81_22 : ((1 : Int32) + ((p3 &&& (3 : Int32)) % (3 : Int32))) < (2 : Int32)
    · have pre25 : ∀ t, SP p e below T19 m 104 #[vi p0, vi p1, vi p2, vi p3, vi ((1 : Int32) + ((p3 &&& (3 : Int32)) % (3 : Int32))), vi (0 : Int32), vr bS_3, vr bS_5, vr bS_7, vr b9, .unset, .unset] [(.int 3), (.int ((1 : Int32) + ((p3 &&& (3 : Int32)) % (3 : Int32))))] t → Steps p.tables e below (s₁.setTop (entryFrame m #[(.int p0), (.int p1), (.int p2), (.int p3)] maxLocals)) t := fun t kt => by
        refine pre23 t ?_
        show SP p e below T19 m 81 #[vi p0, vi p1, vi p2, vi p3, vi ((1 : Int32) + ((p3 &&& (3 : Int32)) % (3 : Int32))), vi (0 : Int32), vr bS_3, vr bS_5, vr bS_7, vr b9, .unset, .unset] [(.int 2), (.int ((1 : Int32) + ((p3 &&& (3 : Int32)) % (3 : Int32))))] _
        refine XS.icmpYes X19.here hx rfl (pc0 := 81) (pc' := 101) rfl (hb hby at_81) rfl (tlt hc81_22).1 (by decide) (by decide) ?_
        refine XS.iload X19.here hx rfl (hb hby at_101) rfl ?_
        refine XS.iconst X19.here hx rfl (hb hby at_103) ?_
        exact kt
      by_cases hc104_24 : ((1 : Int32) + ((p3 &&& (3 : Int32)) % (3 : Int32))) < (3 : Int32)
      · obtain ⟨T26, h26, X26, e26, E26, A26, D26, U26, st26⟩ := newO X19 hx hZ7 hown7 (Wd hw 105 rfl) (Wd hw 106 rfl) (Wd hw 107 rfl) rfl (g := mkF m 124 #[vi p0, vi p1, vi p2, vi p3, vi ((1 : Int32) + ((p3 &&& (3 : Int32)) % (3 : Int32))), vi (0 : Int32), vr bS_3, vr bS_5, vr bS_7, vr b9, .unset, .unset] []) rfl (hb hby at_124) (by decide) (by decide)
        obtain ⟨b26, g26⟩ : ∃ z, z = T19.heap.size := ⟨_, rfl⟩
        rw [← g26] at A26 D26 U26 st26
        have g_b26 : n0 ≤ b26 := lTr (own_sz O19) (lEq g26.symm)
        have H_27 := H_20.ext E26
        have R_27 := R_20.trans (CHr.ext E26 H_20)
        have O26 := O19.ext E26
        have F_cause_b26 : Fld Z h26 b26 "java/lang/Throwable" "cause" "Ljava/lang/Throwable;" .null := D26 (Or.inl (Wd hw 276 rfl)) (ty := (.object "java/lang/Throwable")) (by decide)
        have F_stackTrace_b26 : Fld Z h26 b26 "java/lang/Throwable" "stackTrace" "[Ljava/lang/StackTraceElement;" .null := D26 (Or.inl (Wd hw 279 rfl)) (ty := (.array (.object "java/lang/StackTraceElement"))) (by decide)
        have F_suppressedExceptions_b26 : Fld Z h26 b26 "java/lang/Throwable" "suppressedExceptions" "Ljava/util/List;" .null := D26 (Or.inl (Wd hw 282 rfl)) (ty := (.object "java/util/List")) (by decide)
        have F_detailMessage_b26 : Fld Z h26 b26 "java/lang/Throwable" "detailMessage" "Ljava/lang/String;" .null := D26 (Or.inl (Wd hw 305 rfl)) (ty := (.object "java/lang/String")) (by decide)
        have F_backtrace_b26 : Fld Z h26 b26 "java/lang/Throwable" "backtrace" "Ljava/lang/Object;" .null := D26 (Or.inl (Wd hw 306 rfl)) (ty := (.object "java/lang/Object")) (by decide)
        have F_depth_b26 : Fld Z h26 b26 "java/lang/Throwable" "depth" "I" (.int 0) := D26 (Or.inl (Wd hw 307 rfl)) (ty := .int) (by decide)
        have F_problems_b26 : Fld Z h26 b26 "com/example/grantline/grantline/PolicyException" "problems" "Ljava/util/List;" .null := D26 (Or.inr (Wd hw 383 rfl)) (ty := (.object "java/util/List")) (by decide)
        obtain ⟨_, _, ⟨T28, L28, k28, n28⟩, -, X28', hS28', hg28, ⟨Lc28, hQ28, l28, y28, z28, Rs28⟩, st28⟩ := X26.specialBackS hx (y := MN_63) rfl hown7 (mvT hZ7 (Wd hw 108 rfl)) (mvT hZ7 (Wd hw 109 rfl)) (mvT hZ7 (Wd hw 110 rfl)) (by decide) (backOfSKH (W := 1) (rmX_1 l Z a0 hw [] hlt cS aDE kDE aUS aSS aIE mO b26 b9 b_19 kb_19 b14 bS_3 vS_3 kS_3 nS_3 lS_3 bS_7 vS_7 kS_7 nS_7 lS_7 h26 n0 O26 GL A26 U26 F_cause_b26 F_stackTrace_b26 F_suppressedExceptions_b26 F_detailMessage_b26 F_backtrace_b26 F_problems_b26 g_b26 (P19_4.ext E26) (P19_5.ext E26) (P19_6.ext E26) (P19_1.ext E26) (P19_2.ext E26) ((P16_0.keep Kc19).ext E26) ((P16_1.keep Kc19 (ninS (Ne.symm (nLt (lLt (lLt A9.lt Kc11.1) (lEq g14.symm)))) nin0)).ext E26) ((P16_2.keep Kc19 (ninS (Ne.symm (nLt (lLt (lLt A9.lt Kc11.1) (lEq g14.symm)))) nin0)).ext E26) ((((((((P3_0.keep Kc5).keep Kc7).ext E9).keep Kc11).ext E14).keep Kc16).keep Kc19).ext E26) ((((((((P3_1.keep Kc5 nin0).keep Kc7 nin0).ext E9).keep Kc11 (ninS (nLt (lLt (lLt P3_0.lt (lTr Kc5.1 Kc7.1)) (lEq g9.symm))) nin0)).ext E14).keep Kc16 (ninS (nLt (lLt (lLt P3_0.lt (lTr (lTr (lTr Kc5.1 Kc7.1) E9.1) Kc11.1)) (lEq g14.symm))) nin0)).keep Kc19 (ninS (nLt (lLt (lLt P3_0.lt (lTr Kc5.1 Kc7.1)) (lEq g9.symm))) nin0)).ext E26) ((((((((P3_2.keep Kc5 nin0).keep Kc7 nin0).ext E9).keep Kc11 (ninS (nLt (lLt (lLt P3_0.lt (lTr Kc5.1 Kc7.1)) (lEq g9.symm))) nin0)).ext E14).keep Kc16 (ninS (nLt (lLt (lLt P3_0.lt (lTr (lTr (lTr Kc5.1 Kc7.1) E9.1) Kc11.1)) (lEq g14.symm))) nin0)).keep Kc19 (ninS (nLt (lLt (lLt P3_0.lt (lTr Kc5.1 Kc7.1)) (lEq g9.symm))) nin0)).ext E26) ((((((((P3_3.keep Kc5 nin0).keep Kc7 nin0).ext E9).keep Kc11 (ninS (nLt (lLt (lLt P3_3.lt (lTr Kc5.1 Kc7.1)) (lEq g9.symm))) nin0)).ext E14).keep Kc16 (ninS (nLt (lLt (lLt P3_3.lt (lTr (lTr (lTr Kc5.1 Kc7.1) E9.1) Kc11.1)) (lEq g14.symm))) nin0)).keep Kc19 (ninS (nLt (lLt (lLt P3_3.lt (lTr Kc5.1 Kc7.1)) (lEq g9.symm))) nin0)).ext E26) ((((((P7_0.ext E9).keep Kc11).ext E14).keep Kc16).keep Kc19).ext E26) ((((((P7_1.ext E9).keep Kc11 (ninS (nLt (lLt P7_0.lt (lEq g9.symm))) nin0)).ext E14).keep Kc16 (ninS (nLt (lLt (lLt P7_0.lt (lTr E9.1 Kc11.1)) (lEq g14.symm))) nin0)).keep Kc19 (ninS (nLt (lLt P7_0.lt (lEq g9.symm))) nin0)).ext E26) ((((((P7_2.ext E9).keep Kc11 (ninS (nLt (lLt P7_0.lt (lEq g9.symm))) nin0)).ext E14).keep Kc16 (ninS (nLt (lLt (lLt P7_0.lt (lTr E9.1 Kc11.1)) (lEq g14.symm))) nin0)).keep Kc19 (ninS (nLt (lLt P7_0.lt (lEq g9.symm))) nin0)).ext E26) ((((((P7_3.ext E9).keep Kc11 (ninS (nLt (lLt P7_3.lt (lEq g9.symm))) nin0)).ext E14).keep Kc16 (ninS (nLt (lLt (lLt P7_3.lt (lTr E9.1 Kc11.1)) (lEq g14.symm))) nin0)).keep Kc19 (ninS (nLt (lLt P7_3.lt (lEq g9.symm))) nin0)).ext E26) P3_4 P3_5 P7_4 P7_5) hZ7 (Wd hw 110 rfl) (Wd hw 107 rfl) (by decide) (by decide) (own_EW hw) H_27 (hTK.alikeC (hZ.alike.symm.trans hZ7.alike)) (hBW.alikeC (hZ.alike.symm.trans hZ7.alike))) (g := mkF m 130 #[vi p0, vi p1, vi p2, vi p3, vi ((1 : Int32) + ((p3 &&& (3 : Int32)) % (3 : Int32))), vi (0 : Int32), vr bS_3, vr bS_5, vr bS_7, vr b9, .unset, .unset] [(.ref b9), (.ref b26), (.ref b26)]) rfl (by rw [hml]; rfl) (Steps.refl _) (a := b26) (argsL := [(.ref b9)]) (rest := [(.ref b26)]) (lenOf pdv39 rfl) rfl (by show 2 * 0 + _ ≤ _; exact lEq rfl) (hb hby at_130) (fun _ _ => ⟨rfl, e26, (by decide : 13 + 9 ≤ _), (by decide : 46 + 2807 ≤ _)⟩)
        dsimp only [Pt.U, Pt.locs, Pt.cells, Pt.slots] at X28' l28 y28 z28 st28 hQ28 hS28' hg28 Rs28
        subst l28 y28 z28
        obtain ⟨X28, hS28, hZ28, hown28⟩ := rebS hS7 (by rw [e26]; exact (lTr (lTr (lTr (lTr (lTr (lTr (Nat.le_refl _) E9.1) Kc11.1) E14.1) Kc16.1) Kc19.1) E26.1)) X28' hS28' hg28 hZ7 hown7
        obtain ⟨b_28, rfl, N28q, Kc28, P28_0, P28_1, P28_2, P28_3⟩ := hQ28
        have O28 := O26.keep Kc28 (allS g_b26 all0)
        have H_29 := Rs28.1
        have R_29 := R_27.trans Rs28
        have N28 := Fr.app N19 N28q
        obtain ⟨cq30, kq30, q30a, q30b, q30c⟩ := isOf hZ28 rfl P28_0
        obtain ⟨_, _, ⟨T30, L30, k30, n30⟩, -, X30, ⟨Lc30, hQ30, l30, y30, z30⟩, st30⟩ := X28.virtualBack hx (y := MN_66) (z := MN_66) hown28 (mvT hZ28 (Wd hw 384 rfl)) (mvT hZ28 (Wd hw 385 rfl)) (notFace_of_selects (args := #[]) (mvT hZ28 (Wd hw 387 rfl))) (mvT hZ28 (Wd hw 387 rfl)) (mvT hZ28 (Wd hw 386 rfl)) (by decide) (backOf (W := 0) (rmP12 l Z a0 hw [] cS aDE kDE aUS aSS aIE mO b26 b_28 b14 bS_3 (T28.heap) n0 O28 GL P28_2 P28_3 P28_1 (((P16_0.keep Kc19).ext E26).keep Kc28) (((P16_1.keep Kc19 (ninS (Ne.symm (nLt (lLt (lLt A9.lt Kc11.1) (lEq g14.symm)))) nin0)).ext E26).keep Kc28 (ninS (nLt (lLt (lLt A14.lt (lTr Kc16.1 Kc19.1)) (lEq g26.symm))) nin0))) hZ28 (Wd hw 388 rfl) (Wd hw 107 rfl) (by decide) (by decide)) q30a q30c (g := mkF m 137 #[vi p0, vi p1, vi p2, vi p3, vi ((1 : Int32) + ((p3 &&& (3 : Int32)) % (3 : Int32))), vi (0 : Int32), vr bS_3, vr bS_5, vr bS_7, vr b9, vr b26, .unset] [(.ref b26)]) rfl (by rw [hml]; rfl) (Steps.refl _) (argsL := []) (rest := []) (lenOf pdv20 rfl) rfl (by show 2 * 0 + _ ≤ _; exact lEq rfl) (hb hby at_137) (fun _ _ => ⟨rfl, rfl, (by decide : 22 + 0 ≤ _), (by decide : 2853 + 0 ≤ _)⟩)
        dsimp only [Pt.U, Pt.locs, Pt.cells, Pt.slots] at X30 l30 y30 z30 st30 hQ30
        subst l30 y30 z30
        obtain ⟨rfl, N30q, e30⟩ := hQ30
        have N30 := Fr.app N28 N30q
        obtain ⟨cq31, kq31, q31a, q31b, q31c⟩ := isOf hZ28 e30 (((((((((P3_0.keep Kc5).keep Kc7).ext E9).keep Kc11).ext E14).keep Kc16).keep Kc19).ext E26).keep Kc28)
        obtain ⟨_, _, ⟨T31, L31, k31, n31⟩, -, X31, ⟨Lc31, hQ31, l31, y31, z31⟩, st31⟩ := X30.virtualBack hx (y := MN_67) (z := MN_67) hown28 (mvT hZ28 (Wd hw 400 rfl)) (mvT hZ28 (Wd hw 401 rfl)) (notFace_of_selects (args := #[]) (mvT hZ28 (Wd hw 403 rfl))) (mvT hZ28 (Wd hw 403 rfl)) (mvT hZ28 (Wd hw 402 rfl)) (by decide) (backOf (W := 0) (rmEq l Z a0 hw [] cS aDE kDE aUS aSS aIE mO bS_3 (T28.heap) n0 O28 GL) hZ28 (Wd hw 404 rfl) (Wd hw 7 rfl) (by decide) (by decide)) q31a q31c (g := mkF m 151 #[vi p0, vi p1, vi p2, vi p3, vi ((1 : Int32) + ((p3 &&& (3 : Int32)) % (3 : Int32))), vi (0 : Int32), vr bS_3, vr bS_5, vr bS_7, vr b9, vr b26, vr bS_3] [(.ref bS_3), (.ref bS_3)]) rfl (by rw [hml]; rfl) (Steps.refl _) (argsL := [(.ref bS_3)]) (rest := []) (lenOf pdv38 rfl) rfl (by show 2 * 0 + _ ≤ _; exact lEq rfl) (hb hby at_151) (fun _ _ => ⟨rfl, e30, (by decide : 22 + 0 ≤ _), (by decide : 2853 + 0 ≤ _)⟩)
        dsimp only [Pt.U, Pt.locs, Pt.cells, Pt.slots] at X31 l31 y31 z31 st31 hQ31
        subst l31 y31 z31
        obtain ⟨rfl, N31q, e31⟩ := hQ31
        have N31 := Fr.app N30 N31q
        obtain ⟨fs, hr, hrun, hended, hRW⟩ := X31.leaveW hS28 (by rw [e31]; exact (Nat.le_refl _)) (v := some (.int 1)) (fun h => by rw [Bd.returns] at h; cases h)
        have hCR : CHr Z EL1 s.vm s.heap T31.vm T31.heap := by
          rw [hh, e31]
          exact R_29.trans (CHv.at X31 hZ28 (own_EW hw) H_29)
        refine ⟨_, _, pre25 _ ?_, hrun, hended, _, _, rfl, ?_, hCR, hRW.1, hRW.2.1, hRW.2.2.1, hRW.2.2.2.mono (by decide) (by decide)⟩
        · show SP p e below T19 m 104 #[vi p0, vi p1, vi p2, vi p3, vi ((1 : Int32) + ((p3 &&& (3 : Int32)) % (3 : Int32))), vi (0 : Int32), vr bS_3, vr bS_5, vr bS_7, vr b9, .unset, .unset] [(.int 3), (.int ((1 : Int32) + ((p3 &&& (3 : Int32)) % (3 : Int32))))] _
          refine XS.icmpYes X19.here hx rfl (pc0 := 104) (pc' := 124) rfl (hb hby at_104) rfl (tlt hc104_24).1 (by decide) (by decide) ?_
          show SP p e below T19 m 124 #[vi p0, vi p1, vi p2, vi p3, vi ((1 : Int32) + ((p3 &&& (3 : Int32)) % (3 : Int32))), vi (0 : Int32), vr bS_3, vr bS_5, vr bS_7, vr b9, .unset, .unset] [] _
          refine st26 _ ?_
          show SP p e below T26 m 127 #[vi p0, vi p1, vi p2, vi p3, vi ((1 : Int32) + ((p3 &&& (3 : Int32)) % (3 : Int32))), vi (0 : Int32), vr bS_3, vr bS_5, vr bS_7, vr b9, .unset, .unset] [(.ref b26)] _
          refine XS.dup X26.here hx rfl (hb hby at_127) rfl rfl ?_
          refine XS.aload X26.here hx rfl (hb hby at_128) rfl rfl ?_
          show SP p e below T26 m 130 #[vi p0, vi p1, vi p2, vi p3, vi ((1 : Int32) + ((p3 &&& (3 : Int32)) % (3 : Int32))), vi (0 : Int32), vr bS_3, vr bS_5, vr bS_7, vr b9, .unset, .unset] [(.ref b9), (.ref b26), (.ref b26)] _
          refine st28.trans ?_
          show SP p e below T28 m 133 #[vi p0, vi p1, vi p2, vi p3, vi ((1 : Int32) + ((p3 &&& (3 : Int32)) % (3 : Int32))), vi (0 : Int32), vr bS_3, vr bS_5, vr bS_7, vr b9, .unset, .unset] [(.ref b26)] _
          refine XS.astore X28.here hx rfl (hb hby at_133) rfl rfl (l' := #[vi p0, vi p1, vi p2, vi p3, vi ((1 : Int32) + ((p3 &&& (3 : Int32)) % (3 : Int32))), vi (0 : Int32), vr bS_3, vr bS_5, vr bS_7, vr b9, vr b26, .unset]) rfl ?_
          refine XS.aload X28.here hx rfl (hb hby at_135) rfl rfl ?_
          show SP p e below T28 m 137 #[vi p0, vi p1, vi p2, vi p3, vi ((1 : Int32) + ((p3 &&& (3 : Int32)) % (3 : Int32))), vi (0 : Int32), vr bS_3, vr bS_5, vr bS_7, vr b9, vr b26, .unset] [(.ref b26)] _
          refine st30.trans ?_
          show SP p e below T30 m 140 #[vi p0, vi p1, vi p2, vi p3, vi ((1 : Int32) + ((p3 &&& (3 : Int32)) % (3 : Int32))), vi (0 : Int32), vr bS_3, vr bS_5, vr bS_7, vr b9, vr b26, .unset] [(.ref bS_3)] _
          refine XS.astore X30.here hx rfl (hb hby at_140) rfl rfl (l' := #[vi p0, vi p1, vi p2, vi p3, vi ((1 : Int32) + ((p3 &&& (3 : Int32)) % (3 : Int32))), vi (0 : Int32), vr bS_3, vr bS_5, vr bS_7, vr b9, vr b26, vr bS_3]) rfl ?_
          refine XS.aload X30.here hx rfl (hb hby at_142) rfl rfl ?_
          refine XS.ifnullNo X30.here hx rfl (hb hby at_144) rfl ?_
          refine XS.aload X30.here hx rfl (hb hby at_147) rfl rfl ?_
          refine XS.aload X30.here hx rfl (hb hby at_149) rfl rfl ?_
          show SP p e below T30 m 151 #[vi p0, vi p1, vi p2, vi p3, vi ((1 : Int32) + ((p3 &&& (3 : Int32)) % (3 : Int32))), vi (0 : Int32), vr bS_3, vr bS_5, vr bS_7, vr b9, vr b26, vr bS_3] [(.ref bS_3), (.ref bS_3)] _
          refine st31.trans ?_
          show SP p e below T31 m 154 #[vi p0, vi p1, vi p2, vi p3, vi ((1 : Int32) + ((p3 &&& (3 : Int32)) % (3 : Int32))), vi (0 : Int32), vr bS_3, vr bS_5, vr bS_7, vr b9, vr b26, vr bS_3] [(.int 1)] _
          refine XS.ifNo X31.here hx rfl (hb hby at_154) rfl ((if0 _ _).trans (feq (by decide : ¬ ((1 : Int32) = (0 : Int32)))).1) ?_
          refine XS.iconst X31.here hx rfl (hb hby at_157) ?_
          refine XS.goto X31.here hx rfl (pc0 := 158) (pc' := 162) rfl (hb hby at_158) (by decide) (by decide) ?_
          show SP p e below T31 m 162 #[vi p0, vi p1, vi p2, vi p3, vi ((1 : Int32) + ((p3 &&& (3 : Int32)) % (3 : Int32))), vi (0 : Int32), vr bS_3, vr bS_5, vr bS_7, vr b9, vr b26, vr bS_3] [(.int 1)] _
          exact retN X31 hx (t := .boolean) Bd.returns (by simp) (hb hby at_162) hr
        · show Q_rm0 n0 _ T31.heap _
          rw [e31]
          exact ⟨rfl, N31⟩
      · obtain ⟨T32, h32, X32, e32, E32, A32, D32, -, st32⟩ := newO X19 hx hZ7 hown7 (Wd hw 58 rfl) (Wd hw 59 rfl) (Wd hw 60 rfl) rfl (g := mkF m 109 #[vi p0, vi p1, vi p2, vi p3, vi ((1 : Int32) + ((p3 &&& (3 : Int32)) % (3 : Int32))), vi (0 : Int32), vr bS_3, vr bS_5, vr bS_7, vr b9, .unset, .unset] [(.ref b9)]) rfl (hb hby at_109) (by decide) (by decide)
        obtain ⟨b32, g32⟩ : ∃ z, z = T19.heap.size := ⟨_, rfl⟩
        rw [← g32] at A32 D32 st32
        have g_b32 : n0 ≤ b32 := lTr (own_sz O19) (lEq g32.symm)
        have H_33 := H_20.ext E32
        have R_33 := R_20.trans (CHr.ext E32 H_20)
        have O32 := O19.ext E32
        have F_pointer_b32 : Fld Z h32 b32 "com/example/grantline/grantline/PolicyException$Problem" "pointer" "Ljava/lang/String;" .null := D32 (Or.inr (Wd hw 71 rfl)) (ty := (.object "java/lang/String")) (by decide)
        have F_description_b32 : Fld Z h32 b32 "com/example/grantline/grantline/PolicyException$Problem" "description" "Ljava/lang/String;" .null := D32 (Or.inr (Wd hw 73 rfl)) (ty := (.object "java/lang/String")) (by decide)
        obtain ⟨_, _, ⟨T34, L34, k34, n34⟩, -, X34, ⟨Lc34, hQ34, l34, y34, z34⟩, st34⟩ := X32.specialBack hx (y := MN_27) rfl hown7 (mvT hZ7 (Wd hw 61 rfl)) (mvT hZ7 (Wd hw 62 rfl)) (mvT hZ7 (Wd hw 63 rfl)) (by decide) (backOf (W := 2) (rmPi l Z a0 hw [] cS aDE kDE aUS aSS aIE mO b32 bS_7 bS_5 h32 n0 O32 GL A32 F_pointer_b32 F_description_b32 g_b32) hZ7 (Wd hw 63 rfl) (Wd hw 60 rfl) (by decide) (by decide)) (g := mkF m 117 #[vi p0, vi p1, vi p2, vi p3, vi ((1 : Int32) + ((p3 &&& (3 : Int32)) % (3 : Int32))), vi (0 : Int32), vr bS_3, vr bS_5, vr bS_7, vr b9, .unset, .unset] [(.ref bS_5), (.ref bS_7), (.ref b32), (.ref b32), (.ref b9)]) rfl (by rw [hml]; rfl) (Steps.refl _) (a := b32) (argsL := [(.ref bS_7), (.ref bS_5)]) (rest := [(.ref b32), (.ref b9)]) (lenOf pdv37 rfl) rfl (by show 2 * 0 + _ ≤ _; exact lEq rfl) (hb hby at_117) (fun _ _ => ⟨rfl, e32, (by decide : 13 + 0 ≤ _), (by decide : 41 + 0 ≤ _)⟩)
        dsimp only [Pt.U, Pt.locs, Pt.cells, Pt.slots] at X34 l34 y34 z34 st34 hQ34
        subst l34 y34 z34
        obtain ⟨rfl, N34q, Kc34, P34_0, P34_1, P34_2⟩ := hQ34
        have O34 := O32.keep Kc34 (allS g_b32 all0)
        have Sf36 : Safe Z EL1 T7.vm h32 b32 := Safe.exa (EL := EL1) hZ7.alike A32 (by decide) (by decide)
        have H_35 := H_33.keep Kc34 (sfS Sf36 sf0)
        have R_35 := R_33.trans (CHr.keep Kc34 (sfS Sf36 sf0) H_33)
        have N34 := Fr.app N19 N34q
        obtain ⟨cq37, kq37, q37a, q37b, q37c⟩ := isOf hZ7 rfl ((P19_4.ext E32).keep Kc34)
        obtain ⟨_, _, ⟨T37, L37, k37, n37⟩, -, X37, ⟨Lc37, hQ37, l37, y37, z37⟩, st37⟩ := X34.virtualBack hx (y := MN_37) (z := MN_37) hown7 (mvT hZ7 (Wd hw 74 rfl)) (mvT hZ7 (Wd hw 75 rfl)) (notFace_of_selects (args := #[]) (mvT hZ7 (Wd hw 77 rfl))) (mvT hZ7 (Wd hw 77 rfl)) (mvT hZ7 (Wd hw 76 rfl)) (by decide) (backOf (W := 0) (rmA1_1 l Z a0 hw [] cS aDE kDE aUS aSS aIE mO b9 b32 b_19 (((0 : Int32) + (1 : Int32))) kb_19 b14 (T34.heap) n0 O34 GL ((P19_4.ext E32).keep Kc34) ((P19_5.ext E32).keep Kc34 (ninS (nLt (lLt (lLt A9.lt (lTr (lTr (lTr Kc11.1 E14.1) Kc16.1) Kc19.1)) (lEq g32.symm))) nin0)) ((P19_6.ext E32).keep Kc34 (ninS (nLt (lLt (lLt A9.lt (lTr (lTr (lTr Kc11.1 E14.1) Kc16.1) Kc19.1)) (lEq g32.symm))) nin0)) ((P19_7.ext E32).keep Kc34 (ninS (nLt (lLt (lLt A9.lt (lTr (lTr (lTr Kc11.1 E14.1) Kc16.1) Kc19.1)) (lEq g32.symm))) nin0)) g_b9 P34_0 ((P19_1.ext E32).keep Kc34) ((P19_2.ext E32).keep Kc34 (ninS (nLt (lLt P19_1.lt (lEq g32.symm))) nin0)) P19_3 g_b_19) hZ7 (Wd hw 78 rfl) (Wd hw 36 rfl) (by decide) (by decide)) q37a q37c (g := mkF m 120 #[vi p0, vi p1, vi p2, vi p3, vi ((1 : Int32) + ((p3 &&& (3 : Int32)) % (3 : Int32))), vi (0 : Int32), vr bS_3, vr bS_5, vr bS_7, vr b9, .unset, .unset] [(.ref b32), (.ref b9)]) rfl (by rw [hml]; rfl) (Steps.refl _) (argsL := [(.ref b32)]) (rest := []) (lenOf pdv38 rfl) rfl (by show 2 * 0 + _ ≤ _; exact lEq rfl) (hb hby at_120) (fun _ _ => ⟨rfl, rfl, (by decide : 13 + 0 ≤ _), (by decide : 41 + 0 ≤ _)⟩)
        dsimp only [Pt.U, Pt.locs, Pt.cells, Pt.slots] at X37 l37 y37 z37 st37 hQ37
        subst l37 y37 z37
        obtain ⟨rfl, N37q, Kc37, P37_0, P37_1, P37_2, P37_3, P37_4, P37_5, P37_6⟩ := hQ37
        have O37 := O34.keep Kc37 (allS g_b9 (allS g_b_19 all0))
        have Sf39 : Safe Z EL1 T7.vm T34.heap b_19 := Safe.exa (EL := EL1) hZ7.alike ((P19_1.ext E32).keep Kc34) (by decide) (by decide)
        have Sf40 : Safe Z EL1 T7.vm T34.heap b9 := Safe.exa (EL := EL1) hZ7.alike ((P19_4.ext E32).keep Kc34) (by decide) (by decide)
        have H_38 := H_35.keep Kc37 (sfS Sf40 (sfS Sf39 sf0))
        have R_38 := R_35.trans (CHr.keep Kc37 (sfS Sf40 (sfS Sf39 sf0)) H_35)
        have N37 := Fr.app N34 N37q
        obtain ⟨T41, h41, X41, e41, E41, A41, D41, U41, st41⟩ := newO X37 hx hZ7 hown7 (Wd hw 105 rfl) (Wd hw 106 rfl) (Wd hw 107 rfl) rfl (g := mkF m 124 #[vi p0, vi p1, vi p2, vi p3, vi ((1 : Int32) + ((p3 &&& (3 : Int32)) % (3 : Int32))), vi (0 : Int32), vr bS_3, vr bS_5, vr bS_7, vr b9, .unset, .unset] []) rfl (hb hby at_124) (by decide) (by decide)
        obtain ⟨b41, g41⟩ : ∃ z, z = T37.heap.size := ⟨_, rfl⟩
        rw [← g41] at A41 D41 U41 st41
        have g_b41 : n0 ≤ b41 := lTr (own_sz O37) (lEq g41.symm)
        have H_42 := H_38.ext E41
        have R_42 := R_38.trans (CHr.ext E41 H_38)
        have O41 := O37.ext E41
        have F_cause_b41 : Fld Z h41 b41 "java/lang/Throwable" "cause" "Ljava/lang/Throwable;" .null := D41 (Or.inl (Wd hw 276 rfl)) (ty := (.object "java/lang/Throwable")) (by decide)
        have F_stackTrace_b41 : Fld Z h41 b41 "java/lang/Throwable" "stackTrace" "[Ljava/lang/StackTraceElement;" .null := D41 (Or.inl (Wd hw 279 rfl)) (ty := (.array (.object "java/lang/StackTraceElement"))) (by decide)
        have F_suppressedExceptions_b41 : Fld Z h41 b41 "java/lang/Throwable" "suppressedExceptions" "Ljava/util/List;" .null := D41 (Or.inl (Wd hw 282 rfl)) (ty := (.object "java/util/List")) (by decide)
        have F_detailMessage_b41 : Fld Z h41 b41 "java/lang/Throwable" "detailMessage" "Ljava/lang/String;" .null := D41 (Or.inl (Wd hw 305 rfl)) (ty := (.object "java/lang/String")) (by decide)
        have F_backtrace_b41 : Fld Z h41 b41 "java/lang/Throwable" "backtrace" "Ljava/lang/Object;" .null := D41 (Or.inl (Wd hw 306 rfl)) (ty := (.object "java/lang/Object")) (by decide)
        have F_depth_b41 : Fld Z h41 b41 "java/lang/Throwable" "depth" "I" (.int 0) := D41 (Or.inl (Wd hw 307 rfl)) (ty := .int) (by decide)
        have F_problems_b41 : Fld Z h41 b41 "com/example/grantline/grantline/PolicyException" "problems" "Ljava/util/List;" .null := D41 (Or.inr (Wd hw 383 rfl)) (ty := (.object "java/util/List")) (by decide)
        obtain ⟨_, _, ⟨T43, L43, k43, n43⟩, -, X43', hS43', hg43, ⟨Lc43, hQ43, l43, y43, z43, Rs43⟩, st43⟩ := X41.specialBackS hx (y := MN_63) rfl hown7 (mvT hZ7 (Wd hw 108 rfl)) (mvT hZ7 (Wd hw 109 rfl)) (mvT hZ7 (Wd hw 110 rfl)) (by decide) (backOfSKH (W := 1) (rmX_2 l Z a0 hw [] hlt cS aDE kDE aUS aSS aIE mO b41 b9 b_19 kb_19 b14 b32 bS_3 vS_3 kS_3 nS_3 lS_3 bS_7 vS_7 kS_7 nS_7 lS_7 h41 n0 O41 GL A41 U41 F_cause_b41 F_stackTrace_b41 F_suppressedExceptions_b41 F_detailMessage_b41 F_backtrace_b41 F_problems_b41 g_b41 (P37_3.ext E41) (P37_4.ext E41) (P37_5.ext E41) (P37_0.ext E41) (P37_1.ext E41) (((((P16_0.keep Kc19).ext E32).keep Kc34).keep Kc37).ext E41) ((P34_0.keep Kc37).ext E41) (((((P16_1.keep Kc19 (ninS (Ne.symm (nLt (lLt (lLt A9.lt Kc11.1) (lEq g14.symm)))) nin0)).ext E32).keep Kc34 (ninS (nLt (lLt (lLt A14.lt (lTr Kc16.1 Kc19.1)) (lEq g32.symm))) nin0)).keep Kc37 (ninS (Ne.symm (nLt (lLt (lLt A9.lt Kc11.1) (lEq g14.symm)))) (ninS (nLt (lLt (lLt A14.lt Kc16.1) P19_0)) nin0))).ext E41) (((((P16_2.keep Kc19 (ninS (Ne.symm (nLt (lLt (lLt A9.lt Kc11.1) (lEq g14.symm)))) nin0)).ext E32).keep Kc34 (ninS (nLt (lLt (lLt A14.lt (lTr Kc16.1 Kc19.1)) (lEq g32.symm))) nin0)).keep Kc37 (ninS (Ne.symm (nLt (lLt (lLt A9.lt Kc11.1) (lEq g14.symm)))) (ninS (nLt (lLt (lLt A14.lt Kc16.1) P19_0)) nin0))).ext E41) (((((((((((P3_0.keep Kc5).keep Kc7).ext E9).keep Kc11).ext E14).keep Kc16).keep Kc19).ext E32).keep Kc34).keep Kc37).ext E41) (((((((((((P3_1.keep Kc5 nin0).keep Kc7 nin0).ext E9).keep Kc11 (ninS (nLt (lLt (lLt P3_0.lt (lTr Kc5.1 Kc7.1)) (lEq g9.symm))) nin0)).ext E14).keep Kc16 (ninS (nLt (lLt (lLt P3_0.lt (lTr (lTr (lTr Kc5.1 Kc7.1) E9.1) Kc11.1)) (lEq g14.symm))) nin0)).keep Kc19 (ninS (nLt (lLt (lLt P3_0.lt (lTr Kc5.1 Kc7.1)) (lEq g9.symm))) nin0)).ext E32).keep Kc34 (ninS (nLt (lLt (lLt P3_0.lt (lTr (lTr (lTr (lTr (lTr (lTr Kc5.1 Kc7.1) E9.1) Kc11.1) E14.1) Kc16.1) Kc19.1)) (lEq g32.symm))) nin0)).keep Kc37 (ninS (nLt (lLt (lLt P3_0.lt (lTr Kc5.1 Kc7.1)) (lEq g9.symm))) (ninS (nLt (lLt (lLt P3_0.lt (lTr (lTr (lTr (lTr (lTr Kc5.1 Kc7.1) E9.1) Kc11.1) E14.1) Kc16.1)) P19_0)) nin0))).ext E41) (((((((((((P3_2.keep Kc5 nin0).keep Kc7 nin0).ext E9).keep Kc11 (ninS (nLt (lLt (lLt P3_0.lt (lTr Kc5.1 Kc7.1)) (lEq g9.symm))) nin0)).ext E14).keep Kc16 (ninS (nLt (lLt (lLt P3_0.lt (lTr (lTr (lTr Kc5.1 Kc7.1) E9.1) Kc11.1)) (lEq g14.symm))) nin0)).keep Kc19 (ninS (nLt (lLt (lLt P3_0.lt (lTr Kc5.1 Kc7.1)) (lEq g9.symm))) nin0)).ext E32).keep Kc34 (ninS (nLt (lLt (lLt P3_0.lt (lTr (lTr (lTr (lTr (lTr (lTr Kc5.1 Kc7.1) E9.1) Kc11.1) E14.1) Kc16.1) Kc19.1)) (lEq g32.symm))) nin0)).keep Kc37 (ninS (nLt (lLt (lLt P3_0.lt (lTr Kc5.1 Kc7.1)) (lEq g9.symm))) (ninS (nLt (lLt (lLt P3_0.lt (lTr (lTr (lTr (lTr (lTr Kc5.1 Kc7.1) E9.1) Kc11.1) E14.1) Kc16.1)) P19_0)) nin0))).ext E41) (((((((((((P3_3.keep Kc5 nin0).keep Kc7 nin0).ext E9).keep Kc11 (ninS (nLt (lLt (lLt P3_3.lt (lTr Kc5.1 Kc7.1)) (lEq g9.symm))) nin0)).ext E14).keep Kc16 (ninS (nLt (lLt (lLt P3_3.lt (lTr (lTr (lTr Kc5.1 Kc7.1) E9.1) Kc11.1)) (lEq g14.symm))) nin0)).keep Kc19 (ninS (nLt (lLt (lLt P3_3.lt (lTr Kc5.1 Kc7.1)) (lEq g9.symm))) nin0)).ext E32).keep Kc34 (ninS (nLt (lLt (lLt P3_3.lt (lTr (lTr (lTr (lTr (lTr (lTr Kc5.1 Kc7.1) E9.1) Kc11.1) E14.1) Kc16.1) Kc19.1)) (lEq g32.symm))) nin0)).keep Kc37 (ninS (nLt (lLt (lLt P3_3.lt (lTr Kc5.1 Kc7.1)) (lEq g9.symm))) (ninS (nLt (lLt (lLt P3_3.lt (lTr (lTr (lTr (lTr (lTr Kc5.1 Kc7.1) E9.1) Kc11.1) E14.1) Kc16.1)) P19_0)) nin0))).ext E41) (((((((((P7_0.ext E9).keep Kc11).ext E14).keep Kc16).keep Kc19).ext E32).keep Kc34).keep Kc37).ext E41) (((((((((P7_1.ext E9).keep Kc11 (ninS (nLt (lLt P7_0.lt (lEq g9.symm))) nin0)).ext E14).keep Kc16 (ninS (nLt (lLt (lLt P7_0.lt (lTr E9.1 Kc11.1)) (lEq g14.symm))) nin0)).keep Kc19 (ninS (nLt (lLt P7_0.lt (lEq g9.symm))) nin0)).ext E32).keep Kc34 (ninS (nLt (lLt (lLt P7_0.lt (lTr (lTr (lTr (lTr E9.1 Kc11.1) E14.1) Kc16.1) Kc19.1)) (lEq g32.symm))) nin0)).keep Kc37 (ninS (nLt (lLt P7_0.lt (lEq g9.symm))) (ninS (nLt (lLt (lLt P7_0.lt (lTr (lTr (lTr E9.1 Kc11.1) E14.1) Kc16.1)) P19_0)) nin0))).ext E41) (((((((((P7_2.ext E9).keep Kc11 (ninS (nLt (lLt P7_0.lt (lEq g9.symm))) nin0)).ext E14).keep Kc16 (ninS (nLt (lLt (lLt P7_0.lt (lTr E9.1 Kc11.1)) (lEq g14.symm))) nin0)).keep Kc19 (ninS (nLt (lLt P7_0.lt (lEq g9.symm))) nin0)).ext E32).keep Kc34 (ninS (nLt (lLt (lLt P7_0.lt (lTr (lTr (lTr (lTr E9.1 Kc11.1) E14.1) Kc16.1) Kc19.1)) (lEq g32.symm))) nin0)).keep Kc37 (ninS (nLt (lLt P7_0.lt (lEq g9.symm))) (ninS (nLt (lLt (lLt P7_0.lt (lTr (lTr (lTr E9.1 Kc11.1) E14.1) Kc16.1)) P19_0)) nin0))).ext E41) (((((((((P7_3.ext E9).keep Kc11 (ninS (nLt (lLt P7_3.lt (lEq g9.symm))) nin0)).ext E14).keep Kc16 (ninS (nLt (lLt (lLt P7_3.lt (lTr E9.1 Kc11.1)) (lEq g14.symm))) nin0)).keep Kc19 (ninS (nLt (lLt P7_3.lt (lEq g9.symm))) nin0)).ext E32).keep Kc34 (ninS (nLt (lLt (lLt P7_3.lt (lTr (lTr (lTr (lTr E9.1 Kc11.1) E14.1) Kc16.1) Kc19.1)) (lEq g32.symm))) nin0)).keep Kc37 (ninS (nLt (lLt P7_3.lt (lEq g9.symm))) (ninS (nLt (lLt (lLt P7_3.lt (lTr (lTr (lTr E9.1 Kc11.1) E14.1) Kc16.1)) P19_0)) nin0))).ext E41) P3_4 P3_5 P7_4 P7_5) hZ7 (Wd hw 110 rfl) (Wd hw 107 rfl) (by decide) (by decide) (own_EW hw) H_42 (hTK.alikeC (hZ.alike.symm.trans hZ7.alike)) (hBW.alikeC (hZ.alike.symm.trans hZ7.alike))) (g := mkF m 130 #[vi p0, vi p1, vi p2, vi p3, vi ((1 : Int32) + ((p3 &&& (3 : Int32)) % (3 : Int32))), vi (0 : Int32), vr bS_3, vr bS_5, vr bS_7, vr b9, .unset, .unset] [(.ref b9), (.ref b41), (.ref b41)]) rfl (by rw [hml]; rfl) (Steps.refl _) (a := b41) (argsL := [(.ref b9)]) (rest := [(.ref b41)]) (lenOf pdv39 rfl) rfl (by show 2 * 0 + _ ≤ _; exact lEq rfl) (hb hby at_130) (fun _ _ => ⟨rfl, e41, (by decide : 14 + 9 ≤ _), (by decide : 48 + 2808 ≤ _)⟩)
        dsimp only [Pt.U, Pt.locs, Pt.cells, Pt.slots] at X43' l43 y43 z43 st43 hQ43 hS43' hg43 Rs43
        subst l43 y43 z43
        obtain ⟨X43, hS43, hZ43, hown43⟩ := rebS hS7 (by rw [e41]; exact (lTr (lTr (lTr (lTr (lTr (lTr (lTr (lTr (lTr (Nat.le_refl _) E9.1) Kc11.1) E14.1) Kc16.1) Kc19.1) E32.1) Kc34.1) Kc37.1) E41.1)) X43' hS43' hg43 hZ7 hown7
        obtain ⟨b_43, rfl, N43q, Kc43, P43_0, P43_1, P43_2, P43_3⟩ := hQ43
        have O43 := O41.keep Kc43 (allS g_b41 all0)
        have H_44 := Rs43.1
        have R_44 := R_42.trans Rs43
        have N43 := Fr.app N37 N43q
        obtain ⟨cq45, kq45, q45a, q45b, q45c⟩ := isOf hZ43 rfl P43_0
        obtain ⟨_, _, ⟨T45, L45, k45, n45⟩, -, X45, ⟨Lc45, hQ45, l45, y45, z45⟩, st45⟩ := X43.virtualBack hx (y := MN_66) (z := MN_66) hown43 (mvT hZ43 (Wd hw 384 rfl)) (mvT hZ43 (Wd hw 385 rfl)) (notFace_of_selects (args := #[]) (mvT hZ43 (Wd hw 387 rfl))) (mvT hZ43 (Wd hw 387 rfl)) (mvT hZ43 (Wd hw 386 rfl)) (by decide) (backOf (W := 0) (rmP12 l Z a0 hw [] cS aDE kDE aUS aSS aIE mO b41 b_43 b14 bS_3 (T43.heap) n0 O43 GL P43_2 P43_3 P43_1 ((((((P16_0.keep Kc19).ext E32).keep Kc34).keep Kc37).ext E41).keep Kc43) ((((((P16_1.keep Kc19 (ninS (Ne.symm (nLt (lLt (lLt A9.lt Kc11.1) (lEq g14.symm)))) nin0)).ext E32).keep Kc34 (ninS (nLt (lLt (lLt A14.lt (lTr Kc16.1 Kc19.1)) (lEq g32.symm))) nin0)).keep Kc37 (ninS (Ne.symm (nLt (lLt (lLt A9.lt Kc11.1) (lEq g14.symm)))) (ninS (nLt (lLt (lLt A14.lt Kc16.1) P19_0)) nin0))).ext E41).keep Kc43 (ninS (nLt (lLt (lLt A14.lt (lTr (lTr (lTr (lTr Kc16.1 Kc19.1) E32.1) Kc34.1) Kc37.1)) (lEq g41.symm))) nin0))) hZ43 (Wd hw 388 rfl) (Wd hw 107 rfl) (by decide) (by decide)) q45a q45c (g := mkF m 137 #[vi p0, vi p1, vi p2, vi p3, vi ((1 : Int32) + ((p3 &&& (3 : Int32)) % (3 : Int32))), vi (0 : Int32), vr bS_3, vr bS_5, vr bS_7, vr b9, vr b41, .unset] [(.ref b41)]) rfl (by rw [hml]; rfl) (Steps.refl _) (argsL := []) (rest := []) (lenOf pdv20 rfl) rfl (by show 2 * 0 + _ ≤ _; exact lEq rfl) (hb hby at_137) (fun _ _ => ⟨rfl, rfl, (by decide : 23 + 0 ≤ _), (by decide : 2856 + 0 ≤ _)⟩)
        dsimp only [Pt.U, Pt.locs, Pt.cells, Pt.slots] at X45 l45 y45 z45 st45 hQ45
        subst l45 y45 z45
        obtain ⟨rfl, N45q, e45⟩ := hQ45
        have N45 := Fr.app N43 N45q
        obtain ⟨cq46, kq46, q46a, q46b, q46c⟩ := isOf hZ43 e45 ((((((((((((P3_0.keep Kc5).keep Kc7).ext E9).keep Kc11).ext E14).keep Kc16).keep Kc19).ext E32).keep Kc34).keep Kc37).ext E41).keep Kc43)
        obtain ⟨_, _, ⟨T46, L46, k46, n46⟩, -, X46, ⟨Lc46, hQ46, l46, y46, z46⟩, st46⟩ := X45.virtualBack hx (y := MN_67) (z := MN_67) hown43 (mvT hZ43 (Wd hw 400 rfl)) (mvT hZ43 (Wd hw 401 rfl)) (notFace_of_selects (args := #[]) (mvT hZ43 (Wd hw 403 rfl))) (mvT hZ43 (Wd hw 403 rfl)) (mvT hZ43 (Wd hw 402 rfl)) (by decide) (backOf (W := 0) (rmEq l Z a0 hw [] cS aDE kDE aUS aSS aIE mO bS_3 (T43.heap) n0 O43 GL) hZ43 (Wd hw 404 rfl) (Wd hw 7 rfl) (by decide) (by decide)) q46a q46c (g := mkF m 151 #[vi p0, vi p1, vi p2, vi p3, vi ((1 : Int32) + ((p3 &&& (3 : Int32)) % (3 : Int32))), vi (0 : Int32), vr bS_3, vr bS_5, vr bS_7, vr b9, vr b41, vr bS_3] [(.ref bS_3), (.ref bS_3)]) rfl (by rw [hml]; rfl) (Steps.refl _) (argsL := [(.ref bS_3)]) (rest := []) (lenOf pdv38 rfl) rfl (by show 2 * 0 + _ ≤ _; exact lEq rfl) (hb hby at_151) (fun _ _ => ⟨rfl, e45, (by decide : 23 + 0 ≤ _), (by decide : 2856 + 0 ≤ _)⟩)
        dsimp only [Pt.U, Pt.locs, Pt.cells, Pt.slots] at X46 l46 y46 z46 st46 hQ46
        subst l46 y46 z46
        obtain ⟨rfl, N46q, e46⟩ := hQ46
        have N46 := Fr.app N45 N46q
        obtain ⟨fs, hr, hrun, hended, hRW⟩ := X46.leaveW hS43 (by rw [e46]; exact (Nat.le_refl _)) (v := some (.int 1)) (fun h => by rw [Bd.returns] at h; cases h)
        have hCR : CHr Z EL1 s.vm s.heap T46.vm T46.heap := by
          rw [hh, e46]
          exact R_44.trans (CHv.at X46 hZ43 (own_EW hw) H_44)
        refine ⟨_, _, pre25 _ ?_, hrun, hended, _, _, rfl, ?_, hCR, hRW.1, hRW.2.1, hRW.2.2.1, hRW.2.2.2.mono (by decide) (by decide)⟩
        · show SP p e below T19 m 104 #[vi p0, vi p1, vi p2, vi p3, vi ((1 : Int32) + ((p3 &&& (3 : Int32)) % (3 : Int32))), vi (0 : Int32), vr bS_3, vr bS_5, vr bS_7, vr b9, .unset, .unset] [(.int 3), (.int ((1 : Int32) + ((p3 &&& (3 : Int32)) % (3 : Int32))))] _
          refine XS.icmpNo X19.here hx rfl (hb hby at_104) rfl (flt hc104_24).1 ?_
          refine XS.aload X19.here hx rfl (hb hby at_107) rfl rfl ?_
          show SP p e below T19 m 109 #[vi p0, vi p1, vi p2, vi p3, vi ((1 : Int32) + ((p3 &&& (3 : Int32)) % (3 : Int32))), vi (0 : Int32), vr bS_3, vr bS_5, vr bS_7, vr b9, .unset, .unset] [(.ref b9)] _
          refine st32 _ ?_
          show SP p e below T32 m 112 #[vi p0, vi p1, vi p2, vi p3, vi ((1 : Int32) + ((p3 &&& (3 : Int32)) % (3 : Int32))), vi (0 : Int32), vr bS_3, vr bS_5, vr bS_7, vr b9, .unset, .unset] [(.ref b32), (.ref b9)] _
          refine XS.dup X32.here hx rfl (hb hby at_112) rfl rfl ?_
          refine XS.aload X32.here hx rfl (hb hby at_113) rfl rfl ?_
          refine XS.aload X32.here hx rfl (hb hby at_115) rfl rfl ?_
          show SP p e below T32 m 117 #[vi p0, vi p1, vi p2, vi p3, vi ((1 : Int32) + ((p3 &&& (3 : Int32)) % (3 : Int32))), vi (0 : Int32), vr bS_3, vr bS_5, vr bS_7, vr b9, .unset, .unset] [(.ref bS_5), (.ref bS_7), (.ref b32), (.ref b32), (.ref b9)] _
          refine st34.trans ?_
          show SP p e below T34 m 120 #[vi p0, vi p1, vi p2, vi p3, vi ((1 : Int32) + ((p3 &&& (3 : Int32)) % (3 : Int32))), vi (0 : Int32), vr bS_3, vr bS_5, vr bS_7, vr b9, .unset, .unset] [(.ref b32), (.ref b9)] _
          refine st37.trans ?_
          show SP p e below T37 m 123 #[vi p0, vi p1, vi p2, vi p3, vi ((1 : Int32) + ((p3 &&& (3 : Int32)) % (3 : Int32))), vi (0 : Int32), vr bS_3, vr bS_5, vr bS_7, vr b9, .unset, .unset] [(.int 1)] _
          refine XS.pop X37.here hx rfl (hb hby at_123) rfl rfl ?_
          show SP p e below T37 m 124 #[vi p0, vi p1, vi p2, vi p3, vi ((1 : Int32) + ((p3 &&& (3 : Int32)) % (3 : Int32))), vi (0 : Int32), vr bS_3, vr bS_5, vr bS_7, vr b9, .unset, .unset] [] _
          refine st41 _ ?_
          show SP p e below T41 m 127 #[vi p0, vi p1, vi p2, vi p3, vi ((1 : Int32) + ((p3 &&& (3 : Int32)) % (3 : Int32))), vi (0 : Int32), vr bS_3, vr bS_5, vr bS_7, vr b9, .unset, .unset] [(.ref b41)] _
          refine XS.dup X41.here hx rfl (hb hby at_127) rfl rfl ?_
          refine XS.aload X41.here hx rfl (hb hby at_128) rfl rfl ?_
          show SP p e below T41 m 130 #[vi p0, vi p1, vi p2, vi p3, vi ((1 : Int32) + ((p3 &&& (3 : Int32)) % (3 : Int32))), vi (0 : Int32), vr bS_3, vr bS_5, vr bS_7, vr b9, .unset, .unset] [(.ref b9), (.ref b41), (.ref b41)] _
          refine st43.trans ?_
          show SP p e below T43 m 133 #[vi p0, vi p1, vi p2, vi p3, vi ((1 : Int32) + ((p3 &&& (3 : Int32)) % (3 : Int32))), vi (0 : Int32), vr bS_3, vr bS_5, vr bS_7, vr b9, .unset, .unset] [(.ref b41)] _
          refine XS.astore X43.here hx rfl (hb hby at_133) rfl rfl (l' := #[vi p0, vi p1, vi p2, vi p3, vi ((1 : Int32) + ((p3 &&& (3 : Int32)) % (3 : Int32))), vi (0 : Int32), vr bS_3, vr bS_5, vr bS_7, vr b9, vr b41, .unset]) rfl ?_
          refine XS.aload X43.here hx rfl (hb hby at_135) rfl rfl ?_
          show SP p e below T43 m 137 #[vi p0, vi p1, vi p2, vi p3, vi ((1 : Int32) + ((p3 &&& (3 : Int32)) % (3 : Int32))), vi (0 : Int32), vr bS_3, vr bS_5, vr bS_7, vr b9, vr b41, .unset] [(.ref b41)] _
          refine st45.trans ?_
          show SP p e below T45 m 140 #[vi p0, vi p1, vi p2, vi p3, vi ((1 : Int32) + ((p3 &&& (3 : Int32)) % (3 : Int32))), vi (0 : Int32), vr bS_3, vr bS_5, vr bS_7, vr b9, vr b41, .unset] [(.ref bS_3)] _
          refine XS.astore X45.here hx rfl (hb hby at_140) rfl rfl (l' := #[vi p0, vi p1, vi p2, vi p3, vi ((1 : Int32) + ((p3 &&& (3 : Int32)) % (3 : Int32))), vi (0 : Int32), vr bS_3, vr bS_5, vr bS_7, vr b9, vr b41, vr bS_3]) rfl ?_
          refine XS.aload X45.here hx rfl (hb hby at_142) rfl rfl ?_
          refine XS.ifnullNo X45.here hx rfl (hb hby at_144) rfl ?_
          refine XS.aload X45.here hx rfl (hb hby at_147) rfl rfl ?_
          refine XS.aload X45.here hx rfl (hb hby at_149) rfl rfl ?_
          show SP p e below T45 m 151 #[vi p0, vi p1, vi p2, vi p3, vi ((1 : Int32) + ((p3 &&& (3 : Int32)) % (3 : Int32))), vi (0 : Int32), vr bS_3, vr bS_5, vr bS_7, vr b9, vr b41, vr bS_3] [(.ref bS_3), (.ref bS_3)] _
          refine st46.trans ?_
          show SP p e below T46 m 154 #[vi p0, vi p1, vi p2, vi p3, vi ((1 : Int32) + ((p3 &&& (3 : Int32)) % (3 : Int32))), vi (0 : Int32), vr bS_3, vr bS_5, vr bS_7, vr b9, vr b41, vr bS_3] [(.int 1)] _
          refine XS.ifNo X46.here hx rfl (hb hby at_154) rfl ((if0 _ _).trans (feq (by decide : ¬ ((1 : Int32) = (0 : Int32)))).1) ?_
          refine XS.iconst X46.here hx rfl (hb hby at_157) ?_
          refine XS.goto X46.here hx rfl (pc0 := 158) (pc' := 162) rfl (hb hby at_158) (by decide) (by decide) ?_
          show SP p e below T46 m 162 #[vi p0, vi p1, vi p2, vi p3, vi ((1 : Int32) + ((p3 &&& (3 : Int32)) % (3 : Int32))), vi (0 : Int32), vr bS_3, vr bS_5, vr bS_7, vr b9, vr b41, vr bS_3] [(.int 1)] _
          exact retN X46 hx (t := .boolean) Bd.returns (by simp) (hb hby at_162) hr
        · show Q_rm0 n0 _ T46.heap _
          rw [e46]
          exact ⟨rfl, N46⟩
    · obtain ⟨T47, h47, X47, e47, E47, A47, D47, -, st47⟩ := newO X19 hx hZ7 hown7 (Wd hw 58 rfl) (Wd hw 59 rfl) (Wd hw 60 rfl) rfl (g := mkF m 86 #[vi p0, vi p1, vi p2, vi p3, vi ((1 : Int32) + ((p3 &&& (3 : Int32)) % (3 : Int32))), vi (0 : Int32), vr bS_3, vr bS_5, vr bS_7, vr b9, .unset, .unset] [(.ref b9)]) rfl (hb hby at_86) (by decide) (by decide)
      obtain ⟨b47, g47⟩ : ∃ z, z = T19.heap.size := ⟨_, rfl⟩
      rw [← g47] at A47 D47 st47
      have g_b47 : n0 ≤ b47 := lTr (own_sz O19) (lEq g47.symm)
      have H_48 := H_20.ext E47
      have R_48 := R_20.trans (CHr.ext E47 H_20)
      have O47 := O19.ext E47
      have F_pointer_b47 : Fld Z h47 b47 "com/example/grantline/grantline/PolicyException$Problem" "pointer" "Ljava/lang/String;" .null := D47 (Or.inr (Wd hw 71 rfl)) (ty := (.object "java/lang/String")) (by decide)
      have F_description_b47 : Fld Z h47 b47 "com/example/grantline/grantline/PolicyException$Problem" "description" "Ljava/lang/String;" .null := D47 (Or.inr (Wd hw 73 rfl)) (ty := (.object "java/lang/String")) (by decide)
      obtain ⟨_, _, ⟨T49, L49, k49, n49⟩, -, X49, ⟨Lc49, hQ49, l49, y49, z49⟩, st49⟩ := X47.specialBack hx (y := MN_27) rfl hown7 (mvT hZ7 (Wd hw 61 rfl)) (mvT hZ7 (Wd hw 62 rfl)) (mvT hZ7 (Wd hw 63 rfl)) (by decide) (backOf (W := 2) (rmPi l Z a0 hw [] cS aDE kDE aUS aSS aIE mO b47 bS_5 bS_3 h47 n0 O47 GL A47 F_pointer_b47 F_description_b47 g_b47) hZ7 (Wd hw 63 rfl) (Wd hw 60 rfl) (by decide) (by decide)) (g := mkF m 94 #[vi p0, vi p1, vi p2, vi p3, vi ((1 : Int32) + ((p3 &&& (3 : Int32)) % (3 : Int32))), vi (0 : Int32), vr bS_3, vr bS_5, vr bS_7, vr b9, .unset, .unset] [(.ref bS_3), (.ref bS_5), (.ref b47), (.ref b47), (.ref b9)]) rfl (by rw [hml]; rfl) (Steps.refl _) (a := b47) (argsL := [(.ref bS_5), (.ref bS_3)]) (rest := [(.ref b47), (.ref b9)]) (lenOf pdv37 rfl) rfl (by show 2 * 0 + _ ≤ _; exact lEq rfl) (hb hby at_94) (fun _ _ => ⟨rfl, e47, (by decide : 13 + 0 ≤ _), (by decide : 41 + 0 ≤ _)⟩)
      dsimp only [Pt.U, Pt.locs, Pt.cells, Pt.slots] at X49 l49 y49 z49 st49 hQ49
      subst l49 y49 z49
      obtain ⟨rfl, N49q, Kc49, P49_0, P49_1, P49_2⟩ := hQ49
      have O49 := O47.keep Kc49 (allS g_b47 all0)
      have Sf51 : Safe Z EL1 T7.vm h47 b47 := Safe.exa (EL := EL1) hZ7.alike A47 (by decide) (by decide)
      have H_50 := H_48.keep Kc49 (sfS Sf51 sf0)
      have R_50 := R_48.trans (CHr.keep Kc49 (sfS Sf51 sf0) H_48)
      have N49 := Fr.app N19 N49q
      obtain ⟨cq52, kq52, q52a, q52b, q52c⟩ := isOf hZ7 rfl ((P19_4.ext E47).keep Kc49)
      obtain ⟨_, _, ⟨T52, L52, k52, n52⟩, -, X52, ⟨Lc52, hQ52, l52, y52, z52⟩, st52⟩ := X49.virtualBack hx (y := MN_37) (z := MN_37) hown7 (mvT hZ7 (Wd hw 74 rfl)) (mvT hZ7 (Wd hw 75 rfl)) (notFace_of_selects (args := #[]) (mvT hZ7 (Wd hw 77 rfl))) (mvT hZ7 (Wd hw 77 rfl)) (mvT hZ7 (Wd hw 76 rfl)) (by decide) (backOf (W := 0) (rmA1_1 l Z a0 hw [] cS aDE kDE aUS aSS aIE mO b9 b47 b_19 (((0 : Int32) + (1 : Int32))) kb_19 b14 (T49.heap) n0 O49 GL ((P19_4.ext E47).keep Kc49) ((P19_5.ext E47).keep Kc49 (ninS (nLt (lLt (lLt A9.lt (lTr (lTr (lTr Kc11.1 E14.1) Kc16.1) Kc19.1)) (lEq g47.symm))) nin0)) ((P19_6.ext E47).keep Kc49 (ninS (nLt (lLt (lLt A9.lt (lTr (lTr (lTr Kc11.1 E14.1) Kc16.1) Kc19.1)) (lEq g47.symm))) nin0)) ((P19_7.ext E47).keep Kc49 (ninS (nLt (lLt (lLt A9.lt (lTr (lTr (lTr Kc11.1 E14.1) Kc16.1) Kc19.1)) (lEq g47.symm))) nin0)) g_b9 P49_0 ((P19_1.ext E47).keep Kc49) ((P19_2.ext E47).keep Kc49 (ninS (nLt (lLt P19_1.lt (lEq g47.symm))) nin0)) P19_3 g_b_19) hZ7 (Wd hw 78 rfl) (Wd hw 36 rfl) (by decide) (by decide)) q52a q52c (g := mkF m 97 #[vi p0, vi p1, vi p2, vi p3, vi ((1 : Int32) + ((p3 &&& (3 : Int32)) % (3 : Int32))), vi (0 : Int32), vr bS_3, vr bS_5, vr bS_7, vr b9, .unset, .unset] [(.ref b47), (.ref b9)]) rfl (by rw [hml]; rfl) (Steps.refl _) (argsL := [(.ref b47)]) (rest := []) (lenOf pdv38 rfl) rfl (by show 2 * 0 + _ ≤ _; exact lEq rfl) (hb hby at_97) (fun _ _ => ⟨rfl, rfl, (by decide : 13 + 0 ≤ _), (by decide : 41 + 0 ≤ _)⟩)
      dsimp only [Pt.U, Pt.locs, Pt.cells, Pt.slots] at X52 l52 y52 z52 st52 hQ52
      subst l52 y52 z52
      obtain ⟨rfl, N52q, Kc52, P52_0, P52_1, P52_2, P52_3, P52_4, P52_5, P52_6⟩ := hQ52
      have O52 := O49.keep Kc52 (allS g_b9 (allS g_b_19 all0))
      have Sf54 : Safe Z EL1 T7.vm T49.heap b_19 := Safe.exa (EL := EL1) hZ7.alike ((P19_1.ext E47).keep Kc49) (by decide) (by decide)
      have Sf55 : Safe Z EL1 T7.vm T49.heap b9 := Safe.exa (EL := EL1) hZ7.alike ((P19_4.ext E47).keep Kc49) (by decide) (by decide)
      have H_53 := H_50.keep Kc52 (sfS Sf55 (sfS Sf54 sf0))
      have R_53 := R_50.trans (CHr.keep Kc52 (sfS Sf55 (sfS Sf54 sf0)) H_50)
      have N52 := Fr.app N49 N52q
      have pre57 : ∀ t, SP p e below T52 m 104 #[vi p0, vi p1, vi p2, vi p3, vi ((1 : Int32) + ((p3 &&& (3 : Int32)) % (3 : Int32))), vi (0 : Int32), vr bS_3, vr bS_5, vr bS_7, vr b9, .unset, .unset] [(.int 3), (.int ((1 : Int32) + ((p3 &&& (3 : Int32)) % (3 : Int32))))] t → Steps p.tables e below (s₁.setTop (entryFrame m #[(.int p0), (.int p1), (.int p2), (.int p3)] maxLocals)) t := fun t kt => by
        refine pre23 t ?_
        show SP p e below T19 m 81 #[vi p0, vi p1, vi p2, vi p3, vi ((1 : Int32) + ((p3 &&& (3 : Int32)) % (3 : Int32))), vi (0 : Int32), vr bS_3, vr bS_5, vr bS_7, vr b9, .unset, .unset] [(.int 2), (.int ((1 : Int32) + ((p3 &&& (3 : Int32)) % (3 : Int32))))] _
        refine XS.icmpNo X19.here hx rfl (hb hby at_81) rfl (flt hc81_22).1 ?_
        refine XS.aload X19.here hx rfl (hb hby at_84) rfl rfl ?_
        show SP p e below T19 m 86 #[vi p0, vi p1, vi p2, vi p3, vi ((1 : Int32) + ((p3 &&& (3 : Int32)) % (3 : Int32))), vi (0 : Int32), vr bS_3, vr bS_5, vr bS_7, vr b9, .unset, .unset] [(.ref b9)] _
        refine st47 _ ?_
        show SP p e below T47 m 89 #[vi p0, vi p1, vi p2, vi p3, vi ((1 : Int32) + ((p3 &&& (3 : Int32)) % (3 : Int32))), vi (0 : Int32), vr bS_3, vr bS_5, vr bS_7, vr b9, .unset, .unset] [(.ref b47), (.ref b9)] _
        refine XS.dup X47.here hx rfl (hb hby at_89) rfl rfl ?_
        refine XS.aload X47.here hx rfl (hb hby at_90) rfl rfl ?_
        refine XS.aload X47.here hx rfl (hb hby at_92) rfl rfl ?_
        show SP p e below T47 m 94 #[vi p0, vi p1, vi p2, vi p3, vi ((1 : Int32) + ((p3 &&& (3 : Int32)) % (3 : Int32))), vi (0 : Int32), vr bS_3, vr bS_5, vr bS_7, vr b9, .unset, .unset] [(.ref bS_3), (.ref bS_5), (.ref b47), (.ref b47), (.ref b9)] _
        refine st49.trans ?_
        show SP p e below T49 m 97 #[vi p0, vi p1, vi p2, vi p3, vi ((1 : Int32) + ((p3 &&& (3 : Int32)) % (3 : Int32))), vi (0 : Int32), vr bS_3, vr bS_5, vr bS_7, vr b9, .unset, .unset] [(.ref b47), (.ref b9)] _
        refine st52.trans ?_
        show SP p e below T52 m 100 #[vi p0, vi p1, vi p2, vi p3, vi ((1 : Int32) + ((p3 &&& (3 : Int32)) % (3 : Int32))), vi (0 : Int32), vr bS_3, vr bS_5, vr bS_7, vr b9, .unset, .unset] [(.int 1)] _
        refine XS.pop X52.here hx rfl (hb hby at_100) rfl rfl ?_
        refine XS.iload X52.here hx rfl (hb hby at_101) rfl ?_
        refine XS.iconst X52.here hx rfl (hb hby at_103) ?_
        exact kt
      by_cases hc104_56 : ((1 : Int32) + ((p3 &&& (3 : Int32)) % (3 : Int32))) < (3 : Int32)
      · obtain ⟨T58, h58, X58, e58, E58, A58, D58, U58, st58⟩ := newO X52 hx hZ7 hown7 (Wd hw 105 rfl) (Wd hw 106 rfl) (Wd hw 107 rfl) rfl (g := mkF m 124 #[vi p0, vi p1, vi p2, vi p3, vi ((1 : Int32) + ((p3 &&& (3 : Int32)) % (3 : Int32))), vi (0 : Int32), vr bS_3, vr bS_5, vr bS_7, vr b9, .unset, .unset] []) rfl (hb hby at_124) (by decide) (by decide)
        obtain ⟨b58, g58⟩ : ∃ z, z = T52.heap.size := ⟨_, rfl⟩
        rw [← g58] at A58 D58 U58 st58
        have g_b58 : n0 ≤ b58 := lTr (own_sz O52) (lEq g58.symm)
        have H_59 := H_53.ext E58
        have R_59 := R_53.trans (CHr.ext E58 H_53)
        have O58 := O52.ext E58
        have F_cause_b58 : Fld Z h58 b58 "java/lang/Throwable" "cause" "Ljava/lang/Throwable;" .null := D58 (Or.inl (Wd hw 276 rfl)) (ty := (.object "java/lang/Throwable")) (by decide)
        have F_stackTrace_b58 : Fld Z h58 b58 "java/lang/Throwable" "stackTrace" "[Ljava/lang/StackTraceElement;" .null := D58 (Or.inl (Wd hw 279 rfl)) (ty := (.array (.object "java/lang/StackTraceElement"))) (by decide)
        have F_suppressedExceptions_b58 : Fld Z h58 b58 "java/lang/Throwable" "suppressedExceptions" "Ljava/util/List;" .null := D58 (Or.inl (Wd hw 282 rfl)) (ty := (.object "java/util/List")) (by decide)
        have F_detailMessage_b58 : Fld Z h58 b58 "java/lang/Throwable" "detailMessage" "Ljava/lang/String;" .null := D58 (Or.inl (Wd hw 305 rfl)) (ty := (.object "java/lang/String")) (by decide)
        have F_backtrace_b58 : Fld Z h58 b58 "java/lang/Throwable" "backtrace" "Ljava/lang/Object;" .null := D58 (Or.inl (Wd hw 306 rfl)) (ty := (.object "java/lang/Object")) (by decide)
        have F_depth_b58 : Fld Z h58 b58 "java/lang/Throwable" "depth" "I" (.int 0) := D58 (Or.inl (Wd hw 307 rfl)) (ty := .int) (by decide)
        have F_problems_b58 : Fld Z h58 b58 "com/example/grantline/grantline/PolicyException" "problems" "Ljava/util/List;" .null := D58 (Or.inr (Wd hw 383 rfl)) (ty := (.object "java/util/List")) (by decide)
        obtain ⟨_, _, ⟨T60, L60, k60, n60⟩, -, X60', hS60', hg60, ⟨Lc60, hQ60, l60, y60, z60, Rs60⟩, st60⟩ := X58.specialBackS hx (y := MN_63) rfl hown7 (mvT hZ7 (Wd hw 108 rfl)) (mvT hZ7 (Wd hw 109 rfl)) (mvT hZ7 (Wd hw 110 rfl)) (by decide) (backOfSKH (W := 1) (rmX_2 l Z a0 hw [] hlt cS aDE kDE aUS aSS aIE mO b58 b9 b_19 kb_19 b14 b47 bS_3 vS_3 kS_3 nS_3 lS_3 bS_7 vS_7 kS_7 nS_7 lS_7 h58 n0 O58 GL A58 U58 F_cause_b58 F_stackTrace_b58 F_suppressedExceptions_b58 F_detailMessage_b58 F_backtrace_b58 F_problems_b58 g_b58 (P52_3.ext E58) (P52_4.ext E58) (P52_5.ext E58) (P52_0.ext E58) (P52_1.ext E58) (((((P16_0.keep Kc19).ext E47).keep Kc49).keep Kc52).ext E58) ((P49_0.keep Kc52).ext E58) (((((P16_1.keep Kc19 (ninS (Ne.symm (nLt (lLt (lLt A9.lt Kc11.1) (lEq g14.symm)))) nin0)).ext E47).keep Kc49 (ninS (nLt (lLt (lLt A14.lt (lTr Kc16.1 Kc19.1)) (lEq g47.symm))) nin0)).keep Kc52 (ninS (Ne.symm (nLt (lLt (lLt A9.lt Kc11.1) (lEq g14.symm)))) (ninS (nLt (lLt (lLt A14.lt Kc16.1) P19_0)) nin0))).ext E58) (((((P16_2.keep Kc19 (ninS (Ne.symm (nLt (lLt (lLt A9.lt Kc11.1) (lEq g14.symm)))) nin0)).ext E47).keep Kc49 (ninS (nLt (lLt (lLt A14.lt (lTr Kc16.1 Kc19.1)) (lEq g47.symm))) nin0)).keep Kc52 (ninS (Ne.symm (nLt (lLt (lLt A9.lt Kc11.1) (lEq g14.symm)))) (ninS (nLt (lLt (lLt A14.lt Kc16.1) P19_0)) nin0))).ext E58) (((((((((((P3_0.keep Kc5).keep Kc7).ext E9).keep Kc11).ext E14).keep Kc16).keep Kc19).ext E47).keep Kc49).keep Kc52).ext E58) (((((((((((P3_1.keep Kc5 nin0).keep Kc7 nin0).ext E9).keep Kc11 (ninS (nLt (lLt (lLt P3_0.lt (lTr Kc5.1 Kc7.1)) (lEq g9.symm))) nin0)).ext E14).keep Kc16 (ninS (nLt (lLt (lLt P3_0.lt (lTr (lTr (lTr Kc5.1 Kc7.1) E9.1) Kc11.1)) (lEq g14.symm))) nin0)).keep Kc19 (ninS (nLt (lLt (lLt P3_0.lt (lTr Kc5.1 Kc7.1)) (lEq g9.symm))) nin0)).ext E47).keep Kc49 (ninS (nLt (lLt (lLt P3_0.lt (lTr (lTr (lTr (lTr (lTr (lTr Kc5.1 Kc7.1) E9.1) Kc11.1) E14.1) Kc16.1) Kc19.1)) (lEq g47.symm))) nin0)).keep Kc52 (ninS (nLt (lLt (lLt P3_0.lt (lTr Kc5.1 Kc7.1)) (lEq g9.symm))) (ninS (nLt (lLt (lLt P3_0.lt (lTr (lTr (lTr (lTr (lTr Kc5.1 Kc7.1) E9.1) Kc11.1) E14.1) Kc16.1)) P19_0)) nin0))).ext E58) (((((((((((P3_2.keep Kc5 nin0).keep Kc7 nin0).ext E9).keep Kc11 (ninS (nLt (lLt (lLt P3_0.lt (lTr Kc5.1 Kc7.1)) (lEq g9.symm))) nin0)).ext E14).keep Kc16 (ninS (nLt (lLt (lLt P3_0.lt (lTr (lTr (lTr Kc5.1 Kc7.1) E9.1) Kc11.1)) (lEq g14.symm))) nin0)).keep Kc19 (ninS (nLt (lLt (lLt P3_0.lt (lTr Kc5.1 Kc7.1)) (lEq g9.symm))) nin0)).ext E47).keep Kc49 (ninS (nLt (lLt (lLt P3_0.lt (lTr (lTr (lTr (lTr (lTr (lTr Kc5.1 Kc7.1) E9.1) Kc11.1) E14.1) Kc16.1) Kc19.1)) (lEq g47.symm))) nin0)).keep Kc52 (ninS (nLt (lLt (lLt P3_0.lt (lTr Kc5.1 Kc7.1)) (lEq g9.symm))) (ninS (nLt (lLt (lLt P3_0.lt (lTr (lTr (lTr (lTr (lTr Kc5.1 Kc7.1) E9.1) Kc11.1) E14.1) Kc16.1)) P19_0)) nin0))).ext E58) (((((((((((P3_3.keep Kc5 nin0).keep Kc7 nin0).ext E9).keep Kc11 (ninS (nLt (lLt (lLt P3_3.lt (lTr Kc5.1 Kc7.1)) (lEq g9.symm))) nin0)).ext E14).keep Kc16 (ninS (nLt (lLt (lLt P3_3.lt (lTr (lTr (lTr Kc5.1 Kc7.1) E9.1) Kc11.1)) (lEq g14.symm))) nin0)).keep Kc19 (ninS (nLt (lLt (lLt P3_3.lt (lTr Kc5.1 Kc7.1)) (lEq g9.symm))) nin0)).ext E47).keep Kc49 (ninS (nLt (lLt (lLt P3_3.lt (lTr (lTr (lTr (lTr (lTr (lTr Kc5.1 Kc7.1) E9.1) Kc11.1) E14.1) Kc16.1) Kc19.1)) (lEq g47.symm))) nin0)).keep Kc52 (ninS (nLt (lLt (lLt P3_3.lt (lTr Kc5.1 Kc7.1)) (lEq g9.symm))) (ninS (nLt (lLt (lLt P3_3.lt (lTr (lTr (lTr (lTr (lTr Kc5.1 Kc7.1) E9.1) Kc11.1) E14.1) Kc16.1)) P19_0)) nin0))).ext E58) (((((((((P7_0.ext E9).keep Kc11).ext E14).keep Kc16).keep Kc19).ext E47).keep Kc49).keep Kc52).ext E58) (((((((((P7_1.ext E9).keep Kc11 (ninS (nLt (lLt P7_0.lt (lEq g9.symm))) nin0)).ext E14).keep Kc16 (ninS (nLt (lLt (lLt P7_0.lt (lTr E9.1 Kc11.1)) (lEq g14.symm))) nin0)).keep Kc19 (ninS (nLt (lLt P7_0.lt (lEq g9.symm))) nin0)).ext E47).keep Kc49 (ninS (nLt (lLt (lLt P7_0.lt (lTr (lTr (lTr (lTr E9.1 Kc11.1) E14.1) Kc16.1) Kc19.1)) (lEq g47.symm))) nin0)).keep Kc52 (ninS (nLt (lLt P7_0.lt (lEq g9.symm))) (ninS (nLt (lLt (lLt P7_0.lt (lTr (lTr (lTr E9.1 Kc11.1) E14.1) Kc16.1)) P19_0)) nin0))).ext E58) (((((((((P7_2.ext E9).keep Kc11 (ninS (nLt (lLt P7_0.lt (lEq g9.symm))) nin0)).ext E14).keep Kc16 (ninS (nLt (lLt (lLt P7_0.lt (lTr E9.1 Kc11.1)) (lEq g14.symm))) nin0)).keep Kc19 (ninS (nLt (lLt P7_0.lt (lEq g9.symm))) nin0)).ext E47).keep Kc49 (ninS (nLt (lLt (lLt P7_0.lt (lTr (lTr (lTr (lTr E9.1 Kc11.1) E14.1) Kc16.1) Kc19.1)) (lEq g47.symm))) nin0)).keep Kc52 (ninS (nLt (lLt P7_0.lt (lEq g9.symm))) (ninS (nLt (lLt (lLt P7_0.lt (lTr (lTr (lTr E9.1 Kc11.1) E14.1) Kc16.1)) P19_0)) nin0))).ext E58) (((((((((P7_3.ext E9).keep Kc11 (ninS (nLt (lLt P7_3.lt (lEq g9.symm))) nin0)).ext E14).keep Kc16 (ninS (nLt (lLt (lLt P7_3.lt (lTr E9.1 Kc11.1)) (lEq g14.symm))) nin0)).keep Kc19 (ninS (nLt (lLt P7_3.lt (lEq g9.symm))) nin0)).ext E47).keep Kc49 (ninS (nLt (lLt (lLt P7_3.lt (lTr (lTr (lTr (lTr E9.1 Kc11.1) E14.1) Kc16.1) Kc19.1)) (lEq g47.symm))) nin0)).keep Kc52 (ninS (nLt (lLt P7_3.lt (lEq g9.symm))) (ninS (nLt (lLt (lLt P7_3.lt (lTr (lTr (lTr E9.1 Kc11.1) E14.1) Kc16.1)) P19_0)) nin0))).ext E58) P3_4 P3_5 P7_4 P7_5) hZ7 (Wd hw 110 rfl) (Wd hw 107 rfl) (by decide) (by decide) (own_EW hw) H_59 (hTK.alikeC (hZ.alike.symm.trans hZ7.alike)) (hBW.alikeC (hZ.alike.symm.trans hZ7.alike))) (g := mkF m 130 #[vi p0, vi p1, vi p2, vi p3, vi ((1 : Int32) + ((p3 &&& (3 : Int32)) % (3 : Int32))), vi (0 : Int32), vr bS_3, vr bS_5, vr bS_7, vr b9, .unset, .unset] [(.ref b9), (.ref b58), (.ref b58)]) rfl (by rw [hml]; rfl) (Steps.refl _) (a := b58) (argsL := [(.ref b9)]) (rest := [(.ref b58)]) (lenOf pdv39 rfl) rfl (by show 2 * 0 + _ ≤ _; exact lEq rfl) (hb hby at_130) (fun _ _ => ⟨rfl, e58, (by decide : 14 + 9 ≤ _), (by decide : 48 + 2808 ≤ _)⟩)
        dsimp only [Pt.U, Pt.locs, Pt.cells, Pt.slots] at X60' l60 y60 z60 st60 hQ60 hS60' hg60 Rs60
        subst l60 y60 z60
        obtain ⟨X60, hS60, hZ60, hown60⟩ := rebS hS7 (by rw [e58]; exact (lTr (lTr (lTr (lTr (lTr (lTr (lTr (lTr (lTr (Nat.le_refl _) E9.1) Kc11.1) E14.1) Kc16.1) Kc19.1) E47.1) Kc49.1) Kc52.1) E58.1)) X60' hS60' hg60 hZ7 hown7
        obtain ⟨b_60, rfl, N60q, Kc60, P60_0, P60_1, P60_2, P60_3⟩ := hQ60
        have O60 := O58.keep Kc60 (allS g_b58 all0)
        have H_61 := Rs60.1
        have R_61 := R_59.trans Rs60
        have N60 := Fr.app N52 N60q
        obtain ⟨cq62, kq62, q62a, q62b, q62c⟩ := isOf hZ60 rfl P60_0
        obtain ⟨_, _, ⟨T62, L62, k62, n62⟩, -, X62, ⟨Lc62, hQ62, l62, y62, z62⟩, st62⟩ := X60.virtualBack hx (y := MN_66) (z := MN_66) hown60 (mvT hZ60 (Wd hw 384 rfl)) (mvT hZ60 (Wd hw 385 rfl)) (notFace_of_selects (args := #[]) (mvT hZ60 (Wd hw 387 rfl))) (mvT hZ60 (Wd hw 387 rfl)) (mvT hZ60 (Wd hw 386 rfl)) (by decide) (backOf (W := 0) (rmP12 l Z a0 hw [] cS aDE kDE aUS aSS aIE mO b58 b_60 b14 bS_3 (T60.heap) n0 O60 GL P60_2 P60_3 P60_1 ((((((P16_0.keep Kc19).ext E47).keep Kc49).keep Kc52).ext E58).keep Kc60) ((((((P16_1.keep Kc19 (ninS (Ne.symm (nLt (lLt (lLt A9.lt Kc11.1) (lEq g14.symm)))) nin0)).ext E47).keep Kc49 (ninS (nLt (lLt (lLt A14.lt (lTr Kc16.1 Kc19.1)) (lEq g47.symm))) nin0)).keep Kc52 (ninS (Ne.symm (nLt (lLt (lLt A9.lt Kc11.1) (lEq g14.symm)))) (ninS (nLt (lLt (lLt A14.lt Kc16.1) P19_0)) nin0))).ext E58).keep Kc60 (ninS (nLt (lLt (lLt A14.lt (lTr (lTr (lTr (lTr Kc16.1 Kc19.1) E47.1) Kc49.1) Kc52.1)) (lEq g58.symm))) nin0))) hZ60 (Wd hw 388 rfl) (Wd hw 107 rfl) (by decide) (by decide)) q62a q62c (g := mkF m 137 #[vi p0, vi p1, vi p2, vi p3, vi ((1 : Int32) + ((p3 &&& (3 : Int32)) % (3 : Int32))), vi (0 : Int32), vr bS_3, vr bS_5, vr bS_7, vr b9, vr b58, .unset] [(.ref b58)]) rfl (by rw [hml]; rfl) (Steps.refl _) (argsL := []) (rest := []) (lenOf pdv20 rfl) rfl (by show 2 * 0 + _ ≤ _; exact lEq rfl) (hb hby at_137) (fun _ _ => ⟨rfl, rfl, (by decide : 23 + 0 ≤ _), (by decide : 2856 + 0 ≤ _)⟩)
        dsimp only [Pt.U, Pt.locs, Pt.cells, Pt.slots] at X62 l62 y62 z62 st62 hQ62
        subst l62 y62 z62
        obtain ⟨rfl, N62q, e62⟩ := hQ62
        have N62 := Fr.app N60 N62q
        obtain ⟨cq63, kq63, q63a, q63b, q63c⟩ := isOf hZ60 e62 ((((((((((((P3_0.keep Kc5).keep Kc7).ext E9).keep Kc11).ext E14).keep Kc16).keep Kc19).ext E47).keep Kc49).keep Kc52).ext E58).keep Kc60)
        obtain ⟨_, _, ⟨T63, L63, k63, n63⟩, -, X63, ⟨Lc63, hQ63, l63, y63, z63⟩, st63⟩ := X62.virtualBack hx (y := MN_67) (z := MN_67) hown60 (mvT hZ60 (Wd hw 400 rfl)) (mvT hZ60 (Wd hw 401 rfl)) (notFace_of_selects (args := #[]) (mvT hZ60 (Wd hw 403 rfl))) (mvT hZ60 (Wd hw 403 rfl)) (mvT hZ60 (Wd hw 402 rfl)) (by decide) (backOf (W := 0) (rmEq l Z a0 hw [] cS aDE kDE aUS aSS aIE mO bS_3 (T60.heap) n0 O60 GL) hZ60 (Wd hw 404 rfl) (Wd hw 7 rfl) (by decide) (by decide)) q63a q63c (g := mkF m 151 #[vi p0, vi p1, vi p2, vi p3, vi ((1 : Int32) + ((p3 &&& (3 : Int32)) % (3 : Int32))), vi (0 : Int32), vr bS_3, vr bS_5, vr bS_7, vr b9, vr b58, vr bS_3] [(.ref bS_3), (.ref bS_3)]) rfl (by rw [hml]; rfl) (Steps.refl _) (argsL := [(.ref bS_3)]) (rest := []) (lenOf pdv38 rfl) rfl (by show 2 * 0 + _ ≤ _; exact lEq rfl) (hb hby at_151) (fun _ _ => ⟨rfl, e62, (by decide : 23 + 0 ≤ _), (by decide : 2856 + 0 ≤ _)⟩)
        dsimp only [Pt.U, Pt.locs, Pt.cells, Pt.slots] at X63 l63 y63 z63 st63 hQ63
        subst l63 y63 z63
        obtain ⟨rfl, N63q, e63⟩ := hQ63
        have N63 := Fr.app N62 N63q
        obtain ⟨fs, hr, hrun, hended, hRW⟩ := X63.leaveW hS60 (by rw [e63]; exact (Nat.le_refl _)) (v := some (.int 1)) (fun h => by rw [Bd.returns] at h; cases h)
        have hCR : CHr Z EL1 s.vm s.heap T63.vm T63.heap := by
          rw [hh, e63]
          exact R_61.trans (CHv.at X63 hZ60 (own_EW hw) H_61)
        refine ⟨_, _, pre57 _ ?_, hrun, hended, _, _, rfl, ?_, hCR, hRW.1, hRW.2.1, hRW.2.2.1, hRW.2.2.2.mono (by decide) (by decide)⟩
        · show SP p e below T52 m 104 #[vi p0, vi p1, vi p2, vi p3, vi ((1 : Int32) + ((p3 &&& (3 : Int32)) % (3 : Int32))), vi (0 : Int32), vr bS_3, vr bS_5, vr bS_7, vr b9, .unset, .unset] [(.int 3), (.int ((1 : Int32) + ((p3 &&& (3 : Int32)) % (3 : Int32))))] _
          refine XS.icmpYes X52.here hx rfl (pc0 := 104) (pc' := 124) rfl (hb hby at_104) rfl (tlt hc104_56).1 (by decide) (by decide) ?_
          show SP p e below T52 m 124 #[vi p0, vi p1, vi p2, vi p3, vi ((1 : Int32) + ((p3 &&& (3 : Int32)) % (3 : Int32))), vi (0 : Int32), vr bS_3, vr bS_5, vr bS_7, vr b9, .unset, .unset] [] _
          refine st58 _ ?_
          show SP p e below T58 m 127 #[vi p0, vi p1, vi p2, vi p3, vi ((1 : Int32) + ((p3 &&& (3 : Int32)) % (3 : Int32))), vi (0 : Int32), vr bS_3, vr bS_5, vr bS_7, vr b9, .unset, .unset] [(.ref b58)] _
          refine XS.dup X58.here hx rfl (hb hby at_127) rfl rfl ?_
          refine XS.aload X58.here hx rfl (hb hby at_128) rfl rfl ?_
          show SP p e below T58 m 130 #[vi p0, vi p1, vi p2, vi p3, vi ((1 : Int32) + ((p3 &&& (3 : Int32)) % (3 : Int32))), vi (0 : Int32), vr bS_3, vr bS_5, vr bS_7, vr b9, .unset, .unset] [(.ref b9), (.ref b58), (.ref b58)] _
          refine st60.trans ?_
          show SP p e below T60 m 133 #[vi p0, vi p1, vi p2, vi p3, vi ((1 : Int32) + ((p3 &&& (3 : Int32)) % (3 : Int32))), vi (0 : Int32), vr bS_3, vr bS_5, vr bS_7, vr b9, .unset, .unset] [(.ref b58)] _
          refine XS.astore X60.here hx rfl (hb hby at_133) rfl rfl (l' := #[vi p0, vi p1, vi p2, vi p3, vi ((1 : Int32) + ((p3 &&& (3 : Int32)) % (3 : Int32))), vi (0 : Int32), vr bS_3, vr bS_5, vr bS_7, vr b9, vr b58, .unset]) rfl ?_
          refine XS.aload X60.here hx rfl (hb hby at_135) rfl rfl ?_
          show SP p e below T60 m 137 #[vi p0, vi p1, vi p2, vi p3, vi ((1 : Int32) + ((p3 &&& (3 : Int32)) % (3 : Int32))), vi (0 : Int32), vr bS_3, vr bS_5, vr bS_7, vr b9, vr b58, .unset] [(.ref b58)] _
          refine st62.trans ?_
          show SP p e below T62 m 140 #[vi p0, vi p1, vi p2, vi p3, vi ((1 : Int32) + ((p3 &&& (3 : Int32)) % (3 : Int32))), vi (0 : Int32), vr bS_3, vr bS_5, vr bS_7, vr b9, vr b58, .unset] [(.ref bS_3)] _
          refine XS.astore X62.here hx rfl (hb hby at_140) rfl rfl (l' := #[vi p0, vi p1, vi p2, vi p3, vi ((1 : Int32) + ((p3 &&& (3 : Int32)) % (3 : Int32))), vi (0 : Int32), vr bS_3, vr bS_5, vr bS_7, vr b9, vr b58, vr bS_3]) rfl ?_
          refine XS.aload X62.here hx rfl (hb hby at_142) rfl rfl ?_
          refine XS.ifnullNo X62.here hx rfl (hb hby at_144) rfl ?_
          refine XS.aload X62.here hx rfl (hb hby at_147) rfl rfl ?_
          refine XS.aload X62.here hx rfl (hb hby at_149) rfl rfl ?_
          show SP p e below T62 m 151 #[vi p0, vi p1, vi p2, vi p3, vi ((1 : Int32) + ((p3 &&& (3 : Int32)) % (3 : Int32))), vi (0 : Int32), vr bS_3, vr bS_5, vr bS_7, vr b9, vr b58, vr bS_3] [(.ref bS_3), (.ref bS_3)] _
          refine st63.trans ?_
          show SP p e below T63 m 154 #[vi p0, vi p1, vi p2, vi p3, vi ((1 : Int32) + ((p3 &&& (3 : Int32)) % (3 : Int32))), vi (0 : Int32), vr bS_3, vr bS_5, vr bS_7, vr b9, vr b58, vr bS_3] [(.int 1)] _
          refine XS.ifNo X63.here hx rfl (hb hby at_154) rfl ((if0 _ _).trans (feq (by decide : ¬ ((1 : Int32) = (0 : Int32)))).1) ?_
          refine XS.iconst X63.here hx rfl (hb hby at_157) ?_
          refine XS.goto X63.here hx rfl (pc0 := 158) (pc' := 162) rfl (hb hby at_158) (by decide) (by decide) ?_
          show SP p e below T63 m 162 #[vi p0, vi p1, vi p2, vi p3, vi ((1 : Int32) + ((p3 &&& (3 : Int32)) % (3 : Int32))), vi (0 : Int32), vr bS_3, vr bS_5, vr bS_7, vr b9, vr b58, vr bS_3] [(.int 1)] _
          exact retN X63 hx (t := .boolean) Bd.returns (by simp) (hb hby at_162) hr
        · show Q_rm0 n0 _ T63.heap _
          rw [e63]
          exact ⟨rfl, N63⟩
      · obtain ⟨T64, h64, X64, e64, E64, A64, D64, -, st64⟩ := newO X52 hx hZ7 hown7 (Wd hw 58 rfl) (Wd hw 59 rfl) (Wd hw 60 rfl) rfl (g := mkF m 109 #[vi p0, vi p1, vi p2, vi p3, vi ((1 : Int32) + ((p3 &&& (3 : Int32)) % (3 : Int32))), vi (0 : Int32), vr bS_3, vr bS_5, vr bS_7, vr b9, .unset, .unset] [(.ref b9)]) rfl (hb hby at_109) (by decide) (by decide)
        obtain ⟨b64, g64⟩ : ∃ z, z = T52.heap.size := ⟨_, rfl⟩
        rw [← g64] at A64 D64 st64
        have g_b64 : n0 ≤ b64 := lTr (own_sz O52) (lEq g64.symm)
        have H_65 := H_53.ext E64
        have R_65 := R_53.trans (CHr.ext E64 H_53)
        have O64 := O52.ext E64
        have F_pointer_b64 : Fld Z h64 b64 "com/example/grantline/grantline/PolicyException$Problem" "pointer" "Ljava/lang/String;" .null := D64 (Or.inr (Wd hw 71 rfl)) (ty := (.object "java/lang/String")) (by decide)
        have F_description_b64 : Fld Z h64 b64 "com/example/grantline/grantline/PolicyException$Problem" "description" "Ljava/lang/String;" .null := D64 (Or.inr (Wd hw 73 rfl)) (ty := (.object "java/lang/String")) (by decide)
        obtain ⟨_, _, ⟨T66, L66, k66, n66⟩, -, X66, ⟨Lc66, hQ66, l66, y66, z66⟩, st66⟩ := X64.specialBack hx (y := MN_27) rfl hown7 (mvT hZ7 (Wd hw 61 rfl)) (mvT hZ7 (Wd hw 62 rfl)) (mvT hZ7 (Wd hw 63 rfl)) (by decide) (backOf (W := 2) (rmPi l Z a0 hw [] cS aDE kDE aUS aSS aIE mO b64 bS_7 bS_5 h64 n0 O64 GL A64 F_pointer_b64 F_description_b64 g_b64) hZ7 (Wd hw 63 rfl) (Wd hw 60 rfl) (by decide) (by decide)) (g := mkF m 117 #[vi p0, vi p1, vi p2, vi p3, vi ((1 : Int32) + ((p3 &&& (3 : Int32)) % (3 : Int32))), vi (0 : Int32), vr bS_3, vr bS_5, vr bS_7, vr b9, .unset, .unset] [(.ref bS_5), (.ref bS_7), (.ref b64), (.ref b64), (.ref b9)]) rfl (by rw [hml]; rfl) (Steps.refl _) (a := b64) (argsL := [(.ref bS_7), (.ref bS_5)]) (rest := [(.ref b64), (.ref b9)]) (lenOf pdv37 rfl) rfl (by show 2 * 0 + _ ≤ _; exact lEq rfl) (hb hby at_117) (fun _ _ => ⟨rfl, e64, (by decide : 14 + 0 ≤ _), (by decide : 43 + 0 ≤ _)⟩)
        dsimp only [Pt.U, Pt.locs, Pt.cells, Pt.slots] at X66 l66 y66 z66 st66 hQ66
        subst l66 y66 z66
        obtain ⟨rfl, N66q, Kc66, P66_0, P66_1, P66_2⟩ := hQ66
        have O66 := O64.keep Kc66 (allS g_b64 all0)
        have Sf68 : Safe Z EL1 T7.vm h64 b64 := Safe.exa (EL := EL1) hZ7.alike A64 (by decide) (by decide)
        have H_67 := H_65.keep Kc66 (sfS Sf68 sf0)
        have R_67 := R_65.trans (CHr.keep Kc66 (sfS Sf68 sf0) H_65)
        have N66 := Fr.app N52 N66q
        obtain ⟨cq69, kq69, q69a, q69b, q69c⟩ := isOf hZ7 rfl ((P52_3.ext E64).keep Kc66)
        obtain ⟨_, _, ⟨T69, L69, k69, n69⟩, -, X69, ⟨Lc69, hQ69, l69, y69, z69⟩, st69⟩ := X66.virtualBack hx (y := MN_37) (z := MN_37) hown7 (mvT hZ7 (Wd hw 74 rfl)) (mvT hZ7 (Wd hw 75 rfl)) (notFace_of_selects (args := #[]) (mvT hZ7 (Wd hw 77 rfl))) (mvT hZ7 (Wd hw 77 rfl)) (mvT hZ7 (Wd hw 76 rfl)) (by decide) (backOf (W := 0) (rmA1_2 l Z a0 hw [] cS aDE kDE aUS aSS aIE mO b9 b64 b_19 ((((0 : Int32) + (1 : Int32)) + (1 : Int32))) kb_19 b14 b47 (T66.heap) n0 O66 GL ((P52_3.ext E64).keep Kc66) ((P52_4.ext E64).keep Kc66 (ninS (nLt (lLt (lLt A9.lt (lTr (lTr (lTr (lTr (lTr (lTr Kc11.1 E14.1) Kc16.1) Kc19.1) E47.1) Kc49.1) Kc52.1)) (lEq g64.symm))) nin0)) ((P52_5.ext E64).keep Kc66 (ninS (nLt (lLt (lLt A9.lt (lTr (lTr (lTr (lTr (lTr (lTr Kc11.1 E14.1) Kc16.1) Kc19.1) E47.1) Kc49.1) Kc52.1)) (lEq g64.symm))) nin0)) ((P52_6.ext E64).keep Kc66 (ninS (nLt (lLt (lLt A9.lt (lTr (lTr (lTr (lTr (lTr (lTr Kc11.1 E14.1) Kc16.1) Kc19.1) E47.1) Kc49.1) Kc52.1)) (lEq g64.symm))) nin0)) g_b9 P66_0 ((P52_0.ext E64).keep Kc66) ((P52_1.ext E64).keep Kc66 (ninS (nLt (lLt (lLt P19_1.lt (lTr (lTr E47.1 Kc49.1) Kc52.1)) (lEq g64.symm))) nin0)) P52_2 g_b_19) hZ7 (Wd hw 78 rfl) (Wd hw 36 rfl) (by decide) (by decide)) q69a q69c (g := mkF m 120 #[vi p0, vi p1, vi p2, vi p3, vi ((1 : Int32) + ((p3 &&& (3 : Int32)) % (3 : Int32))), vi (0 : Int32), vr bS_3, vr bS_5, vr bS_7, vr b9, .unset, .unset] [(.ref b64), (.ref b9)]) rfl (by rw [hml]; rfl) (Steps.refl _) (argsL := [(.ref b64)]) (rest := []) (lenOf pdv38 rfl) rfl (by show 2 * 0 + _ ≤ _; exact lEq rfl) (hb hby at_120) (fun _ _ => ⟨rfl, rfl, (by decide : 14 + 0 ≤ _), (by decide : 43 + 0 ≤ _)⟩)
        dsimp only [Pt.U, Pt.locs, Pt.cells, Pt.slots] at X69 l69 y69 z69 st69 hQ69
        subst l69 y69 z69
        obtain ⟨rfl, N69q, Kc69, P69_0, P69_1, P69_2, P69_3, P69_4, P69_5, P69_6⟩ := hQ69
        have O69 := O66.keep Kc69 (allS g_b9 (allS g_b_19 all0))
        have Sf71 : Safe Z EL1 T7.vm T66.heap b_19 := Safe.exa (EL := EL1) hZ7.alike ((P52_0.ext E64).keep Kc66) (by decide) (by decide)
        have Sf72 : Safe Z EL1 T7.vm T66.heap b9 := Safe.exa (EL := EL1) hZ7.alike ((P52_3.ext E64).keep Kc66) (by decide) (by decide)
        have H_70 := H_67.keep Kc69 (sfS Sf72 (sfS Sf71 sf0))
        have R_70 := R_67.trans (CHr.keep Kc69 (sfS Sf72 (sfS Sf71 sf0)) H_67)
        have N69 := Fr.app N66 N69q
        obtain ⟨T73, h73, X73, e73, E73, A73, D73, U73, st73⟩ := newO X69 hx hZ7 hown7 (Wd hw 105 rfl) (Wd hw 106 rfl) (Wd hw 107 rfl) rfl (g := mkF m 124 #[vi p0, vi p1, vi p2, vi p3, vi ((1 : Int32) + ((p3 &&& (3 : Int32)) % (3 : Int32))), vi (0 : Int32), vr bS_3, vr bS_5, vr bS_7, vr b9, .unset, .unset] []) rfl (hb hby at_124) (by decide) (by decide)
        obtain ⟨b73, g73⟩ : ∃ z, z = T69.heap.size := ⟨_, rfl⟩
        rw [← g73] at A73 D73 U73 st73
        have g_b73 : n0 ≤ b73 := lTr (own_sz O69) (lEq g73.symm)
        have H_74 := H_70.ext E73
        have R_74 := R_70.trans (CHr.ext E73 H_70)
        have O73 := O69.ext E73
        have F_cause_b73 : Fld Z h73 b73 "java/lang/Throwable" "cause" "Ljava/lang/Throwable;" .null := D73 (Or.inl (Wd hw 276 rfl)) (ty := (.object "java/lang/Throwable")) (by decide)
        have F_stackTrace_b73 : Fld Z h73 b73 "java/lang/Throwable" "stackTrace" "[Ljava/lang/StackTraceElement;" .null := D73 (Or.inl (Wd hw 279 rfl)) (ty := (.array (.object "java/lang/StackTraceElement"))) (by decide)
        have F_suppressedExceptions_b73 : Fld Z h73 b73 "java/lang/Throwable" "suppressedExceptions" "Ljava/util/List;" .null := D73 (Or.inl (Wd hw 282 rfl)) (ty := (.object "java/util/List")) (by decide)
        have F_detailMessage_b73 : Fld Z h73 b73 "java/lang/Throwable" "detailMessage" "Ljava/lang/String;" .null := D73 (Or.inl (Wd hw 305 rfl)) (ty := (.object "java/lang/String")) (by decide)
        have F_backtrace_b73 : Fld Z h73 b73 "java/lang/Throwable" "backtrace" "Ljava/lang/Object;" .null := D73 (Or.inl (Wd hw 306 rfl)) (ty := (.object "java/lang/Object")) (by decide)
        have F_depth_b73 : Fld Z h73 b73 "java/lang/Throwable" "depth" "I" (.int 0) := D73 (Or.inl (Wd hw 307 rfl)) (ty := .int) (by decide)
        have F_problems_b73 : Fld Z h73 b73 "com/example/grantline/grantline/PolicyException" "problems" "Ljava/util/List;" .null := D73 (Or.inr (Wd hw 383 rfl)) (ty := (.object "java/util/List")) (by decide)
        obtain ⟨_, _, ⟨T75, L75, k75, n75⟩, -, X75', hS75', hg75, ⟨Lc75, hQ75, l75, y75, z75, Rs75⟩, st75⟩ := X73.specialBackS hx (y := MN_63) rfl hown7 (mvT hZ7 (Wd hw 108 rfl)) (mvT hZ7 (Wd hw 109 rfl)) (mvT hZ7 (Wd hw 110 rfl)) (by decide) (backOfSKH (W := 1) (rmX_3 l Z a0 hw [] hlt cS aDE kDE aUS aSS aIE mO b73 b9 b_19 kb_19 b14 b47 b64 bS_3 vS_3 kS_3 nS_3 lS_3 bS_7 vS_7 kS_7 nS_7 lS_7 h73 n0 O73 GL A73 U73 F_cause_b73 F_stackTrace_b73 F_suppressedExceptions_b73 F_detailMessage_b73 F_backtrace_b73 F_problems_b73 g_b73 (P69_3.ext E73) (P69_4.ext E73) (P69_5.ext E73) (P69_0.ext E73) (P69_1.ext E73) ((((((((P16_0.keep Kc19).ext E47).keep Kc49).keep Kc52).ext E64).keep Kc66).keep Kc69).ext E73) (((((P49_0.keep Kc52).ext E64).keep Kc66).keep Kc69).ext E73) ((P66_0.keep Kc69).ext E73) ((((((((P16_1.keep Kc19 (ninS (Ne.symm (nLt (lLt (lLt A9.lt Kc11.1) (lEq g14.symm)))) nin0)).ext E47).keep Kc49 (ninS (nLt (lLt (lLt A14.lt (lTr Kc16.1 Kc19.1)) (lEq g47.symm))) nin0)).keep Kc52 (ninS (Ne.symm (nLt (lLt (lLt A9.lt Kc11.1) (lEq g14.symm)))) (ninS (nLt (lLt (lLt A14.lt Kc16.1) P19_0)) nin0))).ext E64).keep Kc66 (ninS (nLt (lLt (lLt A14.lt (lTr (lTr (lTr (lTr Kc16.1 Kc19.1) E47.1) Kc49.1) Kc52.1)) (lEq g64.symm))) nin0)).keep Kc69 (ninS (Ne.symm (nLt (lLt (lLt A9.lt Kc11.1) (lEq g14.symm)))) (ninS (nLt (lLt (lLt A14.lt Kc16.1) P19_0)) nin0))).ext E73) ((((((((P16_2.keep Kc19 (ninS (Ne.symm (nLt (lLt (lLt A9.lt Kc11.1) (lEq g14.symm)))) nin0)).ext E47).keep Kc49 (ninS (nLt (lLt (lLt A14.lt (lTr Kc16.1 Kc19.1)) (lEq g47.symm))) nin0)).keep Kc52 (ninS (Ne.symm (nLt (lLt (lLt A9.lt Kc11.1) (lEq g14.symm)))) (ninS (nLt (lLt (lLt A14.lt Kc16.1) P19_0)) nin0))).ext E64).keep Kc66 (ninS (nLt (lLt (lLt A14.lt (lTr (lTr (lTr (lTr Kc16.1 Kc19.1) E47.1) Kc49.1) Kc52.1)) (lEq g64.symm))) nin0)).keep Kc69 (ninS (Ne.symm (nLt (lLt (lLt A9.lt Kc11.1) (lEq g14.symm)))) (ninS (nLt (lLt (lLt A14.lt Kc16.1) P19_0)) nin0))).ext E73) ((((((((((((((P3_0.keep Kc5).keep Kc7).ext E9).keep Kc11).ext E14).keep Kc16).keep Kc19).ext E47).keep Kc49).keep Kc52).ext E64).keep Kc66).keep Kc69).ext E73) ((((((((((((((P3_1.keep Kc5 nin0).keep Kc7 nin0).ext E9).keep Kc11 (ninS (nLt (lLt (lLt P3_0.lt (lTr Kc5.1 Kc7.1)) (lEq g9.symm))) nin0)).ext E14).keep Kc16 (ninS (nLt (lLt (lLt P3_0.lt (lTr (lTr (lTr Kc5.1 Kc7.1) E9.1) Kc11.1)) (lEq g14.symm))) nin0)).keep Kc19 (ninS (nLt (lLt (lLt P3_0.lt (lTr Kc5.1 Kc7.1)) (lEq g9.symm))) nin0)).ext E47).keep Kc49 (ninS (nLt (lLt (lLt P3_0.lt (lTr (lTr (lTr (lTr (lTr (lTr Kc5.1 Kc7.1) E9.1) Kc11.1) E14.1) Kc16.1) Kc19.1)) (lEq g47.symm))) nin0)).keep Kc52 (ninS (nLt (lLt (lLt P3_0.lt (lTr Kc5.1 Kc7.1)) (lEq g9.symm))) (ninS (nLt (lLt (lLt P3_0.lt (lTr (lTr (lTr (lTr (lTr Kc5.1 Kc7.1) E9.1) Kc11.1) E14.1) Kc16.1)) P19_0)) nin0))).ext E64).keep Kc66 (ninS (nLt (lLt (lLt P3_0.lt (lTr (lTr (lTr (lTr (lTr (lTr (lTr (lTr (lTr Kc5.1 Kc7.1) E9.1) Kc11.1) E14.1) Kc16.1) Kc19.1) E47.1) Kc49.1) Kc52.1)) (lEq g64.symm))) nin0)).keep Kc69 (ninS (nLt (lLt (lLt P3_0.lt (lTr Kc5.1 Kc7.1)) (lEq g9.symm))) (ninS (nLt (lLt (lLt P3_0.lt (lTr (lTr (lTr (lTr (lTr Kc5.1 Kc7.1) E9.1) Kc11.1) E14.1) Kc16.1)) P19_0)) nin0))).ext E73) ((((((((((((((P3_2.keep Kc5 nin0).keep Kc7 nin0).ext E9).keep Kc11 (ninS (nLt (lLt (lLt P3_0.lt (lTr Kc5.1 Kc7.1)) (lEq g9.symm))) nin0)).ext E14).keep Kc16 (ninS (nLt (lLt (lLt P3_0.lt (lTr (lTr (lTr Kc5.1 Kc7.1) E9.1) Kc11.1)) (lEq g14.symm))) nin0)).keep Kc19 (ninS (nLt (lLt (lLt P3_0.lt (lTr Kc5.1 Kc7.1)) (lEq g9.symm))) nin0)).ext E47).keep Kc49 (ninS (nLt (lLt (lLt P3_0.lt (lTr (lTr (lTr (lTr (lTr (lTr Kc5.1 Kc7.1) E9.1) Kc11.1) E14.1) Kc16.1) Kc19.1)) (lEq g47.symm))) nin0)).keep Kc52 (ninS (nLt (lLt (lLt P3_0.lt (lTr Kc5.1 Kc7.1)) (lEq g9.symm))) (ninS (nLt (lLt (lLt P3_0.lt (lTr (lTr (lTr (lTr (lTr Kc5.1 Kc7.1) E9.1) Kc11.1) E14.1) Kc16.1)) P19_0)) nin0))).ext E64).keep Kc66 (ninS (nLt (lLt (lLt P3_0.lt (lTr (lTr (lTr (lTr (lTr (lTr (lTr (lTr (lTr Kc5.1 Kc7.1) E9.1) Kc11.1) E14.1) Kc16.1) Kc19.1) E47.1) Kc49.1) Kc52.1)) (lEq g64.symm))) nin0)).keep Kc69 (ninS (nLt (lLt (lLt P3_0.lt (lTr Kc5.1 Kc7.1)) (lEq g9.symm))) (ninS (nLt (lLt (lLt P3_0.lt (lTr (lTr (lTr (lTr (lTr Kc5.1 Kc7.1) E9.1) Kc11.1) E14.1) Kc16.1)) P19_0)) nin0))).ext E73) ((((((((((((((P3_3.keep Kc5 nin0).keep Kc7 nin0).ext E9).keep Kc11 (ninS (nLt (lLt (lLt P3_3.lt (lTr Kc5.1 Kc7.1)) (lEq g9.symm))) nin0)).ext E14).keep Kc16 (ninS (nLt (lLt (lLt P3_3.lt (lTr (lTr (lTr Kc5.1 Kc7.1) E9.1) Kc11.1)) (lEq g14.symm))) nin0)).keep Kc19 (ninS (nLt (lLt (lLt P3_3.lt (lTr Kc5.1 Kc7.1)) (lEq g9.symm))) nin0)).ext E47).keep Kc49 (ninS (nLt (lLt (lLt P3_3.lt (lTr (lTr (lTr (lTr (lTr (lTr Kc5.1 Kc7.1) E9.1) Kc11.1) E14.1) Kc16.1) Kc19.1)) (lEq g47.symm))) nin0)).keep Kc52 (ninS (nLt (lLt (lLt P3_3.lt (lTr Kc5.1 Kc7.1)) (lEq g9.symm))) (ninS (nLt (lLt (lLt P3_3.lt (lTr (lTr (lTr (lTr (lTr Kc5.1 Kc7.1) E9.1) Kc11.1) E14.1) Kc16.1)) P19_0)) nin0))).ext E64).keep Kc66 (ninS (nLt (lLt (lLt P3_3.lt (lTr (lTr (lTr (lTr (lTr (lTr (lTr (lTr (lTr Kc5.1 Kc7.1) E9.1) Kc11.1) E14.1) Kc16.1) Kc19.1) E47.1) Kc49.1) Kc52.1)) (lEq g64.symm))) nin0)).keep Kc69 (ninS (nLt (lLt (lLt P3_3.lt (lTr Kc5.1 Kc7.1)) (lEq g9.symm))) (ninS (nLt (lLt (lLt P3_3.lt (lTr (lTr (lTr (lTr (lTr Kc5.1 Kc7.1) E9.1) Kc11.1) E14.1) Kc16.1)) P19_0)) nin0))).ext E73) ((((((((((((P7_0.ext E9).keep Kc11).ext E14).keep Kc16).keep Kc19).ext E47).keep Kc49).keep Kc52).ext E64).keep Kc66).keep Kc69).ext E73) ((((((((((((P7_1.ext E9).keep Kc11 (ninS (nLt (lLt P7_0.lt (lEq g9.symm))) nin0)).ext E14).keep Kc16 (ninS (nLt (lLt (lLt P7_0.lt (lTr E9.1 Kc11.1)) (lEq g14.symm))) nin0)).keep Kc19 (ninS (nLt (lLt P7_0.lt (lEq g9.symm))) nin0)).ext E47).keep Kc49 (ninS (nLt (lLt (lLt P7_0.lt (lTr (lTr (lTr (lTr E9.1 Kc11.1) E14.1) Kc16.1) Kc19.1)) (lEq g47.symm))) nin0)).keep Kc52 (ninS (nLt (lLt P7_0.lt (lEq g9.symm))) (ninS (nLt (lLt (lLt P7_0.lt (lTr (lTr (lTr E9.1 Kc11.1) E14.1) Kc16.1)) P19_0)) nin0))).ext E64).keep Kc66 (ninS (nLt (lLt (lLt P7_0.lt (lTr (lTr (lTr (lTr (lTr (lTr (lTr E9.1 Kc11.1) E14.1) Kc16.1) Kc19.1) E47.1) Kc49.1) Kc52.1)) (lEq g64.symm))) nin0)).keep Kc69 (ninS (nLt (lLt P7_0.lt (lEq g9.symm))) (ninS (nLt (lLt (lLt P7_0.lt (lTr (lTr (lTr E9.1 Kc11.1) E14.1) Kc16.1)) P19_0)) nin0))).ext E73) ((((((((((((P7_2.ext E9).keep Kc11 (ninS (nLt (lLt P7_0.lt (lEq g9.symm))) nin0)).ext E14).keep Kc16 (ninS (nLt (lLt (lLt P7_0.lt (lTr E9.1 Kc11.1)) (lEq g14.symm))) nin0)).keep Kc19 (ninS (nLt (lLt P7_0.lt (lEq g9.symm))) nin0)).ext E47).keep Kc49 (ninS (nLt (lLt (lLt P7_0.lt (lTr (lTr (lTr (lTr E9.1 Kc11.1) E14.1) Kc16.1) Kc19.1)) (lEq g47.symm))) nin0)).keep Kc52 (ninS (nLt (lLt P7_0.lt (lEq g9.symm))) (ninS (nLt (lLt (lLt P7_0.lt (lTr (lTr (lTr E9.1 Kc11.1) E14.1) Kc16.1)) P19_0)) nin0))).ext E64).keep Kc66 (ninS (nLt (lLt (lLt P7_0.lt (lTr (lTr (lTr (lTr (lTr (lTr (lTr E9.1 Kc11.1) E14.1) Kc16.1) Kc19.1) E47.1) Kc49.1) Kc52.1)) (lEq g64.symm))) nin0)).keep Kc69 (ninS (nLt (lLt P7_0.lt (lEq g9.symm))) (ninS (nLt (lLt (lLt P7_0.lt (lTr (lTr (lTr E9.1 Kc11.1) E14.1) Kc16.1)) P19_0)) nin0))).ext E73) ((((((((((((P7_3.ext E9).keep Kc11 (ninS (nLt (lLt P7_3.lt (lEq g9.symm))) nin0)).ext E14).keep Kc16 (ninS (nLt (lLt (lLt P7_3.lt (lTr E9.1 Kc11.1)) (lEq g14.symm))) nin0)).keep Kc19 (ninS (nLt (lLt P7_3.lt (lEq g9.symm))) nin0)).ext E47).keep Kc49 (ninS (nLt (lLt (lLt P7_3.lt (lTr (lTr (lTr (lTr E9.1 Kc11.1) E14.1) Kc16.1) Kc19.1)) (lEq g47.symm))) nin0)).keep Kc52 (ninS (nLt (lLt P7_3.lt (lEq g9.symm))) (ninS (nLt (lLt (lLt P7_3.lt (lTr (lTr (lTr E9.1 Kc11.1) E14.1) Kc16.1)) P19_0)) nin0))).ext E64).keep Kc66 (ninS (nLt (lLt (lLt P7_3.lt (lTr (lTr (lTr (lTr (lTr (lTr (lTr E9.1 Kc11.1) E14.1) Kc16.1) Kc19.1) E47.1) Kc49.1) Kc52.1)) (lEq g64.symm))) nin0)).keep Kc69 (ninS (nLt (lLt P7_3.lt (lEq g9.symm))) (ninS (nLt (lLt (lLt P7_3.lt (lTr (lTr (lTr E9.1 Kc11.1) E14.1) Kc16.1)) P19_0)) nin0))).ext E73) P3_4 P3_5 P7_4 P7_5) hZ7 (Wd hw 110 rfl) (Wd hw 107 rfl) (by decide) (by decide) (own_EW hw) H_74 (hTK.alikeC (hZ.alike.symm.trans hZ7.alike)) (hBW.alikeC (hZ.alike.symm.trans hZ7.alike))) (g := mkF m 130 #[vi p0, vi p1, vi p2, vi p3, vi ((1 : Int32) + ((p3 &&& (3 : Int32)) % (3 : Int32))), vi (0 : Int32), vr bS_3, vr bS_5, vr bS_7, vr b9, .unset, .unset] [(.ref b9), (.ref b73), (.ref b73)]) rfl (by rw [hml]; rfl) (Steps.refl _) (a := b73) (argsL := [(.ref b9)]) (rest := [(.ref b73)]) (lenOf pdv39 rfl) rfl (by show 2 * 0 + _ ≤ _; exact lEq rfl) (hb hby at_130) (fun _ _ => ⟨rfl, e73, (by decide : 15 + 10 ≤ _), (by decide : 50 + 2812 ≤ _)⟩)
        dsimp only [Pt.U, Pt.locs, Pt.cells, Pt.slots] at X75' l75 y75 z75 st75 hQ75 hS75' hg75 Rs75
        subst l75 y75 z75
        obtain ⟨X75, hS75, hZ75, hown75⟩ := rebS hS7 (by rw [e73]; exact (lTr (lTr (lTr (lTr (lTr (lTr (lTr (lTr (lTr (lTr (lTr (lTr (Nat.le_refl _) E9.1) Kc11.1) E14.1) Kc16.1) Kc19.1) E47.1) Kc49.1) Kc52.1) E64.1) Kc66.1) Kc69.1) E73.1)) X75' hS75' hg75 hZ7 hown7
        obtain ⟨b_75, d_75, kd_75, rfl, N75q, Kc75, P75_0, P75_1, P75_2, P75_3, P75_4, P75_5⟩ := hQ75
        have O75 := O73.keep Kc75 (allS g_b73 all0)
        have H_76 := Rs75.1
        have R_76 := R_74.trans Rs75
        have g_d_75 : n0 ≤ d_75 := lTr (own_sz O73) P75_2
        have N75 := Fr.app N69 N75q
        obtain ⟨cq77, kq77, q77a, q77b, q77c⟩ := isOf hZ75 rfl P75_0
        obtain ⟨_, _, ⟨T77, L77, k77, n77⟩, -, X77, ⟨Lc77, hQ77, l77, y77, z77⟩, st77⟩ := X75.virtualBack hx (y := MN_66) (z := MN_66) hown75 (mvT hZ75 (Wd hw 384 rfl)) (mvT hZ75 (Wd hw 385 rfl)) (notFace_of_selects (args := #[]) (mvT hZ75 (Wd hw 387 rfl))) (mvT hZ75 (Wd hw 387 rfl)) (mvT hZ75 (Wd hw 386 rfl)) (by decide) (backOf (W := 0) (rmPn l Z a0 hw [] cS aDE kDE aUS aSS aIE mO b73 b_75 d_75 kd_75 b14 b47 b64 bS_3 (T75.heap) n0 O75 GL P75_3 P75_4 P75_5 P75_1 (((((((((P16_0.keep Kc19).ext E47).keep Kc49).keep Kc52).ext E64).keep Kc66).keep Kc69).ext E73).keep Kc75) (((((((((P16_1.keep Kc19 (ninS (Ne.symm (nLt (lLt (lLt A9.lt Kc11.1) (lEq g14.symm)))) nin0)).ext E47).keep Kc49 (ninS (nLt (lLt (lLt A14.lt (lTr Kc16.1 Kc19.1)) (lEq g47.symm))) nin0)).keep Kc52 (ninS (Ne.symm (nLt (lLt (lLt A9.lt Kc11.1) (lEq g14.symm)))) (ninS (nLt (lLt (lLt A14.lt Kc16.1) P19_0)) nin0))).ext E64).keep Kc66 (ninS (nLt (lLt (lLt A14.lt (lTr (lTr (lTr (lTr Kc16.1 Kc19.1) E47.1) Kc49.1) Kc52.1)) (lEq g64.symm))) nin0)).keep Kc69 (ninS (Ne.symm (nLt (lLt (lLt A9.lt Kc11.1) (lEq g14.symm)))) (ninS (nLt (lLt (lLt A14.lt Kc16.1) P19_0)) nin0))).ext E73).keep Kc75 (ninS (nLt (lLt (lLt A14.lt (lTr (lTr (lTr (lTr (lTr (lTr (lTr Kc16.1 Kc19.1) E47.1) Kc49.1) Kc52.1) E64.1) Kc66.1) Kc69.1)) (lEq g73.symm))) nin0))) hZ75 (Wd hw 388 rfl) (Wd hw 107 rfl) (by decide) (by decide)) q77a q77c (g := mkF m 137 #[vi p0, vi p1, vi p2, vi p3, vi ((1 : Int32) + ((p3 &&& (3 : Int32)) % (3 : Int32))), vi (0 : Int32), vr bS_3, vr bS_5, vr bS_7, vr b9, vr b73, .unset] [(.ref b73)]) rfl (by rw [hml]; rfl) (Steps.refl _) (argsL := []) (rest := []) (lenOf pdv20 rfl) rfl (by show 2 * 0 + _ ≤ _; exact lEq rfl) (hb hby at_137) (fun _ _ => ⟨rfl, rfl, (by decide : 25 + 0 ≤ _), (by decide : 2862 + 0 ≤ _)⟩)
        dsimp only [Pt.U, Pt.locs, Pt.cells, Pt.slots] at X77 l77 y77 z77 st77 hQ77
        subst l77 y77 z77
        obtain ⟨rfl, N77q, e77⟩ := hQ77
        have N77 := Fr.app N75 N77q
        obtain ⟨cq78, kq78, q78a, q78b, q78c⟩ := isOf hZ75 e77 (((((((((((((((P3_0.keep Kc5).keep Kc7).ext E9).keep Kc11).ext E14).keep Kc16).keep Kc19).ext E47).keep Kc49).keep Kc52).ext E64).keep Kc66).keep Kc69).ext E73).keep Kc75)
        obtain ⟨_, _, ⟨T78, L78, k78, n78⟩, -, X78, ⟨Lc78, hQ78, l78, y78, z78⟩, st78⟩ := X77.virtualBack hx (y := MN_67) (z := MN_67) hown75 (mvT hZ75 (Wd hw 400 rfl)) (mvT hZ75 (Wd hw 401 rfl)) (notFace_of_selects (args := #[]) (mvT hZ75 (Wd hw 403 rfl))) (mvT hZ75 (Wd hw 403 rfl)) (mvT hZ75 (Wd hw 402 rfl)) (by decide) (backOf (W := 0) (rmEq l Z a0 hw [] cS aDE kDE aUS aSS aIE mO bS_3 (T75.heap) n0 O75 GL) hZ75 (Wd hw 404 rfl) (Wd hw 7 rfl) (by decide) (by decide)) q78a q78c (g := mkF m 151 #[vi p0, vi p1, vi p2, vi p3, vi ((1 : Int32) + ((p3 &&& (3 : Int32)) % (3 : Int32))), vi (0 : Int32), vr bS_3, vr bS_5, vr bS_7, vr b9, vr b73, vr bS_3] [(.ref bS_3), (.ref bS_3)]) rfl (by rw [hml]; rfl) (Steps.refl _) (argsL := [(.ref bS_3)]) (rest := []) (lenOf pdv38 rfl) rfl (by show 2 * 0 + _ ≤ _; exact lEq rfl) (hb hby at_151) (fun _ _ => ⟨rfl, e77, (by decide : 25 + 0 ≤ _), (by decide : 2862 + 0 ≤ _)⟩)
        dsimp only [Pt.U, Pt.locs, Pt.cells, Pt.slots] at X78 l78 y78 z78 st78 hQ78
        subst l78 y78 z78
        obtain ⟨rfl, N78q, e78⟩ := hQ78
        have N78 := Fr.app N77 N78q
        obtain ⟨fs, hr, hrun, hended, hRW⟩ := X78.leaveW hS75 (by rw [e78]; exact (Nat.le_refl _)) (v := some (.int 1)) (fun h => by rw [Bd.returns] at h; cases h)
        have hCR : CHr Z EL1 s.vm s.heap T78.vm T78.heap := by
          rw [hh, e78]
          exact R_76.trans (CHv.at X78 hZ75 (own_EW hw) H_76)
        refine ⟨_, _, pre57 _ ?_, hrun, hended, _, _, rfl, ?_, hCR, hRW.1, hRW.2.1, hRW.2.2.1, hRW.2.2.2.mono (by decide) (by decide)⟩
        · show SP p e below T52 m 104 #[vi p0, vi p1, vi p2, vi p3, vi ((1 : Int32) + ((p3 &&& (3 : Int32)) % (3 : Int32))), vi (0 : Int32), vr bS_3, vr bS_5, vr bS_7, vr b9, .unset, .unset] [(.int 3), (.int ((1 : Int32) + ((p3 &&& (3 : Int32)) % (3 : Int32))))] _
          refine XS.icmpNo X52.here hx rfl (hb hby at_104) rfl (flt hc104_56).1 ?_
          refine XS.aload X52.here hx rfl (hb hby at_107) rfl rfl ?_
          show SP p e below T52 m 109 #[vi p0, vi p1, vi p2, vi p3, vi ((1 : Int32) + ((p3 &&& (3 : Int32)) % (3 : Int32))), vi (0 : Int32), vr bS_3, vr bS_5, vr bS_7, vr b9, .unset, .unset] [(.ref b9)] _
          refine st64 _ ?_
          show SP p e below T64 m 112 #[vi p0, vi p1, vi p2, vi p3, vi ((1 : Int32) + ((p3 &&& (3 : Int32)) % (3 : Int32))), vi (0 : Int32), vr bS_3, vr bS_5, vr bS_7, vr b9, .unset, .unset] [(.ref b64), (.ref b9)] _
          refine XS.dup X64.here hx rfl (hb hby at_112) rfl rfl ?_
          refine XS.aload X64.here hx rfl (hb hby at_113) rfl rfl ?_
          refine XS.aload X64.here hx rfl (hb hby at_115) rfl rfl ?_
          show SP p e below T64 m 117 #[vi p0, vi p1, vi p2, vi p3, vi ((1 : Int32) + ((p3 &&& (3 : Int32)) % (3 : Int32))), vi (0 : Int32), vr bS_3, vr bS_5, vr bS_7, vr b9, .unset, .unset] [(.ref bS_5), (.ref bS_7), (.ref b64), (.ref b64), (.ref b9)] _
          refine st66.trans ?_
          show SP p e below T66 m 120 #[vi p0, vi p1, vi p2, vi p3, vi ((1 : Int32) + ((p3 &&& (3 : Int32)) % (3 : Int32))), vi (0 : Int32), vr bS_3, vr bS_5, vr bS_7, vr b9, .unset, .unset] [(.ref b64), (.ref b9)] _
          refine st69.trans ?_
          show SP p e below T69 m 123 #[vi p0, vi p1, vi p2, vi p3, vi ((1 : Int32) + ((p3 &&& (3 : Int32)) % (3 : Int32))), vi (0 : Int32), vr bS_3, vr bS_5, vr bS_7, vr b9, .unset, .unset] [(.int 1)] _
          refine XS.pop X69.here hx rfl (hb hby at_123) rfl rfl ?_
          show SP p e below T69 m 124 #[vi p0, vi p1, vi p2, vi p3, vi ((1 : Int32) + ((p3 &&& (3 : Int32)) % (3 : Int32))), vi (0 : Int32), vr bS_3, vr bS_5, vr bS_7, vr b9, .unset, .unset] [] _
          refine st73 _ ?_
          show SP p e below T73 m 127 #[vi p0, vi p1, vi p2, vi p3, vi ((1 : Int32) + ((p3 &&& (3 : Int32)) % (3 : Int32))), vi (0 : Int32), vr bS_3, vr bS_5, vr bS_7, vr b9, .unset, .unset] [(.ref b73)] _
          refine XS.dup X73.here hx rfl (hb hby at_127) rfl rfl ?_
          refine XS.aload X73.here hx rfl (hb hby at_128) rfl rfl ?_
          show SP p e below T73 m 130 #[vi p0, vi p1, vi p2, vi p3, vi ((1 : Int32) + ((p3 &&& (3 : Int32)) % (3 : Int32))), vi (0 : Int32), vr bS_3, vr bS_5, vr bS_7, vr b9, .unset, .unset] [(.ref b9), (.ref b73), (.ref b73)] _
          refine st75.trans ?_
          show SP p e below T75 m 133 #[vi p0, vi p1, vi p2, vi p3, vi ((1 : Int32) + ((p3 &&& (3 : Int32)) % (3 : Int32))), vi (0 : Int32), vr bS_3, vr bS_5, vr bS_7, vr b9, .unset, .unset] [(.ref b73)] _
          refine XS.astore X75.here hx rfl (hb hby at_133) rfl rfl (l' := #[vi p0, vi p1, vi p2, vi p3, vi ((1 : Int32) + ((p3 &&& (3 : Int32)) % (3 : Int32))), vi (0 : Int32), vr bS_3, vr bS_5, vr bS_7, vr b9, vr b73, .unset]) rfl ?_
          refine XS.aload X75.here hx rfl (hb hby at_135) rfl rfl ?_
          show SP p e below T75 m 137 #[vi p0, vi p1, vi p2, vi p3, vi ((1 : Int32) + ((p3 &&& (3 : Int32)) % (3 : Int32))), vi (0 : Int32), vr bS_3, vr bS_5, vr bS_7, vr b9, vr b73, .unset] [(.ref b73)] _
          refine st77.trans ?_
          show SP p e below T77 m 140 #[vi p0, vi p1, vi p2, vi p3, vi ((1 : Int32) + ((p3 &&& (3 : Int32)) % (3 : Int32))), vi (0 : Int32), vr bS_3, vr bS_5, vr bS_7, vr b9, vr b73, .unset] [(.ref bS_3)] _
          refine XS.astore X77.here hx rfl (hb hby at_140) rfl rfl (l' := #[vi p0, vi p1, vi p2, vi p3, vi ((1 : Int32) + ((p3 &&& (3 : Int32)) % (3 : Int32))), vi (0 : Int32), vr bS_3, vr bS_5, vr bS_7, vr b9, vr b73, vr bS_3]) rfl ?_
          refine XS.aload X77.here hx rfl (hb hby at_142) rfl rfl ?_
          refine XS.ifnullNo X77.here hx rfl (hb hby at_144) rfl ?_
          refine XS.aload X77.here hx rfl (hb hby at_147) rfl rfl ?_
          refine XS.aload X77.here hx rfl (hb hby at_149) rfl rfl ?_
          show SP p e below T77 m 151 #[vi p0, vi p1, vi p2, vi p3, vi ((1 : Int32) + ((p3 &&& (3 : Int32)) % (3 : Int32))), vi (0 : Int32), vr bS_3, vr bS_5, vr bS_7, vr b9, vr b73, vr bS_3] [(.ref bS_3), (.ref bS_3)] _
          refine st78.trans ?_
          show SP p e below T78 m 154 #[vi p0, vi p1, vi p2, vi p3, vi ((1 : Int32) + ((p3 &&& (3 : Int32)) % (3 : Int32))), vi (0 : Int32), vr bS_3, vr bS_5, vr bS_7, vr b9, vr b73, vr bS_3] [(.int 1)] _
          refine XS.ifNo X78.here hx rfl (hb hby at_154) rfl ((if0 _ _).trans (feq (by decide : ¬ ((1 : Int32) = (0 : Int32)))).1) ?_
          refine XS.iconst X78.here hx rfl (hb hby at_157) ?_
          refine XS.goto X78.here hx rfl (pc0 := 158) (pc' := 162) rfl (hb hby at_158) (by decide) (by decide) ?_
          show SP p e below T78 m 162 #[vi p0, vi p1, vi p2, vi p3, vi ((1 : Int32) + ((p3 &&& (3 : Int32)) % (3 : Int32))), vi (0 : Int32), vr bS_3, vr bS_5, vr bS_7, vr b9, vr b73, vr bS_3] [(.int 1)] _
          exact retN X78 hx (t := .boolean) Bd.returns (by simp) (hb hby at_162) hr
        · show Q_rm0 n0 _ T78.heap _
          rw [e78]
          exact ⟨rfl, N78⟩
  · obtain ⟨a79, T79, h79, k179, b79, kc79, X79, e79, E79, hS79, hk79, hZ79, hown79, A79, Fc79, Fv79, V79, la79, lb79, Rs79, Li79, nel79, st79⟩ := ldcCH X0w hx hZ hown (Wd hw 434 rfl) (own_wS hw) e0 hS0 (Nat.le_refl _) (own_EW hw) (List.mem_of_getElem? (i := 1) rfl) H0 (vs := []) (z := (0 : Int32)) ⟨by decide, by decide⟩ (by decide) rfl (g := mkF m 29 #[vi p0, vi p1, vi p2, vi p3, vi ((1 : Int32) + ((p3 &&& (3 : Int32)) % (3 : Int32))), vi (1 : Int32), .unset, .unset, .unset, .unset, .unset, .unset] []) rfl (hb hby at_29) (n := 0) (by decide) (by decide) (by decide) (by decide)
    have H_80 := Rs79.1
    have R_80 := R0.trans Rs79
    have O79 := O0.ext E79
    obtain ⟨_, _, ⟨T81, L81, k81, n81⟩, -, X81', hS81', hg81, ⟨Lc81, hQ81, l81, y81, z81, Rs81⟩, st81⟩ := callSS X79 hx (y := MN_68) hown79 (mvT hZ79 (Wd hw 0 rfl)) (mvT hZ79 (Wd hw 1 rfl)) (mvT hZ79 (Wd hw 2 rfl)) (mvT hZ79 (Wd hw 3 rfl)) (by decide) (backOfSH (W := 0) (rmStr l Z a0 hw [] cS aDE kDE aUS aSS aIE mO p1 h79 n0 O79 GL) hZ79 (Wd hw 3 rfl) (Wd hw 2 rfl) (by decide) (by decide) (own_EW hw) H_80) (g := mkF m 41 #[vi p0, vi p1, vi p2, vi p3, vi ((1 : Int32) + ((p3 &&& (3 : Int32)) % (3 : Int32))), vi (1 : Int32), vr a79, .unset, .unset, .unset, .unset, .unset] [(.int p1)]) rfl (by rw [hml]; rfl) (argsL := [(.int p1)]) (rest := []) (lenOf pdv36 rfl) rfl (by show 2 * 0 + _ ≤ _; exact lEq rfl) (hb hby at_41) (fun _ _ => ⟨rfl, e79, (by decide : 2 + 3 ≤ _), (by decide : 4 + 8 ≤ _)⟩)
    dsimp only [Pt.U, Pt.locs, Pt.cells, Pt.slots] at X81' l81 y81 z81 st81 hQ81 hS81' hg81 Rs81
    subst l81 y81 z81
    obtain ⟨X81, hS81, hZ81, hown81⟩ := rebS hS79 (by rw [e79]; exact hk79) X81' hS81' hg81 hZ79 hown79
    obtain ⟨bS_81, vS_81, kS_81, nS_81, lS_81, rfl, N81q, Kc81, P81_0, P81_1, P81_2, P81_3, P81_4, P81_5⟩ := hQ81
    have O81 := O79.keep Kc81 all0
    have H_82 := Rs81.1
    have R_82 := R_80.trans Rs81
    have N81 := Fr.app N0 N81q
    obtain ⟨_, _, ⟨T83, L83, k83, n83⟩, -, X83', hS83', hg83, ⟨Lc83, hQ83, l83, y83, z83, Rs83⟩, st83⟩ := callSS X81 hx (y := MN_68) hown81 (mvT hZ81 (Wd hw 0 rfl)) (mvT hZ81 (Wd hw 1 rfl)) (mvT hZ81 (Wd hw 2 rfl)) (mvT hZ81 (Wd hw 3 rfl)) (by decide) (backOfSH (W := 0) (rmStr l Z a0 hw [] cS aDE kDE aUS aSS aIE mO p2 (T81.heap) n0 O81 GL) hZ81 (Wd hw 3 rfl) (Wd hw 2 rfl) (by decide) (by decide) (own_EW hw) H_82) (g := mkF m 47 #[vi p0, vi p1, vi p2, vi p3, vi ((1 : Int32) + ((p3 &&& (3 : Int32)) % (3 : Int32))), vi (1 : Int32), vr a79, vr bS_81, .unset, .unset, .unset, .unset] [(.int p2)]) rfl (by rw [hml]; rfl) (argsL := [(.int p2)]) (rest := []) (lenOf pdv36 rfl) rfl (by show 2 * 0 + _ ≤ _; exact lEq rfl) (hb hby at_47) (fun _ _ => ⟨rfl, rfl, (by decide : 5 + 3 ≤ _), (by decide : 12 + 8 ≤ _)⟩)
    dsimp only [Pt.U, Pt.locs, Pt.cells, Pt.slots] at X83' l83 y83 z83 st83 hQ83 hS83' hg83 Rs83
    subst l83 y83 z83
    obtain ⟨X83, hS83, hZ83, hown83⟩ := rebS hS81 (Nat.le_refl _) X83' hS83' hg83 hZ81 hown81
    obtain ⟨bS_83, vS_83, kS_83, nS_83, lS_83, rfl, N83q, Kc83, P83_0, P83_1, P83_2, P83_3, P83_4, P83_5⟩ := hQ83
    have O83 := O81.keep Kc83 all0
    have H_84 := Rs83.1
    have R_84 := R_82.trans Rs83
    have N83 := Fr.app N81 N83q
    obtain ⟨T85, h85, X85, e85, E85, A85, D85, -, st85⟩ := newO X83 hx hZ83 hown83 (Wd hw 34 rfl) (Wd hw 35 rfl) (Wd hw 36 rfl) rfl (g := mkF m 52 #[vi p0, vi p1, vi p2, vi p3, vi ((1 : Int32) + ((p3 &&& (3 : Int32)) % (3 : Int32))), vi (1 : Int32), vr a79, vr bS_81, vr bS_83, .unset, .unset, .unset] []) rfl (hb hby at_52) (by decide) (by decide)
    obtain ⟨b85, g85⟩ : ∃ z, z = T83.heap.size := ⟨_, rfl⟩
    rw [← g85] at A85 D85 st85
    have g_b85 : n0 ≤ b85 := lTr (own_sz O83) (lEq g85.symm)
    have H_86 := H_84.ext E85
    have R_86 := R_84.trans (CHr.ext E85 H_84)
    have O85 := O83.ext E85
    have F_modCount_b85 : Fld Z h85 b85 "java/util/AbstractList" "modCount" "I" (.int 0) := D85 (Or.inl (Wd hw 54 rfl)) (ty := .int) (by decide)
    have F_elementData_b85 : Fld Z h85 b85 "java/util/ArrayList" "elementData" "[Ljava/lang/Object;" .null := D85 (Or.inl (Wd hw 57 rfl)) (ty := (.array (.object "java/lang/Object"))) (by decide)
    have F_size_b85 : Fld Z h85 b85 "java/util/ArrayList" "size" "I" (.int 0) := D85 (Or.inl (Wd hw 82 rfl)) (ty := .int) (by decide)
    obtain ⟨_, _, ⟨T87, L87, k87, n87⟩, -, X87, ⟨Lc87, hQ87, l87, y87, z87⟩, st87⟩ := X85.specialBack hx (y := MN_32) rfl hown83 (mvT hZ83 (Wd hw 37 rfl)) (mvT hZ83 (Wd hw 38 rfl)) (mvT hZ83 (Wd hw 39 rfl)) (by decide) (backOf (W := 1) (rmLi l Z a0 hw [] cS aDE kDE aUS aSS aIE mO b85 h85 n0 O85 GL A85 F_elementData_b85 F_size_b85 F_modCount_b85 g_b85) hZ83 (Wd hw 39 rfl) (Wd hw 36 rfl) (by decide) (by decide)) (g := mkF m 56 #[vi p0, vi p1, vi p2, vi p3, vi ((1 : Int32) + ((p3 &&& (3 : Int32)) % (3 : Int32))), vi (1 : Int32), vr a79, vr bS_81, vr bS_83, .unset, .unset, .unset] [(.ref b85), (.ref b85)]) rfl (by rw [hml]; rfl) (Steps.refl _) (a := b85) (argsL := []) (rest := [(.ref b85)]) (lenOf pdv18 rfl) rfl (by show 2 * 0 + _ ≤ _; exact lEq rfl) (hb hby at_56) (fun _ _ => ⟨rfl, e85, (by decide : 9 + 0 ≤ _), (by decide : 23 + 0 ≤ _)⟩)
    dsimp only [Pt.U, Pt.locs, Pt.cells, Pt.slots] at X87 l87 y87 z87 st87 hQ87
    subst l87 y87 z87
    obtain ⟨rfl, N87q, Kc87, P87_0, P87_1, P87_2, P87_3⟩ := hQ87
    have O87 := O85.keep Kc87 (allS g_b85 all0)
    have Sf89 : Safe Z EL1 T83.vm h85 b85 := Safe.exa (EL := EL1) hZ83.alike A85 (by decide) (by decide)
    have H_88 := H_86.keep Kc87 (sfS Sf89 sf0)
    have R_88 := R_86.trans (CHr.keep Kc87 (sfS Sf89 sf0) H_86)
    have N87 := Fr.app N83 N87q
    obtain ⟨T90, h90, X90, e90, E90, A90, D90, -, st90⟩ := newO X87 hx hZ83 hown83 (Wd hw 58 rfl) (Wd hw 59 rfl) (Wd hw 60 rfl) rfl (g := mkF m 63 #[vi p0, vi p1, vi p2, vi p3, vi ((1 : Int32) + ((p3 &&& (3 : Int32)) % (3 : Int32))), vi (1 : Int32), vr a79, vr bS_81, vr bS_83, vr b85, .unset, .unset] [(.ref b85)]) rfl (hb hby at_63) (by decide) (by decide)
    obtain ⟨b90, g90⟩ : ∃ z, z = T87.heap.size := ⟨_, rfl⟩
    rw [← g90] at A90 D90 st90
    have g_b90 : n0 ≤ b90 := lTr (own_sz O87) (lEq g90.symm)
    have H_91 := H_88.ext E90
    have R_91 := R_88.trans (CHr.ext E90 H_88)
    have O90 := O87.ext E90
    have F_pointer_b90 : Fld Z h90 b90 "com/example/grantline/grantline/PolicyException$Problem" "pointer" "Ljava/lang/String;" .null := D90 (Or.inr (Wd hw 71 rfl)) (ty := (.object "java/lang/String")) (by decide)
    have F_description_b90 : Fld Z h90 b90 "com/example/grantline/grantline/PolicyException$Problem" "description" "Ljava/lang/String;" .null := D90 (Or.inr (Wd hw 73 rfl)) (ty := (.object "java/lang/String")) (by decide)
    obtain ⟨_, _, ⟨T92, L92, k92, n92⟩, -, X92, ⟨Lc92, hQ92, l92, y92, z92⟩, st92⟩ := X90.specialBack hx (y := MN_27) rfl hown83 (mvT hZ83 (Wd hw 61 rfl)) (mvT hZ83 (Wd hw 62 rfl)) (mvT hZ83 (Wd hw 63 rfl)) (by decide) (backOf (W := 2) (rmPi l Z a0 hw [] cS aDE kDE aUS aSS aIE mO b90 a79 bS_83 h90 n0 O90 GL A90 F_pointer_b90 F_description_b90 g_b90) hZ83 (Wd hw 63 rfl) (Wd hw 60 rfl) (by decide) (by decide)) (g := mkF m 71 #[vi p0, vi p1, vi p2, vi p3, vi ((1 : Int32) + ((p3 &&& (3 : Int32)) % (3 : Int32))), vi (1 : Int32), vr a79, vr bS_81, vr bS_83, vr b85, .unset, .unset] [(.ref bS_83), (.ref a79), (.ref b90), (.ref b90), (.ref b85)]) rfl (by rw [hml]; rfl) (Steps.refl _) (a := b90) (argsL := [(.ref a79), (.ref bS_83)]) (rest := [(.ref b90), (.ref b85)]) (lenOf pdv37 rfl) rfl (by show 2 * 0 + _ ≤ _; exact lEq rfl) (hb hby at_71) (fun _ _ => ⟨rfl, e90, (by decide : 10 + 0 ≤ _), (by decide : 25 + 0 ≤ _)⟩)
    dsimp only [Pt.U, Pt.locs, Pt.cells, Pt.slots] at X92 l92 y92 z92 st92 hQ92
    subst l92 y92 z92
    obtain ⟨rfl, N92q, Kc92, P92_0, P92_1, P92_2⟩ := hQ92
    have O92 := O90.keep Kc92 (allS g_b90 all0)
    have Sf94 : Safe Z EL1 T83.vm h90 b90 := Safe.exa (EL := EL1) hZ83.alike A90 (by decide) (by decide)
    have H_93 := H_91.keep Kc92 (sfS Sf94 sf0)
    have R_93 := R_91.trans (CHr.keep Kc92 (sfS Sf94 sf0) H_91)
    have N92 := Fr.app N87 N92q
    obtain ⟨cq95, kq95, q95a, q95b, q95c⟩ := isOf hZ83 rfl ((P87_0.ext E90).keep Kc92)
    obtain ⟨_, _, ⟨T95, L95, k95, n95⟩, -, X95, ⟨Lc95, hQ95, l95, y95, z95⟩, st95⟩ := X92.virtualBack hx (y := MN_37) (z := MN_37) hown83 (mvT hZ83 (Wd hw 74 rfl)) (mvT hZ83 (Wd hw 75 rfl)) (notFace_of_selects (args := #[]) (mvT hZ83 (Wd hw 77 rfl))) (mvT hZ83 (Wd hw 77 rfl)) (mvT hZ83 (Wd hw 76 rfl)) (by decide) (backOf (W := 0) (rmA1_0 l Z a0 hw [] cS aDE kDE aUS aSS aIE mO b85 b90 ((0 : Int32)) (T92.heap) n0 O92 GL ((P87_0.ext E90).keep Kc92) ((P87_1.ext E90).keep Kc92 (ninS (nLt (lLt (lLt A85.lt Kc87.1) (lEq g90.symm))) nin0)) ((P87_2.ext E90).keep Kc92 (ninS (nLt (lLt (lLt A85.lt Kc87.1) (lEq g90.symm))) nin0)) ((P87_3.ext E90).keep Kc92 (ninS (nLt (lLt (lLt A85.lt Kc87.1) (lEq g90.symm))) nin0)) g_b85 P92_0) hZ83 (Wd hw 78 rfl) (Wd hw 36 rfl) (by decide) (by decide)) q95a q95c (g := mkF m 74 #[vi p0, vi p1, vi p2, vi p3, vi ((1 : Int32) + ((p3 &&& (3 : Int32)) % (3 : Int32))), vi (1 : Int32), vr a79, vr bS_81, vr bS_83, vr b85, .unset, .unset] [(.ref b90), (.ref b85)]) rfl (by rw [hml]; rfl) (Steps.refl _) (argsL := [(.ref b90)]) (rest := []) (lenOf pdv38 rfl) rfl (by show 2 * 0 + _ ≤ _; exact lEq rfl) (hb hby at_74) (fun _ _ => ⟨rfl, rfl, (by decide : 10 + 1 ≤ _), (by decide : 25 + 10 ≤ _)⟩)
    dsimp only [Pt.U, Pt.locs, Pt.cells, Pt.slots] at X95 l95 y95 z95 st95 hQ95
    subst l95 y95 z95
    obtain ⟨b_95, kb_95, rfl, N95q, Kc95, P95_0, P95_1, P95_2, P95_3, P95_4, P95_5, P95_6, P95_7⟩ := hQ95
    have O95 := O92.keep Kc95 (allS g_b85 all0)
    have Sf97 : Safe Z EL1 T83.vm T92.heap b85 := Safe.exa (EL := EL1) hZ83.alike ((P87_0.ext E90).keep Kc92) (by decide) (by decide)
    have H_96 := H_93.keep Kc95 (sfS Sf97 sf0)
    have R_96 := R_93.trans (CHr.keep Kc95 (sfS Sf97 sf0) H_93)
    have g_b_95 : n0 ≤ b_95 := lTr (own_sz O92) P95_0
    have N95 := Fr.app N92 N95q
    have pre99 : ∀ t, SP p e below T95 m 81 #[vi p0, vi p1, vi p2, vi p3, vi ((1 : Int32) + ((p3 &&& (3 : Int32)) % (3 : Int32))), vi (1 : Int32), vr a79, vr bS_81, vr bS_83, vr b85, .unset, .unset] [(.int 2), (.int ((1 : Int32) + ((p3 &&& (3 : Int32)) % (3 : Int32))))] t → Steps p.tables e below (s₁.setTop (entryFrame m #[(.int p0), (.int p1), (.int p2), (.int p3)] maxLocals)) t := fun t kt => by
      refine pre2 t ?_
      show SP p e below s₁ m 14 #[vi p0, vi p1, vi p2, vi p3, vi ((1 : Int32) + ((p3 &&& (3 : Int32)) % (3 : Int32))), .unset, .unset, .unset, .unset, .unset, .unset, .unset] [(.int (((p3.toUInt32 >>> ((2 : Int32) &&& 31).toUInt32).toInt32) &&& (1 : Int32)))] _
      refine XS.ifNo X0w.here hx rfl (hb hby at_14) rfl ((if0 _ _).trans (feq hc14_1).1) ?_
      refine XS.iconst X0w.here hx rfl (hb hby at_17) ?_
      refine XS.goto X0w.here hx rfl (pc0 := 18) (pc' := 22) rfl (hb hby at_18) (by decide) (by decide) ?_
      refine XS.istore X0w.here hx rfl (hb hby at_22) rfl (l' := #[vi p0, vi p1, vi p2, vi p3, vi ((1 : Int32) + ((p3 &&& (3 : Int32)) % (3 : Int32))), vi (1 : Int32), .unset, .unset, .unset, .unset, .unset, .unset]) rfl ?_
      refine XS.iload X0w.here hx rfl (hb hby at_24) rfl ?_
      refine XS.ifNo X0w.here hx rfl (hb hby at_26) rfl ((if0 _ _).trans (feq (by decide : ¬ ((1 : Int32) = (0 : Int32)))).1) ?_
      show SP p e below s₁ m 29 #[vi p0, vi p1, vi p2, vi p3, vi ((1 : Int32) + ((p3 &&& (3 : Int32)) % (3 : Int32))), vi (1 : Int32), .unset, .unset, .unset, .unset, .unset, .unset] [] _
      refine st79 _ ?_
      show SP p e below T79 m 31 #[vi p0, vi p1, vi p2, vi p3, vi ((1 : Int32) + ((p3 &&& (3 : Int32)) % (3 : Int32))), vi (1 : Int32), .unset, .unset, .unset, .unset, .unset, .unset] [(.ref a79)] _
      refine XS.goto X79.here hx rfl (pc0 := 31) (pc' := 38) rfl (hb hby at_31) (by decide) (by decide) ?_
      refine XS.astore X79.here hx rfl (hb hby at_38) rfl rfl (l' := #[vi p0, vi p1, vi p2, vi p3, vi ((1 : Int32) + ((p3 &&& (3 : Int32)) % (3 : Int32))), vi (1 : Int32), vr a79, .unset, .unset, .unset, .unset, .unset]) rfl ?_
      refine XS.iloadN X79.here hx rfl (hb hby at_40) rfl ?_
      show SP p e below T79 m 41 #[vi p0, vi p1, vi p2, vi p3, vi ((1 : Int32) + ((p3 &&& (3 : Int32)) % (3 : Int32))), vi (1 : Int32), vr a79, .unset, .unset, .unset, .unset, .unset] [(.int p1)] _
      refine st81.trans ?_
      show SP p e below T81 m 44 #[vi p0, vi p1, vi p2, vi p3, vi ((1 : Int32) + ((p3 &&& (3 : Int32)) % (3 : Int32))), vi (1 : Int32), vr a79, .unset, .unset, .unset, .unset, .unset] [(.ref bS_81)] _
      refine XS.astore X81.here hx rfl (hb hby at_44) rfl rfl (l' := #[vi p0, vi p1, vi p2, vi p3, vi ((1 : Int32) + ((p3 &&& (3 : Int32)) % (3 : Int32))), vi (1 : Int32), vr a79, vr bS_81, .unset, .unset, .unset, .unset]) rfl ?_
      refine XS.iloadN X81.here hx rfl (hb hby at_46) rfl ?_
      show SP p e below T81 m 47 #[vi p0, vi p1, vi p2, vi p3, vi ((1 : Int32) + ((p3 &&& (3 : Int32)) % (3 : Int32))), vi (1 : Int32), vr a79, vr bS_81, .unset, .unset, .unset, .unset] [(.int p2)] _
      refine st83.trans ?_
      show SP p e below T83 m 50 #[vi p0, vi p1, vi p2, vi p3, vi ((1 : Int32) + ((p3 &&& (3 : Int32)) % (3 : Int32))), vi (1 : Int32), vr a79, vr bS_81, .unset, .unset, .unset, .unset] [(.ref bS_83)] _
      refine XS.astore X83.here hx rfl (hb hby at_50) rfl rfl (l' := #[vi p0, vi p1, vi p2, vi p3, vi ((1 : Int32) + ((p3 &&& (3 : Int32)) % (3 : Int32))), vi (1 : Int32), vr a79, vr bS_81, vr bS_83, .unset, .unset, .unset]) rfl ?_
      show SP p e below T83 m 52 #[vi p0, vi p1, vi p2, vi p3, vi ((1 : Int32) + ((p3 &&& (3 : Int32)) % (3 : Int32))), vi (1 : Int32), vr a79, vr bS_81, vr bS_83, .unset, .unset, .unset] [] _
      refine st85 _ ?_
      show SP p e below T85 m 55 #[vi p0, vi p1, vi p2, vi p3, vi ((1 : Int32) + ((p3 &&& (3 : Int32)) % (3 : Int32))), vi (1 : Int32), vr a79, vr bS_81, vr bS_83, .unset, .unset, .unset] [(.ref b85)] _
      refine XS.dup X85.here hx rfl (hb hby at_55) rfl rfl ?_
      show SP p e below T85 m 56 #[vi p0, vi p1, vi p2, vi p3, vi ((1 : Int32) + ((p3 &&& (3 : Int32)) % (3 : Int32))), vi (1 : Int32), vr a79, vr bS_81, vr bS_83, .unset, .unset, .unset] [(.ref b85), (.ref b85)] _
      refine st87.trans ?_
      show SP p e below T87 m 59 #[vi p0, vi p1, vi p2, vi p3, vi ((1 : Int32) + ((p3 &&& (3 : Int32)) % (3 : Int32))), vi (1 : Int32), vr a79, vr bS_81, vr bS_83, .unset, .unset, .unset] [(.ref b85)] _
      refine XS.astore X87.here hx rfl (hb hby at_59) rfl rfl (l' := #[vi p0, vi p1, vi p2, vi p3, vi ((1 : Int32) + ((p3 &&& (3 : Int32)) % (3 : Int32))), vi (1 : Int32), vr a79, vr bS_81, vr bS_83, vr b85, .unset, .unset]) rfl ?_
      refine XS.aload X87.here hx rfl (hb hby at_61) rfl rfl ?_
      show SP p e below T87 m 63 #[vi p0, vi p1, vi p2, vi p3, vi ((1 : Int32) + ((p3 &&& (3 : Int32)) % (3 : Int32))), vi (1 : Int32), vr a79, vr bS_81, vr bS_83, vr b85, .unset, .unset] [(.ref b85)] _
      refine st90 _ ?_
      show SP p e below T90 m 66 #[vi p0, vi p1, vi p2, vi p3, vi ((1 : Int32) + ((p3 &&& (3 : Int32)) % (3 : Int32))), vi (1 : Int32), vr a79, vr bS_81, vr bS_83, vr b85, .unset, .unset] [(.ref b90), (.ref b85)] _
      refine XS.dup X90.here hx rfl (hb hby at_66) rfl rfl ?_
      refine XS.aload X90.here hx rfl (hb hby at_67) rfl rfl ?_
      refine XS.aload X90.here hx rfl (hb hby at_69) rfl rfl ?_
      show SP p e below T90 m 71 #[vi p0, vi p1, vi p2, vi p3, vi ((1 : Int32) + ((p3 &&& (3 : Int32)) % (3 : Int32))), vi (1 : Int32), vr a79, vr bS_81, vr bS_83, vr b85, .unset, .unset] [(.ref bS_83), (.ref a79), (.ref b90), (.ref b90), (.ref b85)] _
      refine st92.trans ?_
      show SP p e below T92 m 74 #[vi p0, vi p1, vi p2, vi p3, vi ((1 : Int32) + ((p3 &&& (3 : Int32)) % (3 : Int32))), vi (1 : Int32), vr a79, vr bS_81, vr bS_83, vr b85, .unset, .unset] [(.ref b90), (.ref b85)] _
      refine st95.trans ?_
      show SP p e below T95 m 77 #[vi p0, vi p1, vi p2, vi p3, vi ((1 : Int32) + ((p3 &&& (3 : Int32)) % (3 : Int32))), vi (1 : Int32), vr a79, vr bS_81, vr bS_83, vr b85, .unset, .unset] [(.int 1)] _
      refine XS.pop X95.here hx rfl (hb hby at_77) rfl rfl ?_
      refine XS.iload X95.here hx rfl (hb hby at_78) rfl ?_
      refine XS.iconst X95.here hx rfl (hb hby at_80) ?_
      exact kt
    by_cases hc81_98 : ((1 : Int32) + ((p3 &&& (3 : Int32)) % (3 : Int32))) < (2 : Int32)
    · have pre101 : ∀ t, SP p e below T95 m 104 #[vi p0, vi p1, vi p2, vi p3, vi ((1 : Int32) + ((p3 &&& (3 : Int32)) % (3 : Int32))), vi (1 : Int32), vr a79, vr bS_81, vr bS_83, vr b85, .unset, .unset] [(.int 3), (.int ((1 : Int32) + ((p3 &&& (3 : Int32)) % (3 : Int32))))] t → Steps p.tables e below (s₁.setTop (entryFrame m #[(.int p0), (.int p1), (.int p2), (.int p3)] maxLocals)) t := fun t kt => by
        refine pre99 t ?_
        show SP p e below T95 m 81 #[vi p0, vi p1, vi p2, vi p3, vi ((1 : Int32) + ((p3 &&& (3 : Int32)) % (3 : Int32))), vi (1 : Int32), vr a79, vr bS_81, vr bS_83, vr b85, .unset, .unset] [(.int 2), (.int ((1 : Int32) + ((p3 &&& (3 : Int32)) % (3 : Int32))))] _
        refine XS.icmpYes X95.here hx rfl (pc0 := 81) (pc' := 101) rfl (hb hby at_81) rfl (tlt hc81_98).1 (by decide) (by decide) ?_
        refine XS.iload X95.here hx rfl (hb hby at_101) rfl ?_
        refine XS.iconst X95.here hx rfl (hb hby at_103) ?_
        exact kt
      by_cases hc104_100 : ((1 : Int32) + ((p3 &&& (3 : Int32)) % (3 : Int32))) < (3 : Int32)
      · obtain ⟨T102, h102, X102, e102, E102, A102, D102, U102, st102⟩ := newO X95 hx hZ83 hown83 (Wd hw 105 rfl) (Wd hw 106 rfl) (Wd hw 107 rfl) rfl (g := mkF m 124 #[vi p0, vi p1, vi p2, vi p3, vi ((1 : Int32) + ((p3 &&& (3 : Int32)) % (3 : Int32))), vi (1 : Int32), vr a79, vr bS_81, vr bS_83, vr b85, .unset, .unset] []) rfl (hb hby at_124) (by decide) (by decide)
        obtain ⟨b102, g102⟩ : ∃ z, z = T95.heap.size := ⟨_, rfl⟩
        rw [← g102] at A102 D102 U102 st102
        have g_b102 : n0 ≤ b102 := lTr (own_sz O95) (lEq g102.symm)
        have H_103 := H_96.ext E102
        have R_103 := R_96.trans (CHr.ext E102 H_96)
        have O102 := O95.ext E102
        have F_cause_b102 : Fld Z h102 b102 "java/lang/Throwable" "cause" "Ljava/lang/Throwable;" .null := D102 (Or.inl (Wd hw 276 rfl)) (ty := (.object "java/lang/Throwable")) (by decide)
        have F_stackTrace_b102 : Fld Z h102 b102 "java/lang/Throwable" "stackTrace" "[Ljava/lang/StackTraceElement;" .null := D102 (Or.inl (Wd hw 279 rfl)) (ty := (.array (.object "java/lang/StackTraceElement"))) (by decide)
        have F_suppressedExceptions_b102 : Fld Z h102 b102 "java/lang/Throwable" "suppressedExceptions" "Ljava/util/List;" .null := D102 (Or.inl (Wd hw 282 rfl)) (ty := (.object "java/util/List")) (by decide)
        have F_detailMessage_b102 : Fld Z h102 b102 "java/lang/Throwable" "detailMessage" "Ljava/lang/String;" .null := D102 (Or.inl (Wd hw 305 rfl)) (ty := (.object "java/lang/String")) (by decide)
        have F_backtrace_b102 : Fld Z h102 b102 "java/lang/Throwable" "backtrace" "Ljava/lang/Object;" .null := D102 (Or.inl (Wd hw 306 rfl)) (ty := (.object "java/lang/Object")) (by decide)
        have F_depth_b102 : Fld Z h102 b102 "java/lang/Throwable" "depth" "I" (.int 0) := D102 (Or.inl (Wd hw 307 rfl)) (ty := .int) (by decide)
        have F_problems_b102 : Fld Z h102 b102 "com/example/grantline/grantline/PolicyException" "problems" "Ljava/util/List;" .null := D102 (Or.inr (Wd hw 383 rfl)) (ty := (.object "java/util/List")) (by decide)
        obtain ⟨_, _, ⟨T104, L104, k104, n104⟩, -, X104', hS104', hg104, ⟨Lc104, hQ104, l104, y104, z104, Rs104⟩, st104⟩ := X102.specialBackS hx (y := MN_63) rfl hown83 (mvT hZ83 (Wd hw 108 rfl)) (mvT hZ83 (Wd hw 109 rfl)) (mvT hZ83 (Wd hw 110 rfl)) (by decide) (backOfSKH (W := 1) (rmX_1 l Z a0 hw [] hlt cS aDE kDE aUS aSS aIE mO b102 b85 b_95 kb_95 b90 a79 b79 kc79 ((0 : Int32)) ([]) bS_83 vS_83 kS_83 nS_83 lS_83 h102 n0 O102 GL A102 U102 F_cause_b102 F_stackTrace_b102 F_suppressedExceptions_b102 F_detailMessage_b102 F_backtrace_b102 F_problems_b102 g_b102 (P95_4.ext E102) (P95_5.ext E102) (P95_6.ext E102) (P95_1.ext E102) (P95_2.ext E102) ((P92_0.keep Kc95).ext E102) ((P92_1.keep Kc95 (ninS (Ne.symm (nLt (lLt (lLt A85.lt Kc87.1) (lEq g90.symm)))) nin0)).ext E102) ((P92_2.keep Kc95 (ninS (Ne.symm (nLt (lLt (lLt A85.lt Kc87.1) (lEq g90.symm)))) nin0)).ext E102) ((((((((A79.keep Kc81).keep Kc83).ext E85).keep Kc87).ext E90).keep Kc92).keep Kc95).ext E102) ((((((((Fv79.keep Kc81 nin0).keep Kc83 nin0).ext E85).keep Kc87 (ninS (nLt (lLt (lLt A79.lt (lTr Kc81.1 Kc83.1)) (lEq g85.symm))) nin0)).ext E90).keep Kc92 (ninS (nLt (lLt (lLt A79.lt (lTr (lTr (lTr Kc81.1 Kc83.1) E85.1) Kc87.1)) (lEq g90.symm))) nin0)).keep Kc95 (ninS (nLt (lLt (lLt A79.lt (lTr Kc81.1 Kc83.1)) (lEq g85.symm))) nin0)).ext E102) ((((((((Fc79.keep Kc81 nin0).keep Kc83 nin0).ext E85).keep Kc87 (ninS (nLt (lLt (lLt A79.lt (lTr Kc81.1 Kc83.1)) (lEq g85.symm))) nin0)).ext E90).keep Kc92 (ninS (nLt (lLt (lLt A79.lt (lTr (lTr (lTr Kc81.1 Kc83.1) E85.1) Kc87.1)) (lEq g90.symm))) nin0)).keep Kc95 (ninS (nLt (lLt (lLt A79.lt (lTr Kc81.1 Kc83.1)) (lEq g85.symm))) nin0)).ext E102) ((((((((V79.keep Kc81 nin0).keep Kc83 nin0).ext E85).keep Kc87 (ninS (nLt (lLt (lLt V79.lt (lTr Kc81.1 Kc83.1)) (lEq g85.symm))) nin0)).ext E90).keep Kc92 (ninS (nLt (lLt (lLt V79.lt (lTr (lTr (lTr Kc81.1 Kc83.1) E85.1) Kc87.1)) (lEq g90.symm))) nin0)).keep Kc95 (ninS (nLt (lLt (lLt V79.lt (lTr Kc81.1 Kc83.1)) (lEq g85.symm))) nin0)).ext E102) ((((((P83_0.ext E85).keep Kc87).ext E90).keep Kc92).keep Kc95).ext E102) ((((((P83_1.ext E85).keep Kc87 (ninS (nLt (lLt P83_0.lt (lEq g85.symm))) nin0)).ext E90).keep Kc92 (ninS (nLt (lLt (lLt P83_0.lt (lTr E85.1 Kc87.1)) (lEq g90.symm))) nin0)).keep Kc95 (ninS (nLt (lLt P83_0.lt (lEq g85.symm))) nin0)).ext E102) ((((((P83_2.ext E85).keep Kc87 (ninS (nLt (lLt P83_0.lt (lEq g85.symm))) nin0)).ext E90).keep Kc92 (ninS (nLt (lLt (lLt P83_0.lt (lTr E85.1 Kc87.1)) (lEq g90.symm))) nin0)).keep Kc95 (ninS (nLt (lLt P83_0.lt (lEq g85.symm))) nin0)).ext E102) ((((((P83_3.ext E85).keep Kc87 (ninS (nLt (lLt P83_3.lt (lEq g85.symm))) nin0)).ext E90).keep Kc92 (ninS (nLt (lLt (lLt P83_3.lt (lTr E85.1 Kc87.1)) (lEq g90.symm))) nin0)).keep Kc95 (ninS (nLt (lLt P83_3.lt (lEq g85.symm))) nin0)).ext E102) (by decide) (by decide) P83_4 P83_5) hZ83 (Wd hw 110 rfl) (Wd hw 107 rfl) (by decide) (by decide) (own_EW hw) H_103 (hTK.alikeC (hZ.alike.symm.trans hZ83.alike)) (hBW.alikeC (hZ.alike.symm.trans hZ83.alike))) (g := mkF m 130 #[vi p0, vi p1, vi p2, vi p3, vi ((1 : Int32) + ((p3 &&& (3 : Int32)) % (3 : Int32))), vi (1 : Int32), vr a79, vr bS_81, vr bS_83, vr b85, .unset, .unset] [(.ref b85), (.ref b102), (.ref b102)]) rfl (by rw [hml]; rfl) (Steps.refl _) (a := b102) (argsL := [(.ref b85)]) (rest := [(.ref b102)]) (lenOf pdv39 rfl) rfl (by show 2 * 0 + _ ≤ _; exact lEq rfl) (hb hby at_130) (fun _ _ => ⟨rfl, e102, (by decide : 12 + 9 ≤ _), (by decide : 42 + 2807 ≤ _)⟩)
        dsimp only [Pt.U, Pt.locs, Pt.cells, Pt.slots] at X104' l104 y104 z104 st104 hQ104 hS104' hg104 Rs104
        subst l104 y104 z104
        obtain ⟨X104, hS104, hZ104, hown104⟩ := rebS hS83 (by rw [e102]; exact (lTr (lTr (lTr (lTr (lTr (lTr (Nat.le_refl _) E85.1) Kc87.1) E90.1) Kc92.1) Kc95.1) E102.1)) X104' hS104' hg104 hZ83 hown83
        obtain ⟨b_104, rfl, N104q, Kc104, P104_0, P104_1, P104_2, P104_3⟩ := hQ104
        have O104 := O102.keep Kc104 (allS g_b102 all0)
        have H_105 := Rs104.1
        have R_105 := R_103.trans Rs104
        have N104 := Fr.app N95 N104q
        obtain ⟨cq106, kq106, q106a, q106b, q106c⟩ := isOf hZ104 rfl P104_0
        obtain ⟨_, _, ⟨T106, L106, k106, n106⟩, -, X106, ⟨Lc106, hQ106, l106, y106, z106⟩, st106⟩ := X104.virtualBack hx (y := MN_66) (z := MN_66) hown104 (mvT hZ104 (Wd hw 384 rfl)) (mvT hZ104 (Wd hw 385 rfl)) (notFace_of_selects (args := #[]) (mvT hZ104 (Wd hw 387 rfl))) (mvT hZ104 (Wd hw 387 rfl)) (mvT hZ104 (Wd hw 386 rfl)) (by decide) (backOf (W := 0) (rmP12 l Z a0 hw [] cS aDE kDE aUS aSS aIE mO b102 b_104 b90 a79 (T104.heap) n0 O104 GL P104_2 P104_3 P104_1 (((P92_0.keep Kc95).ext E102).keep Kc104) (((P92_1.keep Kc95 (ninS (Ne.symm (nLt (lLt (lLt A85.lt Kc87.1) (lEq g90.symm)))) nin0)).ext E102).keep Kc104 (ninS (nLt (lLt (lLt A90.lt (lTr Kc92.1 Kc95.1)) (lEq g102.symm))) nin0))) hZ104 (Wd hw 388 rfl) (Wd hw 107 rfl) (by decide) (by decide)) q106a q106c (g := mkF m 137 #[vi p0, vi p1, vi p2, vi p3, vi ((1 : Int32) + ((p3 &&& (3 : Int32)) % (3 : Int32))), vi (1 : Int32), vr a79, vr bS_81, vr bS_83, vr b85, vr b102, .unset] [(.ref b102)]) rfl (by rw [hml]; rfl) (Steps.refl _) (argsL := []) (rest := []) (lenOf pdv20 rfl) rfl (by show 2 * 0 + _ ≤ _; exact lEq rfl) (hb hby at_137) (fun _ _ => ⟨rfl, rfl, (by decide : 21 + 0 ≤ _), (by decide : 2849 + 0 ≤ _)⟩)
        dsimp only [Pt.U, Pt.locs, Pt.cells, Pt.slots] at X106 l106 y106 z106 st106 hQ106
        subst l106 y106 z106
        obtain ⟨rfl, N106q, e106⟩ := hQ106
        have N106 := Fr.app N104 N106q
        obtain ⟨cq107, kq107, q107a, q107b, q107c⟩ := isOf hZ104 e106 (((((((((A79.keep Kc81).keep Kc83).ext E85).keep Kc87).ext E90).keep Kc92).keep Kc95).ext E102).keep Kc104)
        obtain ⟨_, _, ⟨T107, L107, k107, n107⟩, -, X107, ⟨Lc107, hQ107, l107, y107, z107⟩, st107⟩ := X106.virtualBack hx (y := MN_67) (z := MN_67) hown104 (mvT hZ104 (Wd hw 400 rfl)) (mvT hZ104 (Wd hw 401 rfl)) (notFace_of_selects (args := #[]) (mvT hZ104 (Wd hw 403 rfl))) (mvT hZ104 (Wd hw 403 rfl)) (mvT hZ104 (Wd hw 402 rfl)) (by decide) (backOf (W := 0) (rmEq l Z a0 hw [] cS aDE kDE aUS aSS aIE mO a79 (T104.heap) n0 O104 GL) hZ104 (Wd hw 404 rfl) (Wd hw 7 rfl) (by decide) (by decide)) q107a q107c (g := mkF m 151 #[vi p0, vi p1, vi p2, vi p3, vi ((1 : Int32) + ((p3 &&& (3 : Int32)) % (3 : Int32))), vi (1 : Int32), vr a79, vr bS_81, vr bS_83, vr b85, vr b102, vr a79] [(.ref a79), (.ref a79)]) rfl (by rw [hml]; rfl) (Steps.refl _) (argsL := [(.ref a79)]) (rest := []) (lenOf pdv38 rfl) rfl (by show 2 * 0 + _ ≤ _; exact lEq rfl) (hb hby at_151) (fun _ _ => ⟨rfl, e106, (by decide : 21 + 0 ≤ _), (by decide : 2849 + 0 ≤ _)⟩)
        dsimp only [Pt.U, Pt.locs, Pt.cells, Pt.slots] at X107 l107 y107 z107 st107 hQ107
        subst l107 y107 z107
        obtain ⟨rfl, N107q, e107⟩ := hQ107
        have N107 := Fr.app N106 N107q
        obtain ⟨fs, hr, hrun, hended, hRW⟩ := X107.leaveW hS104 (by rw [e107]; exact (Nat.le_refl _)) (v := some (.int 1)) (fun h => by rw [Bd.returns] at h; cases h)
        have hCR : CHr Z EL1 s.vm s.heap T107.vm T107.heap := by
          rw [hh, e107]
          exact R_105.trans (CHv.at X107 hZ104 (own_EW hw) H_105)
        refine ⟨_, _, pre101 _ ?_, hrun, hended, _, _, rfl, ?_, hCR, hRW.1, hRW.2.1, hRW.2.2.1, hRW.2.2.2.mono (by decide) (by decide)⟩
        · show SP p e below T95 m 104 #[vi p0, vi p1, vi p2, vi p3, vi ((1 : Int32) + ((p3 &&& (3 : Int32)) % (3 : Int32))), vi (1 : Int32), vr a79, vr bS_81, vr bS_83, vr b85, .unset, .unset] [(.int 3), (.int ((1 : Int32) + ((p3 &&& (3 : Int32)) % (3 : Int32))))] _
          refine XS.icmpYes X95.here hx rfl (pc0 := 104) (pc' := 124) rfl (hb hby at_104) rfl (tlt hc104_100).1 (by decide) (by decide) ?_
          show SP p e below T95 m 124 #[vi p0, vi p1, vi p2, vi p3, vi ((1 : Int32) + ((p3 &&& (3 : Int32)) % (3 : Int32))), vi (1 : Int32), vr a79, vr bS_81, vr bS_83, vr b85, .unset, .unset] [] _
          refine st102 _ ?_
          show SP p e below T102 m 127 #[vi p0, vi p1, vi p2, vi p3, vi ((1 : Int32) + ((p3 &&& (3 : Int32)) % (3 : Int32))), vi (1 : Int32), vr a79, vr bS_81, vr bS_83, vr b85, .unset, .unset] [(.ref b102)] _
          refine XS.dup X102.here hx rfl (hb hby at_127) rfl rfl ?_
          refine XS.aload X102.here hx rfl (hb hby at_128) rfl rfl ?_
          show SP p e below T102 m 130 #[vi p0, vi p1, vi p2, vi p3, vi ((1 : Int32) + ((p3 &&& (3 : Int32)) % (3 : Int32))), vi (1 : Int32), vr a79, vr bS_81, vr bS_83, vr b85, .unset, .unset] [(.ref b85), (.ref b102), (.ref b102)] _
          refine st104.trans ?_
          show SP p e below T104 m 133 #[vi p0, vi p1, vi p2, vi p3, vi ((1 : Int32) + ((p3 &&& (3 : Int32)) % (3 : Int32))), vi (1 : Int32), vr a79, vr bS_81, vr bS_83, vr b85, .unset, .unset] [(.ref b102)] _
          refine XS.astore X104.here hx rfl (hb hby at_133) rfl rfl (l' := #[vi p0, vi p1, vi p2, vi p3, vi ((1 : Int32) + ((p3 &&& (3 : Int32)) % (3 : Int32))), vi (1 : Int32), vr a79, vr bS_81, vr bS_83, vr b85, vr b102, .unset]) rfl ?_
          refine XS.aload X104.here hx rfl (hb hby at_135) rfl rfl ?_
          show SP p e below T104 m 137 #[vi p0, vi p1, vi p2, vi p3, vi ((1 : Int32) + ((p3 &&& (3 : Int32)) % (3 : Int32))), vi (1 : Int32), vr a79, vr bS_81, vr bS_83, vr b85, vr b102, .unset] [(.ref b102)] _
          refine st106.trans ?_
          show SP p e below T106 m 140 #[vi p0, vi p1, vi p2, vi p3, vi ((1 : Int32) + ((p3 &&& (3 : Int32)) % (3 : Int32))), vi (1 : Int32), vr a79, vr bS_81, vr bS_83, vr b85, vr b102, .unset] [(.ref a79)] _
          refine XS.astore X106.here hx rfl (hb hby at_140) rfl rfl (l' := #[vi p0, vi p1, vi p2, vi p3, vi ((1 : Int32) + ((p3 &&& (3 : Int32)) % (3 : Int32))), vi (1 : Int32), vr a79, vr bS_81, vr bS_83, vr b85, vr b102, vr a79]) rfl ?_
          refine XS.aload X106.here hx rfl (hb hby at_142) rfl rfl ?_
          refine XS.ifnullNo X106.here hx rfl (hb hby at_144) rfl ?_
          refine XS.aload X106.here hx rfl (hb hby at_147) rfl rfl ?_
          refine XS.aload X106.here hx rfl (hb hby at_149) rfl rfl ?_
          show SP p e below T106 m 151 #[vi p0, vi p1, vi p2, vi p3, vi ((1 : Int32) + ((p3 &&& (3 : Int32)) % (3 : Int32))), vi (1 : Int32), vr a79, vr bS_81, vr bS_83, vr b85, vr b102, vr a79] [(.ref a79), (.ref a79)] _
          refine st107.trans ?_
          show SP p e below T107 m 154 #[vi p0, vi p1, vi p2, vi p3, vi ((1 : Int32) + ((p3 &&& (3 : Int32)) % (3 : Int32))), vi (1 : Int32), vr a79, vr bS_81, vr bS_83, vr b85, vr b102, vr a79] [(.int 1)] _
          refine XS.ifNo X107.here hx rfl (hb hby at_154) rfl ((if0 _ _).trans (feq (by decide : ¬ ((1 : Int32) = (0 : Int32)))).1) ?_
          refine XS.iconst X107.here hx rfl (hb hby at_157) ?_
          refine XS.goto X107.here hx rfl (pc0 := 158) (pc' := 162) rfl (hb hby at_158) (by decide) (by decide) ?_
          show SP p e below T107 m 162 #[vi p0, vi p1, vi p2, vi p3, vi ((1 : Int32) + ((p3 &&& (3 : Int32)) % (3 : Int32))), vi (1 : Int32), vr a79, vr bS_81, vr bS_83, vr b85, vr b102, vr a79] [(.int 1)] _
          exact retN X107 hx (t := .boolean) Bd.returns (by simp) (hb hby at_162) hr
        · show Q_rm0 n0 _ T107.heap _
          rw [e107]
          exact ⟨rfl, N107⟩
      · obtain ⟨T108, h108, X108, e108, E108, A108, D108, -, st108⟩ := newO X95 hx hZ83 hown83 (Wd hw 58 rfl) (Wd hw 59 rfl) (Wd hw 60 rfl) rfl (g := mkF m 109 #[vi p0, vi p1, vi p2, vi p3, vi ((1 : Int32) + ((p3 &&& (3 : Int32)) % (3 : Int32))), vi (1 : Int32), vr a79, vr bS_81, vr bS_83, vr b85, .unset, .unset] [(.ref b85)]) rfl (hb hby at_109) (by decide) (by decide)
        obtain ⟨b108, g108⟩ : ∃ z, z = T95.heap.size := ⟨_, rfl⟩
        rw [← g108] at A108 D108 st108
        have g_b108 : n0 ≤ b108 := lTr (own_sz O95) (lEq g108.symm)
        have H_109 := H_96.ext E108
        have R_109 := R_96.trans (CHr.ext E108 H_96)
        have O108 := O95.ext E108
        have F_pointer_b108 : Fld Z h108 b108 "com/example/grantline/grantline/PolicyException$Problem" "pointer" "Ljava/lang/String;" .null := D108 (Or.inr (Wd hw 71 rfl)) (ty := (.object "java/lang/String")) (by decide)
        have F_description_b108 : Fld Z h108 b108 "com/example/grantline/grantline/PolicyException$Problem" "description" "Ljava/lang/String;" .null := D108 (Or.inr (Wd hw 73 rfl)) (ty := (.object "java/lang/String")) (by decide)
        obtain ⟨_, _, ⟨T110, L110, k110, n110⟩, -, X110, ⟨Lc110, hQ110, l110, y110, z110⟩, st110⟩ := X108.specialBack hx (y := MN_27) rfl hown83 (mvT hZ83 (Wd hw 61 rfl)) (mvT hZ83 (Wd hw 62 rfl)) (mvT hZ83 (Wd hw 63 rfl)) (by decide) (backOf (W := 2) (rmPi l Z a0 hw [] cS aDE kDE aUS aSS aIE mO b108 bS_83 bS_81 h108 n0 O108 GL A108 F_pointer_b108 F_description_b108 g_b108) hZ83 (Wd hw 63 rfl) (Wd hw 60 rfl) (by decide) (by decide)) (g := mkF m 117 #[vi p0, vi p1, vi p2, vi p3, vi ((1 : Int32) + ((p3 &&& (3 : Int32)) % (3 : Int32))), vi (1 : Int32), vr a79, vr bS_81, vr bS_83, vr b85, .unset, .unset] [(.ref bS_81), (.ref bS_83), (.ref b108), (.ref b108), (.ref b85)]) rfl (by rw [hml]; rfl) (Steps.refl _) (a := b108) (argsL := [(.ref bS_83), (.ref bS_81)]) (rest := [(.ref b108), (.ref b85)]) (lenOf pdv37 rfl) rfl (by show 2 * 0 + _ ≤ _; exact lEq rfl) (hb hby at_117) (fun _ _ => ⟨rfl, e108, (by decide : 12 + 0 ≤ _), (by decide : 37 + 0 ≤ _)⟩)
        dsimp only [Pt.U, Pt.locs, Pt.cells, Pt.slots] at X110 l110 y110 z110 st110 hQ110
        subst l110 y110 z110
        obtain ⟨rfl, N110q, Kc110, P110_0, P110_1, P110_2⟩ := hQ110
        have O110 := O108.keep Kc110 (allS g_b108 all0)
        have Sf112 : Safe Z EL1 T83.vm h108 b108 := Safe.exa (EL := EL1) hZ83.alike A108 (by decide) (by decide)
        have H_111 := H_109.keep Kc110 (sfS Sf112 sf0)
        have R_111 := R_109.trans (CHr.keep Kc110 (sfS Sf112 sf0) H_109)
        have N110 := Fr.app N95 N110q
        obtain ⟨cq113, kq113, q113a, q113b, q113c⟩ := isOf hZ83 rfl ((P95_4.ext E108).keep Kc110)
        obtain ⟨_, _, ⟨T113, L113, k113, n113⟩, -, X113, ⟨Lc113, hQ113, l113, y113, z113⟩, st113⟩ := X110.virtualBack hx (y := MN_37) (z := MN_37) hown83 (mvT hZ83 (Wd hw 74 rfl)) (mvT hZ83 (Wd hw 75 rfl)) (notFace_of_selects (args := #[]) (mvT hZ83 (Wd hw 77 rfl))) (mvT hZ83 (Wd hw 77 rfl)) (mvT hZ83 (Wd hw 76 rfl)) (by decide) (backOf (W := 0) (rmA1_1 l Z a0 hw [] cS aDE kDE aUS aSS aIE mO b85 b108 b_95 (((0 : Int32) + (1 : Int32))) kb_95 b90 (T110.heap) n0 O110 GL ((P95_4.ext E108).keep Kc110) ((P95_5.ext E108).keep Kc110 (ninS (nLt (lLt (lLt A85.lt (lTr (lTr (lTr Kc87.1 E90.1) Kc92.1) Kc95.1)) (lEq g108.symm))) nin0)) ((P95_6.ext E108).keep Kc110 (ninS (nLt (lLt (lLt A85.lt (lTr (lTr (lTr Kc87.1 E90.1) Kc92.1) Kc95.1)) (lEq g108.symm))) nin0)) ((P95_7.ext E108).keep Kc110 (ninS (nLt (lLt (lLt A85.lt (lTr (lTr (lTr Kc87.1 E90.1) Kc92.1) Kc95.1)) (lEq g108.symm))) nin0)) g_b85 P110_0 ((P95_1.ext E108).keep Kc110) ((P95_2.ext E108).keep Kc110 (ninS (nLt (lLt P95_1.lt (lEq g108.symm))) nin0)) P95_3 g_b_95) hZ83 (Wd hw 78 rfl) (Wd hw 36 rfl) (by decide) (by decide)) q113a q113c (g := mkF m 120 #[vi p0, vi p1, vi p2, vi p3, vi ((1 : Int32) + ((p3 &&& (3 : Int32)) % (3 : Int32))), vi (1 : Int32), vr a79, vr bS_81, vr bS_83, vr b85, .unset, .unset] [(.ref b108), (.ref b85)]) rfl (by rw [hml]; rfl) (Steps.refl _) (argsL := [(.ref b108)]) (rest := []) (lenOf pdv38 rfl) rfl (by show 2 * 0 + _ ≤ _; exact lEq rfl) (hb hby at_120) (fun _ _ => ⟨rfl, rfl, (by decide : 12 + 0 ≤ _), (by decide : 37 + 0 ≤ _)⟩)
        dsimp only [Pt.U, Pt.locs, Pt.cells, Pt.slots] at X113 l113 y113 z113 st113 hQ113
        subst l113 y113 z113
        obtain ⟨rfl, N113q, Kc113, P113_0, P113_1, P113_2, P113_3, P113_4, P113_5, P113_6⟩ := hQ113
        have O113 := O110.keep Kc113 (allS g_b85 (allS g_b_95 all0))
        have Sf115 : Safe Z EL1 T83.vm T110.heap b_95 := Safe.exa (EL := EL1) hZ83.alike ((P95_1.ext E108).keep Kc110) (by decide) (by decide)
        have Sf116 : Safe Z EL1 T83.vm T110.heap b85 := Safe.exa (EL := EL1) hZ83.alike ((P95_4.ext E108).keep Kc110) (by decide) (by decide)
        have H_114 := H_111.keep Kc113 (sfS Sf116 (sfS Sf115 sf0))
        have R_114 := R_111.trans (CHr.keep Kc113 (sfS Sf116 (sfS Sf115 sf0)) H_111)
        have N113 := Fr.app N110 N113q
        obtain ⟨T117, h117, X117, e117, E117, A117, D117, U117, st117⟩ := newO X113 hx hZ83 hown83 (Wd hw 105 rfl) (Wd hw 106 rfl) (Wd hw 107 rfl) rfl (g := mkF m 124 #[vi p0, vi p1, vi p2, vi p3, vi ((1 : Int32) + ((p3 &&& (3 : Int32)) % (3 : Int32))), vi (1 : Int32), vr a79, vr bS_81, vr bS_83, vr b85, .unset, .unset] []) rfl (hb hby at_124) (by decide) (by decide)
        obtain ⟨b117, g117⟩ : ∃ z, z = T113.heap.size := ⟨_, rfl⟩
        rw [← g117] at A117 D117 U117 st117
        have g_b117 : n0 ≤ b117 := lTr (own_sz O113) (lEq g117.symm)
        have H_118 := H_114.ext E117
        have R_118 := R_114.trans (CHr.ext E117 H_114)
        have O117 := O113.ext E117
        have F_cause_b117 : Fld Z h117 b117 "java/lang/Throwable" "cause" "Ljava/lang/Throwable;" .null := D117 (Or.inl (Wd hw 276 rfl)) (ty := (.object "java/lang/Throwable")) (by decide)
        have F_stackTrace_b117 : Fld Z h117 b117 "java/lang/Throwable" "stackTrace" "[Ljava/lang/StackTraceElement;" .null := D117 (Or.inl (Wd hw 279 rfl)) (ty := (.array (.object "java/lang/StackTraceElement"))) (by decide)
        have F_suppressedExceptions_b117 : Fld Z h117 b117 "java/lang/Throwable" "suppressedExceptions" "Ljava/util/List;" .null := D117 (Or.inl (Wd hw 282 rfl)) (ty := (.object "java/util/List")) (by decide)
        have F_detailMessage_b117 : Fld Z h117 b117 "java/lang/Throwable" "detailMessage" "Ljava/lang/String;" .null := D117 (Or.inl (Wd hw 305 rfl)) (ty := (.object "java/lang/String")) (by decide)
        have F_backtrace_b117 : Fld Z h117 b117 "java/lang/Throwable" "backtrace" "Ljava/lang/Object;" .null := D117 (Or.inl (Wd hw 306 rfl)) (ty := (.object "java/lang/Object")) (by decide)
        have F_depth_b117 : Fld Z h117 b117 "java/lang/Throwable" "depth" "I" (.int 0) := D117 (Or.inl (Wd hw 307 rfl)) (ty := .int) (by decide)
        have F_problems_b117 : Fld Z h117 b117 "com/example/grantline/grantline/PolicyException" "problems" "Ljava/util/List;" .null := D117 (Or.inr (Wd hw 383 rfl)) (ty := (.object "java/util/List")) (by decide)
        obtain ⟨_, _, ⟨T119, L119, k119, n119⟩, -, X119', hS119', hg119, ⟨Lc119, hQ119, l119, y119, z119, Rs119⟩, st119⟩ := X117.specialBackS hx (y := MN_63) rfl hown83 (mvT hZ83 (Wd hw 108 rfl)) (mvT hZ83 (Wd hw 109 rfl)) (mvT hZ83 (Wd hw 110 rfl)) (by decide) (backOfSKH (W := 1) (rmX_2 l Z a0 hw [] hlt cS aDE kDE aUS aSS aIE mO b117 b85 b_95 kb_95 b90 b108 a79 b79 kc79 ((0 : Int32)) ([]) bS_83 vS_83 kS_83 nS_83 lS_83 h117 n0 O117 GL A117 U117 F_cause_b117 F_stackTrace_b117 F_suppressedExceptions_b117 F_detailMessage_b117 F_backtrace_b117 F_problems_b117 g_b117 (P113_3.ext E117) (P113_4.ext E117) (P113_5.ext E117) (P113_0.ext E117) (P113_1.ext E117) (((((P92_0.keep Kc95).ext E108).keep Kc110).keep Kc113).ext E117) ((P110_0.keep Kc113).ext E117) (((((P92_1.keep Kc95 (ninS (Ne.symm (nLt (lLt (lLt A85.lt Kc87.1) (lEq g90.symm)))) nin0)).ext E108).keep Kc110 (ninS (nLt (lLt (lLt A90.lt (lTr Kc92.1 Kc95.1)) (lEq g108.symm))) nin0)).keep Kc113 (ninS (Ne.symm (nLt (lLt (lLt A85.lt Kc87.1) (lEq g90.symm)))) (ninS (nLt (lLt (lLt A90.lt Kc92.1) P95_0)) nin0))).ext E117) (((((P92_2.keep Kc95 (ninS (Ne.symm (nLt (lLt (lLt A85.lt Kc87.1) (lEq g90.symm)))) nin0)).ext E108).keep Kc110 (ninS (nLt (lLt (lLt A90.lt (lTr Kc92.1 Kc95.1)) (lEq g108.symm))) nin0)).keep Kc113 (ninS (Ne.symm (nLt (lLt (lLt A85.lt Kc87.1) (lEq g90.symm)))) (ninS (nLt (lLt (lLt A90.lt Kc92.1) P95_0)) nin0))).ext E117) (((((((((((A79.keep Kc81).keep Kc83).ext E85).keep Kc87).ext E90).keep Kc92).keep Kc95).ext E108).keep Kc110).keep Kc113).ext E117) (((((((((((Fv79.keep Kc81 nin0).keep Kc83 nin0).ext E85).keep Kc87 (ninS (nLt (lLt (lLt A79.lt (lTr Kc81.1 Kc83.1)) (lEq g85.symm))) nin0)).ext E90).keep Kc92 (ninS (nLt (lLt (lLt A79.lt (lTr (lTr (lTr Kc81.1 Kc83.1) E85.1) Kc87.1)) (lEq g90.symm))) nin0)).keep Kc95 (ninS (nLt (lLt (lLt A79.lt (lTr Kc81.1 Kc83.1)) (lEq g85.symm))) nin0)).ext E108).keep Kc110 (ninS (nLt (lLt (lLt A79.lt (lTr (lTr (lTr (lTr (lTr (lTr Kc81.1 Kc83.1) E85.1) Kc87.1) E90.1) Kc92.1) Kc95.1)) (lEq g108.symm))) nin0)).keep Kc113 (ninS (nLt (lLt (lLt A79.lt (lTr Kc81.1 Kc83.1)) (lEq g85.symm))) (ninS (nLt (lLt (lLt A79.lt (lTr (lTr (lTr (lTr (lTr Kc81.1 Kc83.1) E85.1) Kc87.1) E90.1) Kc92.1)) P95_0)) nin0))).ext E117) (((((((((((Fc79.keep Kc81 nin0).keep Kc83 nin0).ext E85).keep Kc87 (ninS (nLt (lLt (lLt A79.lt (lTr Kc81.1 Kc83.1)) (lEq g85.symm))) nin0)).ext E90).keep Kc92 (ninS (nLt (lLt (lLt A79.lt (lTr (lTr (lTr Kc81.1 Kc83.1) E85.1) Kc87.1)) (lEq g90.symm))) nin0)).keep Kc95 (ninS (nLt (lLt (lLt A79.lt (lTr Kc81.1 Kc83.1)) (lEq g85.symm))) nin0)).ext E108).keep Kc110 (ninS (nLt (lLt (lLt A79.lt (lTr (lTr (lTr (lTr (lTr (lTr Kc81.1 Kc83.1) E85.1) Kc87.1) E90.1) Kc92.1) Kc95.1)) (lEq g108.symm))) nin0)).keep Kc113 (ninS (nLt (lLt (lLt A79.lt (lTr Kc81.1 Kc83.1)) (lEq g85.symm))) (ninS (nLt (lLt (lLt A79.lt (lTr (lTr (lTr (lTr (lTr Kc81.1 Kc83.1) E85.1) Kc87.1) E90.1) Kc92.1)) P95_0)) nin0))).ext E117) (((((((((((V79.keep Kc81 nin0).keep Kc83 nin0).ext E85).keep Kc87 (ninS (nLt (lLt (lLt V79.lt (lTr Kc81.1 Kc83.1)) (lEq g85.symm))) nin0)).ext E90).keep Kc92 (ninS (nLt (lLt (lLt V79.lt (lTr (lTr (lTr Kc81.1 Kc83.1) E85.1) Kc87.1)) (lEq g90.symm))) nin0)).keep Kc95 (ninS (nLt (lLt (lLt V79.lt (lTr Kc81.1 Kc83.1)) (lEq g85.symm))) nin0)).ext E108).keep Kc110 (ninS (nLt (lLt (lLt V79.lt (lTr (lTr (lTr (lTr (lTr (lTr Kc81.1 Kc83.1) E85.1) Kc87.1) E90.1) Kc92.1) Kc95.1)) (lEq g108.symm))) nin0)).keep Kc113 (ninS (nLt (lLt (lLt V79.lt (lTr Kc81.1 Kc83.1)) (lEq g85.symm))) (ninS (nLt (lLt (lLt V79.lt (lTr (lTr (lTr (lTr (lTr Kc81.1 Kc83.1) E85.1) Kc87.1) E90.1) Kc92.1)) P95_0)) nin0))).ext E117) (((((((((P83_0.ext E85).keep Kc87).ext E90).keep Kc92).keep Kc95).ext E108).keep Kc110).keep Kc113).ext E117) (((((((((P83_1.ext E85).keep Kc87 (ninS (nLt (lLt P83_0.lt (lEq g85.symm))) nin0)).ext E90).keep Kc92 (ninS (nLt (lLt (lLt P83_0.lt (lTr E85.1 Kc87.1)) (lEq g90.symm))) nin0)).keep Kc95 (ninS (nLt (lLt P83_0.lt (lEq g85.symm))) nin0)).ext E108).keep Kc110 (ninS (nLt (lLt (lLt P83_0.lt (lTr (lTr (lTr (lTr E85.1 Kc87.1) E90.1) Kc92.1) Kc95.1)) (lEq g108.symm))) nin0)).keep Kc113 (ninS (nLt (lLt P83_0.lt (lEq g85.symm))) (ninS (nLt (lLt (lLt P83_0.lt (lTr (lTr (lTr E85.1 Kc87.1) E90.1) Kc92.1)) P95_0)) nin0))).ext E117) (((((((((P83_2.ext E85).keep Kc87 (ninS (nLt (lLt P83_0.lt (lEq g85.symm))) nin0)).ext E90).keep Kc92 (ninS (nLt (lLt (lLt P83_0.lt (lTr E85.1 Kc87.1)) (lEq g90.symm))) nin0)).keep Kc95 (ninS (nLt (lLt P83_0.lt (lEq g85.symm))) nin0)).ext E108).keep Kc110 (ninS (nLt (lLt (lLt P83_0.lt (lTr (lTr (lTr (lTr E85.1 Kc87.1) E90.1) Kc92.1) Kc95.1)) (lEq g108.symm))) nin0)).keep Kc113 (ninS (nLt (lLt P83_0.lt (lEq g85.symm))) (ninS (nLt (lLt (lLt P83_0.lt (lTr (lTr (lTr E85.1 Kc87.1) E90.1) Kc92.1)) P95_0)) nin0))).ext E117) (((((((((P83_3.ext E85).keep Kc87 (ninS (nLt (lLt P83_3.lt (lEq g85.symm))) nin0)).ext E90).keep Kc92 (ninS (nLt (lLt (lLt P83_3.lt (lTr E85.1 Kc87.1)) (lEq g90.symm))) nin0)).keep Kc95 (ninS (nLt (lLt P83_3.lt (lEq g85.symm))) nin0)).ext E108).keep Kc110 (ninS (nLt (lLt (lLt P83_3.lt (lTr (lTr (lTr (lTr E85.1 Kc87.1) E90.1) Kc92.1) Kc95.1)) (lEq g108.symm))) nin0)).keep Kc113 (ninS (nLt (lLt P83_3.lt (lEq g85.symm))) (ninS (nLt (lLt (lLt P83_3.lt (lTr (lTr (lTr E85.1 Kc87.1) E90.1) Kc92.1)) P95_0)) nin0))).ext E117) (by decide) (by decide) P83_4 P83_5) hZ83 (Wd hw 110 rfl) (Wd hw 107 rfl) (by decide) (by decide) (own_EW hw) H_118 (hTK.alikeC (hZ.alike.symm.trans hZ83.alike)) (hBW.alikeC (hZ.alike.symm.trans hZ83.alike))) (g := mkF m 130 #[vi p0, vi p1, vi p2, vi p3, vi ((1 : Int32) + ((p3 &&& (3 : Int32)) % (3 : Int32))), vi (1 : Int32), vr a79, vr bS_81, vr bS_83, vr b85, .unset, .unset] [(.ref b85), (.ref b117), (.ref b117)]) rfl (by rw [hml]; rfl) (Steps.refl _) (a := b117) (argsL := [(.ref b85)]) (rest := [(.ref b117)]) (lenOf pdv39 rfl) rfl (by show 2 * 0 + _ ≤ _; exact lEq rfl) (hb hby at_130) (fun _ _ => ⟨rfl, e117, (by decide : 13 + 9 ≤ _), (by decide : 44 + 2808 ≤ _)⟩)
        dsimp only [Pt.U, Pt.locs, Pt.cells, Pt.slots] at X119' l119 y119 z119 st119 hQ119 hS119' hg119 Rs119
        subst l119 y119 z119
        obtain ⟨X119, hS119, hZ119, hown119⟩ := rebS hS83 (by rw [e117]; exact (lTr (lTr (lTr (lTr (lTr (lTr (lTr (lTr (lTr (Nat.le_refl _) E85.1) Kc87.1) E90.1) Kc92.1) Kc95.1) E108.1) Kc110.1) Kc113.1) E117.1)) X119' hS119' hg119 hZ83 hown83
        obtain ⟨b_119, rfl, N119q, Kc119, P119_0, P119_1, P119_2, P119_3⟩ := hQ119
        have O119 := O117.keep Kc119 (allS g_b117 all0)
        have H_120 := Rs119.1
        have R_120 := R_118.trans Rs119
        have N119 := Fr.app N113 N119q
        obtain ⟨cq121, kq121, q121a, q121b, q121c⟩ := isOf hZ119 rfl P119_0
        obtain ⟨_, _, ⟨T121, L121, k121, n121⟩, -, X121, ⟨Lc121, hQ121, l121, y121, z121⟩, st121⟩ := X119.virtualBack hx (y := MN_66) (z := MN_66) hown119 (mvT hZ119 (Wd hw 384 rfl)) (mvT hZ119 (Wd hw 385 rfl)) (notFace_of_selects (args := #[]) (mvT hZ119 (Wd hw 387 rfl))) (mvT hZ119 (Wd hw 387 rfl)) (mvT hZ119 (Wd hw 386 rfl)) (by decide) (backOf (W := 0) (rmP12 l Z a0 hw [] cS aDE kDE aUS aSS aIE mO b117 b_119 b90 a79 (T119.heap) n0 O119 GL P119_2 P119_3 P119_1 ((((((P92_0.keep Kc95).ext E108).keep Kc110).keep Kc113).ext E117).keep Kc119) ((((((P92_1.keep Kc95 (ninS (Ne.symm (nLt (lLt (lLt A85.lt Kc87.1) (lEq g90.symm)))) nin0)).ext E108).keep Kc110 (ninS (nLt (lLt (lLt A90.lt (lTr Kc92.1 Kc95.1)) (lEq g108.symm))) nin0)).keep Kc113 (ninS (Ne.symm (nLt (lLt (lLt A85.lt Kc87.1) (lEq g90.symm)))) (ninS (nLt (lLt (lLt A90.lt Kc92.1) P95_0)) nin0))).ext E117).keep Kc119 (ninS (nLt (lLt (lLt A90.lt (lTr (lTr (lTr (lTr Kc92.1 Kc95.1) E108.1) Kc110.1) Kc113.1)) (lEq g117.symm))) nin0))) hZ119 (Wd hw 388 rfl) (Wd hw 107 rfl) (by decide) (by decide)) q121a q121c (g := mkF m 137 #[vi p0, vi p1, vi p2, vi p3, vi ((1 : Int32) + ((p3 &&& (3 : Int32)) % (3 : Int32))), vi (1 : Int32), vr a79, vr bS_81, vr bS_83, vr b85, vr b117, .unset] [(.ref b117)]) rfl (by rw [hml]; rfl) (Steps.refl _) (argsL := []) (rest := []) (lenOf pdv20 rfl) rfl (by show 2 * 0 + _ ≤ _; exact lEq rfl) (hb hby at_137) (fun _ _ => ⟨rfl, rfl, (by decide : 22 + 0 ≤ _), (by decide : 2852 + 0 ≤ _)⟩)
        dsimp only [Pt.U, Pt.locs, Pt.cells, Pt.slots] at X121 l121 y121 z121 st121 hQ121
        subst l121 y121 z121
        obtain ⟨rfl, N121q, e121⟩ := hQ121
        have N121 := Fr.app N119 N121q
        obtain ⟨cq122, kq122, q122a, q122b, q122c⟩ := isOf hZ119 e121 ((((((((((((A79.keep Kc81).keep Kc83).ext E85).keep Kc87).ext E90).keep Kc92).keep Kc95).ext E108).keep Kc110).keep Kc113).ext E117).keep Kc119)
        obtain ⟨_, _, ⟨T122, L122, k122, n122⟩, -, X122, ⟨Lc122, hQ122, l122, y122, z122⟩, st122⟩ := X121.virtualBack hx (y := MN_67) (z := MN_67) hown119 (mvT hZ119 (Wd hw 400 rfl)) (mvT hZ119 (Wd hw 401 rfl)) (notFace_of_selects (args := #[]) (mvT hZ119 (Wd hw 403 rfl))) (mvT hZ119 (Wd hw 403 rfl)) (mvT hZ119 (Wd hw 402 rfl)) (by decide) (backOf (W := 0) (rmEq l Z a0 hw [] cS aDE kDE aUS aSS aIE mO a79 (T119.heap) n0 O119 GL) hZ119 (Wd hw 404 rfl) (Wd hw 7 rfl) (by decide) (by decide)) q122a q122c (g := mkF m 151 #[vi p0, vi p1, vi p2, vi p3, vi ((1 : Int32) + ((p3 &&& (3 : Int32)) % (3 : Int32))), vi (1 : Int32), vr a79, vr bS_81, vr bS_83, vr b85, vr b117, vr a79] [(.ref a79), (.ref a79)]) rfl (by rw [hml]; rfl) (Steps.refl _) (argsL := [(.ref a79)]) (rest := []) (lenOf pdv38 rfl) rfl (by show 2 * 0 + _ ≤ _; exact lEq rfl) (hb hby at_151) (fun _ _ => ⟨rfl, e121, (by decide : 22 + 0 ≤ _), (by decide : 2852 + 0 ≤ _)⟩)
        dsimp only [Pt.U, Pt.locs, Pt.cells, Pt.slots] at X122 l122 y122 z122 st122 hQ122
        subst l122 y122 z122
        obtain ⟨rfl, N122q, e122⟩ := hQ122
        have N122 := Fr.app N121 N122q
        obtain ⟨fs, hr, hrun, hended, hRW⟩ := X122.leaveW hS119 (by rw [e122]; exact (Nat.le_refl _)) (v := some (.int 1)) (fun h => by rw [Bd.returns] at h; cases h)
        have hCR : CHr Z EL1 s.vm s.heap T122.vm T122.heap := by
          rw [hh, e122]
          exact R_120.trans (CHv.at X122 hZ119 (own_EW hw) H_120)
        refine ⟨_, _, pre101 _ ?_, hrun, hended, _, _, rfl, ?_, hCR, hRW.1, hRW.2.1, hRW.2.2.1, hRW.2.2.2.mono (by decide) (by decide)⟩
        · show SP p e below T95 m 104 #[vi p0, vi p1, vi p2, vi p3, vi ((1 : Int32) + ((p3 &&& (3 : Int32)) % (3 : Int32))), vi (1 : Int32), vr a79, vr bS_81, vr bS_83, vr b85, .unset, .unset] [(.int 3), (.int ((1 : Int32) + ((p3 &&& (3 : Int32)) % (3 : Int32))))] _
          refine XS.icmpNo X95.here hx rfl (hb hby at_104) rfl (flt hc104_100).1 ?_
          refine XS.aload X95.here hx rfl (hb hby at_107) rfl rfl ?_
          show SP p e below T95 m 109 #[vi p0, vi p1, vi p2, vi p3, vi ((1 : Int32) + ((p3 &&& (3 : Int32)) % (3 : Int32))), vi (1 : Int32), vr a79, vr bS_81, vr bS_83, vr b85, .unset, .unset] [(.ref b85)] _
          refine st108 _ ?_
          show SP p e below T108 m 112 #[vi p0, vi p1, vi p2, vi p3, vi ((1 : Int32) + ((p3 &&& (3 : Int32)) % (3 : Int32))), vi (1 : Int32), vr a79, vr bS_81, vr bS_83, vr b85, .unset, .unset] [(.ref b108), (.ref b85)] _
          refine XS.dup X108.here hx rfl (hb hby at_112) rfl rfl ?_
          refine XS.aload X108.here hx rfl (hb hby at_113) rfl rfl ?_
          refine XS.aload X108.here hx rfl (hb hby at_115) rfl rfl ?_
          show SP p e below T108 m 117 #[vi p0, vi p1, vi p2, vi p3, vi ((1 : Int32) + ((p3 &&& (3 : Int32)) % (3 : Int32))), vi (1 : Int32), vr a79, vr bS_81, vr bS_83, vr b85, .unset, .unset] [(.ref bS_81), (.ref bS_83), (.ref b108), (.ref b108), (.ref b85)] _
          refine st110.trans ?_
          show SP p e below T110 m 120 #[vi p0, vi p1, vi p2, vi p3, vi ((1 : Int32) + ((p3 &&& (3 : Int32)) % (3 : Int32))), vi (1 : Int32), vr a79, vr bS_81, vr bS_83, vr b85, .unset, .unset] [(.ref b108), (.ref b85)] _
          refine st113.trans ?_
          show SP p e below T113 m 123 #[vi p0, vi p1, vi p2, vi p3, vi ((1 : Int32) + ((p3 &&& (3 : Int32)) % (3 : Int32))), vi (1 : Int32), vr a79, vr bS_81, vr bS_83, vr b85, .unset, .unset] [(.int 1)] _
          refine XS.pop X113.here hx rfl (hb hby at_123) rfl rfl ?_
          show SP p e below T113 m 124 #[vi p0, vi p1, vi p2, vi p3, vi ((1 : Int32) + ((p3 &&& (3 : Int32)) % (3 : Int32))), vi (1 : Int32), vr a79, vr bS_81, vr bS_83, vr b85, .unset, .unset] [] _
          refine st117 _ ?_
          show SP p e below T117 m 127 #[vi p0, vi p1, vi p2, vi p3, vi ((1 : Int32) + ((p3 &&& (3 : Int32)) % (3 : Int32))), vi (1 : Int32), vr a79, vr bS_81, vr bS_83, vr b85, .unset, .unset] [(.ref b117)] _
          refine XS.dup X117.here hx rfl (hb hby at_127) rfl rfl ?_
          refine XS.aload X117.here hx rfl (hb hby at_128) rfl rfl ?_
          show SP p e below T117 m 130 #[vi p0, vi p1, vi p2, vi p3, vi ((1 : Int32) + ((p3 &&& (3 : Int32)) % (3 : Int32))), vi (1 : Int32), vr a79, vr bS_81, vr bS_83, vr b85, .unset, .unset] [(.ref b85), (.ref b117), (.ref b117)] _
          refine st119.trans ?_
          show SP p e below T119 m 133 #[vi p0, vi p1, vi p2, vi p3, vi ((1 : Int32) + ((p3 &&& (3 : Int32)) % (3 : Int32))), vi (1 : Int32), vr a79, vr bS_81, vr bS_83, vr b85, .unset, .unset] [(.ref b117)] _
          refine XS.astore X119.here hx rfl (hb hby at_133) rfl rfl (l' := #[vi p0, vi p1, vi p2, vi p3, vi ((1 : Int32) + ((p3 &&& (3 : Int32)) % (3 : Int32))), vi (1 : Int32), vr a79, vr bS_81, vr bS_83, vr b85, vr b117, .unset]) rfl ?_
          refine XS.aload X119.here hx rfl (hb hby at_135) rfl rfl ?_
          show SP p e below T119 m 137 #[vi p0, vi p1, vi p2, vi p3, vi ((1 : Int32) + ((p3 &&& (3 : Int32)) % (3 : Int32))), vi (1 : Int32), vr a79, vr bS_81, vr bS_83, vr b85, vr b117, .unset] [(.ref b117)] _
          refine st121.trans ?_
          show SP p e below T121 m 140 #[vi p0, vi p1, vi p2, vi p3, vi ((1 : Int32) + ((p3 &&& (3 : Int32)) % (3 : Int32))), vi (1 : Int32), vr a79, vr bS_81, vr bS_83, vr b85, vr b117, .unset] [(.ref a79)] _
          refine XS.astore X121.here hx rfl (hb hby at_140) rfl rfl (l' := #[vi p0, vi p1, vi p2, vi p3, vi ((1 : Int32) + ((p3 &&& (3 : Int32)) % (3 : Int32))), vi (1 : Int32), vr a79, vr bS_81, vr bS_83, vr b85, vr b117, vr a79]) rfl ?_
          refine XS.aload X121.here hx rfl (hb hby at_142) rfl rfl ?_
          refine XS.ifnullNo X121.here hx rfl (hb hby at_144) rfl ?_
          refine XS.aload X121.here hx rfl (hb hby at_147) rfl rfl ?_
          refine XS.aload X121.here hx rfl (hb hby at_149) rfl rfl ?_
          show SP p e below T121 m 151 #[vi p0, vi p1, vi p2, vi p3, vi ((1 : Int32) + ((p3 &&& (3 : Int32)) % (3 : Int32))), vi (1 : Int32), vr a79, vr bS_81, vr bS_83, vr b85, vr b117, vr a79] [(.ref a79), (.ref a79)] _
          refine st122.trans ?_
          show SP p e below T122 m 154 #[vi p0, vi p1, vi p2, vi p3, vi ((1 : Int32) + ((p3 &&& (3 : Int32)) % (3 : Int32))), vi (1 : Int32), vr a79, vr bS_81, vr bS_83, vr b85, vr b117, vr a79] [(.int 1)] _
          refine XS.ifNo X122.here hx rfl (hb hby at_154) rfl ((if0 _ _).trans (feq (by decide : ¬ ((1 : Int32) = (0 : Int32)))).1) ?_
          refine XS.iconst X122.here hx rfl (hb hby at_157) ?_
          refine XS.goto X122.here hx rfl (pc0 := 158) (pc' := 162) rfl (hb hby at_158) (by decide) (by decide) ?_
          show SP p e below T122 m 162 #[vi p0, vi p1, vi p2, vi p3, vi ((1 : Int32) + ((p3 &&& (3 : Int32)) % (3 : Int32))), vi (1 : Int32), vr a79, vr bS_81, vr bS_83, vr b85, vr b117, vr a79] [(.int 1)] _
          exact retN X122 hx (t := .boolean) Bd.returns (by simp) (hb hby at_162) hr
        · show Q_rm0 n0 _ T122.heap _
          rw [e122]
          exact ⟨rfl, N122⟩
    · obtain ⟨T123, h123, X123, e123, E123, A123, D123, -, st123⟩ := newO X95 hx hZ83 hown83 (Wd hw 58 rfl) (Wd hw 59 rfl) (Wd hw 60 rfl) rfl (g := mkF m 86 #[vi p0, vi p1, vi p2, vi p3, vi ((1 : Int32) + ((p3 &&& (3 : Int32)) % (3 : Int32))), vi (1 : Int32), vr a79, vr bS_81, vr bS_83, vr b85, .unset, .unset] [(.ref b85)]) rfl (hb hby at_86) (by decide) (by decide)
      obtain ⟨b123, g123⟩ : ∃ z, z = T95.heap.size := ⟨_, rfl⟩
      rw [← g123] at A123 D123 st123
      have g_b123 : n0 ≤ b123 := lTr (own_sz O95) (lEq g123.symm)
      have H_124 := H_96.ext E123
      have R_124 := R_96.trans (CHr.ext E123 H_96)
      have O123 := O95.ext E123
      have F_pointer_b123 : Fld Z h123 b123 "com/example/grantline/grantline/PolicyException$Problem" "pointer" "Ljava/lang/String;" .null := D123 (Or.inr (Wd hw 71 rfl)) (ty := (.object "java/lang/String")) (by decide)
      have F_description_b123 : Fld Z h123 b123 "com/example/grantline/grantline/PolicyException$Problem" "description" "Ljava/lang/String;" .null := D123 (Or.inr (Wd hw 73 rfl)) (ty := (.object "java/lang/String")) (by decide)
      obtain ⟨_, _, ⟨T125, L125, k125, n125⟩, -, X125, ⟨Lc125, hQ125, l125, y125, z125⟩, st125⟩ := X123.specialBack hx (y := MN_27) rfl hown83 (mvT hZ83 (Wd hw 61 rfl)) (mvT hZ83 (Wd hw 62 rfl)) (mvT hZ83 (Wd hw 63 rfl)) (by decide) (backOf (W := 2) (rmPi l Z a0 hw [] cS aDE kDE aUS aSS aIE mO b123 bS_81 a79 h123 n0 O123 GL A123 F_pointer_b123 F_description_b123 g_b123) hZ83 (Wd hw 63 rfl) (Wd hw 60 rfl) (by decide) (by decide)) (g := mkF m 94 #[vi p0, vi p1, vi p2, vi p3, vi ((1 : Int32) + ((p3 &&& (3 : Int32)) % (3 : Int32))), vi (1 : Int32), vr a79, vr bS_81, vr bS_83, vr b85, .unset, .unset] [(.ref a79), (.ref bS_81), (.ref b123), (.ref b123), (.ref b85)]) rfl (by rw [hml]; rfl) (Steps.refl _) (a := b123) (argsL := [(.ref bS_81), (.ref a79)]) (rest := [(.ref b123), (.ref b85)]) (lenOf pdv37 rfl) rfl (by show 2 * 0 + _ ≤ _; exact lEq rfl) (hb hby at_94) (fun _ _ => ⟨rfl, e123, (by decide : 12 + 0 ≤ _), (by decide : 37 + 0 ≤ _)⟩)
      dsimp only [Pt.U, Pt.locs, Pt.cells, Pt.slots] at X125 l125 y125 z125 st125 hQ125
      subst l125 y125 z125
      obtain ⟨rfl, N125q, Kc125, P125_0, P125_1, P125_2⟩ := hQ125
      have O125 := O123.keep Kc125 (allS g_b123 all0)
      have Sf127 : Safe Z EL1 T83.vm h123 b123 := Safe.exa (EL := EL1) hZ83.alike A123 (by decide) (by decide)
      have H_126 := H_124.keep Kc125 (sfS Sf127 sf0)
      have R_126 := R_124.trans (CHr.keep Kc125 (sfS Sf127 sf0) H_124)
      have N125 := Fr.app N95 N125q
      obtain ⟨cq128, kq128, q128a, q128b, q128c⟩ := isOf hZ83 rfl ((P95_4.ext E123).keep Kc125)
      obtain ⟨_, _, ⟨T128, L128, k128, n128⟩, -, X128, ⟨Lc128, hQ128, l128, y128, z128⟩, st128⟩ := X125.virtualBack hx (y := MN_37) (z := MN_37) hown83 (mvT hZ83 (Wd hw 74 rfl)) (mvT hZ83 (Wd hw 75 rfl)) (notFace_of_selects (args := #[]) (mvT hZ83 (Wd hw 77 rfl))) (mvT hZ83 (Wd hw 77 rfl)) (mvT hZ83 (Wd hw 76 rfl)) (by decide) (backOf (W := 0) (rmA1_1 l Z a0 hw [] cS aDE kDE aUS aSS aIE mO b85 b123 b_95 (((0 : Int32) + (1 : Int32))) kb_95 b90 (T125.heap) n0 O125 GL ((P95_4.ext E123).keep Kc125) ((P95_5.ext E123).keep Kc125 (ninS (nLt (lLt (lLt A85.lt (lTr (lTr (lTr Kc87.1 E90.1) Kc92.1) Kc95.1)) (lEq g123.symm))) nin0)) ((P95_6.ext E123).keep Kc125 (ninS (nLt (lLt (lLt A85.lt (lTr (lTr (lTr Kc87.1 E90.1) Kc92.1) Kc95.1)) (lEq g123.symm))) nin0)) ((P95_7.ext E123).keep Kc125 (ninS (nLt (lLt (lLt A85.lt (lTr (lTr (lTr Kc87.1 E90.1) Kc92.1) Kc95.1)) (lEq g123.symm))) nin0)) g_b85 P125_0 ((P95_1.ext E123).keep Kc125) ((P95_2.ext E123).keep Kc125 (ninS (nLt (lLt P95_1.lt (lEq g123.symm))) nin0)) P95_3 g_b_95) hZ83 (Wd hw 78 rfl) (Wd hw 36 rfl) (by decide) (by decide)) q128a q128c (g := mkF m 97 #[vi p0, vi p1, vi p2, vi p3, vi ((1 : Int32) + ((p3 &&& (3 : Int32)) % (3 : Int32))), vi (1 : Int32), vr a79, vr bS_81, vr bS_83, vr b85, .unset, .unset] [(.ref b123), (.ref b85)]) rfl (by rw [hml]; rfl) (Steps.refl _) (argsL := [(.ref b123)]) (rest := []) (lenOf pdv38 rfl) rfl (by show 2 * 0 + _ ≤ _; exact lEq rfl) (hb hby at_97) (fun _ _ => ⟨rfl, rfl, (by decide : 12 + 0 ≤ _), (by decide : 37 + 0 ≤ _)⟩)
      dsimp only [Pt.U, Pt.locs, Pt.cells, Pt.slots] at X128 l128 y128 z128 st128 hQ128
      subst l128 y128 z128
      obtain ⟨rfl, N128q, Kc128, P128_0, P128_1, P128_2, P128_3, P128_4, P128_5, P128_6⟩ := hQ128
      have O128 := O125.keep Kc128 (allS g_b85 (allS g_b_95 all0))
      have Sf130 : Safe Z EL1 T83.vm T125.heap b_95 := Safe.exa (EL := EL1) hZ83.alike ((P95_1.ext E123).keep Kc125) (by decide) (by decide)
      have Sf131 : Safe Z EL1 T83.vm T125.heap b85 := Safe.exa (EL := EL1) hZ83.alike ((P95_4.ext E123).keep Kc125) (by decide) (by decide)
      have H_129 := H_126.keep Kc128 (sfS Sf131 (sfS Sf130 sf0))
      have R_129 := R_126.trans (CHr.keep Kc128 (sfS Sf131 (sfS Sf130 sf0)) H_126)
      have N128 := Fr.app N125 N128q
      have pre133 : ∀ t, SP p e below T128 m 104 #[vi p0, vi p1, vi p2, vi p3, vi ((1 : Int32) + ((p3 &&& (3 : Int32)) % (3 : Int32))), vi (1 : Int32), vr a79, vr bS_81, vr bS_83, vr b85, .unset, .unset] [(.int 3), (.int ((1 : Int32) + ((p3 &&& (3 : Int32)) % (3 : Int32))))] t → Steps p.tables e below (s₁.setTop (entryFrame m #[(.int p0), (.int p1), (.int p2), (.int p3)] maxLocals)) t := fun t kt => by
        refine pre99 t ?_
        show SP p e below T95 m 81 #[vi p0, vi p1, vi p2, vi p3, vi ((1 : Int32) + ((p3 &&& (3 : Int32)) % (3 : Int32))), vi (1 : Int32), vr a79, vr bS_81, vr bS_83, vr b85, .unset, .unset] [(.int 2), (.int ((1 : Int32) + ((p3 &&& (3 : Int32)) % (3 : Int32))))] _
        refine XS.icmpNo X95.here hx rfl (hb hby at_81) rfl (flt hc81_98).1 ?_
        refine XS.aload X95.here hx rfl (hb hby at_84) rfl rfl ?_
        show SP p e below T95 m 86 #[vi p0, vi p1, vi p2, vi p3, vi ((1 : Int32) + ((p3 &&& (3 : Int32)) % (3 : Int32))), vi (1 : Int32), vr a79, vr bS_81, vr bS_83, vr b85, .unset, .unset] [(.ref b85)] _
        refine st123 _ ?_
        show SP p e below T123 m 89 #[vi p0, vi p1, vi p2, vi p3, vi ((1 : Int32) + ((p3 &&& (3 : Int32)) % (3 : Int32))), vi (1 : Int32), vr a79, vr bS_81, vr bS_83, vr b85, .unset, .unset] [(.ref b123), (.ref b85)] _
        refine XS.dup X123.here hx rfl (hb hby at_89) rfl rfl ?_
        refine XS.aload X123.here hx rfl (hb hby at_90) rfl rfl ?_
        refine XS.aload X123.here hx rfl (hb hby at_92) rfl rfl ?_
        show SP p e below T123 m 94 #[vi p0, vi p1, vi p2, vi p3, vi ((1 : Int32) + ((p3 &&& (3 : Int32)) % (3 : Int32))), vi (1 : Int32), vr a79, vr bS_81, vr bS_83, vr b85, .unset, .unset] [(.ref a79), (.ref bS_81), (.ref b123), (.ref b123), (.ref b85)] _
        refine st125.trans ?_
        show SP p e below T125 m 97 #[vi p0, vi p1, vi p2, vi p3, vi ((1 : Int32) + ((p3 &&& (3 : Int32)) % (3 : Int32))), vi (1 : Int32), vr a79, vr bS_81, vr bS_83, vr b85, .unset, .unset] [(.ref b123), (.ref b85)] _
        refine st128.trans ?_
        show SP p e below T128 m 100 #[vi p0, vi p1, vi p2, vi p3, vi ((1 : Int32) + ((p3 &&& (3 : Int32)) % (3 : Int32))), vi (1 : Int32), vr a79, vr bS_81, vr bS_83, vr b85, .unset, .unset] [(.int 1)] _
        refine XS.pop X128.here hx rfl (hb hby at_100) rfl rfl ?_
        refine XS.iload X128.here hx rfl (hb hby at_101) rfl ?_
        refine XS.iconst X128.here hx rfl (hb hby at_103) ?_
        exact kt
      by_cases hc104_132 : ((1 : Int32) + ((p3 &&& (3 : Int32)) % (3 : Int32))) < (3 : Int32)
      · obtain ⟨T134, h134, X134, e134, E134, A134, D134, U134, st134⟩ := newO X128 hx hZ83 hown83 (Wd hw 105 rfl) (Wd hw 106 rfl) (Wd hw 107 rfl) rfl (g := mkF m 124 #[vi p0, vi p1, vi p2, vi p3, vi ((1 : Int32) + ((p3 &&& (3 : Int32)) % (3 : Int32))), vi (1 : Int32), vr a79, vr bS_81, vr bS_83, vr b85, .unset, .unset] []) rfl (hb hby at_124) (by decide) (by decide)
        obtain ⟨b134, g134⟩ : ∃ z, z = T128.heap.size := ⟨_, rfl⟩
        rw [← g134] at A134 D134 U134 st134
        have g_b134 : n0 ≤ b134 := lTr (own_sz O128) (lEq g134.symm)
        have H_135 := H_129.ext E134
        have R_135 := R_129.trans (CHr.ext E134 H_129)
        have O134 := O128.ext E134
        have F_cause_b134 : Fld Z h134 b134 "java/lang/Throwable" "cause" "Ljava/lang/Throwable;" .null := D134 (Or.inl (Wd hw 276 rfl)) (ty := (.object "java/lang/Throwable")) (by decide)
        have F_stackTrace_b134 : Fld Z h134 b134 "java/lang/Throwable" "stackTrace" "[Ljava/lang/StackTraceElement;" .null := D134 (Or.inl (Wd hw 279 rfl)) (ty := (.array (.object "java/lang/StackTraceElement"))) (by decide)
        have F_suppressedExceptions_b134 : Fld Z h134 b134 "java/lang/Throwable" "suppressedExceptions" "Ljava/util/List;" .null := D134 (Or.inl (Wd hw 282 rfl)) (ty := (.object "java/util/List")) (by decide)
        have F_detailMessage_b134 : Fld Z h134 b134 "java/lang/Throwable" "detailMessage" "Ljava/lang/String;" .null := D134 (Or.inl (Wd hw 305 rfl)) (ty := (.object "java/lang/String")) (by decide)
        have F_backtrace_b134 : Fld Z h134 b134 "java/lang/Throwable" "backtrace" "Ljava/lang/Object;" .null := D134 (Or.inl (Wd hw 306 rfl)) (ty := (.object "java/lang/Object")) (by decide)
        have F_depth_b134 : Fld Z h134 b134 "java/lang/Throwable" "depth" "I" (.int 0) := D134 (Or.inl (Wd hw 307 rfl)) (ty := .int) (by decide)
        have F_problems_b134 : Fld Z h134 b134 "com/example/grantline/grantline/PolicyException" "problems" "Ljava/util/List;" .null := D134 (Or.inr (Wd hw 383 rfl)) (ty := (.object "java/util/List")) (by decide)
        obtain ⟨_, _, ⟨T136, L136, k136, n136⟩, -, X136', hS136', hg136, ⟨Lc136, hQ136, l136, y136, z136, Rs136⟩, st136⟩ := X134.specialBackS hx (y := MN_63) rfl hown83 (mvT hZ83 (Wd hw 108 rfl)) (mvT hZ83 (Wd hw 109 rfl)) (mvT hZ83 (Wd hw 110 rfl)) (by decide) (backOfSKH (W := 1) (rmX_2 l Z a0 hw [] hlt cS aDE kDE aUS aSS aIE mO b134 b85 b_95 kb_95 b90 b123 a79 b79 kc79 ((0 : Int32)) ([]) bS_83 vS_83 kS_83 nS_83 lS_83 h134 n0 O134 GL A134 U134 F_cause_b134 F_stackTrace_b134 F_suppressedExceptions_b134 F_detailMessage_b134 F_backtrace_b134 F_problems_b134 g_b134 (P128_3.ext E134) (P128_4.ext E134) (P128_5.ext E134) (P128_0.ext E134) (P128_1.ext E134) (((((P92_0.keep Kc95).ext E123).keep Kc125).keep Kc128).ext E134) ((P125_0.keep Kc128).ext E134) (((((P92_1.keep Kc95 (ninS (Ne.symm (nLt (lLt (lLt A85.lt Kc87.1) (lEq g90.symm)))) nin0)).ext E123).keep Kc125 (ninS (nLt (lLt (lLt A90.lt (lTr Kc92.1 Kc95.1)) (lEq g123.symm))) nin0)).keep Kc128 (ninS (Ne.symm (nLt (lLt (lLt A85.lt Kc87.1) (lEq g90.symm)))) (ninS (nLt (lLt (lLt A90.lt Kc92.1) P95_0)) nin0))).ext E134) (((((P92_2.keep Kc95 (ninS (Ne.symm (nLt (lLt (lLt A85.lt Kc87.1) (lEq g90.symm)))) nin0)).ext E123).keep Kc125 (ninS (nLt (lLt (lLt A90.lt (lTr Kc92.1 Kc95.1)) (lEq g123.symm))) nin0)).keep Kc128 (ninS (Ne.symm (nLt (lLt (lLt A85.lt Kc87.1) (lEq g90.symm)))) (ninS (nLt (lLt (lLt A90.lt Kc92.1) P95_0)) nin0))).ext E134) (((((((((((A79.keep Kc81).keep Kc83).ext E85).keep Kc87).ext E90).keep Kc92).keep Kc95).ext E123).keep Kc125).keep Kc128).ext E134) (((((((((((Fv79.keep Kc81 nin0).keep Kc83 nin0).ext E85).keep Kc87 (ninS (nLt (lLt (lLt A79.lt (lTr Kc81.1 Kc83.1)) (lEq g85.symm))) nin0)).ext E90).keep Kc92 (ninS (nLt (lLt (lLt A79.lt (lTr (lTr (lTr Kc81.1 Kc83.1) E85.1) Kc87.1)) (lEq g90.symm))) nin0)).keep Kc95 (ninS (nLt (lLt (lLt A79.lt (lTr Kc81.1 Kc83.1)) (lEq g85.symm))) nin0)).ext E123).keep Kc125 (ninS (nLt (lLt (lLt A79.lt (lTr (lTr (lTr (lTr (lTr (lTr Kc81.1 Kc83.1) E85.1) Kc87.1) E90.1) Kc92.1) Kc95.1)) (lEq g123.symm))) nin0)).keep Kc128 (ninS (nLt (lLt (lLt A79.lt (lTr Kc81.1 Kc83.1)) (lEq g85.symm))) (ninS (nLt (lLt (lLt A79.lt (lTr (lTr (lTr (lTr (lTr Kc81.1 Kc83.1) E85.1) Kc87.1) E90.1) Kc92.1)) P95_0)) nin0))).ext E134) (((((((((((Fc79.keep Kc81 nin0).keep Kc83 nin0).ext E85).keep Kc87 (ninS (nLt (lLt (lLt A79.lt (lTr Kc81.1 Kc83.1)) (lEq g85.symm))) nin0)).ext E90).keep Kc92 (ninS (nLt (lLt (lLt A79.lt (lTr (lTr (lTr Kc81.1 Kc83.1) E85.1) Kc87.1)) (lEq g90.symm))) nin0)).keep Kc95 (ninS (nLt (lLt (lLt A79.lt (lTr Kc81.1 Kc83.1)) (lEq g85.symm))) nin0)).ext E123).keep Kc125 (ninS (nLt (lLt (lLt A79.lt (lTr (lTr (lTr (lTr (lTr (lTr Kc81.1 Kc83.1) E85.1) Kc87.1) E90.1) Kc92.1) Kc95.1)) (lEq g123.symm))) nin0)).keep Kc128 (ninS (nLt (lLt (lLt A79.lt (lTr Kc81.1 Kc83.1)) (lEq g85.symm))) (ninS (nLt (lLt (lLt A79.lt (lTr (lTr (lTr (lTr (lTr Kc81.1 Kc83.1) E85.1) Kc87.1) E90.1) Kc92.1)) P95_0)) nin0))).ext E134) (((((((((((V79.keep Kc81 nin0).keep Kc83 nin0).ext E85).keep Kc87 (ninS (nLt (lLt (lLt V79.lt (lTr Kc81.1 Kc83.1)) (lEq g85.symm))) nin0)).ext E90).keep Kc92 (ninS (nLt (lLt (lLt V79.lt (lTr (lTr (lTr Kc81.1 Kc83.1) E85.1) Kc87.1)) (lEq g90.symm))) nin0)).keep Kc95 (ninS (nLt (lLt (lLt V79.lt (lTr Kc81.1 Kc83.1)) (lEq g85.symm))) nin0)).ext E123).keep Kc125 (ninS (nLt (lLt (lLt V79.lt (lTr (lTr (lTr (lTr (lTr (lTr Kc81.1 Kc83.1) E85.1) Kc87.1) E90.1) Kc92.1) Kc95.1)) (lEq g123.symm))) nin0)).keep Kc128 (ninS (nLt (lLt (lLt V79.lt (lTr Kc81.1 Kc83.1)) (lEq g85.symm))) (ninS (nLt (lLt (lLt V79.lt (lTr (lTr (lTr (lTr (lTr Kc81.1 Kc83.1) E85.1) Kc87.1) E90.1) Kc92.1)) P95_0)) nin0))).ext E134) (((((((((P83_0.ext E85).keep Kc87).ext E90).keep Kc92).keep Kc95).ext E123).keep Kc125).keep Kc128).ext E134) (((((((((P83_1.ext E85).keep Kc87 (ninS (nLt (lLt P83_0.lt (lEq g85.symm))) nin0)).ext E90).keep Kc92 (ninS (nLt (lLt (lLt P83_0.lt (lTr E85.1 Kc87.1)) (lEq g90.symm))) nin0)).keep Kc95 (ninS (nLt (lLt P83_0.lt (lEq g85.symm))) nin0)).ext E123).keep Kc125 (ninS (nLt (lLt (lLt P83_0.lt (lTr (lTr (lTr (lTr E85.1 Kc87.1) E90.1) Kc92.1) Kc95.1)) (lEq g123.symm))) nin0)).keep Kc128 (ninS (nLt (lLt P83_0.lt (lEq g85.symm))) (ninS (nLt (lLt (lLt P83_0.lt (lTr (lTr (lTr E85.1 Kc87.1) E90.1) Kc92.1)) P95_0)) nin0))).ext E134) (((((((((P83_2.ext E85).keep Kc87 (ninS (nLt (lLt P83_0.lt (lEq g85.symm))) nin0)).ext E90).keep Kc92 (ninS (nLt (lLt (lLt P83_0.lt (lTr E85.1 Kc87.1)) (lEq g90.symm))) nin0)).keep Kc95 (ninS (nLt (lLt P83_0.lt (lEq g85.symm))) nin0)).ext E123).keep Kc125 (ninS (nLt (lLt (lLt P83_0.lt (lTr (lTr (lTr (lTr E85.1 Kc87.1) E90.1) Kc92.1) Kc95.1)) (lEq g123.symm))) nin0)).keep Kc128 (ninS (nLt (lLt P83_0.lt (lEq g85.symm))) (ninS (nLt (lLt (lLt P83_0.lt (lTr (lTr (lTr E85.1 Kc87.1) E90.1) Kc92.1)) P95_0)) nin0))).ext E134) (((((((((P83_3.ext E85).keep Kc87 (ninS (nLt (lLt P83_3.lt (lEq g85.symm))) nin0)).ext E90).keep Kc92 (ninS (nLt (lLt (lLt P83_3.lt (lTr E85.1 Kc87.1)) (lEq g90.symm))) nin0)).keep Kc95 (ninS (nLt (lLt P83_3.lt (lEq g85.symm))) nin0)).ext E123).keep Kc125 (ninS (nLt (lLt (lLt P83_3.lt (lTr (lTr (lTr (lTr E85.1 Kc87.1) E90.1) Kc92.1) Kc95.1)) (lEq g123.symm))) nin0)).keep Kc128 (ninS (nLt (lLt P83_3.lt (lEq g85.symm))) (ninS (nLt (lLt (lLt P83_3.lt (lTr (lTr (lTr E85.1 Kc87.1) E90.1) Kc92.1)) P95_0)) nin0))).ext E134) (by decide) (by decide) P83_4 P83_5) hZ83 (Wd hw 110 rfl) (Wd hw 107 rfl) (by decide) (by decide) (own_EW hw) H_135 (hTK.alikeC (hZ.alike.symm.trans hZ83.alike)) (hBW.alikeC (hZ.alike.symm.trans hZ83.alike))) (g := mkF m 130 #[vi p0, vi p1, vi p2, vi p3, vi ((1 : Int32) + ((p3 &&& (3 : Int32)) % (3 : Int32))), vi (1 : Int32), vr a79, vr bS_81, vr bS_83, vr b85, .unset, .unset] [(.ref b85), (.ref b134), (.ref b134)]) rfl (by rw [hml]; rfl) (Steps.refl _) (a := b134) (argsL := [(.ref b85)]) (rest := [(.ref b134)]) (lenOf pdv39 rfl) rfl (by show 2 * 0 + _ ≤ _; exact lEq rfl) (hb hby at_130) (fun _ _ => ⟨rfl, e134, (by decide : 13 + 9 ≤ _), (by decide : 44 + 2808 ≤ _)⟩)
        dsimp only [Pt.U, Pt.locs, Pt.cells, Pt.slots] at X136' l136 y136 z136 st136 hQ136 hS136' hg136 Rs136
        subst l136 y136 z136
        obtain ⟨X136, hS136, hZ136, hown136⟩ := rebS hS83 (by rw [e134]; exact (lTr (lTr (lTr (lTr (lTr (lTr (lTr (lTr (lTr (Nat.le_refl _) E85.1) Kc87.1) E90.1) Kc92.1) Kc95.1) E123.1) Kc125.1) Kc128.1) E134.1)) X136' hS136' hg136 hZ83 hown83
        obtain ⟨b_136, rfl, N136q, Kc136, P136_0, P136_1, P136_2, P136_3⟩ := hQ136
        have O136 := O134.keep Kc136 (allS g_b134 all0)
        have H_137 := Rs136.1
        have R_137 := R_135.trans Rs136
        have N136 := Fr.app N128 N136q
        obtain ⟨cq138, kq138, q138a, q138b, q138c⟩ := isOf hZ136 rfl P136_0
        obtain ⟨_, _, ⟨T138, L138, k138, n138⟩, -, X138, ⟨Lc138, hQ138, l138, y138, z138⟩, st138⟩ := X136.virtualBack hx (y := MN_66) (z := MN_66) hown136 (mvT hZ136 (Wd hw 384 rfl)) (mvT hZ136 (Wd hw 385 rfl)) (notFace_of_selects (args := #[]) (mvT hZ136 (Wd hw 387 rfl))) (mvT hZ136 (Wd hw 387 rfl)) (mvT hZ136 (Wd hw 386 rfl)) (by decide) (backOf (W := 0) (rmP12 l Z a0 hw [] cS aDE kDE aUS aSS aIE mO b134 b_136 b90 a79 (T136.heap) n0 O136 GL P136_2 P136_3 P136_1 ((((((P92_0.keep Kc95).ext E123).keep Kc125).keep Kc128).ext E134).keep Kc136) ((((((P92_1.keep Kc95 (ninS (Ne.symm (nLt (lLt (lLt A85.lt Kc87.1) (lEq g90.symm)))) nin0)).ext E123).keep Kc125 (ninS (nLt (lLt (lLt A90.lt (lTr Kc92.1 Kc95.1)) (lEq g123.symm))) nin0)).keep Kc128 (ninS (Ne.symm (nLt (lLt (lLt A85.lt Kc87.1) (lEq g90.symm)))) (ninS (nLt (lLt (lLt A90.lt Kc92.1) P95_0)) nin0))).ext E134).keep Kc136 (ninS (nLt (lLt (lLt A90.lt (lTr (lTr (lTr (lTr Kc92.1 Kc95.1) E123.1) Kc125.1) Kc128.1)) (lEq g134.symm))) nin0))) hZ136 (Wd hw 388 rfl) (Wd hw 107 rfl) (by decide) (by decide)) q138a q138c (g := mkF m 137 #[vi p0, vi p1, vi p2, vi p3, vi ((1 : Int32) + ((p3 &&& (3 : Int32)) % (3 : Int32))), vi (1 : Int32), vr a79, vr bS_81, vr bS_83, vr b85, vr b134, .unset] [(.ref b134)]) rfl (by rw [hml]; rfl) (Steps.refl _) (argsL := []) (rest := []) (lenOf pdv20 rfl) rfl (by show 2 * 0 + _ ≤ _; exact lEq rfl) (hb hby at_137) (fun _ _ => ⟨rfl, rfl, (by decide : 22 + 0 ≤ _), (by decide : 2852 + 0 ≤ _)⟩)
        dsimp only [Pt.U, Pt.locs, Pt.cells, Pt.slots] at X138 l138 y138 z138 st138 hQ138
        subst l138 y138 z138
        obtain ⟨rfl, N138q, e138⟩ := hQ138
        have N138 := Fr.app N136 N138q
        obtain ⟨cq139, kq139, q139a, q139b, q139c⟩ := isOf hZ136 e138 ((((((((((((A79.keep Kc81).keep Kc83).ext E85).keep Kc87).ext E90).keep Kc92).keep Kc95).ext E123).keep Kc125).keep Kc128).ext E134).keep Kc136)
        obtain ⟨_, _, ⟨T139, L139, k139, n139⟩, -, X139, ⟨Lc139, hQ139, l139, y139, z139⟩, st139⟩ := X138.virtualBack hx (y := MN_67) (z := MN_67) hown136 (mvT hZ136 (Wd hw 400 rfl)) (mvT hZ136 (Wd hw 401 rfl)) (notFace_of_selects (args := #[]) (mvT hZ136 (Wd hw 403 rfl))) (mvT hZ136 (Wd hw 403 rfl)) (mvT hZ136 (Wd hw 402 rfl)) (by decide) (backOf (W := 0) (rmEq l Z a0 hw [] cS aDE kDE aUS aSS aIE mO a79 (T136.heap) n0 O136 GL) hZ136 (Wd hw 404 rfl) (Wd hw 7 rfl) (by decide) (by decide)) q139a q139c (g := mkF m 151 #[vi p0, vi p1, vi p2, vi p3, vi ((1 : Int32) + ((p3 &&& (3 : Int32)) % (3 : Int32))), vi (1 : Int32), vr a79, vr bS_81, vr bS_83, vr b85, vr b134, vr a79] [(.ref a79), (.ref a79)]) rfl (by rw [hml]; rfl) (Steps.refl _) (argsL := [(.ref a79)]) (rest := []) (lenOf pdv38 rfl) rfl (by show 2 * 0 + _ ≤ _; exact lEq rfl) (hb hby at_151) (fun _ _ => ⟨rfl, e138, (by decide : 22 + 0 ≤ _), (by decide : 2852 + 0 ≤ _)⟩)
        dsimp only [Pt.U, Pt.locs, Pt.cells, Pt.slots] at X139 l139 y139 z139 st139 hQ139
        subst l139 y139 z139
        obtain ⟨rfl, N139q, e139⟩ := hQ139
        have N139 := Fr.app N138 N139q
        obtain ⟨fs, hr, hrun, hended, hRW⟩ := X139.leaveW hS136 (by rw [e139]; exact (Nat.le_refl _)) (v := some (.int 1)) (fun h => by rw [Bd.returns] at h; cases h)
        have hCR : CHr Z EL1 s.vm s.heap T139.vm T139.heap := by
          rw [hh, e139]
          exact R_137.trans (CHv.at X139 hZ136 (own_EW hw) H_137)
        refine ⟨_, _, pre133 _ ?_, hrun, hended, _, _, rfl, ?_, hCR, hRW.1, hRW.2.1, hRW.2.2.1, hRW.2.2.2.mono (by decide) (by decide)⟩
        · show SP p e below T128 m 104 #[vi p0, vi p1, vi p2, vi p3, vi ((1 : Int32) + ((p3 &&& (3 : Int32)) % (3 : Int32))), vi (1 : Int32), vr a79, vr bS_81, vr bS_83, vr b85, .unset, .unset] [(.int 3), (.int ((1 : Int32) + ((p3 &&& (3 : Int32)) % (3 : Int32))))] _
          refine XS.icmpYes X128.here hx rfl (pc0 := 104) (pc' := 124) rfl (hb hby at_104) rfl (tlt hc104_132).1 (by decide) (by decide) ?_
          show SP p e below T128 m 124 #[vi p0, vi p1, vi p2, vi p3, vi ((1 : Int32) + ((p3 &&& (3 : Int32)) % (3 : Int32))), vi (1 : Int32), vr a79, vr bS_81, vr bS_83, vr b85, .unset, .unset] [] _
          refine st134 _ ?_
          show SP p e below T134 m 127 #[vi p0, vi p1, vi p2, vi p3, vi ((1 : Int32) + ((p3 &&& (3 : Int32)) % (3 : Int32))), vi (1 : Int32), vr a79, vr bS_81, vr bS_83, vr b85, .unset, .unset] [(.ref b134)] _
          refine XS.dup X134.here hx rfl (hb hby at_127) rfl rfl ?_
          refine XS.aload X134.here hx rfl (hb hby at_128) rfl rfl ?_
          show SP p e below T134 m 130 #[vi p0, vi p1, vi p2, vi p3, vi ((1 : Int32) + ((p3 &&& (3 : Int32)) % (3 : Int32))), vi (1 : Int32), vr a79, vr bS_81, vr bS_83, vr b85, .unset, .unset] [(.ref b85), (.ref b134), (.ref b134)] _
          refine st136.trans ?_
          show SP p e below T136 m 133 #[vi p0, vi p1, vi p2, vi p3, vi ((1 : Int32) + ((p3 &&& (3 : Int32)) % (3 : Int32))), vi (1 : Int32), vr a79, vr bS_81, vr bS_83, vr b85, .unset, .unset] [(.ref b134)] _
          refine XS.astore X136.here hx rfl (hb hby at_133) rfl rfl (l' := #[vi p0, vi p1, vi p2, vi p3, vi ((1 : Int32) + ((p3 &&& (3 : Int32)) % (3 : Int32))), vi (1 : Int32), vr a79, vr bS_81, vr bS_83, vr b85, vr b134, .unset]) rfl ?_
          refine XS.aload X136.here hx rfl (hb hby at_135) rfl rfl ?_
          show SP p e below T136 m 137 #[vi p0, vi p1, vi p2, vi p3, vi ((1 : Int32) + ((p3 &&& (3 : Int32)) % (3 : Int32))), vi (1 : Int32), vr a79, vr bS_81, vr bS_83, vr b85, vr b134, .unset] [(.ref b134)] _
          refine st138.trans ?_
          show SP p e below T138 m 140 #[vi p0, vi p1, vi p2, vi p3, vi ((1 : Int32) + ((p3 &&& (3 : Int32)) % (3 : Int32))), vi (1 : Int32), vr a79, vr bS_81, vr bS_83, vr b85, vr b134, .unset] [(.ref a79)] _
          refine XS.astore X138.here hx rfl (hb hby at_140) rfl rfl (l' := #[vi p0, vi p1, vi p2, vi p3, vi ((1 : Int32) + ((p3 &&& (3 : Int32)) % (3 : Int32))), vi (1 : Int32), vr a79, vr bS_81, vr bS_83, vr b85, vr b134, vr a79]) rfl ?_
          refine XS.aload X138.here hx rfl (hb hby at_142) rfl rfl ?_
          refine XS.ifnullNo X138.here hx rfl (hb hby at_144) rfl ?_
          refine XS.aload X138.here hx rfl (hb hby at_147) rfl rfl ?_
          refine XS.aload X138.here hx rfl (hb hby at_149) rfl rfl ?_
          show SP p e below T138 m 151 #[vi p0, vi p1, vi p2, vi p3, vi ((1 : Int32) + ((p3 &&& (3 : Int32)) % (3 : Int32))), vi (1 : Int32), vr a79, vr bS_81, vr bS_83, vr b85, vr b134, vr a79] [(.ref a79), (.ref a79)] _
          refine st139.trans ?_
          show SP p e below T139 m 154 #[vi p0, vi p1, vi p2, vi p3, vi ((1 : Int32) + ((p3 &&& (3 : Int32)) % (3 : Int32))), vi (1 : Int32), vr a79, vr bS_81, vr bS_83, vr b85, vr b134, vr a79] [(.int 1)] _
          refine XS.ifNo X139.here hx rfl (hb hby at_154) rfl ((if0 _ _).trans (feq (by decide : ¬ ((1 : Int32) = (0 : Int32)))).1) ?_
          refine XS.iconst X139.here hx rfl (hb hby at_157) ?_
          refine XS.goto X139.here hx rfl (pc0 := 158) (pc' := 162) rfl (hb hby at_158) (by decide) (by decide) ?_
          show SP p e below T139 m 162 #[vi p0, vi p1, vi p2, vi p3, vi ((1 : Int32) + ((p3 &&& (3 : Int32)) % (3 : Int32))), vi (1 : Int32), vr a79, vr bS_81, vr bS_83, vr b85, vr b134, vr a79] [(.int 1)] _
          exact retN X139 hx (t := .boolean) Bd.returns (by simp) (hb hby at_162) hr
        · show Q_rm0 n0 _ T139.heap _
          rw [e139]
          exact ⟨rfl, N139⟩
      · obtain ⟨T140, h140, X140, e140, E140, A140, D140, -, st140⟩ := newO X128 hx hZ83 hown83 (Wd hw 58 rfl) (Wd hw 59 rfl) (Wd hw 60 rfl) rfl (g := mkF m 109 #[vi p0, vi p1, vi p2, vi p3, vi ((1 : Int32) + ((p3 &&& (3 : Int32)) % (3 : Int32))), vi (1 : Int32), vr a79, vr bS_81, vr bS_83, vr b85, .unset, .unset] [(.ref b85)]) rfl (hb hby at_109) (by decide) (by decide)
        obtain ⟨b140, g140⟩ : ∃ z, z = T128.heap.size := ⟨_, rfl⟩
        rw [← g140] at A140 D140 st140
        have g_b140 : n0 ≤ b140 := lTr (own_sz O128) (lEq g140.symm)
        have H_141 := H_129.ext E140
        have R_141 := R_129.trans (CHr.ext E140 H_129)
        have O140 := O128.ext E140
        have F_pointer_b140 : Fld Z h140 b140 "com/example/grantline/grantline/PolicyException$Problem" "pointer" "Ljava/lang/String;" .null := D140 (Or.inr (Wd hw 71 rfl)) (ty := (.object "java/lang/String")) (by decide)
        have F_description_b140 : Fld Z h140 b140 "com/example/grantline/grantline/PolicyException$Problem" "description" "Ljava/lang/String;" .null := D140 (Or.inr (Wd hw 73 rfl)) (ty := (.object "java/lang/String")) (by decide)
        obtain ⟨_, _, ⟨T142, L142, k142, n142⟩, -, X142, ⟨Lc142, hQ142, l142, y142, z142⟩, st142⟩ := X140.specialBack hx (y := MN_27) rfl hown83 (mvT hZ83 (Wd hw 61 rfl)) (mvT hZ83 (Wd hw 62 rfl)) (mvT hZ83 (Wd hw 63 rfl)) (by decide) (backOf (W := 2) (rmPi l Z a0 hw [] cS aDE kDE aUS aSS aIE mO b140 bS_83 bS_81 h140 n0 O140 GL A140 F_pointer_b140 F_description_b140 g_b140) hZ83 (Wd hw 63 rfl) (Wd hw 60 rfl) (by decide) (by decide)) (g := mkF m 117 #[vi p0, vi p1, vi p2, vi p3, vi ((1 : Int32) + ((p3 &&& (3 : Int32)) % (3 : Int32))), vi (1 : Int32), vr a79, vr bS_81, vr bS_83, vr b85, .unset, .unset] [(.ref bS_81), (.ref bS_83), (.ref b140), (.ref b140), (.ref b85)]) rfl (by rw [hml]; rfl) (Steps.refl _) (a := b140) (argsL := [(.ref bS_83), (.ref bS_81)]) (rest := [(.ref b140), (.ref b85)]) (lenOf pdv37 rfl) rfl (by show 2 * 0 + _ ≤ _; exact lEq rfl) (hb hby at_117) (fun _ _ => ⟨rfl, e140, (by decide : 13 + 0 ≤ _), (by decide : 39 + 0 ≤ _)⟩)
        dsimp only [Pt.U, Pt.locs, Pt.cells, Pt.slots] at X142 l142 y142 z142 st142 hQ142
        subst l142 y142 z142
        obtain ⟨rfl, N142q, Kc142, P142_0, P142_1, P142_2⟩ := hQ142
        have O142 := O140.keep Kc142 (allS g_b140 all0)
        have Sf144 : Safe Z EL1 T83.vm h140 b140 := Safe.exa (EL := EL1) hZ83.alike A140 (by decide) (by decide)
        have H_143 := H_141.keep Kc142 (sfS Sf144 sf0)
        have R_143 := R_141.trans (CHr.keep Kc142 (sfS Sf144 sf0) H_141)
        have N142 := Fr.app N128 N142q
        obtain ⟨cq145, kq145, q145a, q145b, q145c⟩ := isOf hZ83 rfl ((P128_3.ext E140).keep Kc142)
        obtain ⟨_, _, ⟨T145, L145, k145, n145⟩, -, X145, ⟨Lc145, hQ145, l145, y145, z145⟩, st145⟩ := X142.virtualBack hx (y := MN_37) (z := MN_37) hown83 (mvT hZ83 (Wd hw 74 rfl)) (mvT hZ83 (Wd hw 75 rfl)) (notFace_of_selects (args := #[]) (mvT hZ83 (Wd hw 77 rfl))) (mvT hZ83 (Wd hw 77 rfl)) (mvT hZ83 (Wd hw 76 rfl)) (by decide) (backOf (W := 0) (rmA1_2 l Z a0 hw [] cS aDE kDE aUS aSS aIE mO b85 b140 b_95 ((((0 : Int32) + (1 : Int32)) + (1 : Int32))) kb_95 b90 b123 (T142.heap) n0 O142 GL ((P128_3.ext E140).keep Kc142) ((P128_4.ext E140).keep Kc142 (ninS (nLt (lLt (lLt A85.lt (lTr (lTr (lTr (lTr (lTr (lTr Kc87.1 E90.1) Kc92.1) Kc95.1) E123.1) Kc125.1) Kc128.1)) (lEq g140.symm))) nin0)) ((P128_5.ext E140).keep Kc142 (ninS (nLt (lLt (lLt A85.lt (lTr (lTr (lTr (lTr (lTr (lTr Kc87.1 E90.1) Kc92.1) Kc95.1) E123.1) Kc125.1) Kc128.1)) (lEq g140.symm))) nin0)) ((P128_6.ext E140).keep Kc142 (ninS (nLt (lLt (lLt A85.lt (lTr (lTr (lTr (lTr (lTr (lTr Kc87.1 E90.1) Kc92.1) Kc95.1) E123.1) Kc125.1) Kc128.1)) (lEq g140.symm))) nin0)) g_b85 P142_0 ((P128_0.ext E140).keep Kc142) ((P128_1.ext E140).keep Kc142 (ninS (nLt (lLt (lLt P95_1.lt (lTr (lTr E123.1 Kc125.1) Kc128.1)) (lEq g140.symm))) nin0)) P128_2 g_b_95) hZ83 (Wd hw 78 rfl) (Wd hw 36 rfl) (by decide) (by decide)) q145a q145c (g := mkF m 120 #[vi p0, vi p1, vi p2, vi p3, vi ((1 : Int32) + ((p3 &&& (3 : Int32)) % (3 : Int32))), vi (1 : Int32), vr a79, vr bS_81, vr bS_83, vr b85, .unset, .unset] [(.ref b140), (.ref b85)]) rfl (by rw [hml]; rfl) (Steps.refl _) (argsL := [(.ref b140)]) (rest := []) (lenOf pdv38 rfl) rfl (by show 2 * 0 + _ ≤ _; exact lEq rfl) (hb hby at_120) (fun _ _ => ⟨rfl, rfl, (by decide : 13 + 0 ≤ _), (by decide : 39 + 0 ≤ _)⟩)
        dsimp only [Pt.U, Pt.locs, Pt.cells, Pt.slots] at X145 l145 y145 z145 st145 hQ145
        subst l145 y145 z145
        obtain ⟨rfl, N145q, Kc145, P145_0, P145_1, P145_2, P145_3, P145_4, P145_5, P145_6⟩ := hQ145
        have O145 := O142.keep Kc145 (allS g_b85 (allS g_b_95 all0))
        have Sf147 : Safe Z EL1 T83.vm T142.heap b_95 := Safe.exa (EL := EL1) hZ83.alike ((P128_0.ext E140).keep Kc142) (by decide) (by decide)
        have Sf148 : Safe Z EL1 T83.vm T142.heap b85 := Safe.exa (EL := EL1) hZ83.alike ((P128_3.ext E140).keep Kc142) (by decide) (by decide)
        have H_146 := H_143.keep Kc145 (sfS Sf148 (sfS Sf147 sf0))
        have R_146 := R_143.trans (CHr.keep Kc145 (sfS Sf148 (sfS Sf147 sf0)) H_143)
        have N145 := Fr.app N142 N145q
        obtain ⟨T149, h149, X149, e149, E149, A149, D149, U149, st149⟩ := newO X145 hx hZ83 hown83 (Wd hw 105 rfl) (Wd hw 106 rfl) (Wd hw 107 rfl) rfl (g := mkF m 124 #[vi p0, vi p1, vi p2, vi p3, vi ((1 : Int32) + ((p3 &&& (3 : Int32)) % (3 : Int32))), vi (1 : Int32), vr a79, vr bS_81, vr bS_83, vr b85, .unset, .unset] []) rfl (hb hby at_124) (by decide) (by decide)
        obtain ⟨b149, g149⟩ : ∃ z, z = T145.heap.size := ⟨_, rfl⟩
        rw [← g149] at A149 D149 U149 st149
        have g_b149 : n0 ≤ b149 := lTr (own_sz O145) (lEq g149.symm)
        have H_150 := H_146.ext E149
        have R_150 := R_146.trans (CHr.ext E149 H_146)
        have O149 := O145.ext E149
        have F_cause_b149 : Fld Z h149 b149 "java/lang/Throwable" "cause" "Ljava/lang/Throwable;" .null := D149 (Or.inl (Wd hw 276 rfl)) (ty := (.object "java/lang/Throwable")) (by decide)
        have F_stackTrace_b149 : Fld Z h149 b149 "java/lang/Throwable" "stackTrace" "[Ljava/lang/StackTraceElement;" .null := D149 (Or.inl (Wd hw 279 rfl)) (ty := (.array (.object "java/lang/StackTraceElement"))) (by decide)
        have F_suppressedExceptions_b149 : Fld Z h149 b149 "java/lang/Throwable" "suppressedExceptions" "Ljava/util/List;" .null := D149 (Or.inl (Wd hw 282 rfl)) (ty := (.object "java/util/List")) (by decide)
        have F_detailMessage_b149 : Fld Z h149 b149 "java/lang/Throwable" "detailMessage" "Ljava/lang/String;" .null := D149 (Or.inl (Wd hw 305 rfl)) (ty := (.object "java/lang/String")) (by decide)
        have F_backtrace_b149 : Fld Z h149 b149 "java/lang/Throwable" "backtrace" "Ljava/lang/Object;" .null := D149 (Or.inl (Wd hw 306 rfl)) (ty := (.object "java/lang/Object")) (by decide)
        have F_depth_b149 : Fld Z h149 b149 "java/lang/Throwable" "depth" "I" (.int 0) := D149 (Or.inl (Wd hw 307 rfl)) (ty := .int) (by decide)
        have F_problems_b149 : Fld Z h149 b149 "com/example/grantline/grantline/PolicyException" "problems" "Ljava/util/List;" .null := D149 (Or.inr (Wd hw 383 rfl)) (ty := (.object "java/util/List")) (by decide)
        obtain ⟨_, _, ⟨T151, L151, k151, n151⟩, -, X151', hS151', hg151, ⟨Lc151, hQ151, l151, y151, z151, Rs151⟩, st151⟩ := X149.specialBackS hx (y := MN_63) rfl hown83 (mvT hZ83 (Wd hw 108 rfl)) (mvT hZ83 (Wd hw 109 rfl)) (mvT hZ83 (Wd hw 110 rfl)) (by decide) (backOfSKH (W := 1) (rmX_3 l Z a0 hw [] hlt cS aDE kDE aUS aSS aIE mO b149 b85 b_95 kb_95 b90 b123 b140 a79 b79 kc79 ((0 : Int32)) ([]) bS_83 vS_83 kS_83 nS_83 lS_83 h149 n0 O149 GL A149 U149 F_cause_b149 F_stackTrace_b149 F_suppressedExceptions_b149 F_detailMessage_b149 F_backtrace_b149 F_problems_b149 g_b149 (P145_3.ext E149) (P145_4.ext E149) (P145_5.ext E149) (P145_0.ext E149) (P145_1.ext E149) ((((((((P92_0.keep Kc95).ext E123).keep Kc125).keep Kc128).ext E140).keep Kc142).keep Kc145).ext E149) (((((P125_0.keep Kc128).ext E140).keep Kc142).keep Kc145).ext E149) ((P142_0.keep Kc145).ext E149) ((((((((P92_1.keep Kc95 (ninS (Ne.symm (nLt (lLt (lLt A85.lt Kc87.1) (lEq g90.symm)))) nin0)).ext E123).keep Kc125 (ninS (nLt (lLt (lLt A90.lt (lTr Kc92.1 Kc95.1)) (lEq g123.symm))) nin0)).keep Kc128 (ninS (Ne.symm (nLt (lLt (lLt A85.lt Kc87.1) (lEq g90.symm)))) (ninS (nLt (lLt (lLt A90.lt Kc92.1) P95_0)) nin0))).ext E140).keep Kc142 (ninS (nLt (lLt (lLt A90.lt (lTr (lTr (lTr (lTr Kc92.1 Kc95.1) E123.1) Kc125.1) Kc128.1)) (lEq g140.symm))) nin0)).keep Kc145 (ninS (Ne.symm (nLt (lLt (lLt A85.lt Kc87.1) (lEq g90.symm)))) (ninS (nLt (lLt (lLt A90.lt Kc92.1) P95_0)) nin0))).ext E149) ((((((((P92_2.keep Kc95 (ninS (Ne.symm (nLt (lLt (lLt A85.lt Kc87.1) (lEq g90.symm)))) nin0)).ext E123).keep Kc125 (ninS (nLt (lLt (lLt A90.lt (lTr Kc92.1 Kc95.1)) (lEq g123.symm))) nin0)).keep Kc128 (ninS (Ne.symm (nLt (lLt (lLt A85.lt Kc87.1) (lEq g90.symm)))) (ninS (nLt (lLt (lLt A90.lt Kc92.1) P95_0)) nin0))).ext E140).keep Kc142 (ninS (nLt (lLt (lLt A90.lt (lTr (lTr (lTr (lTr Kc92.1 Kc95.1) E123.1) Kc125.1) Kc128.1)) (lEq g140.symm))) nin0)).keep Kc145 (ninS (Ne.symm (nLt (lLt (lLt A85.lt Kc87.1) (lEq g90.symm)))) (ninS (nLt (lLt (lLt A90.lt Kc92.1) P95_0)) nin0))).ext E149) ((((((((((((((A79.keep Kc81).keep Kc83).ext E85).keep Kc87).ext E90).keep Kc92).keep Kc95).ext E123).keep Kc125).keep Kc128).ext E140).keep Kc142).keep Kc145).ext E149) ((((((((((((((Fv79.keep Kc81 nin0).keep Kc83 nin0).ext E85).keep Kc87 (ninS (nLt (lLt (lLt A79.lt (lTr Kc81.1 Kc83.1)) (lEq g85.symm))) nin0)).ext E90).keep Kc92 (ninS (nLt (lLt (lLt A79.lt (lTr (lTr (lTr Kc81.1 Kc83.1) E85.1) Kc87.1)) (lEq g90.symm))) nin0)).keep Kc95 (ninS (nLt (lLt (lLt A79.lt (lTr Kc81.1 Kc83.1)) (lEq g85.symm))) nin0)).ext E123).keep Kc125 (ninS (nLt (lLt (lLt A79.lt (lTr (lTr (lTr (lTr (lTr (lTr Kc81.1 Kc83.1) E85.1) Kc87.1) E90.1) Kc92.1) Kc95.1)) (lEq g123.symm))) nin0)).keep Kc128 (ninS (nLt (lLt (lLt A79.lt (lTr Kc81.1 Kc83.1)) (lEq g85.symm))) (ninS (nLt (lLt (lLt A79.lt (lTr (lTr (lTr (lTr (lTr Kc81.1 Kc83.1) E85.1) Kc87.1) E90.1) Kc92.1)) P95_0)) nin0))).ext E140).keep Kc142 (ninS (nLt (lLt (lLt A79.lt (lTr (lTr (lTr (lTr (lTr (lTr (lTr (lTr (lTr Kc81.1 Kc83.1) E85.1) Kc87.1) E90.1) Kc92.1) Kc95.1) E123.1) Kc125.1) Kc128.1)) (lEq g140.symm))) nin0)).keep Kc145 (ninS (nLt (lLt (lLt A79.lt (lTr Kc81.1 Kc83.1)) (lEq g85.symm))) (ninS (nLt (lLt (lLt A79.lt (lTr (lTr (lTr (lTr (lTr Kc81.1 Kc83.1) E85.1) Kc87.1) E90.1) Kc92.1)) P95_0)) nin0))).ext E149) ((((((((((((((Fc79.keep Kc81 nin0).keep Kc83 nin0).ext E85).keep Kc87 (ninS (nLt (lLt (lLt A79.lt (lTr Kc81.1 Kc83.1)) (lEq g85.symm))) nin0)).ext E90).keep Kc92 (ninS (nLt (lLt (lLt A79.lt (lTr (lTr (lTr Kc81.1 Kc83.1) E85.1) Kc87.1)) (lEq g90.symm))) nin0)).keep Kc95 (ninS (nLt (lLt (lLt A79.lt (lTr Kc81.1 Kc83.1)) (lEq g85.symm))) nin0)).ext E123).keep Kc125 (ninS (nLt (lLt (lLt A79.lt (lTr (lTr (lTr (lTr (lTr (lTr Kc81.1 Kc83.1) E85.1) Kc87.1) E90.1) Kc92.1) Kc95.1)) (lEq g123.symm))) nin0)).keep Kc128 (ninS (nLt (lLt (lLt A79.lt (lTr Kc81.1 Kc83.1)) (lEq g85.symm))) (ninS (nLt (lLt (lLt A79.lt (lTr (lTr (lTr (lTr (lTr Kc81.1 Kc83.1) E85.1) Kc87.1) E90.1) Kc92.1)) P95_0)) nin0))).ext E140).keep Kc142 (ninS (nLt (lLt (lLt A79.lt (lTr (lTr (lTr (lTr (lTr (lTr (lTr (lTr (lTr Kc81.1 Kc83.1) E85.1) Kc87.1) E90.1) Kc92.1) Kc95.1) E123.1) Kc125.1) Kc128.1)) (lEq g140.symm))) nin0)).keep Kc145 (ninS (nLt (lLt (lLt A79.lt (lTr Kc81.1 Kc83.1)) (lEq g85.symm))) (ninS (nLt (lLt (lLt A79.lt (lTr (lTr (lTr (lTr (lTr Kc81.1 Kc83.1) E85.1) Kc87.1) E90.1) Kc92.1)) P95_0)) nin0))).ext E149) ((((((((((((((V79.keep Kc81 nin0).keep Kc83 nin0).ext E85).keep Kc87 (ninS (nLt (lLt (lLt V79.lt (lTr Kc81.1 Kc83.1)) (lEq g85.symm))) nin0)).ext E90).keep Kc92 (ninS (nLt (lLt (lLt V79.lt (lTr (lTr (lTr Kc81.1 Kc83.1) E85.1) Kc87.1)) (lEq g90.symm))) nin0)).keep Kc95 (ninS (nLt (lLt (lLt V79.lt (lTr Kc81.1 Kc83.1)) (lEq g85.symm))) nin0)).ext E123).keep Kc125 (ninS (nLt (lLt (lLt V79.lt (lTr (lTr (lTr (lTr (lTr (lTr Kc81.1 Kc83.1) E85.1) Kc87.1) E90.1) Kc92.1) Kc95.1)) (lEq g123.symm))) nin0)).keep Kc128 (ninS (nLt (lLt (lLt V79.lt (lTr Kc81.1 Kc83.1)) (lEq g85.symm))) (ninS (nLt (lLt (lLt V79.lt (lTr (lTr (lTr (lTr (lTr Kc81.1 Kc83.1) E85.1) Kc87.1) E90.1) Kc92.1)) P95_0)) nin0))).ext E140).keep Kc142 (ninS (nLt (lLt (lLt V79.lt (lTr (lTr (lTr (lTr (lTr (lTr (lTr (lTr (lTr Kc81.1 Kc83.1) E85.1) Kc87.1) E90.1) Kc92.1) Kc95.1) E123.1) Kc125.1) Kc128.1)) (lEq g140.symm))) nin0)).keep Kc145 (ninS (nLt (lLt (lLt V79.lt (lTr Kc81.1 Kc83.1)) (lEq g85.symm))) (ninS (nLt (lLt (lLt V79.lt (lTr (lTr (lTr (lTr (lTr Kc81.1 Kc83.1) E85.1) Kc87.1) E90.1) Kc92.1)) P95_0)) nin0))).ext E149) ((((((((((((P83_0.ext E85).keep Kc87).ext E90).keep Kc92).keep Kc95).ext E123).keep Kc125).keep Kc128).ext E140).keep Kc142).keep Kc145).ext E149) ((((((((((((P83_1.ext E85).keep Kc87 (ninS (nLt (lLt P83_0.lt (lEq g85.symm))) nin0)).ext E90).keep Kc92 (ninS (nLt (lLt (lLt P83_0.lt (lTr E85.1 Kc87.1)) (lEq g90.symm))) nin0)).keep Kc95 (ninS (nLt (lLt P83_0.lt (lEq g85.symm))) nin0)).ext E123).keep Kc125 (ninS (nLt (lLt (lLt P83_0.lt (lTr (lTr (lTr (lTr E85.1 Kc87.1) E90.1) Kc92.1) Kc95.1)) (lEq g123.symm))) nin0)).keep Kc128 (ninS (nLt (lLt P83_0.lt (lEq g85.symm))) (ninS (nLt (lLt (lLt P83_0.lt (lTr (lTr (lTr E85.1 Kc87.1) E90.1) Kc92.1)) P95_0)) nin0))).ext E140).keep Kc142 (ninS (nLt (lLt (lLt P83_0.lt (lTr (lTr (lTr (lTr (lTr (lTr (lTr E85.1 Kc87.1) E90.1) Kc92.1) Kc95.1) E123.1) Kc125.1) Kc128.1)) (lEq g140.symm))) nin0)).keep Kc145 (ninS (nLt (lLt P83_0.lt (lEq g85.symm))) (ninS (nLt (lLt (lLt P83_0.lt (lTr (lTr (lTr E85.1 Kc87.1) E90.1) Kc92.1)) P95_0)) nin0))).ext E149) ((((((((((((P83_2.ext E85).keep Kc87 (ninS (nLt (lLt P83_0.lt (lEq g85.symm))) nin0)).ext E90).keep Kc92 (ninS (nLt (lLt (lLt P83_0.lt (lTr E85.1 Kc87.1)) (lEq g90.symm))) nin0)).keep Kc95 (ninS (nLt (lLt P83_0.lt (lEq g85.symm))) nin0)).ext E123).keep Kc125 (ninS (nLt (lLt (lLt P83_0.lt (lTr (lTr (lTr (lTr E85.1 Kc87.1) E90.1) Kc92.1) Kc95.1)) (lEq g123.symm))) nin0)).keep Kc128 (ninS (nLt (lLt P83_0.lt (lEq g85.symm))) (ninS (nLt (lLt (lLt P83_0.lt (lTr (lTr (lTr E85.1 Kc87.1) E90.1) Kc92.1)) P95_0)) nin0))).ext E140).keep Kc142 (ninS (nLt (lLt (lLt P83_0.lt (lTr (lTr (lTr (lTr (lTr (lTr (lTr E85.1 Kc87.1) E90.1) Kc92.1) Kc95.1) E123.1) Kc125.1) Kc128.1)) (lEq g140.symm))) nin0)).keep Kc145 (ninS (nLt (lLt P83_0.lt (lEq g85.symm))) (ninS (nLt (lLt (lLt P83_0.lt (lTr (lTr (lTr E85.1 Kc87.1) E90.1) Kc92.1)) P95_0)) nin0))).ext E149) ((((((((((((P83_3.ext E85).keep Kc87 (ninS (nLt (lLt P83_3.lt (lEq g85.symm))) nin0)).ext E90).keep Kc92 (ninS (nLt (lLt (lLt P83_3.lt (lTr E85.1 Kc87.1)) (lEq g90.symm))) nin0)).keep Kc95 (ninS (nLt (lLt P83_3.lt (lEq g85.symm))) nin0)).ext E123).keep Kc125 (ninS (nLt (lLt (lLt P83_3.lt (lTr (lTr (lTr (lTr E85.1 Kc87.1) E90.1) Kc92.1) Kc95.1)) (lEq g123.symm))) nin0)).keep Kc128 (ninS (nLt (lLt P83_3.lt (lEq g85.symm))) (ninS (nLt (lLt (lLt P83_3.lt (lTr (lTr (lTr E85.1 Kc87.1) E90.1) Kc92.1)) P95_0)) nin0))).ext E140).keep Kc142 (ninS (nLt (lLt (lLt P83_3.lt (lTr (lTr (lTr (lTr (lTr (lTr (lTr E85.1 Kc87.1) E90.1) Kc92.1) Kc95.1) E123.1) Kc125.1) Kc128.1)) (lEq g140.symm))) nin0)).keep Kc145 (ninS (nLt (lLt P83_3.lt (lEq g85.symm))) (ninS (nLt (lLt (lLt P83_3.lt (lTr (lTr (lTr E85.1 Kc87.1) E90.1) Kc92.1)) P95_0)) nin0))).ext E149) (by decide) (by decide) P83_4 P83_5) hZ83 (Wd hw 110 rfl) (Wd hw 107 rfl) (by decide) (by decide) (own_EW hw) H_150 (hTK.alikeC (hZ.alike.symm.trans hZ83.alike)) (hBW.alikeC (hZ.alike.symm.trans hZ83.alike))) (g := mkF m 130 #[vi p0, vi p1, vi p2, vi p3, vi ((1 : Int32) + ((p3 &&& (3 : Int32)) % (3 : Int32))), vi (1 : Int32), vr a79, vr bS_81, vr bS_83, vr b85, .unset, .unset] [(.ref b85), (.ref b149), (.ref b149)]) rfl (by rw [hml]; rfl) (Steps.refl _) (a := b149) (argsL := [(.ref b85)]) (rest := [(.ref b149)]) (lenOf pdv39 rfl) rfl (by show 2 * 0 + _ ≤ _; exact lEq rfl) (hb hby at_130) (fun _ _ => ⟨rfl, e149, (by decide : 14 + 10 ≤ _), (by decide : 46 + 2812 ≤ _)⟩)
        dsimp only [Pt.U, Pt.locs, Pt.cells, Pt.slots] at X151' l151 y151 z151 st151 hQ151 hS151' hg151 Rs151
        subst l151 y151 z151
        obtain ⟨X151, hS151, hZ151, hown151⟩ := rebS hS83 (by rw [e149]; exact (lTr (lTr (lTr (lTr (lTr (lTr (lTr (lTr (lTr (lTr (lTr (lTr (Nat.le_refl _) E85.1) Kc87.1) E90.1) Kc92.1) Kc95.1) E123.1) Kc125.1) Kc128.1) E140.1) Kc142.1) Kc145.1) E149.1)) X151' hS151' hg151 hZ83 hown83
        obtain ⟨b_151, d_151, kd_151, rfl, N151q, Kc151, P151_0, P151_1, P151_2, P151_3, P151_4, P151_5⟩ := hQ151
        have O151 := O149.keep Kc151 (allS g_b149 all0)
        have H_152 := Rs151.1
        have R_152 := R_150.trans Rs151
        have g_d_151 : n0 ≤ d_151 := lTr (own_sz O149) P151_2
        have N151 := Fr.app N145 N151q
        obtain ⟨cq153, kq153, q153a, q153b, q153c⟩ := isOf hZ151 rfl P151_0
        obtain ⟨_, _, ⟨T153, L153, k153, n153⟩, -, X153, ⟨Lc153, hQ153, l153, y153, z153⟩, st153⟩ := X151.virtualBack hx (y := MN_66) (z := MN_66) hown151 (mvT hZ151 (Wd hw 384 rfl)) (mvT hZ151 (Wd hw 385 rfl)) (notFace_of_selects (args := #[]) (mvT hZ151 (Wd hw 387 rfl))) (mvT hZ151 (Wd hw 387 rfl)) (mvT hZ151 (Wd hw 386 rfl)) (by decide) (backOf (W := 0) (rmPn l Z a0 hw [] cS aDE kDE aUS aSS aIE mO b149 b_151 d_151 kd_151 b90 b123 b140 a79 (T151.heap) n0 O151 GL P151_3 P151_4 P151_5 P151_1 (((((((((P92_0.keep Kc95).ext E123).keep Kc125).keep Kc128).ext E140).keep Kc142).keep Kc145).ext E149).keep Kc151) (((((((((P92_1.keep Kc95 (ninS (Ne.symm (nLt (lLt (lLt A85.lt Kc87.1) (lEq g90.symm)))) nin0)).ext E123).keep Kc125 (ninS (nLt (lLt (lLt A90.lt (lTr Kc92.1 Kc95.1)) (lEq g123.symm))) nin0)).keep Kc128 (ninS (Ne.symm (nLt (lLt (lLt A85.lt Kc87.1) (lEq g90.symm)))) (ninS (nLt (lLt (lLt A90.lt Kc92.1) P95_0)) nin0))).ext E140).keep Kc142 (ninS (nLt (lLt (lLt A90.lt (lTr (lTr (lTr (lTr Kc92.1 Kc95.1) E123.1) Kc125.1) Kc128.1)) (lEq g140.symm))) nin0)).keep Kc145 (ninS (Ne.symm (nLt (lLt (lLt A85.lt Kc87.1) (lEq g90.symm)))) (ninS (nLt (lLt (lLt A90.lt Kc92.1) P95_0)) nin0))).ext E149).keep Kc151 (ninS (nLt (lLt (lLt A90.lt (lTr (lTr (lTr (lTr (lTr (lTr (lTr Kc92.1 Kc95.1) E123.1) Kc125.1) Kc128.1) E140.1) Kc142.1) Kc145.1)) (lEq g149.symm))) nin0))) hZ151 (Wd hw 388 rfl) (Wd hw 107 rfl) (by decide) (by decide)) q153a q153c (g := mkF m 137 #[vi p0, vi p1, vi p2, vi p3, vi ((1 : Int32) + ((p3 &&& (3 : Int32)) % (3 : Int32))), vi (1 : Int32), vr a79, vr bS_81, vr bS_83, vr b85, vr b149, .unset] [(.ref b149)]) rfl (by rw [hml]; rfl) (Steps.refl _) (argsL := []) (rest := []) (lenOf pdv20 rfl) rfl (by show 2 * 0 + _ ≤ _; exact lEq rfl) (hb hby at_137) (fun _ _ => ⟨rfl, rfl, (by decide : 24 + 0 ≤ _), (by decide : 2858 + 0 ≤ _)⟩)
        dsimp only [Pt.U, Pt.locs, Pt.cells, Pt.slots] at X153 l153 y153 z153 st153 hQ153
        subst l153 y153 z153
        obtain ⟨rfl, N153q, e153⟩ := hQ153
        have N153 := Fr.app N151 N153q
        obtain ⟨cq154, kq154, q154a, q154b, q154c⟩ := isOf hZ151 e153 (((((((((((((((A79.keep Kc81).keep Kc83).ext E85).keep Kc87).ext E90).keep Kc92).keep Kc95).ext E123).keep Kc125).keep Kc128).ext E140).keep Kc142).keep Kc145).ext E149).keep Kc151)
        obtain ⟨_, _, ⟨T154, L154, k154, n154⟩, -, X154, ⟨Lc154, hQ154, l154, y154, z154⟩, st154⟩ := X153.virtualBack hx (y := MN_67) (z := MN_67) hown151 (mvT hZ151 (Wd hw 400 rfl)) (mvT hZ151 (Wd hw 401 rfl)) (notFace_of_selects (args := #[]) (mvT hZ151 (Wd hw 403 rfl))) (mvT hZ151 (Wd hw 403 rfl)) (mvT hZ151 (Wd hw 402 rfl)) (by decide) (backOf (W := 0) (rmEq l Z a0 hw [] cS aDE kDE aUS aSS aIE mO a79 (T151.heap) n0 O151 GL) hZ151 (Wd hw 404 rfl) (Wd hw 7 rfl) (by decide) (by decide)) q154a q154c (g := mkF m 151 #[vi p0, vi p1, vi p2, vi p3, vi ((1 : Int32) + ((p3 &&& (3 : Int32)) % (3 : Int32))), vi (1 : Int32), vr a79, vr bS_81, vr bS_83, vr b85, vr b149, vr a79] [(.ref a79), (.ref a79)]) rfl (by rw [hml]; rfl) (Steps.refl _) (argsL := [(.ref a79)]) (rest := []) (lenOf pdv38 rfl) rfl (by show 2 * 0 + _ ≤ _; exact lEq rfl) (hb hby at_151) (fun _ _ => ⟨rfl, e153, (by decide : 24 + 0 ≤ _), (by decide : 2858 + 0 ≤ _)⟩)
        dsimp only [Pt.U, Pt.locs, Pt.cells, Pt.slots] at X154 l154 y154 z154 st154 hQ154
        subst l154 y154 z154
        obtain ⟨rfl, N154q, e154⟩ := hQ154
        have N154 := Fr.app N153 N154q
        obtain ⟨fs, hr, hrun, hended, hRW⟩ := X154.leaveW hS151 (by rw [e154]; exact (Nat.le_refl _)) (v := some (.int 1)) (fun h => by rw [Bd.returns] at h; cases h)
        have hCR : CHr Z EL1 s.vm s.heap T154.vm T154.heap := by
          rw [hh, e154]
          exact R_152.trans (CHv.at X154 hZ151 (own_EW hw) H_152)
        refine ⟨_, _, pre133 _ ?_, hrun, hended, _, _, rfl, ?_, hCR, hRW.1, hRW.2.1, hRW.2.2.1, hRW.2.2.2.mono (by decide) (by decide)⟩
        · show SP p e below T128 m 104 #[vi p0, vi p1, vi p2, vi p3, vi ((1 : Int32) + ((p3 &&& (3 : Int32)) % (3 : Int32))), vi (1 : Int32), vr a79, vr bS_81, vr bS_83, vr b85, .unset, .unset] [(.int 3), (.int ((1 : Int32) + ((p3 &&& (3 : Int32)) % (3 : Int32))))] _
          refine XS.icmpNo X128.here hx rfl (hb hby at_104) rfl (flt hc104_132).1 ?_
          refine XS.aload X128.here hx rfl (hb hby at_107) rfl rfl ?_
          show SP p e below T128 m 109 #[vi p0, vi p1, vi p2, vi p3, vi ((1 : Int32) + ((p3 &&& (3 : Int32)) % (3 : Int32))), vi (1 : Int32), vr a79, vr bS_81, vr bS_83, vr b85, .unset, .unset] [(.ref b85)] _
          refine st140 _ ?_
          show SP p e below T140 m 112 #[vi p0, vi p1, vi p2, vi p3, vi ((1 : Int32) + ((p3 &&& (3 : Int32)) % (3 : Int32))), vi (1 : Int32), vr a79, vr bS_81, vr bS_83, vr b85, .unset, .unset] [(.ref b140), (.ref b85)] _
          refine XS.dup X140.here hx rfl (hb hby at_112) rfl rfl ?_
          refine XS.aload X140.here hx rfl (hb hby at_113) rfl rfl ?_
          refine XS.aload X140.here hx rfl (hb hby at_115) rfl rfl ?_
          show SP p e below T140 m 117 #[vi p0, vi p1, vi p2, vi p3, vi ((1 : Int32) + ((p3 &&& (3 : Int32)) % (3 : Int32))), vi (1 : Int32), vr a79, vr bS_81, vr bS_83, vr b85, .unset, .unset] [(.ref bS_81), (.ref bS_83), (.ref b140), (.ref b140), (.ref b85)] _
          refine st142.trans ?_
          show SP p e below T142 m 120 #[vi p0, vi p1, vi p2, vi p3, vi ((1 : Int32) + ((p3 &&& (3 : Int32)) % (3 : Int32))), vi (1 : Int32), vr a79, vr bS_81, vr bS_83, vr b85, .unset, .unset] [(.ref b140), (.ref b85)] _
          refine st145.trans ?_
          show SP p e below T145 m 123 #[vi p0, vi p1, vi p2, vi p3, vi ((1 : Int32) + ((p3 &&& (3 : Int32)) % (3 : Int32))), vi (1 : Int32), vr a79, vr bS_81, vr bS_83, vr b85, .unset, .unset] [(.int 1)] _
          refine XS.pop X145.here hx rfl (hb hby at_123) rfl rfl ?_
          show SP p e below T145 m 124 #[vi p0, vi p1, vi p2, vi p3, vi ((1 : Int32) + ((p3 &&& (3 : Int32)) % (3 : Int32))), vi (1 : Int32), vr a79, vr bS_81, vr bS_83, vr b85, .unset, .unset] [] _
          refine st149 _ ?_
          show SP p e below T149 m 127 #[vi p0, vi p1, vi p2, vi p3, vi ((1 : Int32) + ((p3 &&& (3 : Int32)) % (3 : Int32))), vi (1 : Int32), vr a79, vr bS_81, vr bS_83, vr b85, .unset, .unset] [(.ref b149)] _
          refine XS.dup X149.here hx rfl (hb hby at_127) rfl rfl ?_
          refine XS.aload X149.here hx rfl (hb hby at_128) rfl rfl ?_
          show SP p e below T149 m 130 #[vi p0, vi p1, vi p2, vi p3, vi ((1 : Int32) + ((p3 &&& (3 : Int32)) % (3 : Int32))), vi (1 : Int32), vr a79, vr bS_81, vr bS_83, vr b85, .unset, .unset] [(.ref b85), (.ref b149), (.ref b149)] _
          refine st151.trans ?_
          show SP p e below T151 m 133 #[vi p0, vi p1, vi p2, vi p3, vi ((1 : Int32) + ((p3 &&& (3 : Int32)) % (3 : Int32))), vi (1 : Int32), vr a79, vr bS_81, vr bS_83, vr b85, .unset, .unset] [(.ref b149)] _
          refine XS.astore X151.here hx rfl (hb hby at_133) rfl rfl (l' := #[vi p0, vi p1, vi p2, vi p3, vi ((1 : Int32) + ((p3 &&& (3 : Int32)) % (3 : Int32))), vi (1 : Int32), vr a79, vr bS_81, vr bS_83, vr b85, vr b149, .unset]) rfl ?_
          refine XS.aload X151.here hx rfl (hb hby at_135) rfl rfl ?_
          show SP p e below T151 m 137 #[vi p0, vi p1, vi p2, vi p3, vi ((1 : Int32) + ((p3 &&& (3 : Int32)) % (3 : Int32))), vi (1 : Int32), vr a79, vr bS_81, vr bS_83, vr b85, vr b149, .unset] [(.ref b149)] _
          refine st153.trans ?_
          show SP p e below T153 m 140 #[vi p0, vi p1, vi p2, vi p3, vi ((1 : Int32) + ((p3 &&& (3 : Int32)) % (3 : Int32))), vi (1 : Int32), vr a79, vr bS_81, vr bS_83, vr b85, vr b149, .unset] [(.ref a79)] _
          refine XS.astore X153.here hx rfl (hb hby at_140) rfl rfl (l' := #[vi p0, vi p1, vi p2, vi p3, vi ((1 : Int32) + ((p3 &&& (3 : Int32)) % (3 : Int32))), vi (1 : Int32), vr a79, vr bS_81, vr bS_83, vr b85, vr b149, vr a79]) rfl ?_
          refine XS.aload X153.here hx rfl (hb hby at_142) rfl rfl ?_
          refine XS.ifnullNo X153.here hx rfl (hb hby at_144) rfl ?_
          refine XS.aload X153.here hx rfl (hb hby at_147) rfl rfl ?_
          refine XS.aload X153.here hx rfl (hb hby at_149) rfl rfl ?_
          show SP p e below T153 m 151 #[vi p0, vi p1, vi p2, vi p3, vi ((1 : Int32) + ((p3 &&& (3 : Int32)) % (3 : Int32))), vi (1 : Int32), vr a79, vr bS_81, vr bS_83, vr b85, vr b149, vr a79] [(.ref a79), (.ref a79)] _
          refine st154.trans ?_
          show SP p e below T154 m 154 #[vi p0, vi p1, vi p2, vi p3, vi ((1 : Int32) + ((p3 &&& (3 : Int32)) % (3 : Int32))), vi (1 : Int32), vr a79, vr bS_81, vr bS_83, vr b85, vr b149, vr a79] [(.int 1)] _
          refine XS.ifNo X154.here hx rfl (hb hby at_154) rfl ((if0 _ _).trans (feq (by decide : ¬ ((1 : Int32) = (0 : Int32)))).1) ?_
          refine XS.iconst X154.here hx rfl (hb hby at_157) ?_
          refine XS.goto X154.here hx rfl (pc0 := 158) (pc' := 162) rfl (hb hby at_158) (by decide) (by decide) ?_
          show SP p e below T154 m 162 #[vi p0, vi p1, vi p2, vi p3, vi ((1 : Int32) + ((p3 &&& (3 : Int32)) % (3 : Int32))), vi (1 : Int32), vr a79, vr bS_81, vr bS_83, vr b85, vr b149, vr a79] [(.int 1)] _
          exact retN X154 hx (t := .boolean) Bd.returns (by simp) (hb hby at_162) hr
        · show Q_rm0 n0 _ T154.heap _
          rw [e154]
          exact ⟨rfl, N154⟩
theorem comes_1 {Post : Tables → Env → Array Value → State → Outcome → State → Prop} (hpost : ∀ tb e args s v u, (limb_1_1.after args s (.returned v) u = true ∧ limb_1_2.after args s (.returned v) u = true ∧ True) → ReturnedEndW s (.returned v) u (Jvm.fieldLocs frame_1_writes args s ++ Jvm.arrayLocs frame_1_arrays args s ++ Jvm.staticLocs frame_1_statics s) 64 7808 → Post tb e args s (.returned v) u) :
    ArmFor flags0 classFile x code maxLocals ret World_1 tables_1 room_1 Calls_1 rest_1 Pre_1 Post := by
  intro l hfl _ _ p e ha hc hk s m args below hf hA hF happ hP
  obtain ⟨hcalls, hrest, hpre⟩ := hP
  obtain ⟨-, -, -, hnamed, -, -, -, hat⟩ := (Spec.applies_iff hf).mp happ
  obtain ⟨hg, hn⟩ := and_e (Cond.before_iff.mp (show (Jvm.Cond.and given_1 narrow_1).before args s = true from hpre))
  obtain ⟨gv_l0, gv_r0⟩ := and_e hg
  obtain ⟨gv_l2, gv_r2⟩ := and_e gv_r0
  obtain ⟨gv_l4, gv_r4⟩ := and_e gv_r2
  obtain ⟨gv_l6, gv_r6⟩ := and_e gv_r4
  obtain ⟨w0, w1, w2, w3, rfl⟩ : ∃ w0 w1 w2 w3 : Value, args = #[w0, w1, w2, w3] := by
    have hs : args.size = 4 := by simpa [Cond.value, given_1] using gv_l0
    obtain ⟨L⟩ := args
    match L, hs with
    | [w0, w1, w2, w3], _ => exact ⟨w0, w1, w2, w3, rfl⟩
  have hw := fun d (hd : d ∈ tables_1) => atoms_spec (ws := Jvm.Cond.code x code maxLocals ret :: tables_1) hat d (List.mem_cons_of_mem _ hd)
  have hfit : Fit s := fun {y c} hc i hi => by
    obtain ⟨ha, rfl⟩ := Array.getElem?_eq_some_iff.mp hc
    have q := List.all_eq_true.mp ((Array.all_eq_true_iff_forall_mem.mp hF) _ (Array.getElem_mem ha)) i (List.mem_range.mpr hi)
    simpa [Array.getElem?_eq_getElem hi] using q
  obtain ⟨hsets, hown0⟩ := atoms_of _ (rest_1_c_eq ▸ (show rest_1_c.before _ s = true from hrest))
  have hr0 := Cond.before_iff.mp hown0
  obtain ⟨i0, ei0⟩ := is_v gv_l2
  obtain rfl : w0 = (.int i0) := Option.some.inj ei0
  obtain ⟨i1, ei1⟩ := is_v gv_l4
  obtain rfl : w1 = (.int i1) := Option.some.inj ei1
  obtain ⟨i2, ei2⟩ := is_v gv_l6
  obtain rfl : w2 = (.int i2) := Option.some.inj ei2
  obtain ⟨i3, ei3⟩ := is_v gv_r6
  obtain rfl : w3 = (.int i3) := Option.some.inj ei3
  obtain ⟨cS, eCS⟩ := is_v (Cond.before_iff.mp (hsets _ (List.mem_of_getElem? (i := 1) rfl)))
  have SCS := Sta.start eCS (Or.inl (hsets _ (List.mem_of_getElem? (i := 0) rfl)))
  have PCS : ¬ (cS = (0 : Int32)) := gotF (Cond.eq_ints eCS (Term.int_eval (0 : Int32))) (not_v (Cond.before_iff.mp (hsets _ (List.mem_of_getElem? (i := 2) rfl))))
  obtain ⟨aDE, vDE⟩ := arr_v (Cond.before_iff.mp (hsets _ (List.mem_of_getElem? (i := 15) rfl)))
  obtain ⟨cDE, ADE⟩ := Arr.start vDE (Cond.before_iff.mp (hsets _ (List.mem_of_getElem? (i := 15) rfl)))
  obtain ⟨zDE, lDE⟩ := own_len ADE vDE (Cond.before_iff.mp (hsets _ (List.mem_of_getElem? (i := 17) rfl)))
  have VDE : Arv s s.heap aDE cDE.cls (.object "java/lang/Object") (0 : Int32) [] .null := Arv.start hfit ADE zDE lDE (by decide) rfl trivial
  obtain ⟨aIE, vIE⟩ := exa_v (Cond.before_iff.mp (hsets _ (List.mem_of_getElem? (i := 40) rfl)))
  obtain ⟨mc, mk, mO, mq1, mq2, mq3, mq4⟩ := hcalls.2.2.1
  obtain ⟨aUS, vUS⟩ := arr_v (Cond.before_iff.mp (hsets _ (List.mem_of_getElem? (i := 26) rfl)))
  obtain ⟨aSS, vSS⟩ := exa_v (Cond.before_iff.mp (hsets _ (List.mem_of_getElem? (i := 31) rfl)))
  have GL : GF s cS aDE cDE.cls aUS aSS aIE mO := ⟨SCS, PCS, Sta.start vDE (Or.inr ⟨(Wd hw 36 rfl), (hsets _ (List.mem_of_getElem? (i := 11) rfl))⟩), VDE, Sta.start vUS (Or.inl (hsets _ (List.mem_of_getElem? (i := 24) rfl))), Sta.start vSS (Or.inl (hsets _ (List.mem_of_getElem? (i := 29) rfl))), Sta.start vIE (Or.inl (hsets _ (List.mem_of_getElem? (i := 39) rfl))), ⟨mc, mk, mq1, mq2, mq3, mq4⟩⟩
  have H0 : CHv s EL1 s.vm s.heap := CHv.start (own_EW hw) hcalls.2.2.2.1 (hsets _ (List.mem_of_getElem? (i := 2) rfl)) (Wd hw 23 rfl) (Wd hw 6 rfl)
  have hlt : l.stackTraces = true := by unfold Launch.stackTraces; rw [hfl]; decide
  obtain ⟨n, o, h1, h2, h3, _, L, rfl, ⟨rfl, N⟩, -, hq⟩ := rm0 l s _ hw tables_1 hlt cS aDE cDE.cls aUS aSS aIE mO i0 i1 i2 i3 s.heap s.heap.size (Old.start s) GL p e ha hc hk s m _ below hf ((Spec.applies_iff_loose hf).mp happ).1 ⟨rfl, State.Warmed39.refl s, rfl, H0⟩ ⟨MethodsKnown_of_tablesKnown hcalls.2.1, FramesKnown_of_framesKnown hcalls.1 hf⟩
  refine ⟨n, _, h1, h2, h3, hpost _ _ _ _ _ _ ⟨Cond.after_iff.mpr rfl, Cond.after_iff.mpr (eq_i res_at (Term.int_eval 1) rfl), trivial⟩ ⟨hq.1, hq.2.1, hq.2.2.1, (hq.2.2.2.sift fun y hy => Or.inr (N y hy)).mono (by decide) (by decide)⟩⟩
theorem main_1_1 : Claimed_1_1 := comes_1 fun _ _ _ _ _ _ h hF => ⟨h.1, hF⟩
theorem main_1_2 : Claimed_1_2 := comes_1 fun _ _ _ _ _ _ h hF => ⟨h.2.1, hF⟩
end Jvm.Pilot.@@N@@
namespace Jvm.Pilot.@@N@@
open Jvm Jvm.ClassFile Sem Op Lib Jvm.Free Jvm.Stand Jvm.Pilot.@@N@@.Jvm.D
/-! MADE BY PROGRAM (witnessworld.py) out of the Statement's table words and the real class files: 51 classes; the members and pool entries that the words name. The judged class is class 1, her method 2. -/
namespace start1
open Jvm.ClassFile
def u (s : String) : CpInfo := .utf8 (stringToUtf16 s)
/-- a pool by its gaps: so many unusable entries, then the entry; so many at the end -/
def gap : Nat → List CpInfo → List CpInfo
  | 0, r => r
  | n + 1, r => .unusable :: gap n r
def poolList (es : List (Nat × CpInfo)) (last : Nat) : List CpInfo := es.foldr (fun e r => gap e.1 (e.2 :: r)) (gap last [])
def pool (es : List (Nat × CpInfo)) (last : Nat) : Array CpInfo := ⟨poolList es last⟩
def fileOf (pool : Array CpInfo) (this : Nat) (attrs : Array Attribute := #[]) (ms : Array MethodInfo := #[]) (fl : Nat := 33) (sup : Nat := 0) (ifs : Array Nat := #[]) (fds : Array FieldInfo := #[]) : ClassFile where
  minorVersion := 0
  majorVersion := 65
  constantPool := pool
  accessFlags := fl
  thisClass := this
  superClass := sup
  interfaces := ifs
  fields := fds
  methods := ms
  attributes := attrs
def plain (name : String) (sup : Option ClassId) : Class where
  name := name
  kind := .ordinary
  loader := none
  accessFlags := 33
  super := sup
  interfaces := #[]
  cf := none
  fields := #[]
  methods := #[]
  instanceTypes := #[]
  staticTypes := #[]
  resolved := #[]
  callSites := []
  init := .initialized
  statics := none
  mirror := none

def pool0 : Array CpInfo := pool [(5, u "<init>"), (0, u "()V"), (1, .class_ 10), (1, u "java/lang/Object"), (0, u "getClass"), (0, u "()Ljava/lang/Class;")] 111

def k0c0 : Code := { maxStack := 0, maxLocals := 1, code := object_method_1_code, exceptionTable := #[], attributes := #[] }
def k0m0 : Method := { name := "<init>", desc := "()V", sig := { parameters := [], returnType := none }, accessFlags := 1, code := some k0c0 }
def k0m1 : Method := { name := "getClass", desc := "()Ljava/lang/Class;", sig := { parameters := [], returnType := some (.object "java/lang/Class") }, accessFlags := 273, code := none }
/-- java/lang/Object -/
def k0 : Class := { plain "java/lang/Object" none with
  accessFlags := 33
  interfaces := #[]
  cf := some (fileOf pool0 8 #[] #[{ accessFlags := 1, nameIndex := 5, descriptorIndex := 6, attributes := #[] }, { accessFlags := 273, nameIndex := 11, descriptorIndex := 12, attributes := #[] }] 33 0 #[] #[])
  fields := #[]
  methods := #[k0m0, k0m1]
  instanceTypes := #[]
  staticTypes := #[]
  resolved := Array.replicate 124 none
  statics := none }

def pool1 : Array CpInfo := pool [(2, .class_ 4), (0, .nameAndType 5 6), (0, u "java/lang/Object"), (0, u "<init>"), (0, u "()V"), (0, .class_ 8), (0, u "java/lang/String"), (0, .methodref 7 10), (0, .nameAndType 5 11), (0, u "([C)V"), (0, .string 13), (0, u ""), (0, .methodref 15 16), (0, .class_ 17), (0, .nameAndType 18 19), (0, u "com/example/grantline/grantline/PolicyExceptionPointerPinLaw"), (0, u "str"), (0, u "(I)Ljava/lang/String;"), (0, .class_ 21), (0, u "java/util/ArrayList"), (0, .methodref 20 3), (0, .class_ 24), (0, u "com/example/grantline/grantline/PolicyException$Problem"), (0, .methodref 23 26), (0, .nameAndType 5 27), (0, u "(Ljava/lang/String;Ljava/lang/String;)V"), (0, .methodref 20 29), (0, .nameAndType 30 31), (0, u "add"), (0, u "(Ljava/lang/Object;)Z"), (0, .class_ 33), (0, u "com/example/grantline/grantline/PolicyException"), (0, .methodref 32 35), (0, .nameAndType 5 36), (0, u "(Ljava/util/List;)V"), (0, .methodref 32 38), (0, .nameAndType 39 40), (0, u "pointer"), (0, u "()Ljava/lang/String;"), (0, .methodref 7 42), (0, .nameAndType 43 31), (0, u "equals"), (2, u "law"), (0, u "(IIII)Z")] 5

def k1m0 : Method := { name := "<init>", desc := "()V", sig := { parameters := [], returnType := none }, accessFlags := 2, code := none }
def k1c1 : Code := { maxStack := 4, maxLocals := 2, code := method_2_code, exceptionTable := #[], attributes := #[] }
def k1m1 : Method := { name := "str", desc := "(I)Ljava/lang/String;", sig := { parameters := [.int], returnType := some (.object "java/lang/String") }, accessFlags := 10, code := some k1c1 }
def k1c2 : Code := { maxStack := 5, maxLocals := 12, code := code, exceptionTable := #[], attributes := #[] }
def k1m2 : Method := { name := "law", desc := "(IIII)Z", sig := { parameters := [.int, .int, .int, .int], returnType := some .boolean }, accessFlags := 9, code := some k1c2 }
/-- com/example/grantline/grantline/PolicyExceptionPointerPinLaw -/
def k1 : Class := { plain "com/example/grantline/grantline/PolicyExceptionPointerPinLaw" (some 0) with
  accessFlags := 49
  interfaces := #[]
  cf := some (fileOf pool1 15 #[] #[{ accessFlags := 2, nameIndex := 5, descriptorIndex := 6, attributes := #[] }, { accessFlags := 10, nameIndex := 18, descriptorIndex := 19, attributes := #[] }, { accessFlags := 9, nameIndex := 46, descriptorIndex := 47, attributes := #[] }] 49 2 #[] #[])
  fields := #[]
  methods := #[k1m0, k1m1, k1m2]
  instanceTypes := #[]
  staticTypes := #[]
  resolved := Array.replicate 53 none
  statics := none }

def pool2 : Array CpInfo := pool [(1, .class_ 2), (0, u "java/io/Serializable"), (0, .class_ 4), (0, u "java/lang/Object")] 2

/-- java/io/Serializable -/
def k2 : Class := { plain "java/io/Serializable" (some 0) with
  accessFlags := 1537
  interfaces := #[]
  cf := some (fileOf pool2 1 #[] #[] 1537 3 #[] #[])
  fields := #[]
  methods := #[]
  instanceTypes := #[]
  staticTypes := #[]
  resolved := Array.replicate 7 none
  statics := none }

def pool3 : Array CpInfo := pool [(1, .class_ 2), (0, u "java/lang/Comparable"), (0, .class_ 4), (0, u "java/lang/Object")] 7

/-- java/lang/Comparable -/
def k3 : Class := { plain "java/lang/Comparable" (some 0) with
  accessFlags := 1537
  interfaces := #[]
  cf := some (fileOf pool3 1 #[] #[] 1537 3 #[] #[])
  fields := #[]
  methods := #[]
  instanceTypes := #[]
  staticTypes := #[]
  resolved := Array.replicate 12 none
  statics := none }

def pool4 : Array CpInfo := pool [(2, .class_ 4), (1, u "java/lang/CharSequence"), (42, .class_ 48), (0, u "java/lang/CharSequence$1CodePointIterator"), (10, .class_ 60), (0, u "java/lang/CharSequence$1CharIterator"), (5, .class_ 67), (0, u "java/lang/Object")] 63

/-- java/lang/CharSequence -/
def k4 : Class := { plain "java/lang/CharSequence" (some 0) with
  accessFlags := 1537
  interfaces := #[]
  cf := some (fileOf pool4 2 #[.nestMembers #[47, 59]] #[] 1537 66 #[] #[])
  fields := #[]
  methods := #[]
  instanceTypes := #[]
  staticTypes := #[]
  resolved := Array.replicate 131 none
  statics := none }

def pool5 : Array CpInfo := pool [(1, .class_ 2), (0, u "java/lang/constant/Constable"), (0, .class_ 4), (0, u "java/lang/Object")] 6

/-- java/lang/constant/Constable -/
def k5 : Class := { plain "java/lang/constant/Constable" (some 0) with
  accessFlags := 1537
  interfaces := #[]
  cf := some (fileOf pool5 1 #[] #[] 1537 3 #[] #[])
  fields := #[]
  methods := #[]
  instanceTypes := #[]
  staticTypes := #[]
  resolved := Array.replicate 11 none
  statics := none }

def pool6 : Array CpInfo := pool [(1, .class_ 2), (0, u "java/lang/constant/ConstantDesc"), (0, .class_ 4), (0, u "java/lang/Object")] 32

/-- java/lang/constant/ConstantDesc -/
def k6 : Class := { plain "java/lang/constant/ConstantDesc" (some 0) with
  accessFlags := 1537
  interfaces := #[]
  cf := some (fileOf pool6 1 #[] #[] 1537 3 #[] #[])
  fields := #[]
  methods := #[]
  instanceTypes := #[]
  staticTypes := #[]
  resolved := Array.replicate 37 none
  statics := none }

def pool7 : Array CpInfo := pool [(1, .methodref 2 3), (0, .class_ 4), (0, .nameAndType 5 6), (0, u "java/lang/Object"), (0, u "<init>"), (0, u "()V"), (2, .fieldref 10 11), (0, .class_ 12), (0, .nameAndType 13 14), (0, u "java/lang/String"), (0, u "value"), (0, u "[B"), (0, .fieldref 10 16), (0, .nameAndType 17 18), (0, u "coder"), (0, u "B"), (2, u "hash"), (0, u "I"), (2, u "hashIsZero"), (0, u "Z"), (0, .methodref 10 28), (0, .nameAndType 5 29), (0, u "([CIILjava/lang/Void;)V"), (8, .fieldref 10 39), (0, .nameAndType 40 26), (0, u "COMPACT_STRINGS"), (1, .class_ 44), (1, u "java/lang/StringUTF16"), (0, u "compress"), (1, .methodref 42 48), (0, .nameAndType 49 50), (0, u "coderFromArrayLen"), (0, u "([BI)B"), (3, .methodref 55 56), (0, .class_ 57), (0, .nameAndType 58 59), (0, u "java/util/Arrays"), (0, u "copyOfRange"), (0, u "([BII)[B"), (82, u "()Z"), (34, .methodref 42 178), (0, .nameAndType 45 179), (0, u "([CII)[B"), (13, .class_ 195), (1, u "java/lang/System"), (16, .methodref 193 213), (0, .nameAndType 214 215), (0, u "arraycopy"), (0, u "(Ljava/lang/Object;ILjava/lang/Object;II)V"), (118, u "()I"), (0, .methodref 10 336), (0, .nameAndType 17 337), (0, u "()B"), (2, u "()[B"), (148, .methodref 10 490), (0, .nameAndType 5 491), (0, u "(Ljava/lang/AbstractStringBuilder;Ljava/lang/Void;)V"), (1, .nameAndType 494 142), (0, u "isLatin1"), (11, .nameAndType 507 334), (0, u "length"), (24, u "getBytes"), (10, u "equals"), (5, .methodref 550 506), (0, .class_ 551), (0, u "java/lang/AbstractStringBuilder"), (0, .methodref 550 553), (0, .nameAndType 554 340), (0, u "getValue"), (18, u "(Ljava/lang/Object;)Z"), (1, .class_ 576), (0, u "java/lang/CharSequence"), (22, u "CASE_INSENSITIVE_ORDER"), (0, u "Ljava/util/Comparator;"), (220, u "([BIB)V"), (188, u "([C)V"), (36, .methodref 550 493), (53, u "serialPersistentFields"), (0, u "[Ljava/io/ObjectStreamField;"), (0, .class_ 1104), (0, u "java/lang/String$CaseInsensitiveComparator"), (1, .class_ 1107), (0, u "java/io/Serializable"), (0, .class_ 1109), (0, u "java/lang/Comparable"), (0, .class_ 1111), (0, u "java/lang/constant/Constable"), (0, .class_ 1113), (0, u "java/lang/constant/ConstantDesc"), (2, u "serialVersionUID"), (0, u "J"), (3, u "REPL"), (0, u "C"), (2, u "LATIN1"), (1, u "UTF16"), (105, u "(Ljava/lang/StringBuilder;)V")] 217

def k7m0 : Method := { name := "<init>", desc := "()V", sig := { parameters := [], returnType := none }, accessFlags := 1, code := none }
def k7c1 : Code := { maxStack := 5, maxLocals := 2, code := jdk_42_method_3_code, exceptionTable := #[], attributes := #[] }
def k7m1 : Method := { name := "<init>", desc := "([C)V", sig := { parameters := [(.array .char)], returnType := none }, accessFlags := 1, code := some k7c1 }
def k7c2 : Code := { maxStack := 3, maxLocals := 2, code := jdk_42_method_53_code, exceptionTable := #[], attributes := #[] }
def k7m2 : Method := { name := "<init>", desc := "(Ljava/lang/StringBuilder;)V", sig := { parameters := [(.object "java/lang/StringBuilder")], returnType := none }, accessFlags := 1, code := some k7c2 }
def k7c3 : Code := { maxStack := 2, maxLocals := 1, code := jdk_42_method_54_code, exceptionTable := #[], attributes := #[] }
def k7m3 : Method := { name := "length", desc := "()I", sig := { parameters := [], returnType := some .int }, accessFlags := 1, code := some k7c3 }
def k7c4 : Code := { maxStack := 2, maxLocals := 3, code := jdk_42_method_66_code, exceptionTable := #[], attributes := #[] }
def k7m4 : Method := { name := "equals", desc := "(Ljava/lang/Object;)Z", sig := { parameters := [(.object "java/lang/Object")], returnType := some .boolean }, accessFlags := 1, code := some k7c4 }
def k7c5 : Code := { maxStack := 5, maxLocals := 4, code := jdk_42_method_147_code, exceptionTable := #[], attributes := #[] }
def k7m5 : Method := { name := "getBytes", desc := "([BIB)V", sig := { parameters := [(.array .byte), .int, .byte], returnType := none }, accessFlags := 0, code := some k7c5 }
def k7c6 : Code := { maxStack := 4, maxLocals := 6, code := jdk_42_method_149_code, exceptionTable := #[], attributes := #[] }
def k7m6 : Method := { name := "<init>", desc := "([CIILjava/lang/Void;)V", sig := { parameters := [(.array .char), .int, .int, (.object "java/lang/Void")], returnType := none }, accessFlags := 2, code := some k7c6 }
def k7c7 : Code := { maxStack := 5, maxLocals := 5, code := jdk_42_method_150_code, exceptionTable := #[], attributes := #[] }
def k7m7 : Method := { name := "<init>", desc := "(Ljava/lang/AbstractStringBuilder;Ljava/lang/Void;)V", sig := { parameters := [(.object "java/lang/AbstractStringBuilder"), (.object "java/lang/Void")], returnType := none }, accessFlags := 0, code := some k7c7 }
def k7c8 : Code := { maxStack := 1, maxLocals := 1, code := jdk_42_method_152_code, exceptionTable := #[], attributes := #[] }
def k7m8 : Method := { name := "coder", desc := "()B", sig := { parameters := [], returnType := some .byte }, accessFlags := 0, code := some k7c8 }
/-- java/lang/String -/
def k7 : Class := { plain "java/lang/String" (some 0) with
  accessFlags := 49
  interfaces := #[2, 3, 4, 5, 6]
  cf := some (fileOf pool7 10 #[.nestMembers #[1103]] #[{ accessFlags := 1, nameIndex := 5, descriptorIndex := 6, attributes := #[] }, { accessFlags := 1, nameIndex := 5, descriptorIndex := 1010, attributes := #[] }, { accessFlags := 1, nameIndex := 5, descriptorIndex := 1233, attributes := #[] }, { accessFlags := 1, nameIndex := 507, descriptorIndex := 334, attributes := #[] }, { accessFlags := 1, nameIndex := 543, descriptorIndex := 573, attributes := #[] }, { accessFlags := 0, nameIndex := 532, descriptorIndex := 821, attributes := #[] }, { accessFlags := 2, nameIndex := 5, descriptorIndex := 29, attributes := #[] }, { accessFlags := 0, nameIndex := 5, descriptorIndex := 491, attributes := #[] }, { accessFlags := 0, nameIndex := 17, descriptorIndex := 337, attributes := #[] }] 49 2 #[1106, 1108, 575, 1110, 1112] #[{ accessFlags := 18, nameIndex := 13, descriptorIndex := 14, attributes := #[] }, { accessFlags := 18, nameIndex := 17, descriptorIndex := 18, attributes := #[] }, { accessFlags := 2, nameIndex := 21, descriptorIndex := 22, attributes := #[] }, { accessFlags := 2, nameIndex := 25, descriptorIndex := 26, attributes := #[] }, { accessFlags := 26, nameIndex := 1116, descriptorIndex := 1117, attributes := #[] }, { accessFlags := 24, nameIndex := 40, descriptorIndex := 26, attributes := #[] }, { accessFlags := 26, nameIndex := 1101, descriptorIndex := 1102, attributes := #[] }, { accessFlags := 26, nameIndex := 1121, descriptorIndex := 1122, attributes := #[] }, { accessFlags := 25, nameIndex := 599, descriptorIndex := 600, attributes := #[] }, { accessFlags := 24, nameIndex := 1125, descriptorIndex := 18, attributes := #[] }, { accessFlags := 24, nameIndex := 1127, descriptorIndex := 18, attributes := #[] }])
  fields := #[{ name := "value", type := (.array .byte), accessFlags := 18, slot := 0, constantValue := 0 }, { name := "coder", type := .byte, accessFlags := 18, slot := 1, constantValue := 0 }, { name := "hash", type := .int, accessFlags := 2, slot := 2, constantValue := 0 }, { name := "hashIsZero", type := .boolean, accessFlags := 2, slot := 3, constantValue := 0 }, { name := "serialVersionUID", type := .long, accessFlags := 26, slot := 0, constantValue := 0 }, { name := "COMPACT_STRINGS", type := .boolean, accessFlags := 24, slot := 1, constantValue := 0 }, { name := "serialPersistentFields", type := (.array (.object "java/io/ObjectStreamField")), accessFlags := 26, slot := 2, constantValue := 0 }, { name := "REPL", type := .char, accessFlags := 26, slot := 3, constantValue := 0 }, { name := "CASE_INSENSITIVE_ORDER", type := (.object "java/util/Comparator"), accessFlags := 25, slot := 4, constantValue := 0 }, { name := "LATIN1", type := .byte, accessFlags := 24, slot := 5, constantValue := 0 }, { name := "UTF16", type := .byte, accessFlags := 24, slot := 6, constantValue := 0 }]
  methods := #[k7m0, k7m1, k7m2, k7m3, k7m4, k7m5, k7m6, k7m7, k7m8]
  instanceTypes := #[(.array .byte), .byte, .int, .boolean]
  staticTypes := #[.long, .boolean, (.array (.object "java/io/ObjectStreamField")), .char, (.object "java/util/Comparator"), .byte, .byte]
  resolved := Array.replicate 1451 none
  statics := some 0 }

def pool8 : Array CpInfo := pool [(6, .class_ 8), (1, u "java/lang/Object"), (0, u "<init>"), (0, u "()V"), (1, .class_ 14), (1, u "java/lang/StringUTF16"), (31, u "$assertionsDisabled"), (0, u "Z"), (13, u "HI_BYTE_SHIFT"), (0, u "I"), (2, u "LO_BYTE_SHIFT"), (49, .methodref 12 116), (0, .nameAndType 117 118), (0, u "compress"), (0, u "([CI[BII)I"), (3, u "([CII)[B"), (138, u "coderFromArrayLen"), (0, u "([BI)B"), (106, .class_ 371), (1, u "java/lang/StringUTF16$LinesSpliterator"), (58, u "MAX_LENGTH"), (196, .class_ 628), (0, u "java/lang/StringUTF16$CodePointsSpliterator"), (0, .class_ 630), (0, u "java/lang/StringUTF16$CharsSpliterator")] 4

def k8m0 : Method := { name := "<init>", desc := "()V", sig := { parameters := [], returnType := none }, accessFlags := 0, code := none }
def k8c1 : Code := { maxStack := 2, maxLocals := 2, code := jdk_52_method_15_code, exceptionTable := #[], attributes := #[] }
def k8m1 : Method := { name := "coderFromArrayLen", desc := "([BI)B", sig := { parameters := [(.array .byte), .int], returnType := some .byte }, accessFlags := 8, code := some k8c1 }
def k8c2 : Code := { maxStack := 5, maxLocals := 6, code := jdk_52_method_16_code, exceptionTable := #[], attributes := #[] }
def k8m2 : Method := { name := "compress", desc := "([CII)[B", sig := { parameters := [(.array .char), .int, .int], returnType := some (.array .byte) }, accessFlags := 9, code := some k8c2 }
def k8c3 : Code := { maxStack := 3, maxLocals := 7, code := jdk_52_method_21_code, exceptionTable := #[], attributes := #[] }
def k8m3 : Method := { name := "compress", desc := "([CI[BII)I", sig := { parameters := [(.array .char), .int, (.array .byte), .int, .int], returnType := some .int }, accessFlags := 9, code := some k8c3 }
/-- java/lang/StringUTF16 -/
def k8 : Class := { plain "java/lang/StringUTF16" (some 0) with
  accessFlags := 48
  interfaces := #[]
  cf := some (fileOf pool8 12 #[.nestMembers #[627, 629, 369]] #[{ accessFlags := 0, nameIndex := 9, descriptorIndex := 10, attributes := #[] }, { accessFlags := 8, nameIndex := 261, descriptorIndex := 262, attributes := #[] }, { accessFlags := 9, nameIndex := 117, descriptorIndex := 122, attributes := #[] }, { accessFlags := 9, nameIndex := 117, descriptorIndex := 118, attributes := #[] }] 48 6 #[] #[{ accessFlags := 26, nameIndex := 61, descriptorIndex := 62, attributes := #[] }, { accessFlags := 26, nameIndex := 65, descriptorIndex := 62, attributes := #[] }, { accessFlags := 24, nameIndex := 430, descriptorIndex := 62, attributes := #[] }, { accessFlags := 4120, nameIndex := 46, descriptorIndex := 47, attributes := #[] }])
  fields := #[{ name := "HI_BYTE_SHIFT", type := .int, accessFlags := 26, slot := 0, constantValue := 0 }, { name := "LO_BYTE_SHIFT", type := .int, accessFlags := 26, slot := 1, constantValue := 0 }, { name := "MAX_LENGTH", type := .int, accessFlags := 24, slot := 2, constantValue := 0 }, { name := "$assertionsDisabled", type := .boolean, accessFlags := 4120, slot := 3, constantValue := 0 }]
  methods := #[k8m0, k8m1, k8m2, k8m3]
  instanceTypes := #[]
  staticTypes := #[.int, .int, .int, .boolean]
  resolved := Array.replicate 635 none
  statics := none }

def pool9 : Array CpInfo := pool [(8, .class_ 10), (1, u "java/lang/Iterable"), (24, .class_ 36), (0, u "java/lang/Object")] 25

/-- java/lang/Iterable -/
def k9 : Class := { plain "java/lang/Iterable" (some 0) with
  accessFlags := 1537
  interfaces := #[]
  cf := some (fileOf pool9 8 #[] #[] 1537 35 #[] #[])
  fields := #[]
  methods := #[]
  instanceTypes := #[]
  staticTypes := #[]
  resolved := Array.replicate 62 none
  statics := none }

def pool10 : Array CpInfo := pool [(10, .class_ 12), (1, u "java/util/Collection"), (0, u "toArray"), (16, u "()Z"), (29, .class_ 61), (0, u "java/lang/Object"), (0, .class_ 63), (0, u "java/lang/Iterable"), (2, u "isEmpty"), (3, u "()[Ljava/lang/Object;")] 44

def k10m0 : Method := { name := "isEmpty", desc := "()Z", sig := { parameters := [], returnType := some .boolean }, accessFlags := 1025, code := none }
def k10m1 : Method := { name := "toArray", desc := "()[Ljava/lang/Object;", sig := { parameters := [], returnType := some (.array (.object "java/lang/Object")) }, accessFlags := 1025, code := none }
/-- java/util/Collection -/
def k10 : Class := { plain "java/util/Collection" (some 0) with
  accessFlags := 1537
  interfaces := #[9]
  cf := some (fileOf pool10 10 #[] #[{ accessFlags := 1025, nameIndex := 66, descriptorIndex := 30, attributes := #[] }, { accessFlags := 1025, nameIndex := 13, descriptorIndex := 70, attributes := #[] }] 1537 60 #[62] #[])
  fields := #[]
  methods := #[k10m0, k10m1]
  instanceTypes := #[]
  staticTypes := #[]
  resolved := Array.replicate 115 none
  statics := none }

def pool11 : Array CpInfo := pool [(1, .methodref 2 3), (0, .class_ 4), (0, .nameAndType 5 6), (0, u "java/lang/Object"), (0, u "<init>"), (0, u "()V"), (1, .class_ 10), (1, u "java/util/AbstractCollection"), (66, .class_ 78), (0, u "java/util/Collection")] 81

def k11c0 : Code := { maxStack := 1, maxLocals := 1, code := jdk_22_method_1_code, exceptionTable := #[], attributes := #[] }
def k11m0 : Method := { name := "<init>", desc := "()V", sig := { parameters := [], returnType := none }, accessFlags := 4, code := some k11c0 }
/-- java/util/AbstractCollection -/
def k11 : Class := { plain "java/util/AbstractCollection" (some 0) with
  accessFlags := 1057
  interfaces := #[10]
  cf := some (fileOf pool11 8 #[] #[{ accessFlags := 4, nameIndex := 5, descriptorIndex := 6, attributes := #[] }] 1057 2 #[77] #[])
  fields := #[]
  methods := #[k11m0]
  instanceTypes := #[]
  staticTypes := #[]
  resolved := Array.replicate 160 none
  statics := none }

def pool12 : Array CpInfo := pool [(8, .class_ 10), (1, u "java/util/SequencedCollection"), (15, .class_ 27), (0, u "java/lang/Object"), (0, .class_ 29), (0, u "java/util/Collection")] 27

/-- java/util/SequencedCollection -/
def k12 : Class := { plain "java/util/SequencedCollection" (some 0) with
  accessFlags := 1537
  interfaces := #[10]
  cf := some (fileOf pool12 8 #[] #[] 1537 26 #[28] #[])
  fields := #[]
  methods := #[]
  instanceTypes := #[]
  staticTypes := #[]
  resolved := Array.replicate 57 none
  statics := none }

def pool13 : Array CpInfo := pool [(8, .class_ 10), (1, u "java/util/List"), (7, u "()Z"), (12, u "(Ljava/lang/Object;)V"), (16, u "<init>"), (18, u "isEmpty"), (7, u "get"), (0, u "(I)Ljava/lang/Object;"), (11, u "of"), (2, .class_ 93), (1, u "java/util/ImmutableCollections"), (2, .class_ 97), (0, u "java/util/ImmutableCollections$List12"), (0, .methodref 96 99), (0, .nameAndType 48 31), (0, .methodref 96 101), (0, .nameAndType 48 102), (0, u "(Ljava/lang/Object;Ljava/lang/Object;)V"), (0, .class_ 104), (0, u "java/lang/Object"), (3, u "([Ljava/lang/Object;)Ljava/util/List;"), (0, .methodref 91 110), (0, .nameAndType 111 108), (0, u "listFromArray"), (0, .methodref 91 113), (0, .nameAndType 114 115), (0, u "listCopy"), (0, u "(Ljava/util/Collection;)Ljava/util/List;"), (4, .class_ 121), (0, u "java/util/SequencedCollection"), (112, u "copyOf")] 16

def k13m0 : Method := { name := "isEmpty", desc := "()Z", sig := { parameters := [], returnType := some .boolean }, accessFlags := 1025, code := none }
def k13m1 : Method := { name := "get", desc := "(I)Ljava/lang/Object;", sig := { parameters := [.int], returnType := some (.object "java/lang/Object") }, accessFlags := 1025, code := none }
def k13c2 : Code := { maxStack := 5, maxLocals := 2, code := jdk_40_method_47_code, exceptionTable := #[], attributes := #[] }
def k13m2 : Method := { name := "of", desc := "([Ljava/lang/Object;)Ljava/util/List;", sig := { parameters := [(.array (.object "java/lang/Object"))], returnType := some (.object "java/util/List") }, accessFlags := 137, code := some k13c2 }
def k13c3 : Code := { maxStack := 1, maxLocals := 1, code := jdk_40_method_48_code, exceptionTable := #[], attributes := #[] }
def k13m3 : Method := { name := "copyOf", desc := "(Ljava/util/Collection;)Ljava/util/List;", sig := { parameters := [(.object "java/util/Collection")], returnType := some (.object "java/util/List") }, accessFlags := 9, code := some k13c3 }
/-- java/util/List -/
def k13 : Class := { plain "java/util/List" (some 0) with
  accessFlags := 1537
  interfaces := #[12]
  cf := some (fileOf pool13 8 #[] #[{ accessFlags := 1025, nameIndex := 67, descriptorIndex := 18, attributes := #[] }, { accessFlags := 1025, nameIndex := 75, descriptorIndex := 76, attributes := #[] }, { accessFlags := 137, nameIndex := 88, descriptorIndex := 108, attributes := #[] }, { accessFlags := 9, nameIndex := 234, descriptorIndex := 115, attributes := #[] }] 1537 103 #[120] #[])
  fields := #[]
  methods := #[k13m0, k13m1, k13m2, k13m3]
  instanceTypes := #[]
  staticTypes := #[]
  resolved := Array.replicate 251 none
  statics := none }

def pool14 : Array CpInfo := pool [(1, .methodref 2 3), (0, .class_ 4), (0, .nameAndType 5 6), (0, u "java/util/AbstractCollection"), (0, u "<init>"), (0, u "()V"), (0, .fieldref 8 9), (0, .class_ 10), (0, .nameAndType 11 12), (0, u "java/util/AbstractList"), (0, u "modCount"), (0, u "I"), (64, .class_ 78), (0, u "java/util/AbstractList$Itr"), (3, .class_ 83), (0, u "java/util/AbstractList$ListItr"), (9, .class_ 94), (0, u "java/util/AbstractList$RandomAccessSubList"), (3, .class_ 99), (0, u "java/util/AbstractList$SubList"), (33, .class_ 134), (0, u "java/util/List"), (73, .class_ 209), (0, u "java/util/AbstractList$SubList$1"), (0, .class_ 211), (0, u "java/util/AbstractList$RandomAccessSpliterator")] 6

def k14c0 : Code := { maxStack := 2, maxLocals := 1, code := jdk_39_method_1_code, exceptionTable := #[], attributes := #[] }
def k14m0 : Method := { name := "<init>", desc := "()V", sig := { parameters := [], returnType := none }, accessFlags := 4, code := some k14c0 }
/-- java/util/AbstractList -/
def k14 : Class := { plain "java/util/AbstractList" (some 11) with
  accessFlags := 1057
  interfaces := #[13]
  cf := some (fileOf pool14 8 #[.nestMembers #[93, 98, 208, 210, 82, 77]] #[{ accessFlags := 4, nameIndex := 5, descriptorIndex := 6, attributes := #[] }] 1057 2 #[133] #[{ accessFlags := 132, nameIndex := 11, descriptorIndex := 12, attributes := #[] }])
  fields := #[{ name := "modCount", type := .int, accessFlags := 132, slot := 0, constantValue := 0 }]
  methods := #[k14m0]
  instanceTypes := #[.int]
  staticTypes := #[]
  resolved := Array.replicate 218 none
  statics := none }

def pool15 : Array CpInfo := pool [(1, .class_ 2), (0, u "java/util/RandomAccess"), (0, .class_ 4), (0, u "java/lang/Object")] 2

/-- java/util/RandomAccess -/
def k15 : Class := { plain "java/util/RandomAccess" (some 0) with
  accessFlags := 1537
  interfaces := #[]
  cf := some (fileOf pool15 1 #[] #[] 1537 3 #[] #[])
  fields := #[]
  methods := #[]
  instanceTypes := #[]
  staticTypes := #[]
  resolved := Array.replicate 7 none
  statics := none }

def pool16 : Array CpInfo := pool [(1, .class_ 2), (0, u "java/lang/Cloneable"), (0, .class_ 4), (0, u "java/lang/Object")] 2

/-- java/lang/Cloneable -/
def k16 : Class := { plain "java/lang/Cloneable" (some 0) with
  accessFlags := 1537
  interfaces := #[]
  cf := some (fileOf pool16 1 #[] #[] 1537 3 #[] #[])
  fields := #[]
  methods := #[]
  instanceTypes := #[]
  staticTypes := #[]
  resolved := Array.replicate 7 none
  statics := none }

def pool17 : Array CpInfo := pool [(1, .methodref 2 3), (0, .class_ 4), (0, .nameAndType 5 6), (0, u "java/util/AbstractList"), (0, u "<init>"), (0, u "()V"), (0, .class_ 8), (0, u "java/lang/Object"), (0, .fieldref 10 11), (0, .class_ 12), (0, .nameAndType 13 14), (0, u "java/util/ArrayList"), (0, u "elementData"), (0, u "[Ljava/lang/Object;"), (2, u "EMPTY_ELEMENTDATA"), (21, .fieldref 10 40), (0, .nameAndType 41 14), (0, u "DEFAULTCAPACITY_EMPTY_ELEMENTDATA"), (4, u "toArray"), (0, u "()[Ljava/lang/Object;"), (0, .fieldref 10 49), (0, .nameAndType 50 51), (0, u "size"), (0, u "I"), (6, .class_ 60), (1, u "java/util/Arrays"), (0, u "copyOf"), (1, .fieldref 10 64), (0, .nameAndType 65 51), (0, u "modCount"), (0, .methodref 58 67), (0, .nameAndType 61 68), (0, u "([Ljava/lang/Object;I)[Ljava/lang/Object;"), (0, .methodref 10 70), (0, .nameAndType 71 72), (0, u "grow"), (0, u "(I)[Ljava/lang/Object;"), (6, .methodref 80 81), (0, .class_ 82), (0, .nameAndType 83 84), (0, u "java/lang/Math"), (0, u "max"), (0, u "(II)I"), (11, u "(Ljava/lang/Object;)Z"), (21, .methodref 119 120), (0, .class_ 121), (0, .nameAndType 122 84), (0, u "java/util/Objects"), (0, u "checkIndex"), (0, .methodref 10 124), (0, .nameAndType 13 125), (0, u "(I)Ljava/lang/Object;"), (3, .methodref 10 130), (0, .nameAndType 71 47), (0, .methodref 10 132), (0, .nameAndType 133 134), (0, u "add"), (0, u "(Ljava/lang/Object;[Ljava/lang/Object;I)V"), (13, .class_ 149), (0, u "java/util/List"), (23, u "()Z"), (88, .class_ 263), (0, u "java/util/ArrayList$ListItr"), (3, .class_ 268), (0, u "java/util/ArrayList$Itr"), (7, .class_ 277), (0, u "java/util/ArrayList$SubList"), (12, .class_ 291), (0, u "java/util/ArrayList$ArrayListSpliterator"), (37, .class_ 330), (0, u "java/util/RandomAccess"), (0, .class_ 332), (0, u "java/lang/Cloneable"), (0, .class_ 334), (0, u "java/io/Serializable"), (0, u "serialVersionUID"), (0, u "J"), (3, u "DEFAULT_CAPACITY"), (22, u "isEmpty"), (17, u "get"), (118, .class_ 501), (0, u "java/util/ArrayList$SubList$2"), (0, .class_ 503), (0, u "java/util/ArrayList$SubList$1")] 5

def k17c0 : Code := { maxStack := 2, maxLocals := 1, code := jdk_38_method_2_code, exceptionTable := #[], attributes := #[] }
def k17m0 : Method := { name := "<init>", desc := "()V", sig := { parameters := [], returnType := none }, accessFlags := 1, code := some k17c0 }
def k17c1 : Code := { maxStack := 4, maxLocals := 4, code := jdk_38_method_6_code, exceptionTable := #[], attributes := #[] }
def k17m1 : Method := { name := "grow", desc := "(I)[Ljava/lang/Object;", sig := { parameters := [.int], returnType := some (.array (.object "java/lang/Object")) }, accessFlags := 2, code := some k17c1 }
def k17c2 : Code := { maxStack := 3, maxLocals := 1, code := jdk_38_method_7_code, exceptionTable := #[], attributes := #[] }
def k17m2 : Method := { name := "grow", desc := "()[Ljava/lang/Object;", sig := { parameters := [], returnType := some (.array (.object "java/lang/Object")) }, accessFlags := 2, code := some k17c2 }
def k17c3 : Code := { maxStack := 1, maxLocals := 1, code := jdk_38_method_9_code, exceptionTable := #[], attributes := #[] }
def k17m3 : Method := { name := "isEmpty", desc := "()Z", sig := { parameters := [], returnType := some .boolean }, accessFlags := 1, code := some k17c3 }
def k17c4 : Code := { maxStack := 2, maxLocals := 1, code := jdk_38_method_16_code, exceptionTable := #[], attributes := #[] }
def k17m4 : Method := { name := "toArray", desc := "()[Ljava/lang/Object;", sig := { parameters := [], returnType := some (.array (.object "java/lang/Object")) }, accessFlags := 1, code := some k17c4 }
def k17c5 : Code := { maxStack := 2, maxLocals := 2, code := jdk_38_method_18_code, exceptionTable := #[], attributes := #[] }
def k17m5 : Method := { name := "elementData", desc := "(I)Ljava/lang/Object;", sig := { parameters := [.int], returnType := some (.object "java/lang/Object") }, accessFlags := 0, code := some k17c5 }
def k17c6 : Code := { maxStack := 2, maxLocals := 2, code := jdk_38_method_20_code, exceptionTable := #[], attributes := #[] }
def k17m6 : Method := { name := "get", desc := "(I)Ljava/lang/Object;", sig := { parameters := [.int], returnType := some (.object "java/lang/Object") }, accessFlags := 1, code := some k17c6 }
def k17c7 : Code := { maxStack := 3, maxLocals := 4, code := jdk_38_method_24_code, exceptionTable := #[], attributes := #[] }
def k17m7 : Method := { name := "add", desc := "(Ljava/lang/Object;[Ljava/lang/Object;I)V", sig := { parameters := [(.object "java/lang/Object"), (.array (.object "java/lang/Object")), .int], returnType := none }, accessFlags := 2, code := some k17c7 }
def k17c8 : Code := { maxStack := 4, maxLocals := 2, code := jdk_38_method_25_code, exceptionTable := #[], attributes := #[] }
def k17m8 : Method := { name := "add", desc := "(Ljava/lang/Object;)Z", sig := { parameters := [(.object "java/lang/Object")], returnType := some .boolean }, accessFlags := 1, code := some k17c8 }
/-- java/util/ArrayList -/
def k17 : Class := { plain "java/util/ArrayList" (some 14) with
  accessFlags := 33
  interfaces := #[13, 15, 16, 2]
  cf := some (fileOf pool17 10 #[.nestMembers #[290, 276, 500, 502, 262, 267]] #[{ accessFlags := 1, nameIndex := 5, descriptorIndex := 6, attributes := #[] }, { accessFlags := 2, nameIndex := 71, descriptorIndex := 72, attributes := #[] }, { accessFlags := 2, nameIndex := 71, descriptorIndex := 47, attributes := #[] }, { accessFlags := 1, nameIndex := 363, descriptorIndex := 173, attributes := #[] }, { accessFlags := 1, nameIndex := 46, descriptorIndex := 47, attributes := #[] }, { accessFlags := 0, nameIndex := 13, descriptorIndex := 125, attributes := #[] }, { accessFlags := 1, nameIndex := 381, descriptorIndex := 125, attributes := #[] }, { accessFlags := 2, nameIndex := 133, descriptorIndex := 134, attributes := #[] }, { accessFlags := 1, nameIndex := 133, descriptorIndex := 96, attributes := #[] }] 33 2 #[148, 329, 331, 333] #[{ accessFlags := 26, nameIndex := 335, descriptorIndex := 336, attributes := #[] }, { accessFlags := 26, nameIndex := 340, descriptorIndex := 51, attributes := #[] }, { accessFlags := 26, nameIndex := 17, descriptorIndex := 14, attributes := #[] }, { accessFlags := 26, nameIndex := 41, descriptorIndex := 14, attributes := #[] }, { accessFlags := 128, nameIndex := 13, descriptorIndex := 14, attributes := #[] }, { accessFlags := 2, nameIndex := 50, descriptorIndex := 51, attributes := #[] }])
  fields := #[{ name := "serialVersionUID", type := .long, accessFlags := 26, slot := 0, constantValue := 0 }, { name := "DEFAULT_CAPACITY", type := .int, accessFlags := 26, slot := 1, constantValue := 0 }, { name := "EMPTY_ELEMENTDATA", type := (.array (.object "java/lang/Object")), accessFlags := 26, slot := 2, constantValue := 0 }, { name := "DEFAULTCAPACITY_EMPTY_ELEMENTDATA", type := (.array (.object "java/lang/Object")), accessFlags := 26, slot := 3, constantValue := 0 }, { name := "elementData", type := (.array (.object "java/lang/Object")), accessFlags := 128, slot := 1, constantValue := 0 }, { name := "size", type := .int, accessFlags := 2, slot := 2, constantValue := 0 }]
  methods := #[k17m0, k17m1, k17m2, k17m3, k17m4, k17m5, k17m6, k17m7, k17m8]
  instanceTypes := #[.int, (.array (.object "java/lang/Object")), .int]
  staticTypes := #[.long, .int, (.array (.object "java/lang/Object")), (.array (.object "java/lang/Object"))]
  resolved := Array.replicate 509 none
  statics := some 1 }

def pool18 : Array CpInfo := pool [(1, .methodref 2 3), (0, .class_ 4), (0, .nameAndType 5 6), (0, u "java/lang/Object"), (0, u "<init>"), (0, u "()V"), (0, .class_ 8), (0, u "java/lang/Record")] 13

def k18c0 : Code := { maxStack := 1, maxLocals := 1, code := jdk_30_method_1_code, exceptionTable := #[], attributes := #[] }
def k18m0 : Method := { name := "<init>", desc := "()V", sig := { parameters := [], returnType := none }, accessFlags := 4, code := some k18c0 }
/-- java/lang/Record -/
def k18 : Class := { plain "java/lang/Record" (some 0) with
  accessFlags := 1057
  interfaces := #[]
  cf := some (fileOf pool18 7 #[] #[{ accessFlags := 4, nameIndex := 5, descriptorIndex := 6, attributes := #[] }] 1057 2 #[] #[])
  fields := #[]
  methods := #[k18m0]
  instanceTypes := #[]
  staticTypes := #[]
  resolved := Array.replicate 22 none
  statics := none }

def pool19 : Array CpInfo := pool [(1, .methodref 2 3), (0, .class_ 4), (0, .nameAndType 5 6), (0, u "java/lang/Record"), (0, u "<init>"), (0, u "()V"), (0, .fieldref 8 9), (0, .class_ 10), (0, .nameAndType 11 12), (0, u "com/example/grantline/grantline/PolicyException$Problem"), (0, u "pointer"), (0, u "Ljava/lang/String;"), (0, .fieldref 8 14), (0, .nameAndType 15 12), (0, u "description"), (0, .class_ 17), (0, u "java/lang/StringBuilder"), (0, .methodref 16 3), (0, .methodref 16 20), (0, .nameAndType 21 22), (0, u "append"), (0, u "(Ljava/lang/String;)Ljava/lang/StringBuilder;"), (0, .string 24), (0, u ": "), (0, .methodref 16 26), (0, .nameAndType 27 28), (0, u "toString"), (0, u "()Ljava/lang/String;"), (8, .class_ 38), (0, u "java/io/Serializable"), (0, u "(Ljava/lang/String;Ljava/lang/String;)V"), (8, .class_ 49), (0, u "com/example/grantline/grantline/PolicyException")] 20

def k19c0 : Code := { maxStack := 2, maxLocals := 3, code := prog_17_method_1_code, exceptionTable := #[], attributes := #[] }
def k19m0 : Method := { name := "<init>", desc := "(Ljava/lang/String;Ljava/lang/String;)V", sig := { parameters := [(.object "java/lang/String"), (.object "java/lang/String")], returnType := none }, accessFlags := 1, code := some k19c0 }
def k19c1 : Code := { maxStack := 2, maxLocals := 1, code := prog_17_method_2_code, exceptionTable := #[], attributes := #[] }
def k19m1 : Method := { name := "toString", desc := "()Ljava/lang/String;", sig := { parameters := [], returnType := some (.object "java/lang/String") }, accessFlags := 1, code := some k19c1 }
def k19c2 : Code := { maxStack := 1, maxLocals := 1, code := prog_17_method_5_code, exceptionTable := #[], attributes := #[] }
def k19m2 : Method := { name := "pointer", desc := "()Ljava/lang/String;", sig := { parameters := [], returnType := some (.object "java/lang/String") }, accessFlags := 1, code := some k19c2 }
/-- com/example/grantline/grantline/PolicyException$Problem -/
def k19 : Class := { plain "com/example/grantline/grantline/PolicyException$Problem" (some 18) with
  accessFlags := 49
  interfaces := #[2]
  cf := some (fileOf pool19 8 #[.nestHost 48] #[{ accessFlags := 1, nameIndex := 5, descriptorIndex := 39, attributes := #[] }, { accessFlags := 1, nameIndex := 27, descriptorIndex := 28, attributes := #[] }, { accessFlags := 1, nameIndex := 11, descriptorIndex := 28, attributes := #[] }] 49 2 #[37] #[{ accessFlags := 18, nameIndex := 11, descriptorIndex := 12, attributes := #[] }, { accessFlags := 18, nameIndex := 15, descriptorIndex := 12, attributes := #[] }])
  fields := #[{ name := "pointer", type := (.object "java/lang/String"), accessFlags := 18, slot := 0, constantValue := 0 }, { name := "description", type := (.object "java/lang/String"), accessFlags := 18, slot := 1, constantValue := 0 }]
  methods := #[k19m0, k19m1, k19m2]
  instanceTypes := #[(.object "java/lang/String"), (.object "java/lang/String")]
  staticTypes := #[]
  resolved := Array.replicate 70 none
  statics := none }

def pool20 : Array CpInfo := pool [(1, .class_ 2), (0, u "java/lang/Math"), (1, .class_ 6), (1, u "java/lang/Object"), (0, u "<init>"), (0, u "()V"), (89, .class_ 100), (1, u "java/lang/Math$RandomNumberGeneratorHolder"), (71, u "negativeZeroFloatBits"), (0, u "J"), (2, u "negativeZeroDoubleBits"), (21, u "max"), (2, u "min"), (43, u "$assertionsDisabled"), (0, u "Z"), (88, u "(II)I"), (2, u "twoToTheDoubleScaleDown"), (0, u "D"), (4, u "twoToTheDoubleScaleUp"), (9, u "E"), (3, u "PI"), (2, u "TAU"), (2, u "DEGREES_TO_RADIANS"), (0, u "RADIANS_TO_DEGREES")] 94

def k20m0 : Method := { name := "<init>", desc := "()V", sig := { parameters := [], returnType := none }, accessFlags := 2, code := none }
def k20c1 : Code := { maxStack := 2, maxLocals := 2, code := jdk_29_method_65_code, exceptionTable := #[], attributes := #[] }
def k20m1 : Method := { name := "max", desc := "(II)I", sig := { parameters := [.int, .int], returnType := some .int }, accessFlags := 9, code := some k20c1 }
def k20c2 : Code := { maxStack := 2, maxLocals := 2, code := jdk_29_method_69_code, exceptionTable := #[], attributes := #[] }
def k20m2 : Method := { name := "min", desc := "(II)I", sig := { parameters := [.int, .int], returnType := some .int }, accessFlags := 9, code := some k20c2 }
/-- java/lang/Math -/
def k20 : Class := { plain "java/lang/Math" (some 0) with
  accessFlags := 49
  interfaces := #[]
  cf := some (fileOf pool20 1 #[.nestMembers #[98]] #[{ accessFlags := 2, nameIndex := 7, descriptorIndex := 8, attributes := #[] }, { accessFlags := 9, nameIndex := 198, descriptorIndex := 335, attributes := #[] }, { accessFlags := 9, nameIndex := 201, descriptorIndex := 335, attributes := #[] }] 49 4 #[] #[{ accessFlags := 25, nameIndex := 354, descriptorIndex := 339, attributes := #[] }, { accessFlags := 25, nameIndex := 358, descriptorIndex := 339, attributes := #[] }, { accessFlags := 25, nameIndex := 361, descriptorIndex := 339, attributes := #[] }, { accessFlags := 26, nameIndex := 364, descriptorIndex := 339, attributes := #[] }, { accessFlags := 26, nameIndex := 365, descriptorIndex := 339, attributes := #[] }, { accessFlags := 26, nameIndex := 172, descriptorIndex := 173, attributes := #[] }, { accessFlags := 26, nameIndex := 176, descriptorIndex := 173, attributes := #[] }, { accessFlags := 8, nameIndex := 344, descriptorIndex := 339, attributes := #[] }, { accessFlags := 8, nameIndex := 338, descriptorIndex := 339, attributes := #[] }, { accessFlags := 4120, nameIndex := 245, descriptorIndex := 246, attributes := #[] }])
  fields := #[{ name := "E", type := .double, accessFlags := 25, slot := 0, constantValue := 0 }, { name := "PI", type := .double, accessFlags := 25, slot := 1, constantValue := 0 }, { name := "TAU", type := .double, accessFlags := 25, slot := 2, constantValue := 0 }, { name := "DEGREES_TO_RADIANS", type := .double, accessFlags := 26, slot := 3, constantValue := 0 }, { name := "RADIANS_TO_DEGREES", type := .double, accessFlags := 26, slot := 4, constantValue := 0 }, { name := "negativeZeroFloatBits", type := .long, accessFlags := 26, slot := 5, constantValue := 0 }, { name := "negativeZeroDoubleBits", type := .long, accessFlags := 26, slot := 6, constantValue := 0 }, { name := "twoToTheDoubleScaleUp", type := .double, accessFlags := 8, slot := 7, constantValue := 0 }, { name := "twoToTheDoubleScaleDown", type := .double, accessFlags := 8, slot := 8, constantValue := 0 }, { name := "$assertionsDisabled", type := .boolean, accessFlags := 4120, slot := 9, constantValue := 0 }]
  methods := #[k20m0, k20m1, k20m2]
  instanceTypes := #[]
  staticTypes := #[.double, .double, .double, .double, .double, .long, .long, .double, .double, .boolean]
  resolved := Array.replicate 460 none
  statics := none }

def pool21 : Array CpInfo := pool [(1, .methodref 2 3), (0, .class_ 4), (0, .nameAndType 5 6), (0, u "java/lang/Object"), (0, u "<init>"), (0, u "()V"), (0, .fieldref 8 9), (0, .class_ 10), (0, .nameAndType 11 12), (0, u "java/lang/Throwable"), (0, u "cause"), (0, u "Ljava/lang/Throwable;"), (0, .fieldref 8 14), (0, .nameAndType 15 16), (0, u "UNASSIGNED_STACK"), (0, u "[Ljava/lang/StackTraceElement;"), (0, .fieldref 8 18), (0, .nameAndType 19 16), (0, u "stackTrace"), (0, .fieldref 8 21), (0, .nameAndType 22 23), (0, u "SUPPRESSED_SENTINEL"), (0, u "Ljava/util/List;"), (0, .fieldref 8 25), (0, .nameAndType 26 23), (0, u "suppressedExceptions"), (0, .methodref 8 28), (0, .nameAndType 29 30), (0, u "fillInStackTrace"), (0, u "()Ljava/lang/Throwable;"), (0, .fieldref 8 32), (0, .nameAndType 33 34), (0, u "detailMessage"), (0, u "Ljava/lang/String;"), (58, .class_ 94), (0, u "java/lang/Throwable$WrappedPrintStream"), (6, .class_ 103), (1, u "java/lang/Throwable$PrintStreamOrWriter"), (61, u "$assertionsDisabled"), (0, u "Z"), (26, .class_ 194), (0, u "java/lang/Throwable$WrappedPrintWriter"), (3, .fieldref 8 199), (0, .nameAndType 200 201), (0, u "backtrace"), (0, u "Ljava/lang/Object;"), (0, .methodref 8 203), (0, .nameAndType 29 204), (0, u "(I)Ljava/lang/Throwable;"), (6, u "depth"), (0, u "I"), (10, u "(Ljava/lang/String;)V"), (45, .class_ 271), (1, u "java/lang/Throwable$SentinelHolder"), (32, u "EMPTY_THROWABLE_ARRAY"), (0, u "[Ljava/lang/Throwable;"), (12, .class_ 319), (0, u "java/io/Serializable"), (0, u "serialVersionUID"), (0, u "J"), (5, u "NULL_CAUSE_MESSAGE"), (0, u "SELF_SUPPRESSION_MESSAGE"), (0, u "CAUSE_CAPTION"), (0, u "SUPPRESSED_CAPTION")] 73

def k21c0 : Code := { maxStack := 2, maxLocals := 1, code := jdk_78_method_1_code, exceptionTable := #[], attributes := #[] }
def k21m0 : Method := { name := "<init>", desc := "()V", sig := { parameters := [], returnType := none }, accessFlags := 1, code := some k21c0 }
def k21c1 : Code := { maxStack := 2, maxLocals := 2, code := jdk_78_method_2_code, exceptionTable := #[], attributes := #[] }
def k21m1 : Method := { name := "<init>", desc := "(Ljava/lang/String;)V", sig := { parameters := [(.object "java/lang/String")], returnType := none }, accessFlags := 1, code := some k21c1 }
def k21c2 : Code := { maxStack := 2, maxLocals := 1, code := jdk_78_method_18_code, exceptionTable := #[], attributes := #[] }
def k21m2 : Method := { name := "fillInStackTrace", desc := "()Ljava/lang/Throwable;", sig := { parameters := [], returnType := some (.object "java/lang/Throwable") }, accessFlags := 33, code := some k21c2 }
def k21m3 : Method := { name := "fillInStackTrace", desc := "(I)Ljava/lang/Throwable;", sig := { parameters := [.int], returnType := some (.object "java/lang/Throwable") }, accessFlags := 258, code := none }
/-- java/lang/Throwable -/
def k21 : Class := { plain "java/lang/Throwable" (some 0) with
  accessFlags := 33
  interfaces := #[2]
  cf := some (fileOf pool21 8 #[.nestMembers #[193, 93, 101, 269]] #[{ accessFlags := 1, nameIndex := 5, descriptorIndex := 6, attributes := #[] }, { accessFlags := 1, nameIndex := 5, descriptorIndex := 223, attributes := #[] }, { accessFlags := 33, nameIndex := 29, descriptorIndex := 30, attributes := #[] }, { accessFlags := 258, nameIndex := 29, descriptorIndex := 204, attributes := #[] }] 33 2 #[318] #[{ accessFlags := 26, nameIndex := 320, descriptorIndex := 321, attributes := #[] }, { accessFlags := 130, nameIndex := 200, descriptorIndex := 201, attributes := #[] }, { accessFlags := 2, nameIndex := 33, descriptorIndex := 34, attributes := #[] }, { accessFlags := 26, nameIndex := 15, descriptorIndex := 16, attributes := #[] }, { accessFlags := 2, nameIndex := 11, descriptorIndex := 12, attributes := #[] }, { accessFlags := 2, nameIndex := 19, descriptorIndex := 16, attributes := #[] }, { accessFlags := 130, nameIndex := 211, descriptorIndex := 212, attributes := #[] }, { accessFlags := 26, nameIndex := 22, descriptorIndex := 23, attributes := #[] }, { accessFlags := 2, nameIndex := 26, descriptorIndex := 23, attributes := #[] }, { accessFlags := 26, nameIndex := 327, descriptorIndex := 34, attributes := #[] }, { accessFlags := 26, nameIndex := 328, descriptorIndex := 34, attributes := #[] }, { accessFlags := 26, nameIndex := 329, descriptorIndex := 34, attributes := #[] }, { accessFlags := 26, nameIndex := 330, descriptorIndex := 34, attributes := #[] }, { accessFlags := 26, nameIndex := 304, descriptorIndex := 305, attributes := #[] }, { accessFlags := 4120, nameIndex := 165, descriptorIndex := 166, attributes := #[] }])
  fields := #[{ name := "serialVersionUID", type := .long, accessFlags := 26, slot := 0, constantValue := 0 }, { name := "backtrace", type := (.object "java/lang/Object"), accessFlags := 130, slot := 0, constantValue := 0 }, { name := "detailMessage", type := (.object "java/lang/String"), accessFlags := 2, slot := 1, constantValue := 0 }, { name := "UNASSIGNED_STACK", type := (.array (.object "java/lang/StackTraceElement")), accessFlags := 26, slot := 1, constantValue := 0 }, { name := "cause", type := (.object "java/lang/Throwable"), accessFlags := 2, slot := 2, constantValue := 0 }, { name := "stackTrace", type := (.array (.object "java/lang/StackTraceElement")), accessFlags := 2, slot := 3, constantValue := 0 }, { name := "depth", type := .int, accessFlags := 130, slot := 4, constantValue := 0 }, { name := "SUPPRESSED_SENTINEL", type := (.object "java/util/List"), accessFlags := 26, slot := 2, constantValue := 0 }, { name := "suppressedExceptions", type := (.object "java/util/List"), accessFlags := 2, slot := 5, constantValue := 0 }, { name := "NULL_CAUSE_MESSAGE", type := (.object "java/lang/String"), accessFlags := 26, slot := 3, constantValue := 0 }, { name := "SELF_SUPPRESSION_MESSAGE", type := (.object "java/lang/String"), accessFlags := 26, slot := 4, constantValue := 0 }, { name := "CAUSE_CAPTION", type := (.object "java/lang/String"), accessFlags := 26, slot := 5, constantValue := 0 }, { name := "SUPPRESSED_CAPTION", type := (.object "java/lang/String"), accessFlags := 26, slot := 6, constantValue := 0 }, { name := "EMPTY_THROWABLE_ARRAY", type := (.array (.object "java/lang/Throwable")), accessFlags := 26, slot := 7, constantValue := 0 }, { name := "$assertionsDisabled", type := .boolean, accessFlags := 4120, slot := 8, constantValue := 0 }]
  methods := #[k21m0, k21m1, k21m2, k21m3]
  instanceTypes := #[(.object "java/lang/Object"), (.object "java/lang/String"), (.object "java/lang/Throwable"), (.array (.object "java/lang/StackTraceElement")), .int, (.object "java/util/List")]
  staticTypes := #[.long, (.array (.object "java/lang/StackTraceElement")), (.object "java/util/List"), (.object "java/lang/String"), (.object "java/lang/String"), (.object "java/lang/String"), (.object "java/lang/String"), (.array (.object "java/lang/Throwable")), .boolean]
  resolved := Array.replicate 404 none
  statics := some 2 }

def pool22 : Array CpInfo := pool [(2, .class_ 4), (1, u "java/lang/Throwable"), (0, u "<init>"), (0, u "()V"), (0, .methodref 2 8), (0, .nameAndType 5 9), (0, u "(Ljava/lang/String;)V"), (9, .class_ 20), (0, u "java/lang/Exception"), (0, u "serialVersionUID"), (0, u "J")] 17

def k22m0 : Method := { name := "<init>", desc := "()V", sig := { parameters := [], returnType := none }, accessFlags := 1, code := none }
def k22c1 : Code := { maxStack := 2, maxLocals := 2, code := jdk_59_method_2_code, exceptionTable := #[], attributes := #[] }
def k22m1 : Method := { name := "<init>", desc := "(Ljava/lang/String;)V", sig := { parameters := [(.object "java/lang/String")], returnType := none }, accessFlags := 1, code := some k22c1 }
/-- java/lang/Exception -/
def k22 : Class := { plain "java/lang/Exception" (some 21) with
  accessFlags := 33
  interfaces := #[]
  cf := some (fileOf pool22 19 #[] #[{ accessFlags := 1, nameIndex := 5, descriptorIndex := 6, attributes := #[] }, { accessFlags := 1, nameIndex := 5, descriptorIndex := 9, attributes := #[] }] 33 2 #[] #[{ accessFlags := 24, nameIndex := 21, descriptorIndex := 22, attributes := #[] }])
  fields := #[{ name := "serialVersionUID", type := .long, accessFlags := 24, slot := 0, constantValue := 0 }]
  methods := #[k22m0, k22m1]
  instanceTypes := #[(.object "java/lang/Object"), (.object "java/lang/String"), (.object "java/lang/Throwable"), (.array (.object "java/lang/StackTraceElement")), .int, (.object "java/util/List")]
  staticTypes := #[.long]
  resolved := Array.replicate 40 none
  statics := none }

def pool23 : Array CpInfo := pool [(1, .class_ 2), (0, u "com/example/grantline/grantline/PolicyException$Problem"), (2, u "<init>"), (2, .class_ 10), (1, u "java/util/List"), (3, .class_ 16), (1, u "com/example/grantline/grantline/PolicyException"), (0, u "(Ljava/util/List;)V"), (0, .methodref 14 19), (0, .nameAndType 20 21), (0, u "first"), (0, u "(Ljava/util/List;)Lcom/example/grantline/grantline/PolicyException$Problem;"), (0, .methodref 1 23), (0, .nameAndType 24 25), (0, u "toString"), (0, u "()Ljava/lang/String;"), (0, .methodref 27 28), (0, .class_ 29), (0, .nameAndType 5 30), (0, u "java/lang/Exception"), (0, u "(Ljava/lang/String;)V"), (0, .interfaceMethodref 8 32), (0, .nameAndType 33 34), (0, u "copyOf"), (0, u "(Ljava/util/Collection;)Ljava/util/List;"), (0, .fieldref 14 36), (0, .nameAndType 37 38), (0, u "problems"), (0, u "Ljava/util/List;"), (0, .interfaceMethodref 8 40), (0, .nameAndType 41 42), (0, u "isEmpty"), (0, u "()Z"), (5, .interfaceMethodref 8 49), (0, .nameAndType 50 51), (0, u "get"), (0, u "(I)Ljava/lang/Object;"), (0, .methodref 1 53), (0, .nameAndType 54 25), (0, u "pointer"), (3, u "serialVersionUID"), (0, u "J")] 18

def k23c0 : Code := { maxStack := 2, maxLocals := 2, code := prog_16_method_2_code, exceptionTable := #[], attributes := #[] }
def k23m0 : Method := { name := "<init>", desc := "(Ljava/util/List;)V", sig := { parameters := [(.object "java/util/List")], returnType := none }, accessFlags := 0, code := some k23c0 }
def k23c1 : Code := { maxStack := 3, maxLocals := 1, code := prog_16_method_3_code, exceptionTable := #[], attributes := #[] }
def k23m1 : Method := { name := "first", desc := "(Ljava/util/List;)Lcom/example/grantline/grantline/PolicyException$Problem;", sig := { parameters := [(.object "java/util/List")], returnType := some (.object "com/example/grantline/grantline/PolicyException$Problem") }, accessFlags := 10, code := some k23c1 }
def k23c2 : Code := { maxStack := 2, maxLocals := 1, code := prog_16_method_4_code, exceptionTable := #[], attributes := #[] }
def k23m2 : Method := { name := "pointer", desc := "()Ljava/lang/String;", sig := { parameters := [], returnType := some (.object "java/lang/String") }, accessFlags := 1, code := some k23c2 }
/-- com/example/grantline/grantline/PolicyException -/
def k23 : Class := { plain "com/example/grantline/grantline/PolicyException" (some 22) with
  accessFlags := 33
  interfaces := #[]
  cf := some (fileOf pool23 14 #[.nestMembers #[1]] #[{ accessFlags := 0, nameIndex := 5, descriptorIndex := 17, attributes := #[] }, { accessFlags := 10, nameIndex := 20, descriptorIndex := 21, attributes := #[] }, { accessFlags := 1, nameIndex := 54, descriptorIndex := 25, attributes := #[] }] 33 27 #[] #[{ accessFlags := 26, nameIndex := 58, descriptorIndex := 59, attributes := #[] }, { accessFlags := 18, nameIndex := 37, descriptorIndex := 38, attributes := #[] }])
  fields := #[{ name := "serialVersionUID", type := .long, accessFlags := 26, slot := 0, constantValue := 0 }, { name := "problems", type := (.object "java/util/List"), accessFlags := 18, slot := 6, constantValue := 0 }]
  methods := #[k23m0, k23m1, k23m2]
  instanceTypes := #[(.object "java/lang/Object"), (.object "java/lang/String"), (.object "java/lang/Throwable"), (.array (.object "java/lang/StackTraceElement")), .int, (.object "java/util/List"), (.object "java/util/List")]
  staticTypes := #[.long]
  resolved := Array.replicate 78 none
  statics := none }

def pool24 : Array CpInfo := pool [(2, .class_ 4), (1, u "java/lang/Object"), (0, u "<init>"), (0, u "()V"), (35, .class_ 44), (1, u "java/util/Objects"), (0, u "requireNonNull"), (0, u "(Ljava/lang/Object;)Ljava/lang/Object;"), (58, .methodref 106 107), (0, .class_ 108), (0, .nameAndType 109 110), (0, u "jdk/internal/util/Preconditions"), (0, u "checkIndex"), (0, u "(IILjava/util/function/BiFunction;)I"), (60, u "(II)I")] 12

def k24m0 : Method := { name := "<init>", desc := "()V", sig := { parameters := [], returnType := none }, accessFlags := 2, code := none }
def k24c1 : Code := { maxStack := 2, maxLocals := 1, code := jdk_31_method_10_code, exceptionTable := #[], attributes := #[] }
def k24m1 : Method := { name := "requireNonNull", desc := "(Ljava/lang/Object;)Ljava/lang/Object;", sig := { parameters := [(.object "java/lang/Object")], returnType := some (.object "java/lang/Object") }, accessFlags := 9, code := some k24c1 }
def k24c2 : Code := { maxStack := 3, maxLocals := 2, code := jdk_31_method_17_code, exceptionTable := #[], attributes := #[] }
def k24m2 : Method := { name := "checkIndex", desc := "(II)I", sig := { parameters := [.int, .int], returnType := some .int }, accessFlags := 9, code := some k24c2 }
/-- java/util/Objects -/
def k24 : Class := { plain "java/util/Objects" (some 0) with
  accessFlags := 49
  interfaces := #[]
  cf := some (fileOf pool24 42 #[] #[{ accessFlags := 2, nameIndex := 5, descriptorIndex := 6, attributes := #[] }, { accessFlags := 9, nameIndex := 45, descriptorIndex := 46, attributes := #[] }, { accessFlags := 9, nameIndex := 109, descriptorIndex := 171, attributes := #[] }] 49 2 #[] #[])
  fields := #[]
  methods := #[k24m0, k24m1, k24m2]
  instanceTypes := #[]
  staticTypes := #[]
  resolved := Array.replicate 184 none
  statics := none }

def pool25 : Array CpInfo := pool [(2, .class_ 4), (1, u "java/lang/Object"), (0, u "<init>"), (0, u "()V"), (17, .class_ 26), (1, u "jdk/internal/util/Preconditions"), (6, u "checkIndex"), (21, .class_ 56), (0, u "jdk/internal/util/Preconditions$4"), (57, .class_ 115), (0, u "jdk/internal/util/Preconditions$1"), (7, u "SIOOBE_FORMATTER"), (0, u "Ljava/util/function/BiFunction;"), (0, .class_ 126), (0, u "jdk/internal/util/Preconditions$2"), (3, u "AIOOBE_FORMATTER"), (0, .class_ 132), (0, u "jdk/internal/util/Preconditions$3"), (3, u "IOOBE_FORMATTER"), (41, u "(IILjava/util/function/BiFunction;)I")] 15

def k25m0 : Method := { name := "<init>", desc := "()V", sig := { parameters := [], returnType := none }, accessFlags := 1, code := none }
def k25c1 : Code := { maxStack := 3, maxLocals := 3, code := jdk_41_method_11_code, exceptionTable := #[], attributes := #[] }
def k25m1 : Method := { name := "checkIndex", desc := "(IILjava/util/function/BiFunction;)I", sig := { parameters := [.int, .int, (.object "java/util/function/BiFunction")], returnType := some .int }, accessFlags := 9, code := some k25c1 }
/-- jdk/internal/util/Preconditions -/
def k25 : Class := { plain "jdk/internal/util/Preconditions" (some 0) with
  accessFlags := 33
  interfaces := #[]
  cf := some (fileOf pool25 24 #[.nestMembers #[55, 131, 125, 114]] #[{ accessFlags := 1, nameIndex := 5, descriptorIndex := 6, attributes := #[] }, { accessFlags := 9, nameIndex := 33, descriptorIndex := 178, attributes := #[] }] 33 2 #[] #[{ accessFlags := 25, nameIndex := 123, descriptorIndex := 124, attributes := #[] }, { accessFlags := 25, nameIndex := 130, descriptorIndex := 124, attributes := #[] }, { accessFlags := 25, nameIndex := 136, descriptorIndex := 124, attributes := #[] }])
  fields := #[{ name := "SIOOBE_FORMATTER", type := (.object "java/util/function/BiFunction"), accessFlags := 25, slot := 0, constantValue := 0 }, { name := "AIOOBE_FORMATTER", type := (.object "java/util/function/BiFunction"), accessFlags := 25, slot := 1, constantValue := 0 }, { name := "IOOBE_FORMATTER", type := (.object "java/util/function/BiFunction"), accessFlags := 25, slot := 2, constantValue := 0 }]
  methods := #[k25m0, k25m1]
  instanceTypes := #[]
  staticTypes := #[(.object "java/util/function/BiFunction"), (.object "java/util/function/BiFunction"), (.object "java/util/function/BiFunction")]
  resolved := Array.replicate 194 none
  statics := some 3 }

def pool26 : Array CpInfo := pool [(1, .class_ 2), (0, u "java/lang/Appendable"), (0, .class_ 4), (0, u "java/lang/Object")] 9

/-- java/lang/Appendable -/
def k26 : Class := { plain "java/lang/Appendable" (some 0) with
  accessFlags := 1537
  interfaces := #[]
  cf := some (fileOf pool26 1 #[] #[] 1537 3 #[] #[])
  fields := #[]
  methods := #[]
  instanceTypes := #[]
  staticTypes := #[]
  resolved := Array.replicate 14 none
  statics := none }

def pool27 : Array CpInfo := pool [(1, .class_ 2), (0, u "java/lang/String"), (0, .methodref 4 5), (0, .class_ 6), (0, .nameAndType 7 8), (0, u "java/lang/Object"), (0, u "<init>"), (0, u "()V"), (1, .class_ 12), (1, u "java/lang/AbstractStringBuilder"), (0, u "EMPTYVALUE"), (0, u "[B"), (0, .fieldref 10 16), (0, .nameAndType 17 14), (0, u "value"), (0, .fieldref 1 19), (0, .nameAndType 20 21), (0, u "COMPACT_STRINGS"), (0, u "Z"), (0, .fieldref 10 23), (0, .nameAndType 24 25), (0, u "coder"), (0, u "B"), (6, .methodref 1 33), (0, .nameAndType 34 35), (0, u "length"), (0, u "()I"), (4, .methodref 1 41), (0, .nameAndType 24 42), (0, u "()B"), (2, u "append"), (0, u "(Ljava/lang/String;)Ljava/lang/AbstractStringBuilder;"), (1, .class_ 49), (0, u "java/lang/CharSequence"), (19, u "(Ljava/lang/String;)V"), (5, u "maybeLatin1"), (3, .fieldref 10 80), (0, .nameAndType 81 82), (0, u "count"), (0, u "I"), (2, u "isLatin1"), (0, u "()Z"), (13, .methodref 10 101), (0, .nameAndType 102 103), (0, u "ensureCapacityInternal"), (0, u "(I)V"), (104, .methodref 10 209), (0, .nameAndType 210 211), (0, u "putStringAt"), (0, u "(ILjava/lang/String;)V"), (5, u "inflateIfNeededFor"), (2, .nameAndType 221 222), (0, u "getBytes"), (0, u "([BIB)V"), (174, .methodref 10 398), (0, .nameAndType 217 69), (0, .methodref 1 220), (3, u "()[B"), (40, .class_ 445), (0, u "java/lang/Appendable"), (106, u "getValue")] 56

def k27m0 : Method := { name := "<init>", desc := "()V", sig := { parameters := [], returnType := none }, accessFlags := 0, code := none }
def k27c1 : Code := { maxStack := 2, maxLocals := 2, code := jdk_68_method_2_code, exceptionTable := #[], attributes := #[] }
def k27m1 : Method := { name := "<init>", desc := "(I)V", sig := { parameters := [.int], returnType := none }, accessFlags := 0, code := some k27c1 }
def k27c2 : Code := { maxStack := 1, maxLocals := 1, code := jdk_68_method_6_code, exceptionTable := #[], attributes := #[] }
def k27m2 : Method := { name := "length", desc := "()I", sig := { parameters := [], returnType := some .int }, accessFlags := 1, code := some k27c2 }
def k27c3 : Code := { maxStack := 4, maxLocals := 3, code := jdk_68_method_9_code, exceptionTable := #[], attributes := #[] }
def k27m3 : Method := { name := "ensureCapacityInternal", desc := "(I)V", sig := { parameters := [.int], returnType := none }, accessFlags := 2, code := some k27c3 }
def k27c4 : Code := { maxStack := 3, maxLocals := 3, code := jdk_68_method_22_code, exceptionTable := #[], attributes := #[] }
def k27m4 : Method := { name := "append", desc := "(Ljava/lang/String;)Ljava/lang/AbstractStringBuilder;", sig := { parameters := [(.object "java/lang/String")], returnType := some (.object "java/lang/AbstractStringBuilder") }, accessFlags := 1, code := some k27c4 }
def k27c5 : Code := { maxStack := 1, maxLocals := 1, code := jdk_68_method_64_code, exceptionTable := #[], attributes := #[] }
def k27m5 : Method := { name := "getValue", desc := "()[B", sig := { parameters := [], returnType := some (.array .byte) }, accessFlags := 16, code := some k27c5 }
def k27c6 : Code := { maxStack := 1, maxLocals := 1, code := jdk_68_method_68_code, exceptionTable := #[], attributes := #[] }
def k27m6 : Method := { name := "isLatin1", desc := "()Z", sig := { parameters := [], returnType := some .boolean }, accessFlags := 16, code := some k27c6 }
def k27c7 : Code := { maxStack := 2, maxLocals := 2, code := jdk_68_method_71_code, exceptionTable := #[], attributes := #[] }
def k27m7 : Method := { name := "inflateIfNeededFor", desc := "(Ljava/lang/String;)V", sig := { parameters := [(.object "java/lang/String")], returnType := none }, accessFlags := 2, code := some k27c7 }
def k27c8 : Code := { maxStack := 4, maxLocals := 3, code := jdk_68_method_73_code, exceptionTable := #[], attributes := #[] }
def k27m8 : Method := { name := "putStringAt", desc := "(ILjava/lang/String;)V", sig := { parameters := [.int, (.object "java/lang/String")], returnType := none }, accessFlags := 2, code := some k27c8 }
/-- java/lang/AbstractStringBuilder -/
def k27 : Class := { plain "java/lang/AbstractStringBuilder" (some 0) with
  accessFlags := 1056
  interfaces := #[26, 4]
  cf := some (fileOf pool27 10 #[] #[{ accessFlags := 0, nameIndex := 7, descriptorIndex := 8, attributes := #[] }, { accessFlags := 0, nameIndex := 7, descriptorIndex := 103, attributes := #[] }, { accessFlags := 1, nameIndex := 34, descriptorIndex := 35, attributes := #[] }, { accessFlags := 2, nameIndex := 102, descriptorIndex := 103, attributes := #[] }, { accessFlags := 1, nameIndex := 45, descriptorIndex := 46, attributes := #[] }, { accessFlags := 16, nameIndex := 552, descriptorIndex := 403, attributes := #[] }, { accessFlags := 16, nameIndex := 85, descriptorIndex := 86, attributes := #[] }, { accessFlags := 2, nameIndex := 217, descriptorIndex := 69, attributes := #[] }, { accessFlags := 2, nameIndex := 210, descriptorIndex := 211, attributes := #[] }] 1056 4 #[444, 48] #[{ accessFlags := 0, nameIndex := 17, descriptorIndex := 14, attributes := #[] }, { accessFlags := 0, nameIndex := 24, descriptorIndex := 25, attributes := #[] }, { accessFlags := 0, nameIndex := 75, descriptorIndex := 21, attributes := #[] }, { accessFlags := 0, nameIndex := 81, descriptorIndex := 82, attributes := #[] }, { accessFlags := 26, nameIndex := 13, descriptorIndex := 14, attributes := #[] }])
  fields := #[{ name := "value", type := (.array .byte), accessFlags := 0, slot := 0, constantValue := 0 }, { name := "coder", type := .byte, accessFlags := 0, slot := 1, constantValue := 0 }, { name := "maybeLatin1", type := .boolean, accessFlags := 0, slot := 2, constantValue := 0 }, { name := "count", type := .int, accessFlags := 0, slot := 3, constantValue := 0 }, { name := "EMPTYVALUE", type := (.array .byte), accessFlags := 26, slot := 0, constantValue := 0 }]
  methods := #[k27m0, k27m1, k27m2, k27m3, k27m4, k27m5, k27m6, k27m7, k27m8]
  instanceTypes := #[(.array .byte), .byte, .boolean, .int]
  staticTypes := #[(.array .byte)]
  resolved := Array.replicate 609 none
  statics := none }

def pool28 : Array CpInfo := pool [(1, .methodref 2 3), (0, .class_ 4), (0, .nameAndType 5 6), (0, u "java/lang/AbstractStringBuilder"), (0, u "<init>"), (0, u "(I)V"), (11, .class_ 20), (1, u "java/lang/String"), (3, .class_ 26), (1, u "java/lang/StringBuilder"), (0, u "append"), (0, u "(Ljava/lang/String;)Ljava/lang/StringBuilder;"), (0, .methodref 2 30), (0, .nameAndType 27 31), (0, u "(Ljava/lang/String;)Ljava/lang/AbstractStringBuilder;"), (105, .methodref 18 138), (0, .nameAndType 5 139), (0, u "(Ljava/lang/StringBuilder;)V"), (5, u "()V"), (10, u "()I"), (186, .methodref 2 344), (0, .nameAndType 345 156), (0, u "length"), (3, .class_ 350), (0, u "java/lang/Appendable"), (0, .class_ 352), (0, u "java/io/Serializable"), (0, .class_ 354), (0, u "java/lang/Comparable"), (0, .class_ 356), (0, u "java/lang/CharSequence"), (0, u "serialVersionUID"), (0, u "J"), (40, u "toString"), (0, u "()Ljava/lang/String;")] 21

def k28c0 : Code := { maxStack := 2, maxLocals := 1, code := jdk_67_method_1_code, exceptionTable := #[], attributes := #[] }
def k28m0 : Method := { name := "<init>", desc := "()V", sig := { parameters := [], returnType := none }, accessFlags := 1, code := some k28c0 }
def k28c1 : Code := { maxStack := 2, maxLocals := 2, code := jdk_67_method_7_code, exceptionTable := #[], attributes := #[] }
def k28m1 : Method := { name := "append", desc := "(Ljava/lang/String;)Ljava/lang/StringBuilder;", sig := { parameters := [(.object "java/lang/String")], returnType := some (.object "java/lang/StringBuilder") }, accessFlags := 1, code := some k28c1 }
def k28c2 : Code := { maxStack := 3, maxLocals := 1, code := jdk_67_method_42_code, exceptionTable := #[], attributes := #[] }
def k28m2 : Method := { name := "toString", desc := "()Ljava/lang/String;", sig := { parameters := [], returnType := some (.object "java/lang/String") }, accessFlags := 1, code := some k28c2 }
def k28c3 : Code := { maxStack := 1, maxLocals := 1, code := jdk_67_method_93_code, exceptionTable := #[], attributes := #[] }
def k28m3 : Method := { name := "length", desc := "()I", sig := { parameters := [], returnType := some .int }, accessFlags := 4161, code := some k28c3 }
/-- java/lang/StringBuilder -/
def k28 : Class := { plain "java/lang/StringBuilder" (some 27) with
  accessFlags := 49
  interfaces := #[26, 2, 3, 4]
  cf := some (fileOf pool28 24 #[] #[{ accessFlags := 1, nameIndex := 5, descriptorIndex := 145, attributes := #[] }, { accessFlags := 1, nameIndex := 27, descriptorIndex := 28, attributes := #[] }, { accessFlags := 1, nameIndex := 399, descriptorIndex := 400, attributes := #[] }, { accessFlags := 4161, nameIndex := 345, descriptorIndex := 156, attributes := #[] }] 49 2 #[349, 351, 353, 355] #[{ accessFlags := 24, nameIndex := 357, descriptorIndex := 358, attributes := #[] }])
  fields := #[{ name := "serialVersionUID", type := .long, accessFlags := 24, slot := 0, constantValue := 0 }]
  methods := #[k28m0, k28m1, k28m2, k28m3]
  instanceTypes := #[(.array .byte), .byte, .boolean, .int]
  staticTypes := #[.long]
  resolved := Array.replicate 422 none
  statics := none }

def pool29 : Array CpInfo := pool [(2, .class_ 4), (1, u "java/lang/Object"), (0, u "<init>"), (0, u "()V"), (1, .class_ 10), (1, u "java/lang/System"), (0, u "allowSecurityManager"), (0, u "I"), (16, u "cons"), (0, u "Ljava/io/Console;"), (77, .class_ 110), (1, u "java/lang/System$CallersHolder"), (43, u "initialErrStream"), (0, u "Ljava/io/PrintStream;"), (19, u "security"), (0, u "Ljava/lang/SecurityManager;"), (31, .class_ 209), (0, u "java/lang/System$1"), (7, u "props"), (0, u "Ljava/util/Properties;"), (2, u "lineSeparator"), (0, u "Ljava/lang/String;"), (96, .class_ 321), (1, u "java/lang/System$LoggerFinder"), (5, .class_ 328), (0, u "java/lang/System$Logger"), (67, u "err"), (2, u "out"), (91, u "notSupportedJnuEncoding"), (15, u "in"), (17, u "initialIn"), (0, u "Ljava/io/InputStream;"), (35, u "bootLayer"), (0, u "Ljava/lang/ModuleLayer;"), (99, .class_ 664), (0, u "java/lang/System$2"), (9, u "NEVER"), (2, u "MAYBE"), (49, u "arraycopy"), (0, u "(Ljava/lang/Object;ILjava/lang/Object;II)V"), (72, .class_ 802), (0, u "java/lang/System$Logger$Level")] 31

def k29m0 : Method := { name := "<init>", desc := "()V", sig := { parameters := [], returnType := none }, accessFlags := 2, code := none }
def k29m1 : Method := { name := "arraycopy", desc := "(Ljava/lang/Object;ILjava/lang/Object;II)V", sig := { parameters := [(.object "java/lang/Object"), .int, (.object "java/lang/Object"), .int, .int], returnType := none }, accessFlags := 265, code := none }
/-- java/lang/System -/
def k29 : Class := { plain "java/lang/System" (some 0) with
  accessFlags := 49
  interfaces := #[]
  cf := some (fileOf pool29 8 #[.nestMembers #[319, 327, 801, 108, 663, 208]] #[{ accessFlags := 2, nameIndex := 5, descriptorIndex := 6, attributes := #[] }, { accessFlags := 265, nameIndex := 727, descriptorIndex := 728, attributes := #[] }] 49 2 #[] #[{ accessFlags := 25, nameIndex := 507, descriptorIndex := 526, attributes := #[] }, { accessFlags := 25, nameIndex := 399, descriptorIndex := 155, attributes := #[] }, { accessFlags := 25, nameIndex := 396, descriptorIndex := 155, attributes := #[] }, { accessFlags := 10, nameIndex := 525, descriptorIndex := 526, attributes := #[] }, { accessFlags := 26, nameIndex := 674, descriptorIndex := 12, attributes := #[] }, { accessFlags := 26, nameIndex := 677, descriptorIndex := 12, attributes := #[] }, { accessFlags := 10, nameIndex := 11, descriptorIndex := 12, attributes := #[] }, { accessFlags := 74, nameIndex := 175, descriptorIndex := 176, attributes := #[] }, { accessFlags := 10, nameIndex := 491, descriptorIndex := 222, attributes := #[] }, { accessFlags := 74, nameIndex := 29, descriptorIndex := 30, attributes := #[] }, { accessFlags := 74, nameIndex := 154, descriptorIndex := 155, attributes := #[] }, { accessFlags := 10, nameIndex := 217, descriptorIndex := 218, attributes := #[] }, { accessFlags := 10, nameIndex := 221, descriptorIndex := 222, attributes := #[] }, { accessFlags := 8, nameIndex := 562, descriptorIndex := 563, attributes := #[] }])
  fields := #[{ name := "in", type := (.object "java/io/InputStream"), accessFlags := 25, slot := 0, constantValue := 0 }, { name := "out", type := (.object "java/io/PrintStream"), accessFlags := 25, slot := 1, constantValue := 0 }, { name := "err", type := (.object "java/io/PrintStream"), accessFlags := 25, slot := 2, constantValue := 0 }, { name := "initialIn", type := (.object "java/io/InputStream"), accessFlags := 10, slot := 3, constantValue := 0 }, { name := "NEVER", type := .int, accessFlags := 26, slot := 4, constantValue := 0 }, { name := "MAYBE", type := .int, accessFlags := 26, slot := 5, constantValue := 0 }, { name := "allowSecurityManager", type := .int, accessFlags := 10, slot := 6, constantValue := 0 }, { name := "security", type := (.object "java/lang/SecurityManager"), accessFlags := 74, slot := 7, constantValue := 0 }, { name := "notSupportedJnuEncoding", type := (.object "java/lang/String"), accessFlags := 10, slot := 8, constantValue := 0 }, { name := "cons", type := (.object "java/io/Console"), accessFlags := 74, slot := 9, constantValue := 0 }, { name := "initialErrStream", type := (.object "java/io/PrintStream"), accessFlags := 74, slot := 10, constantValue := 0 }, { name := "props", type := (.object "java/util/Properties"), accessFlags := 10, slot := 11, constantValue := 0 }, { name := "lineSeparator", type := (.object "java/lang/String"), accessFlags := 10, slot := 12, constantValue := 0 }, { name := "bootLayer", type := (.object "java/lang/ModuleLayer"), accessFlags := 8, slot := 13, constantValue := 0 }]
  methods := #[k29m0, k29m1]
  instanceTypes := #[]
  staticTypes := #[(.object "java/io/InputStream"), (.object "java/io/PrintStream"), (.object "java/io/PrintStream"), (.object "java/io/InputStream"), .int, .int, .int, (.object "java/lang/SecurityManager"), (.object "java/lang/String"), (.object "java/io/Console"), (.object "java/io/PrintStream"), (.object "java/util/Properties"), (.object "java/lang/String"), (.object "java/lang/ModuleLayer")]
  resolved := Array.replicate 834 none
  statics := none }

def pool30 : Array CpInfo := pool [(2, .class_ 4), (1, u "java/lang/Object"), (0, u "<init>"), (0, u "()V"), (7, .class_ 16), (1, u "java/util/Arrays"), (57, .class_ 76), (1, u "java/util/Arrays$NaturalOrder"), (9, .methodref 2 87), (0, .nameAndType 88 89), (0, u "getClass"), (0, u "()Ljava/lang/Class;"), (20, .class_ 111), (0, u "[Ljava/lang/Object;"), (1, .class_ 115), (1, u "java/util/Arrays$LegacyMergeSort"), (1, u "Z"), (21, u "copyOfRange"), (10, .methodref 151 152), (0, .class_ 153), (0, .nameAndType 154 155), (0, u "java/lang/System"), (0, u "arraycopy"), (0, u "(Ljava/lang/Object;ILjava/lang/Object;II)V"), (144, .methodref 14 301), (0, .nameAndType 302 303), (0, u "copyOf"), (0, u "([Ljava/lang/Object;ILjava/lang/Class;)[Ljava/lang/Object;"), (0, .methodref 305 306), (0, .class_ 307), (0, .nameAndType 308 309), (0, u "java/lang/Math"), (0, u "min"), (0, u "(II)I"), (29, .methodref 14 340), (0, .nameAndType 341 342), (0, u "copyOfRangeByte"), (0, u "([BII)[B"), (0, .methodref 14 344), (0, .nameAndType 345 346), (0, u "checkLength"), (0, u "(II)V"), (28, .class_ 376), (0, u "java/util/Arrays$ArrayList"), (68, u "$assertionsDisabled"), (269, u "MIN_ARRAY_SORT_GRAN"), (0, u "I"), (2, u "INSERTIONSORT_THRESHOLD"), (140, u "([Ljava/lang/Object;I)[Ljava/lang/Object;"), (114, .class_ 976), (0, u "java/util/Arrays$ArrayItr")] 52

def k30m0 : Method := { name := "<init>", desc := "()V", sig := { parameters := [], returnType := none }, accessFlags := 2, code := none }
def k30c1 : Code := { maxStack := 3, maxLocals := 2, code := jdk_65_method_119_code, exceptionTable := #[], attributes := #[] }
def k30m1 : Method := { name := "copyOf", desc := "([Ljava/lang/Object;I)[Ljava/lang/Object;", sig := { parameters := [(.array (.object "java/lang/Object")), .int], returnType := some (.array (.object "java/lang/Object")) }, accessFlags := 9, code := some k30c1 }
def k30c2 : Code := { maxStack := 6, maxLocals := 4, code := jdk_65_method_120_code, exceptionTable := #[], attributes := #[] }
def k30m2 : Method := { name := "copyOf", desc := "([Ljava/lang/Object;ILjava/lang/Class;)[Ljava/lang/Object;", sig := { parameters := [(.array (.object "java/lang/Object")), .int, (.object "java/lang/Class")], returnType := some (.array (.object "java/lang/Object")) }, accessFlags := 9, code := some k30c2 }
def k30c3 : Code := { maxStack := 4, maxLocals := 2, code := jdk_65_method_131_code, exceptionTable := #[], attributes := #[] }
def k30m3 : Method := { name := "checkLength", desc := "(II)V", sig := { parameters := [.int, .int], returnType := none }, accessFlags := 10, code := some k30c3 }
def k30c4 : Code := { maxStack := 3, maxLocals := 3, code := jdk_65_method_132_code, exceptionTable := #[], attributes := #[] }
def k30m4 : Method := { name := "copyOfRange", desc := "([BII)[B", sig := { parameters := [(.array .byte), .int, .int], returnType := some (.array .byte) }, accessFlags := 9, code := some k30c4 }
def k30c5 : Code := { maxStack := 6, maxLocals := 5, code := jdk_65_method_133_code, exceptionTable := #[], attributes := #[] }
def k30m5 : Method := { name := "copyOfRangeByte", desc := "([BII)[B", sig := { parameters := [(.array .byte), .int, .int], returnType := some (.array .byte) }, accessFlags := 10, code := some k30c5 }
/-- java/util/Arrays -/
def k30 : Class := { plain "java/util/Arrays" (some 0) with
  accessFlags := 49
  interfaces := #[]
  cf := some (fileOf pool30 14 #[.nestMembers #[975, 375, 113, 74]] #[{ accessFlags := 2, nameIndex := 5, descriptorIndex := 6, attributes := #[] }, { accessFlags := 9, nameIndex := 302, descriptorIndex := 860, attributes := #[] }, { accessFlags := 9, nameIndex := 302, descriptorIndex := 303, attributes := #[] }, { accessFlags := 10, nameIndex := 345, descriptorIndex := 346, attributes := #[] }, { accessFlags := 9, nameIndex := 139, descriptorIndex := 342, attributes := #[] }, { accessFlags := 10, nameIndex := 341, descriptorIndex := 342, attributes := #[] }] 49 2 #[] #[{ accessFlags := 26, nameIndex := 715, descriptorIndex := 716, attributes := #[] }, { accessFlags := 26, nameIndex := 719, descriptorIndex := 716, attributes := #[] }, { accessFlags := 4120, nameIndex := 445, descriptorIndex := 117, attributes := #[] }])
  fields := #[{ name := "MIN_ARRAY_SORT_GRAN", type := .int, accessFlags := 26, slot := 0, constantValue := 0 }, { name := "INSERTIONSORT_THRESHOLD", type := .int, accessFlags := 26, slot := 1, constantValue := 0 }, { name := "$assertionsDisabled", type := .boolean, accessFlags := 4120, slot := 2, constantValue := 0 }]
  methods := #[k30m0, k30m1, k30m2, k30m3, k30m4, k30m5]
  instanceTypes := #[]
  staticTypes := #[.int, .int, .boolean]
  resolved := Array.replicate 1029 none
  statics := none }

def pool31 : Array CpInfo := pool [(2, .class_ 4), (1, u "java/lang/Object"), (0, u "<init>"), (0, u "()V"), (3, .class_ 11), (0, u "java/util/ImmutableCollections$List12"), (0, .class_ 13), (0, u "java/util/ImmutableCollections$ListN"), (3, u "Z"), (0, .class_ 19), (0, u "java/util/List"), (0, .interfaceMethodref 21 22), (0, .class_ 23), (0, .nameAndType 24 25), (0, u "java/util/Collection"), (0, u "isEmpty"), (0, u "()Z"), (2, u "of"), (1, .interfaceMethodref 21 31), (0, .nameAndType 32 33), (0, u "toArray"), (0, u "()[Ljava/lang/Object;"), (0, .interfaceMethodref 18 35), (0, .nameAndType 28 36), (0, u "([Ljava/lang/Object;)Ljava/util/List;"), (0, .methodref 38 39), (0, .class_ 40), (0, .nameAndType 41 42), (0, u "java/util/Objects"), (0, u "requireNonNull"), (0, u "(Ljava/lang/Object;)Ljava/lang/Object;"), (0, .methodref 12 44), (0, .nameAndType 5 45), (0, u "([Ljava/lang/Object;Z)V"), (1, .class_ 49), (1, u "java/util/ImmutableCollections"), (0, u "$assertionsDisabled"), (5, u "[Ljava/lang/Object;"), (5, u "EMPTY_LIST"), (0, u "Ljava/util/ImmutableCollections$ListN;"), (8, u "EMPTY_LIST_NULLS"), (22, u "SALT32L"), (0, u "J"), (2, u "REVERSE"), (6, u "archivedObjects"), (2, u "EMPTY"), (0, u "Ljava/lang/Object;"), (0, .class_ 112), (0, u "java/util/ImmutableCollections$SetN"), (5, u "EMPTY_SET"), (0, u "Ljava/util/ImmutableCollections$SetN;"), (0, .class_ 121), (0, u "java/util/ImmutableCollections$MapN"), (3, u "EMPTY_MAP"), (0, u "Ljava/util/ImmutableCollections$MapN;"), (4, u "EXPAND_FACTOR"), (0, u "I"), (9, u "listCopy"), (0, u "(Ljava/util/Collection;)Ljava/util/List;"), (7, u "listFromArray"), (17, .class_ 170), (0, u "java/util/ImmutableCollections$MapN$MapNIterator"), (0, .class_ 172), (0, u "java/util/ImmutableCollections$MapN$1"), (0, .class_ 174), (0, u "java/util/ImmutableCollections$Map1"), (0, .class_ 176), (0, u "java/util/ImmutableCollections$AbstractImmutableMap"), (0, .class_ 178), (0, u "java/util/ImmutableCollections$SetN$SetNIterator"), (0, .class_ 180), (0, u "java/util/ImmutableCollections$Set12"), (0, .class_ 182), (0, u "java/util/ImmutableCollections$Set12$1"), (0, .class_ 184), (0, u "java/util/ImmutableCollections$AbstractImmutableSet"), (0, .class_ 186), (0, u "java/util/ImmutableCollections$SubList"), (0, .class_ 188), (0, u "java/util/ImmutableCollections$ListItr"), (0, .class_ 190), (0, u "java/util/ImmutableCollections$AbstractImmutableList"), (0, .class_ 192), (0, u "java/util/ImmutableCollections$AbstractImmutableCollection"), (0, .class_ 194), (0, u "java/util/ImmutableCollections$Access"), (0, .class_ 196), (0, u "java/util/ImmutableCollections$Access$1")] 16

def k31m0 : Method := { name := "<init>", desc := "()V", sig := { parameters := [], returnType := none }, accessFlags := 2, code := none }
def k31c1 : Code := { maxStack := 1, maxLocals := 2, code := jdk_56_method_3_code, exceptionTable := #[], attributes := #[] }
def k31m1 : Method := { name := "listCopy", desc := "(Ljava/util/Collection;)Ljava/util/List;", sig := { parameters := [(.object "java/util/Collection")], returnType := some (.object "java/util/List") }, accessFlags := 8, code := some k31c1 }
def k31c2 : Code := { maxStack := 4, maxLocals := 3, code := jdk_56_method_4_code, exceptionTable := #[], attributes := #[] }
def k31m2 : Method := { name := "listFromArray", desc := "([Ljava/lang/Object;)Ljava/util/List;", sig := { parameters := [(.array (.object "java/lang/Object"))], returnType := some (.object "java/util/List") }, accessFlags := 136, code := some k31c2 }
/-- java/util/ImmutableCollections -/
def k31 : Class := { plain "java/util/ImmutableCollections" (some 0) with
  accessFlags := 32
  interfaces := #[]
  cf := some (fileOf pool31 47 #[.nestMembers #[120, 169, 171, 173, 175, 111, 177, 179, 181, 183, 12, 10, 185, 187, 189, 191, 193, 195]] #[{ accessFlags := 2, nameIndex := 5, descriptorIndex := 6, attributes := #[] }, { accessFlags := 8, nameIndex := 142, descriptorIndex := 143, attributes := #[] }, { accessFlags := 136, nameIndex := 151, descriptorIndex := 36, attributes := #[] }] 32 2 #[] #[{ accessFlags := 26, nameIndex := 95, descriptorIndex := 96, attributes := #[] }, { accessFlags := 26, nameIndex := 99, descriptorIndex := 17, attributes := #[] }, { accessFlags := 10, nameIndex := 106, descriptorIndex := 56, attributes := #[] }, { accessFlags := 26, nameIndex := 109, descriptorIndex := 110, attributes := #[] }, { accessFlags := 24, nameIndex := 62, descriptorIndex := 63, attributes := #[] }, { accessFlags := 24, nameIndex := 72, descriptorIndex := 63, attributes := #[] }, { accessFlags := 24, nameIndex := 118, descriptorIndex := 119, attributes := #[] }, { accessFlags := 24, nameIndex := 125, descriptorIndex := 126, attributes := #[] }, { accessFlags := 24, nameIndex := 131, descriptorIndex := 132, attributes := #[] }, { accessFlags := 4120, nameIndex := 50, descriptorIndex := 17, attributes := #[] }])
  fields := #[{ name := "SALT32L", type := .long, accessFlags := 26, slot := 0, constantValue := 0 }, { name := "REVERSE", type := .boolean, accessFlags := 26, slot := 1, constantValue := 0 }, { name := "archivedObjects", type := (.array (.object "java/lang/Object")), accessFlags := 10, slot := 2, constantValue := 0 }, { name := "EMPTY", type := (.object "java/lang/Object"), accessFlags := 26, slot := 3, constantValue := 0 }, { name := "EMPTY_LIST", type := (.object "java/util/ImmutableCollections$ListN"), accessFlags := 24, slot := 4, constantValue := 0 }, { name := "EMPTY_LIST_NULLS", type := (.object "java/util/ImmutableCollections$ListN"), accessFlags := 24, slot := 5, constantValue := 0 }, { name := "EMPTY_SET", type := (.object "java/util/ImmutableCollections$SetN"), accessFlags := 24, slot := 6, constantValue := 0 }, { name := "EMPTY_MAP", type := (.object "java/util/ImmutableCollections$MapN"), accessFlags := 24, slot := 7, constantValue := 0 }, { name := "EXPAND_FACTOR", type := .int, accessFlags := 24, slot := 8, constantValue := 0 }, { name := "$assertionsDisabled", type := .boolean, accessFlags := 4120, slot := 9, constantValue := 0 }]
  methods := #[k31m0, k31m1, k31m2]
  instanceTypes := #[]
  staticTypes := #[.long, .boolean, (.array (.object "java/lang/Object")), (.object "java/lang/Object"), (.object "java/util/ImmutableCollections$ListN"), (.object "java/util/ImmutableCollections$ListN"), (.object "java/util/ImmutableCollections$SetN"), (.object "java/util/ImmutableCollections$MapN"), .int, .boolean]
  resolved := Array.replicate 213 none
  statics := some 4 }

def pool32 : Array CpInfo := pool [(1, .methodref 2 3), (0, .class_ 4), (0, .nameAndType 5 6), (0, u "java/util/AbstractCollection"), (0, u "<init>"), (0, u "()V"), (1, .class_ 10), (1, u "java/util/ImmutableCollections"), (2, .class_ 14), (0, u "java/util/ImmutableCollections$AbstractImmutableCollection")] 41

def k32c0 : Code := { maxStack := 1, maxLocals := 1, code := jdk_47_method_1_code, exceptionTable := #[], attributes := #[] }
def k32m0 : Method := { name := "<init>", desc := "()V", sig := { parameters := [], returnType := none }, accessFlags := 0, code := some k32c0 }
/-- java/util/ImmutableCollections$AbstractImmutableCollection -/
def k32 : Class := { plain "java/util/ImmutableCollections$AbstractImmutableCollection" (some 11) with
  accessFlags := 1056
  interfaces := #[]
  cf := some (fileOf pool32 13 #[.nestHost 8] #[{ accessFlags := 0, nameIndex := 5, descriptorIndex := 6, attributes := #[] }] 1056 2 #[] #[])
  fields := #[]
  methods := #[k32m0]
  instanceTypes := #[]
  staticTypes := #[]
  resolved := Array.replicate 56 none
  statics := none }

def pool33 : Array CpInfo := pool [(1, .methodref 2 3), (0, .class_ 4), (0, .nameAndType 5 6), (0, u "java/util/ImmutableCollections$AbstractImmutableCollection"), (0, u "<init>"), (0, u "()V"), (1, .class_ 10), (1, u "java/util/ImmutableCollections"), (3, .class_ 16), (1, u "java/util/ImmutableCollections$AbstractImmutableList"), (60, .class_ 78), (0, u "java/util/List"), (45, .class_ 125), (0, u "java/util/RandomAccess")] 70

def k33c0 : Code := { maxStack := 1, maxLocals := 1, code := jdk_46_method_1_code, exceptionTable := #[], attributes := #[] }
def k33m0 : Method := { name := "<init>", desc := "()V", sig := { parameters := [], returnType := none }, accessFlags := 0, code := some k33c0 }
/-- java/util/ImmutableCollections$AbstractImmutableList -/
def k33 : Class := { plain "java/util/ImmutableCollections$AbstractImmutableList" (some 32) with
  accessFlags := 1056
  interfaces := #[13, 15]
  cf := some (fileOf pool33 14 #[.nestHost 8] #[{ accessFlags := 0, nameIndex := 5, descriptorIndex := 6, attributes := #[] }] 1056 2 #[77, 124] #[])
  fields := #[]
  methods := #[k33m0]
  instanceTypes := #[]
  staticTypes := #[]
  resolved := Array.replicate 196 none
  statics := none }

def pool34 : Array CpInfo := pool [(1, .methodref 2 3), (0, .class_ 4), (0, .nameAndType 5 6), (0, u "java/util/ImmutableCollections$AbstractImmutableList"), (0, u "<init>"), (0, u "()V"), (0, .methodref 8 9), (0, .class_ 10), (0, .nameAndType 11 12), (0, u "java/util/Objects"), (0, u "requireNonNull"), (0, u "(Ljava/lang/Object;)Ljava/lang/Object;"), (0, .fieldref 14 15), (0, .class_ 16), (0, .nameAndType 17 18), (0, u "java/util/ImmutableCollections$List12"), (0, u "e0"), (0, u "Ljava/lang/Object;"), (0, .fieldref 20 21), (0, .class_ 22), (0, .nameAndType 23 18), (0, u "java/util/ImmutableCollections"), (0, u "EMPTY"), (0, .fieldref 14 25), (0, .nameAndType 26 18), (0, u "e1"), (43, .class_ 71), (0, u "java/io/Serializable"), (4, u "(Ljava/lang/Object;)V"), (8, u "(Ljava/lang/Object;Ljava/lang/Object;)V"), (4, u "get"), (0, u "(I)Ljava/lang/Object;")] 33

def k34c0 : Code := { maxStack := 2, maxLocals := 2, code := jdk_44_method_1_code, exceptionTable := #[], attributes := #[] }
def k34m0 : Method := { name := "<init>", desc := "(Ljava/lang/Object;)V", sig := { parameters := [(.object "java/lang/Object")], returnType := none }, accessFlags := 0, code := some k34c0 }
def k34c1 : Code := { maxStack := 2, maxLocals := 3, code := jdk_44_method_2_code, exceptionTable := #[], attributes := #[] }
def k34m1 : Method := { name := "<init>", desc := "(Ljava/lang/Object;Ljava/lang/Object;)V", sig := { parameters := [(.object "java/lang/Object"), (.object "java/lang/Object")], returnType := none }, accessFlags := 0, code := some k34c1 }
def k34c2 : Code := { maxStack := 2, maxLocals := 2, code := jdk_44_method_5_code, exceptionTable := #[], attributes := #[] }
def k34m2 : Method := { name := "get", desc := "(I)Ljava/lang/Object;", sig := { parameters := [.int], returnType := some (.object "java/lang/Object") }, accessFlags := 1, code := some k34c2 }
/-- java/util/ImmutableCollections$List12 -/
def k34 : Class := { plain "java/util/ImmutableCollections$List12" (some 33) with
  accessFlags := 48
  interfaces := #[2]
  cf := some (fileOf pool34 14 #[.nestHost 20] #[{ accessFlags := 0, nameIndex := 5, descriptorIndex := 76, attributes := #[] }, { accessFlags := 0, nameIndex := 5, descriptorIndex := 85, attributes := #[] }, { accessFlags := 1, nameIndex := 90, descriptorIndex := 91, attributes := #[] }] 48 2 #[70] #[{ accessFlags := 18, nameIndex := 17, descriptorIndex := 18, attributes := #[] }, { accessFlags := 18, nameIndex := 26, descriptorIndex := 18, attributes := #[] }])
  fields := #[{ name := "e0", type := (.object "java/lang/Object"), accessFlags := 18, slot := 0, constantValue := 0 }, { name := "e1", type := (.object "java/lang/Object"), accessFlags := 18, slot := 1, constantValue := 0 }]
  methods := #[k34m0, k34m1, k34m2]
  instanceTypes := #[(.object "java/lang/Object"), (.object "java/lang/Object")]
  staticTypes := #[]
  resolved := Array.replicate 125 none
  statics := none }

def pool35 : Array CpInfo := pool [(1, .methodref 2 3), (0, .class_ 4), (0, .nameAndType 5 6), (0, u "java/util/ImmutableCollections$AbstractImmutableList"), (0, u "<init>"), (0, u "()V"), (0, .fieldref 8 9), (0, .class_ 10), (0, .nameAndType 11 12), (0, u "java/util/ImmutableCollections$ListN"), (0, u "elements"), (0, u "[Ljava/lang/Object;"), (0, .fieldref 8 14), (0, .nameAndType 15 16), (0, u "allowNulls"), (0, u "Z"), (42, .class_ 60), (0, u "java/io/Serializable"), (4, u "([Ljava/lang/Object;Z)V"), (13, u "get"), (0, u "(I)Ljava/lang/Object;"), (33, .class_ 115), (0, u "java/util/ImmutableCollections")] 3

def k35c0 : Code := { maxStack := 2, maxLocals := 3, code := jdk_45_method_1_code, exceptionTable := #[], attributes := #[] }
def k35m0 : Method := { name := "<init>", desc := "([Ljava/lang/Object;Z)V", sig := { parameters := [(.array (.object "java/lang/Object")), .boolean], returnType := none }, accessFlags := 2, code := some k35c0 }
def k35c1 : Code := { maxStack := 2, maxLocals := 2, code := jdk_45_method_4_code, exceptionTable := #[], attributes := #[] }
def k35m1 : Method := { name := "get", desc := "(I)Ljava/lang/Object;", sig := { parameters := [.int], returnType := some (.object "java/lang/Object") }, accessFlags := 1, code := some k35c1 }
/-- java/util/ImmutableCollections$ListN -/
def k35 : Class := { plain "java/util/ImmutableCollections$ListN" (some 33) with
  accessFlags := 48
  interfaces := #[2]
  cf := some (fileOf pool35 8 #[.nestHost 114] #[{ accessFlags := 2, nameIndex := 5, descriptorIndex := 65, attributes := #[] }, { accessFlags := 1, nameIndex := 79, descriptorIndex := 80, attributes := #[] }] 48 2 #[59] #[{ accessFlags := 18, nameIndex := 11, descriptorIndex := 12, attributes := #[] }, { accessFlags := 18, nameIndex := 15, descriptorIndex := 16, attributes := #[] }])
  fields := #[{ name := "elements", type := (.array (.object "java/lang/Object")), accessFlags := 18, slot := 0, constantValue := 0 }, { name := "allowNulls", type := .boolean, accessFlags := 18, slot := 1, constantValue := 0 }]
  methods := #[k35m0, k35m1]
  instanceTypes := #[(.array (.object "java/lang/Object")), .boolean]
  staticTypes := #[]
  resolved := Array.replicate 119 none
  statics := none }

def pool36 : Array CpInfo := pool [(4, .class_ 6), (1, u "java/lang/Object"), (0, u "<init>"), (0, u "()V"), (5, .class_ 16), (1, u "java/lang/StringLatin1"), (104, u "$assertionsDisabled"), (0, u "Z"), (98, .class_ 223), (1, u "java/lang/StringLatin1$LinesSpliterator"), (166, .class_ 391), (0, u "java/lang/StringLatin1$CharsSpliterator")] 3

def k36m0 : Method := { name := "<init>", desc := "()V", sig := { parameters := [], returnType := none }, accessFlags := 0, code := none }
/-- java/lang/StringLatin1 -/
def k36 : Class := { plain "java/lang/StringLatin1" (some 0) with
  accessFlags := 48
  interfaces := #[]
  cf := some (fileOf pool36 14 #[.nestMembers #[390, 221]] #[{ accessFlags := 0, nameIndex := 7, descriptorIndex := 8, attributes := #[] }] 48 4 #[] #[{ accessFlags := 4120, nameIndex := 121, descriptorIndex := 122, attributes := #[] }])
  fields := #[{ name := "$assertionsDisabled", type := .boolean, accessFlags := 4120, slot := 0, constantValue := 0 }]
  methods := #[k36m0]
  instanceTypes := #[]
  staticTypes := #[.boolean]
  resolved := Array.replicate 395 none
  statics := none }

def pool37 : Array CpInfo := pool [(9, u "<init>"), (6, .class_ 18), (1, u "java/lang/Object"), (0, u "()V"), (1, .class_ 23), (1, u "jdk/internal/util/ArraysSupport"), (0, u "LOG2_ARRAY_LONG_INDEX_SCALE"), (0, u "I"), (2, u "U"), (0, u "Ljdk/internal/misc/Unsafe;"), (8, u "BIG_ENDIAN"), (0, u "Z"), (8, u "LOG2_BYTE_BIT_SIZE"), (4, u "LOG2_ARRAY_INT_INDEX_SCALE"), (54, u "JLA"), (0, u "Ljdk/internal/access/JavaLangAccess;"), (11, u "LOG2_ARRAY_BOOLEAN_INDEX_SCALE"), (9, u "LOG2_ARRAY_BYTE_INDEX_SCALE"), (5, u "LOG2_ARRAY_CHAR_INDEX_SCALE"), (5, u "LOG2_ARRAY_SHORT_INDEX_SCALE"), (18, u "LOG2_ARRAY_FLOAT_INDEX_SCALE"), (24, u "LOG2_ARRAY_DOUBLE_INDEX_SCALE"), (89, u "T_BOOLEAN"), (2, u "T_CHAR"), (1, u "T_FLOAT"), (1, u "T_DOUBLE"), (1, u "T_BYTE"), (1, u "T_SHORT"), (1, u "T_INT"), (1, u "T_LONG"), (1, u "SOFT_MAX_ARRAY_LENGTH")] 83

def k37m0 : Method := { name := "<init>", desc := "()V", sig := { parameters := [], returnType := none }, accessFlags := 2, code := none }
/-- jdk/internal/util/ArraysSupport -/
def k37 : Class := { plain "jdk/internal/util/ArraysSupport" (some 0) with
  accessFlags := 33
  interfaces := #[]
  cf := some (fileOf pool37 21 #[] #[{ accessFlags := 2, nameIndex := 9, descriptorIndex := 19, attributes := #[] }] 33 16 #[] #[{ accessFlags := 24, nameIndex := 28, descriptorIndex := 29, attributes := #[] }, { accessFlags := 26, nameIndex := 38, descriptorIndex := 39, attributes := #[] }, { accessFlags := 25, nameIndex := 121, descriptorIndex := 25, attributes := #[] }, { accessFlags := 25, nameIndex := 131, descriptorIndex := 25, attributes := #[] }, { accessFlags := 25, nameIndex := 137, descriptorIndex := 25, attributes := #[] }, { accessFlags := 25, nameIndex := 143, descriptorIndex := 25, attributes := #[] }, { accessFlags := 25, nameIndex := 53, descriptorIndex := 25, attributes := #[] }, { accessFlags := 25, nameIndex := 24, descriptorIndex := 25, attributes := #[] }, { accessFlags := 25, nameIndex := 162, descriptorIndex := 25, attributes := #[] }, { accessFlags := 25, nameIndex := 187, descriptorIndex := 25, attributes := #[] }, { accessFlags := 26, nameIndex := 48, descriptorIndex := 25, attributes := #[] }, { accessFlags := 25, nameIndex := 277, descriptorIndex := 25, attributes := #[] }, { accessFlags := 25, nameIndex := 280, descriptorIndex := 25, attributes := #[] }, { accessFlags := 25, nameIndex := 282, descriptorIndex := 25, attributes := #[] }, { accessFlags := 25, nameIndex := 284, descriptorIndex := 25, attributes := #[] }, { accessFlags := 25, nameIndex := 286, descriptorIndex := 25, attributes := #[] }, { accessFlags := 25, nameIndex := 288, descriptorIndex := 25, attributes := #[] }, { accessFlags := 25, nameIndex := 290, descriptorIndex := 25, attributes := #[] }, { accessFlags := 25, nameIndex := 292, descriptorIndex := 25, attributes := #[] }, { accessFlags := 26, nameIndex := 108, descriptorIndex := 109, attributes := #[] }, { accessFlags := 25, nameIndex := 294, descriptorIndex := 25, attributes := #[] }])
  fields := #[{ name := "U", type := (.object "jdk/internal/misc/Unsafe"), accessFlags := 24, slot := 0, constantValue := 0 }, { name := "BIG_ENDIAN", type := .boolean, accessFlags := 26, slot := 1, constantValue := 0 }, { name := "LOG2_ARRAY_BOOLEAN_INDEX_SCALE", type := .int, accessFlags := 25, slot := 2, constantValue := 0 }, { name := "LOG2_ARRAY_BYTE_INDEX_SCALE", type := .int, accessFlags := 25, slot := 3, constantValue := 0 }, { name := "LOG2_ARRAY_CHAR_INDEX_SCALE", type := .int, accessFlags := 25, slot := 4, constantValue := 0 }, { name := "LOG2_ARRAY_SHORT_INDEX_SCALE", type := .int, accessFlags := 25, slot := 5, constantValue := 0 }, { name := "LOG2_ARRAY_INT_INDEX_SCALE", type := .int, accessFlags := 25, slot := 6, constantValue := 0 }, { name := "LOG2_ARRAY_LONG_INDEX_SCALE", type := .int, accessFlags := 25, slot := 7, constantValue := 0 }, { name := "LOG2_ARRAY_FLOAT_INDEX_SCALE", type := .int, accessFlags := 25, slot := 8, constantValue := 0 }, { name := "LOG2_ARRAY_DOUBLE_INDEX_SCALE", type := .int, accessFlags := 25, slot := 9, constantValue := 0 }, { name := "LOG2_BYTE_BIT_SIZE", type := .int, accessFlags := 26, slot := 10, constantValue := 0 }, { name := "T_BOOLEAN", type := .int, accessFlags := 25, slot := 11, constantValue := 0 }, { name := "T_CHAR", type := .int, accessFlags := 25, slot := 12, constantValue := 0 }, { name := "T_FLOAT", type := .int, accessFlags := 25, slot := 13, constantValue := 0 }, { name := "T_DOUBLE", type := .int, accessFlags := 25, slot := 14, constantValue := 0 }, { name := "T_BYTE", type := .int, accessFlags := 25, slot := 15, constantValue := 0 }, { name := "T_SHORT", type := .int, accessFlags := 25, slot := 16, constantValue := 0 }, { name := "T_INT", type := .int, accessFlags := 25, slot := 17, constantValue := 0 }, { name := "T_LONG", type := .int, accessFlags := 25, slot := 18, constantValue := 0 }, { name := "JLA", type := (.object "jdk/internal/access/JavaLangAccess"), accessFlags := 26, slot := 19, constantValue := 0 }, { name := "SOFT_MAX_ARRAY_LENGTH", type := .int, accessFlags := 25, slot := 20, constantValue := 0 }]
  methods := #[k37m0]
  instanceTypes := #[]
  staticTypes := #[(.object "jdk/internal/misc/Unsafe"), .boolean, .int, .int, .int, .int, .int, .int, .int, .int, .int, .int, .int, .int, .int, .int, .int, .int, .int, (.object "jdk/internal/access/JavaLangAccess"), .int]
  resolved := Array.replicate 378 none
  statics := none }

def pool38 : Array CpInfo := pool [(2, .class_ 4), (1, u "java/lang/Object"), (0, u "<init>"), (0, u "()V"), (12, .class_ 20), (0, u "java/util/Collections"), (63, u "r"), (0, u "Ljava/util/Random;"), (80, .class_ 167), (0, u "java/util/Collections$UnmodifiableCollection"), (6, .class_ 175), (0, u "java/util/Collections$UnmodifiableSequencedCollection"), (6, .class_ 183), (0, u "java/util/Collections$UnmodifiableSet"), (6, .class_ 191), (0, u "java/util/Collections$UnmodifiableSequencedSet"), (6, .class_ 199), (0, u "java/util/Collections$UnmodifiableSortedSet"), (6, .class_ 207), (0, u "java/util/Collections$UnmodifiableNavigableSet"), (4, .class_ 213), (0, u "java/util/Collections$UnmodifiableList"), (1, .class_ 216), (0, u "java/util/Collections$UnmodifiableRandomAccessList"), (6, .class_ 224), (0, u "java/util/Collections$UnmodifiableMap"), (6, .class_ 232), (0, u "java/util/Collections$UnmodifiableSequencedMap"), (4, .class_ 238), (0, u "java/util/Collections$UnmodifiableSortedMap"), (6, .class_ 246), (0, u "java/util/Collections$UnmodifiableNavigableMap"), (3, .class_ 251), (0, u "java/util/Collections$SynchronizedCollection"), (4, .class_ 257), (0, u "java/util/Collections$SynchronizedSet"), (4, .class_ 263), (0, u "java/util/Collections$SynchronizedSortedSet"), (1, .class_ 266), (0, u "java/util/Collections$SynchronizedNavigableSet"), (1, .class_ 269), (0, u "java/util/Collections$SynchronizedRandomAccessList"), (1, .class_ 272), (0, u "java/util/Collections$SynchronizedList"), (5, .class_ 279), (0, u "java/util/Collections$SynchronizedMap"), (1, .class_ 282), (0, u "java/util/Collections$SynchronizedSortedMap"), (1, .class_ 285), (0, u "java/util/Collections$SynchronizedNavigableMap"), (1, .class_ 288), (0, u "java/util/Collections$CheckedCollection"), (11, .class_ 301), (0, u "java/util/Collections$CheckedQueue"), (3, .class_ 306), (0, u "java/util/Collections$CheckedSet"), (3, .class_ 311), (0, u "java/util/Collections$CheckedSortedSet"), (3, .class_ 316), (0, u "java/util/Collections$CheckedNavigableSet"), (3, .class_ 321), (0, u "java/util/Collections$CheckedRandomAccessList"), (3, .class_ 326), (0, u "java/util/Collections$CheckedList"), (1, .class_ 329), (0, u "java/util/Collections$CheckedMap"), (3, .class_ 334), (0, u "java/util/Collections$CheckedSortedMap"), (3, .class_ 339), (0, u "java/util/Collections$CheckedNavigableMap"), (4, .class_ 346), (1, u "java/util/Collections$EmptyIterator"), (3, .class_ 352), (1, u "java/util/Collections$EmptyListIterator"), (2, .class_ 357), (1, u "java/util/Collections$EmptyEnumeration"), (4, u "EMPTY_SET"), (0, u "Ljava/util/Set;"), (6, u "EMPTY_LIST"), (0, u "Ljava/util/List;"), (2, u "EMPTY_MAP"), (0, u "Ljava/util/Map;"), (4, .class_ 381), (0, u "java/util/Collections$SingletonSet"), (2, .class_ 385), (0, u "java/util/Collections$1"), (1, .class_ 388), (0, u "java/util/Collections$2"), (1, .class_ 391), (0, u "java/util/Collections$SingletonList"), (1, .class_ 394), (0, u "java/util/Collections$SingletonMap"), (22, .class_ 418), (0, u "java/util/Collections$CopiesList"), (4, .class_ 425), (1, u "java/util/Collections$ReverseComparator"), (8, .class_ 435), (0, u "java/util/Collections$ReverseComparator2"), (6, .class_ 443), (0, u "java/util/Collections$3"), (25, .class_ 470), (0, u "java/util/Collections$SetFromMap"), (2, .class_ 474), (0, u "java/util/Collections$SequencedSetFromMap"), (3, .class_ 479), (0, u "java/util/Collections$AsLIFOQueue"), (11, .class_ 492), (0, u "java/util/Collections$EmptySet"), (1, .class_ 495), (0, u "java/util/Collections$EmptyList"), (1, .class_ 498), (0, u "java/util/Collections$EmptyMap"), (1, u "BINARYSEARCH_THRESHOLD"), (0, u "I"), (2, u "REVERSE_THRESHOLD"), (1, u "SHUFFLE_THRESHOLD"), (1, u "FILL_THRESHOLD"), (1, u "ROTATE_THRESHOLD"), (1, u "COPY_THRESHOLD"), (1, u "REPLACEALL_THRESHOLD"), (1, u "INDEXOFSUBLIST_THRESHOLD"), (333, .class_ 851), (0, u "java/util/Collections$CheckedMap$CheckedEntrySet"), (0, .class_ 853), (0, u "java/util/Collections$CheckedMap$CheckedEntrySet$CheckedEntry"), (0, .class_ 855), (0, u "java/util/Collections$CheckedMap$CheckedEntrySet$1"), (0, .class_ 857), (0, u "java/util/Collections$CheckedList$1"), (0, .class_ 859), (0, u "java/util/Collections$CheckedCollection$1"), (0, .class_ 861), (0, u "java/util/Collections$UnmodifiableNavigableMap$EmptyNavigableMap"), (0, .class_ 863), (0, u "java/util/Collections$UnmodifiableMap$UnmodifiableEntrySet"), (0, .class_ 865), (0, u "java/util/Collections$UnmodifiableMap$UnmodifiableEntrySet$UnmodifiableEntry"), (0, .class_ 867), (0, u "java/util/Collections$UnmodifiableMap$UnmodifiableEntrySet$UnmodifiableEntrySetSpliterator"), (0, .class_ 869), (0, u "java/util/Collections$UnmodifiableMap$UnmodifiableEntrySet$1"), (0, .class_ 871), (0, u "java/util/Collections$UnmodifiableList$1"), (0, .class_ 873), (0, u "java/util/Collections$UnmodifiableNavigableSet$EmptyNavigableSet"), (0, .class_ 875), (0, u "java/util/Collections$UnmodifiableCollection$1")] 57

def k38m0 : Method := { name := "<init>", desc := "()V", sig := { parameters := [], returnType := none }, accessFlags := 2, code := none }
/-- java/util/Collections -/
def k38 : Class := { plain "java/util/Collections" (some 0) with
  accessFlags := 33
  interfaces := #[]
  cf := some (fileOf pool38 19 #[.nestMembers #[478, 473, 469, 434, 423, 417, 393, 390, 380, 497, 494, 491, 355, 350, 344, 338, 333, 328, 850, 852, 854, 320, 325, 856, 315, 310, 305, 300, 287, 858, 284, 281, 278, 268, 271, 265, 262, 256, 250, 245, 860, 237, 231, 223, 862, 864, 866, 868, 215, 212, 870, 206, 872, 198, 190, 182, 174, 166, 874, 442, 387, 384]] #[{ accessFlags := 2, nameIndex := 5, descriptorIndex := 6, attributes := #[] }] 33 2 #[] #[{ accessFlags := 26, nameIndex := 500, descriptorIndex := 501, attributes := #[] }, { accessFlags := 26, nameIndex := 504, descriptorIndex := 501, attributes := #[] }, { accessFlags := 26, nameIndex := 506, descriptorIndex := 501, attributes := #[] }, { accessFlags := 26, nameIndex := 508, descriptorIndex := 501, attributes := #[] }, { accessFlags := 26, nameIndex := 510, descriptorIndex := 501, attributes := #[] }, { accessFlags := 26, nameIndex := 512, descriptorIndex := 501, attributes := #[] }, { accessFlags := 26, nameIndex := 514, descriptorIndex := 501, attributes := #[] }, { accessFlags := 26, nameIndex := 516, descriptorIndex := 501, attributes := #[] }, { accessFlags := 10, nameIndex := 84, descriptorIndex := 85, attributes := #[] }, { accessFlags := 25, nameIndex := 362, descriptorIndex := 363, attributes := #[] }, { accessFlags := 25, nameIndex := 370, descriptorIndex := 371, attributes := #[] }, { accessFlags := 25, nameIndex := 374, descriptorIndex := 375, attributes := #[] }])
  fields := #[{ name := "BINARYSEARCH_THRESHOLD", type := .int, accessFlags := 26, slot := 0, constantValue := 0 }, { name := "REVERSE_THRESHOLD", type := .int, accessFlags := 26, slot := 1, constantValue := 0 }, { name := "SHUFFLE_THRESHOLD", type := .int, accessFlags := 26, slot := 2, constantValue := 0 }, { name := "FILL_THRESHOLD", type := .int, accessFlags := 26, slot := 3, constantValue := 0 }, { name := "ROTATE_THRESHOLD", type := .int, accessFlags := 26, slot := 4, constantValue := 0 }, { name := "COPY_THRESHOLD", type := .int, accessFlags := 26, slot := 5, constantValue := 0 }, { name := "REPLACEALL_THRESHOLD", type := .int, accessFlags := 26, slot := 6, constantValue := 0 }, { name := "INDEXOFSUBLIST_THRESHOLD", type := .int, accessFlags := 26, slot := 7, constantValue := 0 }, { name := "r", type := (.object "java/util/Random"), accessFlags := 10, slot := 8, constantValue := 0 }, { name := "EMPTY_SET", type := (.object "java/util/Set"), accessFlags := 25, slot := 9, constantValue := 0 }, { name := "EMPTY_LIST", type := (.object "java/util/List"), accessFlags := 25, slot := 10, constantValue := 0 }, { name := "EMPTY_MAP", type := (.object "java/util/Map"), accessFlags := 25, slot := 11, constantValue := 0 }]
  methods := #[k38m0]
  instanceTypes := #[]
  staticTypes := #[.int, .int, .int, .int, .int, .int, .int, .int, (.object "java/util/Random"), (.object "java/util/Set"), (.object "java/util/List"), (.object "java/util/Map")]
  resolved := Array.replicate 933 none
  statics := some 5 }

def pool39 : Array CpInfo := pool [(2, .class_ 4), (1, u "java/util/AbstractList"), (0, u "<init>"), (0, u "()V"), (1, .class_ 10), (1, u "java/util/Collections"), (54, .class_ 66), (0, u "java/util/Collections$EmptyList"), (0, .class_ 68), (0, u "java/util/RandomAccess"), (0, .class_ 70), (0, u "java/io/Serializable"), (0, u "serialVersionUID"), (0, u "J")] 77

def k39m0 : Method := { name := "<init>", desc := "()V", sig := { parameters := [], returnType := none }, accessFlags := 2, code := none }
/-- java/util/Collections$EmptyList -/
def k39 : Class := { plain "java/util/Collections$EmptyList" (some 14) with
  accessFlags := 32
  interfaces := #[15, 2]
  cf := some (fileOf pool39 65 #[.nestHost 8] #[{ accessFlags := 2, nameIndex := 5, descriptorIndex := 6, attributes := #[] }] 32 2 #[67, 69] #[{ accessFlags := 26, nameIndex := 71, descriptorIndex := 72, attributes := #[] }])
  fields := #[{ name := "serialVersionUID", type := .long, accessFlags := 26, slot := 0, constantValue := 0 }]
  methods := #[k39m0]
  instanceTypes := #[.int]
  staticTypes := #[.long]
  resolved := Array.replicate 150 none
  statics := none }

def pool40 : Array CpInfo := pool [(2, .class_ 4), (1, u "java/lang/StackTraceElement"), (0, u "<init>"), (2, .class_ 10), (1, u "java/lang/Object"), (0, u "()V"), (2, u "format"), (0, u "B"), (2, u "classLoaderName"), (0, u "Ljava/lang/String;"), (2, u "moduleName"), (2, u "moduleVersion"), (12, u "declaringClass"), (4, u "methodName"), (2, u "fileName"), (2, u "lineNumber"), (0, u "I"), (65, u "declaringClassObject"), (0, u "Ljava/lang/Class;"), (33, .class_ 153), (1, u "java/lang/StackTraceElement$HashedModules"), (17, .class_ 172), (0, u "java/io/Serializable"), (0, u "NATIVE_METHOD"), (1, u "UNKNOWN_SOURCE"), (2, u "BUILTIN_CLASS_LOADER"), (1, u "JDK_NON_UPGRADEABLE_MODULE"), (1, u "serialVersionUID"), (0, u "J")] 51

def k40m0 : Method := { name := "<init>", desc := "()V", sig := { parameters := [], returnType := none }, accessFlags := 2, code := none }
/-- java/lang/StackTraceElement -/
def k40 : Class := { plain "java/lang/StackTraceElement" (some 0) with
  accessFlags := 49
  interfaces := #[2]
  cf := some (fileOf pool40 2 #[.nestMembers #[151]] #[{ accessFlags := 2, nameIndex := 5, descriptorIndex := 11, attributes := #[] }] 49 8 #[171] #[{ accessFlags := 26, nameIndex := 173, descriptorIndex := 19, attributes := #[] }, { accessFlags := 26, nameIndex := 175, descriptorIndex := 19, attributes := #[] }, { accessFlags := 130, nameIndex := 116, descriptorIndex := 117, attributes := #[] }, { accessFlags := 2, nameIndex := 18, descriptorIndex := 19, attributes := #[] }, { accessFlags := 2, nameIndex := 22, descriptorIndex := 19, attributes := #[] }, { accessFlags := 2, nameIndex := 25, descriptorIndex := 19, attributes := #[] }, { accessFlags := 2, nameIndex := 38, descriptorIndex := 19, attributes := #[] }, { accessFlags := 2, nameIndex := 43, descriptorIndex := 19, attributes := #[] }, { accessFlags := 2, nameIndex := 46, descriptorIndex := 19, attributes := #[] }, { accessFlags := 2, nameIndex := 49, descriptorIndex := 50, attributes := #[] }, { accessFlags := 2, nameIndex := 14, descriptorIndex := 15, attributes := #[] }, { accessFlags := 26, nameIndex := 178, descriptorIndex := 15, attributes := #[] }, { accessFlags := 26, nameIndex := 180, descriptorIndex := 15, attributes := #[] }, { accessFlags := 26, nameIndex := 182, descriptorIndex := 183, attributes := #[] }])
  fields := #[{ name := "NATIVE_METHOD", type := (.object "java/lang/String"), accessFlags := 26, slot := 0, constantValue := 0 }, { name := "UNKNOWN_SOURCE", type := (.object "java/lang/String"), accessFlags := 26, slot := 1, constantValue := 0 }, { name := "declaringClassObject", type := (.object "java/lang/Class"), accessFlags := 130, slot := 0, constantValue := 0 }, { name := "classLoaderName", type := (.object "java/lang/String"), accessFlags := 2, slot := 1, constantValue := 0 }, { name := "moduleName", type := (.object "java/lang/String"), accessFlags := 2, slot := 2, constantValue := 0 }, { name := "moduleVersion", type := (.object "java/lang/String"), accessFlags := 2, slot := 3, constantValue := 0 }, { name := "declaringClass", type := (.object "java/lang/String"), accessFlags := 2, slot := 4, constantValue := 0 }, { name := "methodName", type := (.object "java/lang/String"), accessFlags := 2, slot := 5, constantValue := 0 }, { name := "fileName", type := (.object "java/lang/String"), accessFlags := 2, slot := 6, constantValue := 0 }, { name := "lineNumber", type := .int, accessFlags := 2, slot := 7, constantValue := 0 }, { name := "format", type := .byte, accessFlags := 2, slot := 8, constantValue := 0 }, { name := "BUILTIN_CLASS_LOADER", type := .byte, accessFlags := 26, slot := 2, constantValue := 0 }, { name := "JDK_NON_UPGRADEABLE_MODULE", type := .byte, accessFlags := 26, slot := 3, constantValue := 0 }, { name := "serialVersionUID", type := .long, accessFlags := 26, slot := 4, constantValue := 0 }]
  methods := #[k40m0]
  instanceTypes := #[(.object "java/lang/Class"), (.object "java/lang/String"), (.object "java/lang/String"), (.object "java/lang/String"), (.object "java/lang/String"), (.object "java/lang/String"), (.object "java/lang/String"), .int, .byte]
  staticTypes := #[(.object "java/lang/String"), (.object "java/lang/String"), .byte, .byte, .long]
  resolved := Array.replicate 235 none
  statics := none }

def pool41 : Array CpInfo := pool [(1, u "java/lang/Class"), (0, .class_ 1), (0, u "java/lang/Object"), (0, .class_ 3)] 0

/-- java/lang/Class -/
def k41 : Class := { plain "java/lang/Class" (some 0) with
  accessFlags := 49
  interfaces := #[]
  cf := some (fileOf pool41 2 #[] #[] 49 4 #[] #[])
  fields := #[]
  methods := #[]
  instanceTypes := #[]
  staticTypes := #[]
  resolved := Array.replicate 5 none
  statics := none }

/-- the primitive byte -/
def k42 : Class := { plain "byte" none with kind := .primitive 'B', accessFlags := 0x411 }
/-- [B -/
def k43 : Class := { plain "[B" (some 0) with kind := .array 42 .byte, interfaces := #[16, 2], accessFlags := 1041 }

/-- the primitive char -/
def k44 : Class := { plain "char" none with kind := .primitive 'C', accessFlags := 0x411 }
/-- [C -/
def k45 : Class := { plain "[C" (some 0) with kind := .array 44 .char, interfaces := #[16, 2], accessFlags := 1041 }

/-- the primitive int -/
def k46 : Class := { plain "int" none with kind := .primitive 'I', accessFlags := 0x411 }
/-- [I -/
def k47 : Class := { plain "[I" (some 0) with kind := .array 46 .int, interfaces := #[16, 2], accessFlags := 1041 }

/-- [Ljava/lang/Object; -/
def k48 : Class := { plain "[Ljava/lang/Object;" (some 0) with kind := .array 0 (.object "java/lang/Object"), interfaces := #[16, 2], accessFlags := 1041, mirror := some 6 }

/-- [Ljava/lang/StackTraceElement; -/
def k49 : Class := { plain "[Ljava/lang/StackTraceElement;" (some 0) with kind := .array 40 (.object "java/lang/StackTraceElement"), interfaces := #[16, 2], accessFlags := 1041 }

/-- [Ljava/lang/Throwable; -/
def k50 : Class := { plain "[Ljava/lang/Throwable;" (some 0) with kind := .array 21 (.object "java/lang/Throwable"), interfaces := #[16, 2], accessFlags := 1041 }

def heap : Heap := #[{ cls := 7, slots := #[.long 0, .int 1, .null, .int 0, .null, .int 0, .int 0], vm := .statics 7 },
  { cls := 17, slots := #[.long 0, .int 0, .ref 7, .ref 8], vm := .statics 17 },
  { cls := 21, slots := #[.long 0, .ref 9, .ref 10, .null, .null, .null, .null, .ref 11, .int 1], vm := .statics 21 },
  { cls := 25, slots := #[.null, .null, .null], vm := .statics 25 },
  { cls := 31, slots := #[.long 0, .int 0, .null, .ref 12, .ref 13, .null, .null, .null, .int 0, .int 1], vm := .statics 31 },
  { cls := 38, slots := #[.int 0, .int 0, .int 0, .int 0, .int 0, .int 0, .int 0, .int 0, .null, .null, .ref 10, .null], vm := .statics 38 },
  { cls := 41, slots := #[], vm := .mirror 48 },
  { cls := 48, slots := #[], vm := .none },
  { cls := 48, slots := #[], vm := .none },
  { cls := 49, slots := #[], vm := .none },
  { cls := 39, slots := #[.int 0], vm := .none },
  { cls := 50, slots := #[], vm := .none },
  { cls := 0, slots := #[], vm := .none },
  { cls := 35, slots := #[.null, .int 0], vm := .none }]
def classes : Array Class := #[k0, k1, k2, k3, k4, k5, k6, k7, k8, k9, k10, k11, k12, k13, k14, k15, k16, k17, k18, k19, k20, k21, k22, k23, k24, k25, k26, k27, k28, k29, k30, k31, k32, k33, k34, k35, k36, k37, k38, k39, k40, k41, k42, k43, k44, k45, k46, k47, k48, k49, k50]
def interned : List (Array UInt16 × Addr) := []
def slotsUsed : Nat := 48
def theMethod : MethodId := ⟨1, 2⟩
def args0 : Array Value := #[.int 65601, .int 131073, .int 3, .int 65602]
def aboutOver (below : List Frame) : State where
  vm := { classes := classes, interned := interned.toArray }
  heap := heap
  slotsUsed := slotsUsed
  threads := #[{ frames := .invoking theMethod args0 :: below }]
def below0 : List Frame := [.native { method := ⟨0, 0⟩, args := #[] }]
def about1 : State := aboutOver below0
def p0 : Program := .bare "" "" ""
def e0 : Env := launch0.env 0 0 0
theorem w_frames : about1.frames = Frame.invoking theMethod args0 :: below0 := rfl
set_option maxRecDepth 65536 in
theorem w_args : argsFit about1.vm theMethod args0 = true := by decide +kernel
set_option maxRecDepth 65536 in
theorem w_heap : heapFits about1 = true := by decide +kernel
set_option maxRecDepth 65536 in
theorem w_runnable : about1.curStatus? = some .runnable := by decide +kernel
set_option maxRecDepth 65536 in
theorem w_alone : about1.alone = true := by decide +kernel
set_option maxRecDepth 65536 in
theorem w_named : about1.methodNamed? x = some theMethod := by decide +kernel
set_option maxRecDepth 65536 in
theorem w_hears : about1.hears theMethod below0 = true := by decide +kernel
set_option maxRecDepth 65536 in
theorem w_ripe : about1.ripe theMethod args0 below0 = true := by decide +kernel
theorem w_running : about1.status = .running := rfl
set_option maxRecDepth 65536 in
theorem w_room : about1.hasRoom e0.platform room_1 = true :=
  launch0.hasRoom_least _ room_1 (by decide +kernel) (by decide +kernel) (by decide +kernel) (by decide +kernel) (by decide +kernel) (by decide +kernel)
theorem allAtoms_all (ts : List Jvm.Cond) (a : Array Jvm.Value) (st : Jvm.State) : (allAtoms ts).before a st = ts.all (fun c => c.before a st) := by
  induction ts with
  | nil => rfl
  | cons c t ih =>
    show (Jvm.Cond.and c (allAtoms t)).before a st = _
    rw [Jvm.Cond.before_and, ih, List.all_cons]
def words1 : List Jvm.Cond := Jvm.Cond.code x code maxLocals ret :: tables_1
/-- a 'code' word, met by the world's own term for the bytes: nothing is compared byte by byte -/
theorem code_word {y : MethodName} {bytes : ByteArray} {mx : Nat} {rt : Option FieldType} {a : Array Value} {s : State} {m : MethodId} {meth : Method} {c : Code} (h1 : s.methodNamed? y = some m) (h2 : s.vm.method? m = some meth) (h3 : meth.code = some c) (h4 : c.code = bytes)
    (h5 : (c.maxLocals == mx && c.exceptionTable.isEmpty && decide (c.maxStack ≤ mostOperands) && decide (meth.sig.returnType = rt) && !meth.locks && decide (parseMethodDescriptor y.desc = some meth.sig)) = true) : (Jvm.Cond.code y bytes mx rt).before a s = true := by
  simp only [Bool.and_eq_true, beq_iff_eq, Bool.not_eq_true', decide_eq_true_eq] at h5
  obtain ⟨⟨⟨⟨⟨g1, g2⟩, g3⟩, g4⟩, g5⟩, g6⟩ := h5
  simp [Cond.before, Cond.holds, Cond.value, h1, h2, h3, h4, g1, g2, g3, g4, g5, g6]
def isCode : Jvm.Cond → Bool
  | .code _ _ _ _ => true
  | _ => false
theorem all_split {L : List Jvm.Cond} {P : Jvm.Cond → Bool} (h1 : L.all (fun c => isCode c || P c) = true) (h2 : ∀ c ∈ L.filter isCode, P c = true) : L.all P = true := by
  refine List.all_eq_true.mpr fun c hc => ?_
  have h := List.all_eq_true.mp h1 c hc
  rcases Bool.eq_false_or_eq_true (isCode c) with hi | hi
  · exact h2 c (List.mem_filter.mpr ⟨hc, hi⟩)
  · simpa [hi] using h
set_option maxRecDepth 65536 in
theorem w_c0 : (Jvm.Cond.code x code maxLocals ret).before args0 about1 = true := code_word (m := ⟨1, 2⟩) (meth := k1m2) (c := k1c2) (by decide +kernel) rfl rfl rfl (by decide +kernel)
set_option maxRecDepth 65536 in
theorem w_c1 : (Jvm.Cond.code ({ cls := "com/example/grantline/grantline/PolicyExceptionPointerPinLaw", name := "str", desc := "(I)Ljava/lang/String;" } : Jvm.MethodName) method_2_code (2 : Nat) (Option.some (Jvm.ClassFile.FieldType.object "java/lang/String"))).before args0 about1 = true := code_word (m := ⟨1, 1⟩) (meth := k1m1) (c := k1c1) (by decide +kernel) rfl rfl rfl (by decide +kernel)
set_option maxRecDepth 65536 in
theorem w_c2 : (Jvm.Cond.code ({ cls := "java/lang/String", name := "<init>", desc := "([C)V" } : Jvm.MethodName) jdk_42_method_3_code (2 : Nat) (Option.none : Option Jvm.ClassFile.FieldType)).before args0 about1 = true := code_word (m := ⟨7, 1⟩) (meth := k7m1) (c := k7c1) (by decide +kernel) rfl rfl rfl (by decide +kernel)
set_option maxRecDepth 65536 in
theorem w_c3 : (Jvm.Cond.code ({ cls := "java/lang/String", name := "<init>", desc := "([CIILjava/lang/Void;)V" } : Jvm.MethodName) jdk_42_method_149_code (6 : Nat) (Option.none : Option Jvm.ClassFile.FieldType)).before args0 about1 = true := code_word (m := ⟨7, 6⟩) (meth := k7m6) (c := k7c6) (by decide +kernel) rfl rfl rfl (by decide +kernel)
set_option maxRecDepth 65536 in
theorem w_c4 : (Jvm.Cond.code ({ cls := "java/lang/Object", name := "<init>", desc := "()V" } : Jvm.MethodName) object_method_1_code (1 : Nat) (Option.none : Option Jvm.ClassFile.FieldType)).before args0 about1 = true := code_word (m := ⟨0, 0⟩) (meth := k0m0) (c := k0c0) (by decide +kernel) rfl rfl rfl (by decide +kernel)
set_option maxRecDepth 65536 in
theorem w_c5 : (Jvm.Cond.code ({ cls := "java/lang/StringUTF16", name := "compress", desc := "([CII)[B" } : Jvm.MethodName) jdk_52_method_16_code (6 : Nat) (Option.some (Jvm.ClassFile.FieldType.array Jvm.ClassFile.FieldType.byte))).before args0 about1 = true := code_word (m := ⟨8, 2⟩) (meth := k8m2) (c := k8c2) (by decide +kernel) rfl rfl rfl (by decide +kernel)
set_option maxRecDepth 65536 in
theorem w_c6 : (Jvm.Cond.code ({ cls := "java/lang/StringUTF16", name := "compress", desc := "([CI[BII)I" } : Jvm.MethodName) jdk_52_method_21_code (7 : Nat) (Option.some Jvm.ClassFile.FieldType.int)).before args0 about1 = true := code_word (m := ⟨8, 3⟩) (meth := k8m3) (c := k8c3) (by decide +kernel) rfl rfl rfl (by decide +kernel)
set_option maxRecDepth 65536 in
theorem w_c7 : (Jvm.Cond.code ({ cls := "java/lang/StringUTF16", name := "coderFromArrayLen", desc := "([BI)B" } : Jvm.MethodName) jdk_52_method_15_code (2 : Nat) (Option.some Jvm.ClassFile.FieldType.byte)).before args0 about1 = true := code_word (m := ⟨8, 1⟩) (meth := k8m1) (c := k8c1) (by decide +kernel) rfl rfl rfl (by decide +kernel)
set_option maxRecDepth 65536 in
theorem w_c8 : (Jvm.Cond.code ({ cls := "java/util/ArrayList", name := "<init>", desc := "()V" } : Jvm.MethodName) jdk_38_method_2_code (1 : Nat) (Option.none : Option Jvm.ClassFile.FieldType)).before args0 about1 = true := code_word (m := ⟨17, 0⟩) (meth := k17m0) (c := k17c0) (by decide +kernel) rfl rfl rfl (by decide +kernel)
set_option maxRecDepth 65536 in
theorem w_c9 : (Jvm.Cond.code ({ cls := "java/util/AbstractList", name := "<init>", desc := "()V" } : Jvm.MethodName) jdk_39_method_1_code (1 : Nat) (Option.none : Option Jvm.ClassFile.FieldType)).before args0 about1 = true := code_word (m := ⟨14, 0⟩) (meth := k14m0) (c := k14c0) (by decide +kernel) rfl rfl rfl (by decide +kernel)
set_option maxRecDepth 65536 in
theorem w_c10 : (Jvm.Cond.code ({ cls := "java/util/AbstractCollection", name := "<init>", desc := "()V" } : Jvm.MethodName) jdk_22_method_1_code (1 : Nat) (Option.none : Option Jvm.ClassFile.FieldType)).before args0 about1 = true := code_word (m := ⟨11, 0⟩) (meth := k11m0) (c := k11c0) (by decide +kernel) rfl rfl rfl (by decide +kernel)
set_option maxRecDepth 65536 in
theorem w_c11 : (Jvm.Cond.code ({ cls := "com/example/grantline/grantline/PolicyException$Problem", name := "<init>", desc := "(Ljava/lang/String;Ljava/lang/String;)V" } : Jvm.MethodName) prog_17_method_1_code (3 : Nat) (Option.none : Option Jvm.ClassFile.FieldType)).before args0 about1 = true := code_word (m := ⟨19, 0⟩) (meth := k19m0) (c := k19c0) (by decide +kernel) rfl rfl rfl (by decide +kernel)
set_option maxRecDepth 65536 in
theorem w_c12 : (Jvm.Cond.code ({ cls := "java/lang/Record", name := "<init>", desc := "()V" } : Jvm.MethodName) jdk_30_method_1_code (1 : Nat) (Option.none : Option Jvm.ClassFile.FieldType)).before args0 about1 = true := code_word (m := ⟨18, 0⟩) (meth := k18m0) (c := k18c0) (by decide +kernel) rfl rfl rfl (by decide +kernel)
set_option maxRecDepth 65536 in
theorem w_c13 : (Jvm.Cond.code ({ cls := "java/util/ArrayList", name := "add", desc := "(Ljava/lang/Object;)Z" } : Jvm.MethodName) jdk_38_method_25_code (2 : Nat) (Option.some Jvm.ClassFile.FieldType.boolean)).before args0 about1 = true := code_word (m := ⟨17, 8⟩) (meth := k17m8) (c := k17c8) (by decide +kernel) rfl rfl rfl (by decide +kernel)
set_option maxRecDepth 65536 in
theorem w_c14 : (Jvm.Cond.code ({ cls := "java/util/ArrayList", name := "add", desc := "(Ljava/lang/Object;[Ljava/lang/Object;I)V" } : Jvm.MethodName) jdk_38_method_24_code (4 : Nat) (Option.none : Option Jvm.ClassFile.FieldType)).before args0 about1 = true := code_word (m := ⟨17, 7⟩) (meth := k17m7) (c := k17c7) (by decide +kernel) rfl rfl rfl (by decide +kernel)
set_option maxRecDepth 65536 in
theorem w_c15 : (Jvm.Cond.code ({ cls := "java/util/ArrayList", name := "grow", desc := "()[Ljava/lang/Object;" } : Jvm.MethodName) jdk_38_method_7_code (1 : Nat) (Option.some (Jvm.ClassFile.FieldType.array (Jvm.ClassFile.FieldType.object "java/lang/Object")))).before args0 about1 = true := code_word (m := ⟨17, 2⟩) (meth := k17m2) (c := k17c2) (by decide +kernel) rfl rfl rfl (by decide +kernel)
set_option maxRecDepth 65536 in
theorem w_c16 : (Jvm.Cond.code ({ cls := "java/util/ArrayList", name := "grow", desc := "(I)[Ljava/lang/Object;" } : Jvm.MethodName) jdk_38_method_6_code (4 : Nat) (Option.some (Jvm.ClassFile.FieldType.array (Jvm.ClassFile.FieldType.object "java/lang/Object")))).before args0 about1 = true := code_word (m := ⟨17, 1⟩) (meth := k17m1) (c := k17c1) (by decide +kernel) rfl rfl rfl (by decide +kernel)
set_option maxRecDepth 65536 in
theorem w_c17 : (Jvm.Cond.code ({ cls := "java/lang/Math", name := "max", desc := "(II)I" } : Jvm.MethodName) jdk_29_method_65_code (2 : Nat) (Option.some Jvm.ClassFile.FieldType.int)).before args0 about1 = true := code_word (m := ⟨20, 1⟩) (meth := k20m1) (c := k20c1) (by decide +kernel) rfl rfl rfl (by decide +kernel)
set_option maxRecDepth 65536 in
theorem w_c18 : (Jvm.Cond.code ({ cls := "com/example/grantline/grantline/PolicyException", name := "<init>", desc := "(Ljava/util/List;)V" } : Jvm.MethodName) prog_16_method_2_code (2 : Nat) (Option.none : Option Jvm.ClassFile.FieldType)).before args0 about1 = true := code_word (m := ⟨23, 0⟩) (meth := k23m0) (c := k23c0) (by decide +kernel) rfl rfl rfl (by decide +kernel)
set_option maxRecDepth 65536 in
theorem w_c19 : (Jvm.Cond.code ({ cls := "com/example/grantline/grantline/PolicyException", name := "first", desc := "(Ljava/util/List;)Lcom/example/grantline/grantline/PolicyException$Problem;" } : Jvm.MethodName) prog_16_method_3_code (1 : Nat) (Option.some (Jvm.ClassFile.FieldType.object "com/example/grantline/grantline/PolicyException$Problem"))).before args0 about1 = true := code_word (m := ⟨23, 1⟩) (meth := k23m1) (c := k23c1) (by decide +kernel) rfl rfl rfl (by decide +kernel)
set_option maxRecDepth 65536 in
theorem w_c20 : (Jvm.Cond.code ({ cls := "java/util/ArrayList", name := "isEmpty", desc := "()Z" } : Jvm.MethodName) jdk_38_method_9_code (1 : Nat) (Option.some Jvm.ClassFile.FieldType.boolean)).before args0 about1 = true := code_word (m := ⟨17, 3⟩) (meth := k17m3) (c := k17c3) (by decide +kernel) rfl rfl rfl (by decide +kernel)
set_option maxRecDepth 65536 in
theorem w_c21 : (Jvm.Cond.code ({ cls := "java/util/ArrayList", name := "get", desc := "(I)Ljava/lang/Object;" } : Jvm.MethodName) jdk_38_method_20_code (2 : Nat) (Option.some (Jvm.ClassFile.FieldType.object "java/lang/Object"))).before args0 about1 = true := code_word (m := ⟨17, 6⟩) (meth := k17m6) (c := k17c6) (by decide +kernel) rfl rfl rfl (by decide +kernel)
set_option maxRecDepth 65536 in
theorem w_c22 : (Jvm.Cond.code ({ cls := "java/util/Objects", name := "checkIndex", desc := "(II)I" } : Jvm.MethodName) jdk_31_method_17_code (2 : Nat) (Option.some Jvm.ClassFile.FieldType.int)).before args0 about1 = true := code_word (m := ⟨24, 2⟩) (meth := k24m2) (c := k24c2) (by decide +kernel) rfl rfl rfl (by decide +kernel)
set_option maxRecDepth 65536 in
theorem w_c23 : (Jvm.Cond.code ({ cls := "jdk/internal/util/Preconditions", name := "checkIndex", desc := "(IILjava/util/function/BiFunction;)I" } : Jvm.MethodName) jdk_41_method_11_code (3 : Nat) (Option.some Jvm.ClassFile.FieldType.int)).before args0 about1 = true := code_word (m := ⟨25, 1⟩) (meth := k25m1) (c := k25c1) (by decide +kernel) rfl rfl rfl (by decide +kernel)
set_option maxRecDepth 65536 in
theorem w_c24 : (Jvm.Cond.code ({ cls := "java/util/ArrayList", name := "elementData", desc := "(I)Ljava/lang/Object;" } : Jvm.MethodName) jdk_38_method_18_code (2 : Nat) (Option.some (Jvm.ClassFile.FieldType.object "java/lang/Object"))).before args0 about1 = true := code_word (m := ⟨17, 5⟩) (meth := k17m5) (c := k17c5) (by decide +kernel) rfl rfl rfl (by decide +kernel)
set_option maxRecDepth 65536 in
theorem w_c25 : (Jvm.Cond.code ({ cls := "com/example/grantline/grantline/PolicyException$Problem", name := "toString", desc := "()Ljava/lang/String;" } : Jvm.MethodName) prog_17_method_2_code (1 : Nat) (Option.some (Jvm.ClassFile.FieldType.object "java/lang/String"))).before args0 about1 = true := code_word (m := ⟨19, 1⟩) (meth := k19m1) (c := k19c1) (by decide +kernel) rfl rfl rfl (by decide +kernel)
set_option maxRecDepth 65536 in
theorem w_c26 : (Jvm.Cond.code ({ cls := "java/lang/StringBuilder", name := "<init>", desc := "()V" } : Jvm.MethodName) jdk_67_method_1_code (1 : Nat) (Option.none : Option Jvm.ClassFile.FieldType)).before args0 about1 = true := code_word (m := ⟨28, 0⟩) (meth := k28m0) (c := k28c0) (by decide +kernel) rfl rfl rfl (by decide +kernel)
set_option maxRecDepth 65536 in
theorem w_c27 : (Jvm.Cond.code ({ cls := "java/lang/AbstractStringBuilder", name := "<init>", desc := "(I)V" } : Jvm.MethodName) jdk_68_method_2_code (2 : Nat) (Option.none : Option Jvm.ClassFile.FieldType)).before args0 about1 = true := code_word (m := ⟨27, 1⟩) (meth := k27m1) (c := k27c1) (by decide +kernel) rfl rfl rfl (by decide +kernel)
set_option maxRecDepth 65536 in
theorem w_c28 : (Jvm.Cond.code ({ cls := "java/lang/StringBuilder", name := "append", desc := "(Ljava/lang/String;)Ljava/lang/StringBuilder;" } : Jvm.MethodName) jdk_67_method_7_code (2 : Nat) (Option.some (Jvm.ClassFile.FieldType.object "java/lang/StringBuilder"))).before args0 about1 = true := code_word (m := ⟨28, 1⟩) (meth := k28m1) (c := k28c1) (by decide +kernel) rfl rfl rfl (by decide +kernel)
set_option maxRecDepth 65536 in
theorem w_c29 : (Jvm.Cond.code ({ cls := "java/lang/AbstractStringBuilder", name := "append", desc := "(Ljava/lang/String;)Ljava/lang/AbstractStringBuilder;" } : Jvm.MethodName) jdk_68_method_22_code (3 : Nat) (Option.some (Jvm.ClassFile.FieldType.object "java/lang/AbstractStringBuilder"))).before args0 about1 = true := code_word (m := ⟨27, 4⟩) (meth := k27m4) (c := k27c4) (by decide +kernel) rfl rfl rfl (by decide +kernel)
set_option maxRecDepth 65536 in
theorem w_c30 : (Jvm.Cond.code ({ cls := "java/lang/String", name := "length", desc := "()I" } : Jvm.MethodName) jdk_42_method_54_code (1 : Nat) (Option.some Jvm.ClassFile.FieldType.int)).before args0 about1 = true := code_word (m := ⟨7, 3⟩) (meth := k7m3) (c := k7c3) (by decide +kernel) rfl rfl rfl (by decide +kernel)
set_option maxRecDepth 65536 in
theorem w_c31 : (Jvm.Cond.code ({ cls := "java/lang/String", name := "coder", desc := "()B" } : Jvm.MethodName) jdk_42_method_152_code (1 : Nat) (Option.some Jvm.ClassFile.FieldType.byte)).before args0 about1 = true := code_word (m := ⟨7, 8⟩) (meth := k7m8) (c := k7c8) (by decide +kernel) rfl rfl rfl (by decide +kernel)
set_option maxRecDepth 65536 in
theorem w_c32 : (Jvm.Cond.code ({ cls := "java/lang/AbstractStringBuilder", name := "ensureCapacityInternal", desc := "(I)V" } : Jvm.MethodName) jdk_68_method_9_code (3 : Nat) (Option.none : Option Jvm.ClassFile.FieldType)).before args0 about1 = true := code_word (m := ⟨27, 3⟩) (meth := k27m3) (c := k27c3) (by decide +kernel) rfl rfl rfl (by decide +kernel)
set_option maxRecDepth 65536 in
theorem w_c33 : (Jvm.Cond.code ({ cls := "java/lang/AbstractStringBuilder", name := "putStringAt", desc := "(ILjava/lang/String;)V" } : Jvm.MethodName) jdk_68_method_73_code (3 : Nat) (Option.none : Option Jvm.ClassFile.FieldType)).before args0 about1 = true := code_word (m := ⟨27, 8⟩) (meth := k27m8) (c := k27c8) (by decide +kernel) rfl rfl rfl (by decide +kernel)
set_option maxRecDepth 65536 in
theorem w_c34 : (Jvm.Cond.code ({ cls := "java/lang/AbstractStringBuilder", name := "inflateIfNeededFor", desc := "(Ljava/lang/String;)V" } : Jvm.MethodName) jdk_68_method_71_code (2 : Nat) (Option.none : Option Jvm.ClassFile.FieldType)).before args0 about1 = true := code_word (m := ⟨27, 7⟩) (meth := k27m7) (c := k27c7) (by decide +kernel) rfl rfl rfl (by decide +kernel)
set_option maxRecDepth 65536 in
theorem w_c35 : (Jvm.Cond.code ({ cls := "java/lang/String", name := "getBytes", desc := "([BIB)V" } : Jvm.MethodName) jdk_42_method_147_code (4 : Nat) (Option.none : Option Jvm.ClassFile.FieldType)).before args0 about1 = true := code_word (m := ⟨7, 5⟩) (meth := k7m5) (c := k7c5) (by decide +kernel) rfl rfl rfl (by decide +kernel)
set_option maxRecDepth 65536 in
theorem w_c36 : (Jvm.Cond.code ({ cls := "java/lang/StringBuilder", name := "toString", desc := "()Ljava/lang/String;" } : Jvm.MethodName) jdk_67_method_42_code (1 : Nat) (Option.some (Jvm.ClassFile.FieldType.object "java/lang/String"))).before args0 about1 = true := code_word (m := ⟨28, 2⟩) (meth := k28m2) (c := k28c2) (by decide +kernel) rfl rfl rfl (by decide +kernel)
set_option maxRecDepth 65536 in
theorem w_c37 : (Jvm.Cond.code ({ cls := "java/lang/String", name := "<init>", desc := "(Ljava/lang/StringBuilder;)V" } : Jvm.MethodName) jdk_42_method_53_code (2 : Nat) (Option.none : Option Jvm.ClassFile.FieldType)).before args0 about1 = true := code_word (m := ⟨7, 2⟩) (meth := k7m2) (c := k7c2) (by decide +kernel) rfl rfl rfl (by decide +kernel)
set_option maxRecDepth 65536 in
theorem w_c38 : (Jvm.Cond.code ({ cls := "java/lang/String", name := "<init>", desc := "(Ljava/lang/AbstractStringBuilder;Ljava/lang/Void;)V" } : Jvm.MethodName) jdk_42_method_150_code (5 : Nat) (Option.none : Option Jvm.ClassFile.FieldType)).before args0 about1 = true := code_word (m := ⟨7, 7⟩) (meth := k7m7) (c := k7c7) (by decide +kernel) rfl rfl rfl (by decide +kernel)
set_option maxRecDepth 65536 in
theorem w_c39 : (Jvm.Cond.code ({ cls := "java/lang/AbstractStringBuilder", name := "getValue", desc := "()[B" } : Jvm.MethodName) jdk_68_method_64_code (1 : Nat) (Option.some (Jvm.ClassFile.FieldType.array Jvm.ClassFile.FieldType.byte))).before args0 about1 = true := code_word (m := ⟨27, 5⟩) (meth := k27m5) (c := k27c5) (by decide +kernel) rfl rfl rfl (by decide +kernel)
set_option maxRecDepth 65536 in
theorem w_c40 : (Jvm.Cond.code ({ cls := "java/lang/StringBuilder", name := "length", desc := "()I" } : Jvm.MethodName) jdk_67_method_93_code (1 : Nat) (Option.some Jvm.ClassFile.FieldType.int)).before args0 about1 = true := code_word (m := ⟨28, 3⟩) (meth := k28m3) (c := k28c3) (by decide +kernel) rfl rfl rfl (by decide +kernel)
set_option maxRecDepth 65536 in
theorem w_c41 : (Jvm.Cond.code ({ cls := "java/lang/AbstractStringBuilder", name := "length", desc := "()I" } : Jvm.MethodName) jdk_68_method_6_code (1 : Nat) (Option.some Jvm.ClassFile.FieldType.int)).before args0 about1 = true := code_word (m := ⟨27, 2⟩) (meth := k27m2) (c := k27c2) (by decide +kernel) rfl rfl rfl (by decide +kernel)
set_option maxRecDepth 65536 in
theorem w_c42 : (Jvm.Cond.code ({ cls := "java/lang/AbstractStringBuilder", name := "isLatin1", desc := "()Z" } : Jvm.MethodName) jdk_68_method_68_code (1 : Nat) (Option.some Jvm.ClassFile.FieldType.boolean)).before args0 about1 = true := code_word (m := ⟨27, 6⟩) (meth := k27m6) (c := k27c6) (by decide +kernel) rfl rfl rfl (by decide +kernel)
set_option maxRecDepth 65536 in
theorem w_c43 : (Jvm.Cond.code ({ cls := "java/util/Arrays", name := "copyOfRange", desc := "([BII)[B" } : Jvm.MethodName) jdk_65_method_132_code (3 : Nat) (Option.some (Jvm.ClassFile.FieldType.array Jvm.ClassFile.FieldType.byte))).before args0 about1 = true := code_word (m := ⟨30, 4⟩) (meth := k30m4) (c := k30c4) (by decide +kernel) rfl rfl rfl (by decide +kernel)
set_option maxRecDepth 65536 in
theorem w_c44 : (Jvm.Cond.code ({ cls := "java/util/Arrays", name := "copyOfRangeByte", desc := "([BII)[B" } : Jvm.MethodName) jdk_65_method_133_code (5 : Nat) (Option.some (Jvm.ClassFile.FieldType.array Jvm.ClassFile.FieldType.byte))).before args0 about1 = true := code_word (m := ⟨30, 5⟩) (meth := k30m5) (c := k30c5) (by decide +kernel) rfl rfl rfl (by decide +kernel)
set_option maxRecDepth 65536 in
theorem w_c45 : (Jvm.Cond.code ({ cls := "java/util/Arrays", name := "checkLength", desc := "(II)V" } : Jvm.MethodName) jdk_65_method_131_code (2 : Nat) (Option.none : Option Jvm.ClassFile.FieldType)).before args0 about1 = true := code_word (m := ⟨30, 3⟩) (meth := k30m3) (c := k30c3) (by decide +kernel) rfl rfl rfl (by decide +kernel)
set_option maxRecDepth 65536 in
theorem w_c46 : (Jvm.Cond.code ({ cls := "java/lang/Math", name := "min", desc := "(II)I" } : Jvm.MethodName) jdk_29_method_69_code (2 : Nat) (Option.some Jvm.ClassFile.FieldType.int)).before args0 about1 = true := code_word (m := ⟨20, 2⟩) (meth := k20m2) (c := k20c2) (by decide +kernel) rfl rfl rfl (by decide +kernel)
set_option maxRecDepth 65536 in
theorem w_c47 : (Jvm.Cond.code ({ cls := "java/lang/Exception", name := "<init>", desc := "(Ljava/lang/String;)V" } : Jvm.MethodName) jdk_59_method_2_code (2 : Nat) (Option.none : Option Jvm.ClassFile.FieldType)).before args0 about1 = true := code_word (m := ⟨22, 1⟩) (meth := k22m1) (c := k22c1) (by decide +kernel) rfl rfl rfl (by decide +kernel)
set_option maxRecDepth 65536 in
theorem w_c48 : (Jvm.Cond.code ({ cls := "java/lang/Throwable", name := "<init>", desc := "(Ljava/lang/String;)V" } : Jvm.MethodName) jdk_78_method_2_code (2 : Nat) (Option.none : Option Jvm.ClassFile.FieldType)).before args0 about1 = true := code_word (m := ⟨21, 1⟩) (meth := k21m1) (c := k21c1) (by decide +kernel) rfl rfl rfl (by decide +kernel)
set_option maxRecDepth 65536 in
theorem w_c49 : (Jvm.Cond.code ({ cls := "java/lang/Throwable", name := "<init>", desc := "()V" } : Jvm.MethodName) jdk_78_method_1_code (1 : Nat) (Option.none : Option Jvm.ClassFile.FieldType)).before args0 about1 = true := code_word (m := ⟨21, 0⟩) (meth := k21m0) (c := k21c0) (by decide +kernel) rfl rfl rfl (by decide +kernel)
set_option maxRecDepth 65536 in
theorem w_c50 : (Jvm.Cond.code ({ cls := "java/util/List", name := "copyOf", desc := "(Ljava/util/Collection;)Ljava/util/List;" } : Jvm.MethodName) jdk_40_method_48_code (1 : Nat) (Option.some (Jvm.ClassFile.FieldType.object "java/util/List"))).before args0 about1 = true := code_word (m := ⟨13, 3⟩) (meth := k13m3) (c := k13c3) (by decide +kernel) rfl rfl rfl (by decide +kernel)
set_option maxRecDepth 65536 in
theorem w_c51 : (Jvm.Cond.code ({ cls := "java/util/ImmutableCollections", name := "listCopy", desc := "(Ljava/util/Collection;)Ljava/util/List;" } : Jvm.MethodName) jdk_56_method_3_code (2 : Nat) (Option.some (Jvm.ClassFile.FieldType.object "java/util/List"))).before args0 about1 = true := code_word (m := ⟨31, 1⟩) (meth := k31m1) (c := k31c1) (by decide +kernel) rfl rfl rfl (by decide +kernel)
set_option maxRecDepth 65536 in
theorem w_c52 : (Jvm.Cond.code ({ cls := "java/util/ArrayList", name := "toArray", desc := "()[Ljava/lang/Object;" } : Jvm.MethodName) jdk_38_method_16_code (1 : Nat) (Option.some (Jvm.ClassFile.FieldType.array (Jvm.ClassFile.FieldType.object "java/lang/Object")))).before args0 about1 = true := code_word (m := ⟨17, 4⟩) (meth := k17m4) (c := k17c4) (by decide +kernel) rfl rfl rfl (by decide +kernel)
set_option maxRecDepth 65536 in
theorem w_c53 : (Jvm.Cond.code ({ cls := "java/util/Arrays", name := "copyOf", desc := "([Ljava/lang/Object;I)[Ljava/lang/Object;" } : Jvm.MethodName) jdk_65_method_119_code (2 : Nat) (Option.some (Jvm.ClassFile.FieldType.array (Jvm.ClassFile.FieldType.object "java/lang/Object")))).before args0 about1 = true := code_word (m := ⟨30, 1⟩) (meth := k30m1) (c := k30c1) (by decide +kernel) rfl rfl rfl (by decide +kernel)
set_option maxRecDepth 65536 in
theorem w_c54 : (Jvm.Cond.code ({ cls := "java/util/Arrays", name := "copyOf", desc := "([Ljava/lang/Object;ILjava/lang/Class;)[Ljava/lang/Object;" } : Jvm.MethodName) jdk_65_method_120_code (4 : Nat) (Option.some (Jvm.ClassFile.FieldType.array (Jvm.ClassFile.FieldType.object "java/lang/Object")))).before args0 about1 = true := code_word (m := ⟨30, 2⟩) (meth := k30m2) (c := k30c2) (by decide +kernel) rfl rfl rfl (by decide +kernel)
set_option maxRecDepth 65536 in
theorem w_c55 : (Jvm.Cond.code ({ cls := "java/util/List", name := "of", desc := "([Ljava/lang/Object;)Ljava/util/List;" } : Jvm.MethodName) jdk_40_method_47_code (2 : Nat) (Option.some (Jvm.ClassFile.FieldType.object "java/util/List"))).before args0 about1 = true := code_word (m := ⟨13, 2⟩) (meth := k13m2) (c := k13c2) (by decide +kernel) rfl rfl rfl (by decide +kernel)
set_option maxRecDepth 65536 in
theorem w_c56 : (Jvm.Cond.code ({ cls := "java/util/ImmutableCollections$List12", name := "<init>", desc := "(Ljava/lang/Object;Ljava/lang/Object;)V" } : Jvm.MethodName) jdk_44_method_2_code (3 : Nat) (Option.none : Option Jvm.ClassFile.FieldType)).before args0 about1 = true := code_word (m := ⟨34, 1⟩) (meth := k34m1) (c := k34c1) (by decide +kernel) rfl rfl rfl (by decide +kernel)
set_option maxRecDepth 65536 in
theorem w_c57 : (Jvm.Cond.code ({ cls := "java/util/ImmutableCollections$AbstractImmutableList", name := "<init>", desc := "()V" } : Jvm.MethodName) jdk_46_method_1_code (1 : Nat) (Option.none : Option Jvm.ClassFile.FieldType)).before args0 about1 = true := code_word (m := ⟨33, 0⟩) (meth := k33m0) (c := k33c0) (by decide +kernel) rfl rfl rfl (by decide +kernel)
set_option maxRecDepth 65536 in
theorem w_c58 : (Jvm.Cond.code ({ cls := "java/util/ImmutableCollections$AbstractImmutableCollection", name := "<init>", desc := "()V" } : Jvm.MethodName) jdk_47_method_1_code (1 : Nat) (Option.none : Option Jvm.ClassFile.FieldType)).before args0 about1 = true := code_word (m := ⟨32, 0⟩) (meth := k32m0) (c := k32c0) (by decide +kernel) rfl rfl rfl (by decide +kernel)
set_option maxRecDepth 65536 in
theorem w_c59 : (Jvm.Cond.code ({ cls := "java/util/Objects", name := "requireNonNull", desc := "(Ljava/lang/Object;)Ljava/lang/Object;" } : Jvm.MethodName) jdk_31_method_10_code (1 : Nat) (Option.some (Jvm.ClassFile.FieldType.object "java/lang/Object"))).before args0 about1 = true := code_word (m := ⟨24, 1⟩) (meth := k24m1) (c := k24c1) (by decide +kernel) rfl rfl rfl (by decide +kernel)
set_option maxRecDepth 65536 in
theorem w_c60 : (Jvm.Cond.code ({ cls := "com/example/grantline/grantline/PolicyException", name := "pointer", desc := "()Ljava/lang/String;" } : Jvm.MethodName) prog_16_method_4_code (1 : Nat) (Option.some (Jvm.ClassFile.FieldType.object "java/lang/String"))).before args0 about1 = true := code_word (m := ⟨23, 2⟩) (meth := k23m2) (c := k23c2) (by decide +kernel) rfl rfl rfl (by decide +kernel)
set_option maxRecDepth 65536 in
theorem w_c61 : (Jvm.Cond.code ({ cls := "java/util/ImmutableCollections$List12", name := "get", desc := "(I)Ljava/lang/Object;" } : Jvm.MethodName) jdk_44_method_5_code (2 : Nat) (Option.some (Jvm.ClassFile.FieldType.object "java/lang/Object"))).before args0 about1 = true := code_word (m := ⟨34, 2⟩) (meth := k34m2) (c := k34c2) (by decide +kernel) rfl rfl rfl (by decide +kernel)
set_option maxRecDepth 65536 in
theorem w_c62 : (Jvm.Cond.code ({ cls := "com/example/grantline/grantline/PolicyException$Problem", name := "pointer", desc := "()Ljava/lang/String;" } : Jvm.MethodName) prog_17_method_5_code (1 : Nat) (Option.some (Jvm.ClassFile.FieldType.object "java/lang/String"))).before args0 about1 = true := code_word (m := ⟨19, 2⟩) (meth := k19m2) (c := k19c2) (by decide +kernel) rfl rfl rfl (by decide +kernel)
set_option maxRecDepth 65536 in
theorem w_c63 : (Jvm.Cond.code ({ cls := "java/lang/String", name := "equals", desc := "(Ljava/lang/Object;)Z" } : Jvm.MethodName) jdk_42_method_66_code (3 : Nat) (Option.some Jvm.ClassFile.FieldType.boolean)).before args0 about1 = true := code_word (m := ⟨7, 4⟩) (meth := k7m4) (c := k7c4) (by decide +kernel) rfl rfl rfl (by decide +kernel)
set_option maxRecDepth 65536 in
theorem w_c64 : (Jvm.Cond.code ({ cls := "java/util/ImmutableCollections", name := "listFromArray", desc := "([Ljava/lang/Object;)Ljava/util/List;" } : Jvm.MethodName) jdk_56_method_4_code (3 : Nat) (Option.some (Jvm.ClassFile.FieldType.object "java/util/List"))).before args0 about1 = true := code_word (m := ⟨31, 2⟩) (meth := k31m2) (c := k31c2) (by decide +kernel) rfl rfl rfl (by decide +kernel)
set_option maxRecDepth 65536 in
theorem w_c65 : (Jvm.Cond.code ({ cls := "java/util/ImmutableCollections$ListN", name := "<init>", desc := "([Ljava/lang/Object;Z)V" } : Jvm.MethodName) jdk_45_method_1_code (3 : Nat) (Option.none : Option Jvm.ClassFile.FieldType)).before args0 about1 = true := code_word (m := ⟨35, 0⟩) (meth := k35m0) (c := k35c0) (by decide +kernel) rfl rfl rfl (by decide +kernel)
set_option maxRecDepth 65536 in
theorem w_c66 : (Jvm.Cond.code ({ cls := "java/util/ImmutableCollections$ListN", name := "get", desc := "(I)Ljava/lang/Object;" } : Jvm.MethodName) jdk_45_method_4_code (2 : Nat) (Option.some (Jvm.ClassFile.FieldType.object "java/lang/Object"))).before args0 about1 = true := code_word (m := ⟨35, 1⟩) (meth := k35m1) (c := k35c1) (by decide +kernel) rfl rfl rfl (by decide +kernel)
set_option maxRecDepth 65536 in
theorem w_c67 : (Jvm.Cond.code ({ cls := "java/util/ImmutableCollections$List12", name := "<init>", desc := "(Ljava/lang/Object;)V" } : Jvm.MethodName) jdk_44_method_1_code (2 : Nat) (Option.none : Option Jvm.ClassFile.FieldType)).before args0 about1 = true := code_word (m := ⟨34, 0⟩) (meth := k34m0) (c := k34c0) (by decide +kernel) rfl rfl rfl (by decide +kernel)
def codes1 : List Jvm.Cond := [Jvm.Cond.code x code maxLocals ret, Jvm.Cond.code ({ cls := "com/example/grantline/grantline/PolicyExceptionPointerPinLaw", name := "str", desc := "(I)Ljava/lang/String;" } : Jvm.MethodName) method_2_code (2 : Nat) (Option.some (Jvm.ClassFile.FieldType.object "java/lang/String")), Jvm.Cond.code ({ cls := "java/lang/String", name := "<init>", desc := "([C)V" } : Jvm.MethodName) jdk_42_method_3_code (2 : Nat) (Option.none : Option Jvm.ClassFile.FieldType), Jvm.Cond.code ({ cls := "java/lang/String", name := "<init>", desc := "([CIILjava/lang/Void;)V" } : Jvm.MethodName) jdk_42_method_149_code (6 : Nat) (Option.none : Option Jvm.ClassFile.FieldType), Jvm.Cond.code ({ cls := "java/lang/Object", name := "<init>", desc := "()V" } : Jvm.MethodName) object_method_1_code (1 : Nat) (Option.none : Option Jvm.ClassFile.FieldType), Jvm.Cond.code ({ cls := "java/lang/StringUTF16", name := "compress", desc := "([CII)[B" } : Jvm.MethodName) jdk_52_method_16_code (6 : Nat) (Option.some (Jvm.ClassFile.FieldType.array Jvm.ClassFile.FieldType.byte)), Jvm.Cond.code ({ cls := "java/lang/StringUTF16", name := "compress", desc := "([CI[BII)I" } : Jvm.MethodName) jdk_52_method_21_code (7 : Nat) (Option.some Jvm.ClassFile.FieldType.int), Jvm.Cond.code ({ cls := "java/lang/StringUTF16", name := "coderFromArrayLen", desc := "([BI)B" } : Jvm.MethodName) jdk_52_method_15_code (2 : Nat) (Option.some Jvm.ClassFile.FieldType.byte), Jvm.Cond.code ({ cls := "java/util/ArrayList", name := "<init>", desc := "()V" } : Jvm.MethodName) jdk_38_method_2_code (1 : Nat) (Option.none : Option Jvm.ClassFile.FieldType), Jvm.Cond.code ({ cls := "java/util/AbstractList", name := "<init>", desc := "()V" } : Jvm.MethodName) jdk_39_method_1_code (1 : Nat) (Option.none : Option Jvm.ClassFile.FieldType), Jvm.Cond.code ({ cls := "java/util/AbstractCollection", name := "<init>", desc := "()V" } : Jvm.MethodName) jdk_22_method_1_code (1 : Nat) (Option.none : Option Jvm.ClassFile.FieldType), Jvm.Cond.code ({ cls := "com/example/grantline/grantline/PolicyException$Problem", name := "<init>", desc := "(Ljava/lang/String;Ljava/lang/String;)V" } : Jvm.MethodName) prog_17_method_1_code (3 : Nat) (Option.none : Option Jvm.ClassFile.FieldType), Jvm.Cond.code ({ cls := "java/lang/Record", name := "<init>", desc := "()V" } : Jvm.MethodName) jdk_30_method_1_code (1 : Nat) (Option.none : Option Jvm.ClassFile.FieldType), Jvm.Cond.code ({ cls := "java/util/ArrayList", name := "add", desc := "(Ljava/lang/Object;)Z" } : Jvm.MethodName) jdk_38_method_25_code (2 : Nat) (Option.some Jvm.ClassFile.FieldType.boolean), Jvm.Cond.code ({ cls := "java/util/ArrayList", name := "add", desc := "(Ljava/lang/Object;[Ljava/lang/Object;I)V" } : Jvm.MethodName) jdk_38_method_24_code (4 : Nat) (Option.none : Option Jvm.ClassFile.FieldType), Jvm.Cond.code ({ cls := "java/util/ArrayList", name := "grow", desc := "()[Ljava/lang/Object;" } : Jvm.MethodName) jdk_38_method_7_code (1 : Nat) (Option.some (Jvm.ClassFile.FieldType.array (Jvm.ClassFile.FieldType.object "java/lang/Object"))), Jvm.Cond.code ({ cls := "java/util/ArrayList", name := "grow", desc := "(I)[Ljava/lang/Object;" } : Jvm.MethodName) jdk_38_method_6_code (4 : Nat) (Option.some (Jvm.ClassFile.FieldType.array (Jvm.ClassFile.FieldType.object "java/lang/Object"))), Jvm.Cond.code ({ cls := "java/lang/Math", name := "max", desc := "(II)I" } : Jvm.MethodName) jdk_29_method_65_code (2 : Nat) (Option.some Jvm.ClassFile.FieldType.int), Jvm.Cond.code ({ cls := "com/example/grantline/grantline/PolicyException", name := "<init>", desc := "(Ljava/util/List;)V" } : Jvm.MethodName) prog_16_method_2_code (2 : Nat) (Option.none : Option Jvm.ClassFile.FieldType), Jvm.Cond.code ({ cls := "com/example/grantline/grantline/PolicyException", name := "first", desc := "(Ljava/util/List;)Lcom/example/grantline/grantline/PolicyException$Problem;" } : Jvm.MethodName) prog_16_method_3_code (1 : Nat) (Option.some (Jvm.ClassFile.FieldType.object "com/example/grantline/grantline/PolicyException$Problem")), Jvm.Cond.code ({ cls := "java/util/ArrayList", name := "isEmpty", desc := "()Z" } : Jvm.MethodName) jdk_38_method_9_code (1 : Nat) (Option.some Jvm.ClassFile.FieldType.boolean), Jvm.Cond.code ({ cls := "java/util/ArrayList", name := "get", desc := "(I)Ljava/lang/Object;" } : Jvm.MethodName) jdk_38_method_20_code (2 : Nat) (Option.some (Jvm.ClassFile.FieldType.object "java/lang/Object")), Jvm.Cond.code ({ cls := "java/util/Objects", name := "checkIndex", desc := "(II)I" } : Jvm.MethodName) jdk_31_method_17_code (2 : Nat) (Option.some Jvm.ClassFile.FieldType.int), Jvm.Cond.code ({ cls := "jdk/internal/util/Preconditions", name := "checkIndex", desc := "(IILjava/util/function/BiFunction;)I" } : Jvm.MethodName) jdk_41_method_11_code (3 : Nat) (Option.some Jvm.ClassFile.FieldType.int), Jvm.Cond.code ({ cls := "java/util/ArrayList", name := "elementData", desc := "(I)Ljava/lang/Object;" } : Jvm.MethodName) jdk_38_method_18_code (2 : Nat) (Option.some (Jvm.ClassFile.FieldType.object "java/lang/Object")), Jvm.Cond.code ({ cls := "com/example/grantline/grantline/PolicyException$Problem", name := "toString", desc := "()Ljava/lang/String;" } : Jvm.MethodName) prog_17_method_2_code (1 : Nat) (Option.some (Jvm.ClassFile.FieldType.object "java/lang/String")), Jvm.Cond.code ({ cls := "java/lang/StringBuilder", name := "<init>", desc := "()V" } : Jvm.MethodName) jdk_67_method_1_code (1 : Nat) (Option.none : Option Jvm.ClassFile.FieldType), Jvm.Cond.code ({ cls := "java/lang/AbstractStringBuilder", name := "<init>", desc := "(I)V" } : Jvm.MethodName) jdk_68_method_2_code (2 : Nat) (Option.none : Option Jvm.ClassFile.FieldType), Jvm.Cond.code ({ cls := "java/lang/StringBuilder", name := "append", desc := "(Ljava/lang/String;)Ljava/lang/StringBuilder;" } : Jvm.MethodName) jdk_67_method_7_code (2 : Nat) (Option.some (Jvm.ClassFile.FieldType.object "java/lang/StringBuilder")), Jvm.Cond.code ({ cls := "java/lang/AbstractStringBuilder", name := "append", desc := "(Ljava/lang/String;)Ljava/lang/AbstractStringBuilder;" } : Jvm.MethodName) jdk_68_method_22_code (3 : Nat) (Option.some (Jvm.ClassFile.FieldType.object "java/lang/AbstractStringBuilder")), Jvm.Cond.code ({ cls := "java/lang/String", name := "length", desc := "()I" } : Jvm.MethodName) jdk_42_method_54_code (1 : Nat) (Option.some Jvm.ClassFile.FieldType.int), Jvm.Cond.code ({ cls := "java/lang/String", name := "coder", desc := "()B" } : Jvm.MethodName) jdk_42_method_152_code (1 : Nat) (Option.some Jvm.ClassFile.FieldType.byte), Jvm.Cond.code ({ cls := "java/lang/AbstractStringBuilder", name := "ensureCapacityInternal", desc := "(I)V" } : Jvm.MethodName) jdk_68_method_9_code (3 : Nat) (Option.none : Option Jvm.ClassFile.FieldType), Jvm.Cond.code ({ cls := "java/lang/AbstractStringBuilder", name := "putStringAt", desc := "(ILjava/lang/String;)V" } : Jvm.MethodName) jdk_68_method_73_code (3 : Nat) (Option.none : Option Jvm.ClassFile.FieldType), Jvm.Cond.code ({ cls := "java/lang/AbstractStringBuilder", name := "inflateIfNeededFor", desc := "(Ljava/lang/String;)V" } : Jvm.MethodName) jdk_68_method_71_code (2 : Nat) (Option.none : Option Jvm.ClassFile.FieldType), Jvm.Cond.code ({ cls := "java/lang/String", name := "getBytes", desc := "([BIB)V" } : Jvm.MethodName) jdk_42_method_147_code (4 : Nat) (Option.none : Option Jvm.ClassFile.FieldType), Jvm.Cond.code ({ cls := "java/lang/StringBuilder", name := "toString", desc := "()Ljava/lang/String;" } : Jvm.MethodName) jdk_67_method_42_code (1 : Nat) (Option.some (Jvm.ClassFile.FieldType.object "java/lang/String")), Jvm.Cond.code ({ cls := "java/lang/String", name := "<init>", desc := "(Ljava/lang/StringBuilder;)V" } : Jvm.MethodName) jdk_42_method_53_code (2 : Nat) (Option.none : Option Jvm.ClassFile.FieldType), Jvm.Cond.code ({ cls := "java/lang/String", name := "<init>", desc := "(Ljava/lang/AbstractStringBuilder;Ljava/lang/Void;)V" } : Jvm.MethodName) jdk_42_method_150_code (5 : Nat) (Option.none : Option Jvm.ClassFile.FieldType), Jvm.Cond.code ({ cls := "java/lang/AbstractStringBuilder", name := "getValue", desc := "()[B" } : Jvm.MethodName) jdk_68_method_64_code (1 : Nat) (Option.some (Jvm.ClassFile.FieldType.array Jvm.ClassFile.FieldType.byte)), Jvm.Cond.code ({ cls := "java/lang/StringBuilder", name := "length", desc := "()I" } : Jvm.MethodName) jdk_67_method_93_code (1 : Nat) (Option.some Jvm.ClassFile.FieldType.int), Jvm.Cond.code ({ cls := "java/lang/AbstractStringBuilder", name := "length", desc := "()I" } : Jvm.MethodName) jdk_68_method_6_code (1 : Nat) (Option.some Jvm.ClassFile.FieldType.int), Jvm.Cond.code ({ cls := "java/lang/AbstractStringBuilder", name := "isLatin1", desc := "()Z" } : Jvm.MethodName) jdk_68_method_68_code (1 : Nat) (Option.some Jvm.ClassFile.FieldType.boolean), Jvm.Cond.code ({ cls := "java/util/Arrays", name := "copyOfRange", desc := "([BII)[B" } : Jvm.MethodName) jdk_65_method_132_code (3 : Nat) (Option.some (Jvm.ClassFile.FieldType.array Jvm.ClassFile.FieldType.byte)), Jvm.Cond.code ({ cls := "java/util/Arrays", name := "copyOfRangeByte", desc := "([BII)[B" } : Jvm.MethodName) jdk_65_method_133_code (5 : Nat) (Option.some (Jvm.ClassFile.FieldType.array Jvm.ClassFile.FieldType.byte)), Jvm.Cond.code ({ cls := "java/util/Arrays", name := "checkLength", desc := "(II)V" } : Jvm.MethodName) jdk_65_method_131_code (2 : Nat) (Option.none : Option Jvm.ClassFile.FieldType), Jvm.Cond.code ({ cls := "java/lang/Math", name := "min", desc := "(II)I" } : Jvm.MethodName) jdk_29_method_69_code (2 : Nat) (Option.some Jvm.ClassFile.FieldType.int), Jvm.Cond.code ({ cls := "java/lang/Exception", name := "<init>", desc := "(Ljava/lang/String;)V" } : Jvm.MethodName) jdk_59_method_2_code (2 : Nat) (Option.none : Option Jvm.ClassFile.FieldType), Jvm.Cond.code ({ cls := "java/lang/Throwable", name := "<init>", desc := "(Ljava/lang/String;)V" } : Jvm.MethodName) jdk_78_method_2_code (2 : Nat) (Option.none : Option Jvm.ClassFile.FieldType), Jvm.Cond.code ({ cls := "java/lang/Throwable", name := "<init>", desc := "()V" } : Jvm.MethodName) jdk_78_method_1_code (1 : Nat) (Option.none : Option Jvm.ClassFile.FieldType), Jvm.Cond.code ({ cls := "java/util/List", name := "copyOf", desc := "(Ljava/util/Collection;)Ljava/util/List;" } : Jvm.MethodName) jdk_40_method_48_code (1 : Nat) (Option.some (Jvm.ClassFile.FieldType.object "java/util/List")), Jvm.Cond.code ({ cls := "java/util/ImmutableCollections", name := "listCopy", desc := "(Ljava/util/Collection;)Ljava/util/List;" } : Jvm.MethodName) jdk_56_method_3_code (2 : Nat) (Option.some (Jvm.ClassFile.FieldType.object "java/util/List")), Jvm.Cond.code ({ cls := "java/util/ArrayList", name := "toArray", desc := "()[Ljava/lang/Object;" } : Jvm.MethodName) jdk_38_method_16_code (1 : Nat) (Option.some (Jvm.ClassFile.FieldType.array (Jvm.ClassFile.FieldType.object "java/lang/Object"))), Jvm.Cond.code ({ cls := "java/util/Arrays", name := "copyOf", desc := "([Ljava/lang/Object;I)[Ljava/lang/Object;" } : Jvm.MethodName) jdk_65_method_119_code (2 : Nat) (Option.some (Jvm.ClassFile.FieldType.array (Jvm.ClassFile.FieldType.object "java/lang/Object"))), Jvm.Cond.code ({ cls := "java/util/Arrays", name := "copyOf", desc := "([Ljava/lang/Object;ILjava/lang/Class;)[Ljava/lang/Object;" } : Jvm.MethodName) jdk_65_method_120_code (4 : Nat) (Option.some (Jvm.ClassFile.FieldType.array (Jvm.ClassFile.FieldType.object "java/lang/Object"))), Jvm.Cond.code ({ cls := "java/util/List", name := "of", desc := "([Ljava/lang/Object;)Ljava/util/List;" } : Jvm.MethodName) jdk_40_method_47_code (2 : Nat) (Option.some (Jvm.ClassFile.FieldType.object "java/util/List")), Jvm.Cond.code ({ cls := "java/util/ImmutableCollections$List12", name := "<init>", desc := "(Ljava/lang/Object;Ljava/lang/Object;)V" } : Jvm.MethodName) jdk_44_method_2_code (3 : Nat) (Option.none : Option Jvm.ClassFile.FieldType), Jvm.Cond.code ({ cls := "java/util/ImmutableCollections$AbstractImmutableList", name := "<init>", desc := "()V" } : Jvm.MethodName) jdk_46_method_1_code (1 : Nat) (Option.none : Option Jvm.ClassFile.FieldType), Jvm.Cond.code ({ cls := "java/util/ImmutableCollections$AbstractImmutableCollection", name := "<init>", desc := "()V" } : Jvm.MethodName) jdk_47_method_1_code (1 : Nat) (Option.none : Option Jvm.ClassFile.FieldType), Jvm.Cond.code ({ cls := "java/util/Objects", name := "requireNonNull", desc := "(Ljava/lang/Object;)Ljava/lang/Object;" } : Jvm.MethodName) jdk_31_method_10_code (1 : Nat) (Option.some (Jvm.ClassFile.FieldType.object "java/lang/Object")), Jvm.Cond.code ({ cls := "com/example/grantline/grantline/PolicyException", name := "pointer", desc := "()Ljava/lang/String;" } : Jvm.MethodName) prog_16_method_4_code (1 : Nat) (Option.some (Jvm.ClassFile.FieldType.object "java/lang/String")), Jvm.Cond.code ({ cls := "java/util/ImmutableCollections$List12", name := "get", desc := "(I)Ljava/lang/Object;" } : Jvm.MethodName) jdk_44_method_5_code (2 : Nat) (Option.some (Jvm.ClassFile.FieldType.object "java/lang/Object")), Jvm.Cond.code ({ cls := "com/example/grantline/grantline/PolicyException$Problem", name := "pointer", desc := "()Ljava/lang/String;" } : Jvm.MethodName) prog_17_method_5_code (1 : Nat) (Option.some (Jvm.ClassFile.FieldType.object "java/lang/String")), Jvm.Cond.code ({ cls := "java/lang/String", name := "equals", desc := "(Ljava/lang/Object;)Z" } : Jvm.MethodName) jdk_42_method_66_code (3 : Nat) (Option.some Jvm.ClassFile.FieldType.boolean), Jvm.Cond.code ({ cls := "java/util/ImmutableCollections", name := "listFromArray", desc := "([Ljava/lang/Object;)Ljava/util/List;" } : Jvm.MethodName) jdk_56_method_4_code (3 : Nat) (Option.some (Jvm.ClassFile.FieldType.object "java/util/List")), Jvm.Cond.code ({ cls := "java/util/ImmutableCollections$ListN", name := "<init>", desc := "([Ljava/lang/Object;Z)V" } : Jvm.MethodName) jdk_45_method_1_code (3 : Nat) (Option.none : Option Jvm.ClassFile.FieldType), Jvm.Cond.code ({ cls := "java/util/ImmutableCollections$ListN", name := "get", desc := "(I)Ljava/lang/Object;" } : Jvm.MethodName) jdk_45_method_4_code (2 : Nat) (Option.some (Jvm.ClassFile.FieldType.object "java/lang/Object")), Jvm.Cond.code ({ cls := "java/util/ImmutableCollections$List12", name := "<init>", desc := "(Ljava/lang/Object;)V" } : Jvm.MethodName) jdk_44_method_1_code (2 : Nat) (Option.none : Option Jvm.ClassFile.FieldType)]
set_option maxRecDepth 65536 in
theorem codes_eq : words1.filter isCode = codes1 := rfl
theorem w_codes : ∀ c ∈ words1.filter isCode, c.before args0 about1 = true := by
  rw [codes_eq]
  intro c hc
  simp only [codes1, List.mem_cons, List.not_mem_nil, or_false] at hc
  rcases hc with rfl | rfl | rfl | rfl | rfl | rfl | rfl | rfl | rfl | rfl | rfl | rfl | rfl | rfl | rfl | rfl | rfl | rfl | rfl | rfl | rfl | rfl | rfl | rfl | rfl | rfl | rfl | rfl | rfl | rfl | rfl | rfl | rfl | rfl | rfl | rfl | rfl | rfl | rfl | rfl | rfl | rfl | rfl | rfl | rfl | rfl | rfl | rfl | rfl | rfl | rfl | rfl | rfl | rfl | rfl | rfl | rfl | rfl | rfl | rfl | rfl | rfl | rfl | rfl | rfl | rfl | rfl | rfl
  · exact w_c0
  · exact w_c1
  · exact w_c2
  · exact w_c3
  · exact w_c4
  · exact w_c5
  · exact w_c6
  · exact w_c7
  · exact w_c8
  · exact w_c9
  · exact w_c10
  · exact w_c11
  · exact w_c12
  · exact w_c13
  · exact w_c14
  · exact w_c15
  · exact w_c16
  · exact w_c17
  · exact w_c18
  · exact w_c19
  · exact w_c20
  · exact w_c21
  · exact w_c22
  · exact w_c23
  · exact w_c24
  · exact w_c25
  · exact w_c26
  · exact w_c27
  · exact w_c28
  · exact w_c29
  · exact w_c30
  · exact w_c31
  · exact w_c32
  · exact w_c33
  · exact w_c34
  · exact w_c35
  · exact w_c36
  · exact w_c37
  · exact w_c38
  · exact w_c39
  · exact w_c40
  · exact w_c41
  · exact w_c42
  · exact w_c43
  · exact w_c44
  · exact w_c45
  · exact w_c46
  · exact w_c47
  · exact w_c48
  · exact w_c49
  · exact w_c50
  · exact w_c51
  · exact w_c52
  · exact w_c53
  · exact w_c54
  · exact w_c55
  · exact w_c56
  · exact w_c57
  · exact w_c58
  · exact w_c59
  · exact w_c60
  · exact w_c61
  · exact w_c62
  · exact w_c63
  · exact w_c64
  · exact w_c65
  · exact w_c66
  · exact w_c67
set_option maxRecDepth 65536 in
theorem w_t1 : (words1.take 24).all (fun c => isCode c || c.before args0 about1) = true := by decide +kernel
set_option maxRecDepth 65536 in
theorem w_t2 : ((words1.drop 24).take 24).all (fun c => isCode c || c.before args0 about1) = true := by decide +kernel
set_option maxRecDepth 65536 in
theorem w_t3 : (((words1.drop 24).drop 24).take 24).all (fun c => isCode c || c.before args0 about1) = true := by decide +kernel
set_option maxRecDepth 65536 in
theorem w_t4 : ((((words1.drop 24).drop 24).drop 24).take 24).all (fun c => isCode c || c.before args0 about1) = true := by decide +kernel
set_option maxRecDepth 65536 in
theorem w_t5 : (((((words1.drop 24).drop 24).drop 24).drop 24).take 24).all (fun c => isCode c || c.before args0 about1) = true := by decide +kernel
set_option maxRecDepth 65536 in
theorem w_t6 : ((((((words1.drop 24).drop 24).drop 24).drop 24).drop 24).take 24).all (fun c => isCode c || c.before args0 about1) = true := by decide +kernel
set_option maxRecDepth 65536 in
theorem w_t7 : (((((((words1.drop 24).drop 24).drop 24).drop 24).drop 24).drop 24).take 24).all (fun c => isCode c || c.before args0 about1) = true := by decide +kernel
set_option maxRecDepth 65536 in
theorem w_t8 : ((((((((words1.drop 24).drop 24).drop 24).drop 24).drop 24).drop 24).drop 24).take 24).all (fun c => isCode c || c.before args0 about1) = true := by decide +kernel
set_option maxRecDepth 65536 in
theorem w_t9 : (((((((((words1.drop 24).drop 24).drop 24).drop 24).drop 24).drop 24).drop 24).drop 24).take 24).all (fun c => isCode c || c.before args0 about1) = true := by decide +kernel
set_option maxRecDepth 65536 in
theorem w_t10 : ((((((((((words1.drop 24).drop 24).drop 24).drop 24).drop 24).drop 24).drop 24).drop 24).drop 24).take 24).all (fun c => isCode c || c.before args0 about1) = true := by decide +kernel
set_option maxRecDepth 65536 in
theorem w_t11 : (((((((((((words1.drop 24).drop 24).drop 24).drop 24).drop 24).drop 24).drop 24).drop 24).drop 24).drop 24).take 24).all (fun c => isCode c || c.before args0 about1) = true := by decide +kernel
set_option maxRecDepth 65536 in
theorem w_t12 : ((((((((((((words1.drop 24).drop 24).drop 24).drop 24).drop 24).drop 24).drop 24).drop 24).drop 24).drop 24).drop 24).take 24).all (fun c => isCode c || c.before args0 about1) = true := by decide +kernel
set_option maxRecDepth 65536 in
theorem w_t13 : (((((((((((((words1.drop 24).drop 24).drop 24).drop 24).drop 24).drop 24).drop 24).drop 24).drop 24).drop 24).drop 24).drop 24).take 24).all (fun c => isCode c || c.before args0 about1) = true := by decide +kernel
set_option maxRecDepth 65536 in
theorem w_t14 : ((((((((((((((words1.drop 24).drop 24).drop 24).drop 24).drop 24).drop 24).drop 24).drop 24).drop 24).drop 24).drop 24).drop 24).drop 24).take 24).all (fun c => isCode c || c.before args0 about1) = true := by decide +kernel
set_option maxRecDepth 65536 in
theorem w_t15 : (((((((((((((((words1.drop 24).drop 24).drop 24).drop 24).drop 24).drop 24).drop 24).drop 24).drop 24).drop 24).drop 24).drop 24).drop 24).drop 24).take 24).all (fun c => isCode c || c.before args0 about1) = true := by decide +kernel
set_option maxRecDepth 65536 in
theorem w_t16 : ((((((((((((((((words1.drop 24).drop 24).drop 24).drop 24).drop 24).drop 24).drop 24).drop 24).drop 24).drop 24).drop 24).drop 24).drop 24).drop 24).drop 24).take 24).all (fun c => isCode c || c.before args0 about1) = true := by decide +kernel
set_option maxRecDepth 65536 in
theorem w_t17 : (((((((((((((((((words1.drop 24).drop 24).drop 24).drop 24).drop 24).drop 24).drop 24).drop 24).drop 24).drop 24).drop 24).drop 24).drop 24).drop 24).drop 24).drop 24).take 24).all (fun c => isCode c || c.before args0 about1) = true := by decide +kernel
set_option maxRecDepth 65536 in
theorem w_t18 : ((((((((((((((((((words1.drop 24).drop 24).drop 24).drop 24).drop 24).drop 24).drop 24).drop 24).drop 24).drop 24).drop 24).drop 24).drop 24).drop 24).drop 24).drop 24).drop 24).take 24).all (fun c => isCode c || c.before args0 about1) = true := by decide +kernel
set_option maxRecDepth 65536 in
theorem w_t19 : ((((((((((((((((((words1.drop 24).drop 24).drop 24).drop 24).drop 24).drop 24).drop 24).drop 24).drop 24).drop 24).drop 24).drop 24).drop 24).drop 24).drop 24).drop 24).drop 24).drop 24).all (fun c => isCode c || c.before args0 about1) = true := by decide +kernel
theorem w_tables : (allAtoms (Jvm.Cond.code x code maxLocals ret :: tables_1)).before args0 about1 = true := by
  rw [allAtoms_all]
  show words1.all (fun c => c.before args0 about1) = true
  refine all_split ?_ w_codes
  rw [← List.take_append_drop 24 words1, List.all_append, w_t1, ← List.take_append_drop 24 (words1.drop 24), List.all_append, w_t2, ← List.take_append_drop 24 ((words1.drop 24).drop 24), List.all_append, w_t3, ← List.take_append_drop 24 (((words1.drop 24).drop 24).drop 24), List.all_append, w_t4, ← List.take_append_drop 24 ((((words1.drop 24).drop 24).drop 24).drop 24), List.all_append, w_t5, ← List.take_append_drop 24 (((((words1.drop 24).drop 24).drop 24).drop 24).drop 24), List.all_append, w_t6, ← List.take_append_drop 24 ((((((words1.drop 24).drop 24).drop 24).drop 24).drop 24).drop 24), List.all_append, w_t7, ← List.take_append_drop 24 (((((((words1.drop 24).drop 24).drop 24).drop 24).drop 24).drop 24).drop 24), List.all_append, w_t8, ← List.take_append_drop 24 ((((((((words1.drop 24).drop 24).drop 24).drop 24).drop 24).drop 24).drop 24).drop 24), List.all_append, w_t9, ← List.take_append_drop 24 (((((((((words1.drop 24).drop 24).drop 24).drop 24).drop 24).drop 24).drop 24).drop 24).drop 24), List.all_append, w_t10, ← List.take_append_drop 24 ((((((((((words1.drop 24).drop 24).drop 24).drop 24).drop 24).drop 24).drop 24).drop 24).drop 24).drop 24), List.all_append, w_t11, ← List.take_append_drop 24 (((((((((((words1.drop 24).drop 24).drop 24).drop 24).drop 24).drop 24).drop 24).drop 24).drop 24).drop 24).drop 24), List.all_append, w_t12, ← List.take_append_drop 24 ((((((((((((words1.drop 24).drop 24).drop 24).drop 24).drop 24).drop 24).drop 24).drop 24).drop 24).drop 24).drop 24).drop 24), List.all_append, w_t13, ← List.take_append_drop 24 (((((((((((((words1.drop 24).drop 24).drop 24).drop 24).drop 24).drop 24).drop 24).drop 24).drop 24).drop 24).drop 24).drop 24).drop 24), List.all_append, w_t14, ← List.take_append_drop 24 ((((((((((((((words1.drop 24).drop 24).drop 24).drop 24).drop 24).drop 24).drop 24).drop 24).drop 24).drop 24).drop 24).drop 24).drop 24).drop 24), List.all_append, w_t15, ← List.take_append_drop 24 (((((((((((((((words1.drop 24).drop 24).drop 24).drop 24).drop 24).drop 24).drop 24).drop 24).drop 24).drop 24).drop 24).drop 24).drop 24).drop 24).drop 24), List.all_append, w_t16, ← List.take_append_drop 24 ((((((((((((((((words1.drop 24).drop 24).drop 24).drop 24).drop 24).drop 24).drop 24).drop 24).drop 24).drop 24).drop 24).drop 24).drop 24).drop 24).drop 24).drop 24), List.all_append, w_t17, ← List.take_append_drop 24 (((((((((((((((((words1.drop 24).drop 24).drop 24).drop 24).drop 24).drop 24).drop 24).drop 24).drop 24).drop 24).drop 24).drop 24).drop 24).drop 24).drop 24).drop 24).drop 24), List.all_append, w_t18, w_t19]
  rfl
set_option maxRecDepth 65536 in
theorem w_rest : rest_1_c.before args0 about1 = true := by decide +kernel
set_option maxRecDepth 65536 in
theorem w_case : (Jvm.Cond.and given_1 narrow_1).before args0 about1 = true := by decide +kernel
set_option maxRecDepth 65536 in
theorem w_consts : constsHeld consts_1 about1 := Jvm.Lit.constsHeldB_iff.mp (by decide +kernel)
theorem w_applies : (headSpec (Jvm.Cond.code x code maxLocals ret :: tables_1) room_1).applies x e0.platform about1 = true :=
  (Spec.applies_iff w_frames).mpr ⟨w_running, w_runnable, w_alone, w_named, w_hears, w_ripe, w_room, w_tables⟩
theorem atStart : AtStart classFile x code maxLocals ret World_1 tables_1 room_1 Calls_1 rest_1 Pre_1 launch0 p0 e0 about1 theMethod args0 below0 :=
  ⟨lists_1, trivial, launch0.admits_env _ _ _, launch0.least_env, fairChoices_fair.cas, fairChoices_fair.clock, w_frames, w_args, w_heap, w_applies, ⟨(by decide +kernel : framesKnown about1 = true), ⟨(by decide +kernel : tablesKnown about1 = true), ⟨⟨48, k48, 6, by decide +kernel, rfl, rfl, _, rfl, rfl⟩, ⟨w_consts, trivial⟩⟩⟩⟩, w_rest, w_case⟩
end start1
theorem witness_1 : WitnessClaimed_1 := ⟨start1.p0, start1.e0, start1.about1, start1.theMethod, start1.args0, start1.below0, start1.atStart⟩
end Jvm.Pilot.@@N@@
