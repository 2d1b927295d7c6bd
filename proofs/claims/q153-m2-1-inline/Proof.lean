import JvmDerived
import JvmDerived.Pilot.@@N@@Statement
import JvmDerived.Pilot.@@N@@Code
set_option linter.unusedVariables false
set_option linter.unusedSimpArgs false
@@BLOCK:NumsL.lean.txt@@
@@BLOCK:TracedD.lean.txt@@
namespace Jvm.RoadKit
open Sem ClassFile Op Lib Jvm.Stand Jvm.Free Jvm.LawKit
section New
variable {p : Program} {l : Launch} {e : Env} {R : Room} {s : State} {m : MethodId} {args : Array Value} {below : List Frame} {meth : Method} {c : Code} {T : State} {locs : List Loc} {cells slots : Nat}
theorem retI (X : Stand p l e R s m args below meth c T locs cells slots) (hx : p.tables.exec = Jvm.exec) {pc : Nat} {Ls : Array Slot} {z : Int32} {rest : List Value} (hret : meth.sig.returnType = some .int) (hd : decode c.code pc = .ok (.ireturn, 1)) {fs : List Frame}
    (hl : ∀ (f : JFrame) (acts : List Action), f.method = m → f.locked = none → f.entered = [] → (doReturn e (T.setTop f) acts (some (.int z))).1 = T.setFrames fs) : Steps p.tables e below (T.setTop (mkF m pc Ls (.int z :: rest))) (T.setFrames fs) := by
  have hm' : T.vm.method? m = some meth := X.method'
  have hn : narrow .int (.int z) = .int z := rfl
  show Steps p.tables e below (T.setTop { method := m, pc := pc, locals := Ls, stack := _ :: rest, locked := none }) _
  jvm_step X.here [X.here.top, hx, hd, hm', hret, hn]
  first | (intro acts; rw [hl _ acts rfl rfl rfl]) | rw [hl _ _ rfl rfl rfl]
  exact Steps.refl _
end New
end Jvm.RoadKit
namespace Jvm.Pilot.@@N@@
open Jvm Jvm.ClassFile Sem Op Lib Jvm.Free Jvm.Stand Jvm.LawKit Jvm.RoadKit Bundle Jvm.Pilot.@@N@@.Jvm.D
theorem Wd {Z : State} {a0 : Array Value} {d : Jvm.Cond} (hw : ∀ d ∈ tables_1, d.before a0 Z = true) (i : Nat) (h : tables_1[i]? = some d) : d.before a0 Z = true := hw _ (List.mem_of_getElem? h)
theorem own_sz {Z : State} {n0 : Nat} {h : Heap} (O : Old Z n0 h) : n0 ≤ h.size := O.1 ▸ O.2.1
theorem own_neArv {Z : State} {h : Heap} {a b : Addr} {k k' : ClassId} {ty ty' : FieldType} {z z' : Int32} {vs vs' : List Value} {d d' : Value} (F : Arv Z h a k ty z vs d) (G : Arv Z h b k' ty' z' vs' d') (hn : ty ≠ ty') : a ≠ b := fun q => by
  subst q
  obtain ⟨c1, ⟨e1, ⟨-, k1, hk1, cp1, hd1⟩, -⟩, -⟩ := F
  obtain ⟨c2, ⟨e2, ⟨-, k2, hk2, cp2, hd2⟩, -⟩, -⟩ := G
  cases e1.symm.trans e2
  cases hk1.symm.trans hk2
  rw [hd1] at hd2
  injection hd2 with _ h2
  exact hn h2
theorem own_fi {args : Array Value} {s : State} {t : Term} {a : Addr} {C n d : String} {k : Int32} (ht : t.eval args s none [] s = some (.ref a)) (h : (Jvm.Cond.eq (Jvm.Term.field t C n d) (Jvm.Term.int k)).value args s none s [] = some true) : s.fieldOf? a C n d = some (.int k) := by
  have e := fld_at (C := C) (n := n) (dd := d) ht
  obtain ⟨v, w, h1, h2, h3, h4⟩ := cmp_v (Or.inl h)
  cases (Term.int_eval k).symm.trans h2
  obtain ⟨z, rfl⟩ := h4
  rw [← e, h1]
  simp only [Cond.value, h1, Term.int_eval] at h
  simpa using h
theorem own_len {args : Array Value} {s : State} {t : Term} {a : Addr} {cl : Cell} {ty : FieldType} {z : Int32} (A : Arr s s.heap a cl ty) (ev : t.eval args s none [] s = some (.ref a)) (h : (Jvm.Cond.eq (Jvm.Term.length t) (Jvm.Term.int z)).value args s none s [] = some true) : cl.slots.size < 2 ^ 31 ∧ cl.slots.size.toInt32 = z := by
  have e := Cond.eq_int (beq_iff_eq.mpr h) (Term.int_eval z)
  have hA : s.arrayAt? a = some cl := IntBox.arrayAt_of A.1 A.2.1 A.2.2
  by_cases q : cl.slots.size < 2 ^ 31
  · refine ⟨q, ?_⟩
    have r := len_f ev hA q
    rw [r] at e
    injection e with e
    injection e
  · exfalso
    simp [Term.eval, ev, hA] at e
    omega
theorem own_eli {args : Array Value} {s : State} {t : Term} {a : Addr} {cl : Cell} {j k : Int32} (hc : s.heap[a]? = some cl) (ev : t.eval args s none [] s = some (.ref a)) (h : (Jvm.Cond.eq (Jvm.Term.elem t (Jvm.Term.int j)) (Jvm.Term.int k)).value args s none s [] = some true) : cl.slots[j.toNatClampNeg]? = some (.int k) :=
  (elem_in (Cond.eq_int (beq_iff_eq.mpr h) (Term.int_eval k)) ev (Term.int_eval j) hc).2
theorem own_elr {args : Array Value} {s : State} {t u : Term} {a b : Addr} {cl : Cell} {j : Int32} (hc : s.heap[a]? = some cl) (ev : t.eval args s none [] s = some (.ref a)) (eu : u.eval args s none [] s = some (.ref b)) (h : (Jvm.Cond.eq (Jvm.Term.elem t (Jvm.Term.int j)) u).value args s none s [] = some true) : cl.slots[j.toNatClampNeg]? = some (.ref b) := by
  obtain ⟨v, w, h1, h2, h3, h4⟩ := cmp_v (Or.inl h)
  cases eu.symm.trans h2
  have hv : v = .ref b := gotT (eq_R h1 h2 h4.2 rfl) h
  rw [hv] at h1
  exact (elem_in h1 ev (Term.int_eval j) hc).2
set_option maxHeartbeats 40000000
set_option maxRecDepth 65536
theorem lTr {a b c : Nat} (h : a ≤ b) (g : b ≤ c) : a ≤ c := Nat.le_trans h g
theorem lLt {a b c : Nat} (h : a < b) (g : b ≤ c) : a < c := Nat.lt_of_lt_of_le h g
theorem lEq {a b : Nat} (h : a = b) : a ≤ b := Nat.le_of_eq h
theorem nLt {a b : Nat} (h : a < b) : a ≠ b := Nat.ne_of_lt h
abbrev Rm (f c s l : Nat) : Room := { frames := f, cells := c, slots := s, locals := l }
abbrev vr (a : Addr) : Slot := .val (.ref a)
abbrev vi (n : Int32) : Slot := .val (.int n)
abbrev SP (p : Program) (e : Env) (b : List Frame) (T : State) (m : MethodId) (i : Nat) (L : Array Slot) (S : List Value) (t : State) : Prop := Steps p.tables e b (T.setTop (mkF m i L S)) t
abbrev MF (l : Launch) (M : MethodName) (k : ByteArray) (n : Nat) (r : Option FieldType) (ws : List Jvm.Cond) (R : Room) (A : Array Value) (Z : State) (h : Heap) (Q : Option Value → Heap → List Loc → Prop) : Prop := MetFree l M (head1 (Jvm.Cond.code M k n r :: ws) R) (fun a U => a = A ∧ Z.Warmed39 U.vm ∧ U.heap = h) (fun _ _ _ _ _ => True) (fun _ U o U' => ∃ v L, o = .returned v ∧ Q v U'.heap L ∧ FrameEnd U o U' L R.cells R.slots)
abbrev dL (b : ByteArray) (L : List (Nat × Instr × Nat)) : Bool := L.all fun x => decide (decode b x.1 = .ok x.2)
theorem retA {p : Program} {l : Launch} {e : Env} {R : Room} {s : State} {m : MethodId} {args : Array Value} {below : List Frame} {meth : Method} {c : Code} {T : State} {locs : List Loc} {cells slots : Nat} (X : Stand p l e R s m args below meth c T locs cells slots) (hx : p.tables.exec = Jvm.exec) {pc : Nat} {Ls : Array Slot} {a : Addr} {t : FieldType} {rest : List Value} (hret : meth.sig.returnType = some t) (ht : t.isReference = true)
    (hd : decode c.code pc = .ok (.areturn, 1)) {fs : List Frame} (hl : ∀ (f : JFrame) (acts : List Action), f.method = m → f.locked = none → f.entered = [] → (doReturn e (T.setTop f) acts (some (.ref a))).1 = T.setFrames fs) :
    Steps p.tables e below (T.setTop (mkF m pc Ls (.ref a :: rest))) (T.setFrames fs) := by
  have hm' : T.vm.method? m = some meth := X.method'
  show Steps p.tables e below (T.setTop { method := m, pc := pc, locals := Ls, stack := _ :: rest, locked := none }) _
  jvm_step X.here [X.here.top, hx, hd, hm', hret, ht, Value.isRef]
  first | (intro acts; rw [hl _ acts rfl rfl rfl]) | rw [hl _ _ rfl rfl rfl]
  exact Steps.refl _
def dA (L : List (Nat × Instr × Nat)) (k : Nat) : Nat × Instr × Nat := (L[k]?).getD (0, .aconst_null, 1)
theorem dG {b : ByteArray} {c : Code} (hby : c.code = b) {L : List (Nat × Instr × Nat)} (h : dL b L = true) (k : Nat) (q : Nat.ble (k + 1) L.length = true) : decode c.code (dA L k).1 = .ok (dA L k).2 := by
  have hk : k < L.length := Nat.le_of_ble_eq_true q
  have e : L[k]? = some (dA L k) := by simp [dA, hk]
  rw [hby]; exact of_decide_eq_true (List.all_eq_true.mp h _ (List.mem_of_getElem? e))
theorem own_shr0 (x : Int32) : x >>> ((0 : Int32) &&& 31) = x := by
  have h : ((0 : Int32) &&& 31) = 0 := by decide
  rw [h]
  apply Int32.toBitVec_inj.mp
  simp
theorem own_b2 (x : Int32) : (x.toInt8.toInt32).toInt8.toInt32 = x.toInt8.toInt32 := by
  have h : x.toInt8.toInt32.toInt8 = x.toInt8 := by
    apply Int8.toInt_inj.mp
    rw [Int32.toInt_toInt8, Int8.toInt_toInt32]
    have h2 := x.toInt8.toInt_lt; have h3 := x.toInt8.le_toInt
    rw [Int.bmod_eq_of_le] <;> omega
  rw [h]
theorem own_nari2c (x : Int32) : nar .char (x.toUInt32.toUInt16.toUInt32.toInt32) = x.toUInt32.toUInt16.toUInt32.toInt32 := by
  show (x.toUInt32.toUInt16.toUInt32.toInt32).toUInt32.toUInt16.toUInt32.toInt32 = _
  rw [UInt32.toUInt32_toInt32, UInt16.toUInt16_toUInt32]
theorem own_nar255 (x : Int32) : nar .char (x &&& (255 : Int32)) = x &&& (255 : Int32) := i2c_mask x
theorem own_and255 (x : Int32) : ¬ ((255 : Int32) < x &&& (255 : Int32)) ∧ ¬ (x &&& (255 : Int32) < (0 : Int32)) := by
  have e := Jvm.Kit.i32_mask x 255 (k := 8) (by decide) (by decide)
  have h1 := Int.emod_nonneg x.toInt (show (2 : Int) ^ 8 ≠ 0 by decide)
  have h2 := Int.emod_lt_of_pos x.toInt (show (0 : Int) < 2 ^ 8 by decide)
  have e1 : (255 : Int32).toInt = 255 := rfl
  have e0 : (0 : Int32).toInt = 0 := rfl
  constructor <;> rw [Int32.lt_iff_toInt_lt] <;> omega
theorem own_mvM {Z s : State} {a0 args : Array Value} {own host : String} {y : MethodName} {index : Nat} (hZ : Z.Warmed39 s.vm) (w : (Jvm.Cond.methodLinkNest own index y host).before a0 Z = true) : (Jvm.Cond.methodLinkNest own index y host).before args s = true := (Cond.methodLinkNest_wide hZ w :)
theorem own_sub0 (x : Int32) : x - (0 : Int32) = x := by simp
theorem own_shl0 (x : Int32) : x <<< ((0 : Int32) &&& 31) = x := by
  have h : ((0 : Int32) &&& 31) = 0 := by decide
  rw [h]
  apply Int32.toBitVec_inj.mp
  simp
theorem own_tn {x : Int32} (h : ¬ (x < (0 : Int32))) : x.toInt = (x.toNatClampNeg : Int) := nat_of h
theorem own_addI {a b : Int32} {A B : Int} (a0 : 0 ≤ a.toInt) (a1 : a.toInt ≤ A) (b0 : 0 ≤ b.toInt) (b1 : b.toInt ≤ B) (h : A + B < 2147483648) : (a + b).toInt = a.toInt + b.toInt := by
  rw [Int32.toInt_add]
  apply Int.bmod_eq_of_le <;> omega
theorem own_le {x k : Int32} (h : ¬ (k < x)) : x.toInt ≤ k.toInt := by rw [Int32.lt_iff_toInt_lt] at h; omega
theorem own_ge {x k : Int32} (h : ¬ (x < k)) : k.toInt ≤ x.toInt := by rw [Int32.lt_iff_toInt_lt] at h; omega
theorem own_cap {k n : Int32} (h0 : ¬ (k < (0 : Int32))) (h1 : ¬ ((14 : Int32) < k)) (h2 : ¬ (n < (0 : Int32))) (h3 : ¬ ((2 : Int32) < n)) : ¬ ((0 : Int32) < ((k + n) - (16 : Int32))) ∧ k.toNatClampNeg + n.toNatClampNeg ≤ 16 := by
  have a0 := own_ge h0; have a1 := own_le h1; have b0 := own_ge h2; have b1 := own_le h3
  have q0 : (0 : Int32).toInt = 0 := rfl
  have q2 : (2 : Int32).toInt = 2 := rfl
  have q14 : (14 : Int32).toInt = 14 := rfl
  have q16 : (16 : Int32).toInt = 16 := rfl
  rw [q0] at a0 b0; rw [q14] at a1; rw [q2] at b1
  have e := own_addI a0 a1 b0 b1 (by decide)
  have t1 := own_tn h0; have t2 := own_tn h2
  refine ⟨?_, by omega⟩
  rw [Int32.lt_iff_toInt_lt, Int32.toInt_sub, e, q0, q16, Int.bmod_eq_of_le (by omega) (by omega)]
  omega
theorem own_c1 {n : Int32} (h2 : ¬ (n < (0 : Int32))) (h3 : ¬ ((2 : Int32) < n)) : ¬ (((0 : Int32) + n) < (0 : Int32)) ∧ ¬ ((14 : Int32) < ((0 : Int32) + n)) ∧ ¬ ((((0 : Int32) + n) + (2 : Int32)) < (0 : Int32)) ∧ ¬ ((14 : Int32) < (((0 : Int32) + n) + (2 : Int32))) := by
  have b0 := own_ge h2; have b1 := own_le h3
  have q0 : (0 : Int32).toInt = 0 := rfl
  have q2 : (2 : Int32).toInt = 2 := rfl
  have q14 : (14 : Int32).toInt = 14 := rfl
  rw [q0] at b0; rw [q2] at b1
  have z : (0 : Int32) + n = n := by simp
  have e := own_addI b0 b1 (b := (2 : Int32)) (B := 2) (by decide) (by decide) (by decide)
  rw [z]
  simp only [Int32.lt_iff_toInt_lt, e, q0, q2, q14]
  omega
theorem own_c2 {n k : Int32} (h2 : ¬ (n < (0 : Int32))) (h3 : ¬ ((2 : Int32) < n)) (h4 : ¬ (k < (0 : Int32))) (h5 : ¬ ((2 : Int32) < k)) : ¬ (((((0 : Int32) + n) + (2 : Int32)) + k) < (0 : Int32)) ∧ ((((0 : Int32) + n) + (2 : Int32)) + k) < (16 : Int32) ∧ ¬ (((((0 : Int32) + n) + (2 : Int32)) + k) = (16 : Int32)) ∧ ((((0 : Int32) + n) + (2 : Int32)) + k).toNatClampNeg ≤ 16 := by
  have b0 := own_ge h2; have b1 := own_le h3; have c0 := own_ge h4; have c1 := own_le h5
  have q0 : (0 : Int32).toInt = 0 := rfl
  have q2 : (2 : Int32).toInt = 2 := rfl
  have q16 : (16 : Int32).toInt = 16 := rfl
  rw [q0] at b0 c0; rw [q2] at b1 c1
  have z : (0 : Int32) + n = n := by simp
  have e := own_addI b0 b1 (b := (2 : Int32)) (B := 2) (by decide) (by decide) (by decide)
  rw [q2] at e
  have e2 := own_addI (a := n + 2) (A := 4) (by omega) (by omega) c0 c1 (by decide)
  rw [z]
  have g1 : ¬ (((n + (2 : Int32)) + k) < (0 : Int32)) := by rw [Int32.lt_iff_toInt_lt, e2, e, q0]; omega
  have t := own_tn g1
  refine ⟨g1, by rw [Int32.lt_iff_toInt_lt, e2, e, q16]; omega, fun q => ?_, by omega⟩
  have q' := congrArg Int32.toInt q
  rw [e2, e, q16] at q'
  omega
theorem own_len16 {vs us : List Value} {i n : Nat} (h : vs.length = 16) (hu : us.length = n) (hi : i + n ≤ 16) : (vs.take i ++ us ++ vs.drop (i + n)).length = 16 := by
  simp only [List.length_append, List.length_take, List.length_drop, h, hu]
  omega
theorem own_nf {args : Array Value} {s : State} {C : String} {u v y : MethodName} (h : (Jvm.Cond.selects C u v).before args s = true) (e : v.cls = y.cls) : NotFace s y := fun r0 h0 => by
  obtain ⟨c2, r2, m2, q1, q2, q3, q4, kP, hkP, hkPi⟩ := Cond.selects_spec h
  have a := findClass_of_methodNamed q3
  have b := findClass_of_methodNamed h0
  rw [e] at a
  have q := Option.some.inj (a.symm.trans b)
  rw [q] at hkP
  exact ⟨kP, hkP, hkPi⟩
theorem own_decl {args : Array Value} {s : State} {y : MethodName} {bytes : ByteArray} {mx : Nat} {rt : Option FieldType} (wi : (Jvm.Cond.instanceMethod y).before args s = true) (wc : (Jvm.Cond.code y bytes mx rt).before args s = true) : (Jvm.Cond.declares y).before args s = true := by
  obtain ⟨mk, methM, hnamed, hmethM, hstM, habM⟩ := Cond.instanceMethod_spec wi
  obtain ⟨m2, cM, q1, -, -, -, -, -, -, hsig⟩ := Cond.code_spec hnamed wc
  cases hmethM.symm.trans q1
  simp [Cond.before, Cond.holds, Cond.value, hnamed, hmethM, hstM, hsig]
theorem own_same {args : Array Value} {s : State} {C : String} {u v y : MethodName} (wi : (Jvm.Cond.instanceMethod y).before args s = true) (h : (Jvm.Cond.selects C u v).before args s = true) (e : v.cls = y.cls) (hn : y.cls ≠ "java/lang/invoke/MethodHandle" ∧ y.cls ≠ "java/lang/invoke/VarHandle") : (Jvm.Cond.sameMethod y.cls y.cls y.name y.desc).before args s = true := by
  obtain ⟨mk, methM, hnamed, hmethM, hstM, habM⟩ := Cond.instanceMethod_spec wi
  obtain ⟨k, hk, hi⟩ := own_nf h e mk hnamed
  have a := findClass_of_methodNamed hnamed
  have f : s.methodFound? y.cls y.name y.desc = some mk := State.methodFound?_of_named hnamed hn
  have g : s.methodNamed? ⟨y.cls, y.name, y.desc⟩ = some mk := hnamed
  simp [Cond.before, Cond.holds, Cond.value, a, f, g, hk, hi]
theorem own_nsRoot {Z : State} {a0 : Array Value} {O K : String} {n : Nat} (w : (Jvm.Cond.noSuperclass O).before a0 Z = true) (wk : (Jvm.Cond.instantiable K n).before a0 Z = true) (hn : O ≠ K) : NS Z O K := by
  obtain ⟨c, k, h1, h2, h3, -, -⟩ := Cond.noSuperclass_spec w
  obtain ⟨t, kt, g1, -⟩ := Cond.instantiable_spec wk
  have ne := ids_ne h1 g1 hn
  refine ⟨c, t, h1, g1, fun fuel => ?_⟩
  cases fuel with
  | zero => rfl
  | succ f => simp [Vm.isSubclassAux, ne, h2, h3]
theorem own_nsNo {Z : State} {a0 : Array Value} {C S K : String} {n : Nat} (w : (Jvm.Cond.superclass C S).before a0 Z = true) (wk : (Jvm.Cond.instantiable K n).before a0 Z = true) (q : NS Z C K) (hn : C ≠ K) : ∃ c t, Z.vm.findClass C = some c ∧ Z.vm.findClass K = some t ∧ Z.vm.assignable c t = false := by
  obtain ⟨c, t, h0, g0, n3⟩ := q
  obtain ⟨p, k, kp, h1, h2, h3, h4, h5, -, h7⟩ := Cond.superclass_spec h0 w
  obtain ⟨t', kt, g1, g2, g5, g6, -⟩ := Cond.instantiable_spec wk
  cases g0.symm.trans g1
  have ne := ids_ne h0 g0 hn
  have g7 : kt.isInterface = false := by simp only [Bool.or_eq_false_iff] at g6; exact g6.1
  refine ⟨c, t, h0, g0, ?_⟩
  show Z.vm.assignableAux (255 + 1) c t = false
  simp [Vm.assignableAux, ne, h2, g2, h5, g5, g7, Vm.isSubclass, n3]
theorem own_ths {Z : State} {n0 : Nat} {h : Heap} (O : Old Z n0 h) : ThS Z h := fun _ _ _ _ _ _ _ q _ => O.2.2 _ _ q
theorem own_ldcM {p : Program} {l : Launch} {e : Env} {R : Room} {s : State} {m : MethodId} {args : Array Value} {below : List Frame} {meth : Method} {c : Code} {T : State} {locs : List Loc} {cells slots : Nat} {Z : State} {a0 : Array Value} {h : Heap} (X : Stand p l e R s m args below meth c T locs cells slots) (hx : p.tables.exec = Jvm.exec) (hZ : Z.Warmed39 s.vm) {own C : String} {index : Nat} (hown : s.vm.findClass own = some m.cls) (w : (Jvm.Cond.classLink own index C).before a0 Z = true) (eT : T.heap = h) {a : Addr} (M : Mir Z C a)
    {g : JFrame} (hg : g.method = m) (hd : decode c.code g.pc = .ok (.ldc index, 2)) : ∃ T', Stand p l e R s m args below meth c T' locs cells slots ∧ T'.heap = h ∧ ∀ target, Steps p.tables e below (T'.setTop { g with pc := g.pc + 2, stack := .ref a :: g.stack }) target → Steps p.tables e below (T.setTop g) target := by
  obtain ⟨cc, k, h1, h2, h3, -⟩ := M
  obtain ⟨k', q, ek⟩ := hZ.alike.2.2 _ _ h2
  have h1' : s.vm.findClass C = some cc := by rw [hZ.alike.findClass]; exact h1
  have h3' : k'.mirror = some a := by rw [ek]; exact h3
  obtain ⟨vm', X', st⟩ := X.ldcMirror hx hown (mv hZ w) (a := a) (by simp [Term.eval, h1', q, h3']) hg hd
  exact ⟨_, X', eT, st⟩
theorem own_sub {L : List Jvm.Cond} {Z : State} {a0 : Array Value} (hw : ∀ d ∈ tables_1, d.before a0 Z = true) (js : List Nat) (h : L = js.map fun j => tables_1.getD j .tt) : ∀ d ∈ L, d.before a0 Z = true := fun d hd => by
  subst h
  obtain ⟨j, -, rfl⟩ := List.mem_map.mp hd
  rw [List.getD_eq_getElem?_getD]
  cases q : tables_1[j]? with
  | none => rfl
  | some x => exact hw _ (List.mem_of_getElem? q)
def EL1 : List (String × Nat) := [("com/example/grantline/grantline/PolicyException$Problem", 23), ("com/example/grantline/grantline/PolicyExceptionProblemPinLaw", 7)]
theorem own_EW {Z : State} {a0 : Array Value} (hw : ∀ d ∈ tables_1, d.before a0 Z = true) : EW Z a0 EL1 := (EW.cons (Wd hw 200 rfl) (by decide) (EW.cons (Wd hw 5 rfl) (by decide) EW.nil))
theorem own_wS {Z : State} {a0 : Array Value} (hw : ∀ d ∈ tables_1, d.before a0 Z = true) : ∀ a ∈ Bundle.stringAtoms, a.before a0 Z = true := fun d hd => by
  simp only [Bundle.stringAtoms, List.mem_cons, List.not_mem_nil, or_false] at hd
  rcases hd with rfl | rfl | rfl | rfl | rfl | rfl | rfl
  · exact (Wd hw 6 rfl)
  · exact (Wd hw 7 rfl)
  · exact (Wd hw 8 rfl)
  · exact (Wd hw 9 rfl)
  · exact (Wd hw 10 rfl)
  · exact (Wd hw 11 rfl)
  · exact (Wd hw 12 rfl)
theorem own_safeS {Z : State} {EL : List (String × Nat)} {vm : Vm} {h : Heap} {a : Addr} (hal : Z.vm.Alike vm) (H : CHv Z EL vm h) (F : Fld Z h a "java/lang/String" "value" "[B" .null) (E : Exa Z h a "java/lang/String") : Safe Z EL vm h a := fun ⟨p, hp, u, a', hb, q, hq, S, hy⟩ => by
  obtain ⟨cS, ⟨⟨s1, s2, s3, ⟨cv, kv, iv, s4, s4'⟩, -, s6, -, s8, -, s10, s11, -⟩, hfS, hcS⟩, ⟨kS, k1, k2, k3⟩, -⟩ := S
  obtain ⟨cell, cf, k, i, f, f1, f2, f3, f4, f5, f6, f7⟩ := F
  rcases hy with rfl | rfl
  · cases s1.symm.trans f1
    obtain ⟨kv', z4⟩ := ff_back (U := Wst Z vm h) hal s4
    cases z4.symm.trans f2
    cases s8.symm.trans f7
  · obtain ⟨c2, k2', e1, e2, e3, e4, e5⟩ := E
    cases s10.symm.trans e1
    obtain ⟨hst, k9, hk9, comp, hkind9⟩ := s11
    obtain ⟨kz', hkz', ekz⟩ := hal.2.2 _ _ e3
    have h9 : k9 = kz' := Option.some.inj (hk9.symm.trans hkz')
    have hfS' : vm.findClass "java/lang/String" = some cS := hfS
    rw [hal.findClass] at hfS'
    have hc : q.SA.cls = cS := Option.some.inj (e2.symm.trans hfS')
    have h8 : kz' = kS := Option.some.inj (hkz'.symm.trans (hc ▸ k1))
    rw [h9, h8, k2] at hkind9
    cases hkind9
open LibCode.Throwable in
/-- the words of the sheet that tell Throwable's tables; what is said of a field is said of the receiver's class rc -/
def own_atoms (rc : String) : List Jvm.Cond := [.native tFill0, .initialized tN, .superclass tN "java/lang/Object", .instanceMethod tFill, .codeSync tFill Fill.code 1 (some (.object tN)), .instanceMethod tFill0, .instanceMethod tInit0, .code tInit0 Init0.code 1 none, .instanceMethod oInit, .code oInit object_method_1_code 1 none,
  .methodLink tN 1 oInit, .methodLink tN 27 tFill, .methodLink tN 202 tFill0, .fieldLink tN 7 tN "cause" "Ljava/lang/Throwable;", .lays rc tN "cause" "Ljava/lang/Throwable;", .fieldLink tN 17 tN "stackTrace" steD, .lays rc tN "stackTrace" steD, .fieldLink tN 24 tN "suppressedExceptions" listD, .lays rc tN "suppressedExceptions" listD,
  .fieldLink tN 13 tN "UNASSIGNED_STACK" steD, .laysStatic tN "UNASSIGNED_STACK" steD, .fieldLink tN 20 tN "SUPPRESSED_SENTINEL" listD, .laysStatic tN "SUPPRESSED_SENTINEL" listD, .fieldLink tN 31 tN "detailMessage" "Ljava/lang/String;", .lays rc tN "detailMessage" "Ljava/lang/String;"]
theorem own_at {args : Array Value} {s : State} {L : List Jvm.Cond} (h : ∀ d ∈ L, d.before args s = true) (i : Nat) {d : Jvm.Cond} (q : L[i]? = some d) : d.holds args s none s [] = true := h d (List.mem_of_getElem? q)
theorem own_thr {args : Array Value} {s : State} {rc : String} {cR : ClassId} {kR : Class} {pl : Platform} (howns : pl.frameOwnsMonitors = true) (hfin : pl.finalization = false) (hpl : pl.magicAccessors = ({} : Platform).magicAccessors) (w : ∀ d ∈ own_atoms rc, d.before args s = true) (hcR : s.vm.findClass rc = some cR) (hkR : s.vm.classes[cR]? = some kR) :
    ∃ T : ThrowableC, T.Links pl s ∧ s.vm.findClass tN = some T.cT ∧ s.methodNamed? tFill = some T.fill ∧ s.methodNamed? tFill0 = some T.fill0 ∧ (∃ i, s.fieldFound? tN "stackTrace" steD = some (T.cT, T.kT, i, T.fStack)) ∧ (∃ i, s.fieldFound? tN "UNASSIGNED_STACK" steD = some (T.cT, T.kT, i, T.fUnassigned)) ∧ T.fStack.type = .array (.object "java/lang/StackTraceElement") := by
  obtain ⟨⟨cT, jN⟩, mN, nN, atN, isN, noC, noL, sgN⟩ := Cond.native_spec (own_at w 0 rfl)
  have fT : s.vm.findClass tN = some cT := findClass_of_methodNamed nN
  obtain ⟨kT, clT, nameT⟩ := Vm.findClass_spec fT
  obtain ⟨_, kT', _, _, clT', _, _, _, _, noF⟩ := Cond.superclass_spec fT (own_at w 2 rfl)
  cases clT.symm.trans clT'
  obtain ⟨jF, mF, nF, atF, inF, stF, abF, -, -⟩ := Cond.ownMethod (x := tFill) fT clT (own_at w 3 rfl)
  obtain ⟨mF', bF, atF', cdF, byF, mxF, rtF, lkF, -, sgF⟩ := Cond.codeSync_spec nF (own_at w 4 rfl)
  cases atF.symm.trans atF'
  obtain ⟨jN', mN', nN', atN', inN, stN, abN, nmN, dsN⟩ := Cond.ownMethod (x := tFill0) fT clT (own_at w 5 rfl)
  cases nN.symm.trans nN'
  cases atN.symm.trans atN'
  obtain ⟨jI, mI, nI, atI, inI, -, -, -, -⟩ := Cond.ownMethod (x := tInit0) fT clT (own_at w 6 rfl)
  obtain ⟨mI', bI, atI', cdI, byI, mxI, -, lkI, -, -⟩ := Cond.code_spec nI (own_at w 7 rfl)
  cases atI.symm.trans atI'
  obtain ⟨iO, mO, nO, atO, stO, abO⟩ := Cond.instanceMethod_spec (own_at w 8 rfl)
  obtain ⟨mO', bO, atO', cdO, byO, mxO, -, lkO, -, sgO⟩ := Cond.code_spec nO (own_at w 9 rfl)
  cases atO.symm.trans atO'
  obtain ⟨kO, clO, nameO⟩ := Vm.findClass_spec (findClass_of_methodNamed nO)
  obtain ⟨nmO, dsO⟩ := name_of_methodNamed nO atO
  obtain ⟨ci1, n1, cf, l1, r1, cfT, p1⟩ := Cond.linkedMethod fT clT nO (own_at w 10 rfl) pl hpl
  obtain ⟨ci2, n2, cf2, l2, r2, cfT2, p2⟩ := Cond.linkedMethod fT clT nF (own_at w 11 rfl) pl hpl
  obtain ⟨ci3, n3, cf3, l3, r3, cfT3, p3⟩ := Cond.linkedMethod fT clT nN (own_at w 12 rfl) pl hpl
  cases cfT.symm.trans cfT2
  cases cfT.symm.trans cfT3
  obtain ⟨c7, i7, f7, l7, r7, a7, s7, x7, -, -, -⟩ := Cond.ownField (t := .object tN) fT clT (by decide +kernel) (own_at w 13 rfl) (own_at w 14 rfl) pl hpl
  obtain ⟨c17, i17, f17, l17, r17, a17, s17, x17, m17, t17, g17⟩ := Cond.ownField (t := .array (.object "java/lang/StackTraceElement")) fT clT (by decide +kernel) (own_at w 15 rfl) (own_at w 16 rfl) pl hpl
  obtain ⟨c24, i24, f24, l24, r24, a24, s24, x24, m24, -, g24⟩ := Cond.ownField (t := .object "java/util/List") fT clT (by decide +kernel) (own_at w 17 rfl) (own_at w 18 rfl) pl hpl
  obtain ⟨c13, i13, f13, aS, zS, l13, r13, a13, s13, -, -, hS, -, -, -, -, g13⟩ := Cond.ownStatic (t := .array (.object "java/lang/StackTraceElement")) fT clT (by decide +kernel) (own_at w 19 rfl) (own_at w 20 rfl) pl hpl
  obtain ⟨c20, i20, f20, _, _, l20, r20, a20, s20, -⟩ := Cond.ownStatic (t := .object "java/util/List") fT clT (by decide +kernel) (own_at w 21 rfl) (own_at w 22 rfl) pl hpl
  obtain ⟨c31, i31, f31, -, -, -, s31, x31, -⟩ := Cond.ownField (t := .object "java/lang/String") fT clT (by decide +kernel) (own_at w 23 rfl) (own_at w 24 rfl) pl hpl
  obtain ⟨-, d17, e17, q17⟩ := Cond.laysAt hcR hkR g17 (own_at w 16 rfl)
  obtain ⟨-, d24, e24, q24⟩ := Cond.laysAt hcR hkR g24 (own_at w 18 rfl)
  have apart : f17.slot ≠ f24.slot := Cond.laysApart e17 e24 q17 q24 (by rw [m17, m24]; decide)
  have eF : mF.sig.parameters = [] := by
    have z : (parseMethodDescriptor tFill.desc).map (·.parameters) = some [] := by decide +kernel
    rw [sgF] at z; simpa using z
  have eN : mN.sig.parameters = [.int] := by
    have z : (parseMethodDescriptor tFill0.desc).map (·.parameters) = some [.int] := by decide +kernel
    rw [sgN] at z; simpa using z
  have eO : mO.sig.parameters.length = 0 := by
    have z : (parseMethodDescriptor oInit.desc).map (·.parameters) = some [] := by decide +kernel
    rw [sgO] at z
    have z' : mO.sig.parameters = [] := by simpa using z
    rw [z']; rfl
  let T : ThrowableC := { cT := cT, kT := kT, cO := cT, aS := aS, fillIdx := jF, fill0Idx := jN, initSIdx := jI, obj := iO, kObj := kO, methFill := mF, methFill0 := mN, methInitS := mI, methObj := mO, codeFill := bF, codeInitS := bI, codeObj := bO, fBack := f7, fDepth := f7, fStack := f17, fCause := f7, fSupp := f24, fMsg := f31, fUnassigned := f13, fSentinel := f20, cfT := cf, ci1 := ci1, n1 := n1, ci27 := ci2, n27 := n2, ci202 := ci3, n202 := n3, ci7 := c7, i7 := i7, ci13 := c13, i13 := i13, ci17 := c17, i17 := i17, ci20 := c20, i20 := i20, ci24 := c24, i24 := i24 }
  refine ⟨T, ?_, fT, nF, nN, ⟨i17, g17⟩, ⟨i13, g13⟩, t17⟩
  constructor
  all_goals first | assumption | exact Vm.findClass_boot fT clT | exact Cond.initialized_spec fT clT (own_at w 1 rfl) | (rw [show T.methObj.desc = oInit.desc from dsO]; exact lookupSpecial_of_named nO atO stO)
def own_more (rc : String) : List Jvm.Cond := [.declares tFill, .selects rc tFill0 tFill0, .selects rc tFill tFill, .fieldLink tN 198 tN "backtrace" "Ljava/lang/Object;", .lays rc tN "backtrace" "Ljava/lang/Object;", .lays rc tN "depth" "I", .soleField tN "backtrace", .soleField tN "depth", .arrayOver (.object "java/lang/Object"), .lays rc tN "stackTrace" steD]
def own_three (Z : State) (a : Addr) : List Loc := [⟨a, Jvm.RoadKit.slotOf Z tN "backtrace" "Ljava/lang/Object;"⟩, ⟨a, Jvm.RoadKit.slotOf Z tN "depth" "I"⟩, ⟨a, Jvm.RoadKit.slotOf Z tN "stackTrace" steD⟩]
theorem own_frfill {Z : State} {k : Nat} {a : Addr} {locs : List Loc} (N : Fr k locs) (q : k ≤ a) : Fr k (locs ++ own_three Z a) := N.app fun y hy => by
  simp only [own_three, List.mem_cons, List.not_mem_nil, or_false] at hy
  rcases hy with rfl | rfl | rfl <;> exact q
theorem own_slot {Z s : State} (hZ : Z.Warmed39 s.vm) {C n d : String} {c : ClassId} {k : Class} {i : Nat} {f : Field} (q : s.fieldFound? C n d = some (c, k, i, f)) : Jvm.RoadKit.slotOf Z C n d = f.slot := by
  obtain ⟨c', k', i', q'⟩ := Jvm.Free.BdW.found_ride (U := s) (U' := Z) hZ.alike.symm ⟨c, k, i, q⟩
  simp [Jvm.RoadKit.slotOf, q']
theorem own_fillG {p : Program} {l : Launch} {e : Env} {R : Room} {s : State} {m : MethodId} {args : Array Value} {below : List Frame} {meth : Method} {c : Code} {T : State} {locs : List Loc} {cells slots : Nat} {Z : State} {a0 : Array Value} {h : Heap} {rc : String} {nI : Nat} (X : Stand p l e R s m args below meth c T locs cells slots) (hx : p.tables.exec = Jvm.exec) (hlt : l.stackTraces = true) (hZ : Z.Warmed39 s.vm) (hA : ∀ d ∈ own_atoms rc, d.before a0 Z = true) (hB : ∀ d ∈ own_more rc, d.before a0 Z = true) (wi : (Jvm.Cond.instantiable rc nI).before a0 Z = true)
    (hown : s.vm.findClass tN = some m.cls) (hTK : s.vm.MethodsKnown) (hBW : s.vm.FramesKnown below) (hT0 : ThS Z s.heap) (hT : ThS Z h) (eT : T.heap = h) {a aUS : Addr} (E : Exa Z h a rc) (U : Unt h a) (B : Fld Z h a tN "backtrace" "Ljava/lang/Object;" .null) (S : Fld Z h a tN "stackTrace" steD (.ref aUS)) (G : Sta Z h tN "UNASSIGNED_STACK" steD (.ref aUS))
    {g : JFrame} (hg : g.method = m) (hsize : g.locals.size = c.maxLocals) {rest : List Value} (hs : g.stack = .ref a :: rest) (hd : decode c.code g.pc = .ok (.invokevirtual 27, 3)) (hf : 3 ≤ R.frames) {W : Nat} (hW : 2 * g.monitorRoom + (rest.map fun v => v.category).sum ≤ W) (hlo : W + 42 ≤ R.locals) (hc : cells + 1 ≤ R.cells) (hsl : slots + 2752 ≤ R.slots) :
    ∃ (T' : State) (h' : Heap), Stand p l e R s m args below meth c T' (locs ++ own_three Z a) (cells + 1) (slots + 2752) ∧ T'.heap = h' ∧ Keep h h' [a] ∧ Exa Z h' a rc ∧
      (∀ {O n d : String} {v : Value}, Fld Z h a O n d v → Jvm.RoadKit.slotOf Z O n d ≠ Jvm.RoadKit.slotOf Z tN "backtrace" "Ljava/lang/Object;" → Jvm.RoadKit.slotOf Z O n d ≠ Jvm.RoadKit.slotOf Z tN "depth" "I" → Jvm.RoadKit.slotOf Z O n d ≠ Jvm.RoadKit.slotOf Z tN "stackTrace" steD → Fld Z h' a O n d v) ∧
      ∀ target, Steps p.tables e below (T'.setTop { g with pc := g.pc + 3, stack := .ref a :: rest }) target → Steps p.tables e below (T.setTop g) target := by
  have htr : e.platform.stackTraces = true := by rw [X.admits.platform]; exact hlt
  have howns : e.platform.frameOwnsMonitors = true := by rw [X.admits.platform]
  have hfin : e.platform.finalization = false := by rw [X.admits.platform]
  have hpl : e.platform.magicAccessors = ({} : Platform).magicAccessors := by rw [X.admits.platform]
  have wA : ∀ d ∈ own_atoms rc, d.before args s = true := fun d hd => mvX hT0 hZ (List.all_eq_true.mp (rfl : (own_atoms rc).all xOk = true) d hd) (hA d hd)
  have wB : ∀ d ∈ own_more rc, d.before args s = true := fun d hd => mvX hT0 hZ (List.all_eq_true.mp (rfl : (own_more rc).all xOk = true) d hd) (hB d hd)
  obtain ⟨cell, k, E1, E2, E3, E4, E5⟩ := id E
  obtain ⟨cell', U1, U2, U3⟩ := id U
  cases E1.symm.trans U1
  obtain ⟨k', hk', ek⟩ := hZ.alike.2.2 _ _ E3
  have hcR : s.vm.findClass rc = some cell.cls := by rw [hZ.alike.findClass]; exact E2
  obtain ⟨Tb, Lk, fT, nF, nN, ⟨i17, g17⟩, ⟨i13, g13⟩, t17⟩ := own_thr howns hfin hpl wA hcR hk'
  obtain ⟨cI, kI, I1, I2, hord, -⟩ := Cond.instantiable_spec (mvX (args := args) hT0 hZ rfl wi)
  have eI := Option.some.inj (I1.symm.trans hcR)
  rw [eI] at I2
  cases I2.symm.trans hk'
  have hsz : cell.slots.size = k'.instanceTypes.size := by rw [ek]; exact E5 (by rw [ek] at hord; exact hord)
  have hsel0 : selectMethod e.platform s.vm cell.cls Tb.fill0 = .method Tb.fill0 := by
    obtain ⟨c2, r2, m2, q1, q2, q3, q4, -⟩ := Cond.selects_spec (own_at wB 1 rfl)
    cases Option.some.inj (q1.symm.trans hcR)
    cases Option.some.inj (q2.symm.trans (State.methodFound?_of_named nN (by decide)))
    cases Option.some.inj (q3.symm.trans nN)
    rw [Launch.admits_selectMethod X.admits]; exact q4
  obtain ⟨cf, iU, kU, fU, st, cS, G1, G2, G3, G4, G5, G6, G7⟩ := id G
  obtain ⟨k13, hG1, ekU⟩ := State.fieldFound?_setVm (s := Z) hZ.alike G1
  cases hG1.symm.trans g13
  have eS : Tb.aS = st := by
    have q : Tb.kT.statics = kU.statics := by rw [ekU]
    exact Option.some.inj (Lk.statics.symm.trans (q.trans G4))
  have hneS : Tb.aS ≠ a := fun z => by
    rw [eS] at z
    rw [z, E1] at G5
    rw [← Option.some.inj G5, U2] at G6
    cases G6
  obtain ⟨c5, cf5, k5, i5, f5, s1, s2, s3, s4, s5, s6, s7⟩ := id S
  cases E1.symm.trans s1
  obtain ⟨k5', hs2, -⟩ := State.fieldFound?_setVm (s := Z) hZ.alike s2
  cases hs2.symm.trans g17
  obtain ⟨ci198, i198, fB, hk198, hg198, ha198, hsB, -, hnB, htB, hffB⟩ := Cond.ownField (t := .object "java/lang/Object") fT Lk.cls (by decide +kernel) (own_at wB 3 rfl) (own_at wB 4 rfl) e.platform hpl
  obtain ⟨c6, cf6, k6, i6, f6, b1, b2, b3, b4, b5, b6, b7⟩ := id B
  cases E1.symm.trans b1
  obtain ⟨k6', hb2, -⟩ := State.fieldFound?_setVm (s := Z) hZ.alike b2
  cases hb2.symm.trans hffB
  obtain ⟨cD1, kD1, cD, kD, iD, fD, -, -, hffD, hstD, -, -, -, -⟩ := Cond.lays_spec (own_at wB 5 rfl)
  cases Option.some.inj ((Cond.lays_declared (own_at wB 5 rfl) hffD).symm.trans fT)
  obtain ⟨hkD, hatD⟩ := State.fieldFound?_spec hffD
  cases Option.some.inj (hkD.symm.trans Lk.cls)
  obtain ⟨hnD, htD⟩ := State.fieldFound?_type hffD (t := .int) (by decide +kernel)
  have hfb := Cond.soleField_find fT Lk.cls (own_at wB 6 rfl) ha198 hnB hsB
  have hfd := Cond.soleField_find fT Lk.cls (own_at wB 7 rfl) hatD hnD hstD
  obtain ⟨comp, cO, kO, -, -, hkO, hkindO, hO⟩ := Cond.arrayOver_spec (own_at wB 8 rfl)
  obtain ⟨tyS, -⟩ := Cond.laysAt hcR hk' g17 (own_at wB 9 rfl)
  obtain ⟨tyB, -⟩ := Cond.laysAt hcR hk' hffB (own_at wB 4 rfl)
  obtain ⟨tyD, -⟩ := Cond.laysAt hcR hk' hffD (own_at wB 5 rfl)
  have tk : ∀ {f : Field} {v : Value}, k'.instanceTypes[f.slot]? = some f.type → fits f.type v = true → Jvm.Takes s cell f v := fun {f v} q1 q2 => by
    obtain ⟨r1, r2⟩ := Takes.of_laid (v := v) hk' hord q1 q2
    exact ⟨by rw [hsz]; simpa using r1, by rw [U2]; exact r2⟩
  obtain ⟨v6, vm6, ⟨T6, L6, c6, n6⟩, hW6, X6, ⟨hv6, vm7, lines, hln, hW7, hU, hL, hc6, hn6⟩, come⟩ := X.virtualBack hx (own := tN) (C := rc) (index := 27) (y := tFill) (z := tFill) hown (own_at wA 11 rfl) (own_at wB 0 rfl) (notFace_of_selects (own_at wB 2 rfl)) (own_at wB 2 rfl) (own_at wA 3 rfl) (by decide)
    (Jvm.Free.Str.fillPays (l := l) (W := W) hx htr Tb Lk nF (u0 := ⟨.ref aUS, rfl⟩) (by simp) (self := a) (cell := cell) (cellS := cS) (fun _ => by rw [U2]; simp) (by rw [U2]; simp) (by rw [U3]) (by rw [U3]) s7 hsel0 hneS (fun q => by rw [q] at G6; cases G6) G7 (tk tyS (by rw [t17]; exact fits_refV_array _ ⟨.ref aUS, rfl⟩))
      ⟨{ ci198 := ci198, i198 := i198, fBack := fB }, ⟨hk198, hg198, ha198, hsB⟩, b7⟩ hTK hBW fT hO hkO hkindO hfb hfd
      (fun x => tk tyB (by rw [htB]; rfl)) (fun x => tk tyD (by rw [htD]; rfl)) (by omega) (by omega))
    (b := a) (cB := cell.cls) hcR ⟨cell, by rw [eT]; exact E1, rfl, E4⟩ (g := g) hg hsize (Steps.refl _) (argsL := []) (rest := rest)
    (fun sig q => by rw [show parseMethodDescriptor tFill.desc = some ⟨[], some (.object tN)⟩ from by decide +kernel] at q; rw [← Option.some.inj q]; rfl) hs hW hd
    (fun vmx hWx => ⟨rfl, hc, hsl, by show T.heap[a]? = _; rw [eT]; exact E1, by show T.heap[Tb.aS]? = _; rw [eT, eS]; exact G5⟩)
  dsimp only [Pt.U, Pt.locs, Pt.cells, Pt.slots] at X6 hU hL hc6 hn6 come
  subst hv6
  have hlt : a < h.size := (Array.getElem?_eq_some_iff.mp E1).1
  obtain ⟨F, eh, Fc, Fv, Fz, Fs⟩ : ∃ F : Cell, T6.heap = (h.push (traceHolder cO lines)).setIfInBounds a F ∧ F.cls = cell.cls ∧ F.vm = cell.vm ∧ F.slots.size = cell.slots.size ∧ ∀ i, i ≠ fB.slot → i ≠ fD.slot → i ≠ Tb.fStack.slot → F.slots[i]? = cell.slots[i]? :=
    ⟨Jvm.Free.Str.filledOn Tb.toThrowableT fB fD cell ⟨.ref aUS, rfl⟩ T.heap.size lines.length.toInt32, by rw [hU, ← eT]; rfl, rfl, rfl, by simp [Jvm.Free.Str.filledOn, Cell.setSlot], fun i q1 q2 q3 => by simp [Jvm.Free.Str.filledOn, Cell.setSlot, Ne.symm q1, Ne.symm q2, Ne.symm q3]⟩
  have hat : T6.heap[a]? = some F := by
    rw [eh, Array.getElem?_setIfInBounds, if_pos rfl, if_pos (by rw [Array.size_push]; exact Nat.lt_succ_of_lt hlt)]
  have hot : ∀ (x : Addr) (cx : Cell), h[x]? = some cx → x ≠ a → T6.heap[x]? = some cx := fun x cx q ne => by
    rw [eh, Array.getElem?_setIfInBounds_ne (Ne.symm ne), Array.getElem?_push_lt (Array.getElem?_eq_some_iff.mp q).1]
    exact congrArg some (Array.getElem?_eq_some_iff.mp q).2
  have w1 := own_slot hZ hffB
  have w2 := own_slot hZ hffD
  have w3 := own_slot hZ g17
  have e3 : own_three Z a = [⟨a, fB.slot⟩, ⟨a, fD.slot⟩, ⟨a, Tb.fStack.slot⟩] := by unfold own_three; rw [w1, w2, w3]
  have hsz7 := traceHolder_size_le cO hln
  refine ⟨T6, T6.heap, by rw [e3, ← hL]; exact X6.more (by omega) (by omega), rfl, ⟨?_, fun x cx q nx => hot x cx q (by simpa using nx), fun x cx q => ?_⟩, ⟨F, k, hat, by rw [Fc]; exact E2, by rw [Fc]; exact E3, by rw [Fv]; exact E4, fun q => by rw [Fz]; exact E5 q⟩, ?_, fun target q => come.trans q⟩
  · rw [eh, Array.size_setIfInBounds, Array.size_push]; omega
  · by_cases ne : x = a
    · subst ne
      cases E1.symm.trans q
      exact ⟨F, hat, Fc, Fv, Fz⟩
    · exact ⟨cx, hot x cx q ne, rfl, rfl, rfl⟩
  · intro O n d v H m1 m2 m3
    obtain ⟨c3, cf3, k3, i3, f3, q1, q2, q3, q4, q5, q6, q7⟩ := H
    cases E1.symm.trans q1
    have z3 : Jvm.RoadKit.slotOf Z O n d = f3.slot := by simp [Jvm.RoadKit.slotOf, q2]
    rw [z3, w1] at m1
    rw [z3, w2] at m2
    rw [z3, w3] at m3
    exact ⟨F, cf3, k3, i3, f3, hat, q2, q3, by rw [Fv]; exact q4, by rw [Fv]; exact q5, by rw [Fc]; exact q6, by rw [Fs _ m1 m2 m3]; exact q7⟩
theorem own_fill {p : Program} {l : Launch} {e : Env} {R : Room} {s : State} {m : MethodId} {args : Array Value} {below : List Frame} {meth : Method} {c : Code} {T : State} {locs : List Loc} {cells slots : Nat} {Z : State} {a0 : Array Value} {h : Heap} (X : Stand p l e R s m args below meth c T locs cells slots) (hx : p.tables.exec = Jvm.exec) (hlt : l.stackTraces = true) (hZ : Z.Warmed39 s.vm) (hw : ∀ d ∈ tables_1, d.before a0 Z = true) (hown : s.vm.findClass "java/lang/Throwable" = some m.cls) (hTK : s.vm.MethodsKnown) (hBW : s.vm.FramesKnown below) (hT0 : ThS Z s.heap) (hT : ThS Z h) (eT : T.heap = h) {a aUS : Addr} (E : Exa Z h a "com/example/grantline/grantline/PolicyException") (U : Unt h a)
    (B : Fld Z h a "java/lang/Throwable" "backtrace" "Ljava/lang/Object;" .null) (S : Fld Z h a "java/lang/Throwable" "stackTrace" "[Ljava/lang/StackTraceElement;" (.ref aUS)) (G : Sta Z h "java/lang/Throwable" "UNASSIGNED_STACK" "[Ljava/lang/StackTraceElement;" (.ref aUS))
    {g : JFrame} (hg : g.method = m) (hsize : g.locals.size = c.maxLocals) {rest : List Value} (hs : g.stack = .ref a :: rest) (hd : decode c.code g.pc = .ok (.invokevirtual 27, 3)) (hf : 3 ≤ R.frames) {W : Nat} (hW : 2 * g.monitorRoom + (rest.map fun v => v.category).sum ≤ W) (hlo : W + 42 ≤ R.locals) (hc : cells + 1 ≤ R.cells) (hsl : slots + 2752 ≤ R.slots) :
    ∃ (T' : State) (h' : Heap), Stand p l e R s m args below meth c T' (locs ++ own_three Z a) (cells + 1) (slots + 2752) ∧ T'.heap = h' ∧ Keep h h' [a] ∧ Exa Z h' a "com/example/grantline/grantline/PolicyException" ∧
      (∀ {O n d : String} {v : Value}, Fld Z h a O n d v → Jvm.RoadKit.slotOf Z O n d ≠ Jvm.RoadKit.slotOf Z "java/lang/Throwable" "backtrace" "Ljava/lang/Object;" → Jvm.RoadKit.slotOf Z O n d ≠ Jvm.RoadKit.slotOf Z "java/lang/Throwable" "depth" "I" → Jvm.RoadKit.slotOf Z O n d ≠ Jvm.RoadKit.slotOf Z "java/lang/Throwable" "stackTrace" "[Ljava/lang/StackTraceElement;" → Fld Z h' a O n d v) ∧
      ∀ target, Steps p.tables e below (T'.setTop { g with pc := g.pc + 3, stack := .ref a :: rest }) target → Steps p.tables e below (T.setTop g) target := by
  exact own_fillG X hx hlt hZ (own_sub hw [276, 256, 273, 269, 274, 275, 277, 278, 32, 33, 258, 267, 279, 259, 260, 262, 263, 265, 266, 261, 286, 264, 287, 293, 289] rfl) (own_sub hw [268, 288, 270, 284, 290, 291, 271, 272, 84, 263] rfl) (hw _ (List.mem_of_getElem? (i := 87) rfl)) hown hTK hBW hT0 hT eT E U B S G hg hsize hs hd hf hW hlo hc hsl
def GF (Z : State) (cS : Int32) (aDE : Addr) (kDE : ClassId) (aUS : Addr) (aSS : Addr) (aIE : Addr) (mO : Addr) : Prop := Sta Z Z.heap "java/lang/String" "COMPACT_STRINGS" "Z" (.int cS) ∧ ¬ (cS = (0 : Int32)) ∧ Sta Z Z.heap "java/util/ArrayList" "DEFAULTCAPACITY_EMPTY_ELEMENTDATA" "[Ljava/lang/Object;" (.ref aDE) ∧ Arv Z Z.heap aDE kDE (.object "java/lang/Object") (0 : Int32) [] .null ∧ Sta Z Z.heap "java/lang/Throwable" "UNASSIGNED_STACK" "[Ljava/lang/StackTraceElement;" (.ref aUS) ∧ Sta Z Z.heap "java/lang/Throwable" "SUPPRESSED_SENTINEL" "Ljava/util/List;" (.ref aSS) ∧ Sta Z Z.heap "java/util/ImmutableCollections" "EMPTY" "Ljava/lang/Object;" (.ref aIE) ∧ Mir Z "[Ljava/lang/Object;" mO
theorem D66 : dL jdk_52_method_21_code [(0, .iconst 0, 1), (1, .istore 5, 2), (3, .iload 5, 2), (5, .iload 4, 2), (7, .if_icmp .ge 37, 3), (10, .aload_n 0, 1), (11, .iload_n 1, 1), (12, .caload, 1), (13, .istore 6, 2), (15, .iload 6, 2), (17, .sipush 255, 3), (20, .if_icmp .le 6, 3), (26, .aload_n 2, 1), (27, .iload_n 3, 1), (28, .iload 6, 2), (30, .i2b, 1), (31, .bastore, 1), (32, .iinc 1 1, 3), (35, .iinc 3 1, 3), (38, .iinc 5 1, 3), (41, .goto (-38), 3), (44, .iload 4, 2), (46, .ireturn, 1)] = true := by decide +kernel
theorem pn : plainName "java/lang/StringUTF16" = true := by first | (simp [plainName, overriddenIn]; done) | decide +kernel
abbrev MN_0 : MethodName := ⟨"java/lang/StringUTF16", "compress", "([CI[BII)I"⟩
theorem ef_rmC2_2 (m : MethodId) (a0c : Addr) (a2b : Addr) : entryFrame m #[(.ref a0c), (.int 0), (.ref a2b), (.int 0), (.int 2)] 7 = mkF m 0 #[vr a0c, vi (0 : Int32), vr a2b, vi (0 : Int32), vi (2 : Int32), .unset, .unset] [] := by first | (simp [entryFrame, mkF, argsToLocals, Value.category]; done) | rfl
def Q_rmC2_2 (n0 : Nat) (Z : State) (cS : Int32) (aDE : Addr) (kDE : ClassId) (aUS : Addr) (aSS : Addr) (aIE : Addr) (mO : Addr) (a0c : Addr) (a2b : Addr) (k0 : ClassId) (k2 : ClassId) (c0 : Int32) (c1 : Int32) (h0 : Heap) (v : Option Value) (h : Heap) (L : List Loc) : Prop := v = some (.int 2) ∧ Fr n0 L ∧ Keep h0 h [a2b] ∧ (Arv Z h a2b k2 .byte (2 : Int32) [(.int (c0.toInt8.toInt32)), (.int (c1.toInt8.toInt32))] (.int 0))
theorem rmC2_2 (l : Launch) (Z : State) (a0 : Array Value) (hw : ∀ d ∈ tables_1, d.before a0 Z = true) (ws : List Jvm.Cond) (cS : Int32) (aDE : Addr) (kDE : ClassId) (aUS : Addr) (aSS : Addr) (aIE : Addr) (mO : Addr) (a0c : Addr) (a2b : Addr) (k0 : ClassId) (k2 : ClassId) (c0 : Int32) (c1 : Int32) (h0 : Heap) (n0 : Nat) (O0 : Old Z n0 h0) (GL : GF Z cS aDE kDE aUS aSS aIE mO) (V_a0c : Arv Z h0 a0c k0 .char (2 : Int32) [(.int c0), (.int c1)] (.int 0)) (V_a2b : Arv Z h0 a2b k2 .byte (2 : Int32) [(.int 0), (.int 0)] (.int 0)) (g_a2b : n0 ≤ a2b) (hc0 : ¬ ((255 : Int32) < c0)) (hc1 : ¬ ((255 : Int32) < c1)) :
    MF l MN_0 jdk_52_method_21_code 7 (some .int) ws (Rm 0 0 0 0) #[(.ref a0c), (.int 0), (.ref a2b), (.int 0), (.int 2)] Z h0 (Q_rmC2_2 n0 Z cS aDE kDE aUS aSS aIE mO a0c a2b k0 k2 c0 c1 h0) := by
  refine MetFree.of_bodySF (plainFor_of_name pn) hisR ?_
  intro p e s m args below meth c s₁ Bd hml0 hP hK
  obtain ⟨rfl, hZ, hh⟩ := hP
  have hx := Bd.exec
  have hby := Bd.bytes
  have hml : c.maxLocals = 7 := hml0
  have hown : s.vm.findClass "java/lang/StringUTF16" = some m.cls := findClass_of_methodNamed Bd.named
  have hnm := (name_of_methodNamed Bd.named Bd.method).1
  have X0 : Stand p l e (Rm 0 0 0 0) s m #[(.ref a0c), (.int 0), (.ref a2b), (.int 0), (.int 2)] below meth c s₁ [] 0 0 := Stand.of_body Bd
  have e0 : s₁.heap = h0 := by rw [← hh, Bd.state]; rfl
  have N0 := Fr.nil n0
  have pre0 : ∀ t, SP p e below s₁ m 0 #[vr a0c, vi (0 : Int32), vr a2b, vi (0 : Int32), vi (2 : Int32), .unset, .unset] [] t → Steps p.tables e below (s₁.setTop (entryFrame m #[(.ref a0c), (.int 0), (.ref a2b), (.int 0), (.int 2)] 7)) t := fun t k => castTop (ef_rmC2_2 m a0c a2b) k
  have GL' := GL
  obtain ⟨GCS, GCP, GDE, GVE, GUS, GSS, GIE, GMO⟩ := GL'
  obtain ⟨cl1, Ar1, -, S1, N1_, H1, G1⟩ := id (V_a0c)
  have hin1 : ¬ ((0 : Int32) < 0 ∨ cl1.slots.size ≤ ((0 : Int32)).toNatClampNeg) := inb_of S1 ⟨(by decide), (by decide)⟩
  have hat1 : cl1.slots[((0 : Int32)).toNatClampNeg]? = some (.int c0) := H1.at hin1 rfl
  obtain ⟨cl2, Ar2, q2, S2, N2_, H2, G2⟩ := id (V_a2b)
  have hin2 : ¬ ((0 : Int32) < 0 ∨ cl2.slots.size ≤ ((0 : Int32)).toNatClampNeg) := inb_of S2 ⟨(by decide), (by decide)⟩
  obtain ⟨T2, h2, X2, e2, W2, st2⟩ := stB X0 hx hZ e0 Ar2 (j := (0 : Int32)) hin2 (g := mkF m 31 #[vr a0c, vi (0 : Int32), vr a2b, vi (0 : Int32), vi (2 : Int32), vi (0 : Int32), vi c0] [(.int (c0.toInt8.toInt32)), (.int 0), (.ref a2b)]) rfl rfl (dG hby D66 16 rfl)
  have K2 : Keep h0 h2 [a2b] := (Keep.refl h0 [a2b]).wr W2 (Or.inl (List.mem_of_getElem? (i := 0) rfl))
  have O2 := O0.wr W2 g_a2b
  have N2 := Fr.snoc X2 N0 g_a2b
  have V2' : Arv Z h2 a2b k2 .byte (2 : Int32) [(.int ((c0.toInt8.toInt32)).toInt8.toInt32), (.int 0)] (.int 0) := Arv.set Ar2 q2 S2 N2_ H2 G2 (fits_nar_byte _) W2 0 rfl (Nat.le_of_ble_eq_true rfl)
  have V2 : Arv Z h2 a2b k2 .byte (2 : Int32) [(.int (c0.toInt8.toInt32)), (.int 0)] (.int 0) := by
    rw [own_b2 c0] at V2'
    exact V2'
  obtain ⟨cl3, Ar3, -, S3, N3_, H3, G3⟩ := id ((V_a0c.other W2 (own_neArv V_a0c V_a2b (by decide))))
  have hin3 : ¬ ((1 : Int32) < 0 ∨ cl3.slots.size ≤ ((1 : Int32)).toNatClampNeg) := inb_of S3 ⟨(by decide), (by decide)⟩
  have hat3 : cl3.slots[((1 : Int32)).toNatClampNeg]? = some (.int c1) := H3.at hin3 rfl
  obtain ⟨cl4, Ar4, q4, S4, N4_, H4, G4⟩ := id (V2)
  have hin4 : ¬ ((1 : Int32) < 0 ∨ cl4.slots.size ≤ ((1 : Int32)).toNatClampNeg) := inb_of S4 ⟨(by decide), (by decide)⟩
  obtain ⟨T4, h4, X4, e4, W4, st4⟩ := stB X2 hx hZ e2 Ar4 (j := (1 : Int32)) hin4 (g := mkF m 31 #[vr a0c, vi (1 : Int32), vr a2b, vi (1 : Int32), vi (2 : Int32), vi (1 : Int32), vi c1] [(.int (c1.toInt8.toInt32)), (.int 1), (.ref a2b)]) rfl rfl (dG hby D66 16 rfl)
  have K4 : Keep h0 h4 [a2b] := K2.wr W4 (Or.inl (List.mem_of_getElem? (i := 0) rfl))
  have O4 := O2.wr W4 g_a2b
  have N4 := Fr.snoc X4 N2 g_a2b
  have V4' : Arv Z h4 a2b k2 .byte (2 : Int32) [(.int (c0.toInt8.toInt32)), (.int ((c1.toInt8.toInt32)).toInt8.toInt32)] (.int 0) := Arv.set Ar4 q4 S4 N4_ H4 G4 (fits_nar_byte _) W4 1 rfl (Nat.le_of_ble_eq_true rfl)
  have V4 : Arv Z h4 a2b k2 .byte (2 : Int32) [(.int (c0.toInt8.toInt32)), (.int (c1.toInt8.toInt32))] (.int 0) := by
    rw [own_b2 c1] at V4'
    exact V4'
  obtain ⟨fs, hr, hrun, hended, hW, hsame⟩ := X4.leave (v := some (.int 2)) (fun h => by rw [Bd.returns] at h; cases h)
  refine ⟨_, _, pre0 _ ?_, hrun, hended, _, _, rfl, ?_, ⟨_, rfl⟩, hW, hsame.mono (by decide) (by decide)⟩
  · show SP p e below s₁ m 0 #[vr a0c, vi (0 : Int32), vr a2b, vi (0 : Int32), vi (2 : Int32), .unset, .unset] [] _
    refine XS.iconst X0.here hx rfl (dG hby D66 0 rfl) ?_
    refine XS.istore X0.here hx rfl (dG hby D66 1 rfl) rfl (l' := #[vr a0c, vi (0 : Int32), vr a2b, vi (0 : Int32), vi (2 : Int32), vi (0 : Int32), .unset]) rfl ?_
    refine XS.iload X0.here hx rfl (dG hby D66 2 rfl) rfl ?_
    refine XS.iload X0.here hx rfl (dG hby D66 3 rfl) rfl ?_
    refine XS.icmpNo X0.here hx rfl (dG hby D66 4 rfl) rfl (tlt (by decide : (0 : Int32) < (2 : Int32))).2.1 ?_
    refine XS.aloadN X0.here hx rfl (dG hby D66 5 rfl) rfl rfl ?_
    refine XS.iloadN X0.here hx rfl (dG hby D66 6 rfl) rfl ?_
    show SP p e below s₁ m 12 #[vr a0c, vi (0 : Int32), vr a2b, vi (0 : Int32), vi (2 : Int32), vi (0 : Int32), .unset] [(.int 0), (.ref a0c)] _
    refine X0.caload hx (j := (0 : Int32)) (v := (.int c0)) (by rw [e0]; exact Ar1.1) (State.isArrayOf_alike hZ.alike Ar1.2.1) Ar1.2.2 hin1 hat1 (g := mkF m 12 #[vr a0c, vi (0 : Int32), vr a2b, vi (0 : Int32), vi (2 : Int32), vi (0 : Int32), .unset] [(.int 0), (.ref a0c)]) rfl rfl (dG hby D66 7 rfl) _ ?_
    show SP p e below s₁ m 13 #[vr a0c, vi (0 : Int32), vr a2b, vi (0 : Int32), vi (2 : Int32), vi (0 : Int32), .unset] [(.int c0)] _
    refine XS.istore X0.here hx rfl (dG hby D66 8 rfl) rfl (l' := #[vr a0c, vi (0 : Int32), vr a2b, vi (0 : Int32), vi (2 : Int32), vi (0 : Int32), vi c0]) rfl ?_
    refine XS.iload X0.here hx rfl (dG hby D66 9 rfl) rfl ?_
    refine XS.sipush X0.here hx rfl (dG hby D66 10 rfl) ?_
    refine XS.icmpYes X0.here hx rfl (pc0 := 20) (pc' := 26) rfl (dG hby D66 11 rfl) rfl (flt hc0).2.2.2 (by decide) (by decide) ?_
    refine XS.aloadN X0.here hx rfl (dG hby D66 12 rfl) rfl rfl ?_
    refine XS.iloadN X0.here hx rfl (dG hby D66 13 rfl) rfl ?_
    refine XS.iload X0.here hx rfl (dG hby D66 14 rfl) rfl ?_
    refine XS.i2b X0.here hx rfl (dG hby D66 15 rfl) rfl ?_
    show SP p e below s₁ m 31 #[vr a0c, vi (0 : Int32), vr a2b, vi (0 : Int32), vi (2 : Int32), vi (0 : Int32), vi c0] [(.int (c0.toInt8.toInt32)), (.int 0), (.ref a2b)] _
    refine st2 _ ?_
    show SP p e below T2 m 32 #[vr a0c, vi (0 : Int32), vr a2b, vi (0 : Int32), vi (2 : Int32), vi (0 : Int32), vi c0] [] _
    refine XS.iinc X2.here hx rfl (dG hby D66 17 rfl) rfl (l' := #[vr a0c, vi (1 : Int32), vr a2b, vi (0 : Int32), vi (2 : Int32), vi (0 : Int32), vi c0]) rfl ?_
    refine XS.iinc X2.here hx rfl (dG hby D66 18 rfl) rfl (l' := #[vr a0c, vi (1 : Int32), vr a2b, vi (1 : Int32), vi (2 : Int32), vi (0 : Int32), vi c0]) rfl ?_
    refine XS.iinc X2.here hx rfl (dG hby D66 19 rfl) rfl (l' := #[vr a0c, vi (1 : Int32), vr a2b, vi (1 : Int32), vi (2 : Int32), vi (1 : Int32), vi c0]) rfl ?_
    refine XS.goto X2.here hx rfl (pc0 := 41) (pc' := 3) rfl (dG hby D66 20 rfl) (by decide) (by decide) ?_
    refine XS.iload X2.here hx rfl (dG hby D66 2 rfl) rfl ?_
    refine XS.iload X2.here hx rfl (dG hby D66 3 rfl) rfl ?_
    refine XS.icmpNo X2.here hx rfl (dG hby D66 4 rfl) rfl (tlt (by decide : (1 : Int32) < (2 : Int32))).2.1 ?_
    refine XS.aloadN X2.here hx rfl (dG hby D66 5 rfl) rfl rfl ?_
    show SP p e below T2 m 11 #[vr a0c, vi (1 : Int32), vr a2b, vi (1 : Int32), vi (2 : Int32), vi (1 : Int32), vi c0] [(.ref a0c)] _
    refine XS.iloadN X2.here hx rfl (dG hby D66 6 rfl) rfl ?_
    show SP p e below T2 m 12 #[vr a0c, vi (1 : Int32), vr a2b, vi (1 : Int32), vi (2 : Int32), vi (1 : Int32), vi c0] [(.int 1), (.ref a0c)] _
    refine X2.caload hx (j := (1 : Int32)) (v := (.int c1)) (by rw [e2]; exact Ar3.1) (State.isArrayOf_alike hZ.alike Ar3.2.1) Ar3.2.2 hin3 hat3 (g := mkF m 12 #[vr a0c, vi (1 : Int32), vr a2b, vi (1 : Int32), vi (2 : Int32), vi (1 : Int32), vi c0] [(.int 1), (.ref a0c)]) rfl rfl (dG hby D66 7 rfl) _ ?_
    show SP p e below T2 m 13 #[vr a0c, vi (1 : Int32), vr a2b, vi (1 : Int32), vi (2 : Int32), vi (1 : Int32), vi c0] [(.int c1)] _
    refine XS.istore X2.here hx rfl (dG hby D66 8 rfl) rfl (l' := #[vr a0c, vi (1 : Int32), vr a2b, vi (1 : Int32), vi (2 : Int32), vi (1 : Int32), vi c1]) rfl ?_
    refine XS.iload X2.here hx rfl (dG hby D66 9 rfl) rfl ?_
    refine XS.sipush X2.here hx rfl (dG hby D66 10 rfl) ?_
    refine XS.icmpYes X2.here hx rfl (pc0 := 20) (pc' := 26) rfl (dG hby D66 11 rfl) rfl (flt hc1).2.2.2 (by decide) (by decide) ?_
    refine XS.aloadN X2.here hx rfl (dG hby D66 12 rfl) rfl rfl ?_
    refine XS.iloadN X2.here hx rfl (dG hby D66 13 rfl) rfl ?_
    refine XS.iload X2.here hx rfl (dG hby D66 14 rfl) rfl ?_
    refine XS.i2b X2.here hx rfl (dG hby D66 15 rfl) rfl ?_
    show SP p e below T2 m 31 #[vr a0c, vi (1 : Int32), vr a2b, vi (1 : Int32), vi (2 : Int32), vi (1 : Int32), vi c1] [(.int (c1.toInt8.toInt32)), (.int 1), (.ref a2b)] _
    refine st4 _ ?_
    show SP p e below T4 m 32 #[vr a0c, vi (1 : Int32), vr a2b, vi (1 : Int32), vi (2 : Int32), vi (1 : Int32), vi c1] [] _
    refine XS.iinc X4.here hx rfl (dG hby D66 17 rfl) rfl (l' := #[vr a0c, vi (2 : Int32), vr a2b, vi (1 : Int32), vi (2 : Int32), vi (1 : Int32), vi c1]) rfl ?_
    refine XS.iinc X4.here hx rfl (dG hby D66 18 rfl) rfl (l' := #[vr a0c, vi (2 : Int32), vr a2b, vi (2 : Int32), vi (2 : Int32), vi (1 : Int32), vi c1]) rfl ?_
    refine XS.iinc X4.here hx rfl (dG hby D66 19 rfl) rfl (l' := #[vr a0c, vi (2 : Int32), vr a2b, vi (2 : Int32), vi (2 : Int32), vi (2 : Int32), vi c1]) rfl ?_
    refine XS.goto X4.here hx rfl (pc0 := 41) (pc' := 3) rfl (dG hby D66 20 rfl) (by decide) (by decide) ?_
    refine XS.iload X4.here hx rfl (dG hby D66 2 rfl) rfl ?_
    refine XS.iload X4.here hx rfl (dG hby D66 3 rfl) rfl ?_
    refine XS.icmpYes X4.here hx rfl (pc0 := 7) (pc' := 44) rfl (dG hby D66 4 rfl) rfl (flt (by decide : ¬ ((2 : Int32) < (2 : Int32)))).2.1 (by decide) (by decide) ?_
    refine XS.iload X4.here hx rfl (dG hby D66 21 rfl) rfl ?_
    show SP p e below T4 m 46 #[vr a0c, vi (2 : Int32), vr a2b, vi (2 : Int32), vi (2 : Int32), vi (2 : Int32), vi c1] [(.int 2)] _
    exact retI X4 hx Bd.returns (dG hby D66 22 rfl) hr
  · show Q_rmC2_2 n0 Z cS aDE kDE aUS aSS aIE mO a0c a2b k0 k2 c0 c1 h0 _ T4.heap _
    rw [e4]
    exact ⟨rfl, N4, K4, V4⟩
theorem D65 : dL jdk_52_method_16_code [(0, .iload_n 2, 1), (1, .newarray .byte, 2), (3, .astore_n 3, 1), (4, .aload_n 0, 1), (5, .iload_n 1, 1), (6, .aload_n 3, 1), (7, .iconst 0, 1), (8, .iload_n 2, 1), (9, .invokestatic 115, 3), (12, .istore 4, 2), (14, .iload 4, 2), (16, .iload_n 2, 1), (17, .if_icmp .eq 40, 3), (57, .aload_n 3, 1), (58, .areturn, 1)] = true := by decide +kernel
theorem pd : parseMethodDescriptor "([CI[BII)I" = some ⟨[(.array .char), .int, (.array .byte), .int, .int], some .int⟩ := by decide +kernel
abbrev MN_1 : MethodName := ⟨"java/lang/StringUTF16", "compress", "([CII)[B"⟩
theorem ef_rmC1_2 (m : MethodId) (a0c : Addr) : entryFrame m #[(.ref a0c), (.int 0), (.int 2)] 6 = mkF m 0 #[vr a0c, vi (0 : Int32), vi (2 : Int32), .unset, .unset, .unset] [] := by first | (simp [entryFrame, mkF, argsToLocals, Value.category]; done) | rfl
def Q_rmC1_2 (n0 : Nat) (Z : State) (cS : Int32) (aDE : Addr) (kDE : ClassId) (aUS : Addr) (aSS : Addr) (aIE : Addr) (mO : Addr) (a0c : Addr) (k0 : ClassId) (c0 : Int32) (c1 : Int32) (h0 : Heap) (v : Option Value) (h : Heap) (L : List Loc) : Prop := ∃ b : Addr, ∃ kb : ClassId, v = some (.ref b) ∧ Fr n0 L ∧ Keep h0 h [] ∧ (h0.size ≤ b) ∧ (Exa Z h b "[B") ∧ (Arv Z h b kb .byte (2 : Int32) [(.int (c0.toInt8.toInt32)), (.int (c1.toInt8.toInt32))] (.int 0))
theorem rmC1_2 (l : Launch) (Z : State) (a0 : Array Value) (hw : ∀ d ∈ tables_1, d.before a0 Z = true) (ws : List Jvm.Cond) (cS : Int32) (aDE : Addr) (kDE : ClassId) (aUS : Addr) (aSS : Addr) (aIE : Addr) (mO : Addr) (a0c : Addr) (k0 : ClassId) (c0 : Int32) (c1 : Int32) (h0 : Heap) (n0 : Nat) (O0 : Old Z n0 h0) (GL : GF Z cS aDE kDE aUS aSS aIE mO) (V_a0c : Arv Z h0 a0c k0 .char (2 : Int32) [(.int c0), (.int c1)] (.int 0)) (hc0 : ¬ ((255 : Int32) < c0)) (hc1 : ¬ ((255 : Int32) < c1)) :
    MF l MN_1 jdk_52_method_16_code 6 (some (.array .byte)) ws (Rm 1 1 2 18) #[(.ref a0c), (.int 0), (.int 2)] Z h0 (Q_rmC1_2 n0 Z cS aDE kDE aUS aSS aIE mO a0c k0 c0 c1 h0) := by
  refine MetFree.of_bodySF (plainFor_of_name pn) hisR ?_
  intro p e s m args below meth c s₁ Bd hml0 hP hK
  obtain ⟨rfl, hZ, hh⟩ := hP
  have hx := Bd.exec
  have hby := Bd.bytes
  have hml : c.maxLocals = 6 := hml0
  have hown : s.vm.findClass "java/lang/StringUTF16" = some m.cls := findClass_of_methodNamed Bd.named
  have hnm := (name_of_methodNamed Bd.named Bd.method).1
  have X0 : Stand p l e (Rm 1 1 2 18) s m #[(.ref a0c), (.int 0), (.int 2)] below meth c s₁ [] 0 0 := Stand.of_body Bd
  have e0 : s₁.heap = h0 := by rw [← hh, Bd.state]; rfl
  have N0 := Fr.nil n0
  have pre0 : ∀ t, SP p e below s₁ m 0 #[vr a0c, vi (0 : Int32), vi (2 : Int32), .unset, .unset, .unset] [] t → Steps p.tables e below (s₁.setTop (entryFrame m #[(.ref a0c), (.int 0), (.int 2)] 6)) t := fun t k => castTop (ef_rmC1_2 m a0c) k
  have GL' := GL
  obtain ⟨GCS, GCP, GDE, GVE, GUS, GSS, GIE, GMO⟩ := GL'
  obtain ⟨T1, h1, k1, X1, e1, E1, A1, A1', st1⟩ := newPE X0 hx hZ (Wd hw 8 rfl) e0 (g := mkF m 1 #[vr a0c, vi (0 : Int32), vi (2 : Int32), .unset, .unset, .unset] [(.int 2)]) rfl (dG hby D65 1 rfl) rfl (by decide) (cap := 2) (by decide) (by decide) (by decide) (by decide) (ad := "[B") rfl
  obtain ⟨b1, g1⟩ : ∃ z, z = h0.size := ⟨_, rfl⟩
  rw [← g1] at A1 A1' st1
  have g_b1 : n0 ≤ b1 := lTr (own_sz O0) (lEq g1.symm)
  have sz_b1 : h0.size ≤ b1 := lTr (Keep.refl h0 []).1 (lEq g1.symm)
  have K1 : Keep h0 h1 [] := (Keep.refl h0 []).ext E1
  have O1 := O0.ext E1
  have V_b1 : Arv Z h1 b1 k1 .byte (2 : Int32) [(.int 0), (.int 0)] (.int 0) := (Arv.new A1 (by decide)).pad (pad_rep [] (.int 0) 2)
  obtain ⟨_, _, ⟨T2, L2, k2, n2⟩, -, X2, ⟨Lc2, hQ2, l2, y2, z2⟩, st2⟩ := Jvm.LawKit.callS X1 hx (y := MN_0) hown (mvT hZ (Wd hw 427 rfl)) (mvT hZ (Wd hw 428 rfl)) (mvT hZ (Wd hw 425 rfl)) (mvT hZ (Wd hw 429 rfl)) (by decide) (backOf (W := 0) (rmC2_2 l Z a0 hw [] cS aDE kDE aUS aSS aIE mO a0c b1 k0 k1 c0 c1 h1 n0 O1 GL (V_a0c.ext E1) V_b1 g_b1 hc0 hc1) hZ (Wd hw 429 rfl) (Wd hw 425 rfl) (by decide) (by decide)) (g := mkF m 9 #[vr a0c, vi (0 : Int32), vi (2 : Int32), vr b1, .unset, .unset] [(.int 2), (.int 0), (.ref b1), (.int 0), (.ref a0c)]) rfl (by rw [hml]; rfl) (argsL := [(.ref a0c), (.int 0), (.ref b1), (.int 0), (.int 2)]) (rest := []) (lenOf pd rfl) rfl (by show 2 * 0 + _ ≤ _; exact lEq rfl) (dG hby D65 8 rfl) (fun _ _ => ⟨rfl, e1, (by decide : 1 + 0 ≤ _), (by decide : 2 + 0 ≤ _)⟩)
  dsimp only [Pt.U, Pt.locs, Pt.cells, Pt.slots] at X2 l2 y2 z2 st2 hQ2
  subst l2 y2 z2
  obtain ⟨rfl, N2q, Kc2, P2_0⟩ := hQ2
  have K2 : Keep h0 T2.heap [] := K1.trans Kc2 (allS (Or.inr sz_b1) all0)
  have O2 := O1.keep Kc2 (allS g_b1 all0)
  have N2 := Fr.app N0 N2q
  obtain ⟨fs, hr, hrun, hended, hW, hsame⟩ := X2.leave (v := some (.ref b1)) (fun h => by rw [Bd.returns] at h; cases h)
  refine ⟨_, _, pre0 _ ?_, hrun, hended, _, _, rfl, ?_, ⟨_, rfl⟩, hW, hsame.mono (by decide) (by decide)⟩
  · show SP p e below s₁ m 0 #[vr a0c, vi (0 : Int32), vi (2 : Int32), .unset, .unset, .unset] [] _
    refine XS.iloadN X0.here hx rfl (dG hby D65 0 rfl) rfl ?_
    show SP p e below s₁ m 1 #[vr a0c, vi (0 : Int32), vi (2 : Int32), .unset, .unset, .unset] [(.int 2)] _
    refine st1 _ ?_
    show SP p e below T1 m 3 #[vr a0c, vi (0 : Int32), vi (2 : Int32), .unset, .unset, .unset] [(.ref b1)] _
    refine XS.astoreN X1.here hx rfl (dG hby D65 2 rfl) rfl rfl (l' := #[vr a0c, vi (0 : Int32), vi (2 : Int32), vr b1, .unset, .unset]) rfl ?_
    refine XS.aloadN X1.here hx rfl (dG hby D65 3 rfl) rfl rfl ?_
    refine XS.iloadN X1.here hx rfl (dG hby D65 4 rfl) rfl ?_
    refine XS.aloadN X1.here hx rfl (dG hby D65 5 rfl) rfl rfl ?_
    refine XS.iconst X1.here hx rfl (dG hby D65 6 rfl) ?_
    refine XS.iloadN X1.here hx rfl (dG hby D65 7 rfl) rfl ?_
    show SP p e below T1 m 9 #[vr a0c, vi (0 : Int32), vi (2 : Int32), vr b1, .unset, .unset] [(.int 2), (.int 0), (.ref b1), (.int 0), (.ref a0c)] _
    refine st2 _ ?_
    show SP p e below T2 m 12 #[vr a0c, vi (0 : Int32), vi (2 : Int32), vr b1, .unset, .unset] [(.int 2)] _
    refine XS.istore X2.here hx rfl (dG hby D65 9 rfl) rfl (l' := #[vr a0c, vi (0 : Int32), vi (2 : Int32), vr b1, vi (2 : Int32), .unset]) rfl ?_
    refine XS.iload X2.here hx rfl (dG hby D65 10 rfl) rfl ?_
    refine XS.iloadN X2.here hx rfl (dG hby D65 11 rfl) rfl ?_
    refine XS.icmpYes X2.here hx rfl (pc0 := 17) (pc' := 57) rfl (dG hby D65 12 rfl) rfl (teq (by decide : (2 : Int32) = (2 : Int32))).1 (by decide) (by decide) ?_
    refine XS.aloadN X2.here hx rfl (dG hby D65 13 rfl) rfl rfl ?_
    show SP p e below T2 m 58 #[vr a0c, vi (0 : Int32), vi (2 : Int32), vr b1, vi (2 : Int32), .unset] [(.ref b1)] _
    exact retA X2 hx Bd.returns rfl (dG hby D65 14 rfl) hr
  · show Q_rmC1_2 n0 Z cS aDE kDE aUS aSS aIE mO a0c k0 c0 c1 h0 _ T2.heap _
    exact ⟨b1, k1, rfl, N2, K2, sz_b1, (A1'.keep Kc2), P2_0⟩
theorem D67 : dL jdk_52_method_15_code [(0, .iload_n 1, 1), (1, .aload_n 0, 1), (2, .arraylength, 1), (3, .isub, 1), (4, .bipush 31, 2), (6, .iushr, 1), (7, .i2b, 1), (8, .ireturn, 1)] = true := by decide +kernel
abbrev MN_2 : MethodName := ⟨"java/lang/StringUTF16", "coderFromArrayLen", "([BI)B"⟩
theorem ef_rmCfa2_2 (m : MethodId) (a0b : Addr) : entryFrame m #[(.ref a0b), (.int 2)] 2 = mkF m 0 #[vr a0b, vi (2 : Int32)] [] := by first | (simp [entryFrame, mkF, argsToLocals, Value.category]; done) | rfl
def Q_rmCfa2_2 (n0 : Nat) (Z : State) (cS : Int32) (aDE : Addr) (kDE : ClassId) (aUS : Addr) (aSS : Addr) (aIE : Addr) (mO : Addr) (a0b : Addr) (k0 : ClassId) (vs : List Value) (h0 : Heap) (v : Option Value) (h : Heap) (L : List Loc) : Prop := v = some (.int 0) ∧ Fr n0 L ∧ h = h0
theorem rmCfa2_2 (l : Launch) (Z : State) (a0 : Array Value) (hw : ∀ d ∈ tables_1, d.before a0 Z = true) (ws : List Jvm.Cond) (cS : Int32) (aDE : Addr) (kDE : ClassId) (aUS : Addr) (aSS : Addr) (aIE : Addr) (mO : Addr) (a0b : Addr) (k0 : ClassId) (vs : List Value) (h0 : Heap) (n0 : Nat) (O0 : Old Z n0 h0) (GL : GF Z cS aDE kDE aUS aSS aIE mO) (V_a0b : Arv Z h0 a0b k0 .byte (2 : Int32) vs (.int 0)) :
    MF l MN_2 jdk_52_method_15_code 2 (some .byte) ws (Rm 0 0 0 0) #[(.ref a0b), (.int 2)] Z h0 (Q_rmCfa2_2 n0 Z cS aDE kDE aUS aSS aIE mO a0b k0 vs h0) := by
  refine MetFree.of_bodySF (plainFor_of_name pn) hisR ?_
  intro p e s m args below meth c s₁ Bd hml0 hP hK
  obtain ⟨rfl, hZ, hh⟩ := hP
  have hx := Bd.exec
  have hby := Bd.bytes
  have hml : c.maxLocals = 2 := hml0
  have hown : s.vm.findClass "java/lang/StringUTF16" = some m.cls := findClass_of_methodNamed Bd.named
  have hnm := (name_of_methodNamed Bd.named Bd.method).1
  have X0 : Stand p l e (Rm 0 0 0 0) s m #[(.ref a0b), (.int 2)] below meth c s₁ [] 0 0 := Stand.of_body Bd
  have e0 : s₁.heap = h0 := by rw [← hh, Bd.state]; rfl
  have N0 := Fr.nil n0
  have pre0 : ∀ t, SP p e below s₁ m 0 #[vr a0b, vi (2 : Int32)] [] t → Steps p.tables e below (s₁.setTop (entryFrame m #[(.ref a0b), (.int 2)] 2)) t := fun t k => castTop (ef_rmCfa2_2 m a0b) k
  have GL' := GL
  obtain ⟨GCS, GCP, GDE, GVE, GUS, GSS, GIE, GMO⟩ := GL'
  obtain ⟨cl1, Ar1, -, S1, N1_, -, -⟩ := id (V_a0b)
  obtain ⟨fs, hr, hrun, hended, hW, hsame⟩ := X0.leave (v := some (.int 0)) (fun h => by rw [Bd.returns] at h; cases h)
  refine ⟨_, _, pre0 _ ?_, hrun, hended, _, _, rfl, ?_, ⟨_, rfl⟩, hW, hsame.mono (by decide) (by decide)⟩
  · show SP p e below s₁ m 0 #[vr a0b, vi (2 : Int32)] [] _
    refine XS.iloadN X0.here hx rfl (dG hby D67 0 rfl) rfl ?_
    refine XS.aloadN X0.here hx rfl (dG hby D67 1 rfl) rfl rfl ?_
    show SP p e below s₁ m 2 #[vr a0b, vi (2 : Int32)] [(.ref a0b), (.int 2)] _
    refine X0.arraylength hx (by rw [e0]; exact Ar1.1) (State.isArrayOf_alike hZ.alike Ar1.2.1) (g := mkF m 2 #[vr a0b, vi (2 : Int32)] [(.ref a0b), (.int 2)]) rfl rfl (dG hby D67 2 rfl) _ ?_
    rw [len_of S1 N1_]
    show SP p e below s₁ m 3 #[vr a0b, vi (2 : Int32)] [(.int 2), (.int 2)] _
    refine XS.isub X0.here hx rfl (dG hby D67 3 rfl) rfl ?_
    refine XS.bipush X0.here hx rfl (dG hby D67 4 rfl) ?_
    refine XS.iushr X0.here hx rfl (dG hby D67 5 rfl) rfl ?_
    refine XS.i2b X0.here hx rfl (dG hby D67 6 rfl) rfl ?_
    show SP p e below s₁ m 8 #[vr a0b, vi (2 : Int32)] [(.int 0)] _
    exact retN X0 hx (t := .byte) Bd.returns (by simp) (dG hby D67 7 rfl) hr
  · show Q_rmCfa2_2 n0 Z cS aDE kDE aUS aSS aIE mO a0b k0 vs h0 _ s₁.heap _
    rw [e0]
    exact ⟨rfl, N0, rfl⟩
theorem D64 : dL jdk_42_method_149_code [(0, .aload_n 0, 1), (1, .invokespecial 1, 3), (4, .iload_n 3, 1), (5, .ifCond .ne 22, 3), (27, .getstatic 38, 3), (30, .ifCond .eq 28, 3), (33, .aload_n 1, 1), (34, .iload_n 2, 1), (35, .iload_n 3, 1), (36, .invokestatic 177, 3), (39, .astore 5, 2), (41, .aload_n 0, 1), (42, .aload 5, 2), (44, .iload_n 3, 1), (45, .invokestatic 47, 3), (48, .putfield 15, 3), (51, .aload_n 0, 1), (52, .aload 5, 2), (54, .putfield 9, 3), (57, .return_, 1)] = true := by decide +kernel
theorem pdv1 : parseMethodDescriptor "([CII)[B" = some ⟨[(.array .char), .int, .int], some (.array .byte)⟩ := by decide +kernel
theorem pdv2 : parseMethodDescriptor "([BI)B" = some ⟨[(.array .byte), .int], some .byte⟩ := by decide +kernel
theorem pnv1 : plainName "java/lang/String" = true := by first | (simp [plainName, overriddenIn]; done) | decide +kernel
abbrev MN_3 : MethodName := ⟨"java/lang/String", "<init>", "([CIILjava/lang/Void;)V"⟩
theorem ef_rmIv_2 (m : MethodId) (a0s : Addr) (a1c : Addr) : entryFrame m #[(.ref a0s), (.ref a1c), (.int 0), (.int 2), .null] 6 = mkF m 0 #[vr a0s, vr a1c, vi (0 : Int32), vi (2 : Int32), .val .null, .unset] [] := by first | (simp [entryFrame, mkF, argsToLocals, Value.category]; done) | rfl
def Q_rmIv_2 (n0 : Nat) (Z : State) (cS : Int32) (aDE : Addr) (kDE : ClassId) (aUS : Addr) (aSS : Addr) (aIE : Addr) (mO : Addr) (a0s : Addr) (a1c : Addr) (k1 : ClassId) (c0 : Int32) (c1 : Int32) (h0 : Heap) (v : Option Value) (h : Heap) (L : List Loc) : Prop := ∃ b : Addr, ∃ kb : ClassId, v = none ∧ Fr n0 L ∧ Keep h0 h [a0s] ∧ (h0.size ≤ b) ∧ (Exa Z h b "[B") ∧ (Exa Z h a0s "java/lang/String") ∧ (Fld Z h a0s "java/lang/String" "value" "[B" (.ref b)) ∧ (Fld Z h a0s "java/lang/String" "coder" "B" (.int 0)) ∧ (Arv Z h b kb .byte (2 : Int32) [(.int (c0.toInt8.toInt32)), (.int (c1.toInt8.toInt32))] (.int 0))
theorem rmIv_2 (l : Launch) (Z : State) (a0 : Array Value) (hw : ∀ d ∈ tables_1, d.before a0 Z = true) (ws : List Jvm.Cond) (cS : Int32) (aDE : Addr) (kDE : ClassId) (aUS : Addr) (aSS : Addr) (aIE : Addr) (mO : Addr) (a0s : Addr) (a1c : Addr) (k1 : ClassId) (c0 : Int32) (c1 : Int32) (h0 : Heap) (n0 : Nat) (O0 : Old Z n0 h0) (GL : GF Z cS aDE kDE aUS aSS aIE mO) (E_a0s : Exa Z h0 a0s "java/lang/String") (F_value_a0s : Fld Z h0 a0s "java/lang/String" "value" "[B" .null) (F_coder_a0s : Fld Z h0 a0s "java/lang/String" "coder" "B" (.int 0)) (g_a0s : n0 ≤ a0s) (V_a1c : Arv Z h0 a1c k1 .char (2 : Int32) [(.int c0), (.int c1)] (.int 0)) (hc0 : ¬ ((255 : Int32) < c0)) (hc1 : ¬ ((255 : Int32) < c1)) :
    MF l MN_3 jdk_42_method_149_code 6 none ws (Rm 2 1 2 35) #[(.ref a0s), (.ref a1c), (.int 0), (.int 2), .null] Z h0 (Q_rmIv_2 n0 Z cS aDE kDE aUS aSS aIE mO a0s a1c k1 c0 c1 h0) := by
  refine MetFree.of_bodySF (plainFor_of_name pnv1) hisR ?_
  intro p e s m args below meth c s₁ Bd hml0 hP hK
  obtain ⟨rfl, hZ, hh⟩ := hP
  have hx := Bd.exec
  have hby := Bd.bytes
  have hml : c.maxLocals = 6 := hml0
  have hown : s.vm.findClass "java/lang/String" = some m.cls := findClass_of_methodNamed Bd.named
  have hnm := (name_of_methodNamed Bd.named Bd.method).1
  have X0 : Stand p l e (Rm 2 1 2 35) s m #[(.ref a0s), (.ref a1c), (.int 0), (.int 2), .null] below meth c s₁ [] 0 0 := Stand.of_body Bd
  have e0 : s₁.heap = h0 := by rw [← hh, Bd.state]; rfl
  have N0 := Fr.nil n0
  have pre0 : ∀ t, SP p e below s₁ m 0 #[vr a0s, vr a1c, vi (0 : Int32), vi (2 : Int32), .val .null, .unset] [] t → Steps p.tables e below (s₁.setTop (entryFrame m #[(.ref a0s), (.ref a1c), (.int 0), (.int 2), .null] 6)) t := fun t k => castTop (ef_rmIv_2 m a0s a1c) k
  have GL' := GL
  obtain ⟨GCS, GCP, GDE, GVE, GUS, GSS, GIE, GMO⟩ := GL'
  obtain ⟨T1, X1, e1, st1⟩ := initO X0 hx hZ hown (Wd hw 214 rfl) (Wd hw 32 rfl) (Wd hw 33 rfl) e0 (g := mkF m 1 #[vr a0s, vr a1c, vi (0 : Int32), vi (2 : Int32), .val .null, .unset] [(.ref a0s)]) rfl (by rw [hml]; rfl) rfl (dG hby D64 1 rfl) (by decide) (W := 0) (by show 2 * 0 + _ ≤ _; exact lEq rfl) (by decide)
  obtain ⟨T2, X2, e2, st2⟩ := getS2 X1 hx hZ hown (host := "") (Or.inl (Wd hw 171 rfl)) Via.refl e1 (GCS.ext O0.2) (g := mkF m 27 #[vr a0s, vr a1c, vi (0 : Int32), vi (2 : Int32), .val .null, .unset] []) rfl (dG hby D64 4 rfl)
  obtain ⟨_, _, ⟨T3, L3, k3, n3⟩, -, X3, ⟨Lc3, hQ3, l3, y3, z3⟩, st3⟩ := Jvm.LawKit.callS X2 hx (y := MN_1) hown (mvT hZ (Wd hw 423 rfl)) (mvT hZ (Wd hw 424 rfl)) (mvT hZ (Wd hw 425 rfl)) (mvT hZ (Wd hw 426 rfl)) (by decide) (backOf (W := 0) (rmC1_2 l Z a0 hw [] cS aDE kDE aUS aSS aIE mO a1c k1 c0 c1 h0 n0 O0 GL V_a1c hc0 hc1) hZ (Wd hw 426 rfl) (Wd hw 425 rfl) (by decide) (by decide)) (g := mkF m 36 #[vr a0s, vr a1c, vi (0 : Int32), vi (2 : Int32), .val .null, .unset] [(.int 2), (.int 0), (.ref a1c)]) rfl (by rw [hml]; rfl) (argsL := [(.ref a1c), (.int 0), (.int 2)]) (rest := []) (lenOf pdv1 rfl) rfl (by show 2 * 0 + _ ≤ _; exact lEq rfl) (dG hby D64 9 rfl) (fun _ _ => ⟨rfl, e2, (by decide : 0 + 1 ≤ _), (by decide : 0 + 2 ≤ _)⟩)
  dsimp only [Pt.U, Pt.locs, Pt.cells, Pt.slots] at X3 l3 y3 z3 st3 hQ3
  subst l3 y3 z3
  obtain ⟨b_3, kb_3, rfl, N3q, Kc3, P3_0, P3_1, P3_2⟩ := hQ3
  have K3 : Keep h0 T3.heap [a0s] := (Keep.refl h0 [a0s]).trans Kc3 all0
  have O3 := O0.keep Kc3 all0
  have g_b_3 : n0 ≤ b_3 := lTr (own_sz O0) P3_0
  have sz_b_3 : h0.size ≤ b_3 := lTr (Keep.refl h0 [a0s]).1 P3_0
  have N3 := Fr.app N0 N3q
  obtain ⟨_, _, ⟨T4, L4, k4, n4⟩, -, X4, ⟨Lc4, hQ4, l4, y4, z4⟩, st4⟩ := Jvm.LawKit.callS X3 hx (y := MN_2) hown (mvT hZ (Wd hw 430 rfl)) (mvT hZ (Wd hw 431 rfl)) (mvT hZ (Wd hw 425 rfl)) (mvT hZ (Wd hw 432 rfl)) (by decide) (backOf (W := 1) (rmCfa2_2 l Z a0 hw [] cS aDE kDE aUS aSS aIE mO b_3 kb_3 ([(.int (c0.toInt8.toInt32)), (.int (c1.toInt8.toInt32))]) (T3.heap) n0 O3 GL P3_2) hZ (Wd hw 432 rfl) (Wd hw 425 rfl) (by decide) (by decide)) (g := mkF m 45 #[vr a0s, vr a1c, vi (0 : Int32), vi (2 : Int32), .val .null, vr b_3] [(.int 2), (.ref b_3), (.ref a0s)]) rfl (by rw [hml]; rfl) (argsL := [(.ref b_3), (.int 2)]) (rest := [(.ref a0s)]) (lenOf pdv2 rfl) rfl (by show 2 * 0 + _ ≤ _; exact lEq rfl) (dG hby D64 14 rfl) (fun _ _ => ⟨rfl, rfl, (by decide : 1 + 0 ≤ _), (by decide : 2 + 0 ≤ _)⟩)
  dsimp only [Pt.U, Pt.locs, Pt.cells, Pt.slots] at X4 l4 y4 z4 st4 hQ4
  subst l4 y4 z4
  obtain ⟨rfl, N4q, e4⟩ := hQ4
  have N4 := Fr.app N3 N4q
  obtain ⟨T5, h5, X5, e5, W5, st5⟩ := putFN X4 hx hZ hown (Wd hw 172 rfl) Via.refl e4 (F_coder_a0s.keep Kc3 nin0) (E_a0s.keep Kc3) (Or.inr ⟨(Wd hw 10 rfl), rfl, hnm⟩) (Wd hw 7 rfl) (ty := .byte) (v' := (.int 0)) (by decide) rfl (by decide) (g := mkF m 48 #[vr a0s, vr a1c, vi (0 : Int32), vi (2 : Int32), .val .null, vr b_3] [(.int 0), (.ref a0s)]) rfl rfl (dG hby D64 15 rfl)
  have Fw5 := (F_coder_a0s.keep Kc3 nin0).same W5
  have K5 : Keep h0 h5 [a0s] := K3.wr W5 (Or.inl (List.mem_of_getElem? (i := 0) rfl))
  have O5 := O3.wr W5 g_a0s
  have N5 := Fr.snoc X5 N4 g_a0s
  obtain ⟨T6, h6, X6, e6, W6, st6⟩ := putF X5 hx hZ hown (host := "") (Or.inl (Wd hw 165 rfl)) Via.refl e5 ((F_value_a0s.keep Kc3 nin0).other W5 (Or.inr (slot_ne (a0 := a0) (Or.inr (Wd hw 9 rfl)) (Or.inr (Wd hw 10 rfl)) (by decide) (t := (.array .byte)) (t' := .byte) (by decide) (by decide)))) ((E_a0s.keep Kc3).wr W5) (Or.inr ⟨(Wd hw 9 rfl), rfl, hnm⟩) (Wd hw 7 rfl) (ty := (.array .byte)) (by decide) rfl rfl (g := mkF m 54 #[vr a0s, vr a1c, vi (0 : Int32), vi (2 : Int32), .val .null, vr b_3] [(.ref b_3), (.ref a0s)]) rfl rfl (dG hby D64 18 rfl)
  have Fw6 := ((F_value_a0s.keep Kc3 nin0).other W5 (Or.inr (slot_ne (a0 := a0) (Or.inr (Wd hw 9 rfl)) (Or.inr (Wd hw 10 rfl)) (by decide) (t := (.array .byte)) (t' := .byte) (by decide) (by decide)))).same W6
  have K6 : Keep h0 h6 [a0s] := K5.wr W6 (Or.inl (List.mem_of_getElem? (i := 0) rfl))
  have O6 := O5.wr W6 g_a0s
  have N6 := Fr.snoc X6 N5 g_a0s
  obtain ⟨fs, hr, hrun, hended, hW, hsame⟩ := X6.leave (v := none) (fun _ => rfl)
  refine ⟨_, _, pre0 _ ?_, hrun, hended, _, _, rfl, ?_, ⟨_, rfl⟩, hW, hsame.mono (by decide) (by decide)⟩
  · show SP p e below s₁ m 0 #[vr a0s, vr a1c, vi (0 : Int32), vi (2 : Int32), .val .null, .unset] [] _
    refine XS.aloadN X0.here hx rfl (dG hby D64 0 rfl) rfl rfl ?_
    show SP p e below s₁ m 1 #[vr a0s, vr a1c, vi (0 : Int32), vi (2 : Int32), .val .null, .unset] [(.ref a0s)] _
    refine st1 _ ?_
    show SP p e below T1 m 4 #[vr a0s, vr a1c, vi (0 : Int32), vi (2 : Int32), .val .null, .unset] [] _
    refine XS.iloadN X1.here hx rfl (dG hby D64 2 rfl) rfl ?_
    refine XS.ifYes X1.here hx rfl (pc0 := 5) (pc' := 27) rfl (dG hby D64 3 rfl) rfl ((if0 _ _).trans (feq (by decide : ¬ ((2 : Int32) = (0 : Int32)))).2) (by decide) (by decide) ?_
    show SP p e below T1 m 27 #[vr a0s, vr a1c, vi (0 : Int32), vi (2 : Int32), .val .null, .unset] [] _
    refine st2 _ ?_
    show SP p e below T2 m 30 #[vr a0s, vr a1c, vi (0 : Int32), vi (2 : Int32), .val .null, .unset] [(.int cS)] _
    refine XS.ifNo X2.here hx rfl (dG hby D64 5 rfl) rfl ((if0 _ _).trans (feq GCP).1) ?_
    refine XS.aloadN X2.here hx rfl (dG hby D64 6 rfl) rfl rfl ?_
    refine XS.iloadN X2.here hx rfl (dG hby D64 7 rfl) rfl ?_
    refine XS.iloadN X2.here hx rfl (dG hby D64 8 rfl) rfl ?_
    show SP p e below T2 m 36 #[vr a0s, vr a1c, vi (0 : Int32), vi (2 : Int32), .val .null, .unset] [(.int 2), (.int 0), (.ref a1c)] _
    refine st3 _ ?_
    show SP p e below T3 m 39 #[vr a0s, vr a1c, vi (0 : Int32), vi (2 : Int32), .val .null, .unset] [(.ref b_3)] _
    refine XS.astore X3.here hx rfl (dG hby D64 10 rfl) rfl rfl (l' := #[vr a0s, vr a1c, vi (0 : Int32), vi (2 : Int32), .val .null, vr b_3]) rfl ?_
    refine XS.aloadN X3.here hx rfl (dG hby D64 11 rfl) rfl rfl ?_
    refine XS.aload X3.here hx rfl (dG hby D64 12 rfl) rfl rfl ?_
    refine XS.iloadN X3.here hx rfl (dG hby D64 13 rfl) rfl ?_
    show SP p e below T3 m 45 #[vr a0s, vr a1c, vi (0 : Int32), vi (2 : Int32), .val .null, vr b_3] [(.int 2), (.ref b_3), (.ref a0s)] _
    refine st4 _ ?_
    show SP p e below T4 m 48 #[vr a0s, vr a1c, vi (0 : Int32), vi (2 : Int32), .val .null, vr b_3] [(.int 0), (.ref a0s)] _
    refine st5 _ ?_
    show SP p e below T5 m 51 #[vr a0s, vr a1c, vi (0 : Int32), vi (2 : Int32), .val .null, vr b_3] [] _
    refine XS.aloadN X5.here hx rfl (dG hby D64 16 rfl) rfl rfl ?_
    refine XS.aload X5.here hx rfl (dG hby D64 17 rfl) rfl rfl ?_
    show SP p e below T5 m 54 #[vr a0s, vr a1c, vi (0 : Int32), vi (2 : Int32), .val .null, vr b_3] [(.ref b_3), (.ref a0s)] _
    refine st6 _ ?_
    show SP p e below T6 m 57 #[vr a0s, vr a1c, vi (0 : Int32), vi (2 : Int32), .val .null, vr b_3] [] _
    exact X6.returnOut hx Bd.returns (dG hby D64 19 rfl) hr
  · show Q_rmIv_2 n0 Z cS aDE kDE aUS aSS aIE mO a0s a1c k1 c0 c1 h0 _ T6.heap _
    rw [e6]
    exact ⟨b_3, kb_3, rfl, N6, K6, sz_b_3, ((P3_1.wr W5).wr W6), (((E_a0s.keep Kc3).wr W5).wr W6), Fw6, (Fw5.other W6 (Or.inr (slot_ne (a0 := a0) (Or.inr (Wd hw 10 rfl)) (Or.inr (Wd hw 9 rfl)) (by decide) (t := .byte) (t' := (.array .byte)) (by decide) (by decide)))), ((P3_2.other W5 (Ne.symm (nLt (lLt E_a0s.lt P3_0)))).other W6 (Ne.symm (nLt (lLt E_a0s.lt P3_0))))⟩
theorem D63 : dL jdk_42_method_3_code [(0, .aload_n 0, 1), (1, .aload_n 1, 1), (2, .iconst 0, 1), (3, .aload_n 1, 1), (4, .arraylength, 1), (5, .aconst_null, 1), (6, .invokespecial 27, 3), (9, .return_, 1)] = true := by decide +kernel
theorem pdv3 : parseMethodDescriptor "([CIILjava/lang/Void;)V" = some ⟨[(.array .char), .int, .int, (.object "java/lang/Void")], none⟩ := by decide +kernel
abbrev MN_4 : MethodName := ⟨"java/lang/String", "<init>", "([C)V"⟩
theorem ef_rmIc_2 (m : MethodId) (a0s : Addr) (a1c : Addr) : entryFrame m #[(.ref a0s), (.ref a1c)] 2 = mkF m 0 #[vr a0s, vr a1c] [] := by first | (simp [entryFrame, mkF, argsToLocals, Value.category]; done) | rfl
def Q_rmIc_2 (n0 : Nat) (Z : State) (cS : Int32) (aDE : Addr) (kDE : ClassId) (aUS : Addr) (aSS : Addr) (aIE : Addr) (mO : Addr) (a0s : Addr) (a1c : Addr) (k1 : ClassId) (c0 : Int32) (c1 : Int32) (h0 : Heap) (v : Option Value) (h : Heap) (L : List Loc) : Prop := ∃ b : Addr, ∃ kb : ClassId, v = none ∧ Fr n0 L ∧ Keep h0 h [a0s] ∧ (h0.size ≤ b) ∧ (Exa Z h b "[B") ∧ (Exa Z h a0s "java/lang/String") ∧ (Fld Z h a0s "java/lang/String" "value" "[B" (.ref b)) ∧ (Fld Z h a0s "java/lang/String" "coder" "B" (.int 0)) ∧ (Arv Z h b kb .byte (2 : Int32) [(.int (c0.toInt8.toInt32)), (.int (c1.toInt8.toInt32))] (.int 0))
theorem rmIc_2 (l : Launch) (Z : State) (a0 : Array Value) (hw : ∀ d ∈ tables_1, d.before a0 Z = true) (ws : List Jvm.Cond) (cS : Int32) (aDE : Addr) (kDE : ClassId) (aUS : Addr) (aSS : Addr) (aIE : Addr) (mO : Addr) (a0s : Addr) (a1c : Addr) (k1 : ClassId) (c0 : Int32) (c1 : Int32) (h0 : Heap) (n0 : Nat) (O0 : Old Z n0 h0) (GL : GF Z cS aDE kDE aUS aSS aIE mO) (E_a0s : Exa Z h0 a0s "java/lang/String") (F_value_a0s : Fld Z h0 a0s "java/lang/String" "value" "[B" .null) (F_coder_a0s : Fld Z h0 a0s "java/lang/String" "coder" "B" (.int 0)) (g_a0s : n0 ≤ a0s) (V_a1c : Arv Z h0 a1c k1 .char (2 : Int32) [(.int c0), (.int c1)] (.int 0)) (hc0 : ¬ ((255 : Int32) < c0)) (hc1 : ¬ ((255 : Int32) < c1)) :
    MF l MN_4 jdk_42_method_3_code 2 none ws (Rm 3 1 2 52) #[(.ref a0s), (.ref a1c)] Z h0 (Q_rmIc_2 n0 Z cS aDE kDE aUS aSS aIE mO a0s a1c k1 c0 c1 h0) := by
  refine MetFree.of_bodySF (plainFor_of_name pnv1) hisR ?_
  intro p e s m args below meth c s₁ Bd hml0 hP hK
  obtain ⟨rfl, hZ, hh⟩ := hP
  have hx := Bd.exec
  have hby := Bd.bytes
  have hml : c.maxLocals = 2 := hml0
  have hown : s.vm.findClass "java/lang/String" = some m.cls := findClass_of_methodNamed Bd.named
  have hnm := (name_of_methodNamed Bd.named Bd.method).1
  have X0 : Stand p l e (Rm 3 1 2 52) s m #[(.ref a0s), (.ref a1c)] below meth c s₁ [] 0 0 := Stand.of_body Bd
  have e0 : s₁.heap = h0 := by rw [← hh, Bd.state]; rfl
  have N0 := Fr.nil n0
  have pre0 : ∀ t, SP p e below s₁ m 0 #[vr a0s, vr a1c] [] t → Steps p.tables e below (s₁.setTop (entryFrame m #[(.ref a0s), (.ref a1c)] 2)) t := fun t k => castTop (ef_rmIc_2 m a0s a1c) k
  have GL' := GL
  obtain ⟨GCS, GCP, GDE, GVE, GUS, GSS, GIE, GMO⟩ := GL'
  obtain ⟨cl1, Ar1, -, S1, N1_, -, -⟩ := id (V_a1c)
  obtain ⟨_, _, ⟨T2, L2, k2, n2⟩, -, X2, ⟨Lc2, hQ2, l2, y2, z2⟩, st2⟩ := X0.specialBack hx (y := MN_3) rfl hown (mvT hZ (Wd hw 420 rfl)) (mvT hZ (Wd hw 421 rfl)) (mvT hZ (Wd hw 422 rfl)) (by decide) (backOf (W := 0) (rmIv_2 l Z a0 hw [] cS aDE kDE aUS aSS aIE mO a0s a1c k1 c0 c1 h0 n0 O0 GL E_a0s F_value_a0s F_coder_a0s g_a0s V_a1c hc0 hc1) hZ (Wd hw 422 rfl) (Wd hw 6 rfl) (by decide) (by decide)) (g := mkF m 6 #[vr a0s, vr a1c] [.null, (.int 2), (.int 0), (.ref a1c), (.ref a0s)]) rfl (by rw [hml]; rfl) (Steps.refl _) (a := a0s) (argsL := [(.ref a1c), (.int 0), (.int 2), .null]) (rest := []) (lenOf pdv3 rfl) rfl (by show 2 * 0 + _ ≤ _; exact lEq rfl) (dG hby D63 6 rfl) (fun _ _ => ⟨rfl, e0, (by decide : 0 + 1 ≤ _), (by decide : 0 + 2 ≤ _)⟩)
  dsimp only [Pt.U, Pt.locs, Pt.cells, Pt.slots] at X2 l2 y2 z2 st2 hQ2
  subst l2 y2 z2
  obtain ⟨b_2, kb_2, rfl, N2q, Kc2, P2_0, P2_1, P2_2, P2_3, P2_4, P2_5⟩ := hQ2
  have K2 : Keep h0 T2.heap [a0s] := (Keep.refl h0 [a0s]).trans Kc2 (allS (Or.inl (List.mem_of_getElem? (i := 0) rfl)) all0)
  have O2 := O0.keep Kc2 (allS g_a0s all0)
  have g_b_2 : n0 ≤ b_2 := lTr (own_sz O0) P2_0
  have sz_b_2 : h0.size ≤ b_2 := lTr (Keep.refl h0 [a0s]).1 P2_0
  have N2 := Fr.app N0 N2q
  obtain ⟨fs, hr, hrun, hended, hW, hsame⟩ := X2.leave (v := none) (fun _ => rfl)
  refine ⟨_, _, pre0 _ ?_, hrun, hended, _, _, rfl, ?_, ⟨_, rfl⟩, hW, hsame.mono (by decide) (by decide)⟩
  · show SP p e below s₁ m 0 #[vr a0s, vr a1c] [] _
    refine XS.aloadN X0.here hx rfl (dG hby D63 0 rfl) rfl rfl ?_
    refine XS.aloadN X0.here hx rfl (dG hby D63 1 rfl) rfl rfl ?_
    refine XS.iconst X0.here hx rfl (dG hby D63 2 rfl) ?_
    refine XS.aloadN X0.here hx rfl (dG hby D63 3 rfl) rfl rfl ?_
    show SP p e below s₁ m 4 #[vr a0s, vr a1c] [(.ref a1c), (.int 0), (.ref a1c), (.ref a0s)] _
    refine X0.arraylength hx (by rw [e0]; exact Ar1.1) (State.isArrayOf_alike hZ.alike Ar1.2.1) (g := mkF m 4 #[vr a0s, vr a1c] [(.ref a1c), (.int 0), (.ref a1c), (.ref a0s)]) rfl rfl (dG hby D63 4 rfl) _ ?_
    rw [len_of S1 N1_]
    show SP p e below s₁ m 5 #[vr a0s, vr a1c] [(.int 2), (.int 0), (.ref a1c), (.ref a0s)] _
    refine XS.aconstNull X0.here hx rfl (dG hby D63 5 rfl) ?_
    show SP p e below s₁ m 6 #[vr a0s, vr a1c] [.null, (.int 2), (.int 0), (.ref a1c), (.ref a0s)] _
    refine st2.trans ?_
    show SP p e below T2 m 9 #[vr a0s, vr a1c] [] _
    exact X2.returnOut hx Bd.returns (dG hby D63 7 rfl) hr
  · show Q_rmIc_2 n0 Z cS aDE kDE aUS aSS aIE mO a0s a1c k1 c0 c1 h0 _ T2.heap _
    exact ⟨b_2, kb_2, rfl, N2, K2, sz_b_2, P2_1, P2_2, P2_3, P2_4, P2_5⟩
theorem D26 : dL jdk_42_method_152_code [(0, .getstatic 38, 3), (3, .ifCond .eq 10, 3), (6, .aload_n 0, 1), (7, .getfield 15, 3), (10, .goto 4, 3), (14, .ireturn, 1)] = true := by decide +kernel
abbrev MN_5 : MethodName := ⟨"java/lang/String", "coder", "()B"⟩
theorem ef_rmCod (m : MethodId) (a0s : Addr) : entryFrame m #[(.ref a0s)] 1 = mkF m 0 #[vr a0s] [] := by first | (simp [entryFrame, mkF, argsToLocals, Value.category]; done) | rfl
def Q_rmCod (n0 : Nat) (Z : State) (cS : Int32) (aDE : Addr) (kDE : ClassId) (aUS : Addr) (aSS : Addr) (aIE : Addr) (mO : Addr) (a0s : Addr) (h0 : Heap) (v : Option Value) (h : Heap) (L : List Loc) : Prop := v = some (.int 0) ∧ Fr n0 L ∧ h = h0
theorem rmCod (l : Launch) (Z : State) (a0 : Array Value) (hw : ∀ d ∈ tables_1, d.before a0 Z = true) (ws : List Jvm.Cond) (cS : Int32) (aDE : Addr) (kDE : ClassId) (aUS : Addr) (aSS : Addr) (aIE : Addr) (mO : Addr) (a0s : Addr) (h0 : Heap) (n0 : Nat) (O0 : Old Z n0 h0) (GL : GF Z cS aDE kDE aUS aSS aIE mO) (F_coder_a0s : Fld Z h0 a0s "java/lang/String" "coder" "B" (.int 0)) :
    MF l MN_5 jdk_42_method_152_code 1 (some .byte) ws (Rm 0 0 0 0) #[(.ref a0s)] Z h0 (Q_rmCod n0 Z cS aDE kDE aUS aSS aIE mO a0s h0) := by
  refine MetFree.of_bodySF (plainFor_of_name pnv1) hisR ?_
  intro p e s m args below meth c s₁ Bd hml0 hP hK
  obtain ⟨rfl, hZ, hh⟩ := hP
  have hx := Bd.exec
  have hby := Bd.bytes
  have hml : c.maxLocals = 1 := hml0
  have hown : s.vm.findClass "java/lang/String" = some m.cls := findClass_of_methodNamed Bd.named
  have hnm := (name_of_methodNamed Bd.named Bd.method).1
  have X0 : Stand p l e (Rm 0 0 0 0) s m #[(.ref a0s)] below meth c s₁ [] 0 0 := Stand.of_body Bd
  have e0 : s₁.heap = h0 := by rw [← hh, Bd.state]; rfl
  have N0 := Fr.nil n0
  have pre0 : ∀ t, SP p e below s₁ m 0 #[vr a0s] [] t → Steps p.tables e below (s₁.setTop (entryFrame m #[(.ref a0s)] 1)) t := fun t k => castTop (ef_rmCod m a0s) k
  have GL' := GL
  obtain ⟨GCS, GCP, GDE, GVE, GUS, GSS, GIE, GMO⟩ := GL'
  obtain ⟨T1, X1, e1, st1⟩ := getS2 X0 hx hZ hown (host := "") (Or.inl (Wd hw 171 rfl)) Via.refl e0 (GCS.ext O0.2) (g := mkF m 0 #[vr a0s] []) rfl (dG hby D26 0 rfl)
  obtain ⟨T2, X2, e2, st2⟩ := getF X1 hx hZ hown (host := "") (Or.inl (Wd hw 172 rfl)) Via.refl e1 F_coder_a0s (g := mkF m 7 #[vr a0s] [(.ref a0s)]) rfl rfl (dG hby D26 3 rfl)
  obtain ⟨fs, hr, hrun, hended, hW, hsame⟩ := X2.leave (v := some (.int 0)) (fun h => by rw [Bd.returns] at h; cases h)
  refine ⟨_, _, pre0 _ ?_, hrun, hended, _, _, rfl, ?_, ⟨_, rfl⟩, hW, hsame.mono (by decide) (by decide)⟩
  · show SP p e below s₁ m 0 #[vr a0s] [] _
    refine st1 _ ?_
    show SP p e below T1 m 3 #[vr a0s] [(.int cS)] _
    refine XS.ifNo X1.here hx rfl (dG hby D26 1 rfl) rfl ((if0 _ _).trans (feq GCP).1) ?_
    refine XS.aloadN X1.here hx rfl (dG hby D26 2 rfl) rfl rfl ?_
    show SP p e below T1 m 7 #[vr a0s] [(.ref a0s)] _
    refine st2 _ ?_
    show SP p e below T2 m 10 #[vr a0s] [(.int 0)] _
    refine XS.goto X2.here hx rfl (pc0 := 10) (pc' := 14) rfl (dG hby D26 4 rfl) (by decide) (by decide) ?_
    show SP p e below T2 m 14 #[vr a0s] [(.int 0)] _
    exact retN X2 hx (t := .byte) Bd.returns (by simp) (dG hby D26 5 rfl) hr
  · show Q_rmCod n0 Z cS aDE kDE aUS aSS aIE mO a0s h0 _ T2.heap _
    rw [e2]
    exact ⟨rfl, N0, rfl⟩
theorem D25 : dL jdk_42_method_54_code [(0, .aload_n 0, 1), (1, .getfield 9, 3), (4, .arraylength, 1), (5, .aload_n 0, 1), (6, .invokevirtual 335, 3), (9, .ishr, 1), (10, .ireturn, 1)] = true := by decide +kernel
theorem pdv4 : parseMethodDescriptor "()B" = some ⟨[], some .byte⟩ := by decide +kernel
abbrev MN_6 : MethodName := ⟨"java/lang/String", "length", "()I"⟩
def Q_rmLen (n0 : Nat) (Z : State) (cS : Int32) (aDE : Addr) (kDE : ClassId) (aUS : Addr) (aSS : Addr) (aIE : Addr) (mO : Addr) (a0s : Addr) (av : Addr) (kv : ClassId) (nl : Int32) (vs : List Value) (h0 : Heap) (v : Option Value) (h : Heap) (L : List Loc) : Prop := v = some (.int nl) ∧ Fr n0 L ∧ h = h0
theorem rmLen (l : Launch) (Z : State) (a0 : Array Value) (hw : ∀ d ∈ tables_1, d.before a0 Z = true) (ws : List Jvm.Cond) (cS : Int32) (aDE : Addr) (kDE : ClassId) (aUS : Addr) (aSS : Addr) (aIE : Addr) (mO : Addr) (a0s : Addr) (av : Addr) (kv : ClassId) (nl : Int32) (vs : List Value) (h0 : Heap) (n0 : Nat) (O0 : Old Z n0 h0) (GL : GF Z cS aDE kDE aUS aSS aIE mO) (E_a0s : Exa Z h0 a0s "java/lang/String") (F_value_a0s : Fld Z h0 a0s "java/lang/String" "value" "[B" (.ref av)) (F_coder_a0s : Fld Z h0 a0s "java/lang/String" "coder" "B" (.int 0)) (V_av : Arv Z h0 av kv .byte nl vs (.int 0)) :
    MF l MN_6 jdk_42_method_54_code 1 (some .int) ws (Rm 1 0 0 13) #[(.ref a0s)] Z h0 (Q_rmLen n0 Z cS aDE kDE aUS aSS aIE mO a0s av kv nl vs h0) := by
  refine MetFree.of_bodySF (plainFor_of_name pnv1) hisR ?_
  intro p e s m args below meth c s₁ Bd hml0 hP hK
  obtain ⟨rfl, hZ, hh⟩ := hP
  have hx := Bd.exec
  have hby := Bd.bytes
  have hml : c.maxLocals = 1 := hml0
  have hown : s.vm.findClass "java/lang/String" = some m.cls := findClass_of_methodNamed Bd.named
  have hnm := (name_of_methodNamed Bd.named Bd.method).1
  have X0 : Stand p l e (Rm 1 0 0 13) s m #[(.ref a0s)] below meth c s₁ [] 0 0 := Stand.of_body Bd
  have e0 : s₁.heap = h0 := by rw [← hh, Bd.state]; rfl
  have N0 := Fr.nil n0
  have pre0 : ∀ t, SP p e below s₁ m 0 #[vr a0s] [] t → Steps p.tables e below (s₁.setTop (entryFrame m #[(.ref a0s)] 1)) t := fun t k => castTop (ef_rmCod m a0s) k
  have GL' := GL
  obtain ⟨GCS, GCP, GDE, GVE, GUS, GSS, GIE, GMO⟩ := GL'
  obtain ⟨T1, X1, e1, st1⟩ := getF X0 hx hZ hown (host := "") (Or.inl (Wd hw 165 rfl)) Via.refl e0 F_value_a0s (g := mkF m 1 #[vr a0s] [(.ref a0s)]) rfl rfl (dG hby D25 1 rfl)
  obtain ⟨cl2, Ar2, -, S2, N2_, -, -⟩ := id (V_av)
  obtain ⟨cq3, kq3, q3a, q3b, q3c⟩ := isOf hZ e1 E_a0s
  obtain ⟨_, _, ⟨T3, L3, k3, n3⟩, -, X3, ⟨Lc3, hQ3, l3, y3, z3⟩, st3⟩ := X1.virtualBack hx (y := MN_5) (z := MN_5) hown (mvT hZ (Wd hw 166 rfl)) (mvT hZ (Wd hw 167 rfl)) (notFace_of_selects (args := #[]) (mvT hZ (Wd hw 169 rfl))) (mvT hZ (Wd hw 169 rfl)) (mvT hZ (Wd hw 168 rfl)) (by decide) (backOf (W := 1) (rmCod l Z a0 hw [] cS aDE kDE aUS aSS aIE mO a0s h0 n0 O0 GL F_coder_a0s) hZ (Wd hw 170 rfl) (Wd hw 6 rfl) (by decide) (by decide)) q3a q3c (g := mkF m 6 #[vr a0s] [(.ref a0s), (.int nl)]) rfl (by rw [hml]; rfl) (Steps.refl _) (argsL := []) (rest := [(.int nl)]) (lenOf pdv4 rfl) rfl (by show 2 * 0 + _ ≤ _; exact lEq rfl) (dG hby D25 4 rfl) (fun _ _ => ⟨rfl, e1, (by decide : 0 + 0 ≤ _), (by decide : 0 + 0 ≤ _)⟩)
  dsimp only [Pt.U, Pt.locs, Pt.cells, Pt.slots] at X3 l3 y3 z3 st3 hQ3
  subst l3 y3 z3
  obtain ⟨rfl, N3q, e3⟩ := hQ3
  have N3 := Fr.app N0 N3q
  obtain ⟨fs, hr, hrun, hended, hW, hsame⟩ := X3.leave (v := some (.int nl)) (fun h => by rw [Bd.returns] at h; cases h)
  refine ⟨_, _, pre0 _ ?_, hrun, hended, _, _, rfl, ?_, ⟨_, rfl⟩, hW, hsame.mono (by decide) (by decide)⟩
  · show SP p e below s₁ m 0 #[vr a0s] [] _
    refine XS.aloadN X0.here hx rfl (dG hby D25 0 rfl) rfl rfl ?_
    show SP p e below s₁ m 1 #[vr a0s] [(.ref a0s)] _
    refine st1 _ ?_
    show SP p e below T1 m 4 #[vr a0s] [(.ref av)] _
    refine X1.arraylength hx (by rw [e1]; exact Ar2.1) (State.isArrayOf_alike hZ.alike Ar2.2.1) (g := mkF m 4 #[vr a0s] [(.ref av)]) rfl rfl (dG hby D25 2 rfl) _ ?_
    rw [len_of S2 N2_]
    show SP p e below T1 m 5 #[vr a0s] [(.int nl)] _
    refine XS.aloadN X1.here hx rfl (dG hby D25 3 rfl) rfl rfl ?_
    show SP p e below T1 m 6 #[vr a0s] [(.ref a0s), (.int nl)] _
    refine st3.trans ?_
    show SP p e below T3 m 9 #[vr a0s] [(.int 0), (.int nl)] _
    refine XS.ishr X3.here hx rfl (dG hby D25 5 rfl) rfl ?_
    rw [own_shr0 nl]
    show SP p e below T3 m 10 #[vr a0s] [(.int nl)] _
    exact retI X3 hx Bd.returns (dG hby D25 6 rfl) hr
  · show Q_rmLen n0 Z cS aDE kDE aUS aSS aIE mO a0s av kv nl vs h0 _ T3.heap _
    rw [e3]
    exact ⟨rfl, N3, rfl⟩
theorem D41 : dL jdk_29_method_69_code [(0, .iload_n 0, 1), (1, .iload_n 1, 1), (2, .if_icmp .gt 7, 3), (9, .iload_n 1, 1), (10, .ireturn, 1)] = true := by decide +kernel
abbrev MN_7 : MethodName := ⟨"java/lang/Math", "min", "(II)I"⟩
theorem ef_rmMin (m : MethodId) (p0 : Int32) (p1 : Int32) : entryFrame m #[(.int p0), (.int p1)] 2 = mkF m 0 #[vi p0, vi p1] [] := by first | (simp [entryFrame, mkF, argsToLocals, Value.category]; done) | rfl
def Q_rmMin (n0 : Nat) (Z : State) (cS : Int32) (aDE : Addr) (kDE : ClassId) (aUS : Addr) (aSS : Addr) (aIE : Addr) (mO : Addr) (p0 : Int32) (p1 : Int32) (h0 : Heap) (v : Option Value) (h : Heap) (L : List Loc) : Prop := v = some (.int p1) ∧ Fr n0 L ∧ h = h0
theorem rmMin (l : Launch) (Z : State) (a0 : Array Value) (hw : ∀ d ∈ tables_1, d.before a0 Z = true) (ws : List Jvm.Cond) (cS : Int32) (aDE : Addr) (kDE : ClassId) (aUS : Addr) (aSS : Addr) (aIE : Addr) (mO : Addr) (p0 : Int32) (p1 : Int32) (h0 : Heap) (n0 : Nat) (O0 : Old Z n0 h0) (GL : GF Z cS aDE kDE aUS aSS aIE mO) (hm : p1 < p0) :
    MF l MN_7 jdk_29_method_69_code 2 (some .int) ws (Rm 0 0 0 0) #[(.int p0), (.int p1)] Z h0 (Q_rmMin n0 Z cS aDE kDE aUS aSS aIE mO p0 p1 h0) := by
  refine MetFree.of_bodySF (Jvm.Free.JP.mathPlain rfl (by decide +kernel)) hisR ?_
  intro p e s m args below meth c s₁ Bd hml0 hP hK
  obtain ⟨rfl, hZ, hh⟩ := hP
  have hx := Bd.exec
  have hby := Bd.bytes
  have hml : c.maxLocals = 2 := hml0
  have hown : s.vm.findClass "java/lang/Math" = some m.cls := findClass_of_methodNamed Bd.named
  have hnm := (name_of_methodNamed Bd.named Bd.method).1
  have X0 : Stand p l e (Rm 0 0 0 0) s m #[(.int p0), (.int p1)] below meth c s₁ [] 0 0 := Stand.of_body Bd
  have e0 : s₁.heap = h0 := by rw [← hh, Bd.state]; rfl
  have N0 := Fr.nil n0
  have pre0 : ∀ t, SP p e below s₁ m 0 #[vi p0, vi p1] [] t → Steps p.tables e below (s₁.setTop (entryFrame m #[(.int p0), (.int p1)] 2)) t := fun t k => castTop (ef_rmMin m p0 p1) k
  have GL' := GL
  obtain ⟨GCS, GCP, GDE, GVE, GUS, GSS, GIE, GMO⟩ := GL'
  obtain ⟨fs, hr, hrun, hended, hW, hsame⟩ := X0.leave (v := some (.int p1)) (fun h => by rw [Bd.returns] at h; cases h)
  refine ⟨_, _, pre0 _ ?_, hrun, hended, _, _, rfl, ?_, ⟨_, rfl⟩, hW, hsame.mono (by decide) (by decide)⟩
  · show SP p e below s₁ m 0 #[vi p0, vi p1] [] _
    refine XS.iloadN X0.here hx rfl (dG hby D41 0 rfl) rfl ?_
    refine XS.iloadN X0.here hx rfl (dG hby D41 1 rfl) rfl ?_
    refine XS.icmpYes X0.here hx rfl (pc0 := 2) (pc' := 9) rfl (dG hby D41 2 rfl) rfl (tlt hm).2.2.1 (by decide) (by decide) ?_
    refine XS.iloadN X0.here hx rfl (dG hby D41 3 rfl) rfl ?_
    show SP p e below s₁ m 10 #[vi p0, vi p1] [(.int p1)] _
    exact retI X0 hx Bd.returns (dG hby D41 4 rfl) hr
  · show Q_rmMin n0 Z cS aDE kDE aUS aSS aIE mO p0 p1 h0 _ s₁.heap _
    rw [e0]
    exact ⟨rfl, N0, rfl⟩
theorem D22 : dL jdk_68_method_2_code [(0, .aload_n 0, 1), (1, .invokespecial 3, 3), (4, .getstatic 18, 3), (7, .ifCond .eq 18, 3), (10, .aload_n 0, 1), (11, .iload_n 1, 1), (12, .newarray .byte, 2), (14, .putfield 15, 3), (17, .aload_n 0, 1), (18, .iconst 0, 1), (19, .putfield 22, 3), (22, .goto 16, 3), (38, .return_, 1)] = true := by decide +kernel
theorem pnv2 : plainName "java/lang/AbstractStringBuilder" = true := by first | (simp [plainName, overriddenIn]; done) | decide +kernel
abbrev MN_8 : MethodName := ⟨"java/lang/AbstractStringBuilder", "<init>", "(I)V"⟩
theorem ef_rmAsb (m : MethodId) (a0b : Addr) : entryFrame m #[(.ref a0b), (.int 16)] 2 = mkF m 0 #[vr a0b, vi (16 : Int32)] [] := by first | (simp [entryFrame, mkF, argsToLocals, Value.category]; done) | rfl
def Q_rmAsb (n0 : Nat) (Z : State) (cS : Int32) (aDE : Addr) (kDE : ClassId) (aUS : Addr) (aSS : Addr) (aIE : Addr) (mO : Addr) (a0b : Addr) (h0 : Heap) (v : Option Value) (h : Heap) (L : List Loc) : Prop := ∃ y : Addr, ∃ ky : ClassId, v = none ∧ Fr n0 L ∧ Keep h0 h [a0b] ∧ (h0.size ≤ y) ∧ (Exa Z h y "[B") ∧ (Exa Z h a0b "java/lang/StringBuilder") ∧ (Fld Z h a0b "java/lang/AbstractStringBuilder" "value" "[B" (.ref y)) ∧ (Fld Z h a0b "java/lang/AbstractStringBuilder" "coder" "B" (.int 0)) ∧ (Fld Z h a0b "java/lang/AbstractStringBuilder" "count" "I" (.int 0)) ∧ (Arv Z h y ky .byte (16 : Int32) [(.int 0), (.int 0), (.int 0), (.int 0), (.int 0), (.int 0), (.int 0), (.int 0), (.int 0), (.int 0), (.int 0), (.int 0), (.int 0), (.int 0), (.int 0), (.int 0)] (.int 0))
theorem rmAsb (l : Launch) (Z : State) (a0 : Array Value) (hw : ∀ d ∈ tables_1, d.before a0 Z = true) (ws : List Jvm.Cond) (cS : Int32) (aDE : Addr) (kDE : ClassId) (aUS : Addr) (aSS : Addr) (aIE : Addr) (mO : Addr) (a0b : Addr) (h0 : Heap) (n0 : Nat) (O0 : Old Z n0 h0) (GL : GF Z cS aDE kDE aUS aSS aIE mO) (E_a0b : Exa Z h0 a0b "java/lang/StringBuilder") (F_value_a0b : Fld Z h0 a0b "java/lang/AbstractStringBuilder" "value" "[B" .null) (F_coder_a0b : Fld Z h0 a0b "java/lang/AbstractStringBuilder" "coder" "B" (.int 0)) (F_count_a0b : Fld Z h0 a0b "java/lang/AbstractStringBuilder" "count" "I" (.int 0)) (g_a0b : n0 ≤ a0b) :
    MF l MN_8 jdk_68_method_2_code 2 none ws (Rm 1 1 16 12) #[(.ref a0b), (.int 16)] Z h0 (Q_rmAsb n0 Z cS aDE kDE aUS aSS aIE mO a0b h0) := by
  refine MetFree.of_bodySF (plainFor_of_name pnv2) hisR ?_
  intro p e s m args below meth c s₁ Bd hml0 hP hK
  obtain ⟨rfl, hZ, hh⟩ := hP
  have hx := Bd.exec
  have hby := Bd.bytes
  have hml : c.maxLocals = 2 := hml0
  have hown : s.vm.findClass "java/lang/AbstractStringBuilder" = some m.cls := findClass_of_methodNamed Bd.named
  have hnm := (name_of_methodNamed Bd.named Bd.method).1
  have X0 : Stand p l e (Rm 1 1 16 12) s m #[(.ref a0b), (.int 16)] below meth c s₁ [] 0 0 := Stand.of_body Bd
  have e0 : s₁.heap = h0 := by rw [← hh, Bd.state]; rfl
  have N0 := Fr.nil n0
  have pre0 : ∀ t, SP p e below s₁ m 0 #[vr a0b, vi (16 : Int32)] [] t → Steps p.tables e below (s₁.setTop (entryFrame m #[(.ref a0b), (.int 16)] 2)) t := fun t k => castTop (ef_rmAsb m a0b) k
  have GL' := GL
  obtain ⟨GCS, GCP, GDE, GVE, GUS, GSS, GIE, GMO⟩ := GL'
  obtain ⟨T1, X1, e1, st1⟩ := initO X0 hx hZ hown (Wd hw 144 rfl) (Wd hw 32 rfl) (Wd hw 33 rfl) e0 (g := mkF m 1 #[vr a0b, vi (16 : Int32)] [(.ref a0b)]) rfl (by rw [hml]; rfl) rfl (dG hby D22 1 rfl) (by decide) (W := 0) (by show 2 * 0 + _ ≤ _; exact lEq rfl) (by decide)
  obtain ⟨T2, X2, e2, st2⟩ := getS2 X1 hx hZ hown (host := "") (Or.inl (Wd hw 145 rfl)) Via.refl e1 (GCS.ext O0.2) (g := mkF m 4 #[vr a0b, vi (16 : Int32)] []) rfl (dG hby D22 2 rfl)
  obtain ⟨T3, h3, k3, X3, e3, E3, A3, A3', st3⟩ := newPE X2 hx hZ (Wd hw 8 rfl) e2 (g := mkF m 12 #[vr a0b, vi (16 : Int32)] [(.int 16), (.ref a0b)]) rfl (dG hby D22 6 rfl) rfl (by decide) (cap := 16) (by decide) (by decide) (by decide) (by decide) (ad := "[B") rfl
  obtain ⟨b3, g3⟩ : ∃ z, z = h0.size := ⟨_, rfl⟩
  rw [← g3] at A3 A3' st3
  have g_b3 : n0 ≤ b3 := lTr (own_sz O0) (lEq g3.symm)
  have sz_b3 : h0.size ≤ b3 := lTr (Keep.refl h0 [a0b]).1 (lEq g3.symm)
  have K3 : Keep h0 h3 [a0b] := (Keep.refl h0 [a0b]).ext E3
  have O3 := O0.ext E3
  have V_b3 : Arv Z h3 b3 k3 .byte (16 : Int32) [(.int 0), (.int 0), (.int 0), (.int 0), (.int 0), (.int 0), (.int 0), (.int 0), (.int 0), (.int 0), (.int 0), (.int 0), (.int 0), (.int 0), (.int 0), (.int 0)] (.int 0) := (Arv.new A3 (by decide)).pad (pad_rep [] (.int 0) 16)
  obtain ⟨T4, h4, X4, e4, W4, st4⟩ := putF X3 hx hZ hown (host := "") (Or.inl (Wd hw 146 rfl)) Via.refl e3 (F_value_a0b.ext E3) (E_a0b.ext E3) (Or.inl (Wd hw 147 rfl)) (Wd hw 133 rfl) (ty := (.array .byte)) (by decide) rfl rfl (g := mkF m 14 #[vr a0b, vi (16 : Int32)] [(.ref b3), (.ref a0b)]) rfl rfl (dG hby D22 7 rfl)
  have Fw4 := (F_value_a0b.ext E3).same W4
  have K4 : Keep h0 h4 [a0b] := K3.wr W4 (Or.inl (List.mem_of_getElem? (i := 0) rfl))
  have O4 := O3.wr W4 g_a0b
  have N4 := Fr.snoc X4 N0 g_a0b
  obtain ⟨T5, h5, X5, e5, W5, st5⟩ := putFN X4 hx hZ hown (Wd hw 148 rfl) Via.refl e4 ((F_coder_a0b.ext E3).other W4 (Or.inr (slot_ne (a0 := a0) (Or.inl (Wd hw 149 rfl)) (Or.inl (Wd hw 147 rfl)) (by decide) (t := .byte) (t' := (.array .byte)) (by decide) (by decide)))) ((E_a0b.ext E3).wr W4) (Or.inl (Wd hw 149 rfl)) (Wd hw 133 rfl) (ty := .byte) (v' := (.int 0)) (by decide) rfl (by decide) (g := mkF m 19 #[vr a0b, vi (16 : Int32)] [(.int 0), (.ref a0b)]) rfl rfl (dG hby D22 10 rfl)
  have Fw5 := ((F_coder_a0b.ext E3).other W4 (Or.inr (slot_ne (a0 := a0) (Or.inl (Wd hw 149 rfl)) (Or.inl (Wd hw 147 rfl)) (by decide) (t := .byte) (t' := (.array .byte)) (by decide) (by decide)))).same W5
  have K5 : Keep h0 h5 [a0b] := K4.wr W5 (Or.inl (List.mem_of_getElem? (i := 0) rfl))
  have O5 := O4.wr W5 g_a0b
  have N5 := Fr.snoc X5 N4 g_a0b
  obtain ⟨fs, hr, hrun, hended, hW, hsame⟩ := X5.leave (v := none) (fun _ => rfl)
  refine ⟨_, _, pre0 _ ?_, hrun, hended, _, _, rfl, ?_, ⟨_, rfl⟩, hW, hsame.mono (by decide) (by decide)⟩
  · show SP p e below s₁ m 0 #[vr a0b, vi (16 : Int32)] [] _
    refine XS.aloadN X0.here hx rfl (dG hby D22 0 rfl) rfl rfl ?_
    show SP p e below s₁ m 1 #[vr a0b, vi (16 : Int32)] [(.ref a0b)] _
    refine st1 _ ?_
    show SP p e below T1 m 4 #[vr a0b, vi (16 : Int32)] [] _
    refine st2 _ ?_
    show SP p e below T2 m 7 #[vr a0b, vi (16 : Int32)] [(.int cS)] _
    refine XS.ifNo X2.here hx rfl (dG hby D22 3 rfl) rfl ((if0 _ _).trans (feq GCP).1) ?_
    refine XS.aloadN X2.here hx rfl (dG hby D22 4 rfl) rfl rfl ?_
    refine XS.iloadN X2.here hx rfl (dG hby D22 5 rfl) rfl ?_
    show SP p e below T2 m 12 #[vr a0b, vi (16 : Int32)] [(.int 16), (.ref a0b)] _
    refine st3 _ ?_
    show SP p e below T3 m 14 #[vr a0b, vi (16 : Int32)] [(.ref b3), (.ref a0b)] _
    refine st4 _ ?_
    show SP p e below T4 m 17 #[vr a0b, vi (16 : Int32)] [] _
    refine XS.aloadN X4.here hx rfl (dG hby D22 8 rfl) rfl rfl ?_
    refine XS.iconst X4.here hx rfl (dG hby D22 9 rfl) ?_
    show SP p e below T4 m 19 #[vr a0b, vi (16 : Int32)] [(.int 0), (.ref a0b)] _
    refine st5 _ ?_
    show SP p e below T5 m 22 #[vr a0b, vi (16 : Int32)] [] _
    refine XS.goto X5.here hx rfl (pc0 := 22) (pc' := 38) rfl (dG hby D22 11 rfl) (by decide) (by decide) ?_
    show SP p e below T5 m 38 #[vr a0b, vi (16 : Int32)] [] _
    exact X5.returnOut hx Bd.returns (dG hby D22 12 rfl) hr
  · show Q_rmAsb n0 Z cS aDE kDE aUS aSS aIE mO a0b h0 _ T5.heap _
    rw [e5]
    exact ⟨b3, k3, rfl, N5, K5, sz_b3, ((A3'.wr W4).wr W5), (((E_a0b.ext E3).wr W4).wr W5), (Fw4.other W5 (Or.inr (slot_ne (a0 := a0) (Or.inl (Wd hw 147 rfl)) (Or.inl (Wd hw 149 rfl)) (by decide) (t := (.array .byte)) (t' := .byte) (by decide) (by decide)))), Fw5, (((F_count_a0b.ext E3).other W4 (Or.inr (slot_ne (a0 := a0) (Or.inl (Wd hw 174 rfl)) (Or.inl (Wd hw 147 rfl)) (by decide) (t := .int) (t' := (.array .byte)) (by decide) (by decide)))).other W5 (Or.inr (slot_ne (a0 := a0) (Or.inl (Wd hw 174 rfl)) (Or.inl (Wd hw 149 rfl)) (by decide) (t := .int) (t' := .byte) (by decide) (by decide)))), ((V_b3.other W4 (Ne.symm (nLt (lLt E_a0b.lt (lEq g3.symm))))).other W5 (Ne.symm (nLt (lLt E_a0b.lt (lEq g3.symm)))))⟩
theorem D21 : dL jdk_67_method_1_code [(0, .aload_n 0, 1), (1, .bipush 16, 2), (3, .invokespecial 1, 3), (6, .return_, 1)] = true := by decide +kernel
theorem pdv5 : parseMethodDescriptor "(I)V" = some ⟨[.int], none⟩ := by decide +kernel
theorem pnv3 : plainName "java/lang/StringBuilder" = true := by first | (simp [plainName, overriddenIn]; done) | decide +kernel
abbrev MN_9 : MethodName := ⟨"java/lang/StringBuilder", "<init>", "()V"⟩
theorem ef_rmSb (m : MethodId) (a0b : Addr) : entryFrame m #[(.ref a0b)] 1 = mkF m 0 #[vr a0b] [] := by first | (simp [entryFrame, mkF, argsToLocals, Value.category]; done) | rfl
def Q_rmSb (n0 : Nat) (Z : State) (cS : Int32) (aDE : Addr) (kDE : ClassId) (aUS : Addr) (aSS : Addr) (aIE : Addr) (mO : Addr) (a0b : Addr) (h0 : Heap) (v : Option Value) (h : Heap) (L : List Loc) : Prop := ∃ y : Addr, ∃ ky : ClassId, v = none ∧ Fr n0 L ∧ Keep h0 h [a0b] ∧ (h0.size ≤ y) ∧ (Exa Z h y "[B") ∧ (Exa Z h a0b "java/lang/StringBuilder") ∧ (Fld Z h a0b "java/lang/AbstractStringBuilder" "value" "[B" (.ref y)) ∧ (Fld Z h a0b "java/lang/AbstractStringBuilder" "coder" "B" (.int 0)) ∧ (Fld Z h a0b "java/lang/AbstractStringBuilder" "count" "I" (.int 0)) ∧ (Arv Z h y ky .byte (16 : Int32) [(.int 0), (.int 0), (.int 0), (.int 0), (.int 0), (.int 0), (.int 0), (.int 0), (.int 0), (.int 0), (.int 0), (.int 0), (.int 0), (.int 0), (.int 0), (.int 0)] (.int 0))
theorem rmSb (l : Launch) (Z : State) (a0 : Array Value) (hw : ∀ d ∈ tables_1, d.before a0 Z = true) (ws : List Jvm.Cond) (cS : Int32) (aDE : Addr) (kDE : ClassId) (aUS : Addr) (aSS : Addr) (aIE : Addr) (mO : Addr) (a0b : Addr) (h0 : Heap) (n0 : Nat) (O0 : Old Z n0 h0) (GL : GF Z cS aDE kDE aUS aSS aIE mO) (E_a0b : Exa Z h0 a0b "java/lang/StringBuilder") (F_value_a0b : Fld Z h0 a0b "java/lang/AbstractStringBuilder" "value" "[B" .null) (F_coder_a0b : Fld Z h0 a0b "java/lang/AbstractStringBuilder" "coder" "B" (.int 0)) (F_count_a0b : Fld Z h0 a0b "java/lang/AbstractStringBuilder" "count" "I" (.int 0)) (g_a0b : n0 ≤ a0b) :
    MF l MN_9 jdk_67_method_1_code 1 none ws (Rm 2 1 16 25) #[(.ref a0b)] Z h0 (Q_rmSb n0 Z cS aDE kDE aUS aSS aIE mO a0b h0) := by
  refine MetFree.of_bodySF (plainFor_of_name pnv3) hisR ?_
  intro p e s m args below meth c s₁ Bd hml0 hP hK
  obtain ⟨rfl, hZ, hh⟩ := hP
  have hx := Bd.exec
  have hby := Bd.bytes
  have hml : c.maxLocals = 1 := hml0
  have hown : s.vm.findClass "java/lang/StringBuilder" = some m.cls := findClass_of_methodNamed Bd.named
  have hnm := (name_of_methodNamed Bd.named Bd.method).1
  have X0 : Stand p l e (Rm 2 1 16 25) s m #[(.ref a0b)] below meth c s₁ [] 0 0 := Stand.of_body Bd
  have e0 : s₁.heap = h0 := by rw [← hh, Bd.state]; rfl
  have N0 := Fr.nil n0
  have pre0 : ∀ t, SP p e below s₁ m 0 #[vr a0b] [] t → Steps p.tables e below (s₁.setTop (entryFrame m #[(.ref a0b)] 1)) t := fun t k => castTop (ef_rmSb m a0b) k
  have GL' := GL
  obtain ⟨GCS, GCP, GDE, GVE, GUS, GSS, GIE, GMO⟩ := GL'
  obtain ⟨_, _, ⟨T1, L1, k1, n1⟩, -, X1, ⟨Lc1, hQ1, l1, y1, z1⟩, st1⟩ := X0.specialBack hx (y := MN_8) rfl hown (mvT hZ (Wd hw 138 rfl)) (mvT hZ (Wd hw 139 rfl)) (mvT hZ (Wd hw 143 rfl)) (by decide) (backOf (W := 0) (rmAsb l Z a0 hw [] cS aDE kDE aUS aSS aIE mO a0b h0 n0 O0 GL E_a0b F_value_a0b F_coder_a0b F_count_a0b g_a0b) hZ (Wd hw 143 rfl) (Wd hw 142 rfl) (by decide) (by decide)) (g := mkF m 3 #[vr a0b] [(.int 16), (.ref a0b)]) rfl (by rw [hml]; rfl) (Steps.refl _) (a := a0b) (argsL := [(.int 16)]) (rest := []) (lenOf pdv5 rfl) rfl (by show 2 * 0 + _ ≤ _; exact lEq rfl) (dG hby D21 2 rfl) (fun _ _ => ⟨rfl, e0, (by decide : 0 + 1 ≤ _), (by decide : 0 + 16 ≤ _)⟩)
  dsimp only [Pt.U, Pt.locs, Pt.cells, Pt.slots] at X1 l1 y1 z1 st1 hQ1
  subst l1 y1 z1
  obtain ⟨y_1, ky_1, rfl, N1q, Kc1, P1_0, P1_1, P1_2, P1_3, P1_4, P1_5, P1_6⟩ := hQ1
  have K1 : Keep h0 T1.heap [a0b] := (Keep.refl h0 [a0b]).trans Kc1 (allS (Or.inl (List.mem_of_getElem? (i := 0) rfl)) all0)
  have O1 := O0.keep Kc1 (allS g_a0b all0)
  have g_y_1 : n0 ≤ y_1 := lTr (own_sz O0) P1_0
  have sz_y_1 : h0.size ≤ y_1 := lTr (Keep.refl h0 [a0b]).1 P1_0
  have N1 := Fr.app N0 N1q
  obtain ⟨fs, hr, hrun, hended, hW, hsame⟩ := X1.leave (v := none) (fun _ => rfl)
  refine ⟨_, _, pre0 _ ?_, hrun, hended, _, _, rfl, ?_, ⟨_, rfl⟩, hW, hsame.mono (by decide) (by decide)⟩
  · show SP p e below s₁ m 0 #[vr a0b] [] _
    refine XS.aloadN X0.here hx rfl (dG hby D21 0 rfl) rfl rfl ?_
    refine XS.bipush X0.here hx rfl (dG hby D21 1 rfl) ?_
    show SP p e below s₁ m 3 #[vr a0b] [(.int 16), (.ref a0b)] _
    refine st1.trans ?_
    show SP p e below T1 m 6 #[vr a0b] [] _
    exact X1.returnOut hx Bd.returns (dG hby D21 3 rfl) hr
  · show Q_rmSb n0 Z cS aDE kDE aUS aSS aIE mO a0b h0 _ T1.heap _
    exact ⟨y_1, ky_1, rfl, N1, K1, sz_y_1, P1_1, P1_2, P1_3, P1_4, P1_5, P1_6⟩
theorem D27 : dL jdk_68_method_9_code [(0, .aload_n 0, 1), (1, .getfield 15, 3), (4, .arraylength, 1), (5, .aload_n 0, 1), (6, .getfield 22, 3), (9, .ishr, 1), (10, .istore_n 2, 1), (11, .iload_n 1, 1), (12, .iload_n 2, 1), (13, .isub, 1), (14, .ifCond .le 24, 3), (38, .return_, 1)] = true := by decide +kernel
abbrev MN_10 : MethodName := ⟨"java/lang/AbstractStringBuilder", "ensureCapacityInternal", "(I)V"⟩
theorem ef_rmEns (m : MethodId) (a0b : Addr) (p1 : Int32) : entryFrame m #[(.ref a0b), (.int p1)] 3 = mkF m 0 #[vr a0b, vi p1, .unset] [] := by first | (simp [entryFrame, mkF, argsToLocals, Value.category]; done) | rfl
def Q_rmEns (n0 : Nat) (Z : State) (cS : Int32) (aDE : Addr) (kDE : ClassId) (aUS : Addr) (aSS : Addr) (aIE : Addr) (mO : Addr) (a0b : Addr) (p1 : Int32) (y : Addr) (ky : ClassId) (bs : List Value) (kc : Int32) (h0 : Heap) (v : Option Value) (h : Heap) (L : List Loc) : Prop := v = none ∧ Fr n0 L ∧ h = h0
theorem rmEns (l : Launch) (Z : State) (a0 : Array Value) (hw : ∀ d ∈ tables_1, d.before a0 Z = true) (ws : List Jvm.Cond) (cS : Int32) (aDE : Addr) (kDE : ClassId) (aUS : Addr) (aSS : Addr) (aIE : Addr) (mO : Addr) (a0b : Addr) (p1 : Int32) (y : Addr) (ky : ClassId) (bs : List Value) (kc : Int32) (h0 : Heap) (n0 : Nat) (O0 : Old Z n0 h0) (GL : GF Z cS aDE kDE aUS aSS aIE mO) (E_a0b : Exa Z h0 a0b "java/lang/StringBuilder") (F_value_a0b : Fld Z h0 a0b "java/lang/AbstractStringBuilder" "value" "[B" (.ref y)) (F_coder_a0b : Fld Z h0 a0b "java/lang/AbstractStringBuilder" "coder" "B" (.int 0)) (F_count_a0b : Fld Z h0 a0b "java/lang/AbstractStringBuilder" "count" "I" (.int kc)) (V_y : Arv Z h0 y ky .byte (16 : Int32) bs (.int 0)) (he : ¬ ((0 : Int32) < (p1 - (16 : Int32)))) :
    MF l MN_10 jdk_68_method_9_code 3 none ws (Rm 0 0 0 0) #[(.ref a0b), (.int p1)] Z h0 (Q_rmEns n0 Z cS aDE kDE aUS aSS aIE mO a0b p1 y ky bs kc h0) := by
  refine MetFree.of_bodySF (plainFor_of_name pnv2) hisR ?_
  intro p e s m args below meth c s₁ Bd hml0 hP hK
  obtain ⟨rfl, hZ, hh⟩ := hP
  have hx := Bd.exec
  have hby := Bd.bytes
  have hml : c.maxLocals = 3 := hml0
  have hown : s.vm.findClass "java/lang/AbstractStringBuilder" = some m.cls := findClass_of_methodNamed Bd.named
  have hnm := (name_of_methodNamed Bd.named Bd.method).1
  have X0 : Stand p l e (Rm 0 0 0 0) s m #[(.ref a0b), (.int p1)] below meth c s₁ [] 0 0 := Stand.of_body Bd
  have e0 : s₁.heap = h0 := by rw [← hh, Bd.state]; rfl
  have N0 := Fr.nil n0
  have pre0 : ∀ t, SP p e below s₁ m 0 #[vr a0b, vi p1, .unset] [] t → Steps p.tables e below (s₁.setTop (entryFrame m #[(.ref a0b), (.int p1)] 3)) t := fun t k => castTop (ef_rmEns m a0b p1) k
  have GL' := GL
  obtain ⟨GCS, GCP, GDE, GVE, GUS, GSS, GIE, GMO⟩ := GL'
  obtain ⟨T1, X1, e1, st1⟩ := getF X0 hx hZ hown (host := "") (Or.inl (Wd hw 146 rfl)) Via.refl e0 F_value_a0b (g := mkF m 1 #[vr a0b, vi p1, .unset] [(.ref a0b)]) rfl rfl (dG hby D27 1 rfl)
  obtain ⟨cl2, Ar2, -, S2, N2_, -, -⟩ := id (V_y)
  obtain ⟨T3, X3, e3, st3⟩ := getF X1 hx hZ hown (host := "") (Or.inl (Wd hw 148 rfl)) Via.refl e1 F_coder_a0b (g := mkF m 6 #[vr a0b, vi p1, .unset] [(.ref a0b), (.int 16)]) rfl rfl (dG hby D27 4 rfl)
  obtain ⟨fs, hr, hrun, hended, hW, hsame⟩ := X3.leave (v := none) (fun _ => rfl)
  refine ⟨_, _, pre0 _ ?_, hrun, hended, _, _, rfl, ?_, ⟨_, rfl⟩, hW, hsame.mono (by decide) (by decide)⟩
  · show SP p e below s₁ m 0 #[vr a0b, vi p1, .unset] [] _
    refine XS.aloadN X0.here hx rfl (dG hby D27 0 rfl) rfl rfl ?_
    show SP p e below s₁ m 1 #[vr a0b, vi p1, .unset] [(.ref a0b)] _
    refine st1 _ ?_
    show SP p e below T1 m 4 #[vr a0b, vi p1, .unset] [(.ref y)] _
    refine X1.arraylength hx (by rw [e1]; exact Ar2.1) (State.isArrayOf_alike hZ.alike Ar2.2.1) (g := mkF m 4 #[vr a0b, vi p1, .unset] [(.ref y)]) rfl rfl (dG hby D27 2 rfl) _ ?_
    rw [len_of S2 N2_]
    show SP p e below T1 m 5 #[vr a0b, vi p1, .unset] [(.int 16)] _
    refine XS.aloadN X1.here hx rfl (dG hby D27 3 rfl) rfl rfl ?_
    show SP p e below T1 m 6 #[vr a0b, vi p1, .unset] [(.ref a0b), (.int 16)] _
    refine st3 _ ?_
    show SP p e below T3 m 9 #[vr a0b, vi p1, .unset] [(.int 0), (.int 16)] _
    refine XS.ishr X3.here hx rfl (dG hby D27 5 rfl) rfl ?_
    refine XS.istoreN X3.here hx rfl (dG hby D27 6 rfl) rfl (l' := #[vr a0b, vi p1, vi (16 : Int32)]) rfl ?_
    refine XS.iloadN X3.here hx rfl (dG hby D27 7 rfl) rfl ?_
    refine XS.iloadN X3.here hx rfl (dG hby D27 8 rfl) rfl ?_
    refine XS.isub X3.here hx rfl (dG hby D27 9 rfl) rfl ?_
    refine XS.ifYes X3.here hx rfl (pc0 := 14) (pc' := 38) rfl (dG hby D27 10 rfl) rfl ((if0 _ _).trans (flt he).2.2.2) (by decide) (by decide) ?_
    show SP p e below T3 m 38 #[vr a0b, vi p1, vi (16 : Int32)] [] _
    exact X3.returnOut hx Bd.returns (dG hby D27 11 rfl) hr
  · show Q_rmEns n0 Z cS aDE kDE aUS aSS aIE mO a0b p1 y ky bs kc h0 _ T3.heap _
    rw [e3]
    exact ⟨rfl, N0, rfl⟩
theorem D29 : dL jdk_68_method_71_code [(0, .getstatic 18, 3), (3, .ifCond .eq 18, 3), (6, .aload_n 0, 1), (7, .getfield 22, 3), (10, .aload_n 1, 1), (11, .invokevirtual 40, 3), (14, .if_icmp .eq 7, 3), (21, .return_, 1)] = true := by decide +kernel
abbrev MN_11 : MethodName := ⟨"java/lang/AbstractStringBuilder", "inflateIfNeededFor", "(Ljava/lang/String;)V"⟩
theorem ef_rmInf (m : MethodId) (a0b : Addr) (a1s : Addr) : entryFrame m #[(.ref a0b), (.ref a1s)] 2 = mkF m 0 #[vr a0b, vr a1s] [] := by first | (simp [entryFrame, mkF, argsToLocals, Value.category]; done) | rfl
def Q_rmInf (n0 : Nat) (Z : State) (cS : Int32) (aDE : Addr) (kDE : ClassId) (aUS : Addr) (aSS : Addr) (aIE : Addr) (mO : Addr) (a0b : Addr) (a1s : Addr) (h0 : Heap) (v : Option Value) (h : Heap) (L : List Loc) : Prop := v = none ∧ Fr n0 L ∧ h = h0
theorem rmInf (l : Launch) (Z : State) (a0 : Array Value) (hw : ∀ d ∈ tables_1, d.before a0 Z = true) (ws : List Jvm.Cond) (cS : Int32) (aDE : Addr) (kDE : ClassId) (aUS : Addr) (aSS : Addr) (aIE : Addr) (mO : Addr) (a0b : Addr) (a1s : Addr) (h0 : Heap) (n0 : Nat) (O0 : Old Z n0 h0) (GL : GF Z cS aDE kDE aUS aSS aIE mO) (F_coder_a0b : Fld Z h0 a0b "java/lang/AbstractStringBuilder" "coder" "B" (.int 0)) (E_a1s : Exa Z h0 a1s "java/lang/String") (F_coder_a1s : Fld Z h0 a1s "java/lang/String" "coder" "B" (.int 0)) :
    MF l MN_11 jdk_68_method_71_code 2 none ws (Rm 1 0 0 13) #[(.ref a0b), (.ref a1s)] Z h0 (Q_rmInf n0 Z cS aDE kDE aUS aSS aIE mO a0b a1s h0) := by
  refine MetFree.of_bodySF (plainFor_of_name pnv2) hisR ?_
  intro p e s m args below meth c s₁ Bd hml0 hP hK
  obtain ⟨rfl, hZ, hh⟩ := hP
  have hx := Bd.exec
  have hby := Bd.bytes
  have hml : c.maxLocals = 2 := hml0
  have hown : s.vm.findClass "java/lang/AbstractStringBuilder" = some m.cls := findClass_of_methodNamed Bd.named
  have hnm := (name_of_methodNamed Bd.named Bd.method).1
  have X0 : Stand p l e (Rm 1 0 0 13) s m #[(.ref a0b), (.ref a1s)] below meth c s₁ [] 0 0 := Stand.of_body Bd
  have e0 : s₁.heap = h0 := by rw [← hh, Bd.state]; rfl
  have N0 := Fr.nil n0
  have pre0 : ∀ t, SP p e below s₁ m 0 #[vr a0b, vr a1s] [] t → Steps p.tables e below (s₁.setTop (entryFrame m #[(.ref a0b), (.ref a1s)] 2)) t := fun t k => castTop (ef_rmInf m a0b a1s) k
  have GL' := GL
  obtain ⟨GCS, GCP, GDE, GVE, GUS, GSS, GIE, GMO⟩ := GL'
  obtain ⟨T1, X1, e1, st1⟩ := getS2 X0 hx hZ hown (host := "") (Or.inl (Wd hw 145 rfl)) Via.refl e0 (GCS.ext O0.2) (g := mkF m 0 #[vr a0b, vr a1s] []) rfl (dG hby D29 0 rfl)
  obtain ⟨T2, X2, e2, st2⟩ := getF X1 hx hZ hown (host := "") (Or.inl (Wd hw 148 rfl)) Via.refl e1 F_coder_a0b (g := mkF m 7 #[vr a0b, vr a1s] [(.ref a0b)]) rfl rfl (dG hby D29 3 rfl)
  obtain ⟨cq3, kq3, q3a, q3b, q3c⟩ := isOf hZ e2 E_a1s
  obtain ⟨_, _, ⟨T3, L3, k3, n3⟩, -, X3, ⟨Lc3, hQ3, l3, y3, z3⟩, st3⟩ := X2.virtualBack hx (y := MN_5) (z := MN_5) hown (mvT hZ (Wd hw 190 rfl)) (mvT hZ (Wd hw 167 rfl)) (notFace_of_selects (args := #[]) (mvT hZ (Wd hw 169 rfl))) (mvT hZ (Wd hw 169 rfl)) (mvT hZ (Wd hw 168 rfl)) (by decide) (backOf (W := 1) (rmCod l Z a0 hw [] cS aDE kDE aUS aSS aIE mO a1s h0 n0 O0 GL F_coder_a1s) hZ (Wd hw 170 rfl) (Wd hw 6 rfl) (by decide) (by decide)) q3a q3c (g := mkF m 11 #[vr a0b, vr a1s] [(.ref a1s), (.int 0)]) rfl (by rw [hml]; rfl) (Steps.refl _) (argsL := []) (rest := [(.int 0)]) (lenOf pdv4 rfl) rfl (by show 2 * 0 + _ ≤ _; exact lEq rfl) (dG hby D29 5 rfl) (fun _ _ => ⟨rfl, e2, (by decide : 0 + 0 ≤ _), (by decide : 0 + 0 ≤ _)⟩)
  dsimp only [Pt.U, Pt.locs, Pt.cells, Pt.slots] at X3 l3 y3 z3 st3 hQ3
  subst l3 y3 z3
  obtain ⟨rfl, N3q, e3⟩ := hQ3
  have N3 := Fr.app N0 N3q
  obtain ⟨fs, hr, hrun, hended, hW, hsame⟩ := X3.leave (v := none) (fun _ => rfl)
  refine ⟨_, _, pre0 _ ?_, hrun, hended, _, _, rfl, ?_, ⟨_, rfl⟩, hW, hsame.mono (by decide) (by decide)⟩
  · show SP p e below s₁ m 0 #[vr a0b, vr a1s] [] _
    refine st1 _ ?_
    show SP p e below T1 m 3 #[vr a0b, vr a1s] [(.int cS)] _
    refine XS.ifNo X1.here hx rfl (dG hby D29 1 rfl) rfl ((if0 _ _).trans (feq GCP).1) ?_
    refine XS.aloadN X1.here hx rfl (dG hby D29 2 rfl) rfl rfl ?_
    show SP p e below T1 m 7 #[vr a0b, vr a1s] [(.ref a0b)] _
    refine st2 _ ?_
    show SP p e below T2 m 10 #[vr a0b, vr a1s] [(.int 0)] _
    refine XS.aloadN X2.here hx rfl (dG hby D29 4 rfl) rfl rfl ?_
    show SP p e below T2 m 11 #[vr a0b, vr a1s] [(.ref a1s), (.int 0)] _
    refine st3.trans ?_
    show SP p e below T3 m 14 #[vr a0b, vr a1s] [(.int 0), (.int 0)] _
    refine XS.icmpYes X3.here hx rfl (pc0 := 14) (pc' := 21) rfl (dG hby D29 6 rfl) rfl (teq (by decide : (0 : Int32) = (0 : Int32))).1 (by decide) (by decide) ?_
    show SP p e below T3 m 21 #[vr a0b, vr a1s] [] _
    exact X3.returnOut hx Bd.returns (dG hby D29 7 rfl) hr
  · show Q_rmInf n0 Z cS aDE kDE aUS aSS aIE mO a0b a1s h0 _ T3.heap _
    rw [e3]
    exact ⟨rfl, N3, rfl⟩
theorem D30 : dL jdk_42_method_147_code [(0, .aload_n 0, 1), (1, .invokevirtual 335, 3), (4, .iload_n 3, 1), (5, .if_icmp .ne 23, 3), (8, .aload_n 0, 1), (9, .getfield 9, 3), (12, .iconst 0, 1), (13, .aload_n 1, 1), (14, .iload_n 2, 1), (15, .iload_n 3, 1), (16, .ishl, 1), (17, .aload_n 0, 1), (18, .getfield 9, 3), (21, .arraylength, 1), (22, .invokestatic 212, 3), (25, .goto 18, 3), (43, .return_, 1)] = true := by decide +kernel
abbrev MN_12 : MethodName := ⟨"java/lang/String", "getBytes", "([BIB)V"⟩
theorem ef_rmGb (m : MethodId) (a0s : Addr) (a1b : Addr) (p2 : Int32) : entryFrame m #[(.ref a0s), (.ref a1b), (.int p2), (.int 0)] 4 = mkF m 0 #[vr a0s, vr a1b, vi p2, vi (0 : Int32)] [] := by first | (simp [entryFrame, mkF, argsToLocals, Value.category]; done) | rfl
def Q_rmGb (n0 : Nat) (Z : State) (cS : Int32) (aDE : Addr) (kDE : ClassId) (aUS : Addr) (aSS : Addr) (aIE : Addr) (mO : Addr) (a0s : Addr) (a1b : Addr) (p2 : Int32) (ky : ClassId) (bs : List Value) (av : Addr) (kv : ClassId) (nl : Int32) (vs : List Value) (h0 : Heap) (v : Option Value) (h : Heap) (L : List Loc) : Prop := ∃ bs2 : List Value, v = none ∧ Fr n0 L ∧ Keep h0 h [a1b] ∧ (Arv Z h a1b ky .byte (16 : Int32) bs2 (.int 0)) ∧ (bs2.length = 16)
theorem rmGb (l : Launch) (Z : State) (a0 : Array Value) (hw : ∀ d ∈ tables_1, d.before a0 Z = true) (ws : List Jvm.Cond) (cS : Int32) (aDE : Addr) (kDE : ClassId) (aUS : Addr) (aSS : Addr) (aIE : Addr) (mO : Addr) (a0s : Addr) (a1b : Addr) (p2 : Int32) (ky : ClassId) (bs : List Value) (av : Addr) (kv : ClassId) (nl : Int32) (vs : List Value) (h0 : Heap) (n0 : Nat) (O0 : Old Z n0 h0) (GL : GF Z cS aDE kDE aUS aSS aIE mO) (E_a0s : Exa Z h0 a0s "java/lang/String") (F_value_a0s : Fld Z h0 a0s "java/lang/String" "value" "[B" (.ref av)) (F_coder_a0s : Fld Z h0 a0s "java/lang/String" "coder" "B" (.int 0)) (V_av : Arv Z h0 av kv .byte nl vs (.int 0)) (V_a1b : Arv Z h0 a1b ky .byte (16 : Int32) bs (.int 0)) (h16 : bs.length = 16) (g_a1b : n0 ≤ a1b) (hp0 : ¬ (p2 < (0 : Int32))) (hn0 : ¬ (nl < (0 : Int32))) (hsum : p2.toNatClampNeg + nl.toNatClampNeg ≤ 16) :
    MF l MN_12 jdk_42_method_147_code 4 none ws (Rm 1 0 0 18) #[(.ref a0s), (.ref a1b), (.int p2), (.int 0)] Z h0 (Q_rmGb n0 Z cS aDE kDE aUS aSS aIE mO a0s a1b p2 ky bs av kv nl vs h0) := by
  refine MetFree.of_bodySF (plainFor_of_name pnv1) hisR ?_
  intro p e s m args below meth c s₁ Bd hml0 hP hK
  obtain ⟨rfl, hZ, hh⟩ := hP
  have hx := Bd.exec
  have hby := Bd.bytes
  have hml : c.maxLocals = 4 := hml0
  have hown : s.vm.findClass "java/lang/String" = some m.cls := findClass_of_methodNamed Bd.named
  have hnm := (name_of_methodNamed Bd.named Bd.method).1
  have X0 : Stand p l e (Rm 1 0 0 18) s m #[(.ref a0s), (.ref a1b), (.int p2), (.int 0)] below meth c s₁ [] 0 0 := Stand.of_body Bd
  have e0 : s₁.heap = h0 := by rw [← hh, Bd.state]; rfl
  have N0 := Fr.nil n0
  have pre0 : ∀ t, SP p e below s₁ m 0 #[vr a0s, vr a1b, vi p2, vi (0 : Int32)] [] t → Steps p.tables e below (s₁.setTop (entryFrame m #[(.ref a0s), (.ref a1b), (.int p2), (.int 0)] 4)) t := fun t k => castTop (ef_rmGb m a0s a1b p2) k
  have GL' := GL
  obtain ⟨GCS, GCP, GDE, GVE, GUS, GSS, GIE, GMO⟩ := GL'
  obtain ⟨cq1, kq1, q1a, q1b, q1c⟩ := isOf hZ e0 E_a0s
  obtain ⟨_, _, ⟨T1, L1, k1, n1⟩, -, X1, ⟨Lc1, hQ1, l1, y1, z1⟩, st1⟩ := X0.virtualBack hx (y := MN_5) (z := MN_5) hown (mvT hZ (Wd hw 166 rfl)) (mvT hZ (Wd hw 167 rfl)) (notFace_of_selects (args := #[]) (mvT hZ (Wd hw 169 rfl))) (mvT hZ (Wd hw 169 rfl)) (mvT hZ (Wd hw 168 rfl)) (by decide) (backOf (W := 0) (rmCod l Z a0 hw [] cS aDE kDE aUS aSS aIE mO a0s h0 n0 O0 GL F_coder_a0s) hZ (Wd hw 170 rfl) (Wd hw 6 rfl) (by decide) (by decide)) q1a q1c (g := mkF m 1 #[vr a0s, vr a1b, vi p2, vi (0 : Int32)] [(.ref a0s)]) rfl (by rw [hml]; rfl) (Steps.refl _) (argsL := []) (rest := []) (lenOf pdv4 rfl) rfl (by show 2 * 0 + _ ≤ _; exact lEq rfl) (dG hby D30 1 rfl) (fun _ _ => ⟨rfl, e0, (by decide : 0 + 0 ≤ _), (by decide : 0 + 0 ≤ _)⟩)
  dsimp only [Pt.U, Pt.locs, Pt.cells, Pt.slots] at X1 l1 y1 z1 st1 hQ1
  subst l1 y1 z1
  obtain ⟨rfl, N1q, e1⟩ := hQ1
  have N1 := Fr.app N0 N1q
  obtain ⟨T2, X2, e2, st2⟩ := getF X1 hx hZ hown (host := "") (Or.inl (Wd hw 165 rfl)) Via.refl e1 F_value_a0s (g := mkF m 9 #[vr a0s, vr a1b, vi p2, vi (0 : Int32)] [(.ref a0s)]) rfl rfl (dG hby D30 5 rfl)
  obtain ⟨T3, X3, e3, st3⟩ := getF X2 hx hZ hown (host := "") (Or.inl (Wd hw 165 rfl)) Via.refl e2 F_value_a0s (g := mkF m 18 #[vr a0s, vr a1b, vi p2, vi (0 : Int32)] [(.ref a0s), (.int p2), (.ref a1b), (.int 0), (.ref av)]) rfl rfl (dG hby D30 12 rfl)
  obtain ⟨cl4, Ar4, -, S4, N4_, -, -⟩ := id (V_av)
  obtain ⟨T5, h5, L5, X5, e5, N5, Kc5, V5, st5⟩ := cpA X3 hx hZ hown (Wd hw 196 rfl) (Wd hw 199 rfl) (Wd hw 197 rfl) (Wd hw 198 rfl) e3 V_av V_a1b (us := ((List.range (nl).toNatClampNeg).map fun i => (vs).getD (((0 : Int32)).toNatClampNeg + i) (.int 0))) (Or.inl ⟨rfl, rfl⟩) (by decide) hp0 hn0 (lEq (Nat.zero_add _)) hsum rfl (by rw [h16]; exact hsum) N1 g_a1b (g := mkF m 22 #[vr a0s, vr a1b, vi p2, vi (0 : Int32)] [(.int nl), (.int p2), (.ref a1b), (.int 0), (.ref av)]) rfl (by rw [hml]; rfl) rfl (dG hby D30 14 rfl) (by decide) (W := 0) (by show 2 * 0 + _ ≤ _; exact lEq rfl) (by decide)
  have V5' : Arv Z h5 a1b ky .byte (16 : Int32) (List.take (p2).toNatClampNeg bs ++ ((List.range (nl).toNatClampNeg).map fun i => (vs).getD (((0 : Int32)).toNatClampNeg + i) (.int 0)) ++ List.drop ((p2).toNatClampNeg + (nl).toNatClampNeg) bs) (.int 0) := V5
  have K5 : Keep h0 h5 [a1b] := (Keep.refl h0 [a1b]).trans Kc5 (allS (Or.inl (List.mem_of_getElem? (i := 0) rfl)) all0)
  have O5 := O0.keep Kc5 (allS g_a1b all0)
  have hl5 : (List.take (p2).toNatClampNeg bs ++ ((List.range (nl).toNatClampNeg).map fun i => (vs).getD (((0 : Int32)).toNatClampNeg + i) (.int 0)) ++ List.drop ((p2).toNatClampNeg + (nl).toNatClampNeg) bs).length = 16 := own_len16 h16 (by simp) hsum
  obtain ⟨fs, hr, hrun, hended, hW, hsame⟩ := X5.leave (v := none) (fun _ => rfl)
  refine ⟨_, _, pre0 _ ?_, hrun, hended, _, _, rfl, ?_, ⟨_, rfl⟩, hW, hsame.mono (by decide) (by decide)⟩
  · show SP p e below s₁ m 0 #[vr a0s, vr a1b, vi p2, vi (0 : Int32)] [] _
    refine XS.aloadN X0.here hx rfl (dG hby D30 0 rfl) rfl rfl ?_
    show SP p e below s₁ m 1 #[vr a0s, vr a1b, vi p2, vi (0 : Int32)] [(.ref a0s)] _
    refine st1.trans ?_
    show SP p e below T1 m 4 #[vr a0s, vr a1b, vi p2, vi (0 : Int32)] [(.int 0)] _
    refine XS.iloadN X1.here hx rfl (dG hby D30 2 rfl) rfl ?_
    refine XS.icmpNo X1.here hx rfl (dG hby D30 3 rfl) rfl (teq (by decide : (0 : Int32) = (0 : Int32))).2 ?_
    refine XS.aloadN X1.here hx rfl (dG hby D30 4 rfl) rfl rfl ?_
    show SP p e below T1 m 9 #[vr a0s, vr a1b, vi p2, vi (0 : Int32)] [(.ref a0s)] _
    refine st2 _ ?_
    show SP p e below T2 m 12 #[vr a0s, vr a1b, vi p2, vi (0 : Int32)] [(.ref av)] _
    refine XS.iconst X2.here hx rfl (dG hby D30 6 rfl) ?_
    refine XS.aloadN X2.here hx rfl (dG hby D30 7 rfl) rfl rfl ?_
    refine XS.iloadN X2.here hx rfl (dG hby D30 8 rfl) rfl ?_
    refine XS.iloadN X2.here hx rfl (dG hby D30 9 rfl) rfl ?_
    show SP p e below T2 m 16 #[vr a0s, vr a1b, vi p2, vi (0 : Int32)] [(.int 0), (.int p2), (.ref a1b), (.int 0), (.ref av)] _
    refine XS.ishl X2.here hx rfl (dG hby D30 10 rfl) rfl ?_
    rw [own_shl0 p2]
    show SP p e below T2 m 17 #[vr a0s, vr a1b, vi p2, vi (0 : Int32)] [(.int p2), (.ref a1b), (.int 0), (.ref av)] _
    refine XS.aloadN X2.here hx rfl (dG hby D30 11 rfl) rfl rfl ?_
    show SP p e below T2 m 18 #[vr a0s, vr a1b, vi p2, vi (0 : Int32)] [(.ref a0s), (.int p2), (.ref a1b), (.int 0), (.ref av)] _
    refine st3 _ ?_
    show SP p e below T3 m 21 #[vr a0s, vr a1b, vi p2, vi (0 : Int32)] [(.ref av), (.int p2), (.ref a1b), (.int 0), (.ref av)] _
    refine X3.arraylength hx (by rw [e3]; exact Ar4.1) (State.isArrayOf_alike hZ.alike Ar4.2.1) (g := mkF m 21 #[vr a0s, vr a1b, vi p2, vi (0 : Int32)] [(.ref av), (.int p2), (.ref a1b), (.int 0), (.ref av)]) rfl rfl (dG hby D30 13 rfl) _ ?_
    rw [len_of S4 N4_]
    show SP p e below T3 m 22 #[vr a0s, vr a1b, vi p2, vi (0 : Int32)] [(.int nl), (.int p2), (.ref a1b), (.int 0), (.ref av)] _
    refine st5 _ ?_
    show SP p e below T5 m 25 #[vr a0s, vr a1b, vi p2, vi (0 : Int32)] [] _
    refine XS.goto X5.here hx rfl (pc0 := 25) (pc' := 43) rfl (dG hby D30 15 rfl) (by decide) (by decide) ?_
    show SP p e below T5 m 43 #[vr a0s, vr a1b, vi p2, vi (0 : Int32)] [] _
    exact X5.returnOut hx Bd.returns (dG hby D30 16 rfl) hr
  · show Q_rmGb n0 Z cS aDE kDE aUS aSS aIE mO a0s a1b p2 ky bs av kv nl vs h0 _ T5.heap _
    rw [e5]
    exact ⟨(List.take (p2).toNatClampNeg bs ++ ((List.range (nl).toNatClampNeg).map fun i => (vs).getD (((0 : Int32)).toNatClampNeg + i) (.int 0)) ++ List.drop ((p2).toNatClampNeg + (nl).toNatClampNeg) bs), rfl, N5, K5, V5', hl5⟩
theorem D28 : dL jdk_68_method_73_code [(0, .aload_n 0, 1), (1, .aload_n 2, 1), (2, .invokevirtual 397, 3), (5, .aload_n 2, 1), (6, .aload_n 0, 1), (7, .getfield 15, 3), (10, .iload_n 1, 1), (11, .aload_n 0, 1), (12, .getfield 22, 3), (15, .invokevirtual 399, 3), (18, .return_, 1)] = true := by decide +kernel
theorem pdv6 : parseMethodDescriptor "(Ljava/lang/String;)V" = some ⟨[(.object "java/lang/String")], none⟩ := by decide +kernel
theorem pdv7 : parseMethodDescriptor "([BIB)V" = some ⟨[(.array .byte), .int, .byte], none⟩ := by decide +kernel
abbrev MN_13 : MethodName := ⟨"java/lang/AbstractStringBuilder", "putStringAt", "(ILjava/lang/String;)V"⟩
theorem ef_rmPut (m : MethodId) (a0b : Addr) (p1 : Int32) (a2s : Addr) : entryFrame m #[(.ref a0b), (.int p1), (.ref a2s)] 3 = mkF m 0 #[vr a0b, vi p1, vr a2s] [] := by first | (simp [entryFrame, mkF, argsToLocals, Value.category]; done) | rfl
def Q_rmPut (n0 : Nat) (Z : State) (cS : Int32) (aDE : Addr) (kDE : ClassId) (aUS : Addr) (aSS : Addr) (aIE : Addr) (mO : Addr) (a0b : Addr) (p1 : Int32) (a2s : Addr) (y : Addr) (ky : ClassId) (bs : List Value) (kc : Int32) (av : Addr) (kv : ClassId) (nl : Int32) (vs : List Value) (h0 : Heap) (v : Option Value) (h : Heap) (L : List Loc) : Prop := ∃ bs2 : List Value, v = none ∧ Fr n0 L ∧ Keep h0 h [y] ∧ (Arv Z h y ky .byte (16 : Int32) bs2 (.int 0)) ∧ (bs2.length = 16)
theorem rmPut (l : Launch) (Z : State) (a0 : Array Value) (hw : ∀ d ∈ tables_1, d.before a0 Z = true) (ws : List Jvm.Cond) (cS : Int32) (aDE : Addr) (kDE : ClassId) (aUS : Addr) (aSS : Addr) (aIE : Addr) (mO : Addr) (a0b : Addr) (p1 : Int32) (a2s : Addr) (y : Addr) (ky : ClassId) (bs : List Value) (kc : Int32) (av : Addr) (kv : ClassId) (nl : Int32) (vs : List Value) (h0 : Heap) (n0 : Nat) (O0 : Old Z n0 h0) (GL : GF Z cS aDE kDE aUS aSS aIE mO) (E_a0b : Exa Z h0 a0b "java/lang/StringBuilder") (F_value_a0b : Fld Z h0 a0b "java/lang/AbstractStringBuilder" "value" "[B" (.ref y)) (F_coder_a0b : Fld Z h0 a0b "java/lang/AbstractStringBuilder" "coder" "B" (.int 0)) (F_count_a0b : Fld Z h0 a0b "java/lang/AbstractStringBuilder" "count" "I" (.int kc)) (V_y : Arv Z h0 y ky .byte (16 : Int32) bs (.int 0)) (h16 : bs.length = 16) (g_y : n0 ≤ y) (E_a2s : Exa Z h0 a2s "java/lang/String") (F_value_a2s : Fld Z h0 a2s "java/lang/String" "value" "[B" (.ref av)) (F_coder_a2s : Fld Z h0 a2s "java/lang/String" "coder" "B" (.int 0)) (V_av : Arv Z h0 av kv .byte nl vs (.int 0)) (hp0 : ¬ (p1 < (0 : Int32))) (hn0 : ¬ (nl < (0 : Int32))) (hsum : p1.toNatClampNeg + nl.toNatClampNeg ≤ 16) :
    MF l MN_13 jdk_68_method_73_code 3 none ws (Rm 2 0 0 33) #[(.ref a0b), (.int p1), (.ref a2s)] Z h0 (Q_rmPut n0 Z cS aDE kDE aUS aSS aIE mO a0b p1 a2s y ky bs kc av kv nl vs h0) := by
  refine MetFree.of_bodySF (plainFor_of_name pnv2) hisR ?_
  intro p e s m args below meth c s₁ Bd hml0 hP hK
  obtain ⟨rfl, hZ, hh⟩ := hP
  have hx := Bd.exec
  have hby := Bd.bytes
  have hml : c.maxLocals = 3 := hml0
  have hown : s.vm.findClass "java/lang/AbstractStringBuilder" = some m.cls := findClass_of_methodNamed Bd.named
  have hnm := (name_of_methodNamed Bd.named Bd.method).1
  have X0 : Stand p l e (Rm 2 0 0 33) s m #[(.ref a0b), (.int p1), (.ref a2s)] below meth c s₁ [] 0 0 := Stand.of_body Bd
  have e0 : s₁.heap = h0 := by rw [← hh, Bd.state]; rfl
  have N0 := Fr.nil n0
  have pre0 : ∀ t, SP p e below s₁ m 0 #[vr a0b, vi p1, vr a2s] [] t → Steps p.tables e below (s₁.setTop (entryFrame m #[(.ref a0b), (.int p1), (.ref a2s)] 3)) t := fun t k => castTop (ef_rmPut m a0b p1 a2s) k
  have GL' := GL
  obtain ⟨GCS, GCP, GDE, GVE, GUS, GSS, GIE, GMO⟩ := GL'
  obtain ⟨cq1, kq1, q1a, q1b, q1c⟩ := isOf hZ e0 E_a0b
  obtain ⟨_, _, ⟨T1, L1, k1, n1⟩, -, X1, ⟨Lc1, hQ1, l1, y1, z1⟩, st1⟩ := X0.virtualBack hx (y := MN_11) (z := MN_11) hown (mvT hZ (Wd hw 185 rfl)) (mvT hZ (own_decl (Wd hw 186 rfl) (Wd hw 189 rfl))) (own_nf (args := #[]) (mvT hZ (Wd hw 178 rfl)) rfl) (mvT hZ (Wd hw 188 rfl)) (mvT hZ (Wd hw 186 rfl)) (by decide) (backOf (W := 0) (rmInf l Z a0 hw [] cS aDE kDE aUS aSS aIE mO a0b a2s h0 n0 O0 GL F_coder_a0b E_a2s F_coder_a2s) hZ (Wd hw 189 rfl) (Wd hw 142 rfl) (by decide) (by decide)) q1a q1c (g := mkF m 2 #[vr a0b, vi p1, vr a2s] [(.ref a2s), (.ref a0b)]) rfl (by rw [hml]; rfl) (Steps.refl _) (argsL := [(.ref a2s)]) (rest := []) (lenOf pdv6 rfl) rfl (by show 2 * 0 + _ ≤ _; exact lEq rfl) (dG hby D28 2 rfl) (fun _ _ => ⟨rfl, e0, (by decide : 0 + 0 ≤ _), (by decide : 0 + 0 ≤ _)⟩)
  dsimp only [Pt.U, Pt.locs, Pt.cells, Pt.slots] at X1 l1 y1 z1 st1 hQ1
  subst l1 y1 z1
  obtain ⟨rfl, N1q, e1⟩ := hQ1
  have N1 := Fr.app N0 N1q
  obtain ⟨T2, X2, e2, st2⟩ := getF X1 hx hZ hown (host := "") (Or.inl (Wd hw 146 rfl)) Via.refl e1 F_value_a0b (g := mkF m 7 #[vr a0b, vi p1, vr a2s] [(.ref a0b), (.ref a2s)]) rfl rfl (dG hby D28 5 rfl)
  obtain ⟨T3, X3, e3, st3⟩ := getF X2 hx hZ hown (host := "") (Or.inl (Wd hw 148 rfl)) Via.refl e2 F_coder_a0b (g := mkF m 12 #[vr a0b, vi p1, vr a2s] [(.ref a0b), (.int p1), (.ref y), (.ref a2s)]) rfl rfl (dG hby D28 8 rfl)
  obtain ⟨cq4, kq4, q4a, q4b, q4c⟩ := isOf hZ e3 E_a2s
  obtain ⟨_, _, ⟨T4, L4, k4, n4⟩, -, X4, ⟨Lc4, hQ4, l4, y4, z4⟩, st4⟩ := X3.virtualBack hx (y := MN_12) (z := MN_12) hown (mvT hZ (Wd hw 191 rfl)) (mvT hZ (Wd hw 192 rfl)) (notFace_of_selects (args := #[]) (mvT hZ (Wd hw 194 rfl))) (mvT hZ (Wd hw 194 rfl)) (mvT hZ (Wd hw 193 rfl)) (by decide) (backOf (W := 0) (rmGb l Z a0 hw [] cS aDE kDE aUS aSS aIE mO a2s y p1 ky bs av kv nl vs h0 n0 O0 GL E_a2s F_value_a2s F_coder_a2s V_av V_y h16 g_y hp0 hn0 hsum) hZ (Wd hw 195 rfl) (Wd hw 6 rfl) (by decide) (by decide)) q4a q4c (g := mkF m 15 #[vr a0b, vi p1, vr a2s] [(.int 0), (.int p1), (.ref y), (.ref a2s)]) rfl (by rw [hml]; rfl) (Steps.refl _) (argsL := [(.ref y), (.int p1), (.int 0)]) (rest := []) (lenOf pdv7 rfl) rfl (by show 2 * 0 + _ ≤ _; exact lEq rfl) (dG hby D28 9 rfl) (fun _ _ => ⟨rfl, e3, (by decide : 0 + 0 ≤ _), (by decide : 0 + 0 ≤ _)⟩)
  dsimp only [Pt.U, Pt.locs, Pt.cells, Pt.slots] at X4 l4 y4 z4 st4 hQ4
  subst l4 y4 z4
  obtain ⟨bs2_4, rfl, N4q, Kc4, P4_0, P4_1⟩ := hQ4
  have K4 : Keep h0 T4.heap [y] := (Keep.refl h0 [y]).trans Kc4 (allS (Or.inl (List.mem_of_getElem? (i := 0) rfl)) all0)
  have O4 := O0.keep Kc4 (allS g_y all0)
  have N4 := Fr.app N1 N4q
  obtain ⟨fs, hr, hrun, hended, hW, hsame⟩ := X4.leave (v := none) (fun _ => rfl)
  refine ⟨_, _, pre0 _ ?_, hrun, hended, _, _, rfl, ?_, ⟨_, rfl⟩, hW, hsame.mono (by decide) (by decide)⟩
  · show SP p e below s₁ m 0 #[vr a0b, vi p1, vr a2s] [] _
    refine XS.aloadN X0.here hx rfl (dG hby D28 0 rfl) rfl rfl ?_
    refine XS.aloadN X0.here hx rfl (dG hby D28 1 rfl) rfl rfl ?_
    show SP p e below s₁ m 2 #[vr a0b, vi p1, vr a2s] [(.ref a2s), (.ref a0b)] _
    refine st1.trans ?_
    show SP p e below T1 m 5 #[vr a0b, vi p1, vr a2s] [] _
    refine XS.aloadN X1.here hx rfl (dG hby D28 3 rfl) rfl rfl ?_
    refine XS.aloadN X1.here hx rfl (dG hby D28 4 rfl) rfl rfl ?_
    show SP p e below T1 m 7 #[vr a0b, vi p1, vr a2s] [(.ref a0b), (.ref a2s)] _
    refine st2 _ ?_
    show SP p e below T2 m 10 #[vr a0b, vi p1, vr a2s] [(.ref y), (.ref a2s)] _
    refine XS.iloadN X2.here hx rfl (dG hby D28 6 rfl) rfl ?_
    refine XS.aloadN X2.here hx rfl (dG hby D28 7 rfl) rfl rfl ?_
    show SP p e below T2 m 12 #[vr a0b, vi p1, vr a2s] [(.ref a0b), (.int p1), (.ref y), (.ref a2s)] _
    refine st3 _ ?_
    show SP p e below T3 m 15 #[vr a0b, vi p1, vr a2s] [(.int 0), (.int p1), (.ref y), (.ref a2s)] _
    refine st4.trans ?_
    show SP p e below T4 m 18 #[vr a0b, vi p1, vr a2s] [] _
    exact X4.returnOut hx Bd.returns (dG hby D28 10 rfl) hr
  · show Q_rmPut n0 Z cS aDE kDE aUS aSS aIE mO a0b p1 a2s y ky bs kc av kv nl vs h0 _ T4.heap _
    exact ⟨bs2_4, rfl, N4, K4, P4_0, P4_1⟩
theorem D24 : dL jdk_68_method_22_code [(0, .aload_n 1, 1), (1, .ifnonnull 8, 3), (9, .aload_n 1, 1), (10, .invokevirtual 32, 3), (13, .istore_n 2, 1), (14, .aload_n 0, 1), (15, .aload_n 0, 1), (16, .getfield 79, 3), (19, .iload_n 2, 1), (20, .iadd, 1), (21, .invokevirtual 100, 3), (24, .aload_n 0, 1), (25, .aload_n 0, 1), (26, .getfield 79, 3), (29, .aload_n 1, 1), (30, .invokevirtual 208, 3), (33, .aload_n 0, 1), (34, .dup, 1), (35, .getfield 79, 3), (38, .iload_n 2, 1), (39, .iadd, 1), (40, .putfield 79, 3), (43, .aload_n 0, 1), (44, .areturn, 1)] = true := by decide +kernel
theorem pdv8 : parseMethodDescriptor "()I" = some ⟨[], some .int⟩ := by decide +kernel
theorem pdv9 : parseMethodDescriptor "(ILjava/lang/String;)V" = some ⟨[.int, (.object "java/lang/String")], none⟩ := by decide +kernel
abbrev MN_14 : MethodName := ⟨"java/lang/AbstractStringBuilder", "append", "(Ljava/lang/String;)Ljava/lang/AbstractStringBuilder;"⟩
theorem ef_rmAp (m : MethodId) (a0b : Addr) (a1s : Addr) : entryFrame m #[(.ref a0b), (.ref a1s)] 3 = mkF m 0 #[vr a0b, vr a1s, .unset] [] := by first | (simp [entryFrame, mkF, argsToLocals, Value.category]; done) | rfl
def Q_rmAp (n0 : Nat) (Z : State) (cS : Int32) (aDE : Addr) (kDE : ClassId) (aUS : Addr) (aSS : Addr) (aIE : Addr) (mO : Addr) (a0b : Addr) (a1s : Addr) (y : Addr) (ky : ClassId) (bs : List Value) (kc : Int32) (av : Addr) (kv : ClassId) (nl : Int32) (vs : List Value) (h0 : Heap) (v : Option Value) (h : Heap) (L : List Loc) : Prop := ∃ bs2 : List Value, v = some (.ref a0b) ∧ Fr n0 L ∧ Keep h0 h [a0b, y] ∧ (Exa Z h a0b "java/lang/StringBuilder") ∧ (Fld Z h a0b "java/lang/AbstractStringBuilder" "value" "[B" (.ref y)) ∧ (Fld Z h a0b "java/lang/AbstractStringBuilder" "coder" "B" (.int 0)) ∧ (Fld Z h a0b "java/lang/AbstractStringBuilder" "count" "I" (.int (kc + nl))) ∧ (Arv Z h y ky .byte (16 : Int32) bs2 (.int 0)) ∧ (bs2.length = 16)
theorem rmAp (l : Launch) (Z : State) (a0 : Array Value) (hw : ∀ d ∈ tables_1, d.before a0 Z = true) (ws : List Jvm.Cond) (cS : Int32) (aDE : Addr) (kDE : ClassId) (aUS : Addr) (aSS : Addr) (aIE : Addr) (mO : Addr) (a0b : Addr) (a1s : Addr) (y : Addr) (ky : ClassId) (bs : List Value) (kc : Int32) (av : Addr) (kv : ClassId) (nl : Int32) (vs : List Value) (h0 : Heap) (n0 : Nat) (O0 : Old Z n0 h0) (GL : GF Z cS aDE kDE aUS aSS aIE mO) (E_a0b : Exa Z h0 a0b "java/lang/StringBuilder") (F_value_a0b : Fld Z h0 a0b "java/lang/AbstractStringBuilder" "value" "[B" (.ref y)) (F_coder_a0b : Fld Z h0 a0b "java/lang/AbstractStringBuilder" "coder" "B" (.int 0)) (F_count_a0b : Fld Z h0 a0b "java/lang/AbstractStringBuilder" "count" "I" (.int kc)) (V_y : Arv Z h0 y ky .byte (16 : Int32) bs (.int 0)) (h16 : bs.length = 16) (g_a0b : n0 ≤ a0b) (g_y : n0 ≤ y) (E_a1s : Exa Z h0 a1s "java/lang/String") (F_value_a1s : Fld Z h0 a1s "java/lang/String" "value" "[B" (.ref av)) (F_coder_a1s : Fld Z h0 a1s "java/lang/String" "coder" "B" (.int 0)) (V_av : Arv Z h0 av kv .byte nl vs (.int 0)) (hk0 : ¬ (kc < (0 : Int32))) (hk1 : ¬ ((14 : Int32) < kc)) (hn0 : ¬ (nl < (0 : Int32))) (hn1 : ¬ ((2 : Int32) < nl)) :
    MF l MN_14 jdk_68_method_22_code 3 (some (.object "java/lang/AbstractStringBuilder")) ws (Rm 3 0 0 47) #[(.ref a0b), (.ref a1s)] Z h0 (Q_rmAp n0 Z cS aDE kDE aUS aSS aIE mO a0b a1s y ky bs kc av kv nl vs h0) := by
  refine MetFree.of_bodySF (plainFor_of_name pnv2) hisR ?_
  intro p e s m args below meth c s₁ Bd hml0 hP hK
  obtain ⟨rfl, hZ, hh⟩ := hP
  have hx := Bd.exec
  have hby := Bd.bytes
  have hml : c.maxLocals = 3 := hml0
  have hown : s.vm.findClass "java/lang/AbstractStringBuilder" = some m.cls := findClass_of_methodNamed Bd.named
  have hnm := (name_of_methodNamed Bd.named Bd.method).1
  have X0 : Stand p l e (Rm 3 0 0 47) s m #[(.ref a0b), (.ref a1s)] below meth c s₁ [] 0 0 := Stand.of_body Bd
  have e0 : s₁.heap = h0 := by rw [← hh, Bd.state]; rfl
  have N0 := Fr.nil n0
  have pre0 : ∀ t, SP p e below s₁ m 0 #[vr a0b, vr a1s, .unset] [] t → Steps p.tables e below (s₁.setTop (entryFrame m #[(.ref a0b), (.ref a1s)] 3)) t := fun t k => castTop (ef_rmAp m a0b a1s) k
  have GL' := GL
  obtain ⟨GCS, GCP, GDE, GVE, GUS, GSS, GIE, GMO⟩ := GL'
  obtain ⟨cq1, kq1, q1a, q1b, q1c⟩ := isOf hZ e0 E_a1s
  obtain ⟨_, _, ⟨T1, L1, k1, n1⟩, -, X1, ⟨Lc1, hQ1, l1, y1, z1⟩, st1⟩ := X0.virtualBack hx (y := MN_6) (z := MN_6) hown (mvT hZ (Wd hw 160 rfl)) (mvT hZ (Wd hw 161 rfl)) (notFace_of_selects (args := #[]) (mvT hZ (Wd hw 163 rfl))) (mvT hZ (Wd hw 163 rfl)) (mvT hZ (Wd hw 162 rfl)) (by decide) (backOf (W := 0) (rmLen l Z a0 hw [] cS aDE kDE aUS aSS aIE mO a1s av kv nl vs h0 n0 O0 GL E_a1s F_value_a1s F_coder_a1s V_av) hZ (Wd hw 164 rfl) (Wd hw 6 rfl) (by decide) (by decide)) q1a q1c (g := mkF m 10 #[vr a0b, vr a1s, .unset] [(.ref a1s)]) rfl (by rw [hml]; rfl) (Steps.refl _) (argsL := []) (rest := []) (lenOf pdv8 rfl) rfl (by show 2 * 0 + _ ≤ _; exact lEq rfl) (dG hby D24 3 rfl) (fun _ _ => ⟨rfl, e0, (by decide : 0 + 0 ≤ _), (by decide : 0 + 0 ≤ _)⟩)
  dsimp only [Pt.U, Pt.locs, Pt.cells, Pt.slots] at X1 l1 y1 z1 st1 hQ1
  subst l1 y1 z1
  obtain ⟨rfl, N1q, e1⟩ := hQ1
  have N1 := Fr.app N0 N1q
  have hc := own_cap hk0 hk1 hn0 hn1
  obtain ⟨T2, X2, e2, st2⟩ := getF X1 hx hZ hown (host := "") (Or.inl (Wd hw 173 rfl)) Via.refl e1 F_count_a0b (g := mkF m 16 #[vr a0b, vr a1s, vi nl] [(.ref a0b), (.ref a0b)]) rfl rfl (dG hby D24 7 rfl)
  obtain ⟨cq3, kq3, q3a, q3b, q3c⟩ := isOf hZ e2 E_a0b
  obtain ⟨_, _, ⟨T3, L3, k3, n3⟩, -, X3, ⟨Lc3, hQ3, l3, y3, z3⟩, st3⟩ := X2.virtualBack hx (y := MN_10) (z := MN_10) hown (mvT hZ (Wd hw 175 rfl)) (mvT hZ (own_decl (Wd hw 176 rfl) (Wd hw 179 rfl))) (own_nf (args := #[]) (mvT hZ (Wd hw 178 rfl)) rfl) (mvT hZ (Wd hw 178 rfl)) (mvT hZ (Wd hw 176 rfl)) (by decide) (backOf (W := 0) (rmEns l Z a0 hw [] cS aDE kDE aUS aSS aIE mO a0b ((kc + nl)) y ky bs kc h0 n0 O0 GL E_a0b F_value_a0b F_coder_a0b F_count_a0b V_y hc.1) hZ (Wd hw 179 rfl) (Wd hw 142 rfl) (by decide) (by decide)) q3a q3c (g := mkF m 21 #[vr a0b, vr a1s, vi nl] [(.int (kc + nl)), (.ref a0b)]) rfl (by rw [hml]; rfl) (Steps.refl _) (argsL := [(.int (kc + nl))]) (rest := []) (lenOf pdv5 rfl) rfl (by show 2 * 0 + _ ≤ _; exact lEq rfl) (dG hby D24 10 rfl) (fun _ _ => ⟨rfl, e2, (by decide : 0 + 0 ≤ _), (by decide : 0 + 0 ≤ _)⟩)
  dsimp only [Pt.U, Pt.locs, Pt.cells, Pt.slots] at X3 l3 y3 z3 st3 hQ3
  subst l3 y3 z3
  obtain ⟨rfl, N3q, e3⟩ := hQ3
  have N3 := Fr.app N1 N3q
  obtain ⟨T4, X4, e4, st4⟩ := getF X3 hx hZ hown (host := "") (Or.inl (Wd hw 173 rfl)) Via.refl e3 F_count_a0b (g := mkF m 26 #[vr a0b, vr a1s, vi nl] [(.ref a0b), (.ref a0b)]) rfl rfl (dG hby D24 13 rfl)
  obtain ⟨cq5, kq5, q5a, q5b, q5c⟩ := isOf hZ e4 E_a0b
  obtain ⟨_, _, ⟨T5, L5, k5, n5⟩, -, X5, ⟨Lc5, hQ5, l5, y5, z5⟩, st5⟩ := X4.virtualBack hx (y := MN_13) (z := MN_13) hown (mvT hZ (Wd hw 180 rfl)) (mvT hZ (own_decl (Wd hw 181 rfl) (Wd hw 184 rfl))) (own_nf (args := #[]) (mvT hZ (Wd hw 178 rfl)) rfl) (mvT hZ (Wd hw 183 rfl)) (mvT hZ (Wd hw 181 rfl)) (by decide) (backOf (W := 0) (rmPut l Z a0 hw [] cS aDE kDE aUS aSS aIE mO a0b kc a1s y ky bs kc av kv nl vs h0 n0 O0 GL E_a0b F_value_a0b F_coder_a0b F_count_a0b V_y h16 g_y E_a1s F_value_a1s F_coder_a1s V_av hk0 hn0 hc.2) hZ (Wd hw 184 rfl) (Wd hw 142 rfl) (by decide) (by decide)) q5a q5c (g := mkF m 30 #[vr a0b, vr a1s, vi nl] [(.ref a1s), (.int kc), (.ref a0b)]) rfl (by rw [hml]; rfl) (Steps.refl _) (argsL := [(.int kc), (.ref a1s)]) (rest := []) (lenOf pdv9 rfl) rfl (by show 2 * 0 + _ ≤ _; exact lEq rfl) (dG hby D24 15 rfl) (fun _ _ => ⟨rfl, e4, (by decide : 0 + 0 ≤ _), (by decide : 0 + 0 ≤ _)⟩)
  dsimp only [Pt.U, Pt.locs, Pt.cells, Pt.slots] at X5 l5 y5 z5 st5 hQ5
  subst l5 y5 z5
  obtain ⟨bs2_5, rfl, N5q, Kc5, P5_0, P5_1⟩ := hQ5
  have K5 : Keep h0 T5.heap [a0b, y] := (Keep.refl h0 [a0b, y]).trans Kc5 (allS (Or.inl (List.mem_of_getElem? (i := 1) rfl)) all0)
  have O5 := O0.keep Kc5 (allS g_y all0)
  have N5 := Fr.app N3 N5q
  obtain ⟨T6, X6, e6, st6⟩ := getF X5 hx hZ hown (host := "") (Or.inl (Wd hw 173 rfl)) Via.refl rfl (F_count_a0b.keep Kc5 (ninS (Exa.neArv (a0 := a0) E_a0b V_y (Wd hw 133 rfl)) nin0)) (g := mkF m 35 #[vr a0b, vr a1s, vi nl] [(.ref a0b), (.ref a0b)]) rfl rfl (dG hby D24 18 rfl)
  obtain ⟨T7, h7, X7, e7, W7, st7⟩ := putF X6 hx hZ hown (host := "") (Or.inl (Wd hw 173 rfl)) Via.refl e6 (F_count_a0b.keep Kc5 (ninS (Exa.neArv (a0 := a0) E_a0b V_y (Wd hw 133 rfl)) nin0)) (E_a0b.keep Kc5) (Or.inl (Wd hw 174 rfl)) (Wd hw 133 rfl) (ty := .int) (by decide) rfl rfl (g := mkF m 40 #[vr a0b, vr a1s, vi nl] [(.int (kc + nl)), (.ref a0b)]) rfl rfl (dG hby D24 21 rfl)
  have Fw7 := (F_count_a0b.keep Kc5 (ninS (Exa.neArv (a0 := a0) E_a0b V_y (Wd hw 133 rfl)) nin0)).same W7
  have K7 : Keep h0 h7 [a0b, y] := K5.wr W7 (Or.inl (List.mem_of_getElem? (i := 0) rfl))
  have O7 := O5.wr W7 g_a0b
  have N7 := Fr.snoc X7 N5 g_a0b
  obtain ⟨fs, hr, hrun, hended, hW, hsame⟩ := X7.leave (v := some (.ref a0b)) (fun h => by rw [Bd.returns] at h; cases h)
  refine ⟨_, _, pre0 _ ?_, hrun, hended, _, _, rfl, ?_, ⟨_, rfl⟩, hW, hsame.mono (by decide) (by decide)⟩
  · show SP p e below s₁ m 0 #[vr a0b, vr a1s, .unset] [] _
    refine XS.aloadN X0.here hx rfl (dG hby D24 0 rfl) rfl rfl ?_
    refine XS.ifnonnullYes X0.here hx rfl (pc0 := 1) (pc' := 9) rfl (dG hby D24 1 rfl) rfl (by decide) (by decide) ?_
    refine XS.aloadN X0.here hx rfl (dG hby D24 2 rfl) rfl rfl ?_
    show SP p e below s₁ m 10 #[vr a0b, vr a1s, .unset] [(.ref a1s)] _
    refine st1.trans ?_
    show SP p e below T1 m 13 #[vr a0b, vr a1s, .unset] [(.int nl)] _
    refine XS.istoreN X1.here hx rfl (dG hby D24 4 rfl) rfl (l' := #[vr a0b, vr a1s, vi nl]) rfl ?_
    refine XS.aloadN X1.here hx rfl (dG hby D24 5 rfl) rfl rfl ?_
    refine XS.aloadN X1.here hx rfl (dG hby D24 6 rfl) rfl rfl ?_
    show SP p e below T1 m 16 #[vr a0b, vr a1s, vi nl] [(.ref a0b), (.ref a0b)] _
    refine st2 _ ?_
    show SP p e below T2 m 19 #[vr a0b, vr a1s, vi nl] [(.int kc), (.ref a0b)] _
    refine XS.iloadN X2.here hx rfl (dG hby D24 8 rfl) rfl ?_
    refine XS.iadd X2.here hx rfl (dG hby D24 9 rfl) rfl ?_
    show SP p e below T2 m 21 #[vr a0b, vr a1s, vi nl] [(.int (kc + nl)), (.ref a0b)] _
    refine st3.trans ?_
    show SP p e below T3 m 24 #[vr a0b, vr a1s, vi nl] [] _
    refine XS.aloadN X3.here hx rfl (dG hby D24 11 rfl) rfl rfl ?_
    refine XS.aloadN X3.here hx rfl (dG hby D24 12 rfl) rfl rfl ?_
    show SP p e below T3 m 26 #[vr a0b, vr a1s, vi nl] [(.ref a0b), (.ref a0b)] _
    refine st4 _ ?_
    show SP p e below T4 m 29 #[vr a0b, vr a1s, vi nl] [(.int kc), (.ref a0b)] _
    refine XS.aloadN X4.here hx rfl (dG hby D24 14 rfl) rfl rfl ?_
    show SP p e below T4 m 30 #[vr a0b, vr a1s, vi nl] [(.ref a1s), (.int kc), (.ref a0b)] _
    refine st5.trans ?_
    show SP p e below T5 m 33 #[vr a0b, vr a1s, vi nl] [] _
    refine XS.aloadN X5.here hx rfl (dG hby D24 16 rfl) rfl rfl ?_
    refine XS.dup X5.here hx rfl (dG hby D24 17 rfl) rfl rfl ?_
    show SP p e below T5 m 35 #[vr a0b, vr a1s, vi nl] [(.ref a0b), (.ref a0b)] _
    refine st6 _ ?_
    show SP p e below T6 m 38 #[vr a0b, vr a1s, vi nl] [(.int kc), (.ref a0b)] _
    refine XS.iloadN X6.here hx rfl (dG hby D24 19 rfl) rfl ?_
    refine XS.iadd X6.here hx rfl (dG hby D24 20 rfl) rfl ?_
    show SP p e below T6 m 40 #[vr a0b, vr a1s, vi nl] [(.int (kc + nl)), (.ref a0b)] _
    refine st7 _ ?_
    show SP p e below T7 m 43 #[vr a0b, vr a1s, vi nl] [] _
    refine XS.aloadN X7.here hx rfl (dG hby D24 22 rfl) rfl rfl ?_
    show SP p e below T7 m 44 #[vr a0b, vr a1s, vi nl] [(.ref a0b)] _
    exact retA X7 hx Bd.returns rfl (dG hby D24 23 rfl) hr
  · show Q_rmAp n0 Z cS aDE kDE aUS aSS aIE mO a0b a1s y ky bs kc av kv nl vs h0 _ T7.heap _
    rw [e7]
    exact ⟨bs2_5, rfl, N7, K7, ((E_a0b.keep Kc5).wr W7), ((F_value_a0b.keep Kc5 (ninS (Exa.neArv (a0 := a0) E_a0b V_y (Wd hw 133 rfl)) nin0)).other W7 (Or.inr (slot_ne (a0 := a0) (Or.inl (Wd hw 147 rfl)) (Or.inl (Wd hw 174 rfl)) (by decide) (t := (.array .byte)) (t' := .int) (by decide) (by decide)))), ((F_coder_a0b.keep Kc5 (ninS (Exa.neArv (a0 := a0) E_a0b V_y (Wd hw 133 rfl)) nin0)).other W7 (Or.inr (slot_ne (a0 := a0) (Or.inl (Wd hw 149 rfl)) (Or.inl (Wd hw 174 rfl)) (by decide) (t := .byte) (t' := .int) (by decide) (by decide)))), Fw7, (P5_0.other W7 (Ne.symm (Exa.neArv (a0 := a0) E_a0b V_y (Wd hw 133 rfl)))), P5_1⟩
theorem D23 : dL jdk_67_method_7_code [(0, .aload_n 0, 1), (1, .aload_n 1, 1), (2, .invokespecial 29, 3), (5, .pop, 1), (6, .aload_n 0, 1), (7, .areturn, 1)] = true := by decide +kernel
theorem pdv10 : parseMethodDescriptor "(Ljava/lang/String;)Ljava/lang/AbstractStringBuilder;" = some ⟨[(.object "java/lang/String")], some (.object "java/lang/AbstractStringBuilder")⟩ := by decide +kernel
abbrev MN_15 : MethodName := ⟨"java/lang/StringBuilder", "append", "(Ljava/lang/String;)Ljava/lang/StringBuilder;"⟩
def Q_rmApp (n0 : Nat) (Z : State) (cS : Int32) (aDE : Addr) (kDE : ClassId) (aUS : Addr) (aSS : Addr) (aIE : Addr) (mO : Addr) (a0b : Addr) (a1s : Addr) (y : Addr) (ky : ClassId) (bs : List Value) (kc : Int32) (av : Addr) (kv : ClassId) (nl : Int32) (vs : List Value) (h0 : Heap) (v : Option Value) (h : Heap) (L : List Loc) : Prop := ∃ bs2 : List Value, v = some (.ref a0b) ∧ Fr n0 L ∧ Keep h0 h [a0b, y] ∧ (Exa Z h a0b "java/lang/StringBuilder") ∧ (Fld Z h a0b "java/lang/AbstractStringBuilder" "value" "[B" (.ref y)) ∧ (Fld Z h a0b "java/lang/AbstractStringBuilder" "coder" "B" (.int 0)) ∧ (Fld Z h a0b "java/lang/AbstractStringBuilder" "count" "I" (.int (kc + nl))) ∧ (Arv Z h y ky .byte (16 : Int32) bs2 (.int 0)) ∧ (bs2.length = 16)
theorem rmApp (l : Launch) (Z : State) (a0 : Array Value) (hw : ∀ d ∈ tables_1, d.before a0 Z = true) (ws : List Jvm.Cond) (cS : Int32) (aDE : Addr) (kDE : ClassId) (aUS : Addr) (aSS : Addr) (aIE : Addr) (mO : Addr) (a0b : Addr) (a1s : Addr) (y : Addr) (ky : ClassId) (bs : List Value) (kc : Int32) (av : Addr) (kv : ClassId) (nl : Int32) (vs : List Value) (h0 : Heap) (n0 : Nat) (O0 : Old Z n0 h0) (GL : GF Z cS aDE kDE aUS aSS aIE mO) (E_a0b : Exa Z h0 a0b "java/lang/StringBuilder") (F_value_a0b : Fld Z h0 a0b "java/lang/AbstractStringBuilder" "value" "[B" (.ref y)) (F_coder_a0b : Fld Z h0 a0b "java/lang/AbstractStringBuilder" "coder" "B" (.int 0)) (F_count_a0b : Fld Z h0 a0b "java/lang/AbstractStringBuilder" "count" "I" (.int kc)) (V_y : Arv Z h0 y ky .byte (16 : Int32) bs (.int 0)) (h16 : bs.length = 16) (g_a0b : n0 ≤ a0b) (g_y : n0 ≤ y) (E_a1s : Exa Z h0 a1s "java/lang/String") (F_value_a1s : Fld Z h0 a1s "java/lang/String" "value" "[B" (.ref av)) (F_coder_a1s : Fld Z h0 a1s "java/lang/String" "coder" "B" (.int 0)) (V_av : Arv Z h0 av kv .byte nl vs (.int 0)) (hk0 : ¬ (kc < (0 : Int32))) (hk1 : ¬ ((14 : Int32) < kc)) (hn0 : ¬ (nl < (0 : Int32))) (hn1 : ¬ ((2 : Int32) < nl)) :
    MF l MN_15 jdk_67_method_7_code 2 (some (.object "java/lang/StringBuilder")) ws (Rm 4 0 0 61) #[(.ref a0b), (.ref a1s)] Z h0 (Q_rmApp n0 Z cS aDE kDE aUS aSS aIE mO a0b a1s y ky bs kc av kv nl vs h0) := by
  refine MetFree.of_bodySF (plainFor_of_name pnv3) hisR ?_
  intro p e s m args below meth c s₁ Bd hml0 hP hK
  obtain ⟨rfl, hZ, hh⟩ := hP
  have hx := Bd.exec
  have hby := Bd.bytes
  have hml : c.maxLocals = 2 := hml0
  have hown : s.vm.findClass "java/lang/StringBuilder" = some m.cls := findClass_of_methodNamed Bd.named
  have hnm := (name_of_methodNamed Bd.named Bd.method).1
  have X0 : Stand p l e (Rm 4 0 0 61) s m #[(.ref a0b), (.ref a1s)] below meth c s₁ [] 0 0 := Stand.of_body Bd
  have e0 : s₁.heap = h0 := by rw [← hh, Bd.state]; rfl
  have N0 := Fr.nil n0
  have pre0 : ∀ t, SP p e below s₁ m 0 #[vr a0b, vr a1s] [] t → Steps p.tables e below (s₁.setTop (entryFrame m #[(.ref a0b), (.ref a1s)] 2)) t := fun t k => castTop (ef_rmInf m a0b a1s) k
  have GL' := GL
  obtain ⟨GCS, GCP, GDE, GVE, GUS, GSS, GIE, GMO⟩ := GL'
  obtain ⟨_, _, ⟨T1, L1, k1, n1⟩, -, X1, ⟨Lc1, hQ1, l1, y1, z1⟩, st1⟩ := superBack X0 hx hZ (y := MN_14) hown (Wd hw 155 rfl) (own_same (Wd hw 156 rfl) (Wd hw 178 rfl) rfl (by decide)) (Wd hw 156 rfl) (Wd hw 157 rfl) (by decide) (backOf (W := 0) (rmAp l Z a0 hw [] cS aDE kDE aUS aSS aIE mO a0b a1s y ky bs kc av kv nl vs h0 n0 O0 GL E_a0b F_value_a0b F_coder_a0b F_count_a0b V_y h16 g_a0b g_y E_a1s F_value_a1s F_coder_a1s V_av hk0 hk1 hn0 hn1) hZ (Wd hw 159 rfl) (Wd hw 142 rfl) (by decide) (by decide)) e0 (Ins.self E_a0b) (g := mkF m 2 #[vr a0b, vr a1s] [(.ref a1s), (.ref a0b)]) rfl (by rw [hml]; rfl) (Wd hw 159 rfl) (argsL := [(.ref a1s)]) (rest := []) (lenOf pdv10 rfl) rfl (by show 2 * 0 + _ ≤ _; exact lEq rfl) (dG hby D23 2 rfl) (fun _ _ => ⟨rfl, e0, (by decide : 0 + 0 ≤ _), (by decide : 0 + 0 ≤ _)⟩)
  dsimp only [Pt.U, Pt.locs, Pt.cells, Pt.slots] at X1 l1 y1 z1 st1 hQ1
  subst l1 y1 z1
  obtain ⟨bs2_1, rfl, N1q, Kc1, P1_0, P1_1, P1_2, P1_3, P1_4, P1_5⟩ := hQ1
  have K1 : Keep h0 T1.heap [a0b, y] := (Keep.refl h0 [a0b, y]).trans Kc1 (allS (Or.inl (List.mem_of_getElem? (i := 0) rfl)) (allS (Or.inl (List.mem_of_getElem? (i := 1) rfl)) all0))
  have O1 := O0.keep Kc1 (allS g_a0b (allS g_y all0))
  have N1 := Fr.app N0 N1q
  obtain ⟨fs, hr, hrun, hended, hW, hsame⟩ := X1.leave (v := some (.ref a0b)) (fun h => by rw [Bd.returns] at h; cases h)
  refine ⟨_, _, pre0 _ ?_, hrun, hended, _, _, rfl, ?_, ⟨_, rfl⟩, hW, hsame.mono (by decide) (by decide)⟩
  · show SP p e below s₁ m 0 #[vr a0b, vr a1s] [] _
    refine XS.aloadN X0.here hx rfl (dG hby D23 0 rfl) rfl rfl ?_
    refine XS.aloadN X0.here hx rfl (dG hby D23 1 rfl) rfl rfl ?_
    show SP p e below s₁ m 2 #[vr a0b, vr a1s] [(.ref a1s), (.ref a0b)] _
    refine st1.trans ?_
    show SP p e below T1 m 5 #[vr a0b, vr a1s] [(.ref a0b)] _
    refine XS.pop X1.here hx rfl (dG hby D23 3 rfl) rfl rfl ?_
    refine XS.aloadN X1.here hx rfl (dG hby D23 4 rfl) rfl rfl ?_
    show SP p e below T1 m 7 #[vr a0b, vr a1s] [(.ref a0b)] _
    exact retA X1 hx Bd.returns rfl (dG hby D23 5 rfl) hr
  · show Q_rmApp n0 Z cS aDE kDE aUS aSS aIE mO a0b a1s y ky bs kc av kv nl vs h0 _ T1.heap _
    exact ⟨bs2_1, rfl, N1, K1, P1_0, P1_1, P1_2, P1_3, P1_4, P1_5⟩
theorem D34 : dL jdk_68_method_64_code [(0, .aload_n 0, 1), (1, .getfield 15, 3), (4, .areturn, 1)] = true := by decide +kernel
abbrev MN_16 : MethodName := ⟨"java/lang/AbstractStringBuilder", "getValue", "()[B"⟩
def Q_rmGv (n0 : Nat) (Z : State) (cS : Int32) (aDE : Addr) (kDE : ClassId) (aUS : Addr) (aSS : Addr) (aIE : Addr) (mO : Addr) (a0b : Addr) (y : Addr) (h0 : Heap) (v : Option Value) (h : Heap) (L : List Loc) : Prop := v = some (.ref y) ∧ Fr n0 L ∧ h = h0
theorem rmGv (l : Launch) (Z : State) (a0 : Array Value) (hw : ∀ d ∈ tables_1, d.before a0 Z = true) (ws : List Jvm.Cond) (cS : Int32) (aDE : Addr) (kDE : ClassId) (aUS : Addr) (aSS : Addr) (aIE : Addr) (mO : Addr) (a0b : Addr) (y : Addr) (h0 : Heap) (n0 : Nat) (O0 : Old Z n0 h0) (GL : GF Z cS aDE kDE aUS aSS aIE mO) (E_a0b : Exa Z h0 a0b "java/lang/StringBuilder") (F_value_a0b : Fld Z h0 a0b "java/lang/AbstractStringBuilder" "value" "[B" (.ref y)) :
    MF l MN_16 jdk_68_method_64_code 1 (some (.array .byte)) ws (Rm 0 0 0 0) #[(.ref a0b)] Z h0 (Q_rmGv n0 Z cS aDE kDE aUS aSS aIE mO a0b y h0) := by
  refine MetFree.of_bodySF (plainFor_of_name pnv2) hisR ?_
  intro p e s m args below meth c s₁ Bd hml0 hP hK
  obtain ⟨rfl, hZ, hh⟩ := hP
  have hx := Bd.exec
  have hby := Bd.bytes
  have hml : c.maxLocals = 1 := hml0
  have hown : s.vm.findClass "java/lang/AbstractStringBuilder" = some m.cls := findClass_of_methodNamed Bd.named
  have hnm := (name_of_methodNamed Bd.named Bd.method).1
  have X0 : Stand p l e (Rm 0 0 0 0) s m #[(.ref a0b)] below meth c s₁ [] 0 0 := Stand.of_body Bd
  have e0 : s₁.heap = h0 := by rw [← hh, Bd.state]; rfl
  have N0 := Fr.nil n0
  have pre0 : ∀ t, SP p e below s₁ m 0 #[vr a0b] [] t → Steps p.tables e below (s₁.setTop (entryFrame m #[(.ref a0b)] 1)) t := fun t k => castTop (ef_rmSb m a0b) k
  have GL' := GL
  obtain ⟨GCS, GCP, GDE, GVE, GUS, GSS, GIE, GMO⟩ := GL'
  obtain ⟨T1, X1, e1, st1⟩ := getF X0 hx hZ hown (host := "") (Or.inl (Wd hw 146 rfl)) Via.refl e0 F_value_a0b (g := mkF m 1 #[vr a0b] [(.ref a0b)]) rfl rfl (dG hby D34 1 rfl)
  obtain ⟨fs, hr, hrun, hended, hW, hsame⟩ := X1.leave (v := some (.ref y)) (fun h => by rw [Bd.returns] at h; cases h)
  refine ⟨_, _, pre0 _ ?_, hrun, hended, _, _, rfl, ?_, ⟨_, rfl⟩, hW, hsame.mono (by decide) (by decide)⟩
  · show SP p e below s₁ m 0 #[vr a0b] [] _
    refine XS.aloadN X0.here hx rfl (dG hby D34 0 rfl) rfl rfl ?_
    show SP p e below s₁ m 1 #[vr a0b] [(.ref a0b)] _
    refine st1 _ ?_
    show SP p e below T1 m 4 #[vr a0b] [(.ref y)] _
    exact retA X1 hx Bd.returns rfl (dG hby D34 2 rfl) hr
  · show Q_rmGv n0 Z cS aDE kDE aUS aSS aIE mO a0b y h0 _ T1.heap _
    rw [e1]
    exact ⟨rfl, N0, rfl⟩
theorem D36 : dL jdk_68_method_6_code [(0, .aload_n 0, 1), (1, .getfield 79, 3), (4, .ireturn, 1)] = true := by decide +kernel
abbrev MN_17 : MethodName := ⟨"java/lang/AbstractStringBuilder", "length", "()I"⟩
def Q_rmAl (n0 : Nat) (Z : State) (cS : Int32) (aDE : Addr) (kDE : ClassId) (aUS : Addr) (aSS : Addr) (aIE : Addr) (mO : Addr) (a0b : Addr) (kc : Int32) (h0 : Heap) (v : Option Value) (h : Heap) (L : List Loc) : Prop := v = some (.int kc) ∧ Fr n0 L ∧ h = h0
theorem rmAl (l : Launch) (Z : State) (a0 : Array Value) (hw : ∀ d ∈ tables_1, d.before a0 Z = true) (ws : List Jvm.Cond) (cS : Int32) (aDE : Addr) (kDE : ClassId) (aUS : Addr) (aSS : Addr) (aIE : Addr) (mO : Addr) (a0b : Addr) (kc : Int32) (h0 : Heap) (n0 : Nat) (O0 : Old Z n0 h0) (GL : GF Z cS aDE kDE aUS aSS aIE mO) (E_a0b : Exa Z h0 a0b "java/lang/StringBuilder") (F_count_a0b : Fld Z h0 a0b "java/lang/AbstractStringBuilder" "count" "I" (.int kc)) :
    MF l MN_17 jdk_68_method_6_code 1 (some .int) ws (Rm 0 0 0 0) #[(.ref a0b)] Z h0 (Q_rmAl n0 Z cS aDE kDE aUS aSS aIE mO a0b kc h0) := by
  refine MetFree.of_bodySF (plainFor_of_name pnv2) hisR ?_
  intro p e s m args below meth c s₁ Bd hml0 hP hK
  obtain ⟨rfl, hZ, hh⟩ := hP
  have hx := Bd.exec
  have hby := Bd.bytes
  have hml : c.maxLocals = 1 := hml0
  have hown : s.vm.findClass "java/lang/AbstractStringBuilder" = some m.cls := findClass_of_methodNamed Bd.named
  have hnm := (name_of_methodNamed Bd.named Bd.method).1
  have X0 : Stand p l e (Rm 0 0 0 0) s m #[(.ref a0b)] below meth c s₁ [] 0 0 := Stand.of_body Bd
  have e0 : s₁.heap = h0 := by rw [← hh, Bd.state]; rfl
  have N0 := Fr.nil n0
  have pre0 : ∀ t, SP p e below s₁ m 0 #[vr a0b] [] t → Steps p.tables e below (s₁.setTop (entryFrame m #[(.ref a0b)] 1)) t := fun t k => castTop (ef_rmSb m a0b) k
  have GL' := GL
  obtain ⟨GCS, GCP, GDE, GVE, GUS, GSS, GIE, GMO⟩ := GL'
  obtain ⟨T1, X1, e1, st1⟩ := getF X0 hx hZ hown (host := "") (Or.inl (Wd hw 173 rfl)) Via.refl e0 F_count_a0b (g := mkF m 1 #[vr a0b] [(.ref a0b)]) rfl rfl (dG hby D36 1 rfl)
  obtain ⟨fs, hr, hrun, hended, hW, hsame⟩ := X1.leave (v := some (.int kc)) (fun h => by rw [Bd.returns] at h; cases h)
  refine ⟨_, _, pre0 _ ?_, hrun, hended, _, _, rfl, ?_, ⟨_, rfl⟩, hW, hsame.mono (by decide) (by decide)⟩
  · show SP p e below s₁ m 0 #[vr a0b] [] _
    refine XS.aloadN X0.here hx rfl (dG hby D36 0 rfl) rfl rfl ?_
    show SP p e below s₁ m 1 #[vr a0b] [(.ref a0b)] _
    refine st1 _ ?_
    show SP p e below T1 m 4 #[vr a0b] [(.int kc)] _
    exact retI X1 hx Bd.returns (dG hby D36 2 rfl) hr
  · show Q_rmAl n0 Z cS aDE kDE aUS aSS aIE mO a0b kc h0 _ T1.heap _
    rw [e1]
    exact ⟨rfl, N0, rfl⟩
theorem D35 : dL jdk_67_method_93_code [(0, .aload_n 0, 1), (1, .invokespecial 343, 3), (4, .ireturn, 1)] = true := by decide +kernel
abbrev MN_18 : MethodName := ⟨"java/lang/StringBuilder", "length", "()I"⟩
def Q_rmSl (n0 : Nat) (Z : State) (cS : Int32) (aDE : Addr) (kDE : ClassId) (aUS : Addr) (aSS : Addr) (aIE : Addr) (mO : Addr) (a0b : Addr) (kc : Int32) (h0 : Heap) (v : Option Value) (h : Heap) (L : List Loc) : Prop := v = some (.int kc) ∧ Fr n0 L ∧ h = h0
theorem rmSl (l : Launch) (Z : State) (a0 : Array Value) (hw : ∀ d ∈ tables_1, d.before a0 Z = true) (ws : List Jvm.Cond) (cS : Int32) (aDE : Addr) (kDE : ClassId) (aUS : Addr) (aSS : Addr) (aIE : Addr) (mO : Addr) (a0b : Addr) (kc : Int32) (h0 : Heap) (n0 : Nat) (O0 : Old Z n0 h0) (GL : GF Z cS aDE kDE aUS aSS aIE mO) (E_a0b : Exa Z h0 a0b "java/lang/StringBuilder") (F_count_a0b : Fld Z h0 a0b "java/lang/AbstractStringBuilder" "count" "I" (.int kc)) :
    MF l MN_18 jdk_67_method_93_code 1 (some .int) ws (Rm 1 0 0 12) #[(.ref a0b)] Z h0 (Q_rmSl n0 Z cS aDE kDE aUS aSS aIE mO a0b kc h0) := by
  refine MetFree.of_bodySF (plainFor_of_name pnv3) hisR ?_
  intro p e s m args below meth c s₁ Bd hml0 hP hK
  obtain ⟨rfl, hZ, hh⟩ := hP
  have hx := Bd.exec
  have hby := Bd.bytes
  have hml : c.maxLocals = 1 := hml0
  have hown : s.vm.findClass "java/lang/StringBuilder" = some m.cls := findClass_of_methodNamed Bd.named
  have hnm := (name_of_methodNamed Bd.named Bd.method).1
  have X0 : Stand p l e (Rm 1 0 0 12) s m #[(.ref a0b)] below meth c s₁ [] 0 0 := Stand.of_body Bd
  have e0 : s₁.heap = h0 := by rw [← hh, Bd.state]; rfl
  have N0 := Fr.nil n0
  have pre0 : ∀ t, SP p e below s₁ m 0 #[vr a0b] [] t → Steps p.tables e below (s₁.setTop (entryFrame m #[(.ref a0b)] 1)) t := fun t k => castTop (ef_rmSb m a0b) k
  have GL' := GL
  obtain ⟨GCS, GCP, GDE, GVE, GUS, GSS, GIE, GMO⟩ := GL'
  obtain ⟨_, _, ⟨T1, L1, k1, n1⟩, -, X1, ⟨Lc1, hQ1, l1, y1, z1⟩, st1⟩ := superBack X0 hx hZ (y := MN_17) hown (Wd hw 226 rfl) (own_same (Wd hw 222 rfl) (Wd hw 178 rfl) rfl (by decide)) (Wd hw 222 rfl) (Wd hw 157 rfl) (by decide) (backOf (W := 0) (rmAl l Z a0 hw [] cS aDE kDE aUS aSS aIE mO a0b kc h0 n0 O0 GL E_a0b F_count_a0b) hZ (Wd hw 227 rfl) (Wd hw 142 rfl) (by decide) (by decide)) e0 (Ins.self E_a0b) (g := mkF m 1 #[vr a0b] [(.ref a0b)]) rfl (by rw [hml]; rfl) (Wd hw 227 rfl) (argsL := []) (rest := []) (lenOf pdv8 rfl) rfl (by show 2 * 0 + _ ≤ _; exact lEq rfl) (dG hby D35 1 rfl) (fun _ _ => ⟨rfl, e0, (by decide : 0 + 0 ≤ _), (by decide : 0 + 0 ≤ _)⟩)
  dsimp only [Pt.U, Pt.locs, Pt.cells, Pt.slots] at X1 l1 y1 z1 st1 hQ1
  subst l1 y1 z1
  obtain ⟨rfl, N1q, e1⟩ := hQ1
  have N1 := Fr.app N0 N1q
  obtain ⟨fs, hr, hrun, hended, hW, hsame⟩ := X1.leave (v := some (.int kc)) (fun h => by rw [Bd.returns] at h; cases h)
  refine ⟨_, _, pre0 _ ?_, hrun, hended, _, _, rfl, ?_, ⟨_, rfl⟩, hW, hsame.mono (by decide) (by decide)⟩
  · show SP p e below s₁ m 0 #[vr a0b] [] _
    refine XS.aloadN X0.here hx rfl (dG hby D35 0 rfl) rfl rfl ?_
    show SP p e below s₁ m 1 #[vr a0b] [(.ref a0b)] _
    refine st1.trans ?_
    show SP p e below T1 m 4 #[vr a0b] [(.int kc)] _
    exact retI X1 hx Bd.returns (dG hby D35 2 rfl) hr
  · show Q_rmSl n0 Z cS aDE kDE aUS aSS aIE mO a0b kc h0 _ T1.heap _
    rw [e1]
    exact ⟨rfl, N1, rfl⟩
theorem D37 : dL jdk_68_method_68_code [(0, .getstatic 18, 3), (3, .ifCond .eq 14, 3), (6, .aload_n 0, 1), (7, .getfield 22, 3), (10, .ifCond .ne 7, 3), (13, .iconst 1, 1), (14, .goto 4, 3), (18, .ireturn, 1)] = true := by decide +kernel
abbrev MN_19 : MethodName := ⟨"java/lang/AbstractStringBuilder", "isLatin1", "()Z"⟩
def Q_rmIl (n0 : Nat) (Z : State) (cS : Int32) (aDE : Addr) (kDE : ClassId) (aUS : Addr) (aSS : Addr) (aIE : Addr) (mO : Addr) (a0b : Addr) (h0 : Heap) (v : Option Value) (h : Heap) (L : List Loc) : Prop := v = some (.int 1) ∧ Fr n0 L ∧ h = h0
theorem rmIl (l : Launch) (Z : State) (a0 : Array Value) (hw : ∀ d ∈ tables_1, d.before a0 Z = true) (ws : List Jvm.Cond) (cS : Int32) (aDE : Addr) (kDE : ClassId) (aUS : Addr) (aSS : Addr) (aIE : Addr) (mO : Addr) (a0b : Addr) (h0 : Heap) (n0 : Nat) (O0 : Old Z n0 h0) (GL : GF Z cS aDE kDE aUS aSS aIE mO) (F_coder_a0b : Fld Z h0 a0b "java/lang/AbstractStringBuilder" "coder" "B" (.int 0)) :
    MF l MN_19 jdk_68_method_68_code 1 (some .boolean) ws (Rm 0 0 0 0) #[(.ref a0b)] Z h0 (Q_rmIl n0 Z cS aDE kDE aUS aSS aIE mO a0b h0) := by
  refine MetFree.of_bodySF (plainFor_of_name pnv2) hisR ?_
  intro p e s m args below meth c s₁ Bd hml0 hP hK
  obtain ⟨rfl, hZ, hh⟩ := hP
  have hx := Bd.exec
  have hby := Bd.bytes
  have hml : c.maxLocals = 1 := hml0
  have hown : s.vm.findClass "java/lang/AbstractStringBuilder" = some m.cls := findClass_of_methodNamed Bd.named
  have hnm := (name_of_methodNamed Bd.named Bd.method).1
  have X0 : Stand p l e (Rm 0 0 0 0) s m #[(.ref a0b)] below meth c s₁ [] 0 0 := Stand.of_body Bd
  have e0 : s₁.heap = h0 := by rw [← hh, Bd.state]; rfl
  have N0 := Fr.nil n0
  have pre0 : ∀ t, SP p e below s₁ m 0 #[vr a0b] [] t → Steps p.tables e below (s₁.setTop (entryFrame m #[(.ref a0b)] 1)) t := fun t k => castTop (ef_rmSb m a0b) k
  have GL' := GL
  obtain ⟨GCS, GCP, GDE, GVE, GUS, GSS, GIE, GMO⟩ := GL'
  obtain ⟨T1, X1, e1, st1⟩ := getS2 X0 hx hZ hown (host := "") (Or.inl (Wd hw 145 rfl)) Via.refl e0 (GCS.ext O0.2) (g := mkF m 0 #[vr a0b] []) rfl (dG hby D37 0 rfl)
  obtain ⟨T2, X2, e2, st2⟩ := getF X1 hx hZ hown (host := "") (Or.inl (Wd hw 148 rfl)) Via.refl e1 F_coder_a0b (g := mkF m 7 #[vr a0b] [(.ref a0b)]) rfl rfl (dG hby D37 3 rfl)
  obtain ⟨fs, hr, hrun, hended, hW, hsame⟩ := X2.leave (v := some (.int 1)) (fun h => by rw [Bd.returns] at h; cases h)
  refine ⟨_, _, pre0 _ ?_, hrun, hended, _, _, rfl, ?_, ⟨_, rfl⟩, hW, hsame.mono (by decide) (by decide)⟩
  · show SP p e below s₁ m 0 #[vr a0b] [] _
    refine st1 _ ?_
    show SP p e below T1 m 3 #[vr a0b] [(.int cS)] _
    refine XS.ifNo X1.here hx rfl (dG hby D37 1 rfl) rfl ((if0 _ _).trans (feq GCP).1) ?_
    refine XS.aloadN X1.here hx rfl (dG hby D37 2 rfl) rfl rfl ?_
    show SP p e below T1 m 7 #[vr a0b] [(.ref a0b)] _
    refine st2 _ ?_
    show SP p e below T2 m 10 #[vr a0b] [(.int 0)] _
    refine XS.ifNo X2.here hx rfl (dG hby D37 4 rfl) rfl ((if0 _ _).trans (teq (by decide : (0 : Int32) = (0 : Int32))).2) ?_
    refine XS.iconst X2.here hx rfl (dG hby D37 5 rfl) ?_
    refine XS.goto X2.here hx rfl (pc0 := 14) (pc' := 18) rfl (dG hby D37 6 rfl) (by decide) (by decide) ?_
    show SP p e below T2 m 18 #[vr a0b] [(.int 1)] _
    exact retN X2 hx (t := .boolean) Bd.returns (by simp) (dG hby D37 7 rfl) hr
  · show Q_rmIl n0 Z cS aDE kDE aUS aSS aIE mO a0b h0 _ T2.heap _
    rw [e2]
    exact ⟨rfl, N0, rfl⟩
theorem D40 : dL jdk_65_method_131_code [(0, .iload_n 1, 1), (1, .iload_n 0, 1), (2, .if_icmp .ge 35, 3), (37, .return_, 1)] = true := by decide +kernel
theorem pnv4 : plainName "java/util/Arrays" = true := by first | (simp [plainName, overriddenIn]; done) | decide +kernel
abbrev MN_20 : MethodName := ⟨"java/util/Arrays", "checkLength", "(II)V"⟩
theorem ef_rmCl (m : MethodId) (p1 : Int32) : entryFrame m #[(.int 0), (.int p1)] 2 = mkF m 0 #[vi (0 : Int32), vi p1] [] := by first | (simp [entryFrame, mkF, argsToLocals, Value.category]; done) | rfl
def Q_rmCl (n0 : Nat) (Z : State) (cS : Int32) (aDE : Addr) (kDE : ClassId) (aUS : Addr) (aSS : Addr) (aIE : Addr) (mO : Addr) (p1 : Int32) (h0 : Heap) (v : Option Value) (h : Heap) (L : List Loc) : Prop := v = none ∧ Fr n0 L ∧ h = h0
theorem rmCl (l : Launch) (Z : State) (a0 : Array Value) (hw : ∀ d ∈ tables_1, d.before a0 Z = true) (ws : List Jvm.Cond) (cS : Int32) (aDE : Addr) (kDE : ClassId) (aUS : Addr) (aSS : Addr) (aIE : Addr) (mO : Addr) (p1 : Int32) (h0 : Heap) (n0 : Nat) (O0 : Old Z n0 h0) (GL : GF Z cS aDE kDE aUS aSS aIE mO) (hp0 : ¬ (p1 < (0 : Int32))) :
    MF l MN_20 jdk_65_method_131_code 2 none ws (Rm 0 0 0 0) #[(.int 0), (.int p1)] Z h0 (Q_rmCl n0 Z cS aDE kDE aUS aSS aIE mO p1 h0) := by
  refine MetFree.of_bodySF (plainFor_of_name pnv4) hisR ?_
  intro p e s m args below meth c s₁ Bd hml0 hP hK
  obtain ⟨rfl, hZ, hh⟩ := hP
  have hx := Bd.exec
  have hby := Bd.bytes
  have hml : c.maxLocals = 2 := hml0
  have hown : s.vm.findClass "java/util/Arrays" = some m.cls := findClass_of_methodNamed Bd.named
  have hnm := (name_of_methodNamed Bd.named Bd.method).1
  have X0 : Stand p l e (Rm 0 0 0 0) s m #[(.int 0), (.int p1)] below meth c s₁ [] 0 0 := Stand.of_body Bd
  have e0 : s₁.heap = h0 := by rw [← hh, Bd.state]; rfl
  have N0 := Fr.nil n0
  have pre0 : ∀ t, SP p e below s₁ m 0 #[vi (0 : Int32), vi p1] [] t → Steps p.tables e below (s₁.setTop (entryFrame m #[(.int 0), (.int p1)] 2)) t := fun t k => castTop (ef_rmCl m p1) k
  have GL' := GL
  obtain ⟨GCS, GCP, GDE, GVE, GUS, GSS, GIE, GMO⟩ := GL'
  obtain ⟨fs, hr, hrun, hended, hW, hsame⟩ := X0.leave (v := none) (fun _ => rfl)
  refine ⟨_, _, pre0 _ ?_, hrun, hended, _, _, rfl, ?_, ⟨_, rfl⟩, hW, hsame.mono (by decide) (by decide)⟩
  · show SP p e below s₁ m 0 #[vi (0 : Int32), vi p1] [] _
    refine XS.iloadN X0.here hx rfl (dG hby D40 0 rfl) rfl ?_
    refine XS.iloadN X0.here hx rfl (dG hby D40 1 rfl) rfl ?_
    refine XS.icmpYes X0.here hx rfl (pc0 := 2) (pc' := 37) rfl (dG hby D40 2 rfl) rfl (flt hp0).2.1 (by decide) (by decide) ?_
    show SP p e below s₁ m 37 #[vi (0 : Int32), vi p1] [] _
    exact X0.returnOut hx Bd.returns (dG hby D40 3 rfl) hr
  · show Q_rmCl n0 Z cS aDE kDE aUS aSS aIE mO p1 h0 _ s₁.heap _
    rw [e0]
    exact ⟨rfl, N0, rfl⟩
theorem D39 : dL jdk_65_method_133_code [(0, .iload_n 1, 1), (1, .iload_n 2, 1), (2, .invokestatic 343, 3), (5, .iload_n 2, 1), (6, .iload_n 1, 1), (7, .isub, 1), (8, .istore_n 3, 1), (9, .iload_n 3, 1), (10, .newarray .byte, 2), (12, .astore 4, 2), (14, .aload_n 0, 1), (15, .iload_n 1, 1), (16, .aload 4, 2), (18, .iconst 0, 1), (19, .aload_n 0, 1), (20, .arraylength, 1), (21, .iload_n 1, 1), (22, .isub, 1), (23, .iload_n 3, 1), (24, .invokestatic 304, 3), (27, .invokestatic 150, 3), (30, .aload 4, 2), (32, .areturn, 1)] = true := by decide +kernel
theorem pdv11 : parseMethodDescriptor "(II)V" = some ⟨[.int, .int], none⟩ := by decide +kernel
theorem pdv12 : parseMethodDescriptor "(II)I" = some ⟨[.int, .int], some .int⟩ := by decide +kernel
abbrev MN_21 : MethodName := ⟨"java/util/Arrays", "copyOfRangeByte", "([BII)[B"⟩
theorem ef_rmCrb (m : MethodId) (a0d : Addr) (p2 : Int32) : entryFrame m #[(.ref a0d), (.int 0), (.int p2)] 5 = mkF m 0 #[vr a0d, vi (0 : Int32), vi p2, .unset, .unset] [] := by first | (simp [entryFrame, mkF, argsToLocals, Value.category]; done) | rfl
def Q_rmCrb (n0 : Nat) (Z : State) (cS : Int32) (aDE : Addr) (kDE : ClassId) (aUS : Addr) (aSS : Addr) (aIE : Addr) (mO : Addr) (a0d : Addr) (p2 : Int32) (ky : ClassId) (bs : List Value) (h0 : Heap) (v : Option Value) (h : Heap) (L : List Loc) : Prop := ∃ b : Addr, ∃ kb : ClassId, ∃ us : List Value, v = some (.ref b) ∧ Fr n0 L ∧ Keep h0 h [] ∧ (h0.size ≤ b) ∧ (Exa Z h b "[B") ∧ (Arv Z h b kb .byte p2 us (.int 0))
theorem rmCrb (l : Launch) (Z : State) (a0 : Array Value) (hw : ∀ d ∈ tables_1, d.before a0 Z = true) (ws : List Jvm.Cond) (cS : Int32) (aDE : Addr) (kDE : ClassId) (aUS : Addr) (aSS : Addr) (aIE : Addr) (mO : Addr) (a0d : Addr) (p2 : Int32) (ky : ClassId) (bs : List Value) (h0 : Heap) (n0 : Nat) (O0 : Old Z n0 h0) (GL : GF Z cS aDE kDE aUS aSS aIE mO) (V_a0d : Arv Z h0 a0d ky .byte (16 : Int32) bs (.int 0)) (hp0 : ¬ (p2 < (0 : Int32))) (hlt : p2 < (16 : Int32)) (hc6 : p2.toNatClampNeg ≤ 16) :
    MF l MN_21 jdk_65_method_133_code 5 (some (.array .byte)) ws (Rm 1 1 16 18) #[(.ref a0d), (.int 0), (.int p2)] Z h0 (Q_rmCrb n0 Z cS aDE kDE aUS aSS aIE mO a0d p2 ky bs h0) := by
  refine MetFree.of_bodySF (plainFor_of_name pnv4) hisR ?_
  intro p e s m args below meth c s₁ Bd hml0 hP hK
  obtain ⟨rfl, hZ, hh⟩ := hP
  have hx := Bd.exec
  have hby := Bd.bytes
  have hml : c.maxLocals = 5 := hml0
  have hown : s.vm.findClass "java/util/Arrays" = some m.cls := findClass_of_methodNamed Bd.named
  have hnm := (name_of_methodNamed Bd.named Bd.method).1
  have X0 : Stand p l e (Rm 1 1 16 18) s m #[(.ref a0d), (.int 0), (.int p2)] below meth c s₁ [] 0 0 := Stand.of_body Bd
  have e0 : s₁.heap = h0 := by rw [← hh, Bd.state]; rfl
  have N0 := Fr.nil n0
  have pre0 : ∀ t, SP p e below s₁ m 0 #[vr a0d, vi (0 : Int32), vi p2, .unset, .unset] [] t → Steps p.tables e below (s₁.setTop (entryFrame m #[(.ref a0d), (.int 0), (.int p2)] 5)) t := fun t k => castTop (ef_rmCrb m a0d p2) k
  have GL' := GL
  obtain ⟨GCS, GCP, GDE, GVE, GUS, GSS, GIE, GMO⟩ := GL'
  obtain ⟨_, _, ⟨T1, L1, k1, n1⟩, -, X1, ⟨Lc1, hQ1, l1, y1, z1⟩, st1⟩ := Jvm.LawKit.callS X0 hx (y := MN_20) hown (mvT hZ (Wd hw 240 rfl)) (mvT hZ (Wd hw 241 rfl)) (mvT hZ (Wd hw 235 rfl)) (mvT hZ (Wd hw 242 rfl)) (by decide) (backOf (W := 0) (rmCl l Z a0 hw [] cS aDE kDE aUS aSS aIE mO p2 h0 n0 O0 GL hp0) hZ (Wd hw 242 rfl) (Wd hw 235 rfl) (by decide) (by decide)) (g := mkF m 2 #[vr a0d, vi (0 : Int32), vi p2, .unset, .unset] [(.int p2), (.int 0)]) rfl (by rw [hml]; rfl) (argsL := [(.int 0), (.int p2)]) (rest := []) (lenOf pdv11 rfl) rfl (by show 2 * 0 + _ ≤ _; exact lEq rfl) (dG hby D39 2 rfl) (fun _ _ => ⟨rfl, e0, (by decide : 0 + 0 ≤ _), (by decide : 0 + 0 ≤ _)⟩)
  dsimp only [Pt.U, Pt.locs, Pt.cells, Pt.slots] at X1 l1 y1 z1 st1 hQ1
  subst l1 y1 z1
  obtain ⟨rfl, N1q, e1⟩ := hQ1
  have N1 := Fr.app N0 N1q
  obtain ⟨T2, h2, k2, X2, e2, E2, A2, A2', st2⟩ := newPE X1 hx hZ (Wd hw 8 rfl) e1 (g := mkF m 10 #[vr a0d, vi (0 : Int32), vi p2, vi p2, .unset] [(.int p2)]) rfl (dG hby D39 8 rfl) rfl hp0 (cap := 16) hc6 (by decide) (by decide) (by decide) (ad := "[B") rfl
  obtain ⟨b2, g2⟩ : ∃ z, z = h0.size := ⟨_, rfl⟩
  rw [← g2] at A2 A2' st2
  have g_b2 : n0 ≤ b2 := lTr (own_sz O0) (lEq g2.symm)
  have sz_b2 : h0.size ≤ b2 := lTr (Keep.refl h0 []).1 (lEq g2.symm)
  have K2 : Keep h0 h2 [] := (Keep.refl h0 []).ext E2
  have O2 := O0.ext E2
  have V_b2 : Arv Z h2 b2 k2 .byte p2 (List.replicate (p2).toNatClampNeg (.int 0)) (.int 0) := (Arv.new A2 hp0).pad (pad_rep [] (.int 0) (p2).toNatClampNeg)
  obtain ⟨cl3, Ar3, -, S3, N3_, -, -⟩ := id ((V_a0d.ext E2))
  obtain ⟨_, _, ⟨T4, L4, k4, n4⟩, -, X4, ⟨Lc4, hQ4, l4, y4, z4⟩, st4⟩ := Jvm.LawKit.callS X2 hx (y := MN_7) hown (mvT hZ (Wd hw 243 rfl)) (mvT hZ (Wd hw 244 rfl)) (mvT hZ (Wd hw 81 rfl)) (mvT hZ (Wd hw 245 rfl)) (by decide) (backOf (W := 4) (rmMin l Z a0 hw [] cS aDE kDE aUS aSS aIE mO ((16 : Int32)) p2 h2 n0 O2 GL hlt) hZ (Wd hw 245 rfl) (Wd hw 81 rfl) (by decide) (by decide)) (g := mkF m 24 #[vr a0d, vi (0 : Int32), vi p2, vi p2, vr b2] [(.int p2), (.int 16), (.int 0), (.ref b2), (.int 0), (.ref a0d)]) rfl (by rw [hml]; rfl) (argsL := [(.int 16), (.int p2)]) (rest := [(.int 0), (.ref b2), (.int 0), (.ref a0d)]) (lenOf pdv12 rfl) rfl (by show 2 * 0 + _ ≤ _; exact lEq rfl) (dG hby D39 19 rfl) (fun _ _ => ⟨rfl, e2, (by decide : 1 + 0 ≤ _), (by decide : 16 + 0 ≤ _)⟩)
  dsimp only [Pt.U, Pt.locs, Pt.cells, Pt.slots] at X4 l4 y4 z4 st4 hQ4
  subst l4 y4 z4
  obtain ⟨rfl, N4q, e4⟩ := hQ4
  have N4 := Fr.app N1 N4q
  obtain ⟨T5, h5, L5, X5, e5, N5, Kc5, V5, st5⟩ := cpA X4 hx hZ hown (Wd hw 246 rfl) (Wd hw 199 rfl) (Wd hw 197 rfl) (Wd hw 198 rfl) e4 (V_a0d.ext E2) V_b2 (us := ((List.range (p2).toNatClampNeg).map fun i => (bs).getD (((0 : Int32)).toNatClampNeg + i) (.int 0))) (Or.inl ⟨rfl, rfl⟩) (by decide) (by decide) hp0 (lTr (lEq (Nat.zero_add _)) hc6) (lEq (Nat.zero_add _)) rfl (by simp) N4 g_b2 (g := mkF m 27 #[vr a0d, vi (0 : Int32), vi p2, vi p2, vr b2] [(.int p2), (.int 0), (.ref b2), (.int 0), (.ref a0d)]) rfl (by rw [hml]; rfl) rfl (dG hby D39 20 rfl) (by decide) (W := 0) (by show 2 * 0 + _ ≤ _; exact lEq rfl) (by decide)
  have V5' : Arv Z h5 b2 k2 .byte p2 (List.take ((0 : Int32)).toNatClampNeg (List.replicate (p2).toNatClampNeg (.int 0)) ++ ((List.range (p2).toNatClampNeg).map fun i => (bs).getD (((0 : Int32)).toNatClampNeg + i) (.int 0)) ++ List.drop (((0 : Int32)).toNatClampNeg + (p2).toNatClampNeg) (List.replicate (p2).toNatClampNeg (.int 0))) (.int 0) := V5
  have K5 : Keep h0 h5 [] := K2.trans Kc5 (allS (Or.inr sz_b2) all0)
  have O5 := O2.keep Kc5 (allS g_b2 all0)
  obtain ⟨fs, hr, hrun, hended, hW, hsame⟩ := X5.leave (v := some (.ref b2)) (fun h => by rw [Bd.returns] at h; cases h)
  refine ⟨_, _, pre0 _ ?_, hrun, hended, _, _, rfl, ?_, ⟨_, rfl⟩, hW, hsame.mono (by decide) (by decide)⟩
  · show SP p e below s₁ m 0 #[vr a0d, vi (0 : Int32), vi p2, .unset, .unset] [] _
    refine XS.iloadN X0.here hx rfl (dG hby D39 0 rfl) rfl ?_
    refine XS.iloadN X0.here hx rfl (dG hby D39 1 rfl) rfl ?_
    show SP p e below s₁ m 2 #[vr a0d, vi (0 : Int32), vi p2, .unset, .unset] [(.int p2), (.int 0)] _
    refine st1 _ ?_
    show SP p e below T1 m 5 #[vr a0d, vi (0 : Int32), vi p2, .unset, .unset] [] _
    refine XS.iloadN X1.here hx rfl (dG hby D39 3 rfl) rfl ?_
    refine XS.iloadN X1.here hx rfl (dG hby D39 4 rfl) rfl ?_
    show SP p e below T1 m 7 #[vr a0d, vi (0 : Int32), vi p2, .unset, .unset] [(.int 0), (.int p2)] _
    refine XS.isub X1.here hx rfl (dG hby D39 5 rfl) rfl ?_
    rw [own_sub0 p2]
    show SP p e below T1 m 8 #[vr a0d, vi (0 : Int32), vi p2, .unset, .unset] [(.int p2)] _
    refine XS.istoreN X1.here hx rfl (dG hby D39 6 rfl) rfl (l' := #[vr a0d, vi (0 : Int32), vi p2, vi p2, .unset]) rfl ?_
    refine XS.iloadN X1.here hx rfl (dG hby D39 7 rfl) rfl ?_
    show SP p e below T1 m 10 #[vr a0d, vi (0 : Int32), vi p2, vi p2, .unset] [(.int p2)] _
    refine st2 _ ?_
    show SP p e below T2 m 12 #[vr a0d, vi (0 : Int32), vi p2, vi p2, .unset] [(.ref b2)] _
    refine XS.astore X2.here hx rfl (dG hby D39 9 rfl) rfl rfl (l' := #[vr a0d, vi (0 : Int32), vi p2, vi p2, vr b2]) rfl ?_
    refine XS.aloadN X2.here hx rfl (dG hby D39 10 rfl) rfl rfl ?_
    refine XS.iloadN X2.here hx rfl (dG hby D39 11 rfl) rfl ?_
    refine XS.aload X2.here hx rfl (dG hby D39 12 rfl) rfl rfl ?_
    refine XS.iconst X2.here hx rfl (dG hby D39 13 rfl) ?_
    refine XS.aloadN X2.here hx rfl (dG hby D39 14 rfl) rfl rfl ?_
    show SP p e below T2 m 20 #[vr a0d, vi (0 : Int32), vi p2, vi p2, vr b2] [(.ref a0d), (.int 0), (.ref b2), (.int 0), (.ref a0d)] _
    refine X2.arraylength hx (by rw [e2]; exact Ar3.1) (State.isArrayOf_alike hZ.alike Ar3.2.1) (g := mkF m 20 #[vr a0d, vi (0 : Int32), vi p2, vi p2, vr b2] [(.ref a0d), (.int 0), (.ref b2), (.int 0), (.ref a0d)]) rfl rfl (dG hby D39 15 rfl) _ ?_
    rw [len_of S3 N3_]
    show SP p e below T2 m 21 #[vr a0d, vi (0 : Int32), vi p2, vi p2, vr b2] [(.int 16), (.int 0), (.ref b2), (.int 0), (.ref a0d)] _
    refine XS.iloadN X2.here hx rfl (dG hby D39 16 rfl) rfl ?_
    refine XS.isub X2.here hx rfl (dG hby D39 17 rfl) rfl ?_
    refine XS.iloadN X2.here hx rfl (dG hby D39 18 rfl) rfl ?_
    show SP p e below T2 m 24 #[vr a0d, vi (0 : Int32), vi p2, vi p2, vr b2] [(.int p2), (.int 16), (.int 0), (.ref b2), (.int 0), (.ref a0d)] _
    refine st4 _ ?_
    show SP p e below T4 m 27 #[vr a0d, vi (0 : Int32), vi p2, vi p2, vr b2] [(.int p2), (.int 0), (.ref b2), (.int 0), (.ref a0d)] _
    refine st5 _ ?_
    show SP p e below T5 m 30 #[vr a0d, vi (0 : Int32), vi p2, vi p2, vr b2] [] _
    refine XS.aload X5.here hx rfl (dG hby D39 21 rfl) rfl rfl ?_
    show SP p e below T5 m 32 #[vr a0d, vi (0 : Int32), vi p2, vi p2, vr b2] [(.ref b2)] _
    exact retA X5 hx Bd.returns rfl (dG hby D39 22 rfl) hr
  · show Q_rmCrb n0 Z cS aDE kDE aUS aSS aIE mO a0d p2 ky bs h0 _ T5.heap _
    rw [e5]
    exact ⟨b2, k2, (List.take ((0 : Int32)).toNatClampNeg (List.replicate (p2).toNatClampNeg (.int 0)) ++ ((List.range (p2).toNatClampNeg).map fun i => (bs).getD (((0 : Int32)).toNatClampNeg + i) (.int 0)) ++ List.drop (((0 : Int32)).toNatClampNeg + (p2).toNatClampNeg) (List.replicate (p2).toNatClampNeg (.int 0))), rfl, N5, K5, sz_b2, (A2'.keep Kc5), V5'⟩
theorem D38 : dL jdk_65_method_132_code [(0, .iload_n 1, 1), (1, .ifCond .ne 9, 3), (4, .iload_n 2, 1), (5, .aload_n 0, 1), (6, .arraylength, 1), (7, .if_icmp .eq 10, 3), (10, .aload_n 0, 1), (11, .iload_n 1, 1), (12, .iload_n 2, 1), (13, .invokestatic 339, 3), (16, .areturn, 1)] = true := by decide +kernel
theorem pdv13 : parseMethodDescriptor "([BII)[B" = some ⟨[(.array .byte), .int, .int], some (.array .byte)⟩ := by decide +kernel
abbrev MN_22 : MethodName := ⟨"java/util/Arrays", "copyOfRange", "([BII)[B"⟩
theorem ef_rmCr (m : MethodId) (a0d : Addr) (p2 : Int32) : entryFrame m #[(.ref a0d), (.int 0), (.int p2)] 3 = mkF m 0 #[vr a0d, vi (0 : Int32), vi p2] [] := by first | (simp [entryFrame, mkF, argsToLocals, Value.category]; done) | rfl
def Q_rmCr (n0 : Nat) (Z : State) (cS : Int32) (aDE : Addr) (kDE : ClassId) (aUS : Addr) (aSS : Addr) (aIE : Addr) (mO : Addr) (a0d : Addr) (p2 : Int32) (ky : ClassId) (bs : List Value) (h0 : Heap) (v : Option Value) (h : Heap) (L : List Loc) : Prop := ∃ b : Addr, ∃ kb : ClassId, ∃ us : List Value, v = some (.ref b) ∧ Fr n0 L ∧ Keep h0 h [] ∧ (h0.size ≤ b) ∧ (Exa Z h b "[B") ∧ (Arv Z h b kb .byte p2 us (.int 0))
theorem rmCr (l : Launch) (Z : State) (a0 : Array Value) (hw : ∀ d ∈ tables_1, d.before a0 Z = true) (ws : List Jvm.Cond) (cS : Int32) (aDE : Addr) (kDE : ClassId) (aUS : Addr) (aSS : Addr) (aIE : Addr) (mO : Addr) (a0d : Addr) (p2 : Int32) (ky : ClassId) (bs : List Value) (h0 : Heap) (n0 : Nat) (O0 : Old Z n0 h0) (GL : GF Z cS aDE kDE aUS aSS aIE mO) (V_a0d : Arv Z h0 a0d ky .byte (16 : Int32) bs (.int 0)) (hp0 : ¬ (p2 < (0 : Int32))) (hlt : p2 < (16 : Int32)) (hc6 : p2.toNatClampNeg ≤ 16) (hne : ¬ (p2 = (16 : Int32))) :
    MF l MN_22 jdk_65_method_132_code 3 (some (.array .byte)) ws (Rm 2 1 16 34) #[(.ref a0d), (.int 0), (.int p2)] Z h0 (Q_rmCr n0 Z cS aDE kDE aUS aSS aIE mO a0d p2 ky bs h0) := by
  refine MetFree.of_bodySF (plainFor_of_name pnv4) hisR ?_
  intro p e s m args below meth c s₁ Bd hml0 hP hK
  obtain ⟨rfl, hZ, hh⟩ := hP
  have hx := Bd.exec
  have hby := Bd.bytes
  have hml : c.maxLocals = 3 := hml0
  have hown : s.vm.findClass "java/util/Arrays" = some m.cls := findClass_of_methodNamed Bd.named
  have hnm := (name_of_methodNamed Bd.named Bd.method).1
  have X0 : Stand p l e (Rm 2 1 16 34) s m #[(.ref a0d), (.int 0), (.int p2)] below meth c s₁ [] 0 0 := Stand.of_body Bd
  have e0 : s₁.heap = h0 := by rw [← hh, Bd.state]; rfl
  have N0 := Fr.nil n0
  have pre0 : ∀ t, SP p e below s₁ m 0 #[vr a0d, vi (0 : Int32), vi p2] [] t → Steps p.tables e below (s₁.setTop (entryFrame m #[(.ref a0d), (.int 0), (.int p2)] 3)) t := fun t k => castTop (ef_rmCr m a0d p2) k
  have GL' := GL
  obtain ⟨GCS, GCP, GDE, GVE, GUS, GSS, GIE, GMO⟩ := GL'
  obtain ⟨cl1, Ar1, -, S1, N1_, -, -⟩ := id (V_a0d)
  obtain ⟨_, _, ⟨T2, L2, k2, n2⟩, -, X2, ⟨Lc2, hQ2, l2, y2, z2⟩, st2⟩ := Jvm.LawKit.callS X0 hx (y := MN_21) hown (mvT hZ (Wd hw 237 rfl)) (mvT hZ (Wd hw 238 rfl)) (mvT hZ (Wd hw 235 rfl)) (mvT hZ (Wd hw 239 rfl)) (by decide) (backOf (W := 0) (rmCrb l Z a0 hw [] cS aDE kDE aUS aSS aIE mO a0d p2 ky bs h0 n0 O0 GL V_a0d hp0 hlt hc6) hZ (Wd hw 239 rfl) (Wd hw 235 rfl) (by decide) (by decide)) (g := mkF m 13 #[vr a0d, vi (0 : Int32), vi p2] [(.int p2), (.int 0), (.ref a0d)]) rfl (by rw [hml]; rfl) (argsL := [(.ref a0d), (.int 0), (.int p2)]) (rest := []) (lenOf pdv13 rfl) rfl (by show 2 * 0 + _ ≤ _; exact lEq rfl) (dG hby D38 9 rfl) (fun _ _ => ⟨rfl, e0, (by decide : 0 + 1 ≤ _), (by decide : 0 + 16 ≤ _)⟩)
  dsimp only [Pt.U, Pt.locs, Pt.cells, Pt.slots] at X2 l2 y2 z2 st2 hQ2
  subst l2 y2 z2
  obtain ⟨b_2, kb_2, us_2, rfl, N2q, Kc2, P2_0, P2_1, P2_2⟩ := hQ2
  have K2 : Keep h0 T2.heap [] := (Keep.refl h0 []).trans Kc2 all0
  have O2 := O0.keep Kc2 all0
  have g_b_2 : n0 ≤ b_2 := lTr (own_sz O0) P2_0
  have sz_b_2 : h0.size ≤ b_2 := lTr (Keep.refl h0 []).1 P2_0
  have N2 := Fr.app N0 N2q
  obtain ⟨fs, hr, hrun, hended, hW, hsame⟩ := X2.leave (v := some (.ref b_2)) (fun h => by rw [Bd.returns] at h; cases h)
  refine ⟨_, _, pre0 _ ?_, hrun, hended, _, _, rfl, ?_, ⟨_, rfl⟩, hW, hsame.mono (by decide) (by decide)⟩
  · show SP p e below s₁ m 0 #[vr a0d, vi (0 : Int32), vi p2] [] _
    refine XS.iloadN X0.here hx rfl (dG hby D38 0 rfl) rfl ?_
    refine XS.ifNo X0.here hx rfl (dG hby D38 1 rfl) rfl ((if0 _ _).trans (teq (by decide : (0 : Int32) = (0 : Int32))).2) ?_
    refine XS.iloadN X0.here hx rfl (dG hby D38 2 rfl) rfl ?_
    refine XS.aloadN X0.here hx rfl (dG hby D38 3 rfl) rfl rfl ?_
    show SP p e below s₁ m 6 #[vr a0d, vi (0 : Int32), vi p2] [(.ref a0d), (.int p2)] _
    refine X0.arraylength hx (by rw [e0]; exact Ar1.1) (State.isArrayOf_alike hZ.alike Ar1.2.1) (g := mkF m 6 #[vr a0d, vi (0 : Int32), vi p2] [(.ref a0d), (.int p2)]) rfl rfl (dG hby D38 4 rfl) _ ?_
    rw [len_of S1 N1_]
    show SP p e below s₁ m 7 #[vr a0d, vi (0 : Int32), vi p2] [(.int 16), (.int p2)] _
    refine XS.icmpNo X0.here hx rfl (dG hby D38 5 rfl) rfl (feq hne).1 ?_
    refine XS.aloadN X0.here hx rfl (dG hby D38 6 rfl) rfl rfl ?_
    refine XS.iloadN X0.here hx rfl (dG hby D38 7 rfl) rfl ?_
    refine XS.iloadN X0.here hx rfl (dG hby D38 8 rfl) rfl ?_
    show SP p e below s₁ m 13 #[vr a0d, vi (0 : Int32), vi p2] [(.int p2), (.int 0), (.ref a0d)] _
    refine st2 _ ?_
    show SP p e below T2 m 16 #[vr a0d, vi (0 : Int32), vi p2] [(.ref b_2)] _
    exact retA X2 hx Bd.returns rfl (dG hby D38 10 rfl) hr
  · show Q_rmCr n0 Z cS aDE kDE aUS aSS aIE mO a0d p2 ky bs h0 _ T2.heap _
    exact ⟨b_2, kb_2, us_2, rfl, N2, K2, sz_b_2, P2_1, P2_2⟩
theorem D33 : dL jdk_42_method_150_code [(0, .aload_n 0, 1), (1, .invokespecial 1, 3), (4, .aload_n 1, 1), (5, .invokevirtual 552, 3), (8, .astore_n 3, 1), (9, .aload_n 1, 1), (10, .invokevirtual 549, 3), (13, .istore 4, 2), (15, .aload_n 1, 1), (16, .invokevirtual 1047, 3), (19, .ifCond .eq 22, 3), (22, .aload_n 0, 1), (23, .iconst 0, 1), (24, .putfield 15, 3), (27, .aload_n 0, 1), (28, .aload_n 3, 1), (29, .iconst 0, 1), (30, .iload 4, 2), (32, .invokestatic 54, 3), (35, .putfield 9, 3), (38, .goto 59, 3), (97, .return_, 1)] = true := by decide +kernel
theorem pdv14 : parseMethodDescriptor "()[B" = some ⟨[], some (.array .byte)⟩ := by decide +kernel
theorem pdv15 : parseMethodDescriptor "()Z" = some ⟨[], some .boolean⟩ := by decide +kernel
abbrev MN_23 : MethodName := ⟨"java/lang/String", "<init>", "(Ljava/lang/AbstractStringBuilder;Ljava/lang/Void;)V"⟩
theorem ef_rmSi (m : MethodId) (a0s : Addr) (a1b : Addr) : entryFrame m #[(.ref a0s), (.ref a1b), .null] 5 = mkF m 0 #[vr a0s, vr a1b, .val .null, .unset, .unset] [] := by first | (simp [entryFrame, mkF, argsToLocals, Value.category]; done) | rfl
def Q_rmSi (n0 : Nat) (Z : State) (cS : Int32) (aDE : Addr) (kDE : ClassId) (aUS : Addr) (aSS : Addr) (aIE : Addr) (mO : Addr) (a0s : Addr) (a1b : Addr) (y : Addr) (ky : ClassId) (bs : List Value) (kc : Int32) (h0 : Heap) (v : Option Value) (h : Heap) (L : List Loc) : Prop := v = none ∧ Fr n0 L ∧ Keep h0 h [a0s] ∧ (Exa Z h a0s "java/lang/String")
theorem rmSi (l : Launch) (Z : State) (a0 : Array Value) (hw : ∀ d ∈ tables_1, d.before a0 Z = true) (ws : List Jvm.Cond) (cS : Int32) (aDE : Addr) (kDE : ClassId) (aUS : Addr) (aSS : Addr) (aIE : Addr) (mO : Addr) (a0s : Addr) (a1b : Addr) (y : Addr) (ky : ClassId) (bs : List Value) (kc : Int32) (h0 : Heap) (n0 : Nat) (O0 : Old Z n0 h0) (GL : GF Z cS aDE kDE aUS aSS aIE mO) (E_a0s : Exa Z h0 a0s "java/lang/String") (F_value_a0s : Fld Z h0 a0s "java/lang/String" "value" "[B" .null) (F_coder_a0s : Fld Z h0 a0s "java/lang/String" "coder" "B" (.int 0)) (g_a0s : n0 ≤ a0s) (E_a1b : Exa Z h0 a1b "java/lang/StringBuilder") (F_value_a1b : Fld Z h0 a1b "java/lang/AbstractStringBuilder" "value" "[B" (.ref y)) (F_coder_a1b : Fld Z h0 a1b "java/lang/AbstractStringBuilder" "coder" "B" (.int 0)) (F_count_a1b : Fld Z h0 a1b "java/lang/AbstractStringBuilder" "count" "I" (.int kc)) (V_y : Arv Z h0 y ky .byte (16 : Int32) bs (.int 0)) (hp0 : ¬ (kc < (0 : Int32))) (hlt : kc < (16 : Int32)) (hc6 : kc.toNatClampNeg ≤ 16) (hne : ¬ (kc = (16 : Int32))) :
    MF l MN_23 jdk_42_method_150_code 5 none ws (Rm 3 1 16 49) #[(.ref a0s), (.ref a1b), .null] Z h0 (Q_rmSi n0 Z cS aDE kDE aUS aSS aIE mO a0s a1b y ky bs kc h0) := by
  refine MetFree.of_bodySF (plainFor_of_name pnv1) hisR ?_
  intro p e s m args below meth c s₁ Bd hml0 hP hK
  obtain ⟨rfl, hZ, hh⟩ := hP
  have hx := Bd.exec
  have hby := Bd.bytes
  have hml : c.maxLocals = 5 := hml0
  have hown : s.vm.findClass "java/lang/String" = some m.cls := findClass_of_methodNamed Bd.named
  have hnm := (name_of_methodNamed Bd.named Bd.method).1
  have X0 : Stand p l e (Rm 3 1 16 49) s m #[(.ref a0s), (.ref a1b), .null] below meth c s₁ [] 0 0 := Stand.of_body Bd
  have e0 : s₁.heap = h0 := by rw [← hh, Bd.state]; rfl
  have N0 := Fr.nil n0
  have pre0 : ∀ t, SP p e below s₁ m 0 #[vr a0s, vr a1b, .val .null, .unset, .unset] [] t → Steps p.tables e below (s₁.setTop (entryFrame m #[(.ref a0s), (.ref a1b), .null] 5)) t := fun t k => castTop (ef_rmSi m a0s a1b) k
  have GL' := GL
  obtain ⟨GCS, GCP, GDE, GVE, GUS, GSS, GIE, GMO⟩ := GL'
  obtain ⟨T1, X1, e1, st1⟩ := initO X0 hx hZ hown (Wd hw 214 rfl) (Wd hw 32 rfl) (Wd hw 33 rfl) e0 (g := mkF m 1 #[vr a0s, vr a1b, .val .null, .unset, .unset] [(.ref a0s)]) rfl (by rw [hml]; rfl) rfl (dG hby D33 1 rfl) (by decide) (W := 0) (by show 2 * 0 + _ ≤ _; exact lEq rfl) (by decide)
  obtain ⟨cq2, kq2, q2a, q2b, q2c⟩ := isOf hZ e1 E_a1b
  obtain ⟨_, _, ⟨T2, L2, k2, n2⟩, -, X2, ⟨Lc2, hQ2, l2, y2, z2⟩, st2⟩ := X1.virtualBack hx (y := MN_16) (z := MN_16) hown (mvT hZ (Wd hw 215 rfl)) (mvT hZ (Wd hw 216 rfl)) (notFace_of_selects (args := #[]) (mvT hZ (Wd hw 218 rfl))) (mvT hZ (Wd hw 218 rfl)) (mvT hZ (Wd hw 217 rfl)) (by decide) (backOf (W := 0) (rmGv l Z a0 hw [] cS aDE kDE aUS aSS aIE mO a1b y h0 n0 O0 GL E_a1b F_value_a1b) hZ (Wd hw 219 rfl) (Wd hw 142 rfl) (by decide) (by decide)) q2a q2c (g := mkF m 5 #[vr a0s, vr a1b, .val .null, .unset, .unset] [(.ref a1b)]) rfl (by rw [hml]; rfl) (Steps.refl _) (argsL := []) (rest := []) (lenOf pdv14 rfl) rfl (by show 2 * 0 + _ ≤ _; exact lEq rfl) (dG hby D33 3 rfl) (fun _ _ => ⟨rfl, e1, (by decide : 0 + 0 ≤ _), (by decide : 0 + 0 ≤ _)⟩)
  dsimp only [Pt.U, Pt.locs, Pt.cells, Pt.slots] at X2 l2 y2 z2 st2 hQ2
  subst l2 y2 z2
  obtain ⟨rfl, N2q, e2⟩ := hQ2
  have N2 := Fr.app N0 N2q
  obtain ⟨cq3, kq3, q3a, q3b, q3c⟩ := isOf hZ e2 E_a1b
  obtain ⟨_, _, ⟨T3, L3, k3, n3⟩, -, X3, ⟨Lc3, hQ3, l3, y3, z3⟩, st3⟩ := X2.virtualBack hx (y := MN_17) (z := MN_18) hown (mvT hZ (Wd hw 220 rfl)) (mvT hZ (Wd hw 221 rfl)) (own_nf (args := #[]) (mvT hZ (Wd hw 178 rfl)) rfl) (mvT hZ (Wd hw 223 rfl)) (mvT hZ (Wd hw 224 rfl)) (by decide) (backOf (W := 0) (rmSl l Z a0 hw [] cS aDE kDE aUS aSS aIE mO a1b kc h0 n0 O0 GL E_a1b F_count_a1b) hZ (Wd hw 225 rfl) (Wd hw 134 rfl) (by decide) (by decide)) q3a q3c (g := mkF m 10 #[vr a0s, vr a1b, .val .null, vr y, .unset] [(.ref a1b)]) rfl (by rw [hml]; rfl) (Steps.refl _) (argsL := []) (rest := []) (lenOf pdv8 rfl) rfl (by show 2 * 0 + _ ≤ _; exact lEq rfl) (dG hby D33 6 rfl) (fun _ _ => ⟨rfl, e2, (by decide : 0 + 0 ≤ _), (by decide : 0 + 0 ≤ _)⟩)
  dsimp only [Pt.U, Pt.locs, Pt.cells, Pt.slots] at X3 l3 y3 z3 st3 hQ3
  subst l3 y3 z3
  obtain ⟨rfl, N3q, e3⟩ := hQ3
  have N3 := Fr.app N2 N3q
  obtain ⟨cq4, kq4, q4a, q4b, q4c⟩ := isOf hZ e3 E_a1b
  obtain ⟨_, _, ⟨T4, L4, k4, n4⟩, -, X4, ⟨Lc4, hQ4, l4, y4, z4⟩, st4⟩ := X3.virtualBack hx (y := MN_19) (z := MN_19) hown (mvT hZ (Wd hw 228 rfl)) (mvT hZ (Wd hw 229 rfl)) (notFace_of_selects (args := #[]) (mvT hZ (Wd hw 231 rfl))) (mvT hZ (Wd hw 231 rfl)) (mvT hZ (Wd hw 230 rfl)) (by decide) (backOf (W := 0) (rmIl l Z a0 hw [] cS aDE kDE aUS aSS aIE mO a1b h0 n0 O0 GL F_coder_a1b) hZ (Wd hw 232 rfl) (Wd hw 142 rfl) (by decide) (by decide)) q4a q4c (g := mkF m 16 #[vr a0s, vr a1b, .val .null, vr y, vi kc] [(.ref a1b)]) rfl (by rw [hml]; rfl) (Steps.refl _) (argsL := []) (rest := []) (lenOf pdv15 rfl) rfl (by show 2 * 0 + _ ≤ _; exact lEq rfl) (dG hby D33 9 rfl) (fun _ _ => ⟨rfl, e3, (by decide : 0 + 0 ≤ _), (by decide : 0 + 0 ≤ _)⟩)
  dsimp only [Pt.U, Pt.locs, Pt.cells, Pt.slots] at X4 l4 y4 z4 st4 hQ4
  subst l4 y4 z4
  obtain ⟨rfl, N4q, e4⟩ := hQ4
  have N4 := Fr.app N3 N4q
  obtain ⟨T5, h5, X5, e5, W5, st5⟩ := putFN X4 hx hZ hown (Wd hw 172 rfl) Via.refl e4 F_coder_a0s E_a0s (Or.inr ⟨(Wd hw 10 rfl), rfl, hnm⟩) (Wd hw 7 rfl) (ty := .byte) (v' := (.int 0)) (by decide) rfl (by decide) (g := mkF m 24 #[vr a0s, vr a1b, .val .null, vr y, vi kc] [(.int 0), (.ref a0s)]) rfl rfl (dG hby D33 13 rfl)
  have Fw5 := F_coder_a0s.same W5
  have K5 : Keep h0 h5 [a0s] := (Keep.refl h0 [a0s]).wr W5 (Or.inl (List.mem_of_getElem? (i := 0) rfl))
  have O5 := O0.wr W5 g_a0s
  have N5 := Fr.snoc X5 N4 g_a0s
  obtain ⟨_, _, ⟨T6, L6, k6, n6⟩, -, X6, ⟨Lc6, hQ6, l6, y6, z6⟩, st6⟩ := Jvm.LawKit.callS X5 hx (y := MN_22) hown (mvT hZ (Wd hw 233 rfl)) (mvT hZ (Wd hw 234 rfl)) (mvT hZ (Wd hw 235 rfl)) (mvT hZ (Wd hw 236 rfl)) (by decide) (backOf (W := 1) (rmCr l Z a0 hw [] cS aDE kDE aUS aSS aIE mO y kc ky bs h5 n0 O5 GL (V_y.other W5 (Ne.symm (Exa.neArv (a0 := a0) E_a0s V_y (Wd hw 7 rfl)))) hp0 hlt hc6 hne) hZ (Wd hw 236 rfl) (Wd hw 235 rfl) (by decide) (by decide)) (g := mkF m 32 #[vr a0s, vr a1b, .val .null, vr y, vi kc] [(.int kc), (.int 0), (.ref y), (.ref a0s)]) rfl (by rw [hml]; rfl) (argsL := [(.ref y), (.int 0), (.int kc)]) (rest := [(.ref a0s)]) (lenOf pdv13 rfl) rfl (by show 2 * 0 + _ ≤ _; exact lEq rfl) (dG hby D33 18 rfl) (fun _ _ => ⟨rfl, e5, (by decide : 0 + 1 ≤ _), (by decide : 0 + 16 ≤ _)⟩)
  dsimp only [Pt.U, Pt.locs, Pt.cells, Pt.slots] at X6 l6 y6 z6 st6 hQ6
  subst l6 y6 z6
  obtain ⟨b_6, kb_6, us_6, rfl, N6q, Kc6, P6_0, P6_1, P6_2⟩ := hQ6
  have K6 : Keep h0 T6.heap [a0s] := K5.trans Kc6 all0
  have O6 := O5.keep Kc6 all0
  have g_b_6 : n0 ≤ b_6 := lTr (own_sz O5) P6_0
  have sz_b_6 : h0.size ≤ b_6 := lTr K5.1 P6_0
  have N6 := Fr.app N5 N6q
  obtain ⟨T7, h7, X7, e7, W7, st7⟩ := putF X6 hx hZ hown (host := "") (Or.inl (Wd hw 165 rfl)) Via.refl rfl ((F_value_a0s.other W5 (Or.inr (slot_ne (a0 := a0) (Or.inr (Wd hw 9 rfl)) (Or.inr (Wd hw 10 rfl)) (by decide) (t := (.array .byte)) (t' := .byte) (by decide) (by decide)))).keep Kc6 nin0) ((E_a0s.wr W5).keep Kc6) (Or.inr ⟨(Wd hw 9 rfl), rfl, hnm⟩) (Wd hw 7 rfl) (ty := (.array .byte)) (by decide) rfl rfl (g := mkF m 35 #[vr a0s, vr a1b, .val .null, vr y, vi kc] [(.ref b_6), (.ref a0s)]) rfl rfl (dG hby D33 19 rfl)
  have Fw7 := ((F_value_a0s.other W5 (Or.inr (slot_ne (a0 := a0) (Or.inr (Wd hw 9 rfl)) (Or.inr (Wd hw 10 rfl)) (by decide) (t := (.array .byte)) (t' := .byte) (by decide) (by decide)))).keep Kc6 nin0).same W7
  have K7 : Keep h0 h7 [a0s] := K6.wr W7 (Or.inl (List.mem_of_getElem? (i := 0) rfl))
  have O7 := O6.wr W7 g_a0s
  have N7 := Fr.snoc X7 N6 g_a0s
  obtain ⟨fs, hr, hrun, hended, hW, hsame⟩ := X7.leave (v := none) (fun _ => rfl)
  refine ⟨_, _, pre0 _ ?_, hrun, hended, _, _, rfl, ?_, ⟨_, rfl⟩, hW, hsame.mono (by decide) (by decide)⟩
  · show SP p e below s₁ m 0 #[vr a0s, vr a1b, .val .null, .unset, .unset] [] _
    refine XS.aloadN X0.here hx rfl (dG hby D33 0 rfl) rfl rfl ?_
    show SP p e below s₁ m 1 #[vr a0s, vr a1b, .val .null, .unset, .unset] [(.ref a0s)] _
    refine st1 _ ?_
    show SP p e below T1 m 4 #[vr a0s, vr a1b, .val .null, .unset, .unset] [] _
    refine XS.aloadN X1.here hx rfl (dG hby D33 2 rfl) rfl rfl ?_
    show SP p e below T1 m 5 #[vr a0s, vr a1b, .val .null, .unset, .unset] [(.ref a1b)] _
    refine st2.trans ?_
    show SP p e below T2 m 8 #[vr a0s, vr a1b, .val .null, .unset, .unset] [(.ref y)] _
    refine XS.astoreN X2.here hx rfl (dG hby D33 4 rfl) rfl rfl (l' := #[vr a0s, vr a1b, .val .null, vr y, .unset]) rfl ?_
    refine XS.aloadN X2.here hx rfl (dG hby D33 5 rfl) rfl rfl ?_
    show SP p e below T2 m 10 #[vr a0s, vr a1b, .val .null, vr y, .unset] [(.ref a1b)] _
    refine st3.trans ?_
    show SP p e below T3 m 13 #[vr a0s, vr a1b, .val .null, vr y, .unset] [(.int kc)] _
    refine XS.istore X3.here hx rfl (dG hby D33 7 rfl) rfl (l' := #[vr a0s, vr a1b, .val .null, vr y, vi kc]) rfl ?_
    refine XS.aloadN X3.here hx rfl (dG hby D33 8 rfl) rfl rfl ?_
    show SP p e below T3 m 16 #[vr a0s, vr a1b, .val .null, vr y, vi kc] [(.ref a1b)] _
    refine st4.trans ?_
    show SP p e below T4 m 19 #[vr a0s, vr a1b, .val .null, vr y, vi kc] [(.int 1)] _
    refine XS.ifNo X4.here hx rfl (dG hby D33 10 rfl) rfl ((if0 _ _).trans (feq (by decide : ¬ ((1 : Int32) = (0 : Int32)))).1) ?_
    refine XS.aloadN X4.here hx rfl (dG hby D33 11 rfl) rfl rfl ?_
    refine XS.iconst X4.here hx rfl (dG hby D33 12 rfl) ?_
    show SP p e below T4 m 24 #[vr a0s, vr a1b, .val .null, vr y, vi kc] [(.int 0), (.ref a0s)] _
    refine st5 _ ?_
    show SP p e below T5 m 27 #[vr a0s, vr a1b, .val .null, vr y, vi kc] [] _
    refine XS.aloadN X5.here hx rfl (dG hby D33 14 rfl) rfl rfl ?_
    refine XS.aloadN X5.here hx rfl (dG hby D33 15 rfl) rfl rfl ?_
    refine XS.iconst X5.here hx rfl (dG hby D33 16 rfl) ?_
    refine XS.iload X5.here hx rfl (dG hby D33 17 rfl) rfl ?_
    show SP p e below T5 m 32 #[vr a0s, vr a1b, .val .null, vr y, vi kc] [(.int kc), (.int 0), (.ref y), (.ref a0s)] _
    refine st6 _ ?_
    show SP p e below T6 m 35 #[vr a0s, vr a1b, .val .null, vr y, vi kc] [(.ref b_6), (.ref a0s)] _
    refine st7 _ ?_
    show SP p e below T7 m 38 #[vr a0s, vr a1b, .val .null, vr y, vi kc] [] _
    refine XS.goto X7.here hx rfl (pc0 := 38) (pc' := 97) rfl (dG hby D33 20 rfl) (by decide) (by decide) ?_
    show SP p e below T7 m 97 #[vr a0s, vr a1b, .val .null, vr y, vi kc] [] _
    exact X7.returnOut hx Bd.returns (dG hby D33 21 rfl) hr
  · show Q_rmSi n0 Z cS aDE kDE aUS aSS aIE mO a0s a1b y ky bs kc h0 _ T7.heap _
    rw [e7]
    exact ⟨rfl, N7, K7, (((E_a0s.wr W5).keep Kc6).wr W7)⟩
theorem D32 : dL jdk_42_method_53_code [(0, .aload_n 0, 1), (1, .aload_n 1, 1), (2, .aconst_null, 1), (3, .invokespecial 489, 3), (6, .return_, 1)] = true := by decide +kernel
theorem pdv16 : parseMethodDescriptor "(Ljava/lang/AbstractStringBuilder;Ljava/lang/Void;)V" = some ⟨[(.object "java/lang/AbstractStringBuilder"), (.object "java/lang/Void")], none⟩ := by decide +kernel
abbrev MN_24 : MethodName := ⟨"java/lang/String", "<init>", "(Ljava/lang/StringBuilder;)V"⟩
theorem ef_rmSj (m : MethodId) (a0s : Addr) (a1b : Addr) : entryFrame m #[(.ref a0s), (.ref a1b)] 2 = mkF m 0 #[vr a0s, vr a1b] [] := by first | (simp [entryFrame, mkF, argsToLocals, Value.category]; done) | rfl
def Q_rmSj (n0 : Nat) (Z : State) (cS : Int32) (aDE : Addr) (kDE : ClassId) (aUS : Addr) (aSS : Addr) (aIE : Addr) (mO : Addr) (a0s : Addr) (a1b : Addr) (y : Addr) (ky : ClassId) (bs : List Value) (kc : Int32) (h0 : Heap) (v : Option Value) (h : Heap) (L : List Loc) : Prop := v = none ∧ Fr n0 L ∧ Keep h0 h [a0s] ∧ (Exa Z h a0s "java/lang/String")
theorem rmSj (l : Launch) (Z : State) (a0 : Array Value) (hw : ∀ d ∈ tables_1, d.before a0 Z = true) (ws : List Jvm.Cond) (cS : Int32) (aDE : Addr) (kDE : ClassId) (aUS : Addr) (aSS : Addr) (aIE : Addr) (mO : Addr) (a0s : Addr) (a1b : Addr) (y : Addr) (ky : ClassId) (bs : List Value) (kc : Int32) (h0 : Heap) (n0 : Nat) (O0 : Old Z n0 h0) (GL : GF Z cS aDE kDE aUS aSS aIE mO) (E_a0s : Exa Z h0 a0s "java/lang/String") (F_value_a0s : Fld Z h0 a0s "java/lang/String" "value" "[B" .null) (F_coder_a0s : Fld Z h0 a0s "java/lang/String" "coder" "B" (.int 0)) (g_a0s : n0 ≤ a0s) (E_a1b : Exa Z h0 a1b "java/lang/StringBuilder") (F_value_a1b : Fld Z h0 a1b "java/lang/AbstractStringBuilder" "value" "[B" (.ref y)) (F_coder_a1b : Fld Z h0 a1b "java/lang/AbstractStringBuilder" "coder" "B" (.int 0)) (F_count_a1b : Fld Z h0 a1b "java/lang/AbstractStringBuilder" "count" "I" (.int kc)) (V_y : Arv Z h0 y ky .byte (16 : Int32) bs (.int 0)) (hp0 : ¬ (kc < (0 : Int32))) (hlt : kc < (16 : Int32)) (hc6 : kc.toNatClampNeg ≤ 16) (hne : ¬ (kc = (16 : Int32))) :
    MF l MN_24 jdk_42_method_53_code 2 none ws (Rm 4 1 16 65) #[(.ref a0s), (.ref a1b)] Z h0 (Q_rmSj n0 Z cS aDE kDE aUS aSS aIE mO a0s a1b y ky bs kc h0) := by
  refine MetFree.of_bodySF (plainFor_of_name pnv1) hisR ?_
  intro p e s m args below meth c s₁ Bd hml0 hP hK
  obtain ⟨rfl, hZ, hh⟩ := hP
  have hx := Bd.exec
  have hby := Bd.bytes
  have hml : c.maxLocals = 2 := hml0
  have hown : s.vm.findClass "java/lang/String" = some m.cls := findClass_of_methodNamed Bd.named
  have hnm := (name_of_methodNamed Bd.named Bd.method).1
  have X0 : Stand p l e (Rm 4 1 16 65) s m #[(.ref a0s), (.ref a1b)] below meth c s₁ [] 0 0 := Stand.of_body Bd
  have e0 : s₁.heap = h0 := by rw [← hh, Bd.state]; rfl
  have N0 := Fr.nil n0
  have pre0 : ∀ t, SP p e below s₁ m 0 #[vr a0s, vr a1b] [] t → Steps p.tables e below (s₁.setTop (entryFrame m #[(.ref a0s), (.ref a1b)] 2)) t := fun t k => castTop (ef_rmSj m a0s a1b) k
  have GL' := GL
  obtain ⟨GCS, GCP, GDE, GVE, GUS, GSS, GIE, GMO⟩ := GL'
  obtain ⟨_, _, ⟨T1, L1, k1, n1⟩, -, X1, ⟨Lc1, hQ1, l1, y1, z1⟩, st1⟩ := X0.specialBack hx (y := MN_23) rfl hown (mvT hZ (Wd hw 211 rfl)) (mvT hZ (Wd hw 212 rfl)) (mvT hZ (Wd hw 213 rfl)) (by decide) (backOf (W := 0) (rmSi l Z a0 hw [] cS aDE kDE aUS aSS aIE mO a0s a1b y ky bs kc h0 n0 O0 GL E_a0s F_value_a0s F_coder_a0s g_a0s E_a1b F_value_a1b F_coder_a1b F_count_a1b V_y hp0 hlt hc6 hne) hZ (Wd hw 213 rfl) (Wd hw 6 rfl) (by decide) (by decide)) (g := mkF m 3 #[vr a0s, vr a1b] [.null, (.ref a1b), (.ref a0s)]) rfl (by rw [hml]; rfl) (Steps.refl _) (a := a0s) (argsL := [(.ref a1b), .null]) (rest := []) (lenOf pdv16 rfl) rfl (by show 2 * 0 + _ ≤ _; exact lEq rfl) (dG hby D32 3 rfl) (fun _ _ => ⟨rfl, e0, (by decide : 0 + 1 ≤ _), (by decide : 0 + 16 ≤ _)⟩)
  dsimp only [Pt.U, Pt.locs, Pt.cells, Pt.slots] at X1 l1 y1 z1 st1 hQ1
  subst l1 y1 z1
  obtain ⟨rfl, N1q, Kc1, P1_0⟩ := hQ1
  have K1 : Keep h0 T1.heap [a0s] := (Keep.refl h0 [a0s]).trans Kc1 (allS (Or.inl (List.mem_of_getElem? (i := 0) rfl)) all0)
  have O1 := O0.keep Kc1 (allS g_a0s all0)
  have N1 := Fr.app N0 N1q
  obtain ⟨fs, hr, hrun, hended, hW, hsame⟩ := X1.leave (v := none) (fun _ => rfl)
  refine ⟨_, _, pre0 _ ?_, hrun, hended, _, _, rfl, ?_, ⟨_, rfl⟩, hW, hsame.mono (by decide) (by decide)⟩
  · show SP p e below s₁ m 0 #[vr a0s, vr a1b] [] _
    refine XS.aloadN X0.here hx rfl (dG hby D32 0 rfl) rfl rfl ?_
    refine XS.aloadN X0.here hx rfl (dG hby D32 1 rfl) rfl rfl ?_
    refine XS.aconstNull X0.here hx rfl (dG hby D32 2 rfl) ?_
    show SP p e below s₁ m 3 #[vr a0s, vr a1b] [.null, (.ref a1b), (.ref a0s)] _
    refine st1.trans ?_
    show SP p e below T1 m 6 #[vr a0s, vr a1b] [] _
    exact X1.returnOut hx Bd.returns (dG hby D32 4 rfl) hr
  · show Q_rmSj n0 Z cS aDE kDE aUS aSS aIE mO a0s a1b y ky bs kc h0 _ T1.heap _
    exact ⟨rfl, N1, K1, P1_0⟩
theorem D31 : dL jdk_67_method_42_code [(0, .new 18, 3), (3, .dup, 1), (4, .aload_n 0, 1), (5, .invokespecial 137, 3), (8, .areturn, 1)] = true := by decide +kernel
theorem pdv17 : parseMethodDescriptor "(Ljava/lang/StringBuilder;)V" = some ⟨[(.object "java/lang/StringBuilder")], none⟩ := by decide +kernel
abbrev MN_25 : MethodName := ⟨"java/lang/StringBuilder", "toString", "()Ljava/lang/String;"⟩
def Q_rmTs (n0 : Nat) (Z : State) (cS : Int32) (aDE : Addr) (kDE : ClassId) (aUS : Addr) (aSS : Addr) (aIE : Addr) (mO : Addr) (a0b : Addr) (y : Addr) (ky : ClassId) (bs : List Value) (kc : Int32) (h0 : Heap) (v : Option Value) (h : Heap) (L : List Loc) : Prop := ∃ b : Addr, v = some (.ref b) ∧ Fr n0 L ∧ Keep h0 h [] ∧ (h0.size ≤ b) ∧ (Exa Z h b "java/lang/String")
theorem rmTs (l : Launch) (Z : State) (a0 : Array Value) (hw : ∀ d ∈ tables_1, d.before a0 Z = true) (ws : List Jvm.Cond) (cS : Int32) (aDE : Addr) (kDE : ClassId) (aUS : Addr) (aSS : Addr) (aIE : Addr) (mO : Addr) (a0b : Addr) (y : Addr) (ky : ClassId) (bs : List Value) (kc : Int32) (h0 : Heap) (n0 : Nat) (O0 : Old Z n0 h0) (GL : GF Z cS aDE kDE aUS aSS aIE mO) (E_a0b : Exa Z h0 a0b "java/lang/StringBuilder") (F_value_a0b : Fld Z h0 a0b "java/lang/AbstractStringBuilder" "value" "[B" (.ref y)) (F_coder_a0b : Fld Z h0 a0b "java/lang/AbstractStringBuilder" "coder" "B" (.int 0)) (F_count_a0b : Fld Z h0 a0b "java/lang/AbstractStringBuilder" "count" "I" (.int kc)) (V_y : Arv Z h0 y ky .byte (16 : Int32) bs (.int 0)) (hp0 : ¬ (kc < (0 : Int32))) (hlt : kc < (16 : Int32)) (hc6 : kc.toNatClampNeg ≤ 16) (hne : ¬ (kc = (16 : Int32))) :
    MF l MN_25 jdk_67_method_42_code 1 (some (.object "java/lang/String")) ws (Rm 5 2 20 79) #[(.ref a0b)] Z h0 (Q_rmTs n0 Z cS aDE kDE aUS aSS aIE mO a0b y ky bs kc h0) := by
  refine MetFree.of_bodySF (plainFor_of_name pnv3) hisR ?_
  intro p e s m args below meth c s₁ Bd hml0 hP hK
  obtain ⟨rfl, hZ, hh⟩ := hP
  have hx := Bd.exec
  have hby := Bd.bytes
  have hml : c.maxLocals = 1 := hml0
  have hown : s.vm.findClass "java/lang/StringBuilder" = some m.cls := findClass_of_methodNamed Bd.named
  have hnm := (name_of_methodNamed Bd.named Bd.method).1
  have X0 : Stand p l e (Rm 5 2 20 79) s m #[(.ref a0b)] below meth c s₁ [] 0 0 := Stand.of_body Bd
  have e0 : s₁.heap = h0 := by rw [← hh, Bd.state]; rfl
  have N0 := Fr.nil n0
  have pre0 : ∀ t, SP p e below s₁ m 0 #[vr a0b] [] t → Steps p.tables e below (s₁.setTop (entryFrame m #[(.ref a0b)] 1)) t := fun t k => castTop (ef_rmSb m a0b) k
  have GL' := GL
  obtain ⟨GCS, GCP, GDE, GVE, GUS, GSS, GIE, GMO⟩ := GL'
  obtain ⟨T1, h1, X1, e1, E1, A1, D1, -, st1⟩ := newO X0 hx hZ hown (Wd hw 206 rfl) (Wd hw 7 rfl) (Wd hw 6 rfl) e0 (g := mkF m 0 #[vr a0b] []) rfl (dG hby D31 0 rfl) (by decide) (by decide)
  obtain ⟨b1, g1⟩ : ∃ z, z = h0.size := ⟨_, rfl⟩
  rw [← g1] at A1 D1 st1
  have g_b1 : n0 ≤ b1 := lTr (own_sz O0) (lEq g1.symm)
  have sz_b1 : h0.size ≤ b1 := lTr (Keep.refl h0 []).1 (lEq g1.symm)
  have K1 : Keep h0 h1 [] := (Keep.refl h0 []).ext E1
  have O1 := O0.ext E1
  have F_value_b1 : Fld Z h1 b1 "java/lang/String" "value" "[B" .null := D1 (Or.inr (Wd hw 9 rfl)) (ty := (.array .byte)) (by decide)
  have F_coder_b1 : Fld Z h1 b1 "java/lang/String" "coder" "B" (.int 0) := D1 (Or.inr (Wd hw 10 rfl)) (ty := .byte) (by decide)
  obtain ⟨_, _, ⟨T2, L2, k2, n2⟩, -, X2, ⟨Lc2, hQ2, l2, y2, z2⟩, st2⟩ := X1.specialBack hx (y := MN_24) rfl hown (mvT hZ (Wd hw 207 rfl)) (mvT hZ (Wd hw 208 rfl)) (mvT hZ (Wd hw 210 rfl)) (by decide) (backOf (W := 1) (rmSj l Z a0 hw [] cS aDE kDE aUS aSS aIE mO b1 a0b y ky bs kc h1 n0 O1 GL A1 F_value_b1 F_coder_b1 g_b1 (E_a0b.ext E1) (F_value_a0b.ext E1) (F_coder_a0b.ext E1) (F_count_a0b.ext E1) (V_y.ext E1) hp0 hlt hc6 hne) hZ (Wd hw 210 rfl) (Wd hw 6 rfl) (by decide) (by decide)) (g := mkF m 5 #[vr a0b] [(.ref a0b), (.ref b1), (.ref b1)]) rfl (by rw [hml]; rfl) (Steps.refl _) (a := b1) (argsL := [(.ref a0b)]) (rest := [(.ref b1)]) (lenOf pdv17 rfl) rfl (by show 2 * 0 + _ ≤ _; exact lEq rfl) (dG hby D31 3 rfl) (fun _ _ => ⟨rfl, e1, (by decide : 1 + 1 ≤ _), (by decide : 4 + 16 ≤ _)⟩)
  dsimp only [Pt.U, Pt.locs, Pt.cells, Pt.slots] at X2 l2 y2 z2 st2 hQ2
  subst l2 y2 z2
  obtain ⟨rfl, N2q, Kc2, P2_0⟩ := hQ2
  have K2 : Keep h0 T2.heap [] := K1.trans Kc2 (allS (Or.inr sz_b1) all0)
  have O2 := O1.keep Kc2 (allS g_b1 all0)
  have N2 := Fr.app N0 N2q
  obtain ⟨fs, hr, hrun, hended, hW, hsame⟩ := X2.leave (v := some (.ref b1)) (fun h => by rw [Bd.returns] at h; cases h)
  refine ⟨_, _, pre0 _ ?_, hrun, hended, _, _, rfl, ?_, ⟨_, rfl⟩, hW, hsame.mono (by decide) (by decide)⟩
  · show SP p e below s₁ m 0 #[vr a0b] [] _
    refine st1 _ ?_
    show SP p e below T1 m 3 #[vr a0b] [(.ref b1)] _
    refine XS.dup X1.here hx rfl (dG hby D31 1 rfl) rfl rfl ?_
    refine XS.aloadN X1.here hx rfl (dG hby D31 2 rfl) rfl rfl ?_
    show SP p e below T1 m 5 #[vr a0b] [(.ref a0b), (.ref b1), (.ref b1)] _
    refine st2.trans ?_
    show SP p e below T2 m 8 #[vr a0b] [(.ref b1)] _
    exact retA X2 hx Bd.returns rfl (dG hby D31 4 rfl) hr
  · show Q_rmTs n0 Z cS aDE kDE aUS aSS aIE mO a0b y ky bs kc h0 _ T2.heap _
    exact ⟨b1, rfl, N2, K2, sz_b1, P2_0⟩
theorem D7 : dL jdk_30_method_1_code [(0, .aload_n 0, 1), (1, .invokespecial 1, 3), (4, .return_, 1)] = true := by decide +kernel
theorem pnv5 : plainName "java/lang/Record" = true := by first | (simp [plainName, overriddenIn]; done) | decide +kernel
abbrev MN_26 : MethodName := ⟨"java/lang/Record", "<init>", "()V"⟩
theorem ef_rmRec (m : MethodId) (a0p : Addr) : entryFrame m #[(.ref a0p)] 1 = mkF m 0 #[vr a0p] [] := by first | (simp [entryFrame, mkF, argsToLocals, Value.category]; done) | rfl
def Q_rmRec (n0 : Nat) (Z : State) (cS : Int32) (aDE : Addr) (kDE : ClassId) (aUS : Addr) (aSS : Addr) (aIE : Addr) (mO : Addr) (a0p : Addr) (h0 : Heap) (v : Option Value) (h : Heap) (L : List Loc) : Prop := v = none ∧ Fr n0 L ∧ h = h0
theorem rmRec (l : Launch) (Z : State) (a0 : Array Value) (hw : ∀ d ∈ tables_1, d.before a0 Z = true) (ws : List Jvm.Cond) (cS : Int32) (aDE : Addr) (kDE : ClassId) (aUS : Addr) (aSS : Addr) (aIE : Addr) (mO : Addr) (a0p : Addr) (h0 : Heap) (n0 : Nat) (O0 : Old Z n0 h0) (GL : GF Z cS aDE kDE aUS aSS aIE mO) :
    MF l MN_26 jdk_30_method_1_code 1 none ws (Rm 1 0 0 12) #[(.ref a0p)] Z h0 (Q_rmRec n0 Z cS aDE kDE aUS aSS aIE mO a0p h0) := by
  refine MetFree.of_bodySF (plainFor_of_name pnv5) hisR ?_
  intro p e s m args below meth c s₁ Bd hml0 hP hK
  obtain ⟨rfl, hZ, hh⟩ := hP
  have hx := Bd.exec
  have hby := Bd.bytes
  have hml : c.maxLocals = 1 := hml0
  have hown : s.vm.findClass "java/lang/Record" = some m.cls := findClass_of_methodNamed Bd.named
  have hnm := (name_of_methodNamed Bd.named Bd.method).1
  have X0 : Stand p l e (Rm 1 0 0 12) s m #[(.ref a0p)] below meth c s₁ [] 0 0 := Stand.of_body Bd
  have e0 : s₁.heap = h0 := by rw [← hh, Bd.state]; rfl
  have N0 := Fr.nil n0
  have pre0 : ∀ t, SP p e below s₁ m 0 #[vr a0p] [] t → Steps p.tables e below (s₁.setTop (entryFrame m #[(.ref a0p)] 1)) t := fun t k => castTop (ef_rmRec m a0p) k
  have GL' := GL
  obtain ⟨GCS, GCP, GDE, GVE, GUS, GSS, GIE, GMO⟩ := GL'
  obtain ⟨T1, X1, e1, st1⟩ := initO X0 hx hZ hown (Wd hw 50 rfl) (Wd hw 32 rfl) (Wd hw 33 rfl) e0 (g := mkF m 1 #[vr a0p] [(.ref a0p)]) rfl (by rw [hml]; rfl) rfl (dG hby D7 1 rfl) (by decide) (W := 0) (by show 2 * 0 + _ ≤ _; exact lEq rfl) (by decide)
  obtain ⟨fs, hr, hrun, hended, hW, hsame⟩ := X1.leave (v := none) (fun _ => rfl)
  refine ⟨_, _, pre0 _ ?_, hrun, hended, _, _, rfl, ?_, ⟨_, rfl⟩, hW, hsame.mono (by decide) (by decide)⟩
  · show SP p e below s₁ m 0 #[vr a0p] [] _
    refine XS.aloadN X0.here hx rfl (dG hby D7 0 rfl) rfl rfl ?_
    show SP p e below s₁ m 1 #[vr a0p] [(.ref a0p)] _
    refine st1 _ ?_
    show SP p e below T1 m 4 #[vr a0p] [] _
    exact X1.returnOut hx Bd.returns (dG hby D7 2 rfl) hr
  · show Q_rmRec n0 Z cS aDE kDE aUS aSS aIE mO a0p h0 _ T1.heap _
    rw [e1]
    exact ⟨rfl, N0, rfl⟩
theorem D6 : dL prog_17_method_1_code [(0, .aload_n 0, 1), (1, .invokespecial 1, 3), (4, .aload_n 0, 1), (5, .aload_n 1, 1), (6, .putfield 7, 3), (9, .aload_n 0, 1), (10, .aload_n 2, 1), (11, .putfield 13, 3), (14, .return_, 1)] = true := by decide +kernel
theorem pdv18 : parseMethodDescriptor "()V" = some ⟨[], none⟩ := by decide +kernel
theorem pnv6 : plainName "com/example/grantline/grantline/PolicyException$Problem" = true := by first | (simp [plainName, overriddenIn]; done) | decide +kernel
abbrev MN_27 : MethodName := ⟨"com/example/grantline/grantline/PolicyException$Problem", "<init>", "(Ljava/lang/String;Ljava/lang/String;)V"⟩
theorem ef_rmPi (m : MethodId) (a0p : Addr) (a1s : Addr) (a2s : Addr) : entryFrame m #[(.ref a0p), (.ref a1s), (.ref a2s)] 3 = mkF m 0 #[vr a0p, vr a1s, vr a2s] [] := by first | (simp [entryFrame, mkF, argsToLocals, Value.category]; done) | rfl
def Q_rmPi (n0 : Nat) (Z : State) (cS : Int32) (aDE : Addr) (kDE : ClassId) (aUS : Addr) (aSS : Addr) (aIE : Addr) (mO : Addr) (a0p : Addr) (a1s : Addr) (a2s : Addr) (h0 : Heap) (v : Option Value) (h : Heap) (L : List Loc) : Prop := v = none ∧ Fr n0 L ∧ Keep h0 h [a0p] ∧ (Exa Z h a0p "com/example/grantline/grantline/PolicyException$Problem") ∧ (Fld Z h a0p "com/example/grantline/grantline/PolicyException$Problem" "pointer" "Ljava/lang/String;" (.ref a1s)) ∧ (Fld Z h a0p "com/example/grantline/grantline/PolicyException$Problem" "description" "Ljava/lang/String;" (.ref a2s))
theorem rmPi (l : Launch) (Z : State) (a0 : Array Value) (hw : ∀ d ∈ tables_1, d.before a0 Z = true) (ws : List Jvm.Cond) (cS : Int32) (aDE : Addr) (kDE : ClassId) (aUS : Addr) (aSS : Addr) (aIE : Addr) (mO : Addr) (a0p : Addr) (a1s : Addr) (a2s : Addr) (h0 : Heap) (n0 : Nat) (O0 : Old Z n0 h0) (GL : GF Z cS aDE kDE aUS aSS aIE mO) (E_a0p : Exa Z h0 a0p "com/example/grantline/grantline/PolicyException$Problem") (F_pointer_a0p : Fld Z h0 a0p "com/example/grantline/grantline/PolicyException$Problem" "pointer" "Ljava/lang/String;" .null) (F_description_a0p : Fld Z h0 a0p "com/example/grantline/grantline/PolicyException$Problem" "description" "Ljava/lang/String;" .null) (g_a0p : n0 ≤ a0p) :
    MF l MN_27 prog_17_method_1_code 3 none ws (Rm 2 0 0 24) #[(.ref a0p), (.ref a1s), (.ref a2s)] Z h0 (Q_rmPi n0 Z cS aDE kDE aUS aSS aIE mO a0p a1s a2s h0) := by
  refine MetFree.of_bodySF (plainFor_of_name pnv6) hisR ?_
  intro p e s m args below meth c s₁ Bd hml0 hP hK
  obtain ⟨rfl, hZ, hh⟩ := hP
  have hx := Bd.exec
  have hby := Bd.bytes
  have hml : c.maxLocals = 3 := hml0
  have hown : s.vm.findClass "com/example/grantline/grantline/PolicyException$Problem" = some m.cls := findClass_of_methodNamed Bd.named
  have hnm := (name_of_methodNamed Bd.named Bd.method).1
  have X0 : Stand p l e (Rm 2 0 0 24) s m #[(.ref a0p), (.ref a1s), (.ref a2s)] below meth c s₁ [] 0 0 := Stand.of_body Bd
  have e0 : s₁.heap = h0 := by rw [← hh, Bd.state]; rfl
  have N0 := Fr.nil n0
  have pre0 : ∀ t, SP p e below s₁ m 0 #[vr a0p, vr a1s, vr a2s] [] t → Steps p.tables e below (s₁.setTop (entryFrame m #[(.ref a0p), (.ref a1s), (.ref a2s)] 3)) t := fun t k => castTop (ef_rmPi m a0p a1s a2s) k
  have GL' := GL
  obtain ⟨GCS, GCP, GDE, GVE, GUS, GSS, GIE, GMO⟩ := GL'
  obtain ⟨_, _, ⟨T1, L1, k1, n1⟩, -, X1, ⟨Lc1, hQ1, l1, y1, z1⟩, st1⟩ := X0.specialBack hx (y := MN_26) rfl hown (mvT hZ (Wd hw 45 rfl)) (mvT hZ (Wd hw 46 rfl)) (mvT hZ (Wd hw 49 rfl)) (by decide) (backOf (W := 0) (rmRec l Z a0 hw [] cS aDE kDE aUS aSS aIE mO a0p h0 n0 O0 GL) hZ (Wd hw 49 rfl) (Wd hw 48 rfl) (by decide) (by decide)) (g := mkF m 1 #[vr a0p, vr a1s, vr a2s] [(.ref a0p)]) rfl (by rw [hml]; rfl) (Steps.refl _) (a := a0p) (argsL := []) (rest := []) (lenOf pdv18 rfl) rfl (by show 2 * 0 + _ ≤ _; exact lEq rfl) (dG hby D6 1 rfl) (fun _ _ => ⟨rfl, e0, (by decide : 0 + 0 ≤ _), (by decide : 0 + 0 ≤ _)⟩)
  dsimp only [Pt.U, Pt.locs, Pt.cells, Pt.slots] at X1 l1 y1 z1 st1 hQ1
  subst l1 y1 z1
  obtain ⟨rfl, N1q, e1⟩ := hQ1
  have N1 := Fr.app N0 N1q
  obtain ⟨T2, h2, X2, e2, W2, st2⟩ := putF X1 hx hZ hown (host := "") (Or.inl (Wd hw 51 rfl)) Via.refl e1 F_pointer_a0p E_a0p (Or.inr ⟨(Wd hw 52 rfl), rfl, hnm⟩) (Wd hw 40 rfl) (ty := (.object "java/lang/String")) (by decide) rfl rfl (g := mkF m 6 #[vr a0p, vr a1s, vr a2s] [(.ref a1s), (.ref a0p)]) rfl rfl (dG hby D6 4 rfl)
  have Fw2 := F_pointer_a0p.same W2
  have K2 : Keep h0 h2 [a0p] := (Keep.refl h0 [a0p]).wr W2 (Or.inl (List.mem_of_getElem? (i := 0) rfl))
  have O2 := O0.wr W2 g_a0p
  have N2 := Fr.snoc X2 N1 g_a0p
  obtain ⟨T3, h3, X3, e3, W3, st3⟩ := putF X2 hx hZ hown (host := "") (Or.inl (Wd hw 53 rfl)) Via.refl e2 (F_description_a0p.other W2 (Or.inr (slot_ne (a0 := a0) (Or.inr (Wd hw 54 rfl)) (Or.inr (Wd hw 52 rfl)) (by decide) (t := (.object "java/lang/String")) (t' := (.object "java/lang/String")) (by decide) (by decide)))) (E_a0p.wr W2) (Or.inr ⟨(Wd hw 54 rfl), rfl, hnm⟩) (Wd hw 40 rfl) (ty := (.object "java/lang/String")) (by decide) rfl rfl (g := mkF m 11 #[vr a0p, vr a1s, vr a2s] [(.ref a2s), (.ref a0p)]) rfl rfl (dG hby D6 7 rfl)
  have Fw3 := (F_description_a0p.other W2 (Or.inr (slot_ne (a0 := a0) (Or.inr (Wd hw 54 rfl)) (Or.inr (Wd hw 52 rfl)) (by decide) (t := (.object "java/lang/String")) (t' := (.object "java/lang/String")) (by decide) (by decide)))).same W3
  have K3 : Keep h0 h3 [a0p] := K2.wr W3 (Or.inl (List.mem_of_getElem? (i := 0) rfl))
  have O3 := O2.wr W3 g_a0p
  have N3 := Fr.snoc X3 N2 g_a0p
  obtain ⟨fs, hr, hrun, hended, hW, hsame⟩ := X3.leave (v := none) (fun _ => rfl)
  refine ⟨_, _, pre0 _ ?_, hrun, hended, _, _, rfl, ?_, ⟨_, rfl⟩, hW, hsame.mono (by decide) (by decide)⟩
  · show SP p e below s₁ m 0 #[vr a0p, vr a1s, vr a2s] [] _
    refine XS.aloadN X0.here hx rfl (dG hby D6 0 rfl) rfl rfl ?_
    show SP p e below s₁ m 1 #[vr a0p, vr a1s, vr a2s] [(.ref a0p)] _
    refine st1.trans ?_
    show SP p e below T1 m 4 #[vr a0p, vr a1s, vr a2s] [] _
    refine XS.aloadN X1.here hx rfl (dG hby D6 2 rfl) rfl rfl ?_
    refine XS.aloadN X1.here hx rfl (dG hby D6 3 rfl) rfl rfl ?_
    show SP p e below T1 m 6 #[vr a0p, vr a1s, vr a2s] [(.ref a1s), (.ref a0p)] _
    refine st2 _ ?_
    show SP p e below T2 m 9 #[vr a0p, vr a1s, vr a2s] [] _
    refine XS.aloadN X2.here hx rfl (dG hby D6 5 rfl) rfl rfl ?_
    refine XS.aloadN X2.here hx rfl (dG hby D6 6 rfl) rfl rfl ?_
    show SP p e below T2 m 11 #[vr a0p, vr a1s, vr a2s] [(.ref a2s), (.ref a0p)] _
    refine st3 _ ?_
    show SP p e below T3 m 14 #[vr a0p, vr a1s, vr a2s] [] _
    exact X3.returnOut hx Bd.returns (dG hby D6 8 rfl) hr
  · show Q_rmPi n0 Z cS aDE kDE aUS aSS aIE mO a0p a1s a2s h0 _ T3.heap _
    rw [e3]
    exact ⟨rfl, N3, K3, ((E_a0p.wr W2).wr W3), (Fw2.other W3 (Or.inr (slot_ne (a0 := a0) (Or.inr (Wd hw 52 rfl)) (Or.inr (Wd hw 54 rfl)) (by decide) (t := (.object "java/lang/String")) (t' := (.object "java/lang/String")) (by decide) (by decide)))), Fw3⟩
theorem D20 : dL prog_17_method_2_code [(0, .new 16, 3), (3, .dup, 1), (4, .invokespecial 18, 3), (7, .aload_n 0, 1), (8, .getfield 7, 3), (11, .invokevirtual 19, 3), (14, .ldc 23, 2), (16, .invokevirtual 19, 3), (19, .aload_n 0, 1), (20, .getfield 13, 3), (23, .invokevirtual 19, 3), (26, .invokevirtual 25, 3), (29, .areturn, 1)] = true := by decide +kernel
theorem pdv19 : parseMethodDescriptor "(Ljava/lang/String;)Ljava/lang/StringBuilder;" = some ⟨[(.object "java/lang/String")], some (.object "java/lang/StringBuilder")⟩ := by decide +kernel
theorem pdv20 : parseMethodDescriptor "()Ljava/lang/String;" = some ⟨[], some (.object "java/lang/String")⟩ := by decide +kernel
abbrev MN_28 : MethodName := ⟨"com/example/grantline/grantline/PolicyException$Problem", "toString", "()Ljava/lang/String;"⟩
def Q_rmPt (n0 : Nat) (Z : State) (cS : Int32) (aDE : Addr) (kDE : ClassId) (aUS : Addr) (aSS : Addr) (aIE : Addr) (mO : Addr) (a0p : Addr) (sA : Addr) (vA : Addr) (kA : ClassId) (nA : Int32) (lA : List Value) (sB : Addr) (vB : Addr) (kB : ClassId) (nB : Int32) (lB : List Value) (h0 : Heap) (v : Option Value) (h : Heap) (L : List Loc) : Prop := ∃ b : Addr, v = some (.ref b) ∧ Fr n0 L ∧ Keep h0 h [] ∧ (h0.size ≤ b) ∧ (Exa Z h b "java/lang/String")
theorem rmPt (l : Launch) (Z : State) (a0 : Array Value) (hw : ∀ d ∈ tables_1, d.before a0 Z = true) (ws : List Jvm.Cond) (cS : Int32) (aDE : Addr) (kDE : ClassId) (aUS : Addr) (aSS : Addr) (aIE : Addr) (mO : Addr) (a0p : Addr) (sA : Addr) (vA : Addr) (kA : ClassId) (nA : Int32) (lA : List Value) (sB : Addr) (vB : Addr) (kB : ClassId) (nB : Int32) (lB : List Value) (h0 : Heap) (n0 : Nat) (O0 : Old Z n0 h0) (GL : GF Z cS aDE kDE aUS aSS aIE mO) (E_a0p : Exa Z h0 a0p "com/example/grantline/grantline/PolicyException$Problem") (F_pointer_a0p : Fld Z h0 a0p "com/example/grantline/grantline/PolicyException$Problem" "pointer" "Ljava/lang/String;" (.ref sA)) (F_description_a0p : Fld Z h0 a0p "com/example/grantline/grantline/PolicyException$Problem" "description" "Ljava/lang/String;" (.ref sB)) (E_sA : Exa Z h0 sA "java/lang/String") (F_value_sA : Fld Z h0 sA "java/lang/String" "value" "[B" (.ref vA)) (F_coder_sA : Fld Z h0 sA "java/lang/String" "coder" "B" (.int 0)) (V_vA : Arv Z h0 vA kA .byte nA lA (.int 0)) (E_sB : Exa Z h0 sB "java/lang/String") (F_value_sB : Fld Z h0 sB "java/lang/String" "value" "[B" (.ref vB)) (F_coder_sB : Fld Z h0 sB "java/lang/String" "coder" "B" (.int 0)) (V_vB : Arv Z h0 vB kB .byte nB lB (.int 0)) (hb0 : ¬ (nA < (0 : Int32))) (hb1 : ¬ ((2 : Int32) < nA)) (hb2 : ¬ (nB < (0 : Int32))) (hb3 : ¬ ((2 : Int32) < nB)) :
    MetFree l MN_28 (head1 (Jvm.Cond.code MN_28 prog_17_method_2_code 1 (some (.object "java/lang/String")) :: ws) (Rm 6 6 52 91)) (fun a U => a = #[(.ref a0p)] ∧ Z.Warmed39 U.vm ∧ U.heap = h0 ∧ CHv Z EL1 U.vm h0) (fun _ _ _ _ _ => True) (fun _ U o U' => ∃ v L, o = .returned v ∧ Q_rmPt n0 Z cS aDE kDE aUS aSS aIE mO a0p sA vA kA nA lA sB vB kB nB lB h0 v U'.heap L ∧ CHr Z EL1 U.vm U.heap U'.vm U'.heap ∧ ReturnedEndW U o U' L (Rm 6 6 52 91).cells (Rm 6 6 52 91).slots) := by
  refine MetFree.of_bodySF (plainFor_of_name pnv6) hisR ?_
  intro p e s m args below meth c s₁ Bd hml0 hP hK
  obtain ⟨rfl, hZ, hh, H0⟩ := hP
  have hx := Bd.exec
  have hby := Bd.bytes
  have hml : c.maxLocals = 1 := hml0
  have hown : s.vm.findClass "com/example/grantline/grantline/PolicyException$Problem" = some m.cls := findClass_of_methodNamed Bd.named
  have hnm := (name_of_methodNamed Bd.named Bd.method).1
  have X0 : Stand p l e (Rm 6 6 52 91) s m #[(.ref a0p)] below meth c s₁ [] 0 0 := Stand.of_body Bd
  have e0 : s₁.heap = h0 := by rw [← hh, Bd.state]; rfl
  have N0 := Fr.nil n0
  have pre0 : ∀ t, SP p e below s₁ m 0 #[vr a0p] [] t → Steps p.tables e below (s₁.setTop (entryFrame m #[(.ref a0p)] 1)) t := fun t k => castTop (ef_rmRec m a0p) k
  have X0w : Stand p l e (Rm 6 6 52 91) (s.setVm s.vm) m #[(.ref a0p)] below meth c s₁ [] 0 0 := X0
  have R0 : CHr Z EL1 s.vm h0 s.vm h0 := CHr.refl H0
  have hS0 : s.Since s.vm h0.size := (State.WarmedH.refl s).since _
  have GL' := GL
  obtain ⟨GCS, GCP, GDE, GVE, GUS, GSS, GIE, GMO⟩ := GL'
  obtain ⟨T1, h1, X1, e1, E1, A1, D1, -, st1⟩ := newO X0w hx hZ hown (Wd hw 132 rfl) (Wd hw 133 rfl) (Wd hw 134 rfl) e0 (g := mkF m 0 #[vr a0p] []) rfl (dG hby D20 0 rfl) (by decide) (by decide)
  obtain ⟨b1, g1⟩ : ∃ z, z = h0.size := ⟨_, rfl⟩
  rw [← g1] at A1 D1 st1
  have g_b1 : n0 ≤ b1 := lTr (own_sz O0) (lEq g1.symm)
  have sz_b1 : h0.size ≤ b1 := lTr (Keep.refl h0 []).1 (lEq g1.symm)
  have H_2 := H0.ext E1
  have R_2 := R0.trans (CHr.ext E1 H0)
  have K1 : Keep h0 h1 [] := (Keep.refl h0 []).ext E1
  have O1 := O0.ext E1
  have F_value_b1 : Fld Z h1 b1 "java/lang/AbstractStringBuilder" "value" "[B" .null := D1 (Or.inl (Wd hw 147 rfl)) (ty := (.array .byte)) (by decide)
  have F_coder_b1 : Fld Z h1 b1 "java/lang/AbstractStringBuilder" "coder" "B" (.int 0) := D1 (Or.inl (Wd hw 149 rfl)) (ty := .byte) (by decide)
  have F_count_b1 : Fld Z h1 b1 "java/lang/AbstractStringBuilder" "count" "I" (.int 0) := D1 (Or.inl (Wd hw 174 rfl)) (ty := .int) (by decide)
  obtain ⟨_, _, ⟨T3, L3, k3, n3⟩, -, X3, ⟨Lc3, hQ3, l3, y3, z3⟩, st3⟩ := X1.specialBack hx (y := MN_9) rfl hown (mvT hZ (Wd hw 135 rfl)) (mvT hZ (Wd hw 136 rfl)) (mvT hZ (Wd hw 137 rfl)) (by decide) (backOf (W := 1) (rmSb l Z a0 hw [] cS aDE kDE aUS aSS aIE mO b1 h1 n0 O1 GL A1 F_value_b1 F_coder_b1 F_count_b1 g_b1) hZ (Wd hw 137 rfl) (Wd hw 134 rfl) (by decide) (by decide)) (g := mkF m 4 #[vr a0p] [(.ref b1), (.ref b1)]) rfl (by rw [hml]; rfl) (Steps.refl _) (a := b1) (argsL := []) (rest := [(.ref b1)]) (lenOf pdv18 rfl) rfl (by show 2 * 0 + _ ≤ _; exact lEq rfl) (dG hby D20 2 rfl) (fun _ _ => ⟨rfl, e1, (by decide : 1 + 1 ≤ _), (by decide : 4 + 16 ≤ _)⟩)
  dsimp only [Pt.U, Pt.locs, Pt.cells, Pt.slots] at X3 l3 y3 z3 st3 hQ3
  subst l3 y3 z3
  obtain ⟨y_3, ky_3, rfl, N3q, Kc3, P3_0, P3_1, P3_2, P3_3, P3_4, P3_5, P3_6⟩ := hQ3
  have K3 : Keep h0 T3.heap [] := K1.trans Kc3 (allS (Or.inr sz_b1) all0)
  have O3 := O1.keep Kc3 (allS g_b1 all0)
  have Sf5 : Safe Z EL1 s.vm h1 b1 := Safe.exa (EL := EL1) hZ.alike A1 (by decide) (by decide)
  have H_4 := H_2.keep Kc3 (sfS Sf5 sf0)
  have R_4 := R_2.trans (CHr.keep Kc3 (sfS Sf5 sf0) H_2)
  have g_y_3 : n0 ≤ y_3 := lTr (own_sz O1) P3_0
  have sz_y_3 : h0.size ≤ y_3 := lTr K1.1 P3_0
  have N3 := Fr.app N0 N3q
  obtain ⟨T6, X6, e6, st6⟩ := getF X3 hx hZ hown (host := "") (Or.inl (Wd hw 51 rfl)) Via.refl rfl ((F_pointer_a0p.ext E1).keep Kc3 (ninS (nLt (lLt E_a0p.lt (lEq g1.symm))) nin0)) (g := mkF m 8 #[vr a0p] [(.ref a0p), (.ref b1)]) rfl rfl (dG hby D20 4 rfl)
  obtain ⟨cq7, kq7, q7a, q7b, q7c⟩ := isOf hZ e6 P3_2
  obtain ⟨_, _, ⟨T7, L7, k7, n7⟩, -, X7, ⟨Lc7, hQ7, l7, y7, z7⟩, st7⟩ := X6.virtualBack hx (y := MN_15) (z := MN_15) hown (mvT hZ (Wd hw 150 rfl)) (mvT hZ (Wd hw 151 rfl)) (notFace_of_selects (args := #[]) (mvT hZ (Wd hw 153 rfl))) (mvT hZ (Wd hw 153 rfl)) (mvT hZ (Wd hw 152 rfl)) (by decide) (backOf (W := 0) (rmApp l Z a0 hw [] cS aDE kDE aUS aSS aIE mO b1 sA y_3 ky_3 ([(.int 0), (.int 0), (.int 0), (.int 0), (.int 0), (.int 0), (.int 0), (.int 0), (.int 0), (.int 0), (.int 0), (.int 0), (.int 0), (.int 0), (.int 0), (.int 0)]) ((0 : Int32)) vA kA nA lA (T3.heap) n0 O3 GL P3_2 P3_3 P3_4 P3_5 P3_6 rfl g_b1 g_y_3 ((E_sA.ext E1).keep Kc3) ((F_value_sA.ext E1).keep Kc3 (ninS (nLt (lLt E_sA.lt (lEq g1.symm))) nin0)) ((F_coder_sA.ext E1).keep Kc3 (ninS (nLt (lLt E_sA.lt (lEq g1.symm))) nin0)) ((V_vA.ext E1).keep Kc3 (ninS (nLt (lLt V_vA.lt (lEq g1.symm))) nin0)) (by decide) (by decide) hb0 hb1) hZ (Wd hw 154 rfl) (Wd hw 134 rfl) (by decide) (by decide)) q7a q7c (g := mkF m 11 #[vr a0p] [(.ref sA), (.ref b1)]) rfl (by rw [hml]; rfl) (Steps.refl _) (argsL := [(.ref sA)]) (rest := []) (lenOf pdv19 rfl) rfl (by show 2 * 0 + _ ≤ _; exact lEq rfl) (dG hby D20 5 rfl) (fun _ _ => ⟨rfl, e6, (by decide : 2 + 0 ≤ _), (by decide : 20 + 0 ≤ _)⟩)
  dsimp only [Pt.U, Pt.locs, Pt.cells, Pt.slots] at X7 l7 y7 z7 st7 hQ7
  subst l7 y7 z7
  obtain ⟨bs2_7, rfl, N7q, Kc7, P7_0, P7_1, P7_2, P7_3, P7_4, P7_5⟩ := hQ7
  have K7 : Keep h0 T7.heap [] := K3.trans Kc7 (allS (Or.inr sz_b1) (allS (Or.inr sz_y_3) all0))
  have O7 := O3.keep Kc7 (allS g_b1 (allS g_y_3 all0))
  have Sf9 : Safe Z EL1 s.vm T3.heap y_3 := (Safe.keep Kc3 (sfS Sf5 sf0) H_2 (Safe.new (Z := Z) (EL := EL1) (vm := s.vm) P3_0))
  have Sf10 : Safe Z EL1 s.vm T3.heap b1 := Safe.exa (EL := EL1) hZ.alike P3_2 (by decide) (by decide)
  have H_8 := H_4.keep Kc7 (sfS Sf10 (sfS Sf9 sf0))
  have R_8 := R_4.trans (CHr.keep Kc7 (sfS Sf10 (sfS Sf9 sf0)) H_4)
  have N7 := Fr.app N3 N7q
  have hc := own_c1 hb0 hb1
  obtain ⟨a11, T11, h11, k111, b11, kc11, X11, e11, E11, hS11, hk11, hZ11, hown11, A11, Fc11, Fv11, V11, la11, lb11, Rs11, Li11, nel11, st11⟩ := ldcCH X7 hx hZ hown (Wd hw 200 rfl) (own_wS hw) rfl hS0 (lTr (lTr (lTr (Nat.le_refl _) E1.1) Kc3.1) Kc7.1) (own_EW hw) (List.mem_of_getElem? (i := 0) rfl) H_8 (vs := [(.int 58), (.int 32)]) (z := (2 : Int32)) ⟨by decide, by decide⟩ (by decide) rfl (g := mkF m 14 #[vr a0p] [(.ref b1)]) rfl (dG hby D20 6 rfl) (n := 8) (by decide) (by decide) (by decide) (by decide)
  have H_12 := Rs11.1
  have R_12 := R_8.trans Rs11
  have K11 : Keep h0 h11 [] := K7.ext E11
  have O11 := O7.ext E11
  obtain ⟨cq13, kq13, q13a, q13b, q13c⟩ := isOf hZ11 e11 (P7_0.ext E11)
  obtain ⟨_, _, ⟨T13, L13, k13, n13⟩, -, X13, ⟨Lc13, hQ13, l13, y13, z13⟩, st13⟩ := X11.virtualBack hx (y := MN_15) (z := MN_15) hown11 (mvT hZ11 (Wd hw 150 rfl)) (mvT hZ11 (Wd hw 151 rfl)) (notFace_of_selects (args := #[]) (mvT hZ11 (Wd hw 153 rfl))) (mvT hZ11 (Wd hw 153 rfl)) (mvT hZ11 (Wd hw 152 rfl)) (by decide) (backOf (W := 0) (rmApp l Z a0 hw [] cS aDE kDE aUS aSS aIE mO b1 a11 y_3 ky_3 bs2_7 (((0 : Int32) + nA)) b11 kc11 ((2 : Int32)) ([(.int 58), (.int 32)]) h11 n0 O11 GL (P7_0.ext E11) (P7_1.ext E11) (P7_2.ext E11) (P7_3.ext E11) (P7_4.ext E11) P7_5 g_b1 g_y_3 A11 Fv11 Fc11 V11 hc.1 hc.2.1 (by decide) (by decide)) hZ11 (Wd hw 154 rfl) (Wd hw 134 rfl) (by decide) (by decide)) q13a q13c (g := mkF m 16 #[vr a0p] [(.ref a11), (.ref b1)]) rfl (by rw [hml]; rfl) (Steps.refl _) (argsL := [(.ref a11)]) (rest := []) (lenOf pdv19 rfl) rfl (by show 2 * 0 + _ ≤ _; exact lEq rfl) (dG hby D20 7 rfl) (fun _ _ => ⟨rfl, e11, (by decide : 4 + 0 ≤ _), (by decide : 32 + 0 ≤ _)⟩)
  dsimp only [Pt.U, Pt.locs, Pt.cells, Pt.slots] at X13 l13 y13 z13 st13 hQ13
  subst l13 y13 z13
  obtain ⟨bs2_13, rfl, N13q, Kc13, P13_0, P13_1, P13_2, P13_3, P13_4, P13_5⟩ := hQ13
  have K13 : Keep h0 T13.heap [] := K11.trans Kc13 (allS (Or.inr sz_b1) (allS (Or.inr sz_y_3) all0))
  have O13 := O11.keep Kc13 (allS g_b1 (allS g_y_3 all0))
  have Sf15 : Safe Z EL1 T11.vm h11 y_3 := (CHr.safe Rs11 (lLt P3_1.lt Kc7.1) (Safe.keep Kc7 (sfS Sf10 (sfS Sf9 sf0)) H_4 Sf9))
  have Sf16 : Safe Z EL1 T11.vm h11 b1 := Safe.exa (EL := EL1) hZ11.alike (P7_0.ext E11) (by decide) (by decide)
  have H_14 := H_12.keep Kc13 (sfS Sf16 (sfS Sf15 sf0))
  have R_14 := R_12.trans (CHr.keep Kc13 (sfS Sf16 (sfS Sf15 sf0)) H_12)
  have N13 := Fr.app N7 N13q
  obtain ⟨T17, X17, e17, st17⟩ := getF X13 hx hZ11 hown11 (host := "") (Or.inl (Wd hw 53 rfl)) Via.refl rfl (((((F_description_a0p.ext E1).keep Kc3 (ninS (nLt (lLt E_a0p.lt (lEq g1.symm))) nin0)).keep Kc7 (ninS (nLt (lLt E_a0p.lt (lEq g1.symm))) (ninS (nLt (lLt (lLt E_a0p.lt E1.1) P3_0)) nin0))).ext E11).keep Kc13 (ninS (nLt (lLt E_a0p.lt (lEq g1.symm))) (ninS (nLt (lLt (lLt E_a0p.lt E1.1) P3_0)) nin0))) (g := mkF m 20 #[vr a0p] [(.ref a0p), (.ref b1)]) rfl rfl (dG hby D20 9 rfl)
  obtain ⟨cq18, kq18, q18a, q18b, q18c⟩ := isOf hZ11 e17 P13_0
  obtain ⟨_, _, ⟨T18, L18, k18, n18⟩, -, X18, ⟨Lc18, hQ18, l18, y18, z18⟩, st18⟩ := X17.virtualBack hx (y := MN_15) (z := MN_15) hown11 (mvT hZ11 (Wd hw 150 rfl)) (mvT hZ11 (Wd hw 151 rfl)) (notFace_of_selects (args := #[]) (mvT hZ11 (Wd hw 153 rfl))) (mvT hZ11 (Wd hw 153 rfl)) (mvT hZ11 (Wd hw 152 rfl)) (by decide) (backOf (W := 0) (rmApp l Z a0 hw [] cS aDE kDE aUS aSS aIE mO b1 sB y_3 ky_3 bs2_13 ((((0 : Int32) + nA) + (2 : Int32))) vB kB nB lB (T13.heap) n0 O13 GL P13_0 P13_1 P13_2 P13_3 P13_4 P13_5 g_b1 g_y_3 (((((E_sB.ext E1).keep Kc3).keep Kc7).ext E11).keep Kc13) (((((F_value_sB.ext E1).keep Kc3 (ninS (nLt (lLt E_sB.lt (lEq g1.symm))) nin0)).keep Kc7 (ninS (nLt (lLt E_sB.lt (lEq g1.symm))) (ninS (nLt (lLt (lLt E_sB.lt E1.1) P3_0)) nin0))).ext E11).keep Kc13 (ninS (nLt (lLt E_sB.lt (lEq g1.symm))) (ninS (nLt (lLt (lLt E_sB.lt E1.1) P3_0)) nin0))) (((((F_coder_sB.ext E1).keep Kc3 (ninS (nLt (lLt E_sB.lt (lEq g1.symm))) nin0)).keep Kc7 (ninS (nLt (lLt E_sB.lt (lEq g1.symm))) (ninS (nLt (lLt (lLt E_sB.lt E1.1) P3_0)) nin0))).ext E11).keep Kc13 (ninS (nLt (lLt E_sB.lt (lEq g1.symm))) (ninS (nLt (lLt (lLt E_sB.lt E1.1) P3_0)) nin0))) (((((V_vB.ext E1).keep Kc3 (ninS (nLt (lLt V_vB.lt (lEq g1.symm))) nin0)).keep Kc7 (ninS (nLt (lLt V_vB.lt (lEq g1.symm))) (ninS (nLt (lLt (lLt V_vB.lt E1.1) P3_0)) nin0))).ext E11).keep Kc13 (ninS (nLt (lLt V_vB.lt (lEq g1.symm))) (ninS (nLt (lLt (lLt V_vB.lt E1.1) P3_0)) nin0))) hc.2.2.1 hc.2.2.2 hb2 hb3) hZ11 (Wd hw 154 rfl) (Wd hw 134 rfl) (by decide) (by decide)) q18a q18c (g := mkF m 23 #[vr a0p] [(.ref sB), (.ref b1)]) rfl (by rw [hml]; rfl) (Steps.refl _) (argsL := [(.ref sB)]) (rest := []) (lenOf pdv19 rfl) rfl (by show 2 * 0 + _ ≤ _; exact lEq rfl) (dG hby D20 10 rfl) (fun _ _ => ⟨rfl, e17, (by decide : 4 + 0 ≤ _), (by decide : 32 + 0 ≤ _)⟩)
  dsimp only [Pt.U, Pt.locs, Pt.cells, Pt.slots] at X18 l18 y18 z18 st18 hQ18
  subst l18 y18 z18
  obtain ⟨bs2_18, rfl, N18q, Kc18, P18_0, P18_1, P18_2, P18_3, P18_4, P18_5⟩ := hQ18
  have K18 : Keep h0 T18.heap [] := K13.trans Kc18 (allS (Or.inr sz_b1) (allS (Or.inr sz_y_3) all0))
  have O18 := O13.keep Kc18 (allS g_b1 (allS g_y_3 all0))
  have Sf20 : Safe Z EL1 T11.vm T13.heap y_3 := (Safe.keep Kc13 (sfS Sf16 (sfS Sf15 sf0)) H_12 Sf15)
  have Sf21 : Safe Z EL1 T11.vm T13.heap b1 := Safe.exa (EL := EL1) hZ11.alike P13_0 (by decide) (by decide)
  have H_19 := H_14.keep Kc18 (sfS Sf21 (sfS Sf20 sf0))
  have R_19 := R_14.trans (CHr.keep Kc18 (sfS Sf21 (sfS Sf20 sf0)) H_14)
  have N18 := Fr.app N13 N18q
  have hd := own_c2 hb0 hb1 hb2 hb3
  obtain ⟨cq22, kq22, q22a, q22b, q22c⟩ := isOf hZ11 rfl P18_0
  obtain ⟨_, _, ⟨T22, L22, k22, n22⟩, -, X22, ⟨Lc22, hQ22, l22, y22, z22⟩, st22⟩ := X18.virtualBack hx (y := MN_25) (z := MN_25) hown11 (mvT hZ11 (Wd hw 201 rfl)) (mvT hZ11 (Wd hw 202 rfl)) (notFace_of_selects (args := #[]) (mvT hZ11 (Wd hw 204 rfl))) (mvT hZ11 (Wd hw 204 rfl)) (mvT hZ11 (Wd hw 203 rfl)) (by decide) (backOf (W := 0) (rmTs l Z a0 hw [] cS aDE kDE aUS aSS aIE mO b1 y_3 ky_3 bs2_18 (((((0 : Int32) + nA) + (2 : Int32)) + nB)) (T18.heap) n0 O18 GL P18_0 P18_1 P18_2 P18_3 P18_4 hd.1 hd.2.1 hd.2.2.2 hd.2.2.1) hZ11 (Wd hw 205 rfl) (Wd hw 134 rfl) (by decide) (by decide)) q22a q22c (g := mkF m 26 #[vr a0p] [(.ref b1)]) rfl (by rw [hml]; rfl) (Steps.refl _) (argsL := []) (rest := []) (lenOf pdv20 rfl) rfl (by show 2 * 0 + _ ≤ _; exact lEq rfl) (dG hby D20 11 rfl) (fun _ _ => ⟨rfl, rfl, (by decide : 4 + 2 ≤ _), (by decide : 32 + 20 ≤ _)⟩)
  dsimp only [Pt.U, Pt.locs, Pt.cells, Pt.slots] at X22 l22 y22 z22 st22 hQ22
  subst l22 y22 z22
  obtain ⟨b_22, rfl, N22q, Kc22, P22_0, P22_1⟩ := hQ22
  have K22 : Keep h0 T22.heap [] := K18.trans Kc22 all0
  have O22 := O18.keep Kc22 all0
  have H_23 := H_19.keep Kc22 sf0
  have R_23 := R_19.trans (CHr.keep Kc22 sf0 H_19)
  have g_b_22 : n0 ≤ b_22 := lTr (own_sz O18) P22_0
  have sz_b_22 : h0.size ≤ b_22 := lTr K18.1 P22_0
  have N22 := Fr.app N18 N22q
  obtain ⟨fs, hr, hrun, hended, hRW⟩ := X22.leaveW hS11 (lTr (lTr (lTr hk11 Kc13.1) Kc18.1) Kc22.1) (v := some (.ref b_22)) (fun h => by rw [Bd.returns] at h; cases h)
  have hCR : CHr Z EL1 s.vm s.heap T22.vm T22.heap := by
    rw [hh]
    exact R_23.trans (CHv.at X22 hZ11 (own_EW hw) H_23)
  refine ⟨_, _, pre0 _ ?_, hrun, hended, _, _, rfl, ?_, hCR, hRW.1, hRW.2.1, hRW.2.2.1, hRW.2.2.2.mono (by decide) (by decide)⟩
  · show SP p e below s₁ m 0 #[vr a0p] [] _
    refine st1 _ ?_
    show SP p e below T1 m 3 #[vr a0p] [(.ref b1)] _
    refine XS.dup X1.here hx rfl (dG hby D20 1 rfl) rfl rfl ?_
    show SP p e below T1 m 4 #[vr a0p] [(.ref b1), (.ref b1)] _
    refine st3.trans ?_
    show SP p e below T3 m 7 #[vr a0p] [(.ref b1)] _
    refine XS.aloadN X3.here hx rfl (dG hby D20 3 rfl) rfl rfl ?_
    show SP p e below T3 m 8 #[vr a0p] [(.ref a0p), (.ref b1)] _
    refine st6 _ ?_
    show SP p e below T6 m 11 #[vr a0p] [(.ref sA), (.ref b1)] _
    refine st7.trans ?_
    show SP p e below T7 m 14 #[vr a0p] [(.ref b1)] _
    refine st11 _ ?_
    show SP p e below T11 m 16 #[vr a0p] [(.ref a11), (.ref b1)] _
    refine st13.trans ?_
    show SP p e below T13 m 19 #[vr a0p] [(.ref b1)] _
    refine XS.aloadN X13.here hx rfl (dG hby D20 8 rfl) rfl rfl ?_
    show SP p e below T13 m 20 #[vr a0p] [(.ref a0p), (.ref b1)] _
    refine st17 _ ?_
    show SP p e below T17 m 23 #[vr a0p] [(.ref sB), (.ref b1)] _
    refine st18.trans ?_
    show SP p e below T18 m 26 #[vr a0p] [(.ref b1)] _
    refine st22.trans ?_
    show SP p e below T22 m 29 #[vr a0p] [(.ref b_22)] _
    exact retA X22 hx Bd.returns rfl (dG hby D20 12 rfl) hr
  · show Q_rmPt n0 Z cS aDE kDE aUS aSS aIE mO a0p sA vA kA nA lA sB vB kB nB lB h0 _ T22.heap _
    exact ⟨b_22, rfl, N22, K22, sz_b_22, P22_1⟩
theorem D58 : dL prog_17_method_6_code [(0, .aload_n 0, 1), (1, .getfield 13, 3), (4, .areturn, 1)] = true := by decide +kernel
abbrev MN_29 : MethodName := ⟨"com/example/grantline/grantline/PolicyException$Problem", "description", "()Ljava/lang/String;"⟩
def Q_rmGd (n0 : Nat) (Z : State) (cS : Int32) (aDE : Addr) (kDE : ClassId) (aUS : Addr) (aSS : Addr) (aIE : Addr) (mO : Addr) (a0p : Addr) (gv : Addr) (h0 : Heap) (v : Option Value) (h : Heap) (L : List Loc) : Prop := v = some (.ref gv) ∧ Fr n0 L ∧ h = h0
theorem rmGd (l : Launch) (Z : State) (a0 : Array Value) (hw : ∀ d ∈ tables_1, d.before a0 Z = true) (ws : List Jvm.Cond) (cS : Int32) (aDE : Addr) (kDE : ClassId) (aUS : Addr) (aSS : Addr) (aIE : Addr) (mO : Addr) (a0p : Addr) (gv : Addr) (h0 : Heap) (n0 : Nat) (O0 : Old Z n0 h0) (GL : GF Z cS aDE kDE aUS aSS aIE mO) (F_description_a0p : Fld Z h0 a0p "com/example/grantline/grantline/PolicyException$Problem" "description" "Ljava/lang/String;" (.ref gv)) :
    MF l MN_29 prog_17_method_6_code 1 (some (.object "java/lang/String")) ws (Rm 0 0 0 0) #[(.ref a0p)] Z h0 (Q_rmGd n0 Z cS aDE kDE aUS aSS aIE mO a0p gv h0) := by
  refine MetFree.of_bodySF (plainFor_of_name pnv6) hisR ?_
  intro p e s m args below meth c s₁ Bd hml0 hP hK
  obtain ⟨rfl, hZ, hh⟩ := hP
  have hx := Bd.exec
  have hby := Bd.bytes
  have hml : c.maxLocals = 1 := hml0
  have hown : s.vm.findClass "com/example/grantline/grantline/PolicyException$Problem" = some m.cls := findClass_of_methodNamed Bd.named
  have hnm := (name_of_methodNamed Bd.named Bd.method).1
  have X0 : Stand p l e (Rm 0 0 0 0) s m #[(.ref a0p)] below meth c s₁ [] 0 0 := Stand.of_body Bd
  have e0 : s₁.heap = h0 := by rw [← hh, Bd.state]; rfl
  have N0 := Fr.nil n0
  have pre0 : ∀ t, SP p e below s₁ m 0 #[vr a0p] [] t → Steps p.tables e below (s₁.setTop (entryFrame m #[(.ref a0p)] 1)) t := fun t k => castTop (ef_rmRec m a0p) k
  have GL' := GL
  obtain ⟨GCS, GCP, GDE, GVE, GUS, GSS, GIE, GMO⟩ := GL'
  obtain ⟨T1, X1, e1, st1⟩ := getF X0 hx hZ hown (host := "") (Or.inl (Wd hw 53 rfl)) Via.refl e0 F_description_a0p (g := mkF m 1 #[vr a0p] [(.ref a0p)]) rfl rfl (dG hby D58 1 rfl)
  obtain ⟨fs, hr, hrun, hended, hW, hsame⟩ := X1.leave (v := some (.ref gv)) (fun h => by rw [Bd.returns] at h; cases h)
  refine ⟨_, _, pre0 _ ?_, hrun, hended, _, _, rfl, ?_, ⟨_, rfl⟩, hW, hsame.mono (by decide) (by decide)⟩
  · show SP p e below s₁ m 0 #[vr a0p] [] _
    refine XS.aloadN X0.here hx rfl (dG hby D58 0 rfl) rfl rfl ?_
    show SP p e below s₁ m 1 #[vr a0p] [(.ref a0p)] _
    refine st1 _ ?_
    show SP p e below T1 m 4 #[vr a0p] [(.ref gv)] _
    exact retA X1 hx Bd.returns rfl (dG hby D58 2 rfl) hr
  · show Q_rmGd n0 Z cS aDE kDE aUS aSS aIE mO a0p gv h0 _ T1.heap _
    rw [e1]
    exact ⟨rfl, N0, rfl⟩
theorem D4 : dL jdk_22_method_1_code [(0, .aload_n 0, 1), (1, .invokespecial 1, 3), (4, .return_, 1)] = true := by decide +kernel
theorem pnv7 : plainName "java/util/AbstractCollection" = true := by first | (simp [plainName, overriddenIn]; done) | decide +kernel
abbrev MN_30 : MethodName := ⟨"java/util/AbstractCollection", "<init>", "()V"⟩
theorem ef_rmAbc (m : MethodId) (a0l : Addr) : entryFrame m #[(.ref a0l)] 1 = mkF m 0 #[vr a0l] [] := by first | (simp [entryFrame, mkF, argsToLocals, Value.category]; done) | rfl
def Q_rmAbc (n0 : Nat) (Z : State) (cS : Int32) (aDE : Addr) (kDE : ClassId) (aUS : Addr) (aSS : Addr) (aIE : Addr) (mO : Addr) (a0l : Addr) (h0 : Heap) (v : Option Value) (h : Heap) (L : List Loc) : Prop := v = none ∧ Fr n0 L ∧ h = h0
theorem rmAbc (l : Launch) (Z : State) (a0 : Array Value) (hw : ∀ d ∈ tables_1, d.before a0 Z = true) (ws : List Jvm.Cond) (cS : Int32) (aDE : Addr) (kDE : ClassId) (aUS : Addr) (aSS : Addr) (aIE : Addr) (mO : Addr) (a0l : Addr) (h0 : Heap) (n0 : Nat) (O0 : Old Z n0 h0) (GL : GF Z cS aDE kDE aUS aSS aIE mO) :
    MF l MN_30 jdk_22_method_1_code 1 none ws (Rm 1 0 0 12) #[(.ref a0l)] Z h0 (Q_rmAbc n0 Z cS aDE kDE aUS aSS aIE mO a0l h0) := by
  refine MetFree.of_bodySF (plainFor_of_name pnv7) hisR ?_
  intro p e s m args below meth c s₁ Bd hml0 hP hK
  obtain ⟨rfl, hZ, hh⟩ := hP
  have hx := Bd.exec
  have hby := Bd.bytes
  have hml : c.maxLocals = 1 := hml0
  have hown : s.vm.findClass "java/util/AbstractCollection" = some m.cls := findClass_of_methodNamed Bd.named
  have hnm := (name_of_methodNamed Bd.named Bd.method).1
  have X0 : Stand p l e (Rm 1 0 0 12) s m #[(.ref a0l)] below meth c s₁ [] 0 0 := Stand.of_body Bd
  have e0 : s₁.heap = h0 := by rw [← hh, Bd.state]; rfl
  have N0 := Fr.nil n0
  have pre0 : ∀ t, SP p e below s₁ m 0 #[vr a0l] [] t → Steps p.tables e below (s₁.setTop (entryFrame m #[(.ref a0l)] 1)) t := fun t k => castTop (ef_rmAbc m a0l) k
  have GL' := GL
  obtain ⟨GCS, GCP, GDE, GVE, GUS, GSS, GIE, GMO⟩ := GL'
  obtain ⟨T1, X1, e1, st1⟩ := initO X0 hx hZ hown (Wd hw 31 rfl) (Wd hw 32 rfl) (Wd hw 33 rfl) e0 (g := mkF m 1 #[vr a0l] [(.ref a0l)]) rfl (by rw [hml]; rfl) rfl (dG hby D4 1 rfl) (by decide) (W := 0) (by show 2 * 0 + _ ≤ _; exact lEq rfl) (by decide)
  obtain ⟨fs, hr, hrun, hended, hW, hsame⟩ := X1.leave (v := none) (fun _ => rfl)
  refine ⟨_, _, pre0 _ ?_, hrun, hended, _, _, rfl, ?_, ⟨_, rfl⟩, hW, hsame.mono (by decide) (by decide)⟩
  · show SP p e below s₁ m 0 #[vr a0l] [] _
    refine XS.aloadN X0.here hx rfl (dG hby D4 0 rfl) rfl rfl ?_
    show SP p e below s₁ m 1 #[vr a0l] [(.ref a0l)] _
    refine st1 _ ?_
    show SP p e below T1 m 4 #[vr a0l] [] _
    exact X1.returnOut hx Bd.returns (dG hby D4 2 rfl) hr
  · show Q_rmAbc n0 Z cS aDE kDE aUS aSS aIE mO a0l h0 _ T1.heap _
    rw [e1]
    exact ⟨rfl, N0, rfl⟩
theorem D3 : dL jdk_39_method_1_code [(0, .aload_n 0, 1), (1, .invokespecial 1, 3), (4, .aload_n 0, 1), (5, .iconst 0, 1), (6, .putfield 7, 3), (9, .return_, 1)] = true := by decide +kernel
theorem pnv8 : plainName "java/util/AbstractList" = true := by first | (simp [plainName, overriddenIn]; done) | decide +kernel
abbrev MN_31 : MethodName := ⟨"java/util/AbstractList", "<init>", "()V"⟩
def Q_rmAbl (n0 : Nat) (Z : State) (cS : Int32) (aDE : Addr) (kDE : ClassId) (aUS : Addr) (aSS : Addr) (aIE : Addr) (mO : Addr) (a0l : Addr) (h0 : Heap) (v : Option Value) (h : Heap) (L : List Loc) : Prop := v = none ∧ Fr n0 L ∧ Keep h0 h [a0l] ∧ (Exa Z h a0l "java/util/ArrayList") ∧ (Fld Z h a0l "java/util/ArrayList" "elementData" "[Ljava/lang/Object;" .null) ∧ (Fld Z h a0l "java/util/ArrayList" "size" "I" (.int 0)) ∧ (Fld Z h a0l "java/util/AbstractList" "modCount" "I" (.int 0))
theorem rmAbl (l : Launch) (Z : State) (a0 : Array Value) (hw : ∀ d ∈ tables_1, d.before a0 Z = true) (ws : List Jvm.Cond) (cS : Int32) (aDE : Addr) (kDE : ClassId) (aUS : Addr) (aSS : Addr) (aIE : Addr) (mO : Addr) (a0l : Addr) (h0 : Heap) (n0 : Nat) (O0 : Old Z n0 h0) (GL : GF Z cS aDE kDE aUS aSS aIE mO) (E_a0l : Exa Z h0 a0l "java/util/ArrayList") (F_elementData_a0l : Fld Z h0 a0l "java/util/ArrayList" "elementData" "[Ljava/lang/Object;" .null) (F_size_a0l : Fld Z h0 a0l "java/util/ArrayList" "size" "I" (.int 0)) (F_modCount_a0l : Fld Z h0 a0l "java/util/AbstractList" "modCount" "I" (.int 0)) (g_a0l : n0 ≤ a0l) :
    MF l MN_31 jdk_39_method_1_code 1 none ws (Rm 2 0 0 24) #[(.ref a0l)] Z h0 (Q_rmAbl n0 Z cS aDE kDE aUS aSS aIE mO a0l h0) := by
  refine MetFree.of_bodySF (plainFor_of_name pnv8) hisR ?_
  intro p e s m args below meth c s₁ Bd hml0 hP hK
  obtain ⟨rfl, hZ, hh⟩ := hP
  have hx := Bd.exec
  have hby := Bd.bytes
  have hml : c.maxLocals = 1 := hml0
  have hown : s.vm.findClass "java/util/AbstractList" = some m.cls := findClass_of_methodNamed Bd.named
  have hnm := (name_of_methodNamed Bd.named Bd.method).1
  have X0 : Stand p l e (Rm 2 0 0 24) s m #[(.ref a0l)] below meth c s₁ [] 0 0 := Stand.of_body Bd
  have e0 : s₁.heap = h0 := by rw [← hh, Bd.state]; rfl
  have N0 := Fr.nil n0
  have pre0 : ∀ t, SP p e below s₁ m 0 #[vr a0l] [] t → Steps p.tables e below (s₁.setTop (entryFrame m #[(.ref a0l)] 1)) t := fun t k => castTop (ef_rmAbc m a0l) k
  have GL' := GL
  obtain ⟨GCS, GCP, GDE, GVE, GUS, GSS, GIE, GMO⟩ := GL'
  obtain ⟨_, _, ⟨T1, L1, k1, n1⟩, -, X1, ⟨Lc1, hQ1, l1, y1, z1⟩, st1⟩ := X0.specialBack hx (y := MN_30) rfl hown (mvT hZ (Wd hw 25 rfl)) (mvT hZ (Wd hw 26 rfl)) (mvT hZ (Wd hw 30 rfl)) (by decide) (backOf (W := 0) (rmAbc l Z a0 hw [] cS aDE kDE aUS aSS aIE mO a0l h0 n0 O0 GL) hZ (Wd hw 30 rfl) (Wd hw 29 rfl) (by decide) (by decide)) (g := mkF m 1 #[vr a0l] [(.ref a0l)]) rfl (by rw [hml]; rfl) (Steps.refl _) (a := a0l) (argsL := []) (rest := []) (lenOf pdv18 rfl) rfl (by show 2 * 0 + _ ≤ _; exact lEq rfl) (dG hby D3 1 rfl) (fun _ _ => ⟨rfl, e0, (by decide : 0 + 0 ≤ _), (by decide : 0 + 0 ≤ _)⟩)
  dsimp only [Pt.U, Pt.locs, Pt.cells, Pt.slots] at X1 l1 y1 z1 st1 hQ1
  subst l1 y1 z1
  obtain ⟨rfl, N1q, e1⟩ := hQ1
  have N1 := Fr.app N0 N1q
  obtain ⟨T2, h2, X2, e2, W2, st2⟩ := putF X1 hx hZ hown (host := "") (Or.inl (Wd hw 34 rfl)) Via.refl e1 F_modCount_a0l E_a0l (Or.inl (Wd hw 35 rfl)) (Wd hw 14 rfl) (ty := .int) (by decide) rfl rfl (g := mkF m 6 #[vr a0l] [(.int 0), (.ref a0l)]) rfl rfl (dG hby D3 4 rfl)
  have Fw2 := F_modCount_a0l.same W2
  have K2 : Keep h0 h2 [a0l] := (Keep.refl h0 [a0l]).wr W2 (Or.inl (List.mem_of_getElem? (i := 0) rfl))
  have O2 := O0.wr W2 g_a0l
  have N2 := Fr.snoc X2 N1 g_a0l
  obtain ⟨fs, hr, hrun, hended, hW, hsame⟩ := X2.leave (v := none) (fun _ => rfl)
  refine ⟨_, _, pre0 _ ?_, hrun, hended, _, _, rfl, ?_, ⟨_, rfl⟩, hW, hsame.mono (by decide) (by decide)⟩
  · show SP p e below s₁ m 0 #[vr a0l] [] _
    refine XS.aloadN X0.here hx rfl (dG hby D3 0 rfl) rfl rfl ?_
    show SP p e below s₁ m 1 #[vr a0l] [(.ref a0l)] _
    refine st1.trans ?_
    show SP p e below T1 m 4 #[vr a0l] [] _
    refine XS.aloadN X1.here hx rfl (dG hby D3 2 rfl) rfl rfl ?_
    refine XS.iconst X1.here hx rfl (dG hby D3 3 rfl) ?_
    show SP p e below T1 m 6 #[vr a0l] [(.int 0), (.ref a0l)] _
    refine st2 _ ?_
    show SP p e below T2 m 9 #[vr a0l] [] _
    exact X2.returnOut hx Bd.returns (dG hby D3 5 rfl) hr
  · show Q_rmAbl n0 Z cS aDE kDE aUS aSS aIE mO a0l h0 _ T2.heap _
    rw [e2]
    exact ⟨rfl, N2, K2, (E_a0l.wr W2), (F_elementData_a0l.other W2 (Or.inr (slot_ne (a0 := a0) (Or.inl (Wd hw 38 rfl)) (Or.inl (Wd hw 35 rfl)) (by decide) (t := (.array (.object "java/lang/Object"))) (t' := .int) (by decide) (by decide)))), (F_size_a0l.other W2 (Or.inr (slot_ne (a0 := a0) (Or.inl (Wd hw 63 rfl)) (Or.inl (Wd hw 35 rfl)) (by decide) (t := .int) (t' := .int) (by decide) (by decide)))), Fw2⟩
theorem D2 : dL jdk_38_method_2_code [(0, .aload_n 0, 1), (1, .invokespecial 1, 3), (4, .aload_n 0, 1), (5, .getstatic 39, 3), (8, .putfield 9, 3), (11, .return_, 1)] = true := by decide +kernel
theorem pnv9 : plainName "java/util/ArrayList" = true := by first | (simp [plainName, overriddenIn]; done) | decide +kernel
abbrev MN_32 : MethodName := ⟨"java/util/ArrayList", "<init>", "()V"⟩
def Q_rmLi (n0 : Nat) (Z : State) (cS : Int32) (aDE : Addr) (kDE : ClassId) (aUS : Addr) (aSS : Addr) (aIE : Addr) (mO : Addr) (a0l : Addr) (h0 : Heap) (v : Option Value) (h : Heap) (L : List Loc) : Prop := v = none ∧ Fr n0 L ∧ Keep h0 h [a0l] ∧ (Exa Z h a0l "java/util/ArrayList") ∧ (Fld Z h a0l "java/util/ArrayList" "elementData" "[Ljava/lang/Object;" (.ref aDE)) ∧ (Fld Z h a0l "java/util/ArrayList" "size" "I" (.int 0)) ∧ (Fld Z h a0l "java/util/AbstractList" "modCount" "I" (.int 0))
theorem rmLi (l : Launch) (Z : State) (a0 : Array Value) (hw : ∀ d ∈ tables_1, d.before a0 Z = true) (ws : List Jvm.Cond) (cS : Int32) (aDE : Addr) (kDE : ClassId) (aUS : Addr) (aSS : Addr) (aIE : Addr) (mO : Addr) (a0l : Addr) (h0 : Heap) (n0 : Nat) (O0 : Old Z n0 h0) (GL : GF Z cS aDE kDE aUS aSS aIE mO) (E_a0l : Exa Z h0 a0l "java/util/ArrayList") (F_elementData_a0l : Fld Z h0 a0l "java/util/ArrayList" "elementData" "[Ljava/lang/Object;" .null) (F_size_a0l : Fld Z h0 a0l "java/util/ArrayList" "size" "I" (.int 0)) (F_modCount_a0l : Fld Z h0 a0l "java/util/AbstractList" "modCount" "I" (.int 0)) (g_a0l : n0 ≤ a0l) :
    MF l MN_32 jdk_38_method_2_code 1 none ws (Rm 3 0 0 36) #[(.ref a0l)] Z h0 (Q_rmLi n0 Z cS aDE kDE aUS aSS aIE mO a0l h0) := by
  refine MetFree.of_bodySF (plainFor_of_name pnv9) hisR ?_
  intro p e s m args below meth c s₁ Bd hml0 hP hK
  obtain ⟨rfl, hZ, hh⟩ := hP
  have hx := Bd.exec
  have hby := Bd.bytes
  have hml : c.maxLocals = 1 := hml0
  have hown : s.vm.findClass "java/util/ArrayList" = some m.cls := findClass_of_methodNamed Bd.named
  have hnm := (name_of_methodNamed Bd.named Bd.method).1
  have X0 : Stand p l e (Rm 3 0 0 36) s m #[(.ref a0l)] below meth c s₁ [] 0 0 := Stand.of_body Bd
  have e0 : s₁.heap = h0 := by rw [← hh, Bd.state]; rfl
  have N0 := Fr.nil n0
  have pre0 : ∀ t, SP p e below s₁ m 0 #[vr a0l] [] t → Steps p.tables e below (s₁.setTop (entryFrame m #[(.ref a0l)] 1)) t := fun t k => castTop (ef_rmAbc m a0l) k
  have GL' := GL
  obtain ⟨GCS, GCP, GDE, GVE, GUS, GSS, GIE, GMO⟩ := GL'
  obtain ⟨_, _, ⟨T1, L1, k1, n1⟩, -, X1, ⟨Lc1, hQ1, l1, y1, z1⟩, st1⟩ := X0.specialBack hx (y := MN_31) rfl hown (mvT hZ (Wd hw 19 rfl)) (mvT hZ (Wd hw 20 rfl)) (mvT hZ (Wd hw 24 rfl)) (by decide) (backOf (W := 0) (rmAbl l Z a0 hw [] cS aDE kDE aUS aSS aIE mO a0l h0 n0 O0 GL E_a0l F_elementData_a0l F_size_a0l F_modCount_a0l g_a0l) hZ (Wd hw 24 rfl) (Wd hw 23 rfl) (by decide) (by decide)) (g := mkF m 1 #[vr a0l] [(.ref a0l)]) rfl (by rw [hml]; rfl) (Steps.refl _) (a := a0l) (argsL := []) (rest := []) (lenOf pdv18 rfl) rfl (by show 2 * 0 + _ ≤ _; exact lEq rfl) (dG hby D2 1 rfl) (fun _ _ => ⟨rfl, e0, (by decide : 0 + 0 ≤ _), (by decide : 0 + 0 ≤ _)⟩)
  dsimp only [Pt.U, Pt.locs, Pt.cells, Pt.slots] at X1 l1 y1 z1 st1 hQ1
  subst l1 y1 z1
  obtain ⟨rfl, N1q, Kc1, P1_0, P1_1, P1_2, P1_3⟩ := hQ1
  have K1 : Keep h0 T1.heap [a0l] := (Keep.refl h0 [a0l]).trans Kc1 (allS (Or.inl (List.mem_of_getElem? (i := 0) rfl)) all0)
  have O1 := O0.keep Kc1 (allS g_a0l all0)
  have N1 := Fr.app N0 N1q
  obtain ⟨T2, X2, e2, st2⟩ := getS2 X1 hx hZ hown (host := "") (Or.inl (Wd hw 36 rfl)) Via.refl rfl (GDE.ext O1.2) (g := mkF m 5 #[vr a0l] [(.ref a0l)]) rfl (dG hby D2 3 rfl)
  obtain ⟨T3, h3, X3, e3, W3, st3⟩ := putF X2 hx hZ hown (host := "") (Or.inl (Wd hw 37 rfl)) Via.refl e2 P1_1 P1_0 (Or.inl (Wd hw 38 rfl)) (Wd hw 14 rfl) (ty := (.array (.object "java/lang/Object"))) (by decide) rfl rfl (g := mkF m 8 #[vr a0l] [(.ref aDE), (.ref a0l)]) rfl rfl (dG hby D2 4 rfl)
  have Fw3 := P1_1.same W3
  have K3 : Keep h0 h3 [a0l] := K1.wr W3 (Or.inl (List.mem_of_getElem? (i := 0) rfl))
  have O3 := O1.wr W3 g_a0l
  have N3 := Fr.snoc X3 N1 g_a0l
  obtain ⟨fs, hr, hrun, hended, hW, hsame⟩ := X3.leave (v := none) (fun _ => rfl)
  refine ⟨_, _, pre0 _ ?_, hrun, hended, _, _, rfl, ?_, ⟨_, rfl⟩, hW, hsame.mono (by decide) (by decide)⟩
  · show SP p e below s₁ m 0 #[vr a0l] [] _
    refine XS.aloadN X0.here hx rfl (dG hby D2 0 rfl) rfl rfl ?_
    show SP p e below s₁ m 1 #[vr a0l] [(.ref a0l)] _
    refine st1.trans ?_
    show SP p e below T1 m 4 #[vr a0l] [] _
    refine XS.aloadN X1.here hx rfl (dG hby D2 2 rfl) rfl rfl ?_
    show SP p e below T1 m 5 #[vr a0l] [(.ref a0l)] _
    refine st2 _ ?_
    show SP p e below T2 m 8 #[vr a0l] [(.ref aDE), (.ref a0l)] _
    refine st3 _ ?_
    show SP p e below T3 m 11 #[vr a0l] [] _
    exact X3.returnOut hx Bd.returns (dG hby D2 5 rfl) hr
  · show Q_rmLi n0 Z cS aDE kDE aUS aSS aIE mO a0l h0 _ T3.heap _
    rw [e3]
    exact ⟨rfl, N3, K3, (P1_0.wr W3), Fw3, (P1_2.other W3 (Or.inr (slot_ne (a0 := a0) (Or.inl (Wd hw 63 rfl)) (Or.inl (Wd hw 38 rfl)) (by decide) (t := .int) (t' := (.array (.object "java/lang/Object"))) (by decide) (by decide)))), (P1_3.other W3 (Or.inr (slot_ne (a0 := a0) (Or.inl (Wd hw 35 rfl)) (Or.inl (Wd hw 38 rfl)) (by decide) (t := .int) (t' := (.array (.object "java/lang/Object"))) (by decide) (by decide))))⟩
theorem D12 : dL jdk_29_method_65_code [(0, .iload_n 0, 1), (1, .iload_n 1, 1), (2, .if_icmp .lt 7, 3), (5, .iload_n 0, 1), (6, .goto 4, 3), (10, .ireturn, 1)] = true := by decide +kernel
abbrev MN_33 : MethodName := ⟨"java/lang/Math", "max", "(II)I"⟩
def Q_rmMax (n0 : Nat) (Z : State) (cS : Int32) (aDE : Addr) (kDE : ClassId) (aUS : Addr) (aSS : Addr) (aIE : Addr) (mO : Addr) (p0 : Int32) (p1 : Int32) (h0 : Heap) (v : Option Value) (h : Heap) (L : List Loc) : Prop := v = some (.int p0) ∧ Fr n0 L ∧ h = h0
theorem rmMax (l : Launch) (Z : State) (a0 : Array Value) (hw : ∀ d ∈ tables_1, d.before a0 Z = true) (ws : List Jvm.Cond) (cS : Int32) (aDE : Addr) (kDE : ClassId) (aUS : Addr) (aSS : Addr) (aIE : Addr) (mO : Addr) (p0 : Int32) (p1 : Int32) (h0 : Heap) (n0 : Nat) (O0 : Old Z n0 h0) (GL : GF Z cS aDE kDE aUS aSS aIE mO) (hm : ¬ (p0 < p1)) :
    MF l MN_33 jdk_29_method_65_code 2 (some .int) ws (Rm 0 0 0 0) #[(.int p0), (.int p1)] Z h0 (Q_rmMax n0 Z cS aDE kDE aUS aSS aIE mO p0 p1 h0) := by
  refine MetFree.of_bodySF (Jvm.Free.JP.mathPlain rfl (by decide +kernel)) hisR ?_
  intro p e s m args below meth c s₁ Bd hml0 hP hK
  obtain ⟨rfl, hZ, hh⟩ := hP
  have hx := Bd.exec
  have hby := Bd.bytes
  have hml : c.maxLocals = 2 := hml0
  have hown : s.vm.findClass "java/lang/Math" = some m.cls := findClass_of_methodNamed Bd.named
  have hnm := (name_of_methodNamed Bd.named Bd.method).1
  have X0 : Stand p l e (Rm 0 0 0 0) s m #[(.int p0), (.int p1)] below meth c s₁ [] 0 0 := Stand.of_body Bd
  have e0 : s₁.heap = h0 := by rw [← hh, Bd.state]; rfl
  have N0 := Fr.nil n0
  have pre0 : ∀ t, SP p e below s₁ m 0 #[vi p0, vi p1] [] t → Steps p.tables e below (s₁.setTop (entryFrame m #[(.int p0), (.int p1)] 2)) t := fun t k => castTop (ef_rmMin m p0 p1) k
  have GL' := GL
  obtain ⟨GCS, GCP, GDE, GVE, GUS, GSS, GIE, GMO⟩ := GL'
  obtain ⟨fs, hr, hrun, hended, hW, hsame⟩ := X0.leave (v := some (.int p0)) (fun h => by rw [Bd.returns] at h; cases h)
  refine ⟨_, _, pre0 _ ?_, hrun, hended, _, _, rfl, ?_, ⟨_, rfl⟩, hW, hsame.mono (by decide) (by decide)⟩
  · show SP p e below s₁ m 0 #[vi p0, vi p1] [] _
    refine XS.iloadN X0.here hx rfl (dG hby D12 0 rfl) rfl ?_
    refine XS.iloadN X0.here hx rfl (dG hby D12 1 rfl) rfl ?_
    refine XS.icmpNo X0.here hx rfl (dG hby D12 2 rfl) rfl (flt hm).1 ?_
    refine XS.iloadN X0.here hx rfl (dG hby D12 3 rfl) rfl ?_
    refine XS.goto X0.here hx rfl (pc0 := 6) (pc' := 10) rfl (dG hby D12 4 rfl) (by decide) (by decide) ?_
    show SP p e below s₁ m 10 #[vi p0, vi p1] [(.int p0)] _
    exact retI X0 hx Bd.returns (dG hby D12 5 rfl) hr
  · show Q_rmMax n0 Z cS aDE kDE aUS aSS aIE mO p0 p1 h0 _ s₁.heap _
    rw [e0]
    exact ⟨rfl, N0, rfl⟩
theorem D11 : dL jdk_38_method_6_code [(0, .aload_n 0, 1), (1, .getfield 9, 3), (4, .arraylength, 1), (5, .istore_n 2, 1), (6, .iload_n 2, 1), (7, .ifCond .gt 13, 3), (10, .aload_n 0, 1), (11, .getfield 9, 3), (14, .getstatic 39, 3), (17, .if_acmp .eq 28, 3), (45, .aload_n 0, 1), (46, .bipush 10, 2), (48, .iload_n 1, 1), (49, .invokestatic 79, 3), (52, .anewarray 7, 3), (55, .dup_x1, 1), (56, .putfield 9, 3), (59, .areturn, 1)] = true := by decide +kernel
abbrev MN_34 : MethodName := ⟨"java/util/ArrayList", "grow", "(I)[Ljava/lang/Object;"⟩
theorem ef_rmGr1 (m : MethodId) (a0l : Addr) : entryFrame m #[(.ref a0l), (.int 1)] 4 = mkF m 0 #[vr a0l, vi (1 : Int32), .unset, .unset] [] := by first | (simp [entryFrame, mkF, argsToLocals, Value.category]; done) | rfl
def Q_rmGr1 (n0 : Nat) (Z : State) (cS : Int32) (aDE : Addr) (kDE : ClassId) (aUS : Addr) (aSS : Addr) (aIE : Addr) (mO : Addr) (a0l : Addr) (mc : Int32) (h0 : Heap) (v : Option Value) (h : Heap) (L : List Loc) : Prop := ∃ b : Addr, ∃ kb : ClassId, v = some (.ref b) ∧ Fr n0 L ∧ Keep h0 h [a0l] ∧ (h0.size ≤ b) ∧ (Exa Z h b "[Ljava/lang/Object;") ∧ (Arv Z h b kb (.object "java/lang/Object") (10 : Int32) [.null, .null, .null, .null, .null, .null, .null, .null, .null, .null] .null) ∧ (Ovr Z kb "java/lang/Object") ∧ (Exa Z h a0l "java/util/ArrayList") ∧ (Fld Z h a0l "java/util/ArrayList" "elementData" "[Ljava/lang/Object;" (.ref b)) ∧ (Fld Z h a0l "java/util/ArrayList" "size" "I" (.int 0)) ∧ (Fld Z h a0l "java/util/AbstractList" "modCount" "I" (.int mc))
theorem rmGr1 (l : Launch) (Z : State) (a0 : Array Value) (hw : ∀ d ∈ tables_1, d.before a0 Z = true) (ws : List Jvm.Cond) (cS : Int32) (aDE : Addr) (kDE : ClassId) (aUS : Addr) (aSS : Addr) (aIE : Addr) (mO : Addr) (a0l : Addr) (mc : Int32) (h0 : Heap) (n0 : Nat) (O0 : Old Z n0 h0) (GL : GF Z cS aDE kDE aUS aSS aIE mO) (E_a0l : Exa Z h0 a0l "java/util/ArrayList") (F_elementData_a0l : Fld Z h0 a0l "java/util/ArrayList" "elementData" "[Ljava/lang/Object;" (.ref aDE)) (F_size_a0l : Fld Z h0 a0l "java/util/ArrayList" "size" "I" (.int 0)) (F_modCount_a0l : Fld Z h0 a0l "java/util/AbstractList" "modCount" "I" (.int mc)) (g_a0l : n0 ≤ a0l) :
    MF l MN_34 jdk_38_method_6_code 4 (some (.array (.object "java/lang/Object"))) ws (Rm 1 1 10 14) #[(.ref a0l), (.int 1)] Z h0 (Q_rmGr1 n0 Z cS aDE kDE aUS aSS aIE mO a0l mc h0) := by
  refine MetFree.of_bodySF (plainFor_of_name pnv9) hisR ?_
  intro p e s m args below meth c s₁ Bd hml0 hP hK
  obtain ⟨rfl, hZ, hh⟩ := hP
  have hx := Bd.exec
  have hby := Bd.bytes
  have hml : c.maxLocals = 4 := hml0
  have hown : s.vm.findClass "java/util/ArrayList" = some m.cls := findClass_of_methodNamed Bd.named
  have hnm := (name_of_methodNamed Bd.named Bd.method).1
  have X0 : Stand p l e (Rm 1 1 10 14) s m #[(.ref a0l), (.int 1)] below meth c s₁ [] 0 0 := Stand.of_body Bd
  have e0 : s₁.heap = h0 := by rw [← hh, Bd.state]; rfl
  have N0 := Fr.nil n0
  have pre0 : ∀ t, SP p e below s₁ m 0 #[vr a0l, vi (1 : Int32), .unset, .unset] [] t → Steps p.tables e below (s₁.setTop (entryFrame m #[(.ref a0l), (.int 1)] 4)) t := fun t k => castTop (ef_rmGr1 m a0l) k
  have GL' := GL
  obtain ⟨GCS, GCP, GDE, GVE, GUS, GSS, GIE, GMO⟩ := GL'
  obtain ⟨T1, X1, e1, st1⟩ := getF X0 hx hZ hown (host := "") (Or.inl (Wd hw 37 rfl)) Via.refl e0 F_elementData_a0l (g := mkF m 1 #[vr a0l, vi (1 : Int32), .unset, .unset] [(.ref a0l)]) rfl rfl (dG hby D11 1 rfl)
  obtain ⟨cl2, Ar2, -, S2, N2_, -, -⟩ := id ((GVE.ext O0.2))
  obtain ⟨T3, X3, e3, st3⟩ := getF X1 hx hZ hown (host := "") (Or.inl (Wd hw 37 rfl)) Via.refl e1 F_elementData_a0l (g := mkF m 11 #[vr a0l, vi (1 : Int32), vi (0 : Int32), .unset] [(.ref a0l)]) rfl rfl (dG hby D11 7 rfl)
  obtain ⟨T4, X4, e4, st4⟩ := getS2 X3 hx hZ hown (host := "") (Or.inl (Wd hw 36 rfl)) Via.refl e3 (GDE.ext O0.2) (g := mkF m 14 #[vr a0l, vi (1 : Int32), vi (0 : Int32), .unset] [(.ref aDE)]) rfl (dG hby D11 8 rfl)
  obtain ⟨_, _, ⟨T5, L5, k5, n5⟩, -, X5, ⟨Lc5, hQ5, l5, y5, z5⟩, st5⟩ := Jvm.LawKit.callS X4 hx (y := MN_33) hown (mvT hZ (Wd hw 79 rfl)) (mvT hZ (Wd hw 80 rfl)) (mvT hZ (Wd hw 81 rfl)) (mvT hZ (Wd hw 82 rfl)) (by decide) (backOf (W := 1) (rmMax l Z a0 hw [] cS aDE kDE aUS aSS aIE mO ((10 : Int32)) ((1 : Int32)) h0 n0 O0 GL (by decide)) hZ (Wd hw 82 rfl) (Wd hw 81 rfl) (by decide) (by decide)) (g := mkF m 49 #[vr a0l, vi (1 : Int32), vi (0 : Int32), .unset] [(.int 1), (.int 10), (.ref a0l)]) rfl (by rw [hml]; rfl) (argsL := [(.int 10), (.int 1)]) (rest := [(.ref a0l)]) (lenOf pdv12 rfl) rfl (by show 2 * 0 + _ ≤ _; exact lEq rfl) (dG hby D11 13 rfl) (fun _ _ => ⟨rfl, e4, (by decide : 0 + 0 ≤ _), (by decide : 0 + 0 ≤ _)⟩)
  dsimp only [Pt.U, Pt.locs, Pt.cells, Pt.slots] at X5 l5 y5 z5 st5 hQ5
  subst l5 y5 z5
  obtain ⟨rfl, N5q, e5⟩ := hQ5
  have N5 := Fr.app N0 N5q
  obtain ⟨T6, h6, k6, X6, e6, E6, A6, A6', Ov6, st6⟩ := newRE X5 hx hZ hown (Wd hw 83 rfl) (Wd hw 84 rfl) e5 (g := mkF m 52 #[vr a0l, vi (1 : Int32), vi (0 : Int32), .unset] [(.int 10), (.ref a0l)]) rfl (dG hby D11 14 rfl) rfl (by decide) (cap := 10) (by decide) (by decide) (by decide) (by decide) (ad := "[Ljava/lang/Object;") rfl
  obtain ⟨b6, g6⟩ : ∃ z, z = h0.size := ⟨_, rfl⟩
  rw [← g6] at A6 A6' st6
  have g_b6 : n0 ≤ b6 := lTr (own_sz O0) (lEq g6.symm)
  have sz_b6 : h0.size ≤ b6 := lTr (Keep.refl h0 [a0l]).1 (lEq g6.symm)
  have K6 : Keep h0 h6 [a0l] := (Keep.refl h0 [a0l]).ext E6
  have O6 := O0.ext E6
  have V_b6 : Arv Z h6 b6 k6 (.object "java/lang/Object") (10 : Int32) [.null, .null, .null, .null, .null, .null, .null, .null, .null, .null] .null := (Arv.new A6 (by decide)).pad (pad_rep [] .null 10)
  obtain ⟨T7, h7, X7, e7, W7, st7⟩ := putF X6 hx hZ hown (host := "") (Or.inl (Wd hw 37 rfl)) Via.refl e6 (F_elementData_a0l.ext E6) (E_a0l.ext E6) (Or.inl (Wd hw 38 rfl)) (Wd hw 14 rfl) (ty := (.array (.object "java/lang/Object"))) (by decide) rfl rfl (g := mkF m 56 #[vr a0l, vi (1 : Int32), vi (0 : Int32), .unset] [(.ref b6), (.ref a0l), (.ref b6)]) rfl rfl (dG hby D11 16 rfl)
  have Fw7 := (F_elementData_a0l.ext E6).same W7
  have K7 : Keep h0 h7 [a0l] := K6.wr W7 (Or.inl (List.mem_of_getElem? (i := 0) rfl))
  have O7 := O6.wr W7 g_a0l
  have N7 := Fr.snoc X7 N5 g_a0l
  obtain ⟨fs, hr, hrun, hended, hW, hsame⟩ := X7.leave (v := some (.ref b6)) (fun h => by rw [Bd.returns] at h; cases h)
  refine ⟨_, _, pre0 _ ?_, hrun, hended, _, _, rfl, ?_, ⟨_, rfl⟩, hW, hsame.mono (by decide) (by decide)⟩
  · show SP p e below s₁ m 0 #[vr a0l, vi (1 : Int32), .unset, .unset] [] _
    refine XS.aloadN X0.here hx rfl (dG hby D11 0 rfl) rfl rfl ?_
    show SP p e below s₁ m 1 #[vr a0l, vi (1 : Int32), .unset, .unset] [(.ref a0l)] _
    refine st1 _ ?_
    show SP p e below T1 m 4 #[vr a0l, vi (1 : Int32), .unset, .unset] [(.ref aDE)] _
    refine X1.arraylength hx (by rw [e1]; exact Ar2.1) (State.isArrayOf_alike hZ.alike Ar2.2.1) (g := mkF m 4 #[vr a0l, vi (1 : Int32), .unset, .unset] [(.ref aDE)]) rfl rfl (dG hby D11 2 rfl) _ ?_
    rw [len_of S2 N2_]
    show SP p e below T1 m 5 #[vr a0l, vi (1 : Int32), .unset, .unset] [(.int 0)] _
    refine XS.istoreN X1.here hx rfl (dG hby D11 3 rfl) rfl (l' := #[vr a0l, vi (1 : Int32), vi (0 : Int32), .unset]) rfl ?_
    refine XS.iloadN X1.here hx rfl (dG hby D11 4 rfl) rfl ?_
    refine XS.ifNo X1.here hx rfl (dG hby D11 5 rfl) rfl ((if0 _ _).trans (flt (by decide : ¬ ((0 : Int32) < (0 : Int32)))).2.2.1) ?_
    refine XS.aloadN X1.here hx rfl (dG hby D11 6 rfl) rfl rfl ?_
    show SP p e below T1 m 11 #[vr a0l, vi (1 : Int32), vi (0 : Int32), .unset] [(.ref a0l)] _
    refine st3 _ ?_
    show SP p e below T3 m 14 #[vr a0l, vi (1 : Int32), vi (0 : Int32), .unset] [(.ref aDE)] _
    refine st4 _ ?_
    show SP p e below T4 m 17 #[vr a0l, vi (1 : Int32), vi (0 : Int32), .unset] [(.ref aDE), (.ref aDE)] _
    refine Jvm.RoadKit.acmp (g := mkF m 17 #[vr a0l, vi (1 : Int32), vi (0 : Int32), .unset] [(.ref aDE), (.ref aDE)]) X4 hx rfl rfl rfl (pc0 := 17) (pc' := 45) (same := true) rfl (dG hby D11 9 rfl) rfl (decide_eq_true rfl) (by decide) (by decide) ?_
    show SP p e below T4 m 45 #[vr a0l, vi (1 : Int32), vi (0 : Int32), .unset] [] _
    refine XS.aloadN X4.here hx rfl (dG hby D11 10 rfl) rfl rfl ?_
    refine XS.bipush X4.here hx rfl (dG hby D11 11 rfl) ?_
    refine XS.iloadN X4.here hx rfl (dG hby D11 12 rfl) rfl ?_
    show SP p e below T4 m 49 #[vr a0l, vi (1 : Int32), vi (0 : Int32), .unset] [(.int 1), (.int 10), (.ref a0l)] _
    refine st5 _ ?_
    show SP p e below T5 m 52 #[vr a0l, vi (1 : Int32), vi (0 : Int32), .unset] [(.int 10), (.ref a0l)] _
    refine st6 _ ?_
    show SP p e below T6 m 55 #[vr a0l, vi (1 : Int32), vi (0 : Int32), .unset] [(.ref b6), (.ref a0l)] _
    refine XS.dupX1 X6.here hx rfl (dG hby D11 15 rfl) rfl rfl rfl ?_
    show SP p e below T6 m 56 #[vr a0l, vi (1 : Int32), vi (0 : Int32), .unset] [(.ref b6), (.ref a0l), (.ref b6)] _
    refine st7 _ ?_
    show SP p e below T7 m 59 #[vr a0l, vi (1 : Int32), vi (0 : Int32), .unset] [(.ref b6)] _
    exact retA X7 hx Bd.returns rfl (dG hby D11 17 rfl) hr
  · show Q_rmGr1 n0 Z cS aDE kDE aUS aSS aIE mO a0l mc h0 _ T7.heap _
    rw [e7]
    exact ⟨b6, k6, rfl, N7, K7, sz_b6, (A6'.wr W7), (V_b6.other W7 (Ne.symm (nLt (lLt E_a0l.lt (lEq g6.symm))))), Ov6, ((E_a0l.ext E6).wr W7), Fw7, ((F_size_a0l.ext E6).other W7 (Or.inr (slot_ne (a0 := a0) (Or.inl (Wd hw 63 rfl)) (Or.inl (Wd hw 38 rfl)) (by decide) (t := .int) (t' := (.array (.object "java/lang/Object"))) (by decide) (by decide)))), ((F_modCount_a0l.ext E6).other W7 (Or.inr (slot_ne (a0 := a0) (Or.inl (Wd hw 35 rfl)) (Or.inl (Wd hw 38 rfl)) (by decide) (t := .int) (t' := (.array (.object "java/lang/Object"))) (by decide) (by decide))))⟩
theorem D10 : dL jdk_38_method_7_code [(0, .aload_n 0, 1), (1, .aload_n 0, 1), (2, .getfield 48, 3), (5, .iconst 1, 1), (6, .iadd, 1), (7, .invokevirtual 69, 3), (10, .areturn, 1)] = true := by decide +kernel
theorem pdv21 : parseMethodDescriptor "(I)[Ljava/lang/Object;" = some ⟨[.int], some (.array (.object "java/lang/Object"))⟩ := by decide +kernel
abbrev MN_35 : MethodName := ⟨"java/util/ArrayList", "grow", "()[Ljava/lang/Object;"⟩
def Q_rmGr0 (n0 : Nat) (Z : State) (cS : Int32) (aDE : Addr) (kDE : ClassId) (aUS : Addr) (aSS : Addr) (aIE : Addr) (mO : Addr) (a0l : Addr) (mc : Int32) (h0 : Heap) (v : Option Value) (h : Heap) (L : List Loc) : Prop := ∃ b : Addr, ∃ kb : ClassId, v = some (.ref b) ∧ Fr n0 L ∧ Keep h0 h [a0l] ∧ (h0.size ≤ b) ∧ (Exa Z h b "[Ljava/lang/Object;") ∧ (Arv Z h b kb (.object "java/lang/Object") (10 : Int32) [.null, .null, .null, .null, .null, .null, .null, .null, .null, .null] .null) ∧ (Ovr Z kb "java/lang/Object") ∧ (Exa Z h a0l "java/util/ArrayList") ∧ (Fld Z h a0l "java/util/ArrayList" "elementData" "[Ljava/lang/Object;" (.ref b)) ∧ (Fld Z h a0l "java/util/ArrayList" "size" "I" (.int 0)) ∧ (Fld Z h a0l "java/util/AbstractList" "modCount" "I" (.int mc))
theorem rmGr0 (l : Launch) (Z : State) (a0 : Array Value) (hw : ∀ d ∈ tables_1, d.before a0 Z = true) (ws : List Jvm.Cond) (cS : Int32) (aDE : Addr) (kDE : ClassId) (aUS : Addr) (aSS : Addr) (aIE : Addr) (mO : Addr) (a0l : Addr) (mc : Int32) (h0 : Heap) (n0 : Nat) (O0 : Old Z n0 h0) (GL : GF Z cS aDE kDE aUS aSS aIE mO) (E_a0l : Exa Z h0 a0l "java/util/ArrayList") (F_elementData_a0l : Fld Z h0 a0l "java/util/ArrayList" "elementData" "[Ljava/lang/Object;" (.ref aDE)) (F_size_a0l : Fld Z h0 a0l "java/util/ArrayList" "size" "I" (.int 0)) (F_modCount_a0l : Fld Z h0 a0l "java/util/AbstractList" "modCount" "I" (.int mc)) (g_a0l : n0 ≤ a0l) :
    MF l MN_35 jdk_38_method_7_code 1 (some (.array (.object "java/lang/Object"))) ws (Rm 2 1 10 29) #[(.ref a0l)] Z h0 (Q_rmGr0 n0 Z cS aDE kDE aUS aSS aIE mO a0l mc h0) := by
  refine MetFree.of_bodySF (plainFor_of_name pnv9) hisR ?_
  intro p e s m args below meth c s₁ Bd hml0 hP hK
  obtain ⟨rfl, hZ, hh⟩ := hP
  have hx := Bd.exec
  have hby := Bd.bytes
  have hml : c.maxLocals = 1 := hml0
  have hown : s.vm.findClass "java/util/ArrayList" = some m.cls := findClass_of_methodNamed Bd.named
  have hnm := (name_of_methodNamed Bd.named Bd.method).1
  have X0 : Stand p l e (Rm 2 1 10 29) s m #[(.ref a0l)] below meth c s₁ [] 0 0 := Stand.of_body Bd
  have e0 : s₁.heap = h0 := by rw [← hh, Bd.state]; rfl
  have N0 := Fr.nil n0
  have pre0 : ∀ t, SP p e below s₁ m 0 #[vr a0l] [] t → Steps p.tables e below (s₁.setTop (entryFrame m #[(.ref a0l)] 1)) t := fun t k => castTop (ef_rmAbc m a0l) k
  have GL' := GL
  obtain ⟨GCS, GCP, GDE, GVE, GUS, GSS, GIE, GMO⟩ := GL'
  obtain ⟨T1, X1, e1, st1⟩ := getF X0 hx hZ hown (host := "") (Or.inl (Wd hw 62 rfl)) Via.refl e0 F_size_a0l (g := mkF m 2 #[vr a0l] [(.ref a0l), (.ref a0l)]) rfl rfl (dG hby D10 2 rfl)
  obtain ⟨cq2, q2, q2'⟩ := E_a0l.cell
  obtain ⟨_, _, ⟨T2, L2, k2, n2⟩, -, X2, ⟨Lc2, hQ2, l2, y2, z2⟩, st2⟩ := X1.privateBack hx (y := MN_34) hown (mvT hZ (Wd hw 74 rfl)) (mvT hZ (Wd hw 75 rfl)) (mvT hZ (Wd hw 77 rfl)) (Cond.privateMethod_at (mvP hZ (Wd hw 76 rfl) (args := #[]))) (mvT hZ (Wd hw 78 rfl)) (by decide) (backOf (W := 0) (rmGr1 l Z a0 hw [] cS aDE kDE aUS aSS aIE mO a0l mc h0 n0 O0 GL E_a0l F_elementData_a0l F_size_a0l F_modCount_a0l g_a0l) hZ (Wd hw 78 rfl) (Wd hw 15 rfl) (by decide) (by decide)) (g := mkF m 7 #[vr a0l] [(.int 1), (.ref a0l)]) rfl (by rw [hml]; rfl) (Steps.refl _) (a := a0l) (by rw [e1]; exact q2) q2' (argsL := [(.int 1)]) (rest := []) (lenOf pdv21 rfl) rfl (by show 2 * 0 + _ ≤ _; exact lEq rfl) (dG hby D10 5 rfl) (fun _ _ => ⟨rfl, e1, (by decide : 0 + 1 ≤ _), (by decide : 0 + 10 ≤ _)⟩)
  dsimp only [Pt.U, Pt.locs, Pt.cells, Pt.slots] at X2 l2 y2 z2 st2 hQ2
  subst l2 y2 z2
  obtain ⟨b_2, kb_2, rfl, N2q, Kc2, P2_0, P2_1, P2_2, P2_3, P2_4, P2_5, P2_6, P2_7⟩ := hQ2
  have K2 : Keep h0 T2.heap [a0l] := (Keep.refl h0 [a0l]).trans Kc2 (allS (Or.inl (List.mem_of_getElem? (i := 0) rfl)) all0)
  have O2 := O0.keep Kc2 (allS g_a0l all0)
  have g_b_2 : n0 ≤ b_2 := lTr (own_sz O0) P2_0
  have sz_b_2 : h0.size ≤ b_2 := lTr (Keep.refl h0 [a0l]).1 P2_0
  have N2 := Fr.app N0 N2q
  obtain ⟨fs, hr, hrun, hended, hW, hsame⟩ := X2.leave (v := some (.ref b_2)) (fun h => by rw [Bd.returns] at h; cases h)
  refine ⟨_, _, pre0 _ ?_, hrun, hended, _, _, rfl, ?_, ⟨_, rfl⟩, hW, hsame.mono (by decide) (by decide)⟩
  · show SP p e below s₁ m 0 #[vr a0l] [] _
    refine XS.aloadN X0.here hx rfl (dG hby D10 0 rfl) rfl rfl ?_
    refine XS.aloadN X0.here hx rfl (dG hby D10 1 rfl) rfl rfl ?_
    show SP p e below s₁ m 2 #[vr a0l] [(.ref a0l), (.ref a0l)] _
    refine st1 _ ?_
    show SP p e below T1 m 5 #[vr a0l] [(.int 0), (.ref a0l)] _
    refine XS.iconst X1.here hx rfl (dG hby D10 3 rfl) ?_
    refine XS.iadd X1.here hx rfl (dG hby D10 4 rfl) rfl ?_
    show SP p e below T1 m 7 #[vr a0l] [(.int 1), (.ref a0l)] _
    refine st2.trans ?_
    show SP p e below T2 m 10 #[vr a0l] [(.ref b_2)] _
    exact retA X2 hx Bd.returns rfl (dG hby D10 6 rfl) hr
  · show Q_rmGr0 n0 Z cS aDE kDE aUS aSS aIE mO a0l mc h0 _ T2.heap _
    exact ⟨b_2, kb_2, rfl, N2, K2, sz_b_2, P2_1, P2_2, P2_3, P2_4, P2_5, P2_6, P2_7⟩
theorem D9 : dL jdk_38_method_24_code [(0, .iload_n 3, 1), (1, .aload_n 2, 1), (2, .arraylength, 1), (3, .if_icmp .ne 8, 3), (6, .aload_n 0, 1), (7, .invokevirtual 129, 3), (10, .astore_n 2, 1), (11, .aload_n 2, 1), (12, .iload_n 3, 1), (13, .aload_n 1, 1), (14, .aastore, 1), (15, .aload_n 0, 1), (16, .iload_n 3, 1), (17, .iconst 1, 1), (18, .iadd, 1), (19, .putfield 48, 3), (22, .return_, 1)] = true := by decide +kernel
theorem pdv22 : parseMethodDescriptor "()[Ljava/lang/Object;" = some ⟨[], some (.array (.object "java/lang/Object"))⟩ := by decide +kernel
abbrev MN_36 : MethodName := ⟨"java/util/ArrayList", "add", "(Ljava/lang/Object;[Ljava/lang/Object;I)V"⟩
theorem ef_rmA3_0 (m : MethodId) (a0l : Addr) (a1o : Addr) : entryFrame m #[(.ref a0l), (.ref a1o), (.ref aDE), (.int 0)] 4 = mkF m 0 #[vr a0l, vr a1o, vr aDE, vi (0 : Int32)] [] := by first | (simp [entryFrame, mkF, argsToLocals, Value.category]; done) | rfl
def Q_rmA3_0 (n0 : Nat) (Z : State) (cS : Int32) (aDE : Addr) (kDE : ClassId) (aUS : Addr) (aSS : Addr) (aIE : Addr) (mO : Addr) (a0l : Addr) (a1o : Addr) (mc : Int32) (h0 : Heap) (v : Option Value) (h : Heap) (L : List Loc) : Prop := ∃ b : Addr, ∃ kb : ClassId, v = none ∧ Fr n0 L ∧ Keep h0 h [a0l] ∧ (h0.size ≤ b) ∧ (Exa Z h b "[Ljava/lang/Object;") ∧ (Arv Z h b kb (.object "java/lang/Object") (10 : Int32) [(.ref a1o), .null, .null, .null, .null, .null, .null, .null, .null, .null] .null) ∧ (Ovr Z kb "java/lang/Object") ∧ (Exa Z h a0l "java/util/ArrayList") ∧ (Fld Z h a0l "java/util/ArrayList" "elementData" "[Ljava/lang/Object;" (.ref b)) ∧ (Fld Z h a0l "java/util/ArrayList" "size" "I" (.int 1)) ∧ (Fld Z h a0l "java/util/AbstractList" "modCount" "I" (.int mc))
theorem rmA3_0 (l : Launch) (Z : State) (a0 : Array Value) (hw : ∀ d ∈ tables_1, d.before a0 Z = true) (ws : List Jvm.Cond) (cS : Int32) (aDE : Addr) (kDE : ClassId) (aUS : Addr) (aSS : Addr) (aIE : Addr) (mO : Addr) (a0l : Addr) (a1o : Addr) (mc : Int32) (h0 : Heap) (n0 : Nat) (O0 : Old Z n0 h0) (GL : GF Z cS aDE kDE aUS aSS aIE mO) (E_a0l : Exa Z h0 a0l "java/util/ArrayList") (F_elementData_a0l : Fld Z h0 a0l "java/util/ArrayList" "elementData" "[Ljava/lang/Object;" (.ref aDE)) (F_size_a0l : Fld Z h0 a0l "java/util/ArrayList" "size" "I" (.int 0)) (F_modCount_a0l : Fld Z h0 a0l "java/util/AbstractList" "modCount" "I" (.int mc)) (g_a0l : n0 ≤ a0l) (E_a1o : Exa Z h0 a1o "com/example/grantline/grantline/PolicyException$Problem") :
    MF l MN_36 jdk_38_method_24_code 4 none ws (Rm 3 1 10 41) #[(.ref a0l), (.ref a1o), (.ref aDE), (.int 0)] Z h0 (Q_rmA3_0 n0 Z cS aDE kDE aUS aSS aIE mO a0l a1o mc h0) := by
  refine MetFree.of_bodySF (plainFor_of_name pnv9) hisR ?_
  intro p e s m args below meth c s₁ Bd hml0 hP hK
  obtain ⟨rfl, hZ, hh⟩ := hP
  have hx := Bd.exec
  have hby := Bd.bytes
  have hml : c.maxLocals = 4 := hml0
  have hown : s.vm.findClass "java/util/ArrayList" = some m.cls := findClass_of_methodNamed Bd.named
  have hnm := (name_of_methodNamed Bd.named Bd.method).1
  have X0 : Stand p l e (Rm 3 1 10 41) s m #[(.ref a0l), (.ref a1o), (.ref aDE), (.int 0)] below meth c s₁ [] 0 0 := Stand.of_body Bd
  have e0 : s₁.heap = h0 := by rw [← hh, Bd.state]; rfl
  have N0 := Fr.nil n0
  have pre0 : ∀ t, SP p e below s₁ m 0 #[vr a0l, vr a1o, vr aDE, vi (0 : Int32)] [] t → Steps p.tables e below (s₁.setTop (entryFrame m #[(.ref a0l), (.ref a1o), (.ref aDE), (.int 0)] 4)) t := fun t k => castTop (ef_rmA3_0 m a0l a1o) k
  have GL' := GL
  obtain ⟨GCS, GCP, GDE, GVE, GUS, GSS, GIE, GMO⟩ := GL'
  obtain ⟨cl1, Ar1, -, S1, N1_, -, -⟩ := id ((GVE.ext O0.2))
  obtain ⟨cq2, q2, q2'⟩ := E_a0l.cell
  obtain ⟨_, _, ⟨T2, L2, k2, n2⟩, -, X2, ⟨Lc2, hQ2, l2, y2, z2⟩, st2⟩ := X0.privateBack hx (y := MN_35) hown (mvT hZ (Wd hw 69 rfl)) (mvT hZ (Wd hw 70 rfl)) (mvT hZ (Wd hw 72 rfl)) (Cond.privateMethod_at (mvP hZ (Wd hw 71 rfl) (args := #[]))) (mvT hZ (Wd hw 73 rfl)) (by decide) (backOf (W := 0) (rmGr0 l Z a0 hw [] cS aDE kDE aUS aSS aIE mO a0l mc h0 n0 O0 GL E_a0l F_elementData_a0l F_size_a0l F_modCount_a0l g_a0l) hZ (Wd hw 73 rfl) (Wd hw 15 rfl) (by decide) (by decide)) (g := mkF m 7 #[vr a0l, vr a1o, vr aDE, vi (0 : Int32)] [(.ref a0l)]) rfl (by rw [hml]; rfl) (Steps.refl _) (a := a0l) (by rw [e0]; exact q2) q2' (argsL := []) (rest := []) (lenOf pdv22 rfl) rfl (by show 2 * 0 + _ ≤ _; exact lEq rfl) (dG hby D9 5 rfl) (fun _ _ => ⟨rfl, e0, (by decide : 0 + 1 ≤ _), (by decide : 0 + 10 ≤ _)⟩)
  dsimp only [Pt.U, Pt.locs, Pt.cells, Pt.slots] at X2 l2 y2 z2 st2 hQ2
  subst l2 y2 z2
  obtain ⟨b_2, kb_2, rfl, N2q, Kc2, P2_0, P2_1, P2_2, P2_3, P2_4, P2_5, P2_6, P2_7⟩ := hQ2
  have K2 : Keep h0 T2.heap [a0l] := (Keep.refl h0 [a0l]).trans Kc2 (allS (Or.inl (List.mem_of_getElem? (i := 0) rfl)) all0)
  have O2 := O0.keep Kc2 (allS g_a0l all0)
  have g_b_2 : n0 ≤ b_2 := lTr (own_sz O0) P2_0
  have sz_b_2 : h0.size ≤ b_2 := lTr (Keep.refl h0 [a0l]).1 P2_0
  have N2 := Fr.app N0 N2q
  obtain ⟨cl3, Ar3, q3, S3, N3_, H3, G3⟩ := id (P2_2)
  have hin3 : ¬ ((0 : Int32) < 0 ∨ cl3.slots.size ≤ ((0 : Int32)).toNatClampNeg) := inb_of S3 ⟨(by decide), (by decide)⟩
  obtain ⟨T3, h3, X3, e3, W3, st3⟩ := stR X2 hx hZ rfl Ar3 (j := (0 : Int32)) hin3 rfl (Sto.ofV Ar3 q3 P2_3 (Ins.of_exa (E_a1o.keep Kc2) (Wd hw 85 rfl))) (g := mkF m 14 #[vr a0l, vr a1o, vr b_2, vi (0 : Int32)] [(.ref a1o), (.int 0), (.ref b_2)]) rfl rfl (dG hby D9 10 rfl)
  have K3 : Keep h0 h3 [a0l] := K2.wr W3 (Or.inr sz_b_2)
  have O3 := O2.wr W3 g_b_2
  have N3 := Fr.snoc X3 N2 g_b_2
  have V3 : Arv Z h3 b_2 kb_2 (.object "java/lang/Object") (10 : Int32) [(.ref a1o), .null, .null, .null, .null, .null, .null, .null, .null, .null] .null := Arv.set Ar3 q3 S3 N3_ H3 G3 rfl W3 0 rfl (Nat.le_of_ble_eq_true rfl)
  obtain ⟨T4, h4, X4, e4, W4, st4⟩ := putF X3 hx hZ hown (host := "") (Or.inl (Wd hw 62 rfl)) Via.refl e3 (P2_6.other W3 (Or.inl (nLt (lLt E_a0l.lt P2_0)))) (P2_4.wr W3) (Or.inl (Wd hw 63 rfl)) (Wd hw 14 rfl) (ty := .int) (by decide) rfl rfl (g := mkF m 19 #[vr a0l, vr a1o, vr b_2, vi (0 : Int32)] [(.int 1), (.ref a0l)]) rfl rfl (dG hby D9 15 rfl)
  have Fw4 := (P2_6.other W3 (Or.inl (nLt (lLt E_a0l.lt P2_0)))).same W4
  have K4 : Keep h0 h4 [a0l] := K3.wr W4 (Or.inl (List.mem_of_getElem? (i := 0) rfl))
  have O4 := O3.wr W4 g_a0l
  have N4 := Fr.snoc X4 N3 g_a0l
  obtain ⟨fs, hr, hrun, hended, hW, hsame⟩ := X4.leave (v := none) (fun _ => rfl)
  refine ⟨_, _, pre0 _ ?_, hrun, hended, _, _, rfl, ?_, ⟨_, rfl⟩, hW, hsame.mono (by decide) (by decide)⟩
  · show SP p e below s₁ m 0 #[vr a0l, vr a1o, vr aDE, vi (0 : Int32)] [] _
    refine XS.iloadN X0.here hx rfl (dG hby D9 0 rfl) rfl ?_
    refine XS.aloadN X0.here hx rfl (dG hby D9 1 rfl) rfl rfl ?_
    show SP p e below s₁ m 2 #[vr a0l, vr a1o, vr aDE, vi (0 : Int32)] [(.ref aDE), (.int 0)] _
    refine X0.arraylength hx (by rw [e0]; exact Ar1.1) (State.isArrayOf_alike hZ.alike Ar1.2.1) (g := mkF m 2 #[vr a0l, vr a1o, vr aDE, vi (0 : Int32)] [(.ref aDE), (.int 0)]) rfl rfl (dG hby D9 2 rfl) _ ?_
    rw [len_of S1 N1_]
    show SP p e below s₁ m 3 #[vr a0l, vr a1o, vr aDE, vi (0 : Int32)] [(.int 0), (.int 0)] _
    refine XS.icmpNo X0.here hx rfl (dG hby D9 3 rfl) rfl (teq (by decide : (0 : Int32) = (0 : Int32))).2 ?_
    refine XS.aloadN X0.here hx rfl (dG hby D9 4 rfl) rfl rfl ?_
    show SP p e below s₁ m 7 #[vr a0l, vr a1o, vr aDE, vi (0 : Int32)] [(.ref a0l)] _
    refine st2.trans ?_
    show SP p e below T2 m 10 #[vr a0l, vr a1o, vr aDE, vi (0 : Int32)] [(.ref b_2)] _
    refine XS.astoreN X2.here hx rfl (dG hby D9 6 rfl) rfl rfl (l' := #[vr a0l, vr a1o, vr b_2, vi (0 : Int32)]) rfl ?_
    refine XS.aloadN X2.here hx rfl (dG hby D9 7 rfl) rfl rfl ?_
    refine XS.iloadN X2.here hx rfl (dG hby D9 8 rfl) rfl ?_
    refine XS.aloadN X2.here hx rfl (dG hby D9 9 rfl) rfl rfl ?_
    show SP p e below T2 m 14 #[vr a0l, vr a1o, vr b_2, vi (0 : Int32)] [(.ref a1o), (.int 0), (.ref b_2)] _
    refine st3 _ ?_
    show SP p e below T3 m 15 #[vr a0l, vr a1o, vr b_2, vi (0 : Int32)] [] _
    refine XS.aloadN X3.here hx rfl (dG hby D9 11 rfl) rfl rfl ?_
    refine XS.iloadN X3.here hx rfl (dG hby D9 12 rfl) rfl ?_
    refine XS.iconst X3.here hx rfl (dG hby D9 13 rfl) ?_
    refine XS.iadd X3.here hx rfl (dG hby D9 14 rfl) rfl ?_
    show SP p e below T3 m 19 #[vr a0l, vr a1o, vr b_2, vi (0 : Int32)] [(.int 1), (.ref a0l)] _
    refine st4 _ ?_
    show SP p e below T4 m 22 #[vr a0l, vr a1o, vr b_2, vi (0 : Int32)] [] _
    exact X4.returnOut hx Bd.returns (dG hby D9 16 rfl) hr
  · show Q_rmA3_0 n0 Z cS aDE kDE aUS aSS aIE mO a0l a1o mc h0 _ T4.heap _
    rw [e4]
    exact ⟨b_2, kb_2, rfl, N4, K4, sz_b_2, ((P2_1.wr W3).wr W4), (V3.other W4 (Ne.symm (nLt (lLt E_a0l.lt P2_0)))), P2_3, ((P2_4.wr W3).wr W4), ((P2_5.other W3 (Or.inl (nLt (lLt E_a0l.lt P2_0)))).other W4 (Or.inr (slot_ne (a0 := a0) (Or.inl (Wd hw 38 rfl)) (Or.inl (Wd hw 63 rfl)) (by decide) (t := (.array (.object "java/lang/Object"))) (t' := .int) (by decide) (by decide)))), Fw4, ((P2_7.other W3 (Or.inl (nLt (lLt E_a0l.lt P2_0)))).other W4 (Or.inr (slot_ne (a0 := a0) (Or.inl (Wd hw 35 rfl)) (Or.inl (Wd hw 63 rfl)) (by decide) (t := .int) (t' := .int) (by decide) (by decide))))⟩
theorem D8 : dL jdk_38_method_25_code [(0, .aload_n 0, 1), (1, .dup, 1), (2, .getfield 63, 3), (5, .iconst 1, 1), (6, .iadd, 1), (7, .putfield 63, 3), (10, .aload_n 0, 1), (11, .aload_n 1, 1), (12, .aload_n 0, 1), (13, .getfield 9, 3), (16, .aload_n 0, 1), (17, .getfield 48, 3), (20, .invokevirtual 131, 3), (23, .iconst 1, 1), (24, .ireturn, 1)] = true := by decide +kernel
theorem pdv23 : parseMethodDescriptor "(Ljava/lang/Object;[Ljava/lang/Object;I)V" = some ⟨[(.object "java/lang/Object"), (.array (.object "java/lang/Object")), .int], none⟩ := by decide +kernel
abbrev MN_37 : MethodName := ⟨"java/util/ArrayList", "add", "(Ljava/lang/Object;)Z"⟩
theorem ef_rmA1_0 (m : MethodId) (a0l : Addr) (a1o : Addr) : entryFrame m #[(.ref a0l), (.ref a1o)] 2 = mkF m 0 #[vr a0l, vr a1o] [] := by first | (simp [entryFrame, mkF, argsToLocals, Value.category]; done) | rfl
def Q_rmA1_0 (n0 : Nat) (Z : State) (cS : Int32) (aDE : Addr) (kDE : ClassId) (aUS : Addr) (aSS : Addr) (aIE : Addr) (mO : Addr) (a0l : Addr) (a1o : Addr) (mc : Int32) (h0 : Heap) (v : Option Value) (h : Heap) (L : List Loc) : Prop := ∃ b : Addr, ∃ kb : ClassId, v = some (.int 1) ∧ Fr n0 L ∧ Keep h0 h [a0l] ∧ (h0.size ≤ b) ∧ (Exa Z h b "[Ljava/lang/Object;") ∧ (Arv Z h b kb (.object "java/lang/Object") (10 : Int32) [(.ref a1o), .null, .null, .null, .null, .null, .null, .null, .null, .null] .null) ∧ (Ovr Z kb "java/lang/Object") ∧ (Exa Z h a0l "java/util/ArrayList") ∧ (Fld Z h a0l "java/util/ArrayList" "elementData" "[Ljava/lang/Object;" (.ref b)) ∧ (Fld Z h a0l "java/util/ArrayList" "size" "I" (.int 1)) ∧ (Fld Z h a0l "java/util/AbstractList" "modCount" "I" (.int (mc + (1 : Int32))))
theorem rmA1_0 (l : Launch) (Z : State) (a0 : Array Value) (hw : ∀ d ∈ tables_1, d.before a0 Z = true) (ws : List Jvm.Cond) (cS : Int32) (aDE : Addr) (kDE : ClassId) (aUS : Addr) (aSS : Addr) (aIE : Addr) (mO : Addr) (a0l : Addr) (a1o : Addr) (mc : Int32) (h0 : Heap) (n0 : Nat) (O0 : Old Z n0 h0) (GL : GF Z cS aDE kDE aUS aSS aIE mO) (E_a0l : Exa Z h0 a0l "java/util/ArrayList") (F_elementData_a0l : Fld Z h0 a0l "java/util/ArrayList" "elementData" "[Ljava/lang/Object;" (.ref aDE)) (F_size_a0l : Fld Z h0 a0l "java/util/ArrayList" "size" "I" (.int 0)) (F_modCount_a0l : Fld Z h0 a0l "java/util/AbstractList" "modCount" "I" (.int mc)) (g_a0l : n0 ≤ a0l) (E_a1o : Exa Z h0 a1o "com/example/grantline/grantline/PolicyException$Problem") :
    MF l MN_37 jdk_38_method_25_code 2 (some .boolean) ws (Rm 4 1 10 56) #[(.ref a0l), (.ref a1o)] Z h0 (Q_rmA1_0 n0 Z cS aDE kDE aUS aSS aIE mO a0l a1o mc h0) := by
  refine MetFree.of_bodySF (plainFor_of_name pnv9) hisR ?_
  intro p e s m args below meth c s₁ Bd hml0 hP hK
  obtain ⟨rfl, hZ, hh⟩ := hP
  have hx := Bd.exec
  have hby := Bd.bytes
  have hml : c.maxLocals = 2 := hml0
  have hown : s.vm.findClass "java/util/ArrayList" = some m.cls := findClass_of_methodNamed Bd.named
  have hnm := (name_of_methodNamed Bd.named Bd.method).1
  have X0 : Stand p l e (Rm 4 1 10 56) s m #[(.ref a0l), (.ref a1o)] below meth c s₁ [] 0 0 := Stand.of_body Bd
  have e0 : s₁.heap = h0 := by rw [← hh, Bd.state]; rfl
  have N0 := Fr.nil n0
  have pre0 : ∀ t, SP p e below s₁ m 0 #[vr a0l, vr a1o] [] t → Steps p.tables e below (s₁.setTop (entryFrame m #[(.ref a0l), (.ref a1o)] 2)) t := fun t k => castTop (ef_rmA1_0 m a0l a1o) k
  have GL' := GL
  obtain ⟨GCS, GCP, GDE, GVE, GUS, GSS, GIE, GMO⟩ := GL'
  obtain ⟨T1, X1, e1, st1⟩ := getF X0 hx hZ hown (host := "") (Or.inl (Wd hw 60 rfl)) (Via.of (Wd hw 61 rfl)) e0 F_modCount_a0l (g := mkF m 2 #[vr a0l, vr a1o] [(.ref a0l), (.ref a0l)]) rfl rfl (dG hby D8 2 rfl)
  obtain ⟨T2, h2, X2, e2, W2, st2⟩ := putF X1 hx hZ hown (host := "") (Or.inl (Wd hw 60 rfl)) (Via.of (Wd hw 61 rfl)) e1 F_modCount_a0l E_a0l (Or.inl (Wd hw 35 rfl)) (Wd hw 14 rfl) (ty := .int) (by decide) rfl rfl (g := mkF m 7 #[vr a0l, vr a1o] [(.int (mc + (1 : Int32))), (.ref a0l)]) rfl rfl (dG hby D8 5 rfl)
  have Fw2 := F_modCount_a0l.same W2
  have K2 : Keep h0 h2 [a0l] := (Keep.refl h0 [a0l]).wr W2 (Or.inl (List.mem_of_getElem? (i := 0) rfl))
  have O2 := O0.wr W2 g_a0l
  have N2 := Fr.snoc X2 N0 g_a0l
  obtain ⟨T3, X3, e3, st3⟩ := getF X2 hx hZ hown (host := "") (Or.inl (Wd hw 37 rfl)) Via.refl e2 (F_elementData_a0l.other W2 (Or.inr (slot_ne (a0 := a0) (Or.inl (Wd hw 38 rfl)) (Or.inl (Wd hw 35 rfl)) (by decide) (t := (.array (.object "java/lang/Object"))) (t' := .int) (by decide) (by decide)))) (g := mkF m 13 #[vr a0l, vr a1o] [(.ref a0l), (.ref a1o), (.ref a0l)]) rfl rfl (dG hby D8 9 rfl)
  obtain ⟨T4, X4, e4, st4⟩ := getF X3 hx hZ hown (host := "") (Or.inl (Wd hw 62 rfl)) Via.refl e3 (F_size_a0l.other W2 (Or.inr (slot_ne (a0 := a0) (Or.inl (Wd hw 63 rfl)) (Or.inl (Wd hw 35 rfl)) (by decide) (t := .int) (t' := .int) (by decide) (by decide)))) (g := mkF m 17 #[vr a0l, vr a1o] [(.ref a0l), (.ref aDE), (.ref a1o), (.ref a0l)]) rfl rfl (dG hby D8 11 rfl)
  obtain ⟨cq5, q5, q5'⟩ := (E_a0l.wr W2).cell
  obtain ⟨_, _, ⟨T5, L5, k5, n5⟩, -, X5, ⟨Lc5, hQ5, l5, y5, z5⟩, st5⟩ := X4.privateBack hx (y := MN_36) hown (mvT hZ (Wd hw 64 rfl)) (mvT hZ (Wd hw 65 rfl)) (mvT hZ (Wd hw 67 rfl)) (Cond.privateMethod_at (mvP hZ (Wd hw 66 rfl) (args := #[]))) (mvT hZ (Wd hw 68 rfl)) (by decide) (backOf (W := 0) (rmA3_0 l Z a0 hw [] cS aDE kDE aUS aSS aIE mO a0l a1o ((mc + (1 : Int32))) h2 n0 O2 GL (E_a0l.wr W2) (F_elementData_a0l.other W2 (Or.inr (slot_ne (a0 := a0) (Or.inl (Wd hw 38 rfl)) (Or.inl (Wd hw 35 rfl)) (by decide) (t := (.array (.object "java/lang/Object"))) (t' := .int) (by decide) (by decide)))) (F_size_a0l.other W2 (Or.inr (slot_ne (a0 := a0) (Or.inl (Wd hw 63 rfl)) (Or.inl (Wd hw 35 rfl)) (by decide) (t := .int) (t' := .int) (by decide) (by decide)))) Fw2 g_a0l (E_a1o.wr W2)) hZ (Wd hw 68 rfl) (Wd hw 15 rfl) (by decide) (by decide)) (g := mkF m 20 #[vr a0l, vr a1o] [(.int 0), (.ref aDE), (.ref a1o), (.ref a0l)]) rfl (by rw [hml]; rfl) (Steps.refl _) (a := a0l) (by rw [e4]; exact q5) q5' (argsL := [(.ref a1o), (.ref aDE), (.int 0)]) (rest := []) (lenOf pdv23 rfl) rfl (by show 2 * 0 + _ ≤ _; exact lEq rfl) (dG hby D8 12 rfl) (fun _ _ => ⟨rfl, e4, (by decide : 0 + 1 ≤ _), (by decide : 0 + 10 ≤ _)⟩)
  dsimp only [Pt.U, Pt.locs, Pt.cells, Pt.slots] at X5 l5 y5 z5 st5 hQ5
  subst l5 y5 z5
  obtain ⟨b_5, kb_5, rfl, N5q, Kc5, P5_0, P5_1, P5_2, P5_3, P5_4, P5_5, P5_6, P5_7⟩ := hQ5
  have K5 : Keep h0 T5.heap [a0l] := K2.trans Kc5 (allS (Or.inl (List.mem_of_getElem? (i := 0) rfl)) all0)
  have O5 := O2.keep Kc5 (allS g_a0l all0)
  have g_b_5 : n0 ≤ b_5 := lTr (own_sz O2) P5_0
  have sz_b_5 : h0.size ≤ b_5 := lTr K2.1 P5_0
  have N5 := Fr.app N2 N5q
  obtain ⟨fs, hr, hrun, hended, hW, hsame⟩ := X5.leave (v := some (.int 1)) (fun h => by rw [Bd.returns] at h; cases h)
  refine ⟨_, _, pre0 _ ?_, hrun, hended, _, _, rfl, ?_, ⟨_, rfl⟩, hW, hsame.mono (by decide) (by decide)⟩
  · show SP p e below s₁ m 0 #[vr a0l, vr a1o] [] _
    refine XS.aloadN X0.here hx rfl (dG hby D8 0 rfl) rfl rfl ?_
    refine XS.dup X0.here hx rfl (dG hby D8 1 rfl) rfl rfl ?_
    show SP p e below s₁ m 2 #[vr a0l, vr a1o] [(.ref a0l), (.ref a0l)] _
    refine st1 _ ?_
    show SP p e below T1 m 5 #[vr a0l, vr a1o] [(.int mc), (.ref a0l)] _
    refine XS.iconst X1.here hx rfl (dG hby D8 3 rfl) ?_
    refine XS.iadd X1.here hx rfl (dG hby D8 4 rfl) rfl ?_
    show SP p e below T1 m 7 #[vr a0l, vr a1o] [(.int (mc + (1 : Int32))), (.ref a0l)] _
    refine st2 _ ?_
    show SP p e below T2 m 10 #[vr a0l, vr a1o] [] _
    refine XS.aloadN X2.here hx rfl (dG hby D8 6 rfl) rfl rfl ?_
    refine XS.aloadN X2.here hx rfl (dG hby D8 7 rfl) rfl rfl ?_
    refine XS.aloadN X2.here hx rfl (dG hby D8 8 rfl) rfl rfl ?_
    show SP p e below T2 m 13 #[vr a0l, vr a1o] [(.ref a0l), (.ref a1o), (.ref a0l)] _
    refine st3 _ ?_
    show SP p e below T3 m 16 #[vr a0l, vr a1o] [(.ref aDE), (.ref a1o), (.ref a0l)] _
    refine XS.aloadN X3.here hx rfl (dG hby D8 10 rfl) rfl rfl ?_
    show SP p e below T3 m 17 #[vr a0l, vr a1o] [(.ref a0l), (.ref aDE), (.ref a1o), (.ref a0l)] _
    refine st4 _ ?_
    show SP p e below T4 m 20 #[vr a0l, vr a1o] [(.int 0), (.ref aDE), (.ref a1o), (.ref a0l)] _
    refine st5.trans ?_
    show SP p e below T5 m 23 #[vr a0l, vr a1o] [] _
    refine XS.iconst X5.here hx rfl (dG hby D8 13 rfl) ?_
    show SP p e below T5 m 24 #[vr a0l, vr a1o] [(.int 1)] _
    exact retN X5 hx (t := .boolean) Bd.returns (by simp) (dG hby D8 14 rfl) hr
  · show Q_rmA1_0 n0 Z cS aDE kDE aUS aSS aIE mO a0l a1o mc h0 _ T5.heap _
    exact ⟨b_5, kb_5, rfl, N5, K5, sz_b_5, P5_1, P5_2, P5_3, P5_4, P5_5, P5_6, P5_7⟩
theorem ef_rmA3_1 (m : MethodId) (a0l : Addr) (a1o : Addr) (ae : Addr) : entryFrame m #[(.ref a0l), (.ref a1o), (.ref ae), (.int 1)] 4 = mkF m 0 #[vr a0l, vr a1o, vr ae, vi (1 : Int32)] [] := by first | (simp [entryFrame, mkF, argsToLocals, Value.category]; done) | rfl
def Q_rmA3_1 (n0 : Nat) (Z : State) (cS : Int32) (aDE : Addr) (kDE : ClassId) (aUS : Addr) (aSS : Addr) (aIE : Addr) (mO : Addr) (a0l : Addr) (a1o : Addr) (ae : Addr) (mc : Int32) (ka : ClassId) (ob0 : Addr) (h0 : Heap) (v : Option Value) (h : Heap) (L : List Loc) : Prop := v = none ∧ Fr n0 L ∧ Keep h0 h [a0l, ae] ∧ (Exa Z h ae "[Ljava/lang/Object;") ∧ (Arv Z h ae ka (.object "java/lang/Object") (10 : Int32) [(.ref ob0), (.ref a1o), .null, .null, .null, .null, .null, .null, .null, .null] .null) ∧ (Ovr Z ka "java/lang/Object") ∧ (Exa Z h a0l "java/util/ArrayList") ∧ (Fld Z h a0l "java/util/ArrayList" "elementData" "[Ljava/lang/Object;" (.ref ae)) ∧ (Fld Z h a0l "java/util/ArrayList" "size" "I" (.int 2)) ∧ (Fld Z h a0l "java/util/AbstractList" "modCount" "I" (.int mc))
theorem rmA3_1 (l : Launch) (Z : State) (a0 : Array Value) (hw : ∀ d ∈ tables_1, d.before a0 Z = true) (ws : List Jvm.Cond) (cS : Int32) (aDE : Addr) (kDE : ClassId) (aUS : Addr) (aSS : Addr) (aIE : Addr) (mO : Addr) (a0l : Addr) (a1o : Addr) (ae : Addr) (mc : Int32) (ka : ClassId) (ob0 : Addr) (h0 : Heap) (n0 : Nat) (O0 : Old Z n0 h0) (GL : GF Z cS aDE kDE aUS aSS aIE mO) (E_a0l : Exa Z h0 a0l "java/util/ArrayList") (F_elementData_a0l : Fld Z h0 a0l "java/util/ArrayList" "elementData" "[Ljava/lang/Object;" (.ref ae)) (F_size_a0l : Fld Z h0 a0l "java/util/ArrayList" "size" "I" (.int 1)) (F_modCount_a0l : Fld Z h0 a0l "java/util/AbstractList" "modCount" "I" (.int mc)) (g_a0l : n0 ≤ a0l) (E_a1o : Exa Z h0 a1o "com/example/grantline/grantline/PolicyException$Problem") (E_ae : Exa Z h0 ae "[Ljava/lang/Object;") (V_ae : Arv Z h0 ae ka (.object "java/lang/Object") (10 : Int32) [(.ref ob0), .null, .null, .null, .null, .null, .null, .null, .null, .null] .null) (ov : Ovr Z ka "java/lang/Object") (g_ae : n0 ≤ ae) :
    MF l MN_36 jdk_38_method_24_code 4 none ws (Rm 0 0 0 0) #[(.ref a0l), (.ref a1o), (.ref ae), (.int 1)] Z h0 (Q_rmA3_1 n0 Z cS aDE kDE aUS aSS aIE mO a0l a1o ae mc ka ob0 h0) := by
  refine MetFree.of_bodySF (plainFor_of_name pnv9) hisR ?_
  intro p e s m args below meth c s₁ Bd hml0 hP hK
  obtain ⟨rfl, hZ, hh⟩ := hP
  have hx := Bd.exec
  have hby := Bd.bytes
  have hml : c.maxLocals = 4 := hml0
  have hown : s.vm.findClass "java/util/ArrayList" = some m.cls := findClass_of_methodNamed Bd.named
  have hnm := (name_of_methodNamed Bd.named Bd.method).1
  have X0 : Stand p l e (Rm 0 0 0 0) s m #[(.ref a0l), (.ref a1o), (.ref ae), (.int 1)] below meth c s₁ [] 0 0 := Stand.of_body Bd
  have e0 : s₁.heap = h0 := by rw [← hh, Bd.state]; rfl
  have N0 := Fr.nil n0
  have pre0 : ∀ t, SP p e below s₁ m 0 #[vr a0l, vr a1o, vr ae, vi (1 : Int32)] [] t → Steps p.tables e below (s₁.setTop (entryFrame m #[(.ref a0l), (.ref a1o), (.ref ae), (.int 1)] 4)) t := fun t k => castTop (ef_rmA3_1 m a0l a1o ae) k
  have GL' := GL
  obtain ⟨GCS, GCP, GDE, GVE, GUS, GSS, GIE, GMO⟩ := GL'
  obtain ⟨cl1, Ar1, -, S1, N1_, -, -⟩ := id (V_ae)
  obtain ⟨cl2, Ar2, q2, S2, N2_, H2, G2⟩ := id (V_ae)
  have hin2 : ¬ ((1 : Int32) < 0 ∨ cl2.slots.size ≤ ((1 : Int32)).toNatClampNeg) := inb_of S2 ⟨(by decide), (by decide)⟩
  obtain ⟨T2, h2, X2, e2, W2, st2⟩ := stR X0 hx hZ e0 Ar2 (j := (1 : Int32)) hin2 rfl (Sto.ofV Ar2 q2 ov (Ins.of_exa E_a1o (Wd hw 85 rfl))) (g := mkF m 14 #[vr a0l, vr a1o, vr ae, vi (1 : Int32)] [(.ref a1o), (.int 1), (.ref ae)]) rfl rfl (dG hby D9 10 rfl)
  have K2 : Keep h0 h2 [a0l, ae] := (Keep.refl h0 [a0l, ae]).wr W2 (Or.inl (List.mem_of_getElem? (i := 1) rfl))
  have O2 := O0.wr W2 g_ae
  have N2 := Fr.snoc X2 N0 g_ae
  have V2 : Arv Z h2 ae ka (.object "java/lang/Object") (10 : Int32) [(.ref ob0), (.ref a1o), .null, .null, .null, .null, .null, .null, .null, .null] .null := Arv.set Ar2 q2 S2 N2_ H2 G2 rfl W2 1 rfl (Nat.le_of_ble_eq_true rfl)
  obtain ⟨T3, h3, X3, e3, W3, st3⟩ := putF X2 hx hZ hown (host := "") (Or.inl (Wd hw 62 rfl)) Via.refl e2 (F_size_a0l.other W2 (Or.inl (Exa.ne E_a0l E_ae (by decide)))) (E_a0l.wr W2) (Or.inl (Wd hw 63 rfl)) (Wd hw 14 rfl) (ty := .int) (by decide) rfl rfl (g := mkF m 19 #[vr a0l, vr a1o, vr ae, vi (1 : Int32)] [(.int 2), (.ref a0l)]) rfl rfl (dG hby D9 15 rfl)
  have Fw3 := (F_size_a0l.other W2 (Or.inl (Exa.ne E_a0l E_ae (by decide)))).same W3
  have K3 : Keep h0 h3 [a0l, ae] := K2.wr W3 (Or.inl (List.mem_of_getElem? (i := 0) rfl))
  have O3 := O2.wr W3 g_a0l
  have N3 := Fr.snoc X3 N2 g_a0l
  obtain ⟨fs, hr, hrun, hended, hW, hsame⟩ := X3.leave (v := none) (fun _ => rfl)
  refine ⟨_, _, pre0 _ ?_, hrun, hended, _, _, rfl, ?_, ⟨_, rfl⟩, hW, hsame.mono (by decide) (by decide)⟩
  · show SP p e below s₁ m 0 #[vr a0l, vr a1o, vr ae, vi (1 : Int32)] [] _
    refine XS.iloadN X0.here hx rfl (dG hby D9 0 rfl) rfl ?_
    refine XS.aloadN X0.here hx rfl (dG hby D9 1 rfl) rfl rfl ?_
    show SP p e below s₁ m 2 #[vr a0l, vr a1o, vr ae, vi (1 : Int32)] [(.ref ae), (.int 1)] _
    refine X0.arraylength hx (by rw [e0]; exact Ar1.1) (State.isArrayOf_alike hZ.alike Ar1.2.1) (g := mkF m 2 #[vr a0l, vr a1o, vr ae, vi (1 : Int32)] [(.ref ae), (.int 1)]) rfl rfl (dG hby D9 2 rfl) _ ?_
    rw [len_of S1 N1_]
    show SP p e below s₁ m 3 #[vr a0l, vr a1o, vr ae, vi (1 : Int32)] [(.int 10), (.int 1)] _
    refine XS.icmpYes X0.here hx rfl (pc0 := 3) (pc' := 11) rfl (dG hby D9 3 rfl) rfl (feq (by decide : ¬ ((1 : Int32) = (10 : Int32)))).2 (by decide) (by decide) ?_
    refine XS.aloadN X0.here hx rfl (dG hby D9 7 rfl) rfl rfl ?_
    refine XS.iloadN X0.here hx rfl (dG hby D9 8 rfl) rfl ?_
    refine XS.aloadN X0.here hx rfl (dG hby D9 9 rfl) rfl rfl ?_
    show SP p e below s₁ m 14 #[vr a0l, vr a1o, vr ae, vi (1 : Int32)] [(.ref a1o), (.int 1), (.ref ae)] _
    refine st2 _ ?_
    show SP p e below T2 m 15 #[vr a0l, vr a1o, vr ae, vi (1 : Int32)] [] _
    refine XS.aloadN X2.here hx rfl (dG hby D9 11 rfl) rfl rfl ?_
    refine XS.iloadN X2.here hx rfl (dG hby D9 12 rfl) rfl ?_
    refine XS.iconst X2.here hx rfl (dG hby D9 13 rfl) ?_
    refine XS.iadd X2.here hx rfl (dG hby D9 14 rfl) rfl ?_
    show SP p e below T2 m 19 #[vr a0l, vr a1o, vr ae, vi (1 : Int32)] [(.int 2), (.ref a0l)] _
    refine st3 _ ?_
    show SP p e below T3 m 22 #[vr a0l, vr a1o, vr ae, vi (1 : Int32)] [] _
    exact X3.returnOut hx Bd.returns (dG hby D9 16 rfl) hr
  · show Q_rmA3_1 n0 Z cS aDE kDE aUS aSS aIE mO a0l a1o ae mc ka ob0 h0 _ T3.heap _
    rw [e3]
    exact ⟨rfl, N3, K3, ((E_ae.wr W2).wr W3), (V2.other W3 (Exa.ne E_ae E_a0l (by decide))), ov, ((E_a0l.wr W2).wr W3), ((F_elementData_a0l.other W2 (Or.inl (Exa.ne E_a0l E_ae (by decide)))).other W3 (Or.inr (slot_ne (a0 := a0) (Or.inl (Wd hw 38 rfl)) (Or.inl (Wd hw 63 rfl)) (by decide) (t := (.array (.object "java/lang/Object"))) (t' := .int) (by decide) (by decide)))), Fw3, ((F_modCount_a0l.other W2 (Or.inl (Exa.ne E_a0l E_ae (by decide)))).other W3 (Or.inr (slot_ne (a0 := a0) (Or.inl (Wd hw 35 rfl)) (Or.inl (Wd hw 63 rfl)) (by decide) (t := .int) (t' := .int) (by decide) (by decide))))⟩
def Q_rmA1_1 (n0 : Nat) (Z : State) (cS : Int32) (aDE : Addr) (kDE : ClassId) (aUS : Addr) (aSS : Addr) (aIE : Addr) (mO : Addr) (a0l : Addr) (a1o : Addr) (ae : Addr) (mc : Int32) (ka : ClassId) (ob0 : Addr) (h0 : Heap) (v : Option Value) (h : Heap) (L : List Loc) : Prop := v = some (.int 1) ∧ Fr n0 L ∧ Keep h0 h [a0l, ae] ∧ (Exa Z h ae "[Ljava/lang/Object;") ∧ (Arv Z h ae ka (.object "java/lang/Object") (10 : Int32) [(.ref ob0), (.ref a1o), .null, .null, .null, .null, .null, .null, .null, .null] .null) ∧ (Ovr Z ka "java/lang/Object") ∧ (Exa Z h a0l "java/util/ArrayList") ∧ (Fld Z h a0l "java/util/ArrayList" "elementData" "[Ljava/lang/Object;" (.ref ae)) ∧ (Fld Z h a0l "java/util/ArrayList" "size" "I" (.int 2)) ∧ (Fld Z h a0l "java/util/AbstractList" "modCount" "I" (.int (mc + (1 : Int32))))
theorem rmA1_1 (l : Launch) (Z : State) (a0 : Array Value) (hw : ∀ d ∈ tables_1, d.before a0 Z = true) (ws : List Jvm.Cond) (cS : Int32) (aDE : Addr) (kDE : ClassId) (aUS : Addr) (aSS : Addr) (aIE : Addr) (mO : Addr) (a0l : Addr) (a1o : Addr) (ae : Addr) (mc : Int32) (ka : ClassId) (ob0 : Addr) (h0 : Heap) (n0 : Nat) (O0 : Old Z n0 h0) (GL : GF Z cS aDE kDE aUS aSS aIE mO) (E_a0l : Exa Z h0 a0l "java/util/ArrayList") (F_elementData_a0l : Fld Z h0 a0l "java/util/ArrayList" "elementData" "[Ljava/lang/Object;" (.ref ae)) (F_size_a0l : Fld Z h0 a0l "java/util/ArrayList" "size" "I" (.int 1)) (F_modCount_a0l : Fld Z h0 a0l "java/util/AbstractList" "modCount" "I" (.int mc)) (g_a0l : n0 ≤ a0l) (E_a1o : Exa Z h0 a1o "com/example/grantline/grantline/PolicyException$Problem") (E_ae : Exa Z h0 ae "[Ljava/lang/Object;") (V_ae : Arv Z h0 ae ka (.object "java/lang/Object") (10 : Int32) [(.ref ob0), .null, .null, .null, .null, .null, .null, .null, .null, .null] .null) (ov : Ovr Z ka "java/lang/Object") (g_ae : n0 ≤ ae) :
    MF l MN_37 jdk_38_method_25_code 2 (some .boolean) ws (Rm 1 0 0 15) #[(.ref a0l), (.ref a1o)] Z h0 (Q_rmA1_1 n0 Z cS aDE kDE aUS aSS aIE mO a0l a1o ae mc ka ob0 h0) := by
  refine MetFree.of_bodySF (plainFor_of_name pnv9) hisR ?_
  intro p e s m args below meth c s₁ Bd hml0 hP hK
  obtain ⟨rfl, hZ, hh⟩ := hP
  have hx := Bd.exec
  have hby := Bd.bytes
  have hml : c.maxLocals = 2 := hml0
  have hown : s.vm.findClass "java/util/ArrayList" = some m.cls := findClass_of_methodNamed Bd.named
  have hnm := (name_of_methodNamed Bd.named Bd.method).1
  have X0 : Stand p l e (Rm 1 0 0 15) s m #[(.ref a0l), (.ref a1o)] below meth c s₁ [] 0 0 := Stand.of_body Bd
  have e0 : s₁.heap = h0 := by rw [← hh, Bd.state]; rfl
  have N0 := Fr.nil n0
  have pre0 : ∀ t, SP p e below s₁ m 0 #[vr a0l, vr a1o] [] t → Steps p.tables e below (s₁.setTop (entryFrame m #[(.ref a0l), (.ref a1o)] 2)) t := fun t k => castTop (ef_rmA1_0 m a0l a1o) k
  have GL' := GL
  obtain ⟨GCS, GCP, GDE, GVE, GUS, GSS, GIE, GMO⟩ := GL'
  obtain ⟨T1, X1, e1, st1⟩ := getF X0 hx hZ hown (host := "") (Or.inl (Wd hw 60 rfl)) (Via.of (Wd hw 61 rfl)) e0 F_modCount_a0l (g := mkF m 2 #[vr a0l, vr a1o] [(.ref a0l), (.ref a0l)]) rfl rfl (dG hby D8 2 rfl)
  obtain ⟨T2, h2, X2, e2, W2, st2⟩ := putF X1 hx hZ hown (host := "") (Or.inl (Wd hw 60 rfl)) (Via.of (Wd hw 61 rfl)) e1 F_modCount_a0l E_a0l (Or.inl (Wd hw 35 rfl)) (Wd hw 14 rfl) (ty := .int) (by decide) rfl rfl (g := mkF m 7 #[vr a0l, vr a1o] [(.int (mc + (1 : Int32))), (.ref a0l)]) rfl rfl (dG hby D8 5 rfl)
  have Fw2 := F_modCount_a0l.same W2
  have K2 : Keep h0 h2 [a0l, ae] := (Keep.refl h0 [a0l, ae]).wr W2 (Or.inl (List.mem_of_getElem? (i := 0) rfl))
  have O2 := O0.wr W2 g_a0l
  have N2 := Fr.snoc X2 N0 g_a0l
  obtain ⟨T3, X3, e3, st3⟩ := getF X2 hx hZ hown (host := "") (Or.inl (Wd hw 37 rfl)) Via.refl e2 (F_elementData_a0l.other W2 (Or.inr (slot_ne (a0 := a0) (Or.inl (Wd hw 38 rfl)) (Or.inl (Wd hw 35 rfl)) (by decide) (t := (.array (.object "java/lang/Object"))) (t' := .int) (by decide) (by decide)))) (g := mkF m 13 #[vr a0l, vr a1o] [(.ref a0l), (.ref a1o), (.ref a0l)]) rfl rfl (dG hby D8 9 rfl)
  obtain ⟨T4, X4, e4, st4⟩ := getF X3 hx hZ hown (host := "") (Or.inl (Wd hw 62 rfl)) Via.refl e3 (F_size_a0l.other W2 (Or.inr (slot_ne (a0 := a0) (Or.inl (Wd hw 63 rfl)) (Or.inl (Wd hw 35 rfl)) (by decide) (t := .int) (t' := .int) (by decide) (by decide)))) (g := mkF m 17 #[vr a0l, vr a1o] [(.ref a0l), (.ref ae), (.ref a1o), (.ref a0l)]) rfl rfl (dG hby D8 11 rfl)
  obtain ⟨cq5, q5, q5'⟩ := (E_a0l.wr W2).cell
  obtain ⟨_, _, ⟨T5, L5, k5, n5⟩, -, X5, ⟨Lc5, hQ5, l5, y5, z5⟩, st5⟩ := X4.privateBack hx (y := MN_36) hown (mvT hZ (Wd hw 64 rfl)) (mvT hZ (Wd hw 65 rfl)) (mvT hZ (Wd hw 67 rfl)) (Cond.privateMethod_at (mvP hZ (Wd hw 66 rfl) (args := #[]))) (mvT hZ (Wd hw 68 rfl)) (by decide) (backOf (W := 0) (rmA3_1 l Z a0 hw [] cS aDE kDE aUS aSS aIE mO a0l a1o ae ((mc + (1 : Int32))) ka ob0 h2 n0 O2 GL (E_a0l.wr W2) (F_elementData_a0l.other W2 (Or.inr (slot_ne (a0 := a0) (Or.inl (Wd hw 38 rfl)) (Or.inl (Wd hw 35 rfl)) (by decide) (t := (.array (.object "java/lang/Object"))) (t' := .int) (by decide) (by decide)))) (F_size_a0l.other W2 (Or.inr (slot_ne (a0 := a0) (Or.inl (Wd hw 63 rfl)) (Or.inl (Wd hw 35 rfl)) (by decide) (t := .int) (t' := .int) (by decide) (by decide)))) Fw2 g_a0l (E_a1o.wr W2) (E_ae.wr W2) (V_ae.other W2 (Exa.ne E_ae E_a0l (by decide))) ov g_ae) hZ (Wd hw 68 rfl) (Wd hw 15 rfl) (by decide) (by decide)) (g := mkF m 20 #[vr a0l, vr a1o] [(.int 1), (.ref ae), (.ref a1o), (.ref a0l)]) rfl (by rw [hml]; rfl) (Steps.refl _) (a := a0l) (by rw [e4]; exact q5) q5' (argsL := [(.ref a1o), (.ref ae), (.int 1)]) (rest := []) (lenOf pdv23 rfl) rfl (by show 2 * 0 + _ ≤ _; exact lEq rfl) (dG hby D8 12 rfl) (fun _ _ => ⟨rfl, e4, (by decide : 0 + 0 ≤ _), (by decide : 0 + 0 ≤ _)⟩)
  dsimp only [Pt.U, Pt.locs, Pt.cells, Pt.slots] at X5 l5 y5 z5 st5 hQ5
  subst l5 y5 z5
  obtain ⟨rfl, N5q, Kc5, P5_0, P5_1, P5_2, P5_3, P5_4, P5_5, P5_6⟩ := hQ5
  have K5 : Keep h0 T5.heap [a0l, ae] := K2.trans Kc5 (allS (Or.inl (List.mem_of_getElem? (i := 0) rfl)) (allS (Or.inl (List.mem_of_getElem? (i := 1) rfl)) all0))
  have O5 := O2.keep Kc5 (allS g_a0l (allS g_ae all0))
  have N5 := Fr.app N2 N5q
  obtain ⟨fs, hr, hrun, hended, hW, hsame⟩ := X5.leave (v := some (.int 1)) (fun h => by rw [Bd.returns] at h; cases h)
  refine ⟨_, _, pre0 _ ?_, hrun, hended, _, _, rfl, ?_, ⟨_, rfl⟩, hW, hsame.mono (by decide) (by decide)⟩
  · show SP p e below s₁ m 0 #[vr a0l, vr a1o] [] _
    refine XS.aloadN X0.here hx rfl (dG hby D8 0 rfl) rfl rfl ?_
    refine XS.dup X0.here hx rfl (dG hby D8 1 rfl) rfl rfl ?_
    show SP p e below s₁ m 2 #[vr a0l, vr a1o] [(.ref a0l), (.ref a0l)] _
    refine st1 _ ?_
    show SP p e below T1 m 5 #[vr a0l, vr a1o] [(.int mc), (.ref a0l)] _
    refine XS.iconst X1.here hx rfl (dG hby D8 3 rfl) ?_
    refine XS.iadd X1.here hx rfl (dG hby D8 4 rfl) rfl ?_
    show SP p e below T1 m 7 #[vr a0l, vr a1o] [(.int (mc + (1 : Int32))), (.ref a0l)] _
    refine st2 _ ?_
    show SP p e below T2 m 10 #[vr a0l, vr a1o] [] _
    refine XS.aloadN X2.here hx rfl (dG hby D8 6 rfl) rfl rfl ?_
    refine XS.aloadN X2.here hx rfl (dG hby D8 7 rfl) rfl rfl ?_
    refine XS.aloadN X2.here hx rfl (dG hby D8 8 rfl) rfl rfl ?_
    show SP p e below T2 m 13 #[vr a0l, vr a1o] [(.ref a0l), (.ref a1o), (.ref a0l)] _
    refine st3 _ ?_
    show SP p e below T3 m 16 #[vr a0l, vr a1o] [(.ref ae), (.ref a1o), (.ref a0l)] _
    refine XS.aloadN X3.here hx rfl (dG hby D8 10 rfl) rfl rfl ?_
    show SP p e below T3 m 17 #[vr a0l, vr a1o] [(.ref a0l), (.ref ae), (.ref a1o), (.ref a0l)] _
    refine st4 _ ?_
    show SP p e below T4 m 20 #[vr a0l, vr a1o] [(.int 1), (.ref ae), (.ref a1o), (.ref a0l)] _
    refine st5.trans ?_
    show SP p e below T5 m 23 #[vr a0l, vr a1o] [] _
    refine XS.iconst X5.here hx rfl (dG hby D8 13 rfl) ?_
    show SP p e below T5 m 24 #[vr a0l, vr a1o] [(.int 1)] _
    exact retN X5 hx (t := .boolean) Bd.returns (by simp) (dG hby D8 14 rfl) hr
  · show Q_rmA1_1 n0 Z cS aDE kDE aUS aSS aIE mO a0l a1o ae mc ka ob0 h0 _ T5.heap _
    exact ⟨rfl, N5, K5, P5_0, P5_1, P5_2, P5_3, P5_4, P5_5, P5_6⟩
theorem ef_rmA3_2 (m : MethodId) (a0l : Addr) (a1o : Addr) (ae : Addr) : entryFrame m #[(.ref a0l), (.ref a1o), (.ref ae), (.int 2)] 4 = mkF m 0 #[vr a0l, vr a1o, vr ae, vi (2 : Int32)] [] := by first | (simp [entryFrame, mkF, argsToLocals, Value.category]; done) | rfl
def Q_rmA3_2 (n0 : Nat) (Z : State) (cS : Int32) (aDE : Addr) (kDE : ClassId) (aUS : Addr) (aSS : Addr) (aIE : Addr) (mO : Addr) (a0l : Addr) (a1o : Addr) (ae : Addr) (mc : Int32) (ka : ClassId) (ob0 : Addr) (ob1 : Addr) (h0 : Heap) (v : Option Value) (h : Heap) (L : List Loc) : Prop := v = none ∧ Fr n0 L ∧ Keep h0 h [a0l, ae] ∧ (Exa Z h ae "[Ljava/lang/Object;") ∧ (Arv Z h ae ka (.object "java/lang/Object") (10 : Int32) [(.ref ob0), (.ref ob1), (.ref a1o), .null, .null, .null, .null, .null, .null, .null] .null) ∧ (Ovr Z ka "java/lang/Object") ∧ (Exa Z h a0l "java/util/ArrayList") ∧ (Fld Z h a0l "java/util/ArrayList" "elementData" "[Ljava/lang/Object;" (.ref ae)) ∧ (Fld Z h a0l "java/util/ArrayList" "size" "I" (.int 3)) ∧ (Fld Z h a0l "java/util/AbstractList" "modCount" "I" (.int mc))
theorem rmA3_2 (l : Launch) (Z : State) (a0 : Array Value) (hw : ∀ d ∈ tables_1, d.before a0 Z = true) (ws : List Jvm.Cond) (cS : Int32) (aDE : Addr) (kDE : ClassId) (aUS : Addr) (aSS : Addr) (aIE : Addr) (mO : Addr) (a0l : Addr) (a1o : Addr) (ae : Addr) (mc : Int32) (ka : ClassId) (ob0 : Addr) (ob1 : Addr) (h0 : Heap) (n0 : Nat) (O0 : Old Z n0 h0) (GL : GF Z cS aDE kDE aUS aSS aIE mO) (E_a0l : Exa Z h0 a0l "java/util/ArrayList") (F_elementData_a0l : Fld Z h0 a0l "java/util/ArrayList" "elementData" "[Ljava/lang/Object;" (.ref ae)) (F_size_a0l : Fld Z h0 a0l "java/util/ArrayList" "size" "I" (.int 2)) (F_modCount_a0l : Fld Z h0 a0l "java/util/AbstractList" "modCount" "I" (.int mc)) (g_a0l : n0 ≤ a0l) (E_a1o : Exa Z h0 a1o "com/example/grantline/grantline/PolicyException$Problem") (E_ae : Exa Z h0 ae "[Ljava/lang/Object;") (V_ae : Arv Z h0 ae ka (.object "java/lang/Object") (10 : Int32) [(.ref ob0), (.ref ob1), .null, .null, .null, .null, .null, .null, .null, .null] .null) (ov : Ovr Z ka "java/lang/Object") (g_ae : n0 ≤ ae) :
    MF l MN_36 jdk_38_method_24_code 4 none ws (Rm 0 0 0 0) #[(.ref a0l), (.ref a1o), (.ref ae), (.int 2)] Z h0 (Q_rmA3_2 n0 Z cS aDE kDE aUS aSS aIE mO a0l a1o ae mc ka ob0 ob1 h0) := by
  refine MetFree.of_bodySF (plainFor_of_name pnv9) hisR ?_
  intro p e s m args below meth c s₁ Bd hml0 hP hK
  obtain ⟨rfl, hZ, hh⟩ := hP
  have hx := Bd.exec
  have hby := Bd.bytes
  have hml : c.maxLocals = 4 := hml0
  have hown : s.vm.findClass "java/util/ArrayList" = some m.cls := findClass_of_methodNamed Bd.named
  have hnm := (name_of_methodNamed Bd.named Bd.method).1
  have X0 : Stand p l e (Rm 0 0 0 0) s m #[(.ref a0l), (.ref a1o), (.ref ae), (.int 2)] below meth c s₁ [] 0 0 := Stand.of_body Bd
  have e0 : s₁.heap = h0 := by rw [← hh, Bd.state]; rfl
  have N0 := Fr.nil n0
  have pre0 : ∀ t, SP p e below s₁ m 0 #[vr a0l, vr a1o, vr ae, vi (2 : Int32)] [] t → Steps p.tables e below (s₁.setTop (entryFrame m #[(.ref a0l), (.ref a1o), (.ref ae), (.int 2)] 4)) t := fun t k => castTop (ef_rmA3_2 m a0l a1o ae) k
  have GL' := GL
  obtain ⟨GCS, GCP, GDE, GVE, GUS, GSS, GIE, GMO⟩ := GL'
  obtain ⟨cl1, Ar1, -, S1, N1_, -, -⟩ := id (V_ae)
  obtain ⟨cl2, Ar2, q2, S2, N2_, H2, G2⟩ := id (V_ae)
  have hin2 : ¬ ((2 : Int32) < 0 ∨ cl2.slots.size ≤ ((2 : Int32)).toNatClampNeg) := inb_of S2 ⟨(by decide), (by decide)⟩
  obtain ⟨T2, h2, X2, e2, W2, st2⟩ := stR X0 hx hZ e0 Ar2 (j := (2 : Int32)) hin2 rfl (Sto.ofV Ar2 q2 ov (Ins.of_exa E_a1o (Wd hw 85 rfl))) (g := mkF m 14 #[vr a0l, vr a1o, vr ae, vi (2 : Int32)] [(.ref a1o), (.int 2), (.ref ae)]) rfl rfl (dG hby D9 10 rfl)
  have K2 : Keep h0 h2 [a0l, ae] := (Keep.refl h0 [a0l, ae]).wr W2 (Or.inl (List.mem_of_getElem? (i := 1) rfl))
  have O2 := O0.wr W2 g_ae
  have N2 := Fr.snoc X2 N0 g_ae
  have V2 : Arv Z h2 ae ka (.object "java/lang/Object") (10 : Int32) [(.ref ob0), (.ref ob1), (.ref a1o), .null, .null, .null, .null, .null, .null, .null] .null := Arv.set Ar2 q2 S2 N2_ H2 G2 rfl W2 2 rfl (Nat.le_of_ble_eq_true rfl)
  obtain ⟨T3, h3, X3, e3, W3, st3⟩ := putF X2 hx hZ hown (host := "") (Or.inl (Wd hw 62 rfl)) Via.refl e2 (F_size_a0l.other W2 (Or.inl (Exa.ne E_a0l E_ae (by decide)))) (E_a0l.wr W2) (Or.inl (Wd hw 63 rfl)) (Wd hw 14 rfl) (ty := .int) (by decide) rfl rfl (g := mkF m 19 #[vr a0l, vr a1o, vr ae, vi (2 : Int32)] [(.int 3), (.ref a0l)]) rfl rfl (dG hby D9 15 rfl)
  have Fw3 := (F_size_a0l.other W2 (Or.inl (Exa.ne E_a0l E_ae (by decide)))).same W3
  have K3 : Keep h0 h3 [a0l, ae] := K2.wr W3 (Or.inl (List.mem_of_getElem? (i := 0) rfl))
  have O3 := O2.wr W3 g_a0l
  have N3 := Fr.snoc X3 N2 g_a0l
  obtain ⟨fs, hr, hrun, hended, hW, hsame⟩ := X3.leave (v := none) (fun _ => rfl)
  refine ⟨_, _, pre0 _ ?_, hrun, hended, _, _, rfl, ?_, ⟨_, rfl⟩, hW, hsame.mono (by decide) (by decide)⟩
  · show SP p e below s₁ m 0 #[vr a0l, vr a1o, vr ae, vi (2 : Int32)] [] _
    refine XS.iloadN X0.here hx rfl (dG hby D9 0 rfl) rfl ?_
    refine XS.aloadN X0.here hx rfl (dG hby D9 1 rfl) rfl rfl ?_
    show SP p e below s₁ m 2 #[vr a0l, vr a1o, vr ae, vi (2 : Int32)] [(.ref ae), (.int 2)] _
    refine X0.arraylength hx (by rw [e0]; exact Ar1.1) (State.isArrayOf_alike hZ.alike Ar1.2.1) (g := mkF m 2 #[vr a0l, vr a1o, vr ae, vi (2 : Int32)] [(.ref ae), (.int 2)]) rfl rfl (dG hby D9 2 rfl) _ ?_
    rw [len_of S1 N1_]
    show SP p e below s₁ m 3 #[vr a0l, vr a1o, vr ae, vi (2 : Int32)] [(.int 10), (.int 2)] _
    refine XS.icmpYes X0.here hx rfl (pc0 := 3) (pc' := 11) rfl (dG hby D9 3 rfl) rfl (feq (by decide : ¬ ((2 : Int32) = (10 : Int32)))).2 (by decide) (by decide) ?_
    refine XS.aloadN X0.here hx rfl (dG hby D9 7 rfl) rfl rfl ?_
    refine XS.iloadN X0.here hx rfl (dG hby D9 8 rfl) rfl ?_
    refine XS.aloadN X0.here hx rfl (dG hby D9 9 rfl) rfl rfl ?_
    show SP p e below s₁ m 14 #[vr a0l, vr a1o, vr ae, vi (2 : Int32)] [(.ref a1o), (.int 2), (.ref ae)] _
    refine st2 _ ?_
    show SP p e below T2 m 15 #[vr a0l, vr a1o, vr ae, vi (2 : Int32)] [] _
    refine XS.aloadN X2.here hx rfl (dG hby D9 11 rfl) rfl rfl ?_
    refine XS.iloadN X2.here hx rfl (dG hby D9 12 rfl) rfl ?_
    refine XS.iconst X2.here hx rfl (dG hby D9 13 rfl) ?_
    refine XS.iadd X2.here hx rfl (dG hby D9 14 rfl) rfl ?_
    show SP p e below T2 m 19 #[vr a0l, vr a1o, vr ae, vi (2 : Int32)] [(.int 3), (.ref a0l)] _
    refine st3 _ ?_
    show SP p e below T3 m 22 #[vr a0l, vr a1o, vr ae, vi (2 : Int32)] [] _
    exact X3.returnOut hx Bd.returns (dG hby D9 16 rfl) hr
  · show Q_rmA3_2 n0 Z cS aDE kDE aUS aSS aIE mO a0l a1o ae mc ka ob0 ob1 h0 _ T3.heap _
    rw [e3]
    exact ⟨rfl, N3, K3, ((E_ae.wr W2).wr W3), (V2.other W3 (Exa.ne E_ae E_a0l (by decide))), ov, ((E_a0l.wr W2).wr W3), ((F_elementData_a0l.other W2 (Or.inl (Exa.ne E_a0l E_ae (by decide)))).other W3 (Or.inr (slot_ne (a0 := a0) (Or.inl (Wd hw 38 rfl)) (Or.inl (Wd hw 63 rfl)) (by decide) (t := (.array (.object "java/lang/Object"))) (t' := .int) (by decide) (by decide)))), Fw3, ((F_modCount_a0l.other W2 (Or.inl (Exa.ne E_a0l E_ae (by decide)))).other W3 (Or.inr (slot_ne (a0 := a0) (Or.inl (Wd hw 35 rfl)) (Or.inl (Wd hw 63 rfl)) (by decide) (t := .int) (t' := .int) (by decide) (by decide))))⟩
def Q_rmA1_2 (n0 : Nat) (Z : State) (cS : Int32) (aDE : Addr) (kDE : ClassId) (aUS : Addr) (aSS : Addr) (aIE : Addr) (mO : Addr) (a0l : Addr) (a1o : Addr) (ae : Addr) (mc : Int32) (ka : ClassId) (ob0 : Addr) (ob1 : Addr) (h0 : Heap) (v : Option Value) (h : Heap) (L : List Loc) : Prop := v = some (.int 1) ∧ Fr n0 L ∧ Keep h0 h [a0l, ae] ∧ (Exa Z h ae "[Ljava/lang/Object;") ∧ (Arv Z h ae ka (.object "java/lang/Object") (10 : Int32) [(.ref ob0), (.ref ob1), (.ref a1o), .null, .null, .null, .null, .null, .null, .null] .null) ∧ (Ovr Z ka "java/lang/Object") ∧ (Exa Z h a0l "java/util/ArrayList") ∧ (Fld Z h a0l "java/util/ArrayList" "elementData" "[Ljava/lang/Object;" (.ref ae)) ∧ (Fld Z h a0l "java/util/ArrayList" "size" "I" (.int 3)) ∧ (Fld Z h a0l "java/util/AbstractList" "modCount" "I" (.int (mc + (1 : Int32))))
theorem rmA1_2 (l : Launch) (Z : State) (a0 : Array Value) (hw : ∀ d ∈ tables_1, d.before a0 Z = true) (ws : List Jvm.Cond) (cS : Int32) (aDE : Addr) (kDE : ClassId) (aUS : Addr) (aSS : Addr) (aIE : Addr) (mO : Addr) (a0l : Addr) (a1o : Addr) (ae : Addr) (mc : Int32) (ka : ClassId) (ob0 : Addr) (ob1 : Addr) (h0 : Heap) (n0 : Nat) (O0 : Old Z n0 h0) (GL : GF Z cS aDE kDE aUS aSS aIE mO) (E_a0l : Exa Z h0 a0l "java/util/ArrayList") (F_elementData_a0l : Fld Z h0 a0l "java/util/ArrayList" "elementData" "[Ljava/lang/Object;" (.ref ae)) (F_size_a0l : Fld Z h0 a0l "java/util/ArrayList" "size" "I" (.int 2)) (F_modCount_a0l : Fld Z h0 a0l "java/util/AbstractList" "modCount" "I" (.int mc)) (g_a0l : n0 ≤ a0l) (E_a1o : Exa Z h0 a1o "com/example/grantline/grantline/PolicyException$Problem") (E_ae : Exa Z h0 ae "[Ljava/lang/Object;") (V_ae : Arv Z h0 ae ka (.object "java/lang/Object") (10 : Int32) [(.ref ob0), (.ref ob1), .null, .null, .null, .null, .null, .null, .null, .null] .null) (ov : Ovr Z ka "java/lang/Object") (g_ae : n0 ≤ ae) :
    MF l MN_37 jdk_38_method_25_code 2 (some .boolean) ws (Rm 1 0 0 15) #[(.ref a0l), (.ref a1o)] Z h0 (Q_rmA1_2 n0 Z cS aDE kDE aUS aSS aIE mO a0l a1o ae mc ka ob0 ob1 h0) := by
  refine MetFree.of_bodySF (plainFor_of_name pnv9) hisR ?_
  intro p e s m args below meth c s₁ Bd hml0 hP hK
  obtain ⟨rfl, hZ, hh⟩ := hP
  have hx := Bd.exec
  have hby := Bd.bytes
  have hml : c.maxLocals = 2 := hml0
  have hown : s.vm.findClass "java/util/ArrayList" = some m.cls := findClass_of_methodNamed Bd.named
  have hnm := (name_of_methodNamed Bd.named Bd.method).1
  have X0 : Stand p l e (Rm 1 0 0 15) s m #[(.ref a0l), (.ref a1o)] below meth c s₁ [] 0 0 := Stand.of_body Bd
  have e0 : s₁.heap = h0 := by rw [← hh, Bd.state]; rfl
  have N0 := Fr.nil n0
  have pre0 : ∀ t, SP p e below s₁ m 0 #[vr a0l, vr a1o] [] t → Steps p.tables e below (s₁.setTop (entryFrame m #[(.ref a0l), (.ref a1o)] 2)) t := fun t k => castTop (ef_rmA1_0 m a0l a1o) k
  have GL' := GL
  obtain ⟨GCS, GCP, GDE, GVE, GUS, GSS, GIE, GMO⟩ := GL'
  obtain ⟨T1, X1, e1, st1⟩ := getF X0 hx hZ hown (host := "") (Or.inl (Wd hw 60 rfl)) (Via.of (Wd hw 61 rfl)) e0 F_modCount_a0l (g := mkF m 2 #[vr a0l, vr a1o] [(.ref a0l), (.ref a0l)]) rfl rfl (dG hby D8 2 rfl)
  obtain ⟨T2, h2, X2, e2, W2, st2⟩ := putF X1 hx hZ hown (host := "") (Or.inl (Wd hw 60 rfl)) (Via.of (Wd hw 61 rfl)) e1 F_modCount_a0l E_a0l (Or.inl (Wd hw 35 rfl)) (Wd hw 14 rfl) (ty := .int) (by decide) rfl rfl (g := mkF m 7 #[vr a0l, vr a1o] [(.int (mc + (1 : Int32))), (.ref a0l)]) rfl rfl (dG hby D8 5 rfl)
  have Fw2 := F_modCount_a0l.same W2
  have K2 : Keep h0 h2 [a0l, ae] := (Keep.refl h0 [a0l, ae]).wr W2 (Or.inl (List.mem_of_getElem? (i := 0) rfl))
  have O2 := O0.wr W2 g_a0l
  have N2 := Fr.snoc X2 N0 g_a0l
  obtain ⟨T3, X3, e3, st3⟩ := getF X2 hx hZ hown (host := "") (Or.inl (Wd hw 37 rfl)) Via.refl e2 (F_elementData_a0l.other W2 (Or.inr (slot_ne (a0 := a0) (Or.inl (Wd hw 38 rfl)) (Or.inl (Wd hw 35 rfl)) (by decide) (t := (.array (.object "java/lang/Object"))) (t' := .int) (by decide) (by decide)))) (g := mkF m 13 #[vr a0l, vr a1o] [(.ref a0l), (.ref a1o), (.ref a0l)]) rfl rfl (dG hby D8 9 rfl)
  obtain ⟨T4, X4, e4, st4⟩ := getF X3 hx hZ hown (host := "") (Or.inl (Wd hw 62 rfl)) Via.refl e3 (F_size_a0l.other W2 (Or.inr (slot_ne (a0 := a0) (Or.inl (Wd hw 63 rfl)) (Or.inl (Wd hw 35 rfl)) (by decide) (t := .int) (t' := .int) (by decide) (by decide)))) (g := mkF m 17 #[vr a0l, vr a1o] [(.ref a0l), (.ref ae), (.ref a1o), (.ref a0l)]) rfl rfl (dG hby D8 11 rfl)
  obtain ⟨cq5, q5, q5'⟩ := (E_a0l.wr W2).cell
  obtain ⟨_, _, ⟨T5, L5, k5, n5⟩, -, X5, ⟨Lc5, hQ5, l5, y5, z5⟩, st5⟩ := X4.privateBack hx (y := MN_36) hown (mvT hZ (Wd hw 64 rfl)) (mvT hZ (Wd hw 65 rfl)) (mvT hZ (Wd hw 67 rfl)) (Cond.privateMethod_at (mvP hZ (Wd hw 66 rfl) (args := #[]))) (mvT hZ (Wd hw 68 rfl)) (by decide) (backOf (W := 0) (rmA3_2 l Z a0 hw [] cS aDE kDE aUS aSS aIE mO a0l a1o ae ((mc + (1 : Int32))) ka ob0 ob1 h2 n0 O2 GL (E_a0l.wr W2) (F_elementData_a0l.other W2 (Or.inr (slot_ne (a0 := a0) (Or.inl (Wd hw 38 rfl)) (Or.inl (Wd hw 35 rfl)) (by decide) (t := (.array (.object "java/lang/Object"))) (t' := .int) (by decide) (by decide)))) (F_size_a0l.other W2 (Or.inr (slot_ne (a0 := a0) (Or.inl (Wd hw 63 rfl)) (Or.inl (Wd hw 35 rfl)) (by decide) (t := .int) (t' := .int) (by decide) (by decide)))) Fw2 g_a0l (E_a1o.wr W2) (E_ae.wr W2) (V_ae.other W2 (Exa.ne E_ae E_a0l (by decide))) ov g_ae) hZ (Wd hw 68 rfl) (Wd hw 15 rfl) (by decide) (by decide)) (g := mkF m 20 #[vr a0l, vr a1o] [(.int 2), (.ref ae), (.ref a1o), (.ref a0l)]) rfl (by rw [hml]; rfl) (Steps.refl _) (a := a0l) (by rw [e4]; exact q5) q5' (argsL := [(.ref a1o), (.ref ae), (.int 2)]) (rest := []) (lenOf pdv23 rfl) rfl (by show 2 * 0 + _ ≤ _; exact lEq rfl) (dG hby D8 12 rfl) (fun _ _ => ⟨rfl, e4, (by decide : 0 + 0 ≤ _), (by decide : 0 + 0 ≤ _)⟩)
  dsimp only [Pt.U, Pt.locs, Pt.cells, Pt.slots] at X5 l5 y5 z5 st5 hQ5
  subst l5 y5 z5
  obtain ⟨rfl, N5q, Kc5, P5_0, P5_1, P5_2, P5_3, P5_4, P5_5, P5_6⟩ := hQ5
  have K5 : Keep h0 T5.heap [a0l, ae] := K2.trans Kc5 (allS (Or.inl (List.mem_of_getElem? (i := 0) rfl)) (allS (Or.inl (List.mem_of_getElem? (i := 1) rfl)) all0))
  have O5 := O2.keep Kc5 (allS g_a0l (allS g_ae all0))
  have N5 := Fr.app N2 N5q
  obtain ⟨fs, hr, hrun, hended, hW, hsame⟩ := X5.leave (v := some (.int 1)) (fun h => by rw [Bd.returns] at h; cases h)
  refine ⟨_, _, pre0 _ ?_, hrun, hended, _, _, rfl, ?_, ⟨_, rfl⟩, hW, hsame.mono (by decide) (by decide)⟩
  · show SP p e below s₁ m 0 #[vr a0l, vr a1o] [] _
    refine XS.aloadN X0.here hx rfl (dG hby D8 0 rfl) rfl rfl ?_
    refine XS.dup X0.here hx rfl (dG hby D8 1 rfl) rfl rfl ?_
    show SP p e below s₁ m 2 #[vr a0l, vr a1o] [(.ref a0l), (.ref a0l)] _
    refine st1 _ ?_
    show SP p e below T1 m 5 #[vr a0l, vr a1o] [(.int mc), (.ref a0l)] _
    refine XS.iconst X1.here hx rfl (dG hby D8 3 rfl) ?_
    refine XS.iadd X1.here hx rfl (dG hby D8 4 rfl) rfl ?_
    show SP p e below T1 m 7 #[vr a0l, vr a1o] [(.int (mc + (1 : Int32))), (.ref a0l)] _
    refine st2 _ ?_
    show SP p e below T2 m 10 #[vr a0l, vr a1o] [] _
    refine XS.aloadN X2.here hx rfl (dG hby D8 6 rfl) rfl rfl ?_
    refine XS.aloadN X2.here hx rfl (dG hby D8 7 rfl) rfl rfl ?_
    refine XS.aloadN X2.here hx rfl (dG hby D8 8 rfl) rfl rfl ?_
    show SP p e below T2 m 13 #[vr a0l, vr a1o] [(.ref a0l), (.ref a1o), (.ref a0l)] _
    refine st3 _ ?_
    show SP p e below T3 m 16 #[vr a0l, vr a1o] [(.ref ae), (.ref a1o), (.ref a0l)] _
    refine XS.aloadN X3.here hx rfl (dG hby D8 10 rfl) rfl rfl ?_
    show SP p e below T3 m 17 #[vr a0l, vr a1o] [(.ref a0l), (.ref ae), (.ref a1o), (.ref a0l)] _
    refine st4 _ ?_
    show SP p e below T4 m 20 #[vr a0l, vr a1o] [(.int 2), (.ref ae), (.ref a1o), (.ref a0l)] _
    refine st5.trans ?_
    show SP p e below T5 m 23 #[vr a0l, vr a1o] [] _
    refine XS.iconst X5.here hx rfl (dG hby D8 13 rfl) ?_
    show SP p e below T5 m 24 #[vr a0l, vr a1o] [(.int 1)] _
    exact retN X5 hx (t := .boolean) Bd.returns (by simp) (dG hby D8 14 rfl) hr
  · show Q_rmA1_2 n0 Z cS aDE kDE aUS aSS aIE mO a0l a1o ae mc ka ob0 ob1 h0 _ T5.heap _
    exact ⟨rfl, N5, K5, P5_0, P5_1, P5_2, P5_3, P5_4, P5_5, P5_6⟩
theorem D15 : dL jdk_38_method_9_code [(0, .aload_n 0, 1), (1, .getfield 48, 3), (4, .ifCond .ne 7, 3), (11, .iconst 0, 1), (12, .ireturn, 1)] = true := by decide +kernel
abbrev MN_38 : MethodName := ⟨"java/util/ArrayList", "isEmpty", "()Z"⟩
def Q_rmIe (n0 : Nat) (Z : State) (cS : Int32) (aDE : Addr) (kDE : ClassId) (aUS : Addr) (aSS : Addr) (aIE : Addr) (mO : Addr) (a0l : Addr) (sz : Int32) (h0 : Heap) (v : Option Value) (h : Heap) (L : List Loc) : Prop := v = some (.int 0) ∧ Fr n0 L ∧ h = h0
theorem rmIe (l : Launch) (Z : State) (a0 : Array Value) (hw : ∀ d ∈ tables_1, d.before a0 Z = true) (ws : List Jvm.Cond) (cS : Int32) (aDE : Addr) (kDE : ClassId) (aUS : Addr) (aSS : Addr) (aIE : Addr) (mO : Addr) (a0l : Addr) (sz : Int32) (h0 : Heap) (n0 : Nat) (O0 : Old Z n0 h0) (GL : GF Z cS aDE kDE aUS aSS aIE mO) (F_size_a0l : Fld Z h0 a0l "java/util/ArrayList" "size" "I" (.int sz)) (hz : ¬ (sz = (0 : Int32))) :
    MF l MN_38 jdk_38_method_9_code 1 (some .boolean) ws (Rm 0 0 0 0) #[(.ref a0l)] Z h0 (Q_rmIe n0 Z cS aDE kDE aUS aSS aIE mO a0l sz h0) := by
  refine MetFree.of_bodySF (plainFor_of_name pnv9) hisR ?_
  intro p e s m args below meth c s₁ Bd hml0 hP hK
  obtain ⟨rfl, hZ, hh⟩ := hP
  have hx := Bd.exec
  have hby := Bd.bytes
  have hml : c.maxLocals = 1 := hml0
  have hown : s.vm.findClass "java/util/ArrayList" = some m.cls := findClass_of_methodNamed Bd.named
  have hnm := (name_of_methodNamed Bd.named Bd.method).1
  have X0 : Stand p l e (Rm 0 0 0 0) s m #[(.ref a0l)] below meth c s₁ [] 0 0 := Stand.of_body Bd
  have e0 : s₁.heap = h0 := by rw [← hh, Bd.state]; rfl
  have N0 := Fr.nil n0
  have pre0 : ∀ t, SP p e below s₁ m 0 #[vr a0l] [] t → Steps p.tables e below (s₁.setTop (entryFrame m #[(.ref a0l)] 1)) t := fun t k => castTop (ef_rmAbc m a0l) k
  have GL' := GL
  obtain ⟨GCS, GCP, GDE, GVE, GUS, GSS, GIE, GMO⟩ := GL'
  obtain ⟨T1, X1, e1, st1⟩ := getF X0 hx hZ hown (host := "") (Or.inl (Wd hw 62 rfl)) Via.refl e0 F_size_a0l (g := mkF m 1 #[vr a0l] [(.ref a0l)]) rfl rfl (dG hby D15 1 rfl)
  obtain ⟨fs, hr, hrun, hended, hW, hsame⟩ := X1.leave (v := some (.int 0)) (fun h => by rw [Bd.returns] at h; cases h)
  refine ⟨_, _, pre0 _ ?_, hrun, hended, _, _, rfl, ?_, ⟨_, rfl⟩, hW, hsame.mono (by decide) (by decide)⟩
  · show SP p e below s₁ m 0 #[vr a0l] [] _
    refine XS.aloadN X0.here hx rfl (dG hby D15 0 rfl) rfl rfl ?_
    show SP p e below s₁ m 1 #[vr a0l] [(.ref a0l)] _
    refine st1 _ ?_
    show SP p e below T1 m 4 #[vr a0l] [(.int sz)] _
    refine XS.ifYes X1.here hx rfl (pc0 := 4) (pc' := 11) rfl (dG hby D15 2 rfl) rfl ((if0 _ _).trans (feq hz).2) (by decide) (by decide) ?_
    refine XS.iconst X1.here hx rfl (dG hby D15 3 rfl) ?_
    show SP p e below T1 m 12 #[vr a0l] [(.int 0)] _
    exact retN X1 hx (t := .boolean) Bd.returns (by simp) (dG hby D15 4 rfl) hr
  · show Q_rmIe n0 Z cS aDE kDE aUS aSS aIE mO a0l sz h0 _ T1.heap _
    rw [e1]
    exact ⟨rfl, N0, rfl⟩
theorem D18 : dL jdk_41_method_11_code [(0, .iload_n 0, 1), (1, .ifCond .lt 8, 3), (4, .iload_n 0, 1), (5, .iload_n 1, 1), (6, .if_icmp .lt 10, 3), (16, .iload_n 0, 1), (17, .ireturn, 1)] = true := by decide +kernel
theorem pnv10 : plainName "jdk/internal/util/Preconditions" = true := by first | (simp [plainName, overriddenIn]; done) | decide +kernel
abbrev MN_39 : MethodName := ⟨"jdk/internal/util/Preconditions", "checkIndex", "(IILjava/util/function/BiFunction;)I"⟩
theorem ef_rmCk (m : MethodId) (p1 : Int32) : entryFrame m #[(.int 0), (.int p1), .null] 3 = mkF m 0 #[vi (0 : Int32), vi p1, .val .null] [] := by first | (simp [entryFrame, mkF, argsToLocals, Value.category]; done) | rfl
def Q_rmCk (n0 : Nat) (Z : State) (cS : Int32) (aDE : Addr) (kDE : ClassId) (aUS : Addr) (aSS : Addr) (aIE : Addr) (mO : Addr) (p1 : Int32) (h0 : Heap) (v : Option Value) (h : Heap) (L : List Loc) : Prop := v = some (.int 0) ∧ Fr n0 L ∧ h = h0
theorem rmCk (l : Launch) (Z : State) (a0 : Array Value) (hw : ∀ d ∈ tables_1, d.before a0 Z = true) (ws : List Jvm.Cond) (cS : Int32) (aDE : Addr) (kDE : ClassId) (aUS : Addr) (aSS : Addr) (aIE : Addr) (mO : Addr) (p1 : Int32) (h0 : Heap) (n0 : Nat) (O0 : Old Z n0 h0) (GL : GF Z cS aDE kDE aUS aSS aIE mO) (hp : (0 : Int32) < p1) :
    MF l MN_39 jdk_41_method_11_code 3 (some .int) ws (Rm 0 0 0 0) #[(.int 0), (.int p1), .null] Z h0 (Q_rmCk n0 Z cS aDE kDE aUS aSS aIE mO p1 h0) := by
  refine MetFree.of_bodySF (plainFor_of_name pnv10) hisR ?_
  intro p e s m args below meth c s₁ Bd hml0 hP hK
  obtain ⟨rfl, hZ, hh⟩ := hP
  have hx := Bd.exec
  have hby := Bd.bytes
  have hml : c.maxLocals = 3 := hml0
  have hown : s.vm.findClass "jdk/internal/util/Preconditions" = some m.cls := findClass_of_methodNamed Bd.named
  have hnm := (name_of_methodNamed Bd.named Bd.method).1
  have X0 : Stand p l e (Rm 0 0 0 0) s m #[(.int 0), (.int p1), .null] below meth c s₁ [] 0 0 := Stand.of_body Bd
  have e0 : s₁.heap = h0 := by rw [← hh, Bd.state]; rfl
  have N0 := Fr.nil n0
  have pre0 : ∀ t, SP p e below s₁ m 0 #[vi (0 : Int32), vi p1, .val .null] [] t → Steps p.tables e below (s₁.setTop (entryFrame m #[(.int 0), (.int p1), .null] 3)) t := fun t k => castTop (ef_rmCk m p1) k
  have GL' := GL
  obtain ⟨GCS, GCP, GDE, GVE, GUS, GSS, GIE, GMO⟩ := GL'
  obtain ⟨fs, hr, hrun, hended, hW, hsame⟩ := X0.leave (v := some (.int 0)) (fun h => by rw [Bd.returns] at h; cases h)
  refine ⟨_, _, pre0 _ ?_, hrun, hended, _, _, rfl, ?_, ⟨_, rfl⟩, hW, hsame.mono (by decide) (by decide)⟩
  · show SP p e below s₁ m 0 #[vi (0 : Int32), vi p1, .val .null] [] _
    refine XS.iloadN X0.here hx rfl (dG hby D18 0 rfl) rfl ?_
    refine XS.ifNo X0.here hx rfl (dG hby D18 1 rfl) rfl ((if0 _ _).trans (flt (by decide : ¬ ((0 : Int32) < (0 : Int32)))).1) ?_
    refine XS.iloadN X0.here hx rfl (dG hby D18 2 rfl) rfl ?_
    refine XS.iloadN X0.here hx rfl (dG hby D18 3 rfl) rfl ?_
    refine XS.icmpYes X0.here hx rfl (pc0 := 6) (pc' := 16) rfl (dG hby D18 4 rfl) rfl (tlt hp).1 (by decide) (by decide) ?_
    refine XS.iloadN X0.here hx rfl (dG hby D18 5 rfl) rfl ?_
    show SP p e below s₁ m 17 #[vi (0 : Int32), vi p1, .val .null] [(.int 0)] _
    exact retI X0 hx Bd.returns (dG hby D18 6 rfl) hr
  · show Q_rmCk n0 Z cS aDE kDE aUS aSS aIE mO p1 h0 _ s₁.heap _
    rw [e0]
    exact ⟨rfl, N0, rfl⟩
theorem D17 : dL jdk_31_method_17_code [(0, .iload_n 0, 1), (1, .iload_n 1, 1), (2, .aconst_null, 1), (3, .invokestatic 105, 3), (6, .ireturn, 1)] = true := by decide +kernel
theorem pdv24 : parseMethodDescriptor "(IILjava/util/function/BiFunction;)I" = some ⟨[.int, .int, (.object "java/util/function/BiFunction")], some .int⟩ := by decide +kernel
theorem pnv11 : plainName "java/util/Objects" = true := by first | (simp [plainName, overriddenIn]; done) | decide +kernel
abbrev MN_40 : MethodName := ⟨"java/util/Objects", "checkIndex", "(II)I"⟩
def Q_rmCi (n0 : Nat) (Z : State) (cS : Int32) (aDE : Addr) (kDE : ClassId) (aUS : Addr) (aSS : Addr) (aIE : Addr) (mO : Addr) (p1 : Int32) (h0 : Heap) (v : Option Value) (h : Heap) (L : List Loc) : Prop := v = some (.int 0) ∧ Fr n0 L ∧ h = h0
theorem rmCi (l : Launch) (Z : State) (a0 : Array Value) (hw : ∀ d ∈ tables_1, d.before a0 Z = true) (ws : List Jvm.Cond) (cS : Int32) (aDE : Addr) (kDE : ClassId) (aUS : Addr) (aSS : Addr) (aIE : Addr) (mO : Addr) (p1 : Int32) (h0 : Heap) (n0 : Nat) (O0 : Old Z n0 h0) (GL : GF Z cS aDE kDE aUS aSS aIE mO) (hp : (0 : Int32) < p1) :
    MF l MN_40 jdk_31_method_17_code 2 (some .int) ws (Rm 1 0 0 14) #[(.int 0), (.int p1)] Z h0 (Q_rmCi n0 Z cS aDE kDE aUS aSS aIE mO p1 h0) := by
  refine MetFree.of_bodySF (plainFor_of_name pnv11) hisR ?_
  intro p e s m args below meth c s₁ Bd hml0 hP hK
  obtain ⟨rfl, hZ, hh⟩ := hP
  have hx := Bd.exec
  have hby := Bd.bytes
  have hml : c.maxLocals = 2 := hml0
  have hown : s.vm.findClass "java/util/Objects" = some m.cls := findClass_of_methodNamed Bd.named
  have hnm := (name_of_methodNamed Bd.named Bd.method).1
  have X0 : Stand p l e (Rm 1 0 0 14) s m #[(.int 0), (.int p1)] below meth c s₁ [] 0 0 := Stand.of_body Bd
  have e0 : s₁.heap = h0 := by rw [← hh, Bd.state]; rfl
  have N0 := Fr.nil n0
  have pre0 : ∀ t, SP p e below s₁ m 0 #[vi (0 : Int32), vi p1] [] t → Steps p.tables e below (s₁.setTop (entryFrame m #[(.int 0), (.int p1)] 2)) t := fun t k => castTop (ef_rmCl m p1) k
  have GL' := GL
  obtain ⟨GCS, GCP, GDE, GVE, GUS, GSS, GIE, GMO⟩ := GL'
  obtain ⟨_, _, ⟨T1, L1, k1, n1⟩, -, X1, ⟨Lc1, hQ1, l1, y1, z1⟩, st1⟩ := Jvm.LawKit.callS X0 hx (y := MN_39) hown (mvT hZ (Wd hw 116 rfl)) (mvT hZ (Wd hw 117 rfl)) (mvT hZ (Wd hw 118 rfl)) (mvT hZ (Wd hw 119 rfl)) (by decide) (backOf (W := 0) (rmCk l Z a0 hw [] cS aDE kDE aUS aSS aIE mO p1 h0 n0 O0 GL hp) hZ (Wd hw 119 rfl) (Wd hw 118 rfl) (by decide) (by decide)) (g := mkF m 3 #[vi (0 : Int32), vi p1] [.null, (.int p1), (.int 0)]) rfl (by rw [hml]; rfl) (argsL := [(.int 0), (.int p1), .null]) (rest := []) (lenOf pdv24 rfl) rfl (by show 2 * 0 + _ ≤ _; exact lEq rfl) (dG hby D17 3 rfl) (fun _ _ => ⟨rfl, e0, (by decide : 0 + 0 ≤ _), (by decide : 0 + 0 ≤ _)⟩)
  dsimp only [Pt.U, Pt.locs, Pt.cells, Pt.slots] at X1 l1 y1 z1 st1 hQ1
  subst l1 y1 z1
  obtain ⟨rfl, N1q, e1⟩ := hQ1
  have N1 := Fr.app N0 N1q
  obtain ⟨fs, hr, hrun, hended, hW, hsame⟩ := X1.leave (v := some (.int 0)) (fun h => by rw [Bd.returns] at h; cases h)
  refine ⟨_, _, pre0 _ ?_, hrun, hended, _, _, rfl, ?_, ⟨_, rfl⟩, hW, hsame.mono (by decide) (by decide)⟩
  · show SP p e below s₁ m 0 #[vi (0 : Int32), vi p1] [] _
    refine XS.iloadN X0.here hx rfl (dG hby D17 0 rfl) rfl ?_
    refine XS.iloadN X0.here hx rfl (dG hby D17 1 rfl) rfl ?_
    refine XS.aconstNull X0.here hx rfl (dG hby D17 2 rfl) ?_
    show SP p e below s₁ m 3 #[vi (0 : Int32), vi p1] [.null, (.int p1), (.int 0)] _
    refine st1 _ ?_
    show SP p e below T1 m 6 #[vi (0 : Int32), vi p1] [(.int 0)] _
    exact retI X1 hx Bd.returns (dG hby D17 4 rfl) hr
  · show Q_rmCi n0 Z cS aDE kDE aUS aSS aIE mO p1 h0 _ T1.heap _
    rw [e1]
    exact ⟨rfl, N1, rfl⟩
theorem D19 : dL jdk_38_method_18_code [(0, .aload_n 0, 1), (1, .getfield 9, 3), (4, .iload_n 1, 1), (5, .aaload, 1), (6, .areturn, 1)] = true := by decide +kernel
abbrev MN_41 : MethodName := ⟨"java/util/ArrayList", "elementData", "(I)Ljava/lang/Object;"⟩
theorem ef_rmEd (m : MethodId) (a0l : Addr) : entryFrame m #[(.ref a0l), (.int 0)] 2 = mkF m 0 #[vr a0l, vi (0 : Int32)] [] := by first | (simp [entryFrame, mkF, argsToLocals, Value.category]; done) | rfl
def Q_rmEd (n0 : Nat) (Z : State) (cS : Int32) (aDE : Addr) (kDE : ClassId) (aUS : Addr) (aSS : Addr) (aIE : Addr) (mO : Addr) (a0l : Addr) (ae : Addr) (ka : ClassId) (ob0 : Addr) (u1 : Value) (u2 : Value) (u3 : Value) (u4 : Value) (u5 : Value) (u6 : Value) (u7 : Value) (u8 : Value) (u9 : Value) (h0 : Heap) (v : Option Value) (h : Heap) (L : List Loc) : Prop := v = some (.ref ob0) ∧ Fr n0 L ∧ h = h0
theorem rmEd (l : Launch) (Z : State) (a0 : Array Value) (hw : ∀ d ∈ tables_1, d.before a0 Z = true) (ws : List Jvm.Cond) (cS : Int32) (aDE : Addr) (kDE : ClassId) (aUS : Addr) (aSS : Addr) (aIE : Addr) (mO : Addr) (a0l : Addr) (ae : Addr) (ka : ClassId) (ob0 : Addr) (u1 : Value) (u2 : Value) (u3 : Value) (u4 : Value) (u5 : Value) (u6 : Value) (u7 : Value) (u8 : Value) (u9 : Value) (h0 : Heap) (n0 : Nat) (O0 : Old Z n0 h0) (GL : GF Z cS aDE kDE aUS aSS aIE mO) (E_a0l : Exa Z h0 a0l "java/util/ArrayList") (F_elementData_a0l : Fld Z h0 a0l "java/util/ArrayList" "elementData" "[Ljava/lang/Object;" (.ref ae)) (V_ae : Arv Z h0 ae ka (.object "java/lang/Object") (10 : Int32) [(.ref ob0), u1, u2, u3, u4, u5, u6, u7, u8, u9] .null) :
    MF l MN_41 jdk_38_method_18_code 2 (some (.object "java/lang/Object")) ws (Rm 0 0 0 0) #[(.ref a0l), (.int 0)] Z h0 (Q_rmEd n0 Z cS aDE kDE aUS aSS aIE mO a0l ae ka ob0 u1 u2 u3 u4 u5 u6 u7 u8 u9 h0) := by
  refine MetFree.of_bodySF (plainFor_of_name pnv9) hisR ?_
  intro p e s m args below meth c s₁ Bd hml0 hP hK
  obtain ⟨rfl, hZ, hh⟩ := hP
  have hx := Bd.exec
  have hby := Bd.bytes
  have hml : c.maxLocals = 2 := hml0
  have hown : s.vm.findClass "java/util/ArrayList" = some m.cls := findClass_of_methodNamed Bd.named
  have hnm := (name_of_methodNamed Bd.named Bd.method).1
  have X0 : Stand p l e (Rm 0 0 0 0) s m #[(.ref a0l), (.int 0)] below meth c s₁ [] 0 0 := Stand.of_body Bd
  have e0 : s₁.heap = h0 := by rw [← hh, Bd.state]; rfl
  have N0 := Fr.nil n0
  have pre0 : ∀ t, SP p e below s₁ m 0 #[vr a0l, vi (0 : Int32)] [] t → Steps p.tables e below (s₁.setTop (entryFrame m #[(.ref a0l), (.int 0)] 2)) t := fun t k => castTop (ef_rmEd m a0l) k
  have GL' := GL
  obtain ⟨GCS, GCP, GDE, GVE, GUS, GSS, GIE, GMO⟩ := GL'
  obtain ⟨T1, X1, e1, st1⟩ := getF X0 hx hZ hown (host := "") (Or.inl (Wd hw 37 rfl)) Via.refl e0 F_elementData_a0l (g := mkF m 1 #[vr a0l, vi (0 : Int32)] [(.ref a0l)]) rfl rfl (dG hby D19 1 rfl)
  obtain ⟨cl2, Ar2, -, S2, N2_, H2, G2⟩ := id (V_ae)
  have hin2 : ¬ ((0 : Int32) < 0 ∨ cl2.slots.size ≤ ((0 : Int32)).toNatClampNeg) := inb_of S2 ⟨(by decide), (by decide)⟩
  have hat2 : cl2.slots[((0 : Int32)).toNatClampNeg]? = some (.ref ob0) := H2.at hin2 rfl
  obtain ⟨fs, hr, hrun, hended, hW, hsame⟩ := X1.leave (v := some (.ref ob0)) (fun h => by rw [Bd.returns] at h; cases h)
  refine ⟨_, _, pre0 _ ?_, hrun, hended, _, _, rfl, ?_, ⟨_, rfl⟩, hW, hsame.mono (by decide) (by decide)⟩
  · show SP p e below s₁ m 0 #[vr a0l, vi (0 : Int32)] [] _
    refine XS.aloadN X0.here hx rfl (dG hby D19 0 rfl) rfl rfl ?_
    show SP p e below s₁ m 1 #[vr a0l, vi (0 : Int32)] [(.ref a0l)] _
    refine st1 _ ?_
    show SP p e below T1 m 4 #[vr a0l, vi (0 : Int32)] [(.ref ae)] _
    refine XS.iloadN X1.here hx rfl (dG hby D19 2 rfl) rfl ?_
    show SP p e below T1 m 5 #[vr a0l, vi (0 : Int32)] [(.int 0), (.ref ae)] _
    refine X1.aaload hx (j := (0 : Int32)) (v := (.ref ob0)) (by rw [e1]; exact Ar2.1) (State.isArrayOf_alike hZ.alike Ar2.2.1) rfl Ar2.2.2 hin2 hat2 (g := mkF m 5 #[vr a0l, vi (0 : Int32)] [(.int 0), (.ref ae)]) rfl rfl (dG hby D19 3 rfl) _ ?_
    show SP p e below T1 m 6 #[vr a0l, vi (0 : Int32)] [(.ref ob0)] _
    exact retA X1 hx Bd.returns rfl (dG hby D19 4 rfl) hr
  · show Q_rmEd n0 Z cS aDE kDE aUS aSS aIE mO a0l ae ka ob0 u1 u2 u3 u4 u5 u6 u7 u8 u9 h0 _ T1.heap _
    rw [e1]
    exact ⟨rfl, N0, rfl⟩
theorem D16 : dL jdk_38_method_20_code [(0, .iload_n 1, 1), (1, .aload_n 0, 1), (2, .getfield 48, 3), (5, .invokestatic 118, 3), (8, .pop, 1), (9, .aload_n 0, 1), (10, .iload_n 1, 1), (11, .invokevirtual 123, 3), (14, .areturn, 1)] = true := by decide +kernel
theorem pdv25 : parseMethodDescriptor "(I)Ljava/lang/Object;" = some ⟨[.int], some (.object "java/lang/Object")⟩ := by decide +kernel
abbrev MN_42 : MethodName := ⟨"java/util/ArrayList", "get", "(I)Ljava/lang/Object;"⟩
def Q_rmGet (n0 : Nat) (Z : State) (cS : Int32) (aDE : Addr) (kDE : ClassId) (aUS : Addr) (aSS : Addr) (aIE : Addr) (mO : Addr) (a0l : Addr) (ae : Addr) (ka : ClassId) (ob0 : Addr) (u1 : Value) (u2 : Value) (u3 : Value) (u4 : Value) (u5 : Value) (u6 : Value) (u7 : Value) (u8 : Value) (u9 : Value) (sz : Int32) (h0 : Heap) (v : Option Value) (h : Heap) (L : List Loc) : Prop := v = some (.ref ob0) ∧ Fr n0 L ∧ h = h0
theorem rmGet (l : Launch) (Z : State) (a0 : Array Value) (hw : ∀ d ∈ tables_1, d.before a0 Z = true) (ws : List Jvm.Cond) (cS : Int32) (aDE : Addr) (kDE : ClassId) (aUS : Addr) (aSS : Addr) (aIE : Addr) (mO : Addr) (a0l : Addr) (ae : Addr) (ka : ClassId) (ob0 : Addr) (u1 : Value) (u2 : Value) (u3 : Value) (u4 : Value) (u5 : Value) (u6 : Value) (u7 : Value) (u8 : Value) (u9 : Value) (sz : Int32) (h0 : Heap) (n0 : Nat) (O0 : Old Z n0 h0) (GL : GF Z cS aDE kDE aUS aSS aIE mO) (E_a0l : Exa Z h0 a0l "java/util/ArrayList") (F_elementData_a0l : Fld Z h0 a0l "java/util/ArrayList" "elementData" "[Ljava/lang/Object;" (.ref ae)) (V_ae : Arv Z h0 ae ka (.object "java/lang/Object") (10 : Int32) [(.ref ob0), u1, u2, u3, u4, u5, u6, u7, u8, u9] .null) (F_size_a0l : Fld Z h0 a0l "java/util/ArrayList" "size" "I" (.int sz)) (hp : (0 : Int32) < sz) :
    MF l MN_42 jdk_38_method_20_code 2 (some (.object "java/lang/Object")) ws (Rm 2 0 0 27) #[(.ref a0l), (.int 0)] Z h0 (Q_rmGet n0 Z cS aDE kDE aUS aSS aIE mO a0l ae ka ob0 u1 u2 u3 u4 u5 u6 u7 u8 u9 sz h0) := by
  refine MetFree.of_bodySF (plainFor_of_name pnv9) hisR ?_
  intro p e s m args below meth c s₁ Bd hml0 hP hK
  obtain ⟨rfl, hZ, hh⟩ := hP
  have hx := Bd.exec
  have hby := Bd.bytes
  have hml : c.maxLocals = 2 := hml0
  have hown : s.vm.findClass "java/util/ArrayList" = some m.cls := findClass_of_methodNamed Bd.named
  have hnm := (name_of_methodNamed Bd.named Bd.method).1
  have X0 : Stand p l e (Rm 2 0 0 27) s m #[(.ref a0l), (.int 0)] below meth c s₁ [] 0 0 := Stand.of_body Bd
  have e0 : s₁.heap = h0 := by rw [← hh, Bd.state]; rfl
  have N0 := Fr.nil n0
  have pre0 : ∀ t, SP p e below s₁ m 0 #[vr a0l, vi (0 : Int32)] [] t → Steps p.tables e below (s₁.setTop (entryFrame m #[(.ref a0l), (.int 0)] 2)) t := fun t k => castTop (ef_rmEd m a0l) k
  have GL' := GL
  obtain ⟨GCS, GCP, GDE, GVE, GUS, GSS, GIE, GMO⟩ := GL'
  obtain ⟨T1, X1, e1, st1⟩ := getF X0 hx hZ hown (host := "") (Or.inl (Wd hw 62 rfl)) Via.refl e0 F_size_a0l (g := mkF m 2 #[vr a0l, vi (0 : Int32)] [(.ref a0l), (.int 0)]) rfl rfl (dG hby D16 2 rfl)
  obtain ⟨_, _, ⟨T2, L2, k2, n2⟩, -, X2, ⟨Lc2, hQ2, l2, y2, z2⟩, st2⟩ := Jvm.LawKit.callS X1 hx (y := MN_40) hown (mvT hZ (Wd hw 112 rfl)) (mvT hZ (Wd hw 113 rfl)) (mvT hZ (Wd hw 114 rfl)) (mvT hZ (Wd hw 115 rfl)) (by decide) (backOf (W := 0) (rmCi l Z a0 hw [] cS aDE kDE aUS aSS aIE mO sz h0 n0 O0 GL hp) hZ (Wd hw 115 rfl) (Wd hw 114 rfl) (by decide) (by decide)) (g := mkF m 5 #[vr a0l, vi (0 : Int32)] [(.int sz), (.int 0)]) rfl (by rw [hml]; rfl) (argsL := [(.int 0), (.int sz)]) (rest := []) (lenOf pdv12 rfl) rfl (by show 2 * 0 + _ ≤ _; exact lEq rfl) (dG hby D16 3 rfl) (fun _ _ => ⟨rfl, e1, (by decide : 0 + 0 ≤ _), (by decide : 0 + 0 ≤ _)⟩)
  dsimp only [Pt.U, Pt.locs, Pt.cells, Pt.slots] at X2 l2 y2 z2 st2 hQ2
  subst l2 y2 z2
  obtain ⟨rfl, N2q, e2⟩ := hQ2
  have N2 := Fr.app N0 N2q
  obtain ⟨cq3, kq3, q3a, q3b, q3c⟩ := isOf hZ e2 E_a0l
  obtain ⟨_, _, ⟨T3, L3, k3, n3⟩, -, X3, ⟨Lc3, hQ3, l3, y3, z3⟩, st3⟩ := X2.virtualBack hx (y := MN_41) (z := MN_41) hown (mvT hZ (Wd hw 120 rfl)) (mvT hZ (Wd hw 121 rfl)) (notFace_of_selects (args := #[]) (mvT hZ (Wd hw 123 rfl))) (mvT hZ (Wd hw 123 rfl)) (mvT hZ (Wd hw 122 rfl)) (by decide) (backOf (W := 0) (rmEd l Z a0 hw [] cS aDE kDE aUS aSS aIE mO a0l ae ka ob0 u1 u2 u3 u4 u5 u6 u7 u8 u9 h0 n0 O0 GL E_a0l F_elementData_a0l V_ae) hZ (Wd hw 124 rfl) (Wd hw 15 rfl) (by decide) (by decide)) q3a q3c (g := mkF m 11 #[vr a0l, vi (0 : Int32)] [(.int 0), (.ref a0l)]) rfl (by rw [hml]; rfl) (Steps.refl _) (argsL := [(.int 0)]) (rest := []) (lenOf pdv25 rfl) rfl (by show 2 * 0 + _ ≤ _; exact lEq rfl) (dG hby D16 7 rfl) (fun _ _ => ⟨rfl, e2, (by decide : 0 + 0 ≤ _), (by decide : 0 + 0 ≤ _)⟩)
  dsimp only [Pt.U, Pt.locs, Pt.cells, Pt.slots] at X3 l3 y3 z3 st3 hQ3
  subst l3 y3 z3
  obtain ⟨rfl, N3q, e3⟩ := hQ3
  have N3 := Fr.app N2 N3q
  obtain ⟨fs, hr, hrun, hended, hW, hsame⟩ := X3.leave (v := some (.ref ob0)) (fun h => by rw [Bd.returns] at h; cases h)
  refine ⟨_, _, pre0 _ ?_, hrun, hended, _, _, rfl, ?_, ⟨_, rfl⟩, hW, hsame.mono (by decide) (by decide)⟩
  · show SP p e below s₁ m 0 #[vr a0l, vi (0 : Int32)] [] _
    refine XS.iloadN X0.here hx rfl (dG hby D16 0 rfl) rfl ?_
    refine XS.aloadN X0.here hx rfl (dG hby D16 1 rfl) rfl rfl ?_
    show SP p e below s₁ m 2 #[vr a0l, vi (0 : Int32)] [(.ref a0l), (.int 0)] _
    refine st1 _ ?_
    show SP p e below T1 m 5 #[vr a0l, vi (0 : Int32)] [(.int sz), (.int 0)] _
    refine st2 _ ?_
    show SP p e below T2 m 8 #[vr a0l, vi (0 : Int32)] [(.int 0)] _
    refine XS.pop X2.here hx rfl (dG hby D16 4 rfl) rfl rfl ?_
    refine XS.aloadN X2.here hx rfl (dG hby D16 5 rfl) rfl rfl ?_
    refine XS.iloadN X2.here hx rfl (dG hby D16 6 rfl) rfl ?_
    show SP p e below T2 m 11 #[vr a0l, vi (0 : Int32)] [(.int 0), (.ref a0l)] _
    refine st3.trans ?_
    show SP p e below T3 m 14 #[vr a0l, vi (0 : Int32)] [(.ref ob0)] _
    exact retA X3 hx Bd.returns rfl (dG hby D16 8 rfl) hr
  · show Q_rmGet n0 Z cS aDE kDE aUS aSS aIE mO a0l ae ka ob0 u1 u2 u3 u4 u5 u6 u7 u8 u9 sz h0 _ T3.heap _
    rw [e3]
    exact ⟨rfl, N3, rfl⟩
theorem D14 : dL prog_16_method_3_code [(0, .aload_n 0, 1), (1, .invokeinterface 39 1, 5), (6, .ifCond .eq 13, 3), (19, .aload_n 0, 1), (20, .iconst 0, 1), (21, .invokeinterface 48 2, 5), (26, .checkcast 1, 3), (29, .areturn, 1)] = true := by decide +kernel
abbrev MN_43 : MethodName := ⟨"java/util/List", "isEmpty", "()Z"⟩
abbrev MN_44 : MethodName := ⟨"java/util/List", "get", "(I)Ljava/lang/Object;"⟩
theorem pnv12 : plainName "com/example/grantline/grantline/PolicyException" = true := by first | (simp [plainName, overriddenIn]; done) | decide +kernel
abbrev MN_45 : MethodName := ⟨"com/example/grantline/grantline/PolicyException", "first", "(Ljava/util/List;)Lcom/example/grantline/grantline/PolicyException$Problem;"⟩
def Q_rmFi (n0 : Nat) (Z : State) (cS : Int32) (aDE : Addr) (kDE : ClassId) (aUS : Addr) (aSS : Addr) (aIE : Addr) (mO : Addr) (a0l : Addr) (ae : Addr) (ka : ClassId) (ob0 : Addr) (u1 : Value) (u2 : Value) (u3 : Value) (u4 : Value) (u5 : Value) (u6 : Value) (u7 : Value) (u8 : Value) (u9 : Value) (sz : Int32) (h0 : Heap) (v : Option Value) (h : Heap) (L : List Loc) : Prop := v = some (.ref ob0) ∧ Fr n0 L ∧ h = h0
theorem rmFi (l : Launch) (Z : State) (a0 : Array Value) (hw : ∀ d ∈ tables_1, d.before a0 Z = true) (ws : List Jvm.Cond) (cS : Int32) (aDE : Addr) (kDE : ClassId) (aUS : Addr) (aSS : Addr) (aIE : Addr) (mO : Addr) (a0l : Addr) (ae : Addr) (ka : ClassId) (ob0 : Addr) (u1 : Value) (u2 : Value) (u3 : Value) (u4 : Value) (u5 : Value) (u6 : Value) (u7 : Value) (u8 : Value) (u9 : Value) (sz : Int32) (h0 : Heap) (n0 : Nat) (O0 : Old Z n0 h0) (GL : GF Z cS aDE kDE aUS aSS aIE mO) (E_a0l : Exa Z h0 a0l "java/util/ArrayList") (F_elementData_a0l : Fld Z h0 a0l "java/util/ArrayList" "elementData" "[Ljava/lang/Object;" (.ref ae)) (V_ae : Arv Z h0 ae ka (.object "java/lang/Object") (10 : Int32) [(.ref ob0), u1, u2, u3, u4, u5, u6, u7, u8, u9] .null) (F_size_a0l : Fld Z h0 a0l "java/util/ArrayList" "size" "I" (.int sz)) (E_ob0 : Exa Z h0 ob0 "com/example/grantline/grantline/PolicyException$Problem") (hz : ¬ (sz = (0 : Int32))) (hp : (0 : Int32) < sz) :
    MF l MN_45 prog_16_method_3_code 1 (some (.object "com/example/grantline/grantline/PolicyException$Problem")) ws (Rm 3 0 0 40) #[(.ref a0l)] Z h0 (Q_rmFi n0 Z cS aDE kDE aUS aSS aIE mO a0l ae ka ob0 u1 u2 u3 u4 u5 u6 u7 u8 u9 sz h0) := by
  refine MetFree.of_bodySF (plainFor_of_name pnv12) hisR ?_
  intro p e s m args below meth c s₁ Bd hml0 hP hK
  obtain ⟨rfl, hZ, hh⟩ := hP
  have hx := Bd.exec
  have hby := Bd.bytes
  have hml : c.maxLocals = 1 := hml0
  have hown : s.vm.findClass "com/example/grantline/grantline/PolicyException" = some m.cls := findClass_of_methodNamed Bd.named
  have hnm := (name_of_methodNamed Bd.named Bd.method).1
  have X0 : Stand p l e (Rm 3 0 0 40) s m #[(.ref a0l)] below meth c s₁ [] 0 0 := Stand.of_body Bd
  have e0 : s₁.heap = h0 := by rw [← hh, Bd.state]; rfl
  have N0 := Fr.nil n0
  have pre0 : ∀ t, SP p e below s₁ m 0 #[vr a0l] [] t → Steps p.tables e below (s₁.setTop (entryFrame m #[(.ref a0l)] 1)) t := fun t k => castTop (ef_rmAbc m a0l) k
  have GL' := GL
  obtain ⟨GCS, GCP, GDE, GVE, GUS, GSS, GIE, GMO⟩ := GL'
  obtain ⟨cq1, kq1, q1a, q1b, q1c⟩ := isOf hZ e0 E_a0l
  obtain ⟨_, _, ⟨T1, L1, k1, n1⟩, -, X1, ⟨Lc1, hQ1, l1, y1, z1⟩, st1⟩ := X0.interfaceBack hx (xi := MN_43) (y := MN_38) hown (mvT hZ (Wd hw 95 rfl)) (mvT hZ (Wd hw 96 rfl)) (mvT hZ (Wd hw 97 rfl)) (mvT hZ (Wd hw 98 rfl)) (mvT hZ (Wd hw 99 rfl)) (mvT hZ (Wd hw 100 rfl)) (mvT hZ (Wd hw 101 rfl)) (mvT hZ (Wd hw 102 rfl)) (by decide) (backOf (W := 0) (rmIe l Z a0 hw [] cS aDE kDE aUS aSS aIE mO a0l sz h0 n0 O0 GL F_size_a0l hz) hZ (Wd hw 103 rfl) (Wd hw 15 rfl) (by decide) (by decide)) q1a q1b q1c (g := mkF m 1 #[vr a0l] [(.ref a0l)]) rfl (by rw [hml]; rfl) (Steps.refl _) (argsL := []) (rest := []) (lenOf pdv15 rfl) rfl (by show 2 * 0 + _ ≤ _; exact lEq rfl) (dG hby D14 1 rfl) (fun _ _ => ⟨rfl, e0, (by decide : 0 + 0 ≤ _), (by decide : 0 + 0 ≤ _)⟩)
  dsimp only [Pt.U, Pt.locs, Pt.cells, Pt.slots] at X1 l1 y1 z1 st1 hQ1
  subst l1 y1 z1
  obtain ⟨rfl, N1q, e1⟩ := hQ1
  have N1 := Fr.app N0 N1q
  obtain ⟨cq2, kq2, q2a, q2b, q2c⟩ := isOf hZ e1 E_a0l
  obtain ⟨_, _, ⟨T2, L2, k2, n2⟩, -, X2, ⟨Lc2, hQ2, l2, y2, z2⟩, st2⟩ := X1.interfaceBack hx (xi := MN_44) (y := MN_42) hown (mvT hZ (Wd hw 104 rfl)) (mvT hZ (Wd hw 105 rfl)) (mvT hZ (Wd hw 106 rfl)) (mvT hZ (Wd hw 107 rfl)) (mvT hZ (Wd hw 108 rfl)) (mvT hZ (Wd hw 109 rfl)) (mvT hZ (Wd hw 110 rfl)) (mvT hZ (Wd hw 102 rfl)) (by decide) (backOf (W := 0) (rmGet l Z a0 hw [] cS aDE kDE aUS aSS aIE mO a0l ae ka ob0 u1 u2 u3 u4 u5 u6 u7 u8 u9 sz h0 n0 O0 GL E_a0l F_elementData_a0l V_ae F_size_a0l hp) hZ (Wd hw 111 rfl) (Wd hw 15 rfl) (by decide) (by decide)) q2a q2b q2c (g := mkF m 21 #[vr a0l] [(.int 0), (.ref a0l)]) rfl (by rw [hml]; rfl) (Steps.refl _) (argsL := [(.int 0)]) (rest := []) (lenOf pdv25 rfl) rfl (by show 2 * 0 + _ ≤ _; exact lEq rfl) (dG hby D14 5 rfl) (fun _ _ => ⟨rfl, e1, (by decide : 0 + 0 ≤ _), (by decide : 0 + 0 ≤ _)⟩)
  dsimp only [Pt.U, Pt.locs, Pt.cells, Pt.slots] at X2 l2 y2 z2 st2 hQ2
  subst l2 y2 z2
  obtain ⟨rfl, N2q, e2⟩ := hQ2
  have N2 := Fr.app N1 N2q
  obtain ⟨T3, X3, e3, st3⟩ := castY X2 hx hZ hown (Wd hw 125 rfl) e2 (Ins.self E_ob0) (g := mkF m 26 #[vr a0l] [(.ref ob0)]) rfl rfl (dG hby D14 6 rfl)
  obtain ⟨fs, hr, hrun, hended, hW, hsame⟩ := X3.leave (v := some (.ref ob0)) (fun h => by rw [Bd.returns] at h; cases h)
  refine ⟨_, _, pre0 _ ?_, hrun, hended, _, _, rfl, ?_, ⟨_, rfl⟩, hW, hsame.mono (by decide) (by decide)⟩
  · show SP p e below s₁ m 0 #[vr a0l] [] _
    refine XS.aloadN X0.here hx rfl (dG hby D14 0 rfl) rfl rfl ?_
    show SP p e below s₁ m 1 #[vr a0l] [(.ref a0l)] _
    refine st1.trans ?_
    show SP p e below T1 m 6 #[vr a0l] [(.int 0)] _
    refine XS.ifYes X1.here hx rfl (pc0 := 6) (pc' := 19) rfl (dG hby D14 2 rfl) rfl ((if0 _ _).trans (teq (by decide : (0 : Int32) = (0 : Int32))).1) (by decide) (by decide) ?_
    refine XS.aloadN X1.here hx rfl (dG hby D14 3 rfl) rfl rfl ?_
    refine XS.iconst X1.here hx rfl (dG hby D14 4 rfl) ?_
    show SP p e below T1 m 21 #[vr a0l] [(.int 0), (.ref a0l)] _
    refine st2.trans ?_
    show SP p e below T2 m 26 #[vr a0l] [(.ref ob0)] _
    refine st3 _ ?_
    show SP p e below T3 m 29 #[vr a0l] [(.ref ob0)] _
    exact retA X3 hx Bd.returns rfl (dG hby D14 7 rfl) hr
  · show Q_rmFi n0 Z cS aDE kDE aUS aSS aIE mO a0l ae ka ob0 u1 u2 u3 u4 u5 u6 u7 u8 u9 sz h0 _ T3.heap _
    rw [e3]
    exact ⟨rfl, N2, rfl⟩
theorem D50 : dL jdk_65_method_120_code [(0, .aload_n 2, 1), (1, .ldc 110, 2), (3, .if_acmp .ne 10, 3), (6, .iload_n 1, 1), (7, .anewarray 2, 3), (10, .goto 14, 3), (24, .astore_n 3, 1), (25, .aload_n 0, 1), (26, .iconst 0, 1), (27, .aload_n 3, 1), (28, .iconst 0, 1), (29, .aload_n 0, 1), (30, .arraylength, 1), (31, .iload_n 1, 1), (32, .invokestatic 304, 3), (35, .invokestatic 150, 3), (38, .aload_n 3, 1), (39, .areturn, 1)] = true := by decide +kernel
abbrev MN_46 : MethodName := ⟨"java/util/Arrays", "copyOf", "([Ljava/lang/Object;ILjava/lang/Class;)[Ljava/lang/Object;"⟩
theorem ef_rmC3_1 (m : MethodId) (a0d : Addr) : entryFrame m #[(.ref a0d), (.int 1), (.ref mO)] 4 = mkF m 0 #[vr a0d, vi (1 : Int32), vr mO, .unset] [] := by first | (simp [entryFrame, mkF, argsToLocals, Value.category]; done) | rfl
def Q_rmC3_1 (n0 : Nat) (Z : State) (cS : Int32) (aDE : Addr) (kDE : ClassId) (aUS : Addr) (aSS : Addr) (aIE : Addr) (mO : Addr) (a0d : Addr) (ka : ClassId) (ob0 : Addr) (h0 : Heap) (v : Option Value) (h : Heap) (L : List Loc) : Prop := ∃ b : Addr, ∃ kb : ClassId, v = some (.ref b) ∧ Fr n0 L ∧ Keep h0 h [] ∧ (h0.size ≤ b) ∧ (Arv Z h b kb (.object "java/lang/Object") (1 : Int32) [(.ref ob0)] .null)
theorem rmC3_1 (l : Launch) (Z : State) (a0 : Array Value) (hw : ∀ d ∈ tables_1, d.before a0 Z = true) (ws : List Jvm.Cond) (cS : Int32) (aDE : Addr) (kDE : ClassId) (aUS : Addr) (aSS : Addr) (aIE : Addr) (mO : Addr) (a0d : Addr) (ka : ClassId) (ob0 : Addr) (h0 : Heap) (n0 : Nat) (O0 : Old Z n0 h0) (GL : GF Z cS aDE kDE aUS aSS aIE mO) (E_a0d : Exa Z h0 a0d "[Ljava/lang/Object;") (V_a0d : Arv Z h0 a0d ka (.object "java/lang/Object") (10 : Int32) [(.ref ob0), .null, .null, .null, .null, .null, .null, .null, .null, .null] .null) (E_ob0 : Exa Z h0 ob0 "com/example/grantline/grantline/PolicyException$Problem") :
    MF l MN_46 jdk_65_method_120_code 4 (some (.array (.object "java/lang/Object"))) ws (Rm 1 1 1 18) #[(.ref a0d), (.int 1), (.ref mO)] Z h0 (Q_rmC3_1 n0 Z cS aDE kDE aUS aSS aIE mO a0d ka ob0 h0) := by
  refine MetFree.of_bodySF (plainFor_of_name pnv4) hisR ?_
  intro p e s m args below meth c s₁ Bd hml0 hP hK
  obtain ⟨rfl, hZ, hh⟩ := hP
  have hx := Bd.exec
  have hby := Bd.bytes
  have hml : c.maxLocals = 4 := hml0
  have hown : s.vm.findClass "java/util/Arrays" = some m.cls := findClass_of_methodNamed Bd.named
  have hnm := (name_of_methodNamed Bd.named Bd.method).1
  have X0 : Stand p l e (Rm 1 1 1 18) s m #[(.ref a0d), (.int 1), (.ref mO)] below meth c s₁ [] 0 0 := Stand.of_body Bd
  have e0 : s₁.heap = h0 := by rw [← hh, Bd.state]; rfl
  have N0 := Fr.nil n0
  have pre0 : ∀ t, SP p e below s₁ m 0 #[vr a0d, vi (1 : Int32), vr mO, .unset] [] t → Steps p.tables e below (s₁.setTop (entryFrame m #[(.ref a0d), (.int 1), (.ref mO)] 4)) t := fun t k => castTop (ef_rmC3_1 m a0d) k
  have GL' := GL
  obtain ⟨GCS, GCP, GDE, GVE, GUS, GSS, GIE, GMO⟩ := GL'
  obtain ⟨T1, X1, e1, st1⟩ := own_ldcM X0 hx hZ hown (Wd hw 333 rfl) e0 GMO (g := mkF m 1 #[vr a0d, vi (1 : Int32), vr mO, .unset] [(.ref mO)]) rfl (dG hby D50 1 rfl)
  obtain ⟨T2, h2, k2, X2, e2, E2, A2, A2', Ov2, st2⟩ := newRE X1 hx hZ hown (Wd hw 334 rfl) (Wd hw 84 rfl) e1 (g := mkF m 7 #[vr a0d, vi (1 : Int32), vr mO, .unset] [(.int 1)]) rfl (dG hby D50 4 rfl) rfl (by decide) (cap := 1) (by decide) (by decide) (by decide) (by decide) (ad := "[Ljava/lang/Object;") rfl
  obtain ⟨b2, g2⟩ : ∃ z, z = h0.size := ⟨_, rfl⟩
  rw [← g2] at A2 A2' st2
  have g_b2 : n0 ≤ b2 := lTr (own_sz O0) (lEq g2.symm)
  have sz_b2 : h0.size ≤ b2 := lTr (Keep.refl h0 []).1 (lEq g2.symm)
  have K2 : Keep h0 h2 [] := (Keep.refl h0 []).ext E2
  have O2 := O0.ext E2
  have V_b2 : Arv Z h2 b2 k2 (.object "java/lang/Object") (1 : Int32) [.null] .null := (Arv.new A2 (by decide)).pad (pad_rep [] .null 1)
  obtain ⟨cl3, Ar3, -, S3, N3_, -, -⟩ := id ((V_a0d.ext E2))
  obtain ⟨_, _, ⟨T4, L4, k4, n4⟩, -, X4, ⟨Lc4, hQ4, l4, y4, z4⟩, st4⟩ := Jvm.LawKit.callS X2 hx (y := MN_7) hown (mvT hZ (Wd hw 243 rfl)) (mvT hZ (Wd hw 244 rfl)) (mvT hZ (Wd hw 81 rfl)) (mvT hZ (Wd hw 245 rfl)) (by decide) (backOf (W := 4) (rmMin l Z a0 hw [] cS aDE kDE aUS aSS aIE mO ((10 : Int32)) ((1 : Int32)) h2 n0 O2 GL (by decide)) hZ (Wd hw 245 rfl) (Wd hw 81 rfl) (by decide) (by decide)) (g := mkF m 32 #[vr a0d, vi (1 : Int32), vr mO, vr b2] [(.int 1), (.int 10), (.int 0), (.ref b2), (.int 0), (.ref a0d)]) rfl (by rw [hml]; rfl) (argsL := [(.int 10), (.int 1)]) (rest := [(.int 0), (.ref b2), (.int 0), (.ref a0d)]) (lenOf pdv12 rfl) rfl (by show 2 * 0 + _ ≤ _; exact lEq rfl) (dG hby D50 14 rfl) (fun _ _ => ⟨rfl, e2, (by decide : 1 + 0 ≤ _), (by decide : 1 + 0 ≤ _)⟩)
  dsimp only [Pt.U, Pt.locs, Pt.cells, Pt.slots] at X4 l4 y4 z4 st4 hQ4
  subst l4 y4 z4
  obtain ⟨rfl, N4q, e4⟩ := hQ4
  have N4 := Fr.app N0 N4q
  obtain ⟨cl5, Ar5, q5, -, -, -, -⟩ := id (V_b2)
  obtain ⟨T5, h5, L5, X5, e5, N5, Kc5, V5, st5⟩ := cpA X4 hx hZ hown (Wd hw 246 rfl) (Wd hw 199 rfl) (Wd hw 197 rfl) (Wd hw 198 rfl) e4 (V_a0d.ext E2) V_b2 (us := [(.ref ob0)]) (Or.inr ⟨rfl, rfl, ⟨(Sto.ofV Ar5 q5 Ov2 (Ins.of_exa (E_ob0.ext E2) (Wd hw 85 rfl))), trivial⟩⟩) (by decide) (by decide) (by decide) (by decide) (by decide) rfl (by decide) N4 g_b2 (g := mkF m 35 #[vr a0d, vi (1 : Int32), vr mO, vr b2] [(.int 1), (.int 0), (.ref b2), (.int 0), (.ref a0d)]) rfl (by rw [hml]; rfl) rfl (dG hby D50 15 rfl) (by decide) (W := 0) (by show 2 * 0 + _ ≤ _; exact lEq rfl) (by decide)
  have V5' : Arv Z h5 b2 k2 (.object "java/lang/Object") (1 : Int32) [(.ref ob0)] .null := V5
  have K5 : Keep h0 h5 [] := K2.trans Kc5 (allS (Or.inr sz_b2) all0)
  have O5 := O2.keep Kc5 (allS g_b2 all0)
  obtain ⟨fs, hr, hrun, hended, hW, hsame⟩ := X5.leave (v := some (.ref b2)) (fun h => by rw [Bd.returns] at h; cases h)
  refine ⟨_, _, pre0 _ ?_, hrun, hended, _, _, rfl, ?_, ⟨_, rfl⟩, hW, hsame.mono (by decide) (by decide)⟩
  · show SP p e below s₁ m 0 #[vr a0d, vi (1 : Int32), vr mO, .unset] [] _
    refine XS.aloadN X0.here hx rfl (dG hby D50 0 rfl) rfl rfl ?_
    show SP p e below s₁ m 1 #[vr a0d, vi (1 : Int32), vr mO, .unset] [(.ref mO)] _
    refine st1 _ ?_
    show SP p e below T1 m 3 #[vr a0d, vi (1 : Int32), vr mO, .unset] [(.ref mO), (.ref mO)] _
    refine Jvm.RoadKit.acmp (g := mkF m 3 #[vr a0d, vi (1 : Int32), vr mO, .unset] [(.ref mO), (.ref mO)]) X1 hx rfl rfl rfl (pc0 := 3) (pc' := 6) (same := true) rfl (dG hby D50 2 rfl) rfl (decide_eq_true rfl) (by decide) (by decide) ?_
    show SP p e below T1 m 6 #[vr a0d, vi (1 : Int32), vr mO, .unset] [] _
    refine XS.iloadN X1.here hx rfl (dG hby D50 3 rfl) rfl ?_
    show SP p e below T1 m 7 #[vr a0d, vi (1 : Int32), vr mO, .unset] [(.int 1)] _
    refine st2 _ ?_
    show SP p e below T2 m 10 #[vr a0d, vi (1 : Int32), vr mO, .unset] [(.ref b2)] _
    refine XS.goto X2.here hx rfl (pc0 := 10) (pc' := 24) rfl (dG hby D50 5 rfl) (by decide) (by decide) ?_
    refine XS.astoreN X2.here hx rfl (dG hby D50 6 rfl) rfl rfl (l' := #[vr a0d, vi (1 : Int32), vr mO, vr b2]) rfl ?_
    refine XS.aloadN X2.here hx rfl (dG hby D50 7 rfl) rfl rfl ?_
    refine XS.iconst X2.here hx rfl (dG hby D50 8 rfl) ?_
    refine XS.aloadN X2.here hx rfl (dG hby D50 9 rfl) rfl rfl ?_
    refine XS.iconst X2.here hx rfl (dG hby D50 10 rfl) ?_
    refine XS.aloadN X2.here hx rfl (dG hby D50 11 rfl) rfl rfl ?_
    show SP p e below T2 m 30 #[vr a0d, vi (1 : Int32), vr mO, vr b2] [(.ref a0d), (.int 0), (.ref b2), (.int 0), (.ref a0d)] _
    refine X2.arraylength hx (by rw [e2]; exact Ar3.1) (State.isArrayOf_alike hZ.alike Ar3.2.1) (g := mkF m 30 #[vr a0d, vi (1 : Int32), vr mO, vr b2] [(.ref a0d), (.int 0), (.ref b2), (.int 0), (.ref a0d)]) rfl rfl (dG hby D50 12 rfl) _ ?_
    rw [len_of S3 N3_]
    show SP p e below T2 m 31 #[vr a0d, vi (1 : Int32), vr mO, vr b2] [(.int 10), (.int 0), (.ref b2), (.int 0), (.ref a0d)] _
    refine XS.iloadN X2.here hx rfl (dG hby D50 13 rfl) rfl ?_
    show SP p e below T2 m 32 #[vr a0d, vi (1 : Int32), vr mO, vr b2] [(.int 1), (.int 10), (.int 0), (.ref b2), (.int 0), (.ref a0d)] _
    refine st4 _ ?_
    show SP p e below T4 m 35 #[vr a0d, vi (1 : Int32), vr mO, vr b2] [(.int 1), (.int 0), (.ref b2), (.int 0), (.ref a0d)] _
    refine st5 _ ?_
    show SP p e below T5 m 38 #[vr a0d, vi (1 : Int32), vr mO, vr b2] [] _
    refine XS.aloadN X5.here hx rfl (dG hby D50 16 rfl) rfl rfl ?_
    show SP p e below T5 m 39 #[vr a0d, vi (1 : Int32), vr mO, vr b2] [(.ref b2)] _
    exact retA X5 hx Bd.returns rfl (dG hby D50 17 rfl) hr
  · show Q_rmC3_1 n0 Z cS aDE kDE aUS aSS aIE mO a0d ka ob0 h0 _ T5.heap _
    rw [e5]
    exact ⟨b2, k2, rfl, N5, K5, sz_b2, V5'⟩
theorem D49 : dL jdk_65_method_119_code [(0, .aload_n 0, 1), (1, .iload_n 1, 1), (2, .aload_n 0, 1), (3, .invokevirtual 86, 3), (6, .invokestatic 300, 3), (9, .areturn, 1)] = true := by decide +kernel
theorem pdv26 : parseMethodDescriptor "([Ljava/lang/Object;ILjava/lang/Class;)[Ljava/lang/Object;" = some ⟨[(.array (.object "java/lang/Object")), .int, (.object "java/lang/Class")], some (.array (.object "java/lang/Object"))⟩ := by decide +kernel
abbrev MN_47 : MethodName := ⟨"java/util/Arrays", "copyOf", "([Ljava/lang/Object;I)[Ljava/lang/Object;"⟩
theorem ef_rmC2o_1 (m : MethodId) (a0d : Addr) : entryFrame m #[(.ref a0d), (.int 1)] 2 = mkF m 0 #[vr a0d, vi (1 : Int32)] [] := by first | (simp [entryFrame, mkF, argsToLocals, Value.category]; done) | rfl
def Q_rmC2o_1 (n0 : Nat) (Z : State) (cS : Int32) (aDE : Addr) (kDE : ClassId) (aUS : Addr) (aSS : Addr) (aIE : Addr) (mO : Addr) (a0d : Addr) (ka : ClassId) (ob0 : Addr) (h0 : Heap) (v : Option Value) (h : Heap) (L : List Loc) : Prop := ∃ b : Addr, ∃ kb : ClassId, v = some (.ref b) ∧ Fr n0 L ∧ Keep h0 h [] ∧ (h0.size ≤ b) ∧ (Arv Z h b kb (.object "java/lang/Object") (1 : Int32) [(.ref ob0)] .null)
theorem rmC2o_1 (l : Launch) (Z : State) (a0 : Array Value) (hw : ∀ d ∈ tables_1, d.before a0 Z = true) (ws : List Jvm.Cond) (cS : Int32) (aDE : Addr) (kDE : ClassId) (aUS : Addr) (aSS : Addr) (aIE : Addr) (mO : Addr) (a0d : Addr) (ka : ClassId) (ob0 : Addr) (h0 : Heap) (n0 : Nat) (O0 : Old Z n0 h0) (GL : GF Z cS aDE kDE aUS aSS aIE mO) (E_a0d : Exa Z h0 a0d "[Ljava/lang/Object;") (V_a0d : Arv Z h0 a0d ka (.object "java/lang/Object") (10 : Int32) [(.ref ob0), .null, .null, .null, .null, .null, .null, .null, .null, .null] .null) (E_ob0 : Exa Z h0 ob0 "com/example/grantline/grantline/PolicyException$Problem") :
    MF l MN_47 jdk_65_method_119_code 2 (some (.array (.object "java/lang/Object"))) ws (Rm 2 1 1 33) #[(.ref a0d), (.int 1)] Z h0 (Q_rmC2o_1 n0 Z cS aDE kDE aUS aSS aIE mO a0d ka ob0 h0) := by
  refine MetFree.of_bodySF (plainFor_of_name pnv4) hisR ?_
  intro p e s m args below meth c s₁ Bd hml0 hP hK
  obtain ⟨rfl, hZ, hh⟩ := hP
  have hx := Bd.exec
  have hby := Bd.bytes
  have hml : c.maxLocals = 2 := hml0
  have hown : s.vm.findClass "java/util/Arrays" = some m.cls := findClass_of_methodNamed Bd.named
  have hnm := (name_of_methodNamed Bd.named Bd.method).1
  have X0 : Stand p l e (Rm 2 1 1 33) s m #[(.ref a0d), (.int 1)] below meth c s₁ [] 0 0 := Stand.of_body Bd
  have e0 : s₁.heap = h0 := by rw [← hh, Bd.state]; rfl
  have N0 := Fr.nil n0
  have pre0 : ∀ t, SP p e below s₁ m 0 #[vr a0d, vi (1 : Int32)] [] t → Steps p.tables e below (s₁.setTop (entryFrame m #[(.ref a0d), (.int 1)] 2)) t := fun t k => castTop (ef_rmC2o_1 m a0d) k
  have GL' := GL
  obtain ⟨GCS, GCP, GDE, GVE, GUS, GSS, GIE, GMO⟩ := GL'
  obtain ⟨T1, X1, e1, st1⟩ := gcls X0 hx hZ hown (Wd hw 324 rfl) (Wd hw 325 rfl) (Wd hw 306 rfl) (Wd hw 327 rfl) (Wd hw 326 rfl) (Wd hw 328 rfl) e0 E_a0d GMO (g := mkF m 3 #[vr a0d, vi (1 : Int32)] [(.ref a0d), (.int 1), (.ref a0d)]) rfl (by rw [hml]; rfl) rfl (dG hby D49 3 rfl) (by decide) (W := 2) (by show 2 * 0 + _ ≤ _; exact lEq rfl) (by decide)
  obtain ⟨_, _, ⟨T2, L2, k2, n2⟩, -, X2, ⟨Lc2, hQ2, l2, y2, z2⟩, st2⟩ := Jvm.LawKit.callS X1 hx (y := MN_46) hown (mvT hZ (Wd hw 330 rfl)) (mvT hZ (Wd hw 331 rfl)) (mvT hZ (Wd hw 235 rfl)) (mvT hZ (Wd hw 332 rfl)) (by decide) (backOf (W := 0) (rmC3_1 l Z a0 hw [] cS aDE kDE aUS aSS aIE mO a0d ka ob0 h0 n0 O0 GL E_a0d V_a0d E_ob0) hZ (Wd hw 332 rfl) (Wd hw 235 rfl) (by decide) (by decide)) (g := mkF m 6 #[vr a0d, vi (1 : Int32)] [(.ref mO), (.int 1), (.ref a0d)]) rfl (by rw [hml]; rfl) (argsL := [(.ref a0d), (.int 1), (.ref mO)]) (rest := []) (lenOf pdv26 rfl) rfl (by show 2 * 0 + _ ≤ _; exact lEq rfl) (dG hby D49 4 rfl) (fun _ _ => ⟨rfl, e1, (by decide : 0 + 1 ≤ _), (by decide : 0 + 1 ≤ _)⟩)
  dsimp only [Pt.U, Pt.locs, Pt.cells, Pt.slots] at X2 l2 y2 z2 st2 hQ2
  subst l2 y2 z2
  obtain ⟨b_2, kb_2, rfl, N2q, Kc2, P2_0, P2_1⟩ := hQ2
  have K2 : Keep h0 T2.heap [] := (Keep.refl h0 []).trans Kc2 all0
  have O2 := O0.keep Kc2 all0
  have g_b_2 : n0 ≤ b_2 := lTr (own_sz O0) P2_0
  have sz_b_2 : h0.size ≤ b_2 := lTr (Keep.refl h0 []).1 P2_0
  have N2 := Fr.app N0 N2q
  obtain ⟨fs, hr, hrun, hended, hW, hsame⟩ := X2.leave (v := some (.ref b_2)) (fun h => by rw [Bd.returns] at h; cases h)
  refine ⟨_, _, pre0 _ ?_, hrun, hended, _, _, rfl, ?_, ⟨_, rfl⟩, hW, hsame.mono (by decide) (by decide)⟩
  · show SP p e below s₁ m 0 #[vr a0d, vi (1 : Int32)] [] _
    refine XS.aloadN X0.here hx rfl (dG hby D49 0 rfl) rfl rfl ?_
    refine XS.iloadN X0.here hx rfl (dG hby D49 1 rfl) rfl ?_
    refine XS.aloadN X0.here hx rfl (dG hby D49 2 rfl) rfl rfl ?_
    show SP p e below s₁ m 3 #[vr a0d, vi (1 : Int32)] [(.ref a0d), (.int 1), (.ref a0d)] _
    refine st1 _ ?_
    show SP p e below T1 m 6 #[vr a0d, vi (1 : Int32)] [(.ref mO), (.int 1), (.ref a0d)] _
    refine st2 _ ?_
    show SP p e below T2 m 9 #[vr a0d, vi (1 : Int32)] [(.ref b_2)] _
    exact retA X2 hx Bd.returns rfl (dG hby D49 5 rfl) hr
  · show Q_rmC2o_1 n0 Z cS aDE kDE aUS aSS aIE mO a0d ka ob0 h0 _ T2.heap _
    exact ⟨b_2, kb_2, rfl, N2, K2, sz_b_2, P2_1⟩
theorem D48 : dL jdk_38_method_16_code [(0, .aload_n 0, 1), (1, .getfield 9, 3), (4, .aload_n 0, 1), (5, .getfield 48, 3), (8, .invokestatic 66, 3), (11, .areturn, 1)] = true := by decide +kernel
theorem pdv27 : parseMethodDescriptor "([Ljava/lang/Object;I)[Ljava/lang/Object;" = some ⟨[(.array (.object "java/lang/Object")), .int], some (.array (.object "java/lang/Object"))⟩ := by decide +kernel
abbrev MN_48 : MethodName := ⟨"java/util/ArrayList", "toArray", "()[Ljava/lang/Object;"⟩
def Q_rmTa_1 (n0 : Nat) (Z : State) (cS : Int32) (aDE : Addr) (kDE : ClassId) (aUS : Addr) (aSS : Addr) (aIE : Addr) (mO : Addr) (a0l : Addr) (ae : Addr) (ka : ClassId) (ob0 : Addr) (h0 : Heap) (v : Option Value) (h : Heap) (L : List Loc) : Prop := ∃ b : Addr, ∃ kb : ClassId, v = some (.ref b) ∧ Fr n0 L ∧ Keep h0 h [] ∧ (h0.size ≤ b) ∧ (Arv Z h b kb (.object "java/lang/Object") (1 : Int32) [(.ref ob0)] .null)
theorem rmTa_1 (l : Launch) (Z : State) (a0 : Array Value) (hw : ∀ d ∈ tables_1, d.before a0 Z = true) (ws : List Jvm.Cond) (cS : Int32) (aDE : Addr) (kDE : ClassId) (aUS : Addr) (aSS : Addr) (aIE : Addr) (mO : Addr) (a0l : Addr) (ae : Addr) (ka : ClassId) (ob0 : Addr) (h0 : Heap) (n0 : Nat) (O0 : Old Z n0 h0) (GL : GF Z cS aDE kDE aUS aSS aIE mO) (E_a0l : Exa Z h0 a0l "java/util/ArrayList") (F_elementData_a0l : Fld Z h0 a0l "java/util/ArrayList" "elementData" "[Ljava/lang/Object;" (.ref ae)) (F_size_a0l : Fld Z h0 a0l "java/util/ArrayList" "size" "I" (.int 1)) (E_ae : Exa Z h0 ae "[Ljava/lang/Object;") (V_ae : Arv Z h0 ae ka (.object "java/lang/Object") (10 : Int32) [(.ref ob0), .null, .null, .null, .null, .null, .null, .null, .null, .null] .null) (E_ob0 : Exa Z h0 ob0 "com/example/grantline/grantline/PolicyException$Problem") :
    MF l MN_48 jdk_38_method_16_code 1 (some (.array (.object "java/lang/Object"))) ws (Rm 3 1 1 46) #[(.ref a0l)] Z h0 (Q_rmTa_1 n0 Z cS aDE kDE aUS aSS aIE mO a0l ae ka ob0 h0) := by
  refine MetFree.of_bodySF (plainFor_of_name pnv9) hisR ?_
  intro p e s m args below meth c s₁ Bd hml0 hP hK
  obtain ⟨rfl, hZ, hh⟩ := hP
  have hx := Bd.exec
  have hby := Bd.bytes
  have hml : c.maxLocals = 1 := hml0
  have hown : s.vm.findClass "java/util/ArrayList" = some m.cls := findClass_of_methodNamed Bd.named
  have hnm := (name_of_methodNamed Bd.named Bd.method).1
  have X0 : Stand p l e (Rm 3 1 1 46) s m #[(.ref a0l)] below meth c s₁ [] 0 0 := Stand.of_body Bd
  have e0 : s₁.heap = h0 := by rw [← hh, Bd.state]; rfl
  have N0 := Fr.nil n0
  have pre0 : ∀ t, SP p e below s₁ m 0 #[vr a0l] [] t → Steps p.tables e below (s₁.setTop (entryFrame m #[(.ref a0l)] 1)) t := fun t k => castTop (ef_rmAbc m a0l) k
  have GL' := GL
  obtain ⟨GCS, GCP, GDE, GVE, GUS, GSS, GIE, GMO⟩ := GL'
  obtain ⟨T1, X1, e1, st1⟩ := getF X0 hx hZ hown (host := "") (Or.inl (Wd hw 37 rfl)) Via.refl e0 F_elementData_a0l (g := mkF m 1 #[vr a0l] [(.ref a0l)]) rfl rfl (dG hby D48 1 rfl)
  obtain ⟨T2, X2, e2, st2⟩ := getF X1 hx hZ hown (host := "") (Or.inl (Wd hw 62 rfl)) Via.refl e1 F_size_a0l (g := mkF m 5 #[vr a0l] [(.ref a0l), (.ref ae)]) rfl rfl (dG hby D48 3 rfl)
  obtain ⟨_, _, ⟨T3, L3, k3, n3⟩, -, X3, ⟨Lc3, hQ3, l3, y3, z3⟩, st3⟩ := Jvm.LawKit.callS X2 hx (y := MN_47) hown (mvT hZ (Wd hw 321 rfl)) (mvT hZ (Wd hw 322 rfl)) (mvT hZ (Wd hw 235 rfl)) (mvT hZ (Wd hw 323 rfl)) (by decide) (backOf (W := 0) (rmC2o_1 l Z a0 hw [] cS aDE kDE aUS aSS aIE mO ae ka ob0 h0 n0 O0 GL E_ae V_ae E_ob0) hZ (Wd hw 323 rfl) (Wd hw 235 rfl) (by decide) (by decide)) (g := mkF m 8 #[vr a0l] [(.int 1), (.ref ae)]) rfl (by rw [hml]; rfl) (argsL := [(.ref ae), (.int 1)]) (rest := []) (lenOf pdv27 rfl) rfl (by show 2 * 0 + _ ≤ _; exact lEq rfl) (dG hby D48 4 rfl) (fun _ _ => ⟨rfl, e2, (by decide : 0 + 1 ≤ _), (by decide : 0 + 1 ≤ _)⟩)
  dsimp only [Pt.U, Pt.locs, Pt.cells, Pt.slots] at X3 l3 y3 z3 st3 hQ3
  subst l3 y3 z3
  obtain ⟨b_3, kb_3, rfl, N3q, Kc3, P3_0, P3_1⟩ := hQ3
  have K3 : Keep h0 T3.heap [] := (Keep.refl h0 []).trans Kc3 all0
  have O3 := O0.keep Kc3 all0
  have g_b_3 : n0 ≤ b_3 := lTr (own_sz O0) P3_0
  have sz_b_3 : h0.size ≤ b_3 := lTr (Keep.refl h0 []).1 P3_0
  have N3 := Fr.app N0 N3q
  obtain ⟨fs, hr, hrun, hended, hW, hsame⟩ := X3.leave (v := some (.ref b_3)) (fun h => by rw [Bd.returns] at h; cases h)
  refine ⟨_, _, pre0 _ ?_, hrun, hended, _, _, rfl, ?_, ⟨_, rfl⟩, hW, hsame.mono (by decide) (by decide)⟩
  · show SP p e below s₁ m 0 #[vr a0l] [] _
    refine XS.aloadN X0.here hx rfl (dG hby D48 0 rfl) rfl rfl ?_
    show SP p e below s₁ m 1 #[vr a0l] [(.ref a0l)] _
    refine st1 _ ?_
    show SP p e below T1 m 4 #[vr a0l] [(.ref ae)] _
    refine XS.aloadN X1.here hx rfl (dG hby D48 2 rfl) rfl rfl ?_
    show SP p e below T1 m 5 #[vr a0l] [(.ref a0l), (.ref ae)] _
    refine st2 _ ?_
    show SP p e below T2 m 8 #[vr a0l] [(.int 1), (.ref ae)] _
    refine st3 _ ?_
    show SP p e below T3 m 11 #[vr a0l] [(.ref b_3)] _
    exact retA X3 hx Bd.returns rfl (dG hby D48 5 rfl) hr
  · show Q_rmTa_1 n0 Z cS aDE kDE aUS aSS aIE mO a0l ae ka ob0 h0 _ T3.heap _
    exact ⟨b_3, kb_3, rfl, N3, K3, sz_b_3, P3_1⟩
theorem ef_rmC3_2 (m : MethodId) (a0d : Addr) : entryFrame m #[(.ref a0d), (.int 2), (.ref mO)] 4 = mkF m 0 #[vr a0d, vi (2 : Int32), vr mO, .unset] [] := by first | (simp [entryFrame, mkF, argsToLocals, Value.category]; done) | rfl
def Q_rmC3_2 (n0 : Nat) (Z : State) (cS : Int32) (aDE : Addr) (kDE : ClassId) (aUS : Addr) (aSS : Addr) (aIE : Addr) (mO : Addr) (a0d : Addr) (ka : ClassId) (ob0 : Addr) (ob1 : Addr) (h0 : Heap) (v : Option Value) (h : Heap) (L : List Loc) : Prop := ∃ b : Addr, ∃ kb : ClassId, v = some (.ref b) ∧ Fr n0 L ∧ Keep h0 h [] ∧ (h0.size ≤ b) ∧ (Arv Z h b kb (.object "java/lang/Object") (2 : Int32) [(.ref ob0), (.ref ob1)] .null)
theorem rmC3_2 (l : Launch) (Z : State) (a0 : Array Value) (hw : ∀ d ∈ tables_1, d.before a0 Z = true) (ws : List Jvm.Cond) (cS : Int32) (aDE : Addr) (kDE : ClassId) (aUS : Addr) (aSS : Addr) (aIE : Addr) (mO : Addr) (a0d : Addr) (ka : ClassId) (ob0 : Addr) (ob1 : Addr) (h0 : Heap) (n0 : Nat) (O0 : Old Z n0 h0) (GL : GF Z cS aDE kDE aUS aSS aIE mO) (E_a0d : Exa Z h0 a0d "[Ljava/lang/Object;") (V_a0d : Arv Z h0 a0d ka (.object "java/lang/Object") (10 : Int32) [(.ref ob0), (.ref ob1), .null, .null, .null, .null, .null, .null, .null, .null] .null) (E_ob0 : Exa Z h0 ob0 "com/example/grantline/grantline/PolicyException$Problem") (E_ob1 : Exa Z h0 ob1 "com/example/grantline/grantline/PolicyException$Problem") :
    MF l MN_46 jdk_65_method_120_code 4 (some (.array (.object "java/lang/Object"))) ws (Rm 1 1 2 18) #[(.ref a0d), (.int 2), (.ref mO)] Z h0 (Q_rmC3_2 n0 Z cS aDE kDE aUS aSS aIE mO a0d ka ob0 ob1 h0) := by
  refine MetFree.of_bodySF (plainFor_of_name pnv4) hisR ?_
  intro p e s m args below meth c s₁ Bd hml0 hP hK
  obtain ⟨rfl, hZ, hh⟩ := hP
  have hx := Bd.exec
  have hby := Bd.bytes
  have hml : c.maxLocals = 4 := hml0
  have hown : s.vm.findClass "java/util/Arrays" = some m.cls := findClass_of_methodNamed Bd.named
  have hnm := (name_of_methodNamed Bd.named Bd.method).1
  have X0 : Stand p l e (Rm 1 1 2 18) s m #[(.ref a0d), (.int 2), (.ref mO)] below meth c s₁ [] 0 0 := Stand.of_body Bd
  have e0 : s₁.heap = h0 := by rw [← hh, Bd.state]; rfl
  have N0 := Fr.nil n0
  have pre0 : ∀ t, SP p e below s₁ m 0 #[vr a0d, vi (2 : Int32), vr mO, .unset] [] t → Steps p.tables e below (s₁.setTop (entryFrame m #[(.ref a0d), (.int 2), (.ref mO)] 4)) t := fun t k => castTop (ef_rmC3_2 m a0d) k
  have GL' := GL
  obtain ⟨GCS, GCP, GDE, GVE, GUS, GSS, GIE, GMO⟩ := GL'
  obtain ⟨T1, X1, e1, st1⟩ := own_ldcM X0 hx hZ hown (Wd hw 333 rfl) e0 GMO (g := mkF m 1 #[vr a0d, vi (2 : Int32), vr mO, .unset] [(.ref mO)]) rfl (dG hby D50 1 rfl)
  obtain ⟨T2, h2, k2, X2, e2, E2, A2, A2', Ov2, st2⟩ := newRE X1 hx hZ hown (Wd hw 334 rfl) (Wd hw 84 rfl) e1 (g := mkF m 7 #[vr a0d, vi (2 : Int32), vr mO, .unset] [(.int 2)]) rfl (dG hby D50 4 rfl) rfl (by decide) (cap := 2) (by decide) (by decide) (by decide) (by decide) (ad := "[Ljava/lang/Object;") rfl
  obtain ⟨b2, g2⟩ : ∃ z, z = h0.size := ⟨_, rfl⟩
  rw [← g2] at A2 A2' st2
  have g_b2 : n0 ≤ b2 := lTr (own_sz O0) (lEq g2.symm)
  have sz_b2 : h0.size ≤ b2 := lTr (Keep.refl h0 []).1 (lEq g2.symm)
  have K2 : Keep h0 h2 [] := (Keep.refl h0 []).ext E2
  have O2 := O0.ext E2
  have V_b2 : Arv Z h2 b2 k2 (.object "java/lang/Object") (2 : Int32) [.null, .null] .null := (Arv.new A2 (by decide)).pad (pad_rep [] .null 2)
  obtain ⟨cl3, Ar3, -, S3, N3_, -, -⟩ := id ((V_a0d.ext E2))
  obtain ⟨_, _, ⟨T4, L4, k4, n4⟩, -, X4, ⟨Lc4, hQ4, l4, y4, z4⟩, st4⟩ := Jvm.LawKit.callS X2 hx (y := MN_7) hown (mvT hZ (Wd hw 243 rfl)) (mvT hZ (Wd hw 244 rfl)) (mvT hZ (Wd hw 81 rfl)) (mvT hZ (Wd hw 245 rfl)) (by decide) (backOf (W := 4) (rmMin l Z a0 hw [] cS aDE kDE aUS aSS aIE mO ((10 : Int32)) ((2 : Int32)) h2 n0 O2 GL (by decide)) hZ (Wd hw 245 rfl) (Wd hw 81 rfl) (by decide) (by decide)) (g := mkF m 32 #[vr a0d, vi (2 : Int32), vr mO, vr b2] [(.int 2), (.int 10), (.int 0), (.ref b2), (.int 0), (.ref a0d)]) rfl (by rw [hml]; rfl) (argsL := [(.int 10), (.int 2)]) (rest := [(.int 0), (.ref b2), (.int 0), (.ref a0d)]) (lenOf pdv12 rfl) rfl (by show 2 * 0 + _ ≤ _; exact lEq rfl) (dG hby D50 14 rfl) (fun _ _ => ⟨rfl, e2, (by decide : 1 + 0 ≤ _), (by decide : 2 + 0 ≤ _)⟩)
  dsimp only [Pt.U, Pt.locs, Pt.cells, Pt.slots] at X4 l4 y4 z4 st4 hQ4
  subst l4 y4 z4
  obtain ⟨rfl, N4q, e4⟩ := hQ4
  have N4 := Fr.app N0 N4q
  obtain ⟨cl5, Ar5, q5, -, -, -, -⟩ := id (V_b2)
  obtain ⟨T5, h5, L5, X5, e5, N5, Kc5, V5, st5⟩ := cpA X4 hx hZ hown (Wd hw 246 rfl) (Wd hw 199 rfl) (Wd hw 197 rfl) (Wd hw 198 rfl) e4 (V_a0d.ext E2) V_b2 (us := [(.ref ob0), (.ref ob1)]) (Or.inr ⟨rfl, rfl, ⟨(Sto.ofV Ar5 q5 Ov2 (Ins.of_exa (E_ob0.ext E2) (Wd hw 85 rfl))), ⟨(Sto.ofV Ar5 q5 Ov2 (Ins.of_exa (E_ob1.ext E2) (Wd hw 85 rfl))), trivial⟩⟩⟩) (by decide) (by decide) (by decide) (by decide) (by decide) rfl (by decide) N4 g_b2 (g := mkF m 35 #[vr a0d, vi (2 : Int32), vr mO, vr b2] [(.int 2), (.int 0), (.ref b2), (.int 0), (.ref a0d)]) rfl (by rw [hml]; rfl) rfl (dG hby D50 15 rfl) (by decide) (W := 0) (by show 2 * 0 + _ ≤ _; exact lEq rfl) (by decide)
  have V5' : Arv Z h5 b2 k2 (.object "java/lang/Object") (2 : Int32) [(.ref ob0), (.ref ob1)] .null := V5
  have K5 : Keep h0 h5 [] := K2.trans Kc5 (allS (Or.inr sz_b2) all0)
  have O5 := O2.keep Kc5 (allS g_b2 all0)
  obtain ⟨fs, hr, hrun, hended, hW, hsame⟩ := X5.leave (v := some (.ref b2)) (fun h => by rw [Bd.returns] at h; cases h)
  refine ⟨_, _, pre0 _ ?_, hrun, hended, _, _, rfl, ?_, ⟨_, rfl⟩, hW, hsame.mono (by decide) (by decide)⟩
  · show SP p e below s₁ m 0 #[vr a0d, vi (2 : Int32), vr mO, .unset] [] _
    refine XS.aloadN X0.here hx rfl (dG hby D50 0 rfl) rfl rfl ?_
    show SP p e below s₁ m 1 #[vr a0d, vi (2 : Int32), vr mO, .unset] [(.ref mO)] _
    refine st1 _ ?_
    show SP p e below T1 m 3 #[vr a0d, vi (2 : Int32), vr mO, .unset] [(.ref mO), (.ref mO)] _
    refine Jvm.RoadKit.acmp (g := mkF m 3 #[vr a0d, vi (2 : Int32), vr mO, .unset] [(.ref mO), (.ref mO)]) X1 hx rfl rfl rfl (pc0 := 3) (pc' := 6) (same := true) rfl (dG hby D50 2 rfl) rfl (decide_eq_true rfl) (by decide) (by decide) ?_
    show SP p e below T1 m 6 #[vr a0d, vi (2 : Int32), vr mO, .unset] [] _
    refine XS.iloadN X1.here hx rfl (dG hby D50 3 rfl) rfl ?_
    show SP p e below T1 m 7 #[vr a0d, vi (2 : Int32), vr mO, .unset] [(.int 2)] _
    refine st2 _ ?_
    show SP p e below T2 m 10 #[vr a0d, vi (2 : Int32), vr mO, .unset] [(.ref b2)] _
    refine XS.goto X2.here hx rfl (pc0 := 10) (pc' := 24) rfl (dG hby D50 5 rfl) (by decide) (by decide) ?_
    refine XS.astoreN X2.here hx rfl (dG hby D50 6 rfl) rfl rfl (l' := #[vr a0d, vi (2 : Int32), vr mO, vr b2]) rfl ?_
    refine XS.aloadN X2.here hx rfl (dG hby D50 7 rfl) rfl rfl ?_
    refine XS.iconst X2.here hx rfl (dG hby D50 8 rfl) ?_
    refine XS.aloadN X2.here hx rfl (dG hby D50 9 rfl) rfl rfl ?_
    refine XS.iconst X2.here hx rfl (dG hby D50 10 rfl) ?_
    refine XS.aloadN X2.here hx rfl (dG hby D50 11 rfl) rfl rfl ?_
    show SP p e below T2 m 30 #[vr a0d, vi (2 : Int32), vr mO, vr b2] [(.ref a0d), (.int 0), (.ref b2), (.int 0), (.ref a0d)] _
    refine X2.arraylength hx (by rw [e2]; exact Ar3.1) (State.isArrayOf_alike hZ.alike Ar3.2.1) (g := mkF m 30 #[vr a0d, vi (2 : Int32), vr mO, vr b2] [(.ref a0d), (.int 0), (.ref b2), (.int 0), (.ref a0d)]) rfl rfl (dG hby D50 12 rfl) _ ?_
    rw [len_of S3 N3_]
    show SP p e below T2 m 31 #[vr a0d, vi (2 : Int32), vr mO, vr b2] [(.int 10), (.int 0), (.ref b2), (.int 0), (.ref a0d)] _
    refine XS.iloadN X2.here hx rfl (dG hby D50 13 rfl) rfl ?_
    show SP p e below T2 m 32 #[vr a0d, vi (2 : Int32), vr mO, vr b2] [(.int 2), (.int 10), (.int 0), (.ref b2), (.int 0), (.ref a0d)] _
    refine st4 _ ?_
    show SP p e below T4 m 35 #[vr a0d, vi (2 : Int32), vr mO, vr b2] [(.int 2), (.int 0), (.ref b2), (.int 0), (.ref a0d)] _
    refine st5 _ ?_
    show SP p e below T5 m 38 #[vr a0d, vi (2 : Int32), vr mO, vr b2] [] _
    refine XS.aloadN X5.here hx rfl (dG hby D50 16 rfl) rfl rfl ?_
    show SP p e below T5 m 39 #[vr a0d, vi (2 : Int32), vr mO, vr b2] [(.ref b2)] _
    exact retA X5 hx Bd.returns rfl (dG hby D50 17 rfl) hr
  · show Q_rmC3_2 n0 Z cS aDE kDE aUS aSS aIE mO a0d ka ob0 ob1 h0 _ T5.heap _
    rw [e5]
    exact ⟨b2, k2, rfl, N5, K5, sz_b2, V5'⟩
theorem ef_rmC2o_2 (m : MethodId) (a0d : Addr) : entryFrame m #[(.ref a0d), (.int 2)] 2 = mkF m 0 #[vr a0d, vi (2 : Int32)] [] := by first | (simp [entryFrame, mkF, argsToLocals, Value.category]; done) | rfl
def Q_rmC2o_2 (n0 : Nat) (Z : State) (cS : Int32) (aDE : Addr) (kDE : ClassId) (aUS : Addr) (aSS : Addr) (aIE : Addr) (mO : Addr) (a0d : Addr) (ka : ClassId) (ob0 : Addr) (ob1 : Addr) (h0 : Heap) (v : Option Value) (h : Heap) (L : List Loc) : Prop := ∃ b : Addr, ∃ kb : ClassId, v = some (.ref b) ∧ Fr n0 L ∧ Keep h0 h [] ∧ (h0.size ≤ b) ∧ (Arv Z h b kb (.object "java/lang/Object") (2 : Int32) [(.ref ob0), (.ref ob1)] .null)
theorem rmC2o_2 (l : Launch) (Z : State) (a0 : Array Value) (hw : ∀ d ∈ tables_1, d.before a0 Z = true) (ws : List Jvm.Cond) (cS : Int32) (aDE : Addr) (kDE : ClassId) (aUS : Addr) (aSS : Addr) (aIE : Addr) (mO : Addr) (a0d : Addr) (ka : ClassId) (ob0 : Addr) (ob1 : Addr) (h0 : Heap) (n0 : Nat) (O0 : Old Z n0 h0) (GL : GF Z cS aDE kDE aUS aSS aIE mO) (E_a0d : Exa Z h0 a0d "[Ljava/lang/Object;") (V_a0d : Arv Z h0 a0d ka (.object "java/lang/Object") (10 : Int32) [(.ref ob0), (.ref ob1), .null, .null, .null, .null, .null, .null, .null, .null] .null) (E_ob0 : Exa Z h0 ob0 "com/example/grantline/grantline/PolicyException$Problem") (E_ob1 : Exa Z h0 ob1 "com/example/grantline/grantline/PolicyException$Problem") :
    MF l MN_47 jdk_65_method_119_code 2 (some (.array (.object "java/lang/Object"))) ws (Rm 2 1 2 33) #[(.ref a0d), (.int 2)] Z h0 (Q_rmC2o_2 n0 Z cS aDE kDE aUS aSS aIE mO a0d ka ob0 ob1 h0) := by
  refine MetFree.of_bodySF (plainFor_of_name pnv4) hisR ?_
  intro p e s m args below meth c s₁ Bd hml0 hP hK
  obtain ⟨rfl, hZ, hh⟩ := hP
  have hx := Bd.exec
  have hby := Bd.bytes
  have hml : c.maxLocals = 2 := hml0
  have hown : s.vm.findClass "java/util/Arrays" = some m.cls := findClass_of_methodNamed Bd.named
  have hnm := (name_of_methodNamed Bd.named Bd.method).1
  have X0 : Stand p l e (Rm 2 1 2 33) s m #[(.ref a0d), (.int 2)] below meth c s₁ [] 0 0 := Stand.of_body Bd
  have e0 : s₁.heap = h0 := by rw [← hh, Bd.state]; rfl
  have N0 := Fr.nil n0
  have pre0 : ∀ t, SP p e below s₁ m 0 #[vr a0d, vi (2 : Int32)] [] t → Steps p.tables e below (s₁.setTop (entryFrame m #[(.ref a0d), (.int 2)] 2)) t := fun t k => castTop (ef_rmC2o_2 m a0d) k
  have GL' := GL
  obtain ⟨GCS, GCP, GDE, GVE, GUS, GSS, GIE, GMO⟩ := GL'
  obtain ⟨T1, X1, e1, st1⟩ := gcls X0 hx hZ hown (Wd hw 324 rfl) (Wd hw 325 rfl) (Wd hw 306 rfl) (Wd hw 327 rfl) (Wd hw 326 rfl) (Wd hw 328 rfl) e0 E_a0d GMO (g := mkF m 3 #[vr a0d, vi (2 : Int32)] [(.ref a0d), (.int 2), (.ref a0d)]) rfl (by rw [hml]; rfl) rfl (dG hby D49 3 rfl) (by decide) (W := 2) (by show 2 * 0 + _ ≤ _; exact lEq rfl) (by decide)
  obtain ⟨_, _, ⟨T2, L2, k2, n2⟩, -, X2, ⟨Lc2, hQ2, l2, y2, z2⟩, st2⟩ := Jvm.LawKit.callS X1 hx (y := MN_46) hown (mvT hZ (Wd hw 330 rfl)) (mvT hZ (Wd hw 331 rfl)) (mvT hZ (Wd hw 235 rfl)) (mvT hZ (Wd hw 332 rfl)) (by decide) (backOf (W := 0) (rmC3_2 l Z a0 hw [] cS aDE kDE aUS aSS aIE mO a0d ka ob0 ob1 h0 n0 O0 GL E_a0d V_a0d E_ob0 E_ob1) hZ (Wd hw 332 rfl) (Wd hw 235 rfl) (by decide) (by decide)) (g := mkF m 6 #[vr a0d, vi (2 : Int32)] [(.ref mO), (.int 2), (.ref a0d)]) rfl (by rw [hml]; rfl) (argsL := [(.ref a0d), (.int 2), (.ref mO)]) (rest := []) (lenOf pdv26 rfl) rfl (by show 2 * 0 + _ ≤ _; exact lEq rfl) (dG hby D49 4 rfl) (fun _ _ => ⟨rfl, e1, (by decide : 0 + 1 ≤ _), (by decide : 0 + 2 ≤ _)⟩)
  dsimp only [Pt.U, Pt.locs, Pt.cells, Pt.slots] at X2 l2 y2 z2 st2 hQ2
  subst l2 y2 z2
  obtain ⟨b_2, kb_2, rfl, N2q, Kc2, P2_0, P2_1⟩ := hQ2
  have K2 : Keep h0 T2.heap [] := (Keep.refl h0 []).trans Kc2 all0
  have O2 := O0.keep Kc2 all0
  have g_b_2 : n0 ≤ b_2 := lTr (own_sz O0) P2_0
  have sz_b_2 : h0.size ≤ b_2 := lTr (Keep.refl h0 []).1 P2_0
  have N2 := Fr.app N0 N2q
  obtain ⟨fs, hr, hrun, hended, hW, hsame⟩ := X2.leave (v := some (.ref b_2)) (fun h => by rw [Bd.returns] at h; cases h)
  refine ⟨_, _, pre0 _ ?_, hrun, hended, _, _, rfl, ?_, ⟨_, rfl⟩, hW, hsame.mono (by decide) (by decide)⟩
  · show SP p e below s₁ m 0 #[vr a0d, vi (2 : Int32)] [] _
    refine XS.aloadN X0.here hx rfl (dG hby D49 0 rfl) rfl rfl ?_
    refine XS.iloadN X0.here hx rfl (dG hby D49 1 rfl) rfl ?_
    refine XS.aloadN X0.here hx rfl (dG hby D49 2 rfl) rfl rfl ?_
    show SP p e below s₁ m 3 #[vr a0d, vi (2 : Int32)] [(.ref a0d), (.int 2), (.ref a0d)] _
    refine st1 _ ?_
    show SP p e below T1 m 6 #[vr a0d, vi (2 : Int32)] [(.ref mO), (.int 2), (.ref a0d)] _
    refine st2 _ ?_
    show SP p e below T2 m 9 #[vr a0d, vi (2 : Int32)] [(.ref b_2)] _
    exact retA X2 hx Bd.returns rfl (dG hby D49 5 rfl) hr
  · show Q_rmC2o_2 n0 Z cS aDE kDE aUS aSS aIE mO a0d ka ob0 ob1 h0 _ T2.heap _
    exact ⟨b_2, kb_2, rfl, N2, K2, sz_b_2, P2_1⟩
def Q_rmTa_2 (n0 : Nat) (Z : State) (cS : Int32) (aDE : Addr) (kDE : ClassId) (aUS : Addr) (aSS : Addr) (aIE : Addr) (mO : Addr) (a0l : Addr) (ae : Addr) (ka : ClassId) (ob0 : Addr) (ob1 : Addr) (h0 : Heap) (v : Option Value) (h : Heap) (L : List Loc) : Prop := ∃ b : Addr, ∃ kb : ClassId, v = some (.ref b) ∧ Fr n0 L ∧ Keep h0 h [] ∧ (h0.size ≤ b) ∧ (Arv Z h b kb (.object "java/lang/Object") (2 : Int32) [(.ref ob0), (.ref ob1)] .null)
theorem rmTa_2 (l : Launch) (Z : State) (a0 : Array Value) (hw : ∀ d ∈ tables_1, d.before a0 Z = true) (ws : List Jvm.Cond) (cS : Int32) (aDE : Addr) (kDE : ClassId) (aUS : Addr) (aSS : Addr) (aIE : Addr) (mO : Addr) (a0l : Addr) (ae : Addr) (ka : ClassId) (ob0 : Addr) (ob1 : Addr) (h0 : Heap) (n0 : Nat) (O0 : Old Z n0 h0) (GL : GF Z cS aDE kDE aUS aSS aIE mO) (E_a0l : Exa Z h0 a0l "java/util/ArrayList") (F_elementData_a0l : Fld Z h0 a0l "java/util/ArrayList" "elementData" "[Ljava/lang/Object;" (.ref ae)) (F_size_a0l : Fld Z h0 a0l "java/util/ArrayList" "size" "I" (.int 2)) (E_ae : Exa Z h0 ae "[Ljava/lang/Object;") (V_ae : Arv Z h0 ae ka (.object "java/lang/Object") (10 : Int32) [(.ref ob0), (.ref ob1), .null, .null, .null, .null, .null, .null, .null, .null] .null) (E_ob0 : Exa Z h0 ob0 "com/example/grantline/grantline/PolicyException$Problem") (E_ob1 : Exa Z h0 ob1 "com/example/grantline/grantline/PolicyException$Problem") :
    MF l MN_48 jdk_38_method_16_code 1 (some (.array (.object "java/lang/Object"))) ws (Rm 3 1 2 46) #[(.ref a0l)] Z h0 (Q_rmTa_2 n0 Z cS aDE kDE aUS aSS aIE mO a0l ae ka ob0 ob1 h0) := by
  refine MetFree.of_bodySF (plainFor_of_name pnv9) hisR ?_
  intro p e s m args below meth c s₁ Bd hml0 hP hK
  obtain ⟨rfl, hZ, hh⟩ := hP
  have hx := Bd.exec
  have hby := Bd.bytes
  have hml : c.maxLocals = 1 := hml0
  have hown : s.vm.findClass "java/util/ArrayList" = some m.cls := findClass_of_methodNamed Bd.named
  have hnm := (name_of_methodNamed Bd.named Bd.method).1
  have X0 : Stand p l e (Rm 3 1 2 46) s m #[(.ref a0l)] below meth c s₁ [] 0 0 := Stand.of_body Bd
  have e0 : s₁.heap = h0 := by rw [← hh, Bd.state]; rfl
  have N0 := Fr.nil n0
  have pre0 : ∀ t, SP p e below s₁ m 0 #[vr a0l] [] t → Steps p.tables e below (s₁.setTop (entryFrame m #[(.ref a0l)] 1)) t := fun t k => castTop (ef_rmAbc m a0l) k
  have GL' := GL
  obtain ⟨GCS, GCP, GDE, GVE, GUS, GSS, GIE, GMO⟩ := GL'
  obtain ⟨T1, X1, e1, st1⟩ := getF X0 hx hZ hown (host := "") (Or.inl (Wd hw 37 rfl)) Via.refl e0 F_elementData_a0l (g := mkF m 1 #[vr a0l] [(.ref a0l)]) rfl rfl (dG hby D48 1 rfl)
  obtain ⟨T2, X2, e2, st2⟩ := getF X1 hx hZ hown (host := "") (Or.inl (Wd hw 62 rfl)) Via.refl e1 F_size_a0l (g := mkF m 5 #[vr a0l] [(.ref a0l), (.ref ae)]) rfl rfl (dG hby D48 3 rfl)
  obtain ⟨_, _, ⟨T3, L3, k3, n3⟩, -, X3, ⟨Lc3, hQ3, l3, y3, z3⟩, st3⟩ := Jvm.LawKit.callS X2 hx (y := MN_47) hown (mvT hZ (Wd hw 321 rfl)) (mvT hZ (Wd hw 322 rfl)) (mvT hZ (Wd hw 235 rfl)) (mvT hZ (Wd hw 323 rfl)) (by decide) (backOf (W := 0) (rmC2o_2 l Z a0 hw [] cS aDE kDE aUS aSS aIE mO ae ka ob0 ob1 h0 n0 O0 GL E_ae V_ae E_ob0 E_ob1) hZ (Wd hw 323 rfl) (Wd hw 235 rfl) (by decide) (by decide)) (g := mkF m 8 #[vr a0l] [(.int 2), (.ref ae)]) rfl (by rw [hml]; rfl) (argsL := [(.ref ae), (.int 2)]) (rest := []) (lenOf pdv27 rfl) rfl (by show 2 * 0 + _ ≤ _; exact lEq rfl) (dG hby D48 4 rfl) (fun _ _ => ⟨rfl, e2, (by decide : 0 + 1 ≤ _), (by decide : 0 + 2 ≤ _)⟩)
  dsimp only [Pt.U, Pt.locs, Pt.cells, Pt.slots] at X3 l3 y3 z3 st3 hQ3
  subst l3 y3 z3
  obtain ⟨b_3, kb_3, rfl, N3q, Kc3, P3_0, P3_1⟩ := hQ3
  have K3 : Keep h0 T3.heap [] := (Keep.refl h0 []).trans Kc3 all0
  have O3 := O0.keep Kc3 all0
  have g_b_3 : n0 ≤ b_3 := lTr (own_sz O0) P3_0
  have sz_b_3 : h0.size ≤ b_3 := lTr (Keep.refl h0 []).1 P3_0
  have N3 := Fr.app N0 N3q
  obtain ⟨fs, hr, hrun, hended, hW, hsame⟩ := X3.leave (v := some (.ref b_3)) (fun h => by rw [Bd.returns] at h; cases h)
  refine ⟨_, _, pre0 _ ?_, hrun, hended, _, _, rfl, ?_, ⟨_, rfl⟩, hW, hsame.mono (by decide) (by decide)⟩
  · show SP p e below s₁ m 0 #[vr a0l] [] _
    refine XS.aloadN X0.here hx rfl (dG hby D48 0 rfl) rfl rfl ?_
    show SP p e below s₁ m 1 #[vr a0l] [(.ref a0l)] _
    refine st1 _ ?_
    show SP p e below T1 m 4 #[vr a0l] [(.ref ae)] _
    refine XS.aloadN X1.here hx rfl (dG hby D48 2 rfl) rfl rfl ?_
    show SP p e below T1 m 5 #[vr a0l] [(.ref a0l), (.ref ae)] _
    refine st2 _ ?_
    show SP p e below T2 m 8 #[vr a0l] [(.int 2), (.ref ae)] _
    refine st3 _ ?_
    show SP p e below T3 m 11 #[vr a0l] [(.ref b_3)] _
    exact retA X3 hx Bd.returns rfl (dG hby D48 5 rfl) hr
  · show Q_rmTa_2 n0 Z cS aDE kDE aUS aSS aIE mO a0l ae ka ob0 ob1 h0 _ T3.heap _
    exact ⟨b_3, kb_3, rfl, N3, K3, sz_b_3, P3_1⟩
theorem ef_rmC3_3 (m : MethodId) (a0d : Addr) : entryFrame m #[(.ref a0d), (.int 3), (.ref mO)] 4 = mkF m 0 #[vr a0d, vi (3 : Int32), vr mO, .unset] [] := by first | (simp [entryFrame, mkF, argsToLocals, Value.category]; done) | rfl
def Q_rmC3_3 (n0 : Nat) (Z : State) (cS : Int32) (aDE : Addr) (kDE : ClassId) (aUS : Addr) (aSS : Addr) (aIE : Addr) (mO : Addr) (a0d : Addr) (ka : ClassId) (ob0 : Addr) (ob1 : Addr) (ob2 : Addr) (h0 : Heap) (v : Option Value) (h : Heap) (L : List Loc) : Prop := ∃ b : Addr, ∃ kb : ClassId, v = some (.ref b) ∧ Fr n0 L ∧ Keep h0 h [] ∧ (h0.size ≤ b) ∧ (Arv Z h b kb (.object "java/lang/Object") (3 : Int32) [(.ref ob0), (.ref ob1), (.ref ob2)] .null)
theorem rmC3_3 (l : Launch) (Z : State) (a0 : Array Value) (hw : ∀ d ∈ tables_1, d.before a0 Z = true) (ws : List Jvm.Cond) (cS : Int32) (aDE : Addr) (kDE : ClassId) (aUS : Addr) (aSS : Addr) (aIE : Addr) (mO : Addr) (a0d : Addr) (ka : ClassId) (ob0 : Addr) (ob1 : Addr) (ob2 : Addr) (h0 : Heap) (n0 : Nat) (O0 : Old Z n0 h0) (GL : GF Z cS aDE kDE aUS aSS aIE mO) (E_a0d : Exa Z h0 a0d "[Ljava/lang/Object;") (V_a0d : Arv Z h0 a0d ka (.object "java/lang/Object") (10 : Int32) [(.ref ob0), (.ref ob1), (.ref ob2), .null, .null, .null, .null, .null, .null, .null] .null) (E_ob0 : Exa Z h0 ob0 "com/example/grantline/grantline/PolicyException$Problem") (E_ob1 : Exa Z h0 ob1 "com/example/grantline/grantline/PolicyException$Problem") (E_ob2 : Exa Z h0 ob2 "com/example/grantline/grantline/PolicyException$Problem") :
    MF l MN_46 jdk_65_method_120_code 4 (some (.array (.object "java/lang/Object"))) ws (Rm 1 1 3 18) #[(.ref a0d), (.int 3), (.ref mO)] Z h0 (Q_rmC3_3 n0 Z cS aDE kDE aUS aSS aIE mO a0d ka ob0 ob1 ob2 h0) := by
  refine MetFree.of_bodySF (plainFor_of_name pnv4) hisR ?_
  intro p e s m args below meth c s₁ Bd hml0 hP hK
  obtain ⟨rfl, hZ, hh⟩ := hP
  have hx := Bd.exec
  have hby := Bd.bytes
  have hml : c.maxLocals = 4 := hml0
  have hown : s.vm.findClass "java/util/Arrays" = some m.cls := findClass_of_methodNamed Bd.named
  have hnm := (name_of_methodNamed Bd.named Bd.method).1
  have X0 : Stand p l e (Rm 1 1 3 18) s m #[(.ref a0d), (.int 3), (.ref mO)] below meth c s₁ [] 0 0 := Stand.of_body Bd
  have e0 : s₁.heap = h0 := by rw [← hh, Bd.state]; rfl
  have N0 := Fr.nil n0
  have pre0 : ∀ t, SP p e below s₁ m 0 #[vr a0d, vi (3 : Int32), vr mO, .unset] [] t → Steps p.tables e below (s₁.setTop (entryFrame m #[(.ref a0d), (.int 3), (.ref mO)] 4)) t := fun t k => castTop (ef_rmC3_3 m a0d) k
  have GL' := GL
  obtain ⟨GCS, GCP, GDE, GVE, GUS, GSS, GIE, GMO⟩ := GL'
  obtain ⟨T1, X1, e1, st1⟩ := own_ldcM X0 hx hZ hown (Wd hw 333 rfl) e0 GMO (g := mkF m 1 #[vr a0d, vi (3 : Int32), vr mO, .unset] [(.ref mO)]) rfl (dG hby D50 1 rfl)
  obtain ⟨T2, h2, k2, X2, e2, E2, A2, A2', Ov2, st2⟩ := newRE X1 hx hZ hown (Wd hw 334 rfl) (Wd hw 84 rfl) e1 (g := mkF m 7 #[vr a0d, vi (3 : Int32), vr mO, .unset] [(.int 3)]) rfl (dG hby D50 4 rfl) rfl (by decide) (cap := 3) (by decide) (by decide) (by decide) (by decide) (ad := "[Ljava/lang/Object;") rfl
  obtain ⟨b2, g2⟩ : ∃ z, z = h0.size := ⟨_, rfl⟩
  rw [← g2] at A2 A2' st2
  have g_b2 : n0 ≤ b2 := lTr (own_sz O0) (lEq g2.symm)
  have sz_b2 : h0.size ≤ b2 := lTr (Keep.refl h0 []).1 (lEq g2.symm)
  have K2 : Keep h0 h2 [] := (Keep.refl h0 []).ext E2
  have O2 := O0.ext E2
  have V_b2 : Arv Z h2 b2 k2 (.object "java/lang/Object") (3 : Int32) [.null, .null, .null] .null := (Arv.new A2 (by decide)).pad (pad_rep [] .null 3)
  obtain ⟨cl3, Ar3, -, S3, N3_, -, -⟩ := id ((V_a0d.ext E2))
  obtain ⟨_, _, ⟨T4, L4, k4, n4⟩, -, X4, ⟨Lc4, hQ4, l4, y4, z4⟩, st4⟩ := Jvm.LawKit.callS X2 hx (y := MN_7) hown (mvT hZ (Wd hw 243 rfl)) (mvT hZ (Wd hw 244 rfl)) (mvT hZ (Wd hw 81 rfl)) (mvT hZ (Wd hw 245 rfl)) (by decide) (backOf (W := 4) (rmMin l Z a0 hw [] cS aDE kDE aUS aSS aIE mO ((10 : Int32)) ((3 : Int32)) h2 n0 O2 GL (by decide)) hZ (Wd hw 245 rfl) (Wd hw 81 rfl) (by decide) (by decide)) (g := mkF m 32 #[vr a0d, vi (3 : Int32), vr mO, vr b2] [(.int 3), (.int 10), (.int 0), (.ref b2), (.int 0), (.ref a0d)]) rfl (by rw [hml]; rfl) (argsL := [(.int 10), (.int 3)]) (rest := [(.int 0), (.ref b2), (.int 0), (.ref a0d)]) (lenOf pdv12 rfl) rfl (by show 2 * 0 + _ ≤ _; exact lEq rfl) (dG hby D50 14 rfl) (fun _ _ => ⟨rfl, e2, (by decide : 1 + 0 ≤ _), (by decide : 3 + 0 ≤ _)⟩)
  dsimp only [Pt.U, Pt.locs, Pt.cells, Pt.slots] at X4 l4 y4 z4 st4 hQ4
  subst l4 y4 z4
  obtain ⟨rfl, N4q, e4⟩ := hQ4
  have N4 := Fr.app N0 N4q
  obtain ⟨cl5, Ar5, q5, -, -, -, -⟩ := id (V_b2)
  obtain ⟨T5, h5, L5, X5, e5, N5, Kc5, V5, st5⟩ := cpA X4 hx hZ hown (Wd hw 246 rfl) (Wd hw 199 rfl) (Wd hw 197 rfl) (Wd hw 198 rfl) e4 (V_a0d.ext E2) V_b2 (us := [(.ref ob0), (.ref ob1), (.ref ob2)]) (Or.inr ⟨rfl, rfl, ⟨(Sto.ofV Ar5 q5 Ov2 (Ins.of_exa (E_ob0.ext E2) (Wd hw 85 rfl))), ⟨(Sto.ofV Ar5 q5 Ov2 (Ins.of_exa (E_ob1.ext E2) (Wd hw 85 rfl))), ⟨(Sto.ofV Ar5 q5 Ov2 (Ins.of_exa (E_ob2.ext E2) (Wd hw 85 rfl))), trivial⟩⟩⟩⟩) (by decide) (by decide) (by decide) (by decide) (by decide) rfl (by decide) N4 g_b2 (g := mkF m 35 #[vr a0d, vi (3 : Int32), vr mO, vr b2] [(.int 3), (.int 0), (.ref b2), (.int 0), (.ref a0d)]) rfl (by rw [hml]; rfl) rfl (dG hby D50 15 rfl) (by decide) (W := 0) (by show 2 * 0 + _ ≤ _; exact lEq rfl) (by decide)
  have V5' : Arv Z h5 b2 k2 (.object "java/lang/Object") (3 : Int32) [(.ref ob0), (.ref ob1), (.ref ob2)] .null := V5
  have K5 : Keep h0 h5 [] := K2.trans Kc5 (allS (Or.inr sz_b2) all0)
  have O5 := O2.keep Kc5 (allS g_b2 all0)
  obtain ⟨fs, hr, hrun, hended, hW, hsame⟩ := X5.leave (v := some (.ref b2)) (fun h => by rw [Bd.returns] at h; cases h)
  refine ⟨_, _, pre0 _ ?_, hrun, hended, _, _, rfl, ?_, ⟨_, rfl⟩, hW, hsame.mono (by decide) (by decide)⟩
  · show SP p e below s₁ m 0 #[vr a0d, vi (3 : Int32), vr mO, .unset] [] _
    refine XS.aloadN X0.here hx rfl (dG hby D50 0 rfl) rfl rfl ?_
    show SP p e below s₁ m 1 #[vr a0d, vi (3 : Int32), vr mO, .unset] [(.ref mO)] _
    refine st1 _ ?_
    show SP p e below T1 m 3 #[vr a0d, vi (3 : Int32), vr mO, .unset] [(.ref mO), (.ref mO)] _
    refine Jvm.RoadKit.acmp (g := mkF m 3 #[vr a0d, vi (3 : Int32), vr mO, .unset] [(.ref mO), (.ref mO)]) X1 hx rfl rfl rfl (pc0 := 3) (pc' := 6) (same := true) rfl (dG hby D50 2 rfl) rfl (decide_eq_true rfl) (by decide) (by decide) ?_
    show SP p e below T1 m 6 #[vr a0d, vi (3 : Int32), vr mO, .unset] [] _
    refine XS.iloadN X1.here hx rfl (dG hby D50 3 rfl) rfl ?_
    show SP p e below T1 m 7 #[vr a0d, vi (3 : Int32), vr mO, .unset] [(.int 3)] _
    refine st2 _ ?_
    show SP p e below T2 m 10 #[vr a0d, vi (3 : Int32), vr mO, .unset] [(.ref b2)] _
    refine XS.goto X2.here hx rfl (pc0 := 10) (pc' := 24) rfl (dG hby D50 5 rfl) (by decide) (by decide) ?_
    refine XS.astoreN X2.here hx rfl (dG hby D50 6 rfl) rfl rfl (l' := #[vr a0d, vi (3 : Int32), vr mO, vr b2]) rfl ?_
    refine XS.aloadN X2.here hx rfl (dG hby D50 7 rfl) rfl rfl ?_
    refine XS.iconst X2.here hx rfl (dG hby D50 8 rfl) ?_
    refine XS.aloadN X2.here hx rfl (dG hby D50 9 rfl) rfl rfl ?_
    refine XS.iconst X2.here hx rfl (dG hby D50 10 rfl) ?_
    refine XS.aloadN X2.here hx rfl (dG hby D50 11 rfl) rfl rfl ?_
    show SP p e below T2 m 30 #[vr a0d, vi (3 : Int32), vr mO, vr b2] [(.ref a0d), (.int 0), (.ref b2), (.int 0), (.ref a0d)] _
    refine X2.arraylength hx (by rw [e2]; exact Ar3.1) (State.isArrayOf_alike hZ.alike Ar3.2.1) (g := mkF m 30 #[vr a0d, vi (3 : Int32), vr mO, vr b2] [(.ref a0d), (.int 0), (.ref b2), (.int 0), (.ref a0d)]) rfl rfl (dG hby D50 12 rfl) _ ?_
    rw [len_of S3 N3_]
    show SP p e below T2 m 31 #[vr a0d, vi (3 : Int32), vr mO, vr b2] [(.int 10), (.int 0), (.ref b2), (.int 0), (.ref a0d)] _
    refine XS.iloadN X2.here hx rfl (dG hby D50 13 rfl) rfl ?_
    show SP p e below T2 m 32 #[vr a0d, vi (3 : Int32), vr mO, vr b2] [(.int 3), (.int 10), (.int 0), (.ref b2), (.int 0), (.ref a0d)] _
    refine st4 _ ?_
    show SP p e below T4 m 35 #[vr a0d, vi (3 : Int32), vr mO, vr b2] [(.int 3), (.int 0), (.ref b2), (.int 0), (.ref a0d)] _
    refine st5 _ ?_
    show SP p e below T5 m 38 #[vr a0d, vi (3 : Int32), vr mO, vr b2] [] _
    refine XS.aloadN X5.here hx rfl (dG hby D50 16 rfl) rfl rfl ?_
    show SP p e below T5 m 39 #[vr a0d, vi (3 : Int32), vr mO, vr b2] [(.ref b2)] _
    exact retA X5 hx Bd.returns rfl (dG hby D50 17 rfl) hr
  · show Q_rmC3_3 n0 Z cS aDE kDE aUS aSS aIE mO a0d ka ob0 ob1 ob2 h0 _ T5.heap _
    rw [e5]
    exact ⟨b2, k2, rfl, N5, K5, sz_b2, V5'⟩
theorem ef_rmC2o_3 (m : MethodId) (a0d : Addr) : entryFrame m #[(.ref a0d), (.int 3)] 2 = mkF m 0 #[vr a0d, vi (3 : Int32)] [] := by first | (simp [entryFrame, mkF, argsToLocals, Value.category]; done) | rfl
def Q_rmC2o_3 (n0 : Nat) (Z : State) (cS : Int32) (aDE : Addr) (kDE : ClassId) (aUS : Addr) (aSS : Addr) (aIE : Addr) (mO : Addr) (a0d : Addr) (ka : ClassId) (ob0 : Addr) (ob1 : Addr) (ob2 : Addr) (h0 : Heap) (v : Option Value) (h : Heap) (L : List Loc) : Prop := ∃ b : Addr, ∃ kb : ClassId, v = some (.ref b) ∧ Fr n0 L ∧ Keep h0 h [] ∧ (h0.size ≤ b) ∧ (Arv Z h b kb (.object "java/lang/Object") (3 : Int32) [(.ref ob0), (.ref ob1), (.ref ob2)] .null)
theorem rmC2o_3 (l : Launch) (Z : State) (a0 : Array Value) (hw : ∀ d ∈ tables_1, d.before a0 Z = true) (ws : List Jvm.Cond) (cS : Int32) (aDE : Addr) (kDE : ClassId) (aUS : Addr) (aSS : Addr) (aIE : Addr) (mO : Addr) (a0d : Addr) (ka : ClassId) (ob0 : Addr) (ob1 : Addr) (ob2 : Addr) (h0 : Heap) (n0 : Nat) (O0 : Old Z n0 h0) (GL : GF Z cS aDE kDE aUS aSS aIE mO) (E_a0d : Exa Z h0 a0d "[Ljava/lang/Object;") (V_a0d : Arv Z h0 a0d ka (.object "java/lang/Object") (10 : Int32) [(.ref ob0), (.ref ob1), (.ref ob2), .null, .null, .null, .null, .null, .null, .null] .null) (E_ob0 : Exa Z h0 ob0 "com/example/grantline/grantline/PolicyException$Problem") (E_ob1 : Exa Z h0 ob1 "com/example/grantline/grantline/PolicyException$Problem") (E_ob2 : Exa Z h0 ob2 "com/example/grantline/grantline/PolicyException$Problem") :
    MF l MN_47 jdk_65_method_119_code 2 (some (.array (.object "java/lang/Object"))) ws (Rm 2 1 3 33) #[(.ref a0d), (.int 3)] Z h0 (Q_rmC2o_3 n0 Z cS aDE kDE aUS aSS aIE mO a0d ka ob0 ob1 ob2 h0) := by
  refine MetFree.of_bodySF (plainFor_of_name pnv4) hisR ?_
  intro p e s m args below meth c s₁ Bd hml0 hP hK
  obtain ⟨rfl, hZ, hh⟩ := hP
  have hx := Bd.exec
  have hby := Bd.bytes
  have hml : c.maxLocals = 2 := hml0
  have hown : s.vm.findClass "java/util/Arrays" = some m.cls := findClass_of_methodNamed Bd.named
  have hnm := (name_of_methodNamed Bd.named Bd.method).1
  have X0 : Stand p l e (Rm 2 1 3 33) s m #[(.ref a0d), (.int 3)] below meth c s₁ [] 0 0 := Stand.of_body Bd
  have e0 : s₁.heap = h0 := by rw [← hh, Bd.state]; rfl
  have N0 := Fr.nil n0
  have pre0 : ∀ t, SP p e below s₁ m 0 #[vr a0d, vi (3 : Int32)] [] t → Steps p.tables e below (s₁.setTop (entryFrame m #[(.ref a0d), (.int 3)] 2)) t := fun t k => castTop (ef_rmC2o_3 m a0d) k
  have GL' := GL
  obtain ⟨GCS, GCP, GDE, GVE, GUS, GSS, GIE, GMO⟩ := GL'
  obtain ⟨T1, X1, e1, st1⟩ := gcls X0 hx hZ hown (Wd hw 324 rfl) (Wd hw 325 rfl) (Wd hw 306 rfl) (Wd hw 327 rfl) (Wd hw 326 rfl) (Wd hw 328 rfl) e0 E_a0d GMO (g := mkF m 3 #[vr a0d, vi (3 : Int32)] [(.ref a0d), (.int 3), (.ref a0d)]) rfl (by rw [hml]; rfl) rfl (dG hby D49 3 rfl) (by decide) (W := 2) (by show 2 * 0 + _ ≤ _; exact lEq rfl) (by decide)
  obtain ⟨_, _, ⟨T2, L2, k2, n2⟩, -, X2, ⟨Lc2, hQ2, l2, y2, z2⟩, st2⟩ := Jvm.LawKit.callS X1 hx (y := MN_46) hown (mvT hZ (Wd hw 330 rfl)) (mvT hZ (Wd hw 331 rfl)) (mvT hZ (Wd hw 235 rfl)) (mvT hZ (Wd hw 332 rfl)) (by decide) (backOf (W := 0) (rmC3_3 l Z a0 hw [] cS aDE kDE aUS aSS aIE mO a0d ka ob0 ob1 ob2 h0 n0 O0 GL E_a0d V_a0d E_ob0 E_ob1 E_ob2) hZ (Wd hw 332 rfl) (Wd hw 235 rfl) (by decide) (by decide)) (g := mkF m 6 #[vr a0d, vi (3 : Int32)] [(.ref mO), (.int 3), (.ref a0d)]) rfl (by rw [hml]; rfl) (argsL := [(.ref a0d), (.int 3), (.ref mO)]) (rest := []) (lenOf pdv26 rfl) rfl (by show 2 * 0 + _ ≤ _; exact lEq rfl) (dG hby D49 4 rfl) (fun _ _ => ⟨rfl, e1, (by decide : 0 + 1 ≤ _), (by decide : 0 + 3 ≤ _)⟩)
  dsimp only [Pt.U, Pt.locs, Pt.cells, Pt.slots] at X2 l2 y2 z2 st2 hQ2
  subst l2 y2 z2
  obtain ⟨b_2, kb_2, rfl, N2q, Kc2, P2_0, P2_1⟩ := hQ2
  have K2 : Keep h0 T2.heap [] := (Keep.refl h0 []).trans Kc2 all0
  have O2 := O0.keep Kc2 all0
  have g_b_2 : n0 ≤ b_2 := lTr (own_sz O0) P2_0
  have sz_b_2 : h0.size ≤ b_2 := lTr (Keep.refl h0 []).1 P2_0
  have N2 := Fr.app N0 N2q
  obtain ⟨fs, hr, hrun, hended, hW, hsame⟩ := X2.leave (v := some (.ref b_2)) (fun h => by rw [Bd.returns] at h; cases h)
  refine ⟨_, _, pre0 _ ?_, hrun, hended, _, _, rfl, ?_, ⟨_, rfl⟩, hW, hsame.mono (by decide) (by decide)⟩
  · show SP p e below s₁ m 0 #[vr a0d, vi (3 : Int32)] [] _
    refine XS.aloadN X0.here hx rfl (dG hby D49 0 rfl) rfl rfl ?_
    refine XS.iloadN X0.here hx rfl (dG hby D49 1 rfl) rfl ?_
    refine XS.aloadN X0.here hx rfl (dG hby D49 2 rfl) rfl rfl ?_
    show SP p e below s₁ m 3 #[vr a0d, vi (3 : Int32)] [(.ref a0d), (.int 3), (.ref a0d)] _
    refine st1 _ ?_
    show SP p e below T1 m 6 #[vr a0d, vi (3 : Int32)] [(.ref mO), (.int 3), (.ref a0d)] _
    refine st2 _ ?_
    show SP p e below T2 m 9 #[vr a0d, vi (3 : Int32)] [(.ref b_2)] _
    exact retA X2 hx Bd.returns rfl (dG hby D49 5 rfl) hr
  · show Q_rmC2o_3 n0 Z cS aDE kDE aUS aSS aIE mO a0d ka ob0 ob1 ob2 h0 _ T2.heap _
    exact ⟨b_2, kb_2, rfl, N2, K2, sz_b_2, P2_1⟩
def Q_rmTa_3 (n0 : Nat) (Z : State) (cS : Int32) (aDE : Addr) (kDE : ClassId) (aUS : Addr) (aSS : Addr) (aIE : Addr) (mO : Addr) (a0l : Addr) (ae : Addr) (ka : ClassId) (ob0 : Addr) (ob1 : Addr) (ob2 : Addr) (h0 : Heap) (v : Option Value) (h : Heap) (L : List Loc) : Prop := ∃ b : Addr, ∃ kb : ClassId, v = some (.ref b) ∧ Fr n0 L ∧ Keep h0 h [] ∧ (h0.size ≤ b) ∧ (Arv Z h b kb (.object "java/lang/Object") (3 : Int32) [(.ref ob0), (.ref ob1), (.ref ob2)] .null)
theorem rmTa_3 (l : Launch) (Z : State) (a0 : Array Value) (hw : ∀ d ∈ tables_1, d.before a0 Z = true) (ws : List Jvm.Cond) (cS : Int32) (aDE : Addr) (kDE : ClassId) (aUS : Addr) (aSS : Addr) (aIE : Addr) (mO : Addr) (a0l : Addr) (ae : Addr) (ka : ClassId) (ob0 : Addr) (ob1 : Addr) (ob2 : Addr) (h0 : Heap) (n0 : Nat) (O0 : Old Z n0 h0) (GL : GF Z cS aDE kDE aUS aSS aIE mO) (E_a0l : Exa Z h0 a0l "java/util/ArrayList") (F_elementData_a0l : Fld Z h0 a0l "java/util/ArrayList" "elementData" "[Ljava/lang/Object;" (.ref ae)) (F_size_a0l : Fld Z h0 a0l "java/util/ArrayList" "size" "I" (.int 3)) (E_ae : Exa Z h0 ae "[Ljava/lang/Object;") (V_ae : Arv Z h0 ae ka (.object "java/lang/Object") (10 : Int32) [(.ref ob0), (.ref ob1), (.ref ob2), .null, .null, .null, .null, .null, .null, .null] .null) (E_ob0 : Exa Z h0 ob0 "com/example/grantline/grantline/PolicyException$Problem") (E_ob1 : Exa Z h0 ob1 "com/example/grantline/grantline/PolicyException$Problem") (E_ob2 : Exa Z h0 ob2 "com/example/grantline/grantline/PolicyException$Problem") :
    MF l MN_48 jdk_38_method_16_code 1 (some (.array (.object "java/lang/Object"))) ws (Rm 3 1 3 46) #[(.ref a0l)] Z h0 (Q_rmTa_3 n0 Z cS aDE kDE aUS aSS aIE mO a0l ae ka ob0 ob1 ob2 h0) := by
  refine MetFree.of_bodySF (plainFor_of_name pnv9) hisR ?_
  intro p e s m args below meth c s₁ Bd hml0 hP hK
  obtain ⟨rfl, hZ, hh⟩ := hP
  have hx := Bd.exec
  have hby := Bd.bytes
  have hml : c.maxLocals = 1 := hml0
  have hown : s.vm.findClass "java/util/ArrayList" = some m.cls := findClass_of_methodNamed Bd.named
  have hnm := (name_of_methodNamed Bd.named Bd.method).1
  have X0 : Stand p l e (Rm 3 1 3 46) s m #[(.ref a0l)] below meth c s₁ [] 0 0 := Stand.of_body Bd
  have e0 : s₁.heap = h0 := by rw [← hh, Bd.state]; rfl
  have N0 := Fr.nil n0
  have pre0 : ∀ t, SP p e below s₁ m 0 #[vr a0l] [] t → Steps p.tables e below (s₁.setTop (entryFrame m #[(.ref a0l)] 1)) t := fun t k => castTop (ef_rmAbc m a0l) k
  have GL' := GL
  obtain ⟨GCS, GCP, GDE, GVE, GUS, GSS, GIE, GMO⟩ := GL'
  obtain ⟨T1, X1, e1, st1⟩ := getF X0 hx hZ hown (host := "") (Or.inl (Wd hw 37 rfl)) Via.refl e0 F_elementData_a0l (g := mkF m 1 #[vr a0l] [(.ref a0l)]) rfl rfl (dG hby D48 1 rfl)
  obtain ⟨T2, X2, e2, st2⟩ := getF X1 hx hZ hown (host := "") (Or.inl (Wd hw 62 rfl)) Via.refl e1 F_size_a0l (g := mkF m 5 #[vr a0l] [(.ref a0l), (.ref ae)]) rfl rfl (dG hby D48 3 rfl)
  obtain ⟨_, _, ⟨T3, L3, k3, n3⟩, -, X3, ⟨Lc3, hQ3, l3, y3, z3⟩, st3⟩ := Jvm.LawKit.callS X2 hx (y := MN_47) hown (mvT hZ (Wd hw 321 rfl)) (mvT hZ (Wd hw 322 rfl)) (mvT hZ (Wd hw 235 rfl)) (mvT hZ (Wd hw 323 rfl)) (by decide) (backOf (W := 0) (rmC2o_3 l Z a0 hw [] cS aDE kDE aUS aSS aIE mO ae ka ob0 ob1 ob2 h0 n0 O0 GL E_ae V_ae E_ob0 E_ob1 E_ob2) hZ (Wd hw 323 rfl) (Wd hw 235 rfl) (by decide) (by decide)) (g := mkF m 8 #[vr a0l] [(.int 3), (.ref ae)]) rfl (by rw [hml]; rfl) (argsL := [(.ref ae), (.int 3)]) (rest := []) (lenOf pdv27 rfl) rfl (by show 2 * 0 + _ ≤ _; exact lEq rfl) (dG hby D48 4 rfl) (fun _ _ => ⟨rfl, e2, (by decide : 0 + 1 ≤ _), (by decide : 0 + 3 ≤ _)⟩)
  dsimp only [Pt.U, Pt.locs, Pt.cells, Pt.slots] at X3 l3 y3 z3 st3 hQ3
  subst l3 y3 z3
  obtain ⟨b_3, kb_3, rfl, N3q, Kc3, P3_0, P3_1⟩ := hQ3
  have K3 : Keep h0 T3.heap [] := (Keep.refl h0 []).trans Kc3 all0
  have O3 := O0.keep Kc3 all0
  have g_b_3 : n0 ≤ b_3 := lTr (own_sz O0) P3_0
  have sz_b_3 : h0.size ≤ b_3 := lTr (Keep.refl h0 []).1 P3_0
  have N3 := Fr.app N0 N3q
  obtain ⟨fs, hr, hrun, hended, hW, hsame⟩ := X3.leave (v := some (.ref b_3)) (fun h => by rw [Bd.returns] at h; cases h)
  refine ⟨_, _, pre0 _ ?_, hrun, hended, _, _, rfl, ?_, ⟨_, rfl⟩, hW, hsame.mono (by decide) (by decide)⟩
  · show SP p e below s₁ m 0 #[vr a0l] [] _
    refine XS.aloadN X0.here hx rfl (dG hby D48 0 rfl) rfl rfl ?_
    show SP p e below s₁ m 1 #[vr a0l] [(.ref a0l)] _
    refine st1 _ ?_
    show SP p e below T1 m 4 #[vr a0l] [(.ref ae)] _
    refine XS.aloadN X1.here hx rfl (dG hby D48 2 rfl) rfl rfl ?_
    show SP p e below T1 m 5 #[vr a0l] [(.ref a0l), (.ref ae)] _
    refine st2 _ ?_
    show SP p e below T2 m 8 #[vr a0l] [(.int 3), (.ref ae)] _
    refine st3 _ ?_
    show SP p e below T3 m 11 #[vr a0l] [(.ref b_3)] _
    exact retA X3 hx Bd.returns rfl (dG hby D48 5 rfl) hr
  · show Q_rmTa_3 n0 Z cS aDE kDE aUS aSS aIE mO a0l ae ka ob0 ob1 ob2 h0 _ T3.heap _
    exact ⟨b_3, kb_3, rfl, N3, K3, sz_b_3, P3_1⟩
theorem D55 : dL jdk_31_method_10_code [(0, .aload_n 0, 1), (1, .ifnonnull 11, 3), (12, .aload_n 0, 1), (13, .areturn, 1)] = true := by decide +kernel
abbrev MN_49 : MethodName := ⟨"java/util/Objects", "requireNonNull", "(Ljava/lang/Object;)Ljava/lang/Object;"⟩
theorem ef_rmRn (m : MethodId) (a0o : Addr) : entryFrame m #[(.ref a0o)] 1 = mkF m 0 #[vr a0o] [] := by first | (simp [entryFrame, mkF, argsToLocals, Value.category]; done) | rfl
def Q_rmRn (n0 : Nat) (Z : State) (cS : Int32) (aDE : Addr) (kDE : ClassId) (aUS : Addr) (aSS : Addr) (aIE : Addr) (mO : Addr) (a0o : Addr) (h0 : Heap) (v : Option Value) (h : Heap) (L : List Loc) : Prop := v = some (.ref a0o) ∧ Fr n0 L ∧ h = h0
theorem rmRn (l : Launch) (Z : State) (a0 : Array Value) (hw : ∀ d ∈ tables_1, d.before a0 Z = true) (ws : List Jvm.Cond) (cS : Int32) (aDE : Addr) (kDE : ClassId) (aUS : Addr) (aSS : Addr) (aIE : Addr) (mO : Addr) (a0o : Addr) (h0 : Heap) (n0 : Nat) (O0 : Old Z n0 h0) (GL : GF Z cS aDE kDE aUS aSS aIE mO) :
    MF l MN_49 jdk_31_method_10_code 1 (some (.object "java/lang/Object")) ws (Rm 0 0 0 0) #[(.ref a0o)] Z h0 (Q_rmRn n0 Z cS aDE kDE aUS aSS aIE mO a0o h0) := by
  refine MetFree.of_bodySF (plainFor_of_name pnv11) hisR ?_
  intro p e s m args below meth c s₁ Bd hml0 hP hK
  obtain ⟨rfl, hZ, hh⟩ := hP
  have hx := Bd.exec
  have hby := Bd.bytes
  have hml : c.maxLocals = 1 := hml0
  have hown : s.vm.findClass "java/util/Objects" = some m.cls := findClass_of_methodNamed Bd.named
  have hnm := (name_of_methodNamed Bd.named Bd.method).1
  have X0 : Stand p l e (Rm 0 0 0 0) s m #[(.ref a0o)] below meth c s₁ [] 0 0 := Stand.of_body Bd
  have e0 : s₁.heap = h0 := by rw [← hh, Bd.state]; rfl
  have N0 := Fr.nil n0
  have pre0 : ∀ t, SP p e below s₁ m 0 #[vr a0o] [] t → Steps p.tables e below (s₁.setTop (entryFrame m #[(.ref a0o)] 1)) t := fun t k => castTop (ef_rmRn m a0o) k
  have GL' := GL
  obtain ⟨GCS, GCP, GDE, GVE, GUS, GSS, GIE, GMO⟩ := GL'
  obtain ⟨fs, hr, hrun, hended, hW, hsame⟩ := X0.leave (v := some (.ref a0o)) (fun h => by rw [Bd.returns] at h; cases h)
  refine ⟨_, _, pre0 _ ?_, hrun, hended, _, _, rfl, ?_, ⟨_, rfl⟩, hW, hsame.mono (by decide) (by decide)⟩
  · show SP p e below s₁ m 0 #[vr a0o] [] _
    refine XS.aloadN X0.here hx rfl (dG hby D55 0 rfl) rfl rfl ?_
    refine XS.ifnonnullYes X0.here hx rfl (pc0 := 1) (pc' := 12) rfl (dG hby D55 1 rfl) rfl (by decide) (by decide) ?_
    refine XS.aloadN X0.here hx rfl (dG hby D55 2 rfl) rfl rfl ?_
    show SP p e below s₁ m 13 #[vr a0o] [(.ref a0o)] _
    exact retA X0 hx Bd.returns rfl (dG hby D55 3 rfl) hr
  · show Q_rmRn n0 Z cS aDE kDE aUS aSS aIE mO a0o h0 _ s₁.heap _
    rw [e0]
    exact ⟨rfl, N0, rfl⟩
theorem D54 : dL jdk_47_method_1_code [(0, .aload_n 0, 1), (1, .invokespecial 1, 3), (4, .return_, 1)] = true := by decide +kernel
theorem pnv13 : plainName "java/util/ImmutableCollections$AbstractImmutableCollection" = true := by first | (simp [plainName, overriddenIn]; done) | decide +kernel
abbrev MN_50 : MethodName := ⟨"java/util/ImmutableCollections$AbstractImmutableCollection", "<init>", "()V"⟩
def Q_rmAic (n0 : Nat) (Z : State) (cS : Int32) (aDE : Addr) (kDE : ClassId) (aUS : Addr) (aSS : Addr) (aIE : Addr) (mO : Addr) (a0l : Addr) (h0 : Heap) (v : Option Value) (h : Heap) (L : List Loc) : Prop := v = none ∧ Fr n0 L ∧ h = h0
theorem rmAic (l : Launch) (Z : State) (a0 : Array Value) (hw : ∀ d ∈ tables_1, d.before a0 Z = true) (ws : List Jvm.Cond) (cS : Int32) (aDE : Addr) (kDE : ClassId) (aUS : Addr) (aSS : Addr) (aIE : Addr) (mO : Addr) (a0l : Addr) (h0 : Heap) (n0 : Nat) (O0 : Old Z n0 h0) (GL : GF Z cS aDE kDE aUS aSS aIE mO) :
    MF l MN_50 jdk_47_method_1_code 1 none ws (Rm 2 0 0 24) #[(.ref a0l)] Z h0 (Q_rmAic n0 Z cS aDE kDE aUS aSS aIE mO a0l h0) := by
  refine MetFree.of_bodySF (plainFor_of_name pnv13) hisR ?_
  intro p e s m args below meth c s₁ Bd hml0 hP hK
  obtain ⟨rfl, hZ, hh⟩ := hP
  have hx := Bd.exec
  have hby := Bd.bytes
  have hml : c.maxLocals = 1 := hml0
  have hown : s.vm.findClass "java/util/ImmutableCollections$AbstractImmutableCollection" = some m.cls := findClass_of_methodNamed Bd.named
  have hnm := (name_of_methodNamed Bd.named Bd.method).1
  have X0 : Stand p l e (Rm 2 0 0 24) s m #[(.ref a0l)] below meth c s₁ [] 0 0 := Stand.of_body Bd
  have e0 : s₁.heap = h0 := by rw [← hh, Bd.state]; rfl
  have N0 := Fr.nil n0
  have pre0 : ∀ t, SP p e below s₁ m 0 #[vr a0l] [] t → Steps p.tables e below (s₁.setTop (entryFrame m #[(.ref a0l)] 1)) t := fun t k => castTop (ef_rmAbc m a0l) k
  have GL' := GL
  obtain ⟨GCS, GCP, GDE, GVE, GUS, GSS, GIE, GMO⟩ := GL'
  obtain ⟨_, _, ⟨T1, L1, k1, n1⟩, -, X1, ⟨Lc1, hQ1, l1, y1, z1⟩, st1⟩ := X0.specialBack hx (y := MN_30) rfl hown (mvT hZ (Wd hw 357 rfl)) (mvT hZ (Wd hw 26 rfl)) (mvT hZ (Wd hw 30 rfl)) (by decide) (backOf (W := 0) (rmAbc l Z a0 hw [] cS aDE kDE aUS aSS aIE mO a0l h0 n0 O0 GL) hZ (Wd hw 30 rfl) (Wd hw 29 rfl) (by decide) (by decide)) (g := mkF m 1 #[vr a0l] [(.ref a0l)]) rfl (by rw [hml]; rfl) (Steps.refl _) (a := a0l) (argsL := []) (rest := []) (lenOf pdv18 rfl) rfl (by show 2 * 0 + _ ≤ _; exact lEq rfl) (dG hby D54 1 rfl) (fun _ _ => ⟨rfl, e0, (by decide : 0 + 0 ≤ _), (by decide : 0 + 0 ≤ _)⟩)
  dsimp only [Pt.U, Pt.locs, Pt.cells, Pt.slots] at X1 l1 y1 z1 st1 hQ1
  subst l1 y1 z1
  obtain ⟨rfl, N1q, e1⟩ := hQ1
  have N1 := Fr.app N0 N1q
  obtain ⟨fs, hr, hrun, hended, hW, hsame⟩ := X1.leave (v := none) (fun _ => rfl)
  refine ⟨_, _, pre0 _ ?_, hrun, hended, _, _, rfl, ?_, ⟨_, rfl⟩, hW, hsame.mono (by decide) (by decide)⟩
  · show SP p e below s₁ m 0 #[vr a0l] [] _
    refine XS.aloadN X0.here hx rfl (dG hby D54 0 rfl) rfl rfl ?_
    show SP p e below s₁ m 1 #[vr a0l] [(.ref a0l)] _
    refine st1.trans ?_
    show SP p e below T1 m 4 #[vr a0l] [] _
    exact X1.returnOut hx Bd.returns (dG hby D54 2 rfl) hr
  · show Q_rmAic n0 Z cS aDE kDE aUS aSS aIE mO a0l h0 _ T1.heap _
    rw [e1]
    exact ⟨rfl, N1, rfl⟩
theorem D53 : dL jdk_46_method_1_code [(0, .aload_n 0, 1), (1, .invokespecial 1, 3), (4, .return_, 1)] = true := by decide +kernel
theorem pnv14 : plainName "java/util/ImmutableCollections$AbstractImmutableList" = true := by first | (simp [plainName, overriddenIn]; done) | decide +kernel
abbrev MN_51 : MethodName := ⟨"java/util/ImmutableCollections$AbstractImmutableList", "<init>", "()V"⟩
def Q_rmAil (n0 : Nat) (Z : State) (cS : Int32) (aDE : Addr) (kDE : ClassId) (aUS : Addr) (aSS : Addr) (aIE : Addr) (mO : Addr) (a0l : Addr) (h0 : Heap) (v : Option Value) (h : Heap) (L : List Loc) : Prop := v = none ∧ Fr n0 L ∧ h = h0
theorem rmAil (l : Launch) (Z : State) (a0 : Array Value) (hw : ∀ d ∈ tables_1, d.before a0 Z = true) (ws : List Jvm.Cond) (cS : Int32) (aDE : Addr) (kDE : ClassId) (aUS : Addr) (aSS : Addr) (aIE : Addr) (mO : Addr) (a0l : Addr) (h0 : Heap) (n0 : Nat) (O0 : Old Z n0 h0) (GL : GF Z cS aDE kDE aUS aSS aIE mO) :
    MF l MN_51 jdk_46_method_1_code 1 none ws (Rm 3 0 0 36) #[(.ref a0l)] Z h0 (Q_rmAil n0 Z cS aDE kDE aUS aSS aIE mO a0l h0) := by
  refine MetFree.of_bodySF (plainFor_of_name pnv14) hisR ?_
  intro p e s m args below meth c s₁ Bd hml0 hP hK
  obtain ⟨rfl, hZ, hh⟩ := hP
  have hx := Bd.exec
  have hby := Bd.bytes
  have hml : c.maxLocals = 1 := hml0
  have hown : s.vm.findClass "java/util/ImmutableCollections$AbstractImmutableList" = some m.cls := findClass_of_methodNamed Bd.named
  have hnm := (name_of_methodNamed Bd.named Bd.method).1
  have X0 : Stand p l e (Rm 3 0 0 36) s m #[(.ref a0l)] below meth c s₁ [] 0 0 := Stand.of_body Bd
  have e0 : s₁.heap = h0 := by rw [← hh, Bd.state]; rfl
  have N0 := Fr.nil n0
  have pre0 : ∀ t, SP p e below s₁ m 0 #[vr a0l] [] t → Steps p.tables e below (s₁.setTop (entryFrame m #[(.ref a0l)] 1)) t := fun t k => castTop (ef_rmAbc m a0l) k
  have GL' := GL
  obtain ⟨GCS, GCP, GDE, GVE, GUS, GSS, GIE, GMO⟩ := GL'
  obtain ⟨_, _, ⟨T1, L1, k1, n1⟩, -, X1, ⟨Lc1, hQ1, l1, y1, z1⟩, st1⟩ := X0.specialBack hx (y := MN_50) rfl hown (mvT hZ (Wd hw 351 rfl)) (mvT hZ (Wd hw 352 rfl)) (mvT hZ (Wd hw 356 rfl)) (by decide) (backOf (W := 0) (rmAic l Z a0 hw [] cS aDE kDE aUS aSS aIE mO a0l h0 n0 O0 GL) hZ (Wd hw 356 rfl) (Wd hw 355 rfl) (by decide) (by decide)) (g := mkF m 1 #[vr a0l] [(.ref a0l)]) rfl (by rw [hml]; rfl) (Steps.refl _) (a := a0l) (argsL := []) (rest := []) (lenOf pdv18 rfl) rfl (by show 2 * 0 + _ ≤ _; exact lEq rfl) (dG hby D53 1 rfl) (fun _ _ => ⟨rfl, e0, (by decide : 0 + 0 ≤ _), (by decide : 0 + 0 ≤ _)⟩)
  dsimp only [Pt.U, Pt.locs, Pt.cells, Pt.slots] at X1 l1 y1 z1 st1 hQ1
  subst l1 y1 z1
  obtain ⟨rfl, N1q, e1⟩ := hQ1
  have N1 := Fr.app N0 N1q
  obtain ⟨fs, hr, hrun, hended, hW, hsame⟩ := X1.leave (v := none) (fun _ => rfl)
  refine ⟨_, _, pre0 _ ?_, hrun, hended, _, _, rfl, ?_, ⟨_, rfl⟩, hW, hsame.mono (by decide) (by decide)⟩
  · show SP p e below s₁ m 0 #[vr a0l] [] _
    refine XS.aloadN X0.here hx rfl (dG hby D53 0 rfl) rfl rfl ?_
    show SP p e below s₁ m 1 #[vr a0l] [(.ref a0l)] _
    refine st1.trans ?_
    show SP p e below T1 m 4 #[vr a0l] [] _
    exact X1.returnOut hx Bd.returns (dG hby D53 2 rfl) hr
  · show Q_rmAil n0 Z cS aDE kDE aUS aSS aIE mO a0l h0 _ T1.heap _
    rw [e1]
    exact ⟨rfl, N1, rfl⟩
theorem D52 : dL jdk_44_method_1_code [(0, .aload_n 0, 1), (1, .invokespecial 1, 3), (4, .aload_n 0, 1), (5, .aload_n 1, 1), (6, .invokestatic 7, 3), (9, .putfield 13, 3), (12, .aload_n 0, 1), (13, .getstatic 19, 3), (16, .putfield 24, 3), (19, .return_, 1)] = true := by decide +kernel
theorem pdv28 : parseMethodDescriptor "(Ljava/lang/Object;)Ljava/lang/Object;" = some ⟨[(.object "java/lang/Object")], some (.object "java/lang/Object")⟩ := by decide +kernel
theorem pnv15 : plainName "java/util/ImmutableCollections$List12" = true := by first | (simp [plainName, overriddenIn]; done) | decide +kernel
abbrev MN_52 : MethodName := ⟨"java/util/ImmutableCollections$List12", "<init>", "(Ljava/lang/Object;)V"⟩
theorem ef_rmT1 (m : MethodId) (a0l : Addr) (ob0 : Addr) : entryFrame m #[(.ref a0l), (.ref ob0)] 2 = mkF m 0 #[vr a0l, vr ob0] [] := by first | (simp [entryFrame, mkF, argsToLocals, Value.category]; done) | rfl
def Q_rmT1 (n0 : Nat) (Z : State) (cS : Int32) (aDE : Addr) (kDE : ClassId) (aUS : Addr) (aSS : Addr) (aIE : Addr) (mO : Addr) (a0l : Addr) (ob0 : Addr) (h0 : Heap) (v : Option Value) (h : Heap) (L : List Loc) : Prop := v = none ∧ Fr n0 L ∧ Keep h0 h [a0l] ∧ (Exa Z h a0l "java/util/ImmutableCollections$List12") ∧ (Fld Z h a0l "java/util/ImmutableCollections$List12" "e0" "Ljava/lang/Object;" (.ref ob0)) ∧ (Fld Z h a0l "java/util/ImmutableCollections$List12" "e1" "Ljava/lang/Object;" (.ref aIE))
theorem rmT1 (l : Launch) (Z : State) (a0 : Array Value) (hw : ∀ d ∈ tables_1, d.before a0 Z = true) (ws : List Jvm.Cond) (cS : Int32) (aDE : Addr) (kDE : ClassId) (aUS : Addr) (aSS : Addr) (aIE : Addr) (mO : Addr) (a0l : Addr) (ob0 : Addr) (h0 : Heap) (n0 : Nat) (O0 : Old Z n0 h0) (GL : GF Z cS aDE kDE aUS aSS aIE mO) (E_a0l : Exa Z h0 a0l "java/util/ImmutableCollections$List12") (F_e0_a0l : Fld Z h0 a0l "java/util/ImmutableCollections$List12" "e0" "Ljava/lang/Object;" .null) (F_e1_a0l : Fld Z h0 a0l "java/util/ImmutableCollections$List12" "e1" "Ljava/lang/Object;" .null) (g_a0l : n0 ≤ a0l) :
    MF l MN_52 jdk_44_method_1_code 2 none ws (Rm 4 0 0 48) #[(.ref a0l), (.ref ob0)] Z h0 (Q_rmT1 n0 Z cS aDE kDE aUS aSS aIE mO a0l ob0 h0) := by
  refine MetFree.of_bodySF (plainFor_of_name pnv15) hisR ?_
  intro p e s m args below meth c s₁ Bd hml0 hP hK
  obtain ⟨rfl, hZ, hh⟩ := hP
  have hx := Bd.exec
  have hby := Bd.bytes
  have hml : c.maxLocals = 2 := hml0
  have hown : s.vm.findClass "java/util/ImmutableCollections$List12" = some m.cls := findClass_of_methodNamed Bd.named
  have hnm := (name_of_methodNamed Bd.named Bd.method).1
  have X0 : Stand p l e (Rm 4 0 0 48) s m #[(.ref a0l), (.ref ob0)] below meth c s₁ [] 0 0 := Stand.of_body Bd
  have e0 : s₁.heap = h0 := by rw [← hh, Bd.state]; rfl
  have N0 := Fr.nil n0
  have pre0 : ∀ t, SP p e below s₁ m 0 #[vr a0l, vr ob0] [] t → Steps p.tables e below (s₁.setTop (entryFrame m #[(.ref a0l), (.ref ob0)] 2)) t := fun t k => castTop (ef_rmT1 m a0l ob0) k
  have GL' := GL
  obtain ⟨GCS, GCP, GDE, GVE, GUS, GSS, GIE, GMO⟩ := GL'
  obtain ⟨_, _, ⟨T1, L1, k1, n1⟩, -, X1, ⟨Lc1, hQ1, l1, y1, z1⟩, st1⟩ := X0.specialBack hx (y := MN_51) rfl hown (mvT hZ (Wd hw 345 rfl)) (mvT hZ (Wd hw 346 rfl)) (mvT hZ (Wd hw 350 rfl)) (by decide) (backOf (W := 0) (rmAil l Z a0 hw [] cS aDE kDE aUS aSS aIE mO a0l h0 n0 O0 GL) hZ (Wd hw 350 rfl) (Wd hw 349 rfl) (by decide) (by decide)) (g := mkF m 1 #[vr a0l, vr ob0] [(.ref a0l)]) rfl (by rw [hml]; rfl) (Steps.refl _) (a := a0l) (argsL := []) (rest := []) (lenOf pdv18 rfl) rfl (by show 2 * 0 + _ ≤ _; exact lEq rfl) (dG hby D52 1 rfl) (fun _ _ => ⟨rfl, e0, (by decide : 0 + 0 ≤ _), (by decide : 0 + 0 ≤ _)⟩)
  dsimp only [Pt.U, Pt.locs, Pt.cells, Pt.slots] at X1 l1 y1 z1 st1 hQ1
  subst l1 y1 z1
  obtain ⟨rfl, N1q, e1⟩ := hQ1
  have N1 := Fr.app N0 N1q
  obtain ⟨_, _, ⟨T2, L2, k2, n2⟩, -, X2, ⟨Lc2, hQ2, l2, y2, z2⟩, st2⟩ := Jvm.LawKit.callS X1 hx (y := MN_49) hown (mvT hZ (Wd hw 359 rfl)) (mvT hZ (Wd hw 360 rfl)) (mvT hZ (Wd hw 114 rfl)) (mvT hZ (Wd hw 361 rfl)) (by decide) (backOf (W := 1) (rmRn l Z a0 hw [] cS aDE kDE aUS aSS aIE mO ob0 h0 n0 O0 GL) hZ (Wd hw 361 rfl) (Wd hw 114 rfl) (by decide) (by decide)) (g := mkF m 6 #[vr a0l, vr ob0] [(.ref ob0), (.ref a0l)]) rfl (by rw [hml]; rfl) (argsL := [(.ref ob0)]) (rest := [(.ref a0l)]) (lenOf pdv28 rfl) rfl (by show 2 * 0 + _ ≤ _; exact lEq rfl) (dG hby D52 4 rfl) (fun _ _ => ⟨rfl, e1, (by decide : 0 + 0 ≤ _), (by decide : 0 + 0 ≤ _)⟩)
  dsimp only [Pt.U, Pt.locs, Pt.cells, Pt.slots] at X2 l2 y2 z2 st2 hQ2
  subst l2 y2 z2
  obtain ⟨rfl, N2q, e2⟩ := hQ2
  have N2 := Fr.app N1 N2q
  obtain ⟨T3, h3, X3, e3, W3, st3⟩ := putF X2 hx hZ hown (host := "") (Or.inl (Wd hw 362 rfl)) Via.refl e2 F_e0_a0l E_a0l (Or.inr ⟨(Wd hw 363 rfl), rfl, hnm⟩) (Wd hw 339 rfl) (ty := (.object "java/lang/Object")) (by decide) rfl rfl (g := mkF m 9 #[vr a0l, vr ob0] [(.ref ob0), (.ref a0l)]) rfl rfl (dG hby D52 5 rfl)
  have Fw3 := F_e0_a0l.same W3
  have K3 : Keep h0 h3 [a0l] := (Keep.refl h0 [a0l]).wr W3 (Or.inl (List.mem_of_getElem? (i := 0) rfl))
  have O3 := O0.wr W3 g_a0l
  have N3 := Fr.snoc X3 N2 g_a0l
  obtain ⟨T4, X4, e4, st4⟩ := getS2 X3 hx hZ hown (Or.inr (Wd hw 364 rfl)) Via.refl e3 (GIE.ext O3.2) (g := mkF m 13 #[vr a0l, vr ob0] [(.ref a0l)]) rfl (dG hby D52 7 rfl)
  obtain ⟨T5, h5, X5, e5, W5, st5⟩ := putF X4 hx hZ hown (host := "") (Or.inl (Wd hw 365 rfl)) Via.refl e4 (F_e1_a0l.other W3 (Or.inr (slot_ne (a0 := a0) (Or.inr (Wd hw 366 rfl)) (Or.inr (Wd hw 363 rfl)) (by decide) (t := (.object "java/lang/Object")) (t' := (.object "java/lang/Object")) (by decide) (by decide)))) (E_a0l.wr W3) (Or.inr ⟨(Wd hw 366 rfl), rfl, hnm⟩) (Wd hw 339 rfl) (ty := (.object "java/lang/Object")) (by decide) rfl rfl (g := mkF m 16 #[vr a0l, vr ob0] [(.ref aIE), (.ref a0l)]) rfl rfl (dG hby D52 8 rfl)
  have Fw5 := (F_e1_a0l.other W3 (Or.inr (slot_ne (a0 := a0) (Or.inr (Wd hw 366 rfl)) (Or.inr (Wd hw 363 rfl)) (by decide) (t := (.object "java/lang/Object")) (t' := (.object "java/lang/Object")) (by decide) (by decide)))).same W5
  have K5 : Keep h0 h5 [a0l] := K3.wr W5 (Or.inl (List.mem_of_getElem? (i := 0) rfl))
  have O5 := O3.wr W5 g_a0l
  have N5 := Fr.snoc X5 N3 g_a0l
  obtain ⟨fs, hr, hrun, hended, hW, hsame⟩ := X5.leave (v := none) (fun _ => rfl)
  refine ⟨_, _, pre0 _ ?_, hrun, hended, _, _, rfl, ?_, ⟨_, rfl⟩, hW, hsame.mono (by decide) (by decide)⟩
  · show SP p e below s₁ m 0 #[vr a0l, vr ob0] [] _
    refine XS.aloadN X0.here hx rfl (dG hby D52 0 rfl) rfl rfl ?_
    show SP p e below s₁ m 1 #[vr a0l, vr ob0] [(.ref a0l)] _
    refine st1.trans ?_
    show SP p e below T1 m 4 #[vr a0l, vr ob0] [] _
    refine XS.aloadN X1.here hx rfl (dG hby D52 2 rfl) rfl rfl ?_
    refine XS.aloadN X1.here hx rfl (dG hby D52 3 rfl) rfl rfl ?_
    show SP p e below T1 m 6 #[vr a0l, vr ob0] [(.ref ob0), (.ref a0l)] _
    refine st2 _ ?_
    show SP p e below T2 m 9 #[vr a0l, vr ob0] [(.ref ob0), (.ref a0l)] _
    refine st3 _ ?_
    show SP p e below T3 m 12 #[vr a0l, vr ob0] [] _
    refine XS.aloadN X3.here hx rfl (dG hby D52 6 rfl) rfl rfl ?_
    show SP p e below T3 m 13 #[vr a0l, vr ob0] [(.ref a0l)] _
    refine st4 _ ?_
    show SP p e below T4 m 16 #[vr a0l, vr ob0] [(.ref aIE), (.ref a0l)] _
    refine st5 _ ?_
    show SP p e below T5 m 19 #[vr a0l, vr ob0] [] _
    exact X5.returnOut hx Bd.returns (dG hby D52 9 rfl) hr
  · show Q_rmT1 n0 Z cS aDE kDE aUS aSS aIE mO a0l ob0 h0 _ T5.heap _
    rw [e5]
    exact ⟨rfl, N5, K5, ((E_a0l.wr W3).wr W5), (Fw3.other W5 (Or.inr (slot_ne (a0 := a0) (Or.inr (Wd hw 363 rfl)) (Or.inr (Wd hw 366 rfl)) (by decide) (t := (.object "java/lang/Object")) (t' := (.object "java/lang/Object")) (by decide) (by decide)))), Fw5⟩
theorem D72 : dL jdk_44_method_2_code [(0, .aload_n 0, 1), (1, .invokespecial 1, 3), (4, .aload_n 0, 1), (5, .aload_n 1, 1), (6, .invokestatic 7, 3), (9, .putfield 13, 3), (12, .aload_n 0, 1), (13, .aload_n 2, 1), (14, .invokestatic 7, 3), (17, .putfield 24, 3), (20, .return_, 1)] = true := by decide +kernel
abbrev MN_53 : MethodName := ⟨"java/util/ImmutableCollections$List12", "<init>", "(Ljava/lang/Object;Ljava/lang/Object;)V"⟩
theorem ef_rmT2 (m : MethodId) (a0l : Addr) (ob0 : Addr) (ob1 : Addr) : entryFrame m #[(.ref a0l), (.ref ob0), (.ref ob1)] 3 = mkF m 0 #[vr a0l, vr ob0, vr ob1] [] := by first | (simp [entryFrame, mkF, argsToLocals, Value.category]; done) | rfl
def Q_rmT2 (n0 : Nat) (Z : State) (cS : Int32) (aDE : Addr) (kDE : ClassId) (aUS : Addr) (aSS : Addr) (aIE : Addr) (mO : Addr) (a0l : Addr) (ob0 : Addr) (ob1 : Addr) (h0 : Heap) (v : Option Value) (h : Heap) (L : List Loc) : Prop := v = none ∧ Fr n0 L ∧ Keep h0 h [a0l] ∧ (Exa Z h a0l "java/util/ImmutableCollections$List12") ∧ (Fld Z h a0l "java/util/ImmutableCollections$List12" "e0" "Ljava/lang/Object;" (.ref ob0)) ∧ (Fld Z h a0l "java/util/ImmutableCollections$List12" "e1" "Ljava/lang/Object;" (.ref ob1))
theorem rmT2 (l : Launch) (Z : State) (a0 : Array Value) (hw : ∀ d ∈ tables_1, d.before a0 Z = true) (ws : List Jvm.Cond) (cS : Int32) (aDE : Addr) (kDE : ClassId) (aUS : Addr) (aSS : Addr) (aIE : Addr) (mO : Addr) (a0l : Addr) (ob0 : Addr) (ob1 : Addr) (h0 : Heap) (n0 : Nat) (O0 : Old Z n0 h0) (GL : GF Z cS aDE kDE aUS aSS aIE mO) (E_a0l : Exa Z h0 a0l "java/util/ImmutableCollections$List12") (F_e0_a0l : Fld Z h0 a0l "java/util/ImmutableCollections$List12" "e0" "Ljava/lang/Object;" .null) (F_e1_a0l : Fld Z h0 a0l "java/util/ImmutableCollections$List12" "e1" "Ljava/lang/Object;" .null) (g_a0l : n0 ≤ a0l) :
    MF l MN_53 jdk_44_method_2_code 3 none ws (Rm 4 0 0 48) #[(.ref a0l), (.ref ob0), (.ref ob1)] Z h0 (Q_rmT2 n0 Z cS aDE kDE aUS aSS aIE mO a0l ob0 ob1 h0) := by
  refine MetFree.of_bodySF (plainFor_of_name pnv15) hisR ?_
  intro p e s m args below meth c s₁ Bd hml0 hP hK
  obtain ⟨rfl, hZ, hh⟩ := hP
  have hx := Bd.exec
  have hby := Bd.bytes
  have hml : c.maxLocals = 3 := hml0
  have hown : s.vm.findClass "java/util/ImmutableCollections$List12" = some m.cls := findClass_of_methodNamed Bd.named
  have hnm := (name_of_methodNamed Bd.named Bd.method).1
  have X0 : Stand p l e (Rm 4 0 0 48) s m #[(.ref a0l), (.ref ob0), (.ref ob1)] below meth c s₁ [] 0 0 := Stand.of_body Bd
  have e0 : s₁.heap = h0 := by rw [← hh, Bd.state]; rfl
  have N0 := Fr.nil n0
  have pre0 : ∀ t, SP p e below s₁ m 0 #[vr a0l, vr ob0, vr ob1] [] t → Steps p.tables e below (s₁.setTop (entryFrame m #[(.ref a0l), (.ref ob0), (.ref ob1)] 3)) t := fun t k => castTop (ef_rmT2 m a0l ob0 ob1) k
  have GL' := GL
  obtain ⟨GCS, GCP, GDE, GVE, GUS, GSS, GIE, GMO⟩ := GL'
  obtain ⟨_, _, ⟨T1, L1, k1, n1⟩, -, X1, ⟨Lc1, hQ1, l1, y1, z1⟩, st1⟩ := X0.specialBack hx (y := MN_51) rfl hown (mvT hZ (Wd hw 345 rfl)) (mvT hZ (Wd hw 346 rfl)) (mvT hZ (Wd hw 350 rfl)) (by decide) (backOf (W := 0) (rmAil l Z a0 hw [] cS aDE kDE aUS aSS aIE mO a0l h0 n0 O0 GL) hZ (Wd hw 350 rfl) (Wd hw 349 rfl) (by decide) (by decide)) (g := mkF m 1 #[vr a0l, vr ob0, vr ob1] [(.ref a0l)]) rfl (by rw [hml]; rfl) (Steps.refl _) (a := a0l) (argsL := []) (rest := []) (lenOf pdv18 rfl) rfl (by show 2 * 0 + _ ≤ _; exact lEq rfl) (dG hby D72 1 rfl) (fun _ _ => ⟨rfl, e0, (by decide : 0 + 0 ≤ _), (by decide : 0 + 0 ≤ _)⟩)
  dsimp only [Pt.U, Pt.locs, Pt.cells, Pt.slots] at X1 l1 y1 z1 st1 hQ1
  subst l1 y1 z1
  obtain ⟨rfl, N1q, e1⟩ := hQ1
  have N1 := Fr.app N0 N1q
  obtain ⟨_, _, ⟨T2, L2, k2, n2⟩, -, X2, ⟨Lc2, hQ2, l2, y2, z2⟩, st2⟩ := Jvm.LawKit.callS X1 hx (y := MN_49) hown (mvT hZ (Wd hw 359 rfl)) (mvT hZ (Wd hw 360 rfl)) (mvT hZ (Wd hw 114 rfl)) (mvT hZ (Wd hw 361 rfl)) (by decide) (backOf (W := 1) (rmRn l Z a0 hw [] cS aDE kDE aUS aSS aIE mO ob0 h0 n0 O0 GL) hZ (Wd hw 361 rfl) (Wd hw 114 rfl) (by decide) (by decide)) (g := mkF m 6 #[vr a0l, vr ob0, vr ob1] [(.ref ob0), (.ref a0l)]) rfl (by rw [hml]; rfl) (argsL := [(.ref ob0)]) (rest := [(.ref a0l)]) (lenOf pdv28 rfl) rfl (by show 2 * 0 + _ ≤ _; exact lEq rfl) (dG hby D72 4 rfl) (fun _ _ => ⟨rfl, e1, (by decide : 0 + 0 ≤ _), (by decide : 0 + 0 ≤ _)⟩)
  dsimp only [Pt.U, Pt.locs, Pt.cells, Pt.slots] at X2 l2 y2 z2 st2 hQ2
  subst l2 y2 z2
  obtain ⟨rfl, N2q, e2⟩ := hQ2
  have N2 := Fr.app N1 N2q
  obtain ⟨T3, h3, X3, e3, W3, st3⟩ := putF X2 hx hZ hown (host := "") (Or.inl (Wd hw 362 rfl)) Via.refl e2 F_e0_a0l E_a0l (Or.inr ⟨(Wd hw 363 rfl), rfl, hnm⟩) (Wd hw 339 rfl) (ty := (.object "java/lang/Object")) (by decide) rfl rfl (g := mkF m 9 #[vr a0l, vr ob0, vr ob1] [(.ref ob0), (.ref a0l)]) rfl rfl (dG hby D72 5 rfl)
  have Fw3 := F_e0_a0l.same W3
  have K3 : Keep h0 h3 [a0l] := (Keep.refl h0 [a0l]).wr W3 (Or.inl (List.mem_of_getElem? (i := 0) rfl))
  have O3 := O0.wr W3 g_a0l
  have N3 := Fr.snoc X3 N2 g_a0l
  obtain ⟨_, _, ⟨T4, L4, k4, n4⟩, -, X4, ⟨Lc4, hQ4, l4, y4, z4⟩, st4⟩ := Jvm.LawKit.callS X3 hx (y := MN_49) hown (mvT hZ (Wd hw 359 rfl)) (mvT hZ (Wd hw 360 rfl)) (mvT hZ (Wd hw 114 rfl)) (mvT hZ (Wd hw 361 rfl)) (by decide) (backOf (W := 1) (rmRn l Z a0 hw [] cS aDE kDE aUS aSS aIE mO ob1 h3 n0 O3 GL) hZ (Wd hw 361 rfl) (Wd hw 114 rfl) (by decide) (by decide)) (g := mkF m 14 #[vr a0l, vr ob0, vr ob1] [(.ref ob1), (.ref a0l)]) rfl (by rw [hml]; rfl) (argsL := [(.ref ob1)]) (rest := [(.ref a0l)]) (lenOf pdv28 rfl) rfl (by show 2 * 0 + _ ≤ _; exact lEq rfl) (dG hby D72 8 rfl) (fun _ _ => ⟨rfl, e3, (by decide : 0 + 0 ≤ _), (by decide : 0 + 0 ≤ _)⟩)
  dsimp only [Pt.U, Pt.locs, Pt.cells, Pt.slots] at X4 l4 y4 z4 st4 hQ4
  subst l4 y4 z4
  obtain ⟨rfl, N4q, e4⟩ := hQ4
  have N4 := Fr.app N3 N4q
  obtain ⟨T5, h5, X5, e5, W5, st5⟩ := putF X4 hx hZ hown (host := "") (Or.inl (Wd hw 365 rfl)) Via.refl e4 (F_e1_a0l.other W3 (Or.inr (slot_ne (a0 := a0) (Or.inr (Wd hw 366 rfl)) (Or.inr (Wd hw 363 rfl)) (by decide) (t := (.object "java/lang/Object")) (t' := (.object "java/lang/Object")) (by decide) (by decide)))) (E_a0l.wr W3) (Or.inr ⟨(Wd hw 366 rfl), rfl, hnm⟩) (Wd hw 339 rfl) (ty := (.object "java/lang/Object")) (by decide) rfl rfl (g := mkF m 17 #[vr a0l, vr ob0, vr ob1] [(.ref ob1), (.ref a0l)]) rfl rfl (dG hby D72 9 rfl)
  have Fw5 := (F_e1_a0l.other W3 (Or.inr (slot_ne (a0 := a0) (Or.inr (Wd hw 366 rfl)) (Or.inr (Wd hw 363 rfl)) (by decide) (t := (.object "java/lang/Object")) (t' := (.object "java/lang/Object")) (by decide) (by decide)))).same W5
  have K5 : Keep h0 h5 [a0l] := K3.wr W5 (Or.inl (List.mem_of_getElem? (i := 0) rfl))
  have O5 := O3.wr W5 g_a0l
  have N5 := Fr.snoc X5 N4 g_a0l
  obtain ⟨fs, hr, hrun, hended, hW, hsame⟩ := X5.leave (v := none) (fun _ => rfl)
  refine ⟨_, _, pre0 _ ?_, hrun, hended, _, _, rfl, ?_, ⟨_, rfl⟩, hW, hsame.mono (by decide) (by decide)⟩
  · show SP p e below s₁ m 0 #[vr a0l, vr ob0, vr ob1] [] _
    refine XS.aloadN X0.here hx rfl (dG hby D72 0 rfl) rfl rfl ?_
    show SP p e below s₁ m 1 #[vr a0l, vr ob0, vr ob1] [(.ref a0l)] _
    refine st1.trans ?_
    show SP p e below T1 m 4 #[vr a0l, vr ob0, vr ob1] [] _
    refine XS.aloadN X1.here hx rfl (dG hby D72 2 rfl) rfl rfl ?_
    refine XS.aloadN X1.here hx rfl (dG hby D72 3 rfl) rfl rfl ?_
    show SP p e below T1 m 6 #[vr a0l, vr ob0, vr ob1] [(.ref ob0), (.ref a0l)] _
    refine st2 _ ?_
    show SP p e below T2 m 9 #[vr a0l, vr ob0, vr ob1] [(.ref ob0), (.ref a0l)] _
    refine st3 _ ?_
    show SP p e below T3 m 12 #[vr a0l, vr ob0, vr ob1] [] _
    refine XS.aloadN X3.here hx rfl (dG hby D72 6 rfl) rfl rfl ?_
    refine XS.aloadN X3.here hx rfl (dG hby D72 7 rfl) rfl rfl ?_
    show SP p e below T3 m 14 #[vr a0l, vr ob0, vr ob1] [(.ref ob1), (.ref a0l)] _
    refine st4 _ ?_
    show SP p e below T4 m 17 #[vr a0l, vr ob0, vr ob1] [(.ref ob1), (.ref a0l)] _
    refine st5 _ ?_
    show SP p e below T5 m 20 #[vr a0l, vr ob0, vr ob1] [] _
    exact X5.returnOut hx Bd.returns (dG hby D72 10 rfl) hr
  · show Q_rmT2 n0 Z cS aDE kDE aUS aSS aIE mO a0l ob0 ob1 h0 _ T5.heap _
    rw [e5]
    exact ⟨rfl, N5, K5, ((E_a0l.wr W3).wr W5), (Fw3.other W5 (Or.inr (slot_ne (a0 := a0) (Or.inr (Wd hw 363 rfl)) (Or.inr (Wd hw 366 rfl)) (by decide) (t := (.object "java/lang/Object")) (t' := (.object "java/lang/Object")) (by decide) (by decide)))), Fw5⟩
theorem D61 : dL jdk_45_method_1_code [(0, .aload_n 0, 1), (1, .invokespecial 1, 3), (4, .aload_n 0, 1), (5, .aload_n 1, 1), (6, .putfield 7, 3), (9, .aload_n 0, 1), (10, .iload_n 2, 1), (11, .putfield 13, 3), (14, .return_, 1)] = true := by decide +kernel
theorem pnv16 : plainName "java/util/ImmutableCollections$ListN" = true := by first | (simp [plainName, overriddenIn]; done) | decide +kernel
abbrev MN_54 : MethodName := ⟨"java/util/ImmutableCollections$ListN", "<init>", "([Ljava/lang/Object;Z)V"⟩
theorem ef_rmTn (m : MethodId) (a0l : Addr) (a1d : Addr) : entryFrame m #[(.ref a0l), (.ref a1d), (.int 0)] 3 = mkF m 0 #[vr a0l, vr a1d, vi (0 : Int32)] [] := by first | (simp [entryFrame, mkF, argsToLocals, Value.category]; done) | rfl
def Q_rmTn (n0 : Nat) (Z : State) (cS : Int32) (aDE : Addr) (kDE : ClassId) (aUS : Addr) (aSS : Addr) (aIE : Addr) (mO : Addr) (a0l : Addr) (a1d : Addr) (h0 : Heap) (v : Option Value) (h : Heap) (L : List Loc) : Prop := v = none ∧ Fr n0 L ∧ Keep h0 h [a0l] ∧ (Exa Z h a0l "java/util/ImmutableCollections$ListN") ∧ (Fld Z h a0l "java/util/ImmutableCollections$ListN" "elements" "[Ljava/lang/Object;" (.ref a1d))
theorem rmTn (l : Launch) (Z : State) (a0 : Array Value) (hw : ∀ d ∈ tables_1, d.before a0 Z = true) (ws : List Jvm.Cond) (cS : Int32) (aDE : Addr) (kDE : ClassId) (aUS : Addr) (aSS : Addr) (aIE : Addr) (mO : Addr) (a0l : Addr) (a1d : Addr) (h0 : Heap) (n0 : Nat) (O0 : Old Z n0 h0) (GL : GF Z cS aDE kDE aUS aSS aIE mO) (E_a0l : Exa Z h0 a0l "java/util/ImmutableCollections$ListN") (F_elements_a0l : Fld Z h0 a0l "java/util/ImmutableCollections$ListN" "elements" "[Ljava/lang/Object;" .null) (F_allowNulls_a0l : Fld Z h0 a0l "java/util/ImmutableCollections$ListN" "allowNulls" "Z" (.int 0)) (g_a0l : n0 ≤ a0l) :
    MF l MN_54 jdk_45_method_1_code 3 none ws (Rm 4 0 0 48) #[(.ref a0l), (.ref a1d), (.int 0)] Z h0 (Q_rmTn n0 Z cS aDE kDE aUS aSS aIE mO a0l a1d h0) := by
  refine MetFree.of_bodySF (plainFor_of_name pnv16) hisR ?_
  intro p e s m args below meth c s₁ Bd hml0 hP hK
  obtain ⟨rfl, hZ, hh⟩ := hP
  have hx := Bd.exec
  have hby := Bd.bytes
  have hml : c.maxLocals = 3 := hml0
  have hown : s.vm.findClass "java/util/ImmutableCollections$ListN" = some m.cls := findClass_of_methodNamed Bd.named
  have hnm := (name_of_methodNamed Bd.named Bd.method).1
  have X0 : Stand p l e (Rm 4 0 0 48) s m #[(.ref a0l), (.ref a1d), (.int 0)] below meth c s₁ [] 0 0 := Stand.of_body Bd
  have e0 : s₁.heap = h0 := by rw [← hh, Bd.state]; rfl
  have N0 := Fr.nil n0
  have pre0 : ∀ t, SP p e below s₁ m 0 #[vr a0l, vr a1d, vi (0 : Int32)] [] t → Steps p.tables e below (s₁.setTop (entryFrame m #[(.ref a0l), (.ref a1d), (.int 0)] 3)) t := fun t k => castTop (ef_rmTn m a0l a1d) k
  have GL' := GL
  obtain ⟨GCS, GCP, GDE, GVE, GUS, GSS, GIE, GMO⟩ := GL'
  obtain ⟨_, _, ⟨T1, L1, k1, n1⟩, -, X1, ⟨Lc1, hQ1, l1, y1, z1⟩, st1⟩ := X0.specialBack hx (y := MN_51) rfl hown (mvT hZ (Wd hw 401 rfl)) (mvT hZ (Wd hw 346 rfl)) (mvT hZ (Wd hw 350 rfl)) (by decide) (backOf (W := 0) (rmAil l Z a0 hw [] cS aDE kDE aUS aSS aIE mO a0l h0 n0 O0 GL) hZ (Wd hw 350 rfl) (Wd hw 349 rfl) (by decide) (by decide)) (g := mkF m 1 #[vr a0l, vr a1d, vi (0 : Int32)] [(.ref a0l)]) rfl (by rw [hml]; rfl) (Steps.refl _) (a := a0l) (argsL := []) (rest := []) (lenOf pdv18 rfl) rfl (by show 2 * 0 + _ ≤ _; exact lEq rfl) (dG hby D61 1 rfl) (fun _ _ => ⟨rfl, e0, (by decide : 0 + 0 ≤ _), (by decide : 0 + 0 ≤ _)⟩)
  dsimp only [Pt.U, Pt.locs, Pt.cells, Pt.slots] at X1 l1 y1 z1 st1 hQ1
  subst l1 y1 z1
  obtain ⟨rfl, N1q, e1⟩ := hQ1
  have N1 := Fr.app N0 N1q
  obtain ⟨T2, h2, X2, e2, W2, st2⟩ := putF X1 hx hZ hown (host := "") (Or.inl (Wd hw 405 rfl)) Via.refl e1 F_elements_a0l E_a0l (Or.inr ⟨(Wd hw 406 rfl), rfl, hnm⟩) (Wd hw 395 rfl) (ty := (.array (.object "java/lang/Object"))) (by decide) rfl rfl (g := mkF m 6 #[vr a0l, vr a1d, vi (0 : Int32)] [(.ref a1d), (.ref a0l)]) rfl rfl (dG hby D61 4 rfl)
  have Fw2 := F_elements_a0l.same W2
  have K2 : Keep h0 h2 [a0l] := (Keep.refl h0 [a0l]).wr W2 (Or.inl (List.mem_of_getElem? (i := 0) rfl))
  have O2 := O0.wr W2 g_a0l
  have N2 := Fr.snoc X2 N1 g_a0l
  obtain ⟨T3, h3, X3, e3, W3, st3⟩ := putFN X2 hx hZ hown (Wd hw 407 rfl) Via.refl e2 (F_allowNulls_a0l.other W2 (Or.inr (slot_ne (a0 := a0) (Or.inr (Wd hw 408 rfl)) (Or.inr (Wd hw 406 rfl)) (by decide) (t := .boolean) (t' := (.array (.object "java/lang/Object"))) (by decide) (by decide)))) (E_a0l.wr W2) (Or.inr ⟨(Wd hw 408 rfl), rfl, hnm⟩) (Wd hw 395 rfl) (ty := .boolean) (v' := (.int 0)) (by decide) rfl (by decide) (g := mkF m 11 #[vr a0l, vr a1d, vi (0 : Int32)] [(.int 0), (.ref a0l)]) rfl rfl (dG hby D61 7 rfl)
  have Fw3 := (F_allowNulls_a0l.other W2 (Or.inr (slot_ne (a0 := a0) (Or.inr (Wd hw 408 rfl)) (Or.inr (Wd hw 406 rfl)) (by decide) (t := .boolean) (t' := (.array (.object "java/lang/Object"))) (by decide) (by decide)))).same W3
  have K3 : Keep h0 h3 [a0l] := K2.wr W3 (Or.inl (List.mem_of_getElem? (i := 0) rfl))
  have O3 := O2.wr W3 g_a0l
  have N3 := Fr.snoc X3 N2 g_a0l
  obtain ⟨fs, hr, hrun, hended, hW, hsame⟩ := X3.leave (v := none) (fun _ => rfl)
  refine ⟨_, _, pre0 _ ?_, hrun, hended, _, _, rfl, ?_, ⟨_, rfl⟩, hW, hsame.mono (by decide) (by decide)⟩
  · show SP p e below s₁ m 0 #[vr a0l, vr a1d, vi (0 : Int32)] [] _
    refine XS.aloadN X0.here hx rfl (dG hby D61 0 rfl) rfl rfl ?_
    show SP p e below s₁ m 1 #[vr a0l, vr a1d, vi (0 : Int32)] [(.ref a0l)] _
    refine st1.trans ?_
    show SP p e below T1 m 4 #[vr a0l, vr a1d, vi (0 : Int32)] [] _
    refine XS.aloadN X1.here hx rfl (dG hby D61 2 rfl) rfl rfl ?_
    refine XS.aloadN X1.here hx rfl (dG hby D61 3 rfl) rfl rfl ?_
    show SP p e below T1 m 6 #[vr a0l, vr a1d, vi (0 : Int32)] [(.ref a1d), (.ref a0l)] _
    refine st2 _ ?_
    show SP p e below T2 m 9 #[vr a0l, vr a1d, vi (0 : Int32)] [] _
    refine XS.aloadN X2.here hx rfl (dG hby D61 5 rfl) rfl rfl ?_
    refine XS.iloadN X2.here hx rfl (dG hby D61 6 rfl) rfl ?_
    show SP p e below T2 m 11 #[vr a0l, vr a1d, vi (0 : Int32)] [(.int 0), (.ref a0l)] _
    refine st3 _ ?_
    show SP p e below T3 m 14 #[vr a0l, vr a1d, vi (0 : Int32)] [] _
    exact X3.returnOut hx Bd.returns (dG hby D61 8 rfl) hr
  · show Q_rmTn n0 Z cS aDE kDE aUS aSS aIE mO a0l a1d h0 _ T3.heap _
    rw [e3]
    exact ⟨rfl, N3, K3, ((E_a0l.wr W2).wr W3), (Fw2.other W3 (Or.inr (slot_ne (a0 := a0) (Or.inr (Wd hw 406 rfl)) (Or.inr (Wd hw 408 rfl)) (by decide) (t := (.array (.object "java/lang/Object"))) (t' := .boolean) (by decide) (by decide))))⟩
theorem D60 : dL jdk_56_method_4_code [(0, .aload_n 0, 1), (1, .arraylength, 1), (2, .anewarray 2, 3), (5, .astore_n 1, 1), (6, .iconst 0, 1), (7, .istore_n 2, 1), (8, .iload_n 2, 1), (9, .aload_n 0, 1), (10, .arraylength, 1), (11, .if_icmp .ge 18, 3), (14, .aload_n 1, 1), (15, .iload_n 2, 1), (16, .aload_n 0, 1), (17, .iload_n 2, 1), (18, .aaload, 1), (19, .invokestatic 37, 3), (22, .aastore, 1), (23, .iinc 2 1, 3), (26, .goto (-18), 3), (29, .new 12, 3), (32, .dup, 1), (33, .aload_n 1, 1), (34, .iconst 0, 1), (35, .invokespecial 43, 3), (38, .areturn, 1)] = true := by decide +kernel
theorem pdv29 : parseMethodDescriptor "([Ljava/lang/Object;Z)V" = some ⟨[(.array (.object "java/lang/Object")), .boolean], none⟩ := by decide +kernel
theorem pnv17 : plainName "java/util/ImmutableCollections" = true := by first | (simp [plainName, overriddenIn]; done) | decide +kernel
abbrev MN_55 : MethodName := ⟨"java/util/ImmutableCollections", "listFromArray", "([Ljava/lang/Object;)Ljava/util/List;"⟩
theorem ef_rmLfa (m : MethodId) (a0d : Addr) : entryFrame m #[(.ref a0d)] 3 = mkF m 0 #[vr a0d, .unset, .unset] [] := by first | (simp [entryFrame, mkF, argsToLocals, Value.category]; done) | rfl
def Q_rmLfa (n0 : Nat) (Z : State) (cS : Int32) (aDE : Addr) (kDE : ClassId) (aUS : Addr) (aSS : Addr) (aIE : Addr) (mO : Addr) (a0d : Addr) (ka : ClassId) (ob0 : Addr) (ob1 : Addr) (ob2 : Addr) (h0 : Heap) (v : Option Value) (h : Heap) (L : List Loc) : Prop := ∃ b : Addr, ∃ d : Addr, ∃ kd : ClassId, v = some (.ref b) ∧ Fr n0 L ∧ Keep h0 h [] ∧ (h0.size ≤ b) ∧ (h0.size ≤ d) ∧ (Exa Z h b "java/util/ImmutableCollections$ListN") ∧ (Fld Z h b "java/util/ImmutableCollections$ListN" "elements" "[Ljava/lang/Object;" (.ref d)) ∧ (Arv Z h d kd (.object "java/lang/Object") (3 : Int32) [(.ref ob0), (.ref ob1), (.ref ob2)] .null)
theorem rmLfa (l : Launch) (Z : State) (a0 : Array Value) (hw : ∀ d ∈ tables_1, d.before a0 Z = true) (ws : List Jvm.Cond) (cS : Int32) (aDE : Addr) (kDE : ClassId) (aUS : Addr) (aSS : Addr) (aIE : Addr) (mO : Addr) (a0d : Addr) (ka : ClassId) (ob0 : Addr) (ob1 : Addr) (ob2 : Addr) (h0 : Heap) (n0 : Nat) (O0 : Old Z n0 h0) (GL : GF Z cS aDE kDE aUS aSS aIE mO) (V_a0d : Arv Z h0 a0d ka (.object "java/lang/Object") (3 : Int32) [(.ref ob0), (.ref ob1), (.ref ob2)] .null) (E_ob0 : Exa Z h0 ob0 "com/example/grantline/grantline/PolicyException$Problem") (E_ob1 : Exa Z h0 ob1 "com/example/grantline/grantline/PolicyException$Problem") (E_ob2 : Exa Z h0 ob2 "com/example/grantline/grantline/PolicyException$Problem") :
    MF l MN_55 jdk_56_method_4_code 3 (some (.object "java/util/List")) ws (Rm 5 2 5 63) #[(.ref a0d)] Z h0 (Q_rmLfa n0 Z cS aDE kDE aUS aSS aIE mO a0d ka ob0 ob1 ob2 h0) := by
  refine MetFree.of_bodySF (plainFor_of_name pnv17) hisR ?_
  intro p e s m args below meth c s₁ Bd hml0 hP hK
  obtain ⟨rfl, hZ, hh⟩ := hP
  have hx := Bd.exec
  have hby := Bd.bytes
  have hml : c.maxLocals = 3 := hml0
  have hown : s.vm.findClass "java/util/ImmutableCollections" = some m.cls := findClass_of_methodNamed Bd.named
  have hnm := (name_of_methodNamed Bd.named Bd.method).1
  have X0 : Stand p l e (Rm 5 2 5 63) s m #[(.ref a0d)] below meth c s₁ [] 0 0 := Stand.of_body Bd
  have e0 : s₁.heap = h0 := by rw [← hh, Bd.state]; rfl
  have N0 := Fr.nil n0
  have pre0 : ∀ t, SP p e below s₁ m 0 #[vr a0d, .unset, .unset] [] t → Steps p.tables e below (s₁.setTop (entryFrame m #[(.ref a0d)] 3)) t := fun t k => castTop (ef_rmLfa m a0d) k
  have GL' := GL
  obtain ⟨GCS, GCP, GDE, GVE, GUS, GSS, GIE, GMO⟩ := GL'
  obtain ⟨cl1, Ar1, -, S1, N1_, -, -⟩ := id (V_a0d)
  obtain ⟨T2, h2, k2, X2, e2, E2, A2, A2', Ov2, st2⟩ := newRE X0 hx hZ hown (Wd hw 393 rfl) (Wd hw 84 rfl) e0 (g := mkF m 2 #[vr a0d, .unset, .unset] [(.int 3)]) rfl (dG hby D60 2 rfl) rfl (by decide) (cap := 3) (by decide) (by decide) (by decide) (by decide) (ad := "[Ljava/lang/Object;") rfl
  obtain ⟨b2, g2⟩ : ∃ z, z = h0.size := ⟨_, rfl⟩
  rw [← g2] at A2 A2' st2
  have g_b2 : n0 ≤ b2 := lTr (own_sz O0) (lEq g2.symm)
  have sz_b2 : h0.size ≤ b2 := lTr (Keep.refl h0 []).1 (lEq g2.symm)
  have K2 : Keep h0 h2 [] := (Keep.refl h0 []).ext E2
  have O2 := O0.ext E2
  have V_b2 : Arv Z h2 b2 k2 (.object "java/lang/Object") (3 : Int32) [.null, .null, .null] .null := (Arv.new A2 (by decide)).pad (pad_rep [] .null 3)
  obtain ⟨cl3, Ar3, -, S3, N3_, -, -⟩ := id ((V_a0d.ext E2))
  obtain ⟨cl4, Ar4, -, S4, N4_, H4, G4⟩ := id ((V_a0d.ext E2))
  have hin4 : ¬ ((0 : Int32) < 0 ∨ cl4.slots.size ≤ ((0 : Int32)).toNatClampNeg) := inb_of S4 ⟨(by decide), (by decide)⟩
  have hat4 : cl4.slots[((0 : Int32)).toNatClampNeg]? = some (.ref ob0) := H4.at hin4 rfl
  obtain ⟨_, _, ⟨T5, L5, k5, n5⟩, -, X5, ⟨Lc5, hQ5, l5, y5, z5⟩, st5⟩ := Jvm.LawKit.callS X2 hx (y := MN_49) hown (mvT hZ (Wd hw 394 rfl)) (mvT hZ (Wd hw 360 rfl)) (mvT hZ (Wd hw 114 rfl)) (mvT hZ (Wd hw 361 rfl)) (by decide) (backOf (W := 2) (rmRn l Z a0 hw [] cS aDE kDE aUS aSS aIE mO ob0 h2 n0 O2 GL) hZ (Wd hw 361 rfl) (Wd hw 114 rfl) (by decide) (by decide)) (g := mkF m 19 #[vr a0d, vr b2, vi (0 : Int32)] [(.ref ob0), (.int 0), (.ref b2)]) rfl (by rw [hml]; rfl) (argsL := [(.ref ob0)]) (rest := [(.int 0), (.ref b2)]) (lenOf pdv28 rfl) rfl (by show 2 * 0 + _ ≤ _; exact lEq rfl) (dG hby D60 15 rfl) (fun _ _ => ⟨rfl, e2, (by decide : 1 + 0 ≤ _), (by decide : 3 + 0 ≤ _)⟩)
  dsimp only [Pt.U, Pt.locs, Pt.cells, Pt.slots] at X5 l5 y5 z5 st5 hQ5
  subst l5 y5 z5
  obtain ⟨rfl, N5q, e5⟩ := hQ5
  have N5 := Fr.app N0 N5q
  obtain ⟨cl6, Ar6, q6, S6, N6_, H6, G6⟩ := id (V_b2)
  have hin6 : ¬ ((0 : Int32) < 0 ∨ cl6.slots.size ≤ ((0 : Int32)).toNatClampNeg) := inb_of S6 ⟨(by decide), (by decide)⟩
  obtain ⟨T6, h6, X6, e6, W6, st6⟩ := stR X5 hx hZ e5 Ar6 (j := (0 : Int32)) hin6 rfl (Sto.ofV Ar6 q6 Ov2 (Ins.of_exa (E_ob0.ext E2) (Wd hw 85 rfl))) (g := mkF m 22 #[vr a0d, vr b2, vi (0 : Int32)] [(.ref ob0), (.int 0), (.ref b2)]) rfl rfl (dG hby D60 16 rfl)
  have K6 : Keep h0 h6 [] := K2.wr W6 (Or.inr sz_b2)
  have O6 := O2.wr W6 g_b2
  have N6 := Fr.snoc X6 N5 g_b2
  have V6 : Arv Z h6 b2 k2 (.object "java/lang/Object") (3 : Int32) [(.ref ob0), .null, .null] .null := Arv.set Ar6 q6 S6 N6_ H6 G6 rfl W6 0 rfl (Nat.le_of_ble_eq_true rfl)
  obtain ⟨cl7, Ar7, -, S7, N7_, -, -⟩ := id (((V_a0d.ext E2).other W6 (nLt (lLt V_a0d.lt (lEq g2.symm)))))
  obtain ⟨cl8, Ar8, -, S8, N8_, H8, G8⟩ := id (((V_a0d.ext E2).other W6 (nLt (lLt V_a0d.lt (lEq g2.symm)))))
  have hin8 : ¬ ((1 : Int32) < 0 ∨ cl8.slots.size ≤ ((1 : Int32)).toNatClampNeg) := inb_of S8 ⟨(by decide), (by decide)⟩
  have hat8 : cl8.slots[((1 : Int32)).toNatClampNeg]? = some (.ref ob1) := H8.at hin8 rfl
  obtain ⟨_, _, ⟨T9, L9, k9, n9⟩, -, X9, ⟨Lc9, hQ9, l9, y9, z9⟩, st9⟩ := Jvm.LawKit.callS X6 hx (y := MN_49) hown (mvT hZ (Wd hw 394 rfl)) (mvT hZ (Wd hw 360 rfl)) (mvT hZ (Wd hw 114 rfl)) (mvT hZ (Wd hw 361 rfl)) (by decide) (backOf (W := 2) (rmRn l Z a0 hw [] cS aDE kDE aUS aSS aIE mO ob1 h6 n0 O6 GL) hZ (Wd hw 361 rfl) (Wd hw 114 rfl) (by decide) (by decide)) (g := mkF m 19 #[vr a0d, vr b2, vi (1 : Int32)] [(.ref ob1), (.int 1), (.ref b2)]) rfl (by rw [hml]; rfl) (argsL := [(.ref ob1)]) (rest := [(.int 1), (.ref b2)]) (lenOf pdv28 rfl) rfl (by show 2 * 0 + _ ≤ _; exact lEq rfl) (dG hby D60 15 rfl) (fun _ _ => ⟨rfl, e6, (by decide : 1 + 0 ≤ _), (by decide : 3 + 0 ≤ _)⟩)
  dsimp only [Pt.U, Pt.locs, Pt.cells, Pt.slots] at X9 l9 y9 z9 st9 hQ9
  subst l9 y9 z9
  obtain ⟨rfl, N9q, e9⟩ := hQ9
  have N9 := Fr.app N6 N9q
  obtain ⟨cl10, Ar10, q10, S10, N10_, H10, G10⟩ := id (V6)
  have hin10 : ¬ ((1 : Int32) < 0 ∨ cl10.slots.size ≤ ((1 : Int32)).toNatClampNeg) := inb_of S10 ⟨(by decide), (by decide)⟩
  obtain ⟨T10, h10, X10, e10, W10, st10⟩ := stR X9 hx hZ e9 Ar10 (j := (1 : Int32)) hin10 rfl (Sto.ofV Ar10 q10 Ov2 (Ins.of_exa ((E_ob1.ext E2).wr W6) (Wd hw 85 rfl))) (g := mkF m 22 #[vr a0d, vr b2, vi (1 : Int32)] [(.ref ob1), (.int 1), (.ref b2)]) rfl rfl (dG hby D60 16 rfl)
  have K10 : Keep h0 h10 [] := K6.wr W10 (Or.inr sz_b2)
  have O10 := O6.wr W10 g_b2
  have N10 := Fr.snoc X10 N9 g_b2
  have V10 : Arv Z h10 b2 k2 (.object "java/lang/Object") (3 : Int32) [(.ref ob0), (.ref ob1), .null] .null := Arv.set Ar10 q10 S10 N10_ H10 G10 rfl W10 1 rfl (Nat.le_of_ble_eq_true rfl)
  obtain ⟨cl11, Ar11, -, S11, N11_, -, -⟩ := id ((((V_a0d.ext E2).other W6 (nLt (lLt V_a0d.lt (lEq g2.symm)))).other W10 (nLt (lLt V_a0d.lt (lEq g2.symm)))))
  obtain ⟨cl12, Ar12, -, S12, N12_, H12, G12⟩ := id ((((V_a0d.ext E2).other W6 (nLt (lLt V_a0d.lt (lEq g2.symm)))).other W10 (nLt (lLt V_a0d.lt (lEq g2.symm)))))
  have hin12 : ¬ ((2 : Int32) < 0 ∨ cl12.slots.size ≤ ((2 : Int32)).toNatClampNeg) := inb_of S12 ⟨(by decide), (by decide)⟩
  have hat12 : cl12.slots[((2 : Int32)).toNatClampNeg]? = some (.ref ob2) := H12.at hin12 rfl
  obtain ⟨_, _, ⟨T13, L13, k13, n13⟩, -, X13, ⟨Lc13, hQ13, l13, y13, z13⟩, st13⟩ := Jvm.LawKit.callS X10 hx (y := MN_49) hown (mvT hZ (Wd hw 394 rfl)) (mvT hZ (Wd hw 360 rfl)) (mvT hZ (Wd hw 114 rfl)) (mvT hZ (Wd hw 361 rfl)) (by decide) (backOf (W := 2) (rmRn l Z a0 hw [] cS aDE kDE aUS aSS aIE mO ob2 h10 n0 O10 GL) hZ (Wd hw 361 rfl) (Wd hw 114 rfl) (by decide) (by decide)) (g := mkF m 19 #[vr a0d, vr b2, vi (2 : Int32)] [(.ref ob2), (.int 2), (.ref b2)]) rfl (by rw [hml]; rfl) (argsL := [(.ref ob2)]) (rest := [(.int 2), (.ref b2)]) (lenOf pdv28 rfl) rfl (by show 2 * 0 + _ ≤ _; exact lEq rfl) (dG hby D60 15 rfl) (fun _ _ => ⟨rfl, e10, (by decide : 1 + 0 ≤ _), (by decide : 3 + 0 ≤ _)⟩)
  dsimp only [Pt.U, Pt.locs, Pt.cells, Pt.slots] at X13 l13 y13 z13 st13 hQ13
  subst l13 y13 z13
  obtain ⟨rfl, N13q, e13⟩ := hQ13
  have N13 := Fr.app N10 N13q
  obtain ⟨cl14, Ar14, q14, S14, N14_, H14, G14⟩ := id (V10)
  have hin14 : ¬ ((2 : Int32) < 0 ∨ cl14.slots.size ≤ ((2 : Int32)).toNatClampNeg) := inb_of S14 ⟨(by decide), (by decide)⟩
  obtain ⟨T14, h14, X14, e14, W14, st14⟩ := stR X13 hx hZ e13 Ar14 (j := (2 : Int32)) hin14 rfl (Sto.ofV Ar14 q14 Ov2 (Ins.of_exa (((E_ob2.ext E2).wr W6).wr W10) (Wd hw 85 rfl))) (g := mkF m 22 #[vr a0d, vr b2, vi (2 : Int32)] [(.ref ob2), (.int 2), (.ref b2)]) rfl rfl (dG hby D60 16 rfl)
  have K14 : Keep h0 h14 [] := K10.wr W14 (Or.inr sz_b2)
  have O14 := O10.wr W14 g_b2
  have N14 := Fr.snoc X14 N13 g_b2
  have V14 : Arv Z h14 b2 k2 (.object "java/lang/Object") (3 : Int32) [(.ref ob0), (.ref ob1), (.ref ob2)] .null := Arv.set Ar14 q14 S14 N14_ H14 G14 rfl W14 2 rfl (Nat.le_of_ble_eq_true rfl)
  obtain ⟨cl15, Ar15, -, S15, N15_, -, -⟩ := id (((((V_a0d.ext E2).other W6 (nLt (lLt V_a0d.lt (lEq g2.symm)))).other W10 (nLt (lLt V_a0d.lt (lEq g2.symm)))).other W14 (nLt (lLt V_a0d.lt (lEq g2.symm)))))
  obtain ⟨T16, h16, X16, e16, E16, A16, D16, -, st16⟩ := newO X14 hx hZ hown (Wd hw 307 rfl) (Wd hw 395 rfl) (Wd hw 396 rfl) e14 (g := mkF m 29 #[vr a0d, vr b2, vi (3 : Int32)] []) rfl (dG hby D60 19 rfl) (by decide) (by decide)
  obtain ⟨b16, g16⟩ : ∃ z, z = h14.size := ⟨_, rfl⟩
  rw [← g16] at A16 D16 st16
  have g_b16 : n0 ≤ b16 := lTr (own_sz O14) (lEq g16.symm)
  have sz_b16 : h0.size ≤ b16 := lTr K14.1 (lEq g16.symm)
  have K16 : Keep h0 h16 [] := K14.ext E16
  have O16 := O14.ext E16
  have F_elements_b16 : Fld Z h16 b16 "java/util/ImmutableCollections$ListN" "elements" "[Ljava/lang/Object;" .null := D16 (Or.inr (Wd hw 406 rfl)) (ty := (.array (.object "java/lang/Object"))) (by decide)
  have F_allowNulls_b16 : Fld Z h16 b16 "java/util/ImmutableCollections$ListN" "allowNulls" "Z" (.int 0) := D16 (Or.inr (Wd hw 408 rfl)) (ty := .boolean) (by decide)
  obtain ⟨_, _, ⟨T17, L17, k17, n17⟩, -, X17, ⟨Lc17, hQ17, l17, y17, z17⟩, st17⟩ := X16.specialBackNest hx (y := MN_54) rfl hown (own_mvM hZ (Wd hw 397 rfl)) (mvT hZ (Wd hw 398 rfl)) (mvT hZ (Wd hw 400 rfl)) (by decide) (backOf (W := 1) (rmTn l Z a0 hw [] cS aDE kDE aUS aSS aIE mO b16 b2 h16 n0 O16 GL A16 F_elements_b16 F_allowNulls_b16 g_b16) hZ (Wd hw 400 rfl) (Wd hw 396 rfl) (by decide) (by decide)) (g := mkF m 35 #[vr a0d, vr b2, vi (3 : Int32)] [(.int 0), (.ref b2), (.ref b16), (.ref b16)]) rfl (by rw [hml]; rfl) (Steps.refl _) (a := b16) (argsL := [(.ref b2), (.int 0)]) (rest := [(.ref b16)]) (lenOf pdv29 rfl) rfl (by show 2 * 0 + _ ≤ _; exact lEq rfl) (dG hby D60 23 rfl) (fun _ _ => ⟨rfl, e16, (by decide : 2 + 0 ≤ _), (by decide : 5 + 0 ≤ _)⟩)
  dsimp only [Pt.U, Pt.locs, Pt.cells, Pt.slots] at X17 l17 y17 z17 st17 hQ17
  subst l17 y17 z17
  obtain ⟨rfl, N17q, Kc17, P17_0, P17_1⟩ := hQ17
  have K17 : Keep h0 T17.heap [] := K16.trans Kc17 (allS (Or.inr sz_b16) all0)
  have O17 := O16.keep Kc17 (allS g_b16 all0)
  have N17 := Fr.app N14 N17q
  obtain ⟨fs, hr, hrun, hended, hW, hsame⟩ := X17.leave (v := some (.ref b16)) (fun h => by rw [Bd.returns] at h; cases h)
  refine ⟨_, _, pre0 _ ?_, hrun, hended, _, _, rfl, ?_, ⟨_, rfl⟩, hW, hsame.mono (by decide) (by decide)⟩
  · show SP p e below s₁ m 0 #[vr a0d, .unset, .unset] [] _
    refine XS.aloadN X0.here hx rfl (dG hby D60 0 rfl) rfl rfl ?_
    show SP p e below s₁ m 1 #[vr a0d, .unset, .unset] [(.ref a0d)] _
    refine X0.arraylength hx (by rw [e0]; exact Ar1.1) (State.isArrayOf_alike hZ.alike Ar1.2.1) (g := mkF m 1 #[vr a0d, .unset, .unset] [(.ref a0d)]) rfl rfl (dG hby D60 1 rfl) _ ?_
    rw [len_of S1 N1_]
    show SP p e below s₁ m 2 #[vr a0d, .unset, .unset] [(.int 3)] _
    refine st2 _ ?_
    show SP p e below T2 m 5 #[vr a0d, .unset, .unset] [(.ref b2)] _
    refine XS.astoreN X2.here hx rfl (dG hby D60 3 rfl) rfl rfl (l' := #[vr a0d, vr b2, .unset]) rfl ?_
    refine XS.iconst X2.here hx rfl (dG hby D60 4 rfl) ?_
    refine XS.istoreN X2.here hx rfl (dG hby D60 5 rfl) rfl (l' := #[vr a0d, vr b2, vi (0 : Int32)]) rfl ?_
    refine XS.iloadN X2.here hx rfl (dG hby D60 6 rfl) rfl ?_
    refine XS.aloadN X2.here hx rfl (dG hby D60 7 rfl) rfl rfl ?_
    show SP p e below T2 m 10 #[vr a0d, vr b2, vi (0 : Int32)] [(.ref a0d), (.int 0)] _
    refine X2.arraylength hx (by rw [e2]; exact Ar3.1) (State.isArrayOf_alike hZ.alike Ar3.2.1) (g := mkF m 10 #[vr a0d, vr b2, vi (0 : Int32)] [(.ref a0d), (.int 0)]) rfl rfl (dG hby D60 8 rfl) _ ?_
    rw [len_of S3 N3_]
    show SP p e below T2 m 11 #[vr a0d, vr b2, vi (0 : Int32)] [(.int 3), (.int 0)] _
    refine XS.icmpNo X2.here hx rfl (dG hby D60 9 rfl) rfl (tlt (by decide : (0 : Int32) < (3 : Int32))).2.1 ?_
    refine XS.aloadN X2.here hx rfl (dG hby D60 10 rfl) rfl rfl ?_
    refine XS.iloadN X2.here hx rfl (dG hby D60 11 rfl) rfl ?_
    refine XS.aloadN X2.here hx rfl (dG hby D60 12 rfl) rfl rfl ?_
    refine XS.iloadN X2.here hx rfl (dG hby D60 13 rfl) rfl ?_
    show SP p e below T2 m 18 #[vr a0d, vr b2, vi (0 : Int32)] [(.int 0), (.ref a0d), (.int 0), (.ref b2)] _
    refine X2.aaload hx (j := (0 : Int32)) (v := (.ref ob0)) (by rw [e2]; exact Ar4.1) (State.isArrayOf_alike hZ.alike Ar4.2.1) rfl Ar4.2.2 hin4 hat4 (g := mkF m 18 #[vr a0d, vr b2, vi (0 : Int32)] [(.int 0), (.ref a0d), (.int 0), (.ref b2)]) rfl rfl (dG hby D60 14 rfl) _ ?_
    show SP p e below T2 m 19 #[vr a0d, vr b2, vi (0 : Int32)] [(.ref ob0), (.int 0), (.ref b2)] _
    refine st5 _ ?_
    show SP p e below T5 m 22 #[vr a0d, vr b2, vi (0 : Int32)] [(.ref ob0), (.int 0), (.ref b2)] _
    refine st6 _ ?_
    show SP p e below T6 m 23 #[vr a0d, vr b2, vi (0 : Int32)] [] _
    refine XS.iinc X6.here hx rfl (dG hby D60 17 rfl) rfl (l' := #[vr a0d, vr b2, vi (1 : Int32)]) rfl ?_
    refine XS.goto X6.here hx rfl (pc0 := 26) (pc' := 8) rfl (dG hby D60 18 rfl) (by decide) (by decide) ?_
    refine XS.iloadN X6.here hx rfl (dG hby D60 6 rfl) rfl ?_
    refine XS.aloadN X6.here hx rfl (dG hby D60 7 rfl) rfl rfl ?_
    show SP p e below T6 m 10 #[vr a0d, vr b2, vi (1 : Int32)] [(.ref a0d), (.int 1)] _
    refine X6.arraylength hx (by rw [e6]; exact Ar7.1) (State.isArrayOf_alike hZ.alike Ar7.2.1) (g := mkF m 10 #[vr a0d, vr b2, vi (1 : Int32)] [(.ref a0d), (.int 1)]) rfl rfl (dG hby D60 8 rfl) _ ?_
    rw [len_of S7 N7_]
    show SP p e below T6 m 11 #[vr a0d, vr b2, vi (1 : Int32)] [(.int 3), (.int 1)] _
    refine XS.icmpNo X6.here hx rfl (dG hby D60 9 rfl) rfl (tlt (by decide : (1 : Int32) < (3 : Int32))).2.1 ?_
    refine XS.aloadN X6.here hx rfl (dG hby D60 10 rfl) rfl rfl ?_
    refine XS.iloadN X6.here hx rfl (dG hby D60 11 rfl) rfl ?_
    refine XS.aloadN X6.here hx rfl (dG hby D60 12 rfl) rfl rfl ?_
    refine XS.iloadN X6.here hx rfl (dG hby D60 13 rfl) rfl ?_
    show SP p e below T6 m 18 #[vr a0d, vr b2, vi (1 : Int32)] [(.int 1), (.ref a0d), (.int 1), (.ref b2)] _
    refine X6.aaload hx (j := (1 : Int32)) (v := (.ref ob1)) (by rw [e6]; exact Ar8.1) (State.isArrayOf_alike hZ.alike Ar8.2.1) rfl Ar8.2.2 hin8 hat8 (g := mkF m 18 #[vr a0d, vr b2, vi (1 : Int32)] [(.int 1), (.ref a0d), (.int 1), (.ref b2)]) rfl rfl (dG hby D60 14 rfl) _ ?_
    show SP p e below T6 m 19 #[vr a0d, vr b2, vi (1 : Int32)] [(.ref ob1), (.int 1), (.ref b2)] _
    refine st9 _ ?_
    show SP p e below T9 m 22 #[vr a0d, vr b2, vi (1 : Int32)] [(.ref ob1), (.int 1), (.ref b2)] _
    refine st10 _ ?_
    show SP p e below T10 m 23 #[vr a0d, vr b2, vi (1 : Int32)] [] _
    refine XS.iinc X10.here hx rfl (dG hby D60 17 rfl) rfl (l' := #[vr a0d, vr b2, vi (2 : Int32)]) rfl ?_
    refine XS.goto X10.here hx rfl (pc0 := 26) (pc' := 8) rfl (dG hby D60 18 rfl) (by decide) (by decide) ?_
    refine XS.iloadN X10.here hx rfl (dG hby D60 6 rfl) rfl ?_
    refine XS.aloadN X10.here hx rfl (dG hby D60 7 rfl) rfl rfl ?_
    show SP p e below T10 m 10 #[vr a0d, vr b2, vi (2 : Int32)] [(.ref a0d), (.int 2)] _
    refine X10.arraylength hx (by rw [e10]; exact Ar11.1) (State.isArrayOf_alike hZ.alike Ar11.2.1) (g := mkF m 10 #[vr a0d, vr b2, vi (2 : Int32)] [(.ref a0d), (.int 2)]) rfl rfl (dG hby D60 8 rfl) _ ?_
    rw [len_of S11 N11_]
    show SP p e below T10 m 11 #[vr a0d, vr b2, vi (2 : Int32)] [(.int 3), (.int 2)] _
    refine XS.icmpNo X10.here hx rfl (dG hby D60 9 rfl) rfl (tlt (by decide : (2 : Int32) < (3 : Int32))).2.1 ?_
    refine XS.aloadN X10.here hx rfl (dG hby D60 10 rfl) rfl rfl ?_
    refine XS.iloadN X10.here hx rfl (dG hby D60 11 rfl) rfl ?_
    refine XS.aloadN X10.here hx rfl (dG hby D60 12 rfl) rfl rfl ?_
    refine XS.iloadN X10.here hx rfl (dG hby D60 13 rfl) rfl ?_
    show SP p e below T10 m 18 #[vr a0d, vr b2, vi (2 : Int32)] [(.int 2), (.ref a0d), (.int 2), (.ref b2)] _
    refine X10.aaload hx (j := (2 : Int32)) (v := (.ref ob2)) (by rw [e10]; exact Ar12.1) (State.isArrayOf_alike hZ.alike Ar12.2.1) rfl Ar12.2.2 hin12 hat12 (g := mkF m 18 #[vr a0d, vr b2, vi (2 : Int32)] [(.int 2), (.ref a0d), (.int 2), (.ref b2)]) rfl rfl (dG hby D60 14 rfl) _ ?_
    show SP p e below T10 m 19 #[vr a0d, vr b2, vi (2 : Int32)] [(.ref ob2), (.int 2), (.ref b2)] _
    refine st13 _ ?_
    show SP p e below T13 m 22 #[vr a0d, vr b2, vi (2 : Int32)] [(.ref ob2), (.int 2), (.ref b2)] _
    refine st14 _ ?_
    show SP p e below T14 m 23 #[vr a0d, vr b2, vi (2 : Int32)] [] _
    refine XS.iinc X14.here hx rfl (dG hby D60 17 rfl) rfl (l' := #[vr a0d, vr b2, vi (3 : Int32)]) rfl ?_
    refine XS.goto X14.here hx rfl (pc0 := 26) (pc' := 8) rfl (dG hby D60 18 rfl) (by decide) (by decide) ?_
    refine XS.iloadN X14.here hx rfl (dG hby D60 6 rfl) rfl ?_
    refine XS.aloadN X14.here hx rfl (dG hby D60 7 rfl) rfl rfl ?_
    show SP p e below T14 m 10 #[vr a0d, vr b2, vi (3 : Int32)] [(.ref a0d), (.int 3)] _
    refine X14.arraylength hx (by rw [e14]; exact Ar15.1) (State.isArrayOf_alike hZ.alike Ar15.2.1) (g := mkF m 10 #[vr a0d, vr b2, vi (3 : Int32)] [(.ref a0d), (.int 3)]) rfl rfl (dG hby D60 8 rfl) _ ?_
    rw [len_of S15 N15_]
    show SP p e below T14 m 11 #[vr a0d, vr b2, vi (3 : Int32)] [(.int 3), (.int 3)] _
    refine XS.icmpYes X14.here hx rfl (pc0 := 11) (pc' := 29) rfl (dG hby D60 9 rfl) rfl (flt (by decide : ¬ ((3 : Int32) < (3 : Int32)))).2.1 (by decide) (by decide) ?_
    show SP p e below T14 m 29 #[vr a0d, vr b2, vi (3 : Int32)] [] _
    refine st16 _ ?_
    show SP p e below T16 m 32 #[vr a0d, vr b2, vi (3 : Int32)] [(.ref b16)] _
    refine XS.dup X16.here hx rfl (dG hby D60 20 rfl) rfl rfl ?_
    refine XS.aloadN X16.here hx rfl (dG hby D60 21 rfl) rfl rfl ?_
    refine XS.iconst X16.here hx rfl (dG hby D60 22 rfl) ?_
    show SP p e below T16 m 35 #[vr a0d, vr b2, vi (3 : Int32)] [(.int 0), (.ref b2), (.ref b16), (.ref b16)] _
    refine st17.trans ?_
    show SP p e below T17 m 38 #[vr a0d, vr b2, vi (3 : Int32)] [(.ref b16)] _
    exact retA X17 hx Bd.returns rfl (dG hby D60 24 rfl) hr
  · show Q_rmLfa n0 Z cS aDE kDE aUS aSS aIE mO a0d ka ob0 ob1 ob2 h0 _ T17.heap _
    exact ⟨b16, b2, k2, rfl, N17, K17, sz_b16, sz_b2, P17_0, P17_1, ((V14.ext E16).keep Kc17 (ninS (nLt (lLt (lLt V_b2.lt (lTr (lTr (Keep.of_wr W6).1 (Keep.of_wr W10).1) (Keep.of_wr W14).1)) (lEq g16.symm))) nin0))⟩
theorem D51 : dL jdk_40_method_47_code [(0, .aload_n 0, 1), (1, .arraylength, 1), (2, .tableswitch 57 0 2 #[26, 32, 43], 26), (34, .new 96, 3), (37, .dup, 1), (38, .aload_n 0, 1), (39, .iconst 0, 1), (40, .aaload, 1), (41, .invokespecial 98, 3), (44, .areturn, 1), (45, .new 96, 3), (48, .dup, 1), (49, .aload_n 0, 1), (50, .iconst 0, 1), (51, .aaload, 1), (52, .aload_n 0, 1), (53, .iconst 1, 1), (54, .aaload, 1), (55, .invokespecial 100, 3), (58, .areturn, 1), (59, .aload_n 0, 1), (60, .invokestatic 109, 3), (63, .areturn, 1)] = true := by decide +kernel
theorem pdv30 : parseMethodDescriptor "(Ljava/lang/Object;)V" = some ⟨[(.object "java/lang/Object")], none⟩ := by decide +kernel
theorem pnv18 : plainName "java/util/List" = true := by first | (simp [plainName, overriddenIn]; done) | decide +kernel
abbrev MN_56 : MethodName := ⟨"java/util/List", "of", "([Ljava/lang/Object;)Ljava/util/List;"⟩
theorem ef_rmLo_1 (m : MethodId) (a0d : Addr) : entryFrame m #[(.ref a0d)] 2 = mkF m 0 #[vr a0d, .unset] [] := by first | (simp [entryFrame, mkF, argsToLocals, Value.category]; done) | rfl
def Q_rmLo_1 (n0 : Nat) (Z : State) (cS : Int32) (aDE : Addr) (kDE : ClassId) (aUS : Addr) (aSS : Addr) (aIE : Addr) (mO : Addr) (a0d : Addr) (ka : ClassId) (ob0 : Addr) (h0 : Heap) (v : Option Value) (h : Heap) (L : List Loc) : Prop := ∃ b : Addr, v = some (.ref b) ∧ Fr n0 L ∧ Keep h0 h [] ∧ (h0.size ≤ b) ∧ (Exa Z h b "java/util/ImmutableCollections$List12") ∧ (Fld Z h b "java/util/ImmutableCollections$List12" "e0" "Ljava/lang/Object;" (.ref ob0))
theorem rmLo_1 (l : Launch) (Z : State) (a0 : Array Value) (hw : ∀ d ∈ tables_1, d.before a0 Z = true) (ws : List Jvm.Cond) (cS : Int32) (aDE : Addr) (kDE : ClassId) (aUS : Addr) (aSS : Addr) (aIE : Addr) (mO : Addr) (a0d : Addr) (ka : ClassId) (ob0 : Addr) (h0 : Heap) (n0 : Nat) (O0 : Old Z n0 h0) (GL : GF Z cS aDE kDE aUS aSS aIE mO) (V_a0d : Arv Z h0 a0d ka (.object "java/lang/Object") (1 : Int32) [(.ref ob0)] .null) (E_ob0 : Exa Z h0 ob0 "com/example/grantline/grantline/PolicyException$Problem") :
    MF l MN_56 jdk_40_method_47_code 2 (some (.object "java/util/List")) ws (Rm 5 1 2 62) #[(.ref a0d)] Z h0 (Q_rmLo_1 n0 Z cS aDE kDE aUS aSS aIE mO a0d ka ob0 h0) := by
  refine MetFree.of_bodySF (plainFor_of_name pnv18) hisR ?_
  intro p e s m args below meth c s₁ Bd hml0 hP hK
  obtain ⟨rfl, hZ, hh⟩ := hP
  have hx := Bd.exec
  have hby := Bd.bytes
  have hml : c.maxLocals = 2 := hml0
  have hown : s.vm.findClass "java/util/List" = some m.cls := findClass_of_methodNamed Bd.named
  have hnm := (name_of_methodNamed Bd.named Bd.method).1
  have X0 : Stand p l e (Rm 5 1 2 62) s m #[(.ref a0d)] below meth c s₁ [] 0 0 := Stand.of_body Bd
  have e0 : s₁.heap = h0 := by rw [← hh, Bd.state]; rfl
  have N0 := Fr.nil n0
  have pre0 : ∀ t, SP p e below s₁ m 0 #[vr a0d, .unset] [] t → Steps p.tables e below (s₁.setTop (entryFrame m #[(.ref a0d)] 2)) t := fun t k => castTop (ef_rmLo_1 m a0d) k
  have GL' := GL
  obtain ⟨GCS, GCP, GDE, GVE, GUS, GSS, GIE, GMO⟩ := GL'
  obtain ⟨cl1, Ar1, -, S1, N1_, -, -⟩ := id (V_a0d)
  obtain ⟨T2, h2, X2, e2, E2, A2, D2, -, st2⟩ := newO X0 hx hZ hown (Wd hw 338 rfl) (Wd hw 339 rfl) (Wd hw 340 rfl) e0 (g := mkF m 34 #[vr a0d, .unset] []) rfl (dG hby D51 3 rfl) (by decide) (by decide)
  obtain ⟨b2, g2⟩ : ∃ z, z = h0.size := ⟨_, rfl⟩
  rw [← g2] at A2 D2 st2
  have g_b2 : n0 ≤ b2 := lTr (own_sz O0) (lEq g2.symm)
  have sz_b2 : h0.size ≤ b2 := lTr (Keep.refl h0 []).1 (lEq g2.symm)
  have K2 : Keep h0 h2 [] := (Keep.refl h0 []).ext E2
  have O2 := O0.ext E2
  have F_e0_b2 : Fld Z h2 b2 "java/util/ImmutableCollections$List12" "e0" "Ljava/lang/Object;" .null := D2 (Or.inr (Wd hw 363 rfl)) (ty := (.object "java/lang/Object")) (by decide)
  have F_e1_b2 : Fld Z h2 b2 "java/util/ImmutableCollections$List12" "e1" "Ljava/lang/Object;" .null := D2 (Or.inr (Wd hw 366 rfl)) (ty := (.object "java/lang/Object")) (by decide)
  obtain ⟨cl3, Ar3, -, S3, N3_, H3, G3⟩ := id ((V_a0d.ext E2))
  have hin3 : ¬ ((0 : Int32) < 0 ∨ cl3.slots.size ≤ ((0 : Int32)).toNatClampNeg) := inb_of S3 ⟨(by decide), (by decide)⟩
  have hat3 : cl3.slots[((0 : Int32)).toNatClampNeg]? = some (.ref ob0) := H3.at hin3 rfl
  obtain ⟨_, _, ⟨T4, L4, k4, n4⟩, -, X4, ⟨Lc4, hQ4, l4, y4, z4⟩, st4⟩ := X2.specialBack hx (y := MN_52) rfl hown (mvT hZ (Wd hw 341 rfl)) (mvT hZ (Wd hw 342 rfl)) (mvT hZ (Wd hw 344 rfl)) (by decide) (backOf (W := 1) (rmT1 l Z a0 hw [] cS aDE kDE aUS aSS aIE mO b2 ob0 h2 n0 O2 GL A2 F_e0_b2 F_e1_b2 g_b2) hZ (Wd hw 344 rfl) (Wd hw 340 rfl) (by decide) (by decide)) (g := mkF m 41 #[vr a0d, .unset] [(.ref ob0), (.ref b2), (.ref b2)]) rfl (by rw [hml]; rfl) (Steps.refl _) (a := b2) (argsL := [(.ref ob0)]) (rest := [(.ref b2)]) (lenOf pdv30 rfl) rfl (by show 2 * 0 + _ ≤ _; exact lEq rfl) (dG hby D51 8 rfl) (fun _ _ => ⟨rfl, e2, (by decide : 1 + 0 ≤ _), (by decide : 2 + 0 ≤ _)⟩)
  dsimp only [Pt.U, Pt.locs, Pt.cells, Pt.slots] at X4 l4 y4 z4 st4 hQ4
  subst l4 y4 z4
  obtain ⟨rfl, N4q, Kc4, P4_0, P4_1, P4_2⟩ := hQ4
  have K4 : Keep h0 T4.heap [] := K2.trans Kc4 (allS (Or.inr sz_b2) all0)
  have O4 := O2.keep Kc4 (allS g_b2 all0)
  have N4 := Fr.app N0 N4q
  obtain ⟨fs, hr, hrun, hended, hW, hsame⟩ := X4.leave (v := some (.ref b2)) (fun h => by rw [Bd.returns] at h; cases h)
  refine ⟨_, _, pre0 _ ?_, hrun, hended, _, _, rfl, ?_, ⟨_, rfl⟩, hW, hsame.mono (by decide) (by decide)⟩
  · show SP p e below s₁ m 0 #[vr a0d, .unset] [] _
    refine XS.aloadN X0.here hx rfl (dG hby D51 0 rfl) rfl rfl ?_
    show SP p e below s₁ m 1 #[vr a0d, .unset] [(.ref a0d)] _
    refine X0.arraylength hx (by rw [e0]; exact Ar1.1) (State.isArrayOf_alike hZ.alike Ar1.2.1) (g := mkF m 1 #[vr a0d, .unset] [(.ref a0d)]) rfl rfl (dG hby D51 1 rfl) _ ?_
    rw [len_of S1 N1_]
    show SP p e below s₁ m 2 #[vr a0d, .unset] [(.int 1)] _
    refine XS.tswIn X0.here hx rfl (o := 32) (pc0 := 2) (pc' := 34) rfl (dG hby D51 2 rfl) rfl (by decide) (by decide) (by decide) (by decide) ?_
    show SP p e below s₁ m 34 #[vr a0d, .unset] [] _
    refine st2 _ ?_
    show SP p e below T2 m 37 #[vr a0d, .unset] [(.ref b2)] _
    refine XS.dup X2.here hx rfl (dG hby D51 4 rfl) rfl rfl ?_
    refine XS.aloadN X2.here hx rfl (dG hby D51 5 rfl) rfl rfl ?_
    refine XS.iconst X2.here hx rfl (dG hby D51 6 rfl) ?_
    show SP p e below T2 m 40 #[vr a0d, .unset] [(.int 0), (.ref a0d), (.ref b2), (.ref b2)] _
    refine X2.aaload hx (j := (0 : Int32)) (v := (.ref ob0)) (by rw [e2]; exact Ar3.1) (State.isArrayOf_alike hZ.alike Ar3.2.1) rfl Ar3.2.2 hin3 hat3 (g := mkF m 40 #[vr a0d, .unset] [(.int 0), (.ref a0d), (.ref b2), (.ref b2)]) rfl rfl (dG hby D51 7 rfl) _ ?_
    show SP p e below T2 m 41 #[vr a0d, .unset] [(.ref ob0), (.ref b2), (.ref b2)] _
    refine st4.trans ?_
    show SP p e below T4 m 44 #[vr a0d, .unset] [(.ref b2)] _
    exact retA X4 hx Bd.returns rfl (dG hby D51 9 rfl) hr
  · show Q_rmLo_1 n0 Z cS aDE kDE aUS aSS aIE mO a0d ka ob0 h0 _ T4.heap _
    exact ⟨b2, rfl, N4, K4, sz_b2, P4_0, P4_1⟩
theorem D47 : dL jdk_56_method_3_code [(0, .aload_n 0, 1), (1, .instanceof 10, 3), (4, .ifCond .ne 22, 3), (7, .aload_n 0, 1), (8, .instanceof 12, 3), (11, .ifCond .eq 20, 3), (31, .aload_n 0, 1), (32, .invokeinterface 20 1, 5), (37, .ifCond .eq 7, 3), (44, .aload_n 0, 1), (45, .invokeinterface 30 1, 5), (50, .invokestatic 34, 3), (53, .areturn, 1)] = true := by decide +kernel
abbrev MN_57 : MethodName := ⟨"java/util/Collection", "isEmpty", "()Z"⟩
abbrev MN_58 : MethodName := ⟨"java/util/Collection", "toArray", "()[Ljava/lang/Object;"⟩
theorem pdv31 : parseMethodDescriptor "([Ljava/lang/Object;)Ljava/util/List;" = some ⟨[(.array (.object "java/lang/Object"))], some (.object "java/util/List")⟩ := by decide +kernel
abbrev MN_59 : MethodName := ⟨"java/util/ImmutableCollections", "listCopy", "(Ljava/util/Collection;)Ljava/util/List;"⟩
theorem ef_rmLk_1 (m : MethodId) (a0l : Addr) : entryFrame m #[(.ref a0l)] 2 = mkF m 0 #[vr a0l, .unset] [] := by first | (simp [entryFrame, mkF, argsToLocals, Value.category]; done) | rfl
def Q_rmLk_1 (n0 : Nat) (Z : State) (cS : Int32) (aDE : Addr) (kDE : ClassId) (aUS : Addr) (aSS : Addr) (aIE : Addr) (mO : Addr) (a0l : Addr) (ae : Addr) (ka : ClassId) (ob0 : Addr) (h0 : Heap) (v : Option Value) (h : Heap) (L : List Loc) : Prop := ∃ b : Addr, v = some (.ref b) ∧ Fr n0 L ∧ Keep h0 h [] ∧ (h0.size ≤ b) ∧ (Exa Z h b "java/util/ImmutableCollections$List12") ∧ (Fld Z h b "java/util/ImmutableCollections$List12" "e0" "Ljava/lang/Object;" (.ref ob0))
theorem rmLk_1 (l : Launch) (Z : State) (a0 : Array Value) (hw : ∀ d ∈ tables_1, d.before a0 Z = true) (ws : List Jvm.Cond) (cS : Int32) (aDE : Addr) (kDE : ClassId) (aUS : Addr) (aSS : Addr) (aIE : Addr) (mO : Addr) (a0l : Addr) (ae : Addr) (ka : ClassId) (ob0 : Addr) (h0 : Heap) (n0 : Nat) (O0 : Old Z n0 h0) (GL : GF Z cS aDE kDE aUS aSS aIE mO) (E_a0l : Exa Z h0 a0l "java/util/ArrayList") (F_elementData_a0l : Fld Z h0 a0l "java/util/ArrayList" "elementData" "[Ljava/lang/Object;" (.ref ae)) (F_size_a0l : Fld Z h0 a0l "java/util/ArrayList" "size" "I" (.int 1)) (E_ae : Exa Z h0 ae "[Ljava/lang/Object;") (V_ae : Arv Z h0 ae ka (.object "java/lang/Object") (10 : Int32) [(.ref ob0), .null, .null, .null, .null, .null, .null, .null, .null, .null] .null) (E_ob0 : Exa Z h0 ob0 "com/example/grantline/grantline/PolicyException$Problem") :
    MF l MN_59 jdk_56_method_3_code 2 (some (.object "java/util/List")) ws (Rm 6 2 3 75) #[(.ref a0l)] Z h0 (Q_rmLk_1 n0 Z cS aDE kDE aUS aSS aIE mO a0l ae ka ob0 h0) := by
  refine MetFree.of_bodySF (plainFor_of_name pnv17) hisR ?_
  intro p e s m args below meth c s₁ Bd hml0 hP hK
  obtain ⟨rfl, hZ, hh⟩ := hP
  have hx := Bd.exec
  have hby := Bd.bytes
  have hml : c.maxLocals = 2 := hml0
  have hown : s.vm.findClass "java/util/ImmutableCollections" = some m.cls := findClass_of_methodNamed Bd.named
  have hnm := (name_of_methodNamed Bd.named Bd.method).1
  have X0 : Stand p l e (Rm 6 2 3 75) s m #[(.ref a0l)] below meth c s₁ [] 0 0 := Stand.of_body Bd
  have e0 : s₁.heap = h0 := by rw [← hh, Bd.state]; rfl
  have N0 := Fr.nil n0
  have pre0 : ∀ t, SP p e below s₁ m 0 #[vr a0l, .unset] [] t → Steps p.tables e below (s₁.setTop (entryFrame m #[(.ref a0l)] 2)) t := fun t k => castTop (ef_rmLk_1 m a0l) k
  have GL' := GL
  obtain ⟨GCS, GCP, GDE, GVE, GUS, GSS, GIE, GMO⟩ := GL'
  obtain ⟨T1, X1, e1, st1⟩ := instNo X0 hx hZ hown (Wd hw 302 rfl) e0 E_a0l (own_nsNo (Wd hw 303 rfl) (Wd hw 339 rfl) (NS.step (Wd hw 303 rfl) (NS.step (Wd hw 304 rfl) (NS.step (Wd hw 305 rfl) (own_nsRoot (Wd hw 306 rfl) (Wd hw 339 rfl) (by decide)) (by decide)) (by decide)) (by decide)) (by decide)) (g := mkF m 1 #[vr a0l, .unset] [(.ref a0l)]) rfl rfl (dG hby D47 1 rfl)
  obtain ⟨T2, X2, e2, st2⟩ := instNo X1 hx hZ hown (Wd hw 307 rfl) e1 E_a0l (own_nsNo (Wd hw 303 rfl) (Wd hw 395 rfl) (NS.step (Wd hw 303 rfl) (NS.step (Wd hw 304 rfl) (NS.step (Wd hw 305 rfl) (own_nsRoot (Wd hw 306 rfl) (Wd hw 395 rfl) (by decide)) (by decide)) (by decide)) (by decide)) (by decide)) (g := mkF m 8 #[vr a0l, .unset] [(.ref a0l)]) rfl rfl (dG hby D47 4 rfl)
  obtain ⟨cq3, kq3, q3a, q3b, q3c⟩ := isOf hZ e2 E_a0l
  obtain ⟨_, _, ⟨T3, L3, k3, n3⟩, -, X3, ⟨Lc3, hQ3, l3, y3, z3⟩, st3⟩ := X2.interfaceBack hx (xi := MN_57) (y := MN_38) hown (mvT hZ (Wd hw 308 rfl)) (mvT hZ (Wd hw 309 rfl)) (mvT hZ (Wd hw 310 rfl)) (mvT hZ (Wd hw 311 rfl)) (mvT hZ (Wd hw 99 rfl)) (mvT hZ (Wd hw 100 rfl)) (mvT hZ (Wd hw 101 rfl)) (mvT hZ (Wd hw 312 rfl)) (by decide) (backOf (W := 0) (rmIe l Z a0 hw [] cS aDE kDE aUS aSS aIE mO a0l ((1 : Int32)) h0 n0 O0 GL F_size_a0l (by decide)) hZ (Wd hw 103 rfl) (Wd hw 15 rfl) (by decide) (by decide)) q3a q3b q3c (g := mkF m 32 #[vr a0l, .unset] [(.ref a0l)]) rfl (by rw [hml]; rfl) (Steps.refl _) (argsL := []) (rest := []) (lenOf pdv15 rfl) rfl (by show 2 * 0 + _ ≤ _; exact lEq rfl) (dG hby D47 7 rfl) (fun _ _ => ⟨rfl, e2, (by decide : 0 + 0 ≤ _), (by decide : 0 + 0 ≤ _)⟩)
  dsimp only [Pt.U, Pt.locs, Pt.cells, Pt.slots] at X3 l3 y3 z3 st3 hQ3
  subst l3 y3 z3
  obtain ⟨rfl, N3q, e3⟩ := hQ3
  have N3 := Fr.app N0 N3q
  obtain ⟨cq4, kq4, q4a, q4b, q4c⟩ := isOf hZ e3 E_a0l
  obtain ⟨_, _, ⟨T4, L4, k4, n4⟩, -, X4, ⟨Lc4, hQ4, l4, y4, z4⟩, st4⟩ := X3.interfaceBack hx (xi := MN_58) (y := MN_48) hown (mvT hZ (Wd hw 313 rfl)) (mvT hZ (Wd hw 314 rfl)) (mvT hZ (Wd hw 315 rfl)) (mvT hZ (Wd hw 316 rfl)) (mvT hZ (Wd hw 317 rfl)) (mvT hZ (Wd hw 318 rfl)) (mvT hZ (Wd hw 319 rfl)) (mvT hZ (Wd hw 312 rfl)) (by decide) (backOf (W := 0) (rmTa_1 l Z a0 hw [] cS aDE kDE aUS aSS aIE mO a0l ae ka ob0 h0 n0 O0 GL E_a0l F_elementData_a0l F_size_a0l E_ae V_ae E_ob0) hZ (Wd hw 320 rfl) (Wd hw 15 rfl) (by decide) (by decide)) q4a q4b q4c (g := mkF m 45 #[vr a0l, .unset] [(.ref a0l)]) rfl (by rw [hml]; rfl) (Steps.refl _) (argsL := []) (rest := []) (lenOf pdv22 rfl) rfl (by show 2 * 0 + _ ≤ _; exact lEq rfl) (dG hby D47 10 rfl) (fun _ _ => ⟨rfl, e3, (by decide : 0 + 1 ≤ _), (by decide : 0 + 1 ≤ _)⟩)
  dsimp only [Pt.U, Pt.locs, Pt.cells, Pt.slots] at X4 l4 y4 z4 st4 hQ4
  subst l4 y4 z4
  obtain ⟨b_4, kb_4, rfl, N4q, Kc4, P4_0, P4_1⟩ := hQ4
  have K4 : Keep h0 T4.heap [] := (Keep.refl h0 []).trans Kc4 all0
  have O4 := O0.keep Kc4 all0
  have g_b_4 : n0 ≤ b_4 := lTr (own_sz O0) P4_0
  have sz_b_4 : h0.size ≤ b_4 := lTr (Keep.refl h0 []).1 P4_0
  have N4 := Fr.app N3 N4q
  obtain ⟨_, _, ⟨T5, L5, k5, n5⟩, -, X5, ⟨Lc5, hQ5, l5, y5, z5⟩, st5⟩ := Jvm.LawKit.callS X4 hx (y := MN_56) hown (mvT hZ (Wd hw 335 rfl)) (mvT hZ (Wd hw 336 rfl)) (mvT hZ (Wd hw 296 rfl)) (mvT hZ (Wd hw 337 rfl)) (by decide) (backOf (W := 0) (rmLo_1 l Z a0 hw [] cS aDE kDE aUS aSS aIE mO b_4 kb_4 ob0 (T4.heap) n0 O4 GL P4_1 (E_ob0.keep Kc4)) hZ (Wd hw 337 rfl) (Wd hw 296 rfl) (by decide) (by decide)) (g := mkF m 50 #[vr a0l, .unset] [(.ref b_4)]) rfl (by rw [hml]; rfl) (argsL := [(.ref b_4)]) (rest := []) (lenOf pdv31 rfl) rfl (by show 2 * 0 + _ ≤ _; exact lEq rfl) (dG hby D47 11 rfl) (fun _ _ => ⟨rfl, rfl, (by decide : 1 + 1 ≤ _), (by decide : 1 + 2 ≤ _)⟩)
  dsimp only [Pt.U, Pt.locs, Pt.cells, Pt.slots] at X5 l5 y5 z5 st5 hQ5
  subst l5 y5 z5
  obtain ⟨b_5, rfl, N5q, Kc5, P5_0, P5_1, P5_2⟩ := hQ5
  have K5 : Keep h0 T5.heap [] := K4.trans Kc5 all0
  have O5 := O4.keep Kc5 all0
  have g_b_5 : n0 ≤ b_5 := lTr (own_sz O4) P5_0
  have sz_b_5 : h0.size ≤ b_5 := lTr K4.1 P5_0
  have N5 := Fr.app N4 N5q
  obtain ⟨fs, hr, hrun, hended, hW, hsame⟩ := X5.leave (v := some (.ref b_5)) (fun h => by rw [Bd.returns] at h; cases h)
  refine ⟨_, _, pre0 _ ?_, hrun, hended, _, _, rfl, ?_, ⟨_, rfl⟩, hW, hsame.mono (by decide) (by decide)⟩
  · show SP p e below s₁ m 0 #[vr a0l, .unset] [] _
    refine XS.aloadN X0.here hx rfl (dG hby D47 0 rfl) rfl rfl ?_
    show SP p e below s₁ m 1 #[vr a0l, .unset] [(.ref a0l)] _
    refine st1 _ ?_
    show SP p e below T1 m 4 #[vr a0l, .unset] [(.int 0)] _
    refine XS.ifNo X1.here hx rfl (dG hby D47 2 rfl) rfl ((if0 _ _).trans (teq (by decide : (0 : Int32) = (0 : Int32))).2) ?_
    refine XS.aloadN X1.here hx rfl (dG hby D47 3 rfl) rfl rfl ?_
    show SP p e below T1 m 8 #[vr a0l, .unset] [(.ref a0l)] _
    refine st2 _ ?_
    show SP p e below T2 m 11 #[vr a0l, .unset] [(.int 0)] _
    refine XS.ifYes X2.here hx rfl (pc0 := 11) (pc' := 31) rfl (dG hby D47 5 rfl) rfl ((if0 _ _).trans (teq (by decide : (0 : Int32) = (0 : Int32))).1) (by decide) (by decide) ?_
    refine XS.aloadN X2.here hx rfl (dG hby D47 6 rfl) rfl rfl ?_
    show SP p e below T2 m 32 #[vr a0l, .unset] [(.ref a0l)] _
    refine st3.trans ?_
    show SP p e below T3 m 37 #[vr a0l, .unset] [(.int 0)] _
    refine XS.ifYes X3.here hx rfl (pc0 := 37) (pc' := 44) rfl (dG hby D47 8 rfl) rfl ((if0 _ _).trans (teq (by decide : (0 : Int32) = (0 : Int32))).1) (by decide) (by decide) ?_
    refine XS.aloadN X3.here hx rfl (dG hby D47 9 rfl) rfl rfl ?_
    show SP p e below T3 m 45 #[vr a0l, .unset] [(.ref a0l)] _
    refine st4.trans ?_
    show SP p e below T4 m 50 #[vr a0l, .unset] [(.ref b_4)] _
    refine st5 _ ?_
    show SP p e below T5 m 53 #[vr a0l, .unset] [(.ref b_5)] _
    exact retA X5 hx Bd.returns rfl (dG hby D47 12 rfl) hr
  · show Q_rmLk_1 n0 Z cS aDE kDE aUS aSS aIE mO a0l ae ka ob0 h0 _ T5.heap _
    exact ⟨b_5, rfl, N5, K5, sz_b_5, P5_1, P5_2⟩
theorem D46 : dL jdk_40_method_48_code [(0, .aload_n 0, 1), (1, .invokestatic 112, 3), (4, .areturn, 1)] = true := by decide +kernel
theorem pdv32 : parseMethodDescriptor "(Ljava/util/Collection;)Ljava/util/List;" = some ⟨[(.object "java/util/Collection")], some (.object "java/util/List")⟩ := by decide +kernel
abbrev MN_60 : MethodName := ⟨"java/util/List", "copyOf", "(Ljava/util/Collection;)Ljava/util/List;"⟩
def Q_rmLc_1 (n0 : Nat) (Z : State) (cS : Int32) (aDE : Addr) (kDE : ClassId) (aUS : Addr) (aSS : Addr) (aIE : Addr) (mO : Addr) (a0l : Addr) (ae : Addr) (ka : ClassId) (ob0 : Addr) (h0 : Heap) (v : Option Value) (h : Heap) (L : List Loc) : Prop := ∃ b : Addr, v = some (.ref b) ∧ Fr n0 L ∧ Keep h0 h [] ∧ (h0.size ≤ b) ∧ (Exa Z h b "java/util/ImmutableCollections$List12") ∧ (Fld Z h b "java/util/ImmutableCollections$List12" "e0" "Ljava/lang/Object;" (.ref ob0))
theorem rmLc_1 (l : Launch) (Z : State) (a0 : Array Value) (hw : ∀ d ∈ tables_1, d.before a0 Z = true) (ws : List Jvm.Cond) (cS : Int32) (aDE : Addr) (kDE : ClassId) (aUS : Addr) (aSS : Addr) (aIE : Addr) (mO : Addr) (a0l : Addr) (ae : Addr) (ka : ClassId) (ob0 : Addr) (h0 : Heap) (n0 : Nat) (O0 : Old Z n0 h0) (GL : GF Z cS aDE kDE aUS aSS aIE mO) (E_a0l : Exa Z h0 a0l "java/util/ArrayList") (F_elementData_a0l : Fld Z h0 a0l "java/util/ArrayList" "elementData" "[Ljava/lang/Object;" (.ref ae)) (F_size_a0l : Fld Z h0 a0l "java/util/ArrayList" "size" "I" (.int 1)) (E_ae : Exa Z h0 ae "[Ljava/lang/Object;") (V_ae : Arv Z h0 ae ka (.object "java/lang/Object") (10 : Int32) [(.ref ob0), .null, .null, .null, .null, .null, .null, .null, .null, .null] .null) (E_ob0 : Exa Z h0 ob0 "com/example/grantline/grantline/PolicyException$Problem") :
    MF l MN_60 jdk_40_method_48_code 1 (some (.object "java/util/List")) ws (Rm 7 2 3 88) #[(.ref a0l)] Z h0 (Q_rmLc_1 n0 Z cS aDE kDE aUS aSS aIE mO a0l ae ka ob0 h0) := by
  refine MetFree.of_bodySF (plainFor_of_name pnv18) hisR ?_
  intro p e s m args below meth c s₁ Bd hml0 hP hK
  obtain ⟨rfl, hZ, hh⟩ := hP
  have hx := Bd.exec
  have hby := Bd.bytes
  have hml : c.maxLocals = 1 := hml0
  have hown : s.vm.findClass "java/util/List" = some m.cls := findClass_of_methodNamed Bd.named
  have hnm := (name_of_methodNamed Bd.named Bd.method).1
  have X0 : Stand p l e (Rm 7 2 3 88) s m #[(.ref a0l)] below meth c s₁ [] 0 0 := Stand.of_body Bd
  have e0 : s₁.heap = h0 := by rw [← hh, Bd.state]; rfl
  have N0 := Fr.nil n0
  have pre0 : ∀ t, SP p e below s₁ m 0 #[vr a0l] [] t → Steps p.tables e below (s₁.setTop (entryFrame m #[(.ref a0l)] 1)) t := fun t k => castTop (ef_rmAbc m a0l) k
  have GL' := GL
  obtain ⟨GCS, GCP, GDE, GVE, GUS, GSS, GIE, GMO⟩ := GL'
  obtain ⟨_, _, ⟨T1, L1, k1, n1⟩, -, X1, ⟨Lc1, hQ1, l1, y1, z1⟩, st1⟩ := Jvm.LawKit.callS X0 hx (y := MN_59) hown (mvT hZ (Wd hw 298 rfl)) (mvT hZ (Wd hw 299 rfl)) (mvT hZ (Wd hw 300 rfl)) (mvT hZ (Wd hw 301 rfl)) (by decide) (backOf (W := 0) (rmLk_1 l Z a0 hw [] cS aDE kDE aUS aSS aIE mO a0l ae ka ob0 h0 n0 O0 GL E_a0l F_elementData_a0l F_size_a0l E_ae V_ae E_ob0) hZ (Wd hw 301 rfl) (Wd hw 300 rfl) (by decide) (by decide)) (g := mkF m 1 #[vr a0l] [(.ref a0l)]) rfl (by rw [hml]; rfl) (argsL := [(.ref a0l)]) (rest := []) (lenOf pdv32 rfl) rfl (by show 2 * 0 + _ ≤ _; exact lEq rfl) (dG hby D46 1 rfl) (fun _ _ => ⟨rfl, e0, (by decide : 0 + 2 ≤ _), (by decide : 0 + 3 ≤ _)⟩)
  dsimp only [Pt.U, Pt.locs, Pt.cells, Pt.slots] at X1 l1 y1 z1 st1 hQ1
  subst l1 y1 z1
  obtain ⟨b_1, rfl, N1q, Kc1, P1_0, P1_1, P1_2⟩ := hQ1
  have K1 : Keep h0 T1.heap [] := (Keep.refl h0 []).trans Kc1 all0
  have O1 := O0.keep Kc1 all0
  have g_b_1 : n0 ≤ b_1 := lTr (own_sz O0) P1_0
  have sz_b_1 : h0.size ≤ b_1 := lTr (Keep.refl h0 []).1 P1_0
  have N1 := Fr.app N0 N1q
  obtain ⟨fs, hr, hrun, hended, hW, hsame⟩ := X1.leave (v := some (.ref b_1)) (fun h => by rw [Bd.returns] at h; cases h)
  refine ⟨_, _, pre0 _ ?_, hrun, hended, _, _, rfl, ?_, ⟨_, rfl⟩, hW, hsame.mono (by decide) (by decide)⟩
  · show SP p e below s₁ m 0 #[vr a0l] [] _
    refine XS.aloadN X0.here hx rfl (dG hby D46 0 rfl) rfl rfl ?_
    show SP p e below s₁ m 1 #[vr a0l] [(.ref a0l)] _
    refine st1 _ ?_
    show SP p e below T1 m 4 #[vr a0l] [(.ref b_1)] _
    exact retA X1 hx Bd.returns rfl (dG hby D46 2 rfl) hr
  · show Q_rmLc_1 n0 Z cS aDE kDE aUS aSS aIE mO a0l ae ka ob0 h0 _ T1.heap _
    exact ⟨b_1, rfl, N1, K1, sz_b_1, P1_1, P1_2⟩
theorem pdv33 : parseMethodDescriptor "(Ljava/lang/Object;Ljava/lang/Object;)V" = some ⟨[(.object "java/lang/Object"), (.object "java/lang/Object")], none⟩ := by decide +kernel
def Q_rmLo_2 (n0 : Nat) (Z : State) (cS : Int32) (aDE : Addr) (kDE : ClassId) (aUS : Addr) (aSS : Addr) (aIE : Addr) (mO : Addr) (a0d : Addr) (ka : ClassId) (ob0 : Addr) (ob1 : Addr) (h0 : Heap) (v : Option Value) (h : Heap) (L : List Loc) : Prop := ∃ b : Addr, v = some (.ref b) ∧ Fr n0 L ∧ Keep h0 h [] ∧ (h0.size ≤ b) ∧ (Exa Z h b "java/util/ImmutableCollections$List12") ∧ (Fld Z h b "java/util/ImmutableCollections$List12" "e0" "Ljava/lang/Object;" (.ref ob0))
theorem rmLo_2 (l : Launch) (Z : State) (a0 : Array Value) (hw : ∀ d ∈ tables_1, d.before a0 Z = true) (ws : List Jvm.Cond) (cS : Int32) (aDE : Addr) (kDE : ClassId) (aUS : Addr) (aSS : Addr) (aIE : Addr) (mO : Addr) (a0d : Addr) (ka : ClassId) (ob0 : Addr) (ob1 : Addr) (h0 : Heap) (n0 : Nat) (O0 : Old Z n0 h0) (GL : GF Z cS aDE kDE aUS aSS aIE mO) (V_a0d : Arv Z h0 a0d ka (.object "java/lang/Object") (2 : Int32) [(.ref ob0), (.ref ob1)] .null) (E_ob0 : Exa Z h0 ob0 "com/example/grantline/grantline/PolicyException$Problem") (E_ob1 : Exa Z h0 ob1 "com/example/grantline/grantline/PolicyException$Problem") :
    MF l MN_56 jdk_40_method_47_code 2 (some (.object "java/util/List")) ws (Rm 5 1 2 63) #[(.ref a0d)] Z h0 (Q_rmLo_2 n0 Z cS aDE kDE aUS aSS aIE mO a0d ka ob0 ob1 h0) := by
  refine MetFree.of_bodySF (plainFor_of_name pnv18) hisR ?_
  intro p e s m args below meth c s₁ Bd hml0 hP hK
  obtain ⟨rfl, hZ, hh⟩ := hP
  have hx := Bd.exec
  have hby := Bd.bytes
  have hml : c.maxLocals = 2 := hml0
  have hown : s.vm.findClass "java/util/List" = some m.cls := findClass_of_methodNamed Bd.named
  have hnm := (name_of_methodNamed Bd.named Bd.method).1
  have X0 : Stand p l e (Rm 5 1 2 63) s m #[(.ref a0d)] below meth c s₁ [] 0 0 := Stand.of_body Bd
  have e0 : s₁.heap = h0 := by rw [← hh, Bd.state]; rfl
  have N0 := Fr.nil n0
  have pre0 : ∀ t, SP p e below s₁ m 0 #[vr a0d, .unset] [] t → Steps p.tables e below (s₁.setTop (entryFrame m #[(.ref a0d)] 2)) t := fun t k => castTop (ef_rmLo_1 m a0d) k
  have GL' := GL
  obtain ⟨GCS, GCP, GDE, GVE, GUS, GSS, GIE, GMO⟩ := GL'
  obtain ⟨cl1, Ar1, -, S1, N1_, -, -⟩ := id (V_a0d)
  obtain ⟨T2, h2, X2, e2, E2, A2, D2, -, st2⟩ := newO X0 hx hZ hown (Wd hw 338 rfl) (Wd hw 339 rfl) (Wd hw 340 rfl) e0 (g := mkF m 45 #[vr a0d, .unset] []) rfl (dG hby D51 10 rfl) (by decide) (by decide)
  obtain ⟨b2, g2⟩ : ∃ z, z = h0.size := ⟨_, rfl⟩
  rw [← g2] at A2 D2 st2
  have g_b2 : n0 ≤ b2 := lTr (own_sz O0) (lEq g2.symm)
  have sz_b2 : h0.size ≤ b2 := lTr (Keep.refl h0 []).1 (lEq g2.symm)
  have K2 : Keep h0 h2 [] := (Keep.refl h0 []).ext E2
  have O2 := O0.ext E2
  have F_e0_b2 : Fld Z h2 b2 "java/util/ImmutableCollections$List12" "e0" "Ljava/lang/Object;" .null := D2 (Or.inr (Wd hw 363 rfl)) (ty := (.object "java/lang/Object")) (by decide)
  have F_e1_b2 : Fld Z h2 b2 "java/util/ImmutableCollections$List12" "e1" "Ljava/lang/Object;" .null := D2 (Or.inr (Wd hw 366 rfl)) (ty := (.object "java/lang/Object")) (by decide)
  obtain ⟨cl3, Ar3, -, S3, N3_, H3, G3⟩ := id ((V_a0d.ext E2))
  have hin3 : ¬ ((0 : Int32) < 0 ∨ cl3.slots.size ≤ ((0 : Int32)).toNatClampNeg) := inb_of S3 ⟨(by decide), (by decide)⟩
  have hat3 : cl3.slots[((0 : Int32)).toNatClampNeg]? = some (.ref ob0) := H3.at hin3 rfl
  obtain ⟨cl4, Ar4, -, S4, N4_, H4, G4⟩ := id ((V_a0d.ext E2))
  have hin4 : ¬ ((1 : Int32) < 0 ∨ cl4.slots.size ≤ ((1 : Int32)).toNatClampNeg) := inb_of S4 ⟨(by decide), (by decide)⟩
  have hat4 : cl4.slots[((1 : Int32)).toNatClampNeg]? = some (.ref ob1) := H4.at hin4 rfl
  obtain ⟨_, _, ⟨T5, L5, k5, n5⟩, -, X5, ⟨Lc5, hQ5, l5, y5, z5⟩, st5⟩ := X2.specialBack hx (y := MN_53) rfl hown (mvT hZ (Wd hw 447 rfl)) (mvT hZ (Wd hw 448 rfl)) (mvT hZ (Wd hw 449 rfl)) (by decide) (backOf (W := 1) (rmT2 l Z a0 hw [] cS aDE kDE aUS aSS aIE mO b2 ob0 ob1 h2 n0 O2 GL A2 F_e0_b2 F_e1_b2 g_b2) hZ (Wd hw 449 rfl) (Wd hw 340 rfl) (by decide) (by decide)) (g := mkF m 55 #[vr a0d, .unset] [(.ref ob1), (.ref ob0), (.ref b2), (.ref b2)]) rfl (by rw [hml]; rfl) (Steps.refl _) (a := b2) (argsL := [(.ref ob0), (.ref ob1)]) (rest := [(.ref b2)]) (lenOf pdv33 rfl) rfl (by show 2 * 0 + _ ≤ _; exact lEq rfl) (dG hby D51 18 rfl) (fun _ _ => ⟨rfl, e2, (by decide : 1 + 0 ≤ _), (by decide : 2 + 0 ≤ _)⟩)
  dsimp only [Pt.U, Pt.locs, Pt.cells, Pt.slots] at X5 l5 y5 z5 st5 hQ5
  subst l5 y5 z5
  obtain ⟨rfl, N5q, Kc5, P5_0, P5_1, P5_2⟩ := hQ5
  have K5 : Keep h0 T5.heap [] := K2.trans Kc5 (allS (Or.inr sz_b2) all0)
  have O5 := O2.keep Kc5 (allS g_b2 all0)
  have N5 := Fr.app N0 N5q
  obtain ⟨fs, hr, hrun, hended, hW, hsame⟩ := X5.leave (v := some (.ref b2)) (fun h => by rw [Bd.returns] at h; cases h)
  refine ⟨_, _, pre0 _ ?_, hrun, hended, _, _, rfl, ?_, ⟨_, rfl⟩, hW, hsame.mono (by decide) (by decide)⟩
  · show SP p e below s₁ m 0 #[vr a0d, .unset] [] _
    refine XS.aloadN X0.here hx rfl (dG hby D51 0 rfl) rfl rfl ?_
    show SP p e below s₁ m 1 #[vr a0d, .unset] [(.ref a0d)] _
    refine X0.arraylength hx (by rw [e0]; exact Ar1.1) (State.isArrayOf_alike hZ.alike Ar1.2.1) (g := mkF m 1 #[vr a0d, .unset] [(.ref a0d)]) rfl rfl (dG hby D51 1 rfl) _ ?_
    rw [len_of S1 N1_]
    show SP p e below s₁ m 2 #[vr a0d, .unset] [(.int 2)] _
    refine XS.tswIn X0.here hx rfl (o := 43) (pc0 := 2) (pc' := 45) rfl (dG hby D51 2 rfl) rfl (by decide) (by decide) (by decide) (by decide) ?_
    show SP p e below s₁ m 45 #[vr a0d, .unset] [] _
    refine st2 _ ?_
    show SP p e below T2 m 48 #[vr a0d, .unset] [(.ref b2)] _
    refine XS.dup X2.here hx rfl (dG hby D51 11 rfl) rfl rfl ?_
    refine XS.aloadN X2.here hx rfl (dG hby D51 12 rfl) rfl rfl ?_
    refine XS.iconst X2.here hx rfl (dG hby D51 13 rfl) ?_
    show SP p e below T2 m 51 #[vr a0d, .unset] [(.int 0), (.ref a0d), (.ref b2), (.ref b2)] _
    refine X2.aaload hx (j := (0 : Int32)) (v := (.ref ob0)) (by rw [e2]; exact Ar3.1) (State.isArrayOf_alike hZ.alike Ar3.2.1) rfl Ar3.2.2 hin3 hat3 (g := mkF m 51 #[vr a0d, .unset] [(.int 0), (.ref a0d), (.ref b2), (.ref b2)]) rfl rfl (dG hby D51 14 rfl) _ ?_
    show SP p e below T2 m 52 #[vr a0d, .unset] [(.ref ob0), (.ref b2), (.ref b2)] _
    refine XS.aloadN X2.here hx rfl (dG hby D51 15 rfl) rfl rfl ?_
    refine XS.iconst X2.here hx rfl (dG hby D51 16 rfl) ?_
    show SP p e below T2 m 54 #[vr a0d, .unset] [(.int 1), (.ref a0d), (.ref ob0), (.ref b2), (.ref b2)] _
    refine X2.aaload hx (j := (1 : Int32)) (v := (.ref ob1)) (by rw [e2]; exact Ar4.1) (State.isArrayOf_alike hZ.alike Ar4.2.1) rfl Ar4.2.2 hin4 hat4 (g := mkF m 54 #[vr a0d, .unset] [(.int 1), (.ref a0d), (.ref ob0), (.ref b2), (.ref b2)]) rfl rfl (dG hby D51 17 rfl) _ ?_
    show SP p e below T2 m 55 #[vr a0d, .unset] [(.ref ob1), (.ref ob0), (.ref b2), (.ref b2)] _
    refine st5.trans ?_
    show SP p e below T5 m 58 #[vr a0d, .unset] [(.ref b2)] _
    exact retA X5 hx Bd.returns rfl (dG hby D51 19 rfl) hr
  · show Q_rmLo_2 n0 Z cS aDE kDE aUS aSS aIE mO a0d ka ob0 ob1 h0 _ T5.heap _
    exact ⟨b2, rfl, N5, K5, sz_b2, P5_0, P5_1⟩
def Q_rmLk_2 (n0 : Nat) (Z : State) (cS : Int32) (aDE : Addr) (kDE : ClassId) (aUS : Addr) (aSS : Addr) (aIE : Addr) (mO : Addr) (a0l : Addr) (ae : Addr) (ka : ClassId) (ob0 : Addr) (ob1 : Addr) (h0 : Heap) (v : Option Value) (h : Heap) (L : List Loc) : Prop := ∃ b : Addr, v = some (.ref b) ∧ Fr n0 L ∧ Keep h0 h [] ∧ (h0.size ≤ b) ∧ (Exa Z h b "java/util/ImmutableCollections$List12") ∧ (Fld Z h b "java/util/ImmutableCollections$List12" "e0" "Ljava/lang/Object;" (.ref ob0))
theorem rmLk_2 (l : Launch) (Z : State) (a0 : Array Value) (hw : ∀ d ∈ tables_1, d.before a0 Z = true) (ws : List Jvm.Cond) (cS : Int32) (aDE : Addr) (kDE : ClassId) (aUS : Addr) (aSS : Addr) (aIE : Addr) (mO : Addr) (a0l : Addr) (ae : Addr) (ka : ClassId) (ob0 : Addr) (ob1 : Addr) (h0 : Heap) (n0 : Nat) (O0 : Old Z n0 h0) (GL : GF Z cS aDE kDE aUS aSS aIE mO) (E_a0l : Exa Z h0 a0l "java/util/ArrayList") (F_elementData_a0l : Fld Z h0 a0l "java/util/ArrayList" "elementData" "[Ljava/lang/Object;" (.ref ae)) (F_size_a0l : Fld Z h0 a0l "java/util/ArrayList" "size" "I" (.int 2)) (E_ae : Exa Z h0 ae "[Ljava/lang/Object;") (V_ae : Arv Z h0 ae ka (.object "java/lang/Object") (10 : Int32) [(.ref ob0), (.ref ob1), .null, .null, .null, .null, .null, .null, .null, .null] .null) (E_ob0 : Exa Z h0 ob0 "com/example/grantline/grantline/PolicyException$Problem") (E_ob1 : Exa Z h0 ob1 "com/example/grantline/grantline/PolicyException$Problem") :
    MF l MN_59 jdk_56_method_3_code 2 (some (.object "java/util/List")) ws (Rm 6 2 4 76) #[(.ref a0l)] Z h0 (Q_rmLk_2 n0 Z cS aDE kDE aUS aSS aIE mO a0l ae ka ob0 ob1 h0) := by
  refine MetFree.of_bodySF (plainFor_of_name pnv17) hisR ?_
  intro p e s m args below meth c s₁ Bd hml0 hP hK
  obtain ⟨rfl, hZ, hh⟩ := hP
  have hx := Bd.exec
  have hby := Bd.bytes
  have hml : c.maxLocals = 2 := hml0
  have hown : s.vm.findClass "java/util/ImmutableCollections" = some m.cls := findClass_of_methodNamed Bd.named
  have hnm := (name_of_methodNamed Bd.named Bd.method).1
  have X0 : Stand p l e (Rm 6 2 4 76) s m #[(.ref a0l)] below meth c s₁ [] 0 0 := Stand.of_body Bd
  have e0 : s₁.heap = h0 := by rw [← hh, Bd.state]; rfl
  have N0 := Fr.nil n0
  have pre0 : ∀ t, SP p e below s₁ m 0 #[vr a0l, .unset] [] t → Steps p.tables e below (s₁.setTop (entryFrame m #[(.ref a0l)] 2)) t := fun t k => castTop (ef_rmLk_1 m a0l) k
  have GL' := GL
  obtain ⟨GCS, GCP, GDE, GVE, GUS, GSS, GIE, GMO⟩ := GL'
  obtain ⟨T1, X1, e1, st1⟩ := instNo X0 hx hZ hown (Wd hw 302 rfl) e0 E_a0l (own_nsNo (Wd hw 303 rfl) (Wd hw 339 rfl) (NS.step (Wd hw 303 rfl) (NS.step (Wd hw 304 rfl) (NS.step (Wd hw 305 rfl) (own_nsRoot (Wd hw 306 rfl) (Wd hw 339 rfl) (by decide)) (by decide)) (by decide)) (by decide)) (by decide)) (g := mkF m 1 #[vr a0l, .unset] [(.ref a0l)]) rfl rfl (dG hby D47 1 rfl)
  obtain ⟨T2, X2, e2, st2⟩ := instNo X1 hx hZ hown (Wd hw 307 rfl) e1 E_a0l (own_nsNo (Wd hw 303 rfl) (Wd hw 395 rfl) (NS.step (Wd hw 303 rfl) (NS.step (Wd hw 304 rfl) (NS.step (Wd hw 305 rfl) (own_nsRoot (Wd hw 306 rfl) (Wd hw 395 rfl) (by decide)) (by decide)) (by decide)) (by decide)) (by decide)) (g := mkF m 8 #[vr a0l, .unset] [(.ref a0l)]) rfl rfl (dG hby D47 4 rfl)
  obtain ⟨cq3, kq3, q3a, q3b, q3c⟩ := isOf hZ e2 E_a0l
  obtain ⟨_, _, ⟨T3, L3, k3, n3⟩, -, X3, ⟨Lc3, hQ3, l3, y3, z3⟩, st3⟩ := X2.interfaceBack hx (xi := MN_57) (y := MN_38) hown (mvT hZ (Wd hw 308 rfl)) (mvT hZ (Wd hw 309 rfl)) (mvT hZ (Wd hw 310 rfl)) (mvT hZ (Wd hw 311 rfl)) (mvT hZ (Wd hw 99 rfl)) (mvT hZ (Wd hw 100 rfl)) (mvT hZ (Wd hw 101 rfl)) (mvT hZ (Wd hw 312 rfl)) (by decide) (backOf (W := 0) (rmIe l Z a0 hw [] cS aDE kDE aUS aSS aIE mO a0l ((2 : Int32)) h0 n0 O0 GL F_size_a0l (by decide)) hZ (Wd hw 103 rfl) (Wd hw 15 rfl) (by decide) (by decide)) q3a q3b q3c (g := mkF m 32 #[vr a0l, .unset] [(.ref a0l)]) rfl (by rw [hml]; rfl) (Steps.refl _) (argsL := []) (rest := []) (lenOf pdv15 rfl) rfl (by show 2 * 0 + _ ≤ _; exact lEq rfl) (dG hby D47 7 rfl) (fun _ _ => ⟨rfl, e2, (by decide : 0 + 0 ≤ _), (by decide : 0 + 0 ≤ _)⟩)
  dsimp only [Pt.U, Pt.locs, Pt.cells, Pt.slots] at X3 l3 y3 z3 st3 hQ3
  subst l3 y3 z3
  obtain ⟨rfl, N3q, e3⟩ := hQ3
  have N3 := Fr.app N0 N3q
  obtain ⟨cq4, kq4, q4a, q4b, q4c⟩ := isOf hZ e3 E_a0l
  obtain ⟨_, _, ⟨T4, L4, k4, n4⟩, -, X4, ⟨Lc4, hQ4, l4, y4, z4⟩, st4⟩ := X3.interfaceBack hx (xi := MN_58) (y := MN_48) hown (mvT hZ (Wd hw 313 rfl)) (mvT hZ (Wd hw 314 rfl)) (mvT hZ (Wd hw 315 rfl)) (mvT hZ (Wd hw 316 rfl)) (mvT hZ (Wd hw 317 rfl)) (mvT hZ (Wd hw 318 rfl)) (mvT hZ (Wd hw 319 rfl)) (mvT hZ (Wd hw 312 rfl)) (by decide) (backOf (W := 0) (rmTa_2 l Z a0 hw [] cS aDE kDE aUS aSS aIE mO a0l ae ka ob0 ob1 h0 n0 O0 GL E_a0l F_elementData_a0l F_size_a0l E_ae V_ae E_ob0 E_ob1) hZ (Wd hw 320 rfl) (Wd hw 15 rfl) (by decide) (by decide)) q4a q4b q4c (g := mkF m 45 #[vr a0l, .unset] [(.ref a0l)]) rfl (by rw [hml]; rfl) (Steps.refl _) (argsL := []) (rest := []) (lenOf pdv22 rfl) rfl (by show 2 * 0 + _ ≤ _; exact lEq rfl) (dG hby D47 10 rfl) (fun _ _ => ⟨rfl, e3, (by decide : 0 + 1 ≤ _), (by decide : 0 + 2 ≤ _)⟩)
  dsimp only [Pt.U, Pt.locs, Pt.cells, Pt.slots] at X4 l4 y4 z4 st4 hQ4
  subst l4 y4 z4
  obtain ⟨b_4, kb_4, rfl, N4q, Kc4, P4_0, P4_1⟩ := hQ4
  have K4 : Keep h0 T4.heap [] := (Keep.refl h0 []).trans Kc4 all0
  have O4 := O0.keep Kc4 all0
  have g_b_4 : n0 ≤ b_4 := lTr (own_sz O0) P4_0
  have sz_b_4 : h0.size ≤ b_4 := lTr (Keep.refl h0 []).1 P4_0
  have N4 := Fr.app N3 N4q
  obtain ⟨_, _, ⟨T5, L5, k5, n5⟩, -, X5, ⟨Lc5, hQ5, l5, y5, z5⟩, st5⟩ := Jvm.LawKit.callS X4 hx (y := MN_56) hown (mvT hZ (Wd hw 335 rfl)) (mvT hZ (Wd hw 336 rfl)) (mvT hZ (Wd hw 296 rfl)) (mvT hZ (Wd hw 337 rfl)) (by decide) (backOf (W := 0) (rmLo_2 l Z a0 hw [] cS aDE kDE aUS aSS aIE mO b_4 kb_4 ob0 ob1 (T4.heap) n0 O4 GL P4_1 (E_ob0.keep Kc4) (E_ob1.keep Kc4)) hZ (Wd hw 337 rfl) (Wd hw 296 rfl) (by decide) (by decide)) (g := mkF m 50 #[vr a0l, .unset] [(.ref b_4)]) rfl (by rw [hml]; rfl) (argsL := [(.ref b_4)]) (rest := []) (lenOf pdv31 rfl) rfl (by show 2 * 0 + _ ≤ _; exact lEq rfl) (dG hby D47 11 rfl) (fun _ _ => ⟨rfl, rfl, (by decide : 1 + 1 ≤ _), (by decide : 2 + 2 ≤ _)⟩)
  dsimp only [Pt.U, Pt.locs, Pt.cells, Pt.slots] at X5 l5 y5 z5 st5 hQ5
  subst l5 y5 z5
  obtain ⟨b_5, rfl, N5q, Kc5, P5_0, P5_1, P5_2⟩ := hQ5
  have K5 : Keep h0 T5.heap [] := K4.trans Kc5 all0
  have O5 := O4.keep Kc5 all0
  have g_b_5 : n0 ≤ b_5 := lTr (own_sz O4) P5_0
  have sz_b_5 : h0.size ≤ b_5 := lTr K4.1 P5_0
  have N5 := Fr.app N4 N5q
  obtain ⟨fs, hr, hrun, hended, hW, hsame⟩ := X5.leave (v := some (.ref b_5)) (fun h => by rw [Bd.returns] at h; cases h)
  refine ⟨_, _, pre0 _ ?_, hrun, hended, _, _, rfl, ?_, ⟨_, rfl⟩, hW, hsame.mono (by decide) (by decide)⟩
  · show SP p e below s₁ m 0 #[vr a0l, .unset] [] _
    refine XS.aloadN X0.here hx rfl (dG hby D47 0 rfl) rfl rfl ?_
    show SP p e below s₁ m 1 #[vr a0l, .unset] [(.ref a0l)] _
    refine st1 _ ?_
    show SP p e below T1 m 4 #[vr a0l, .unset] [(.int 0)] _
    refine XS.ifNo X1.here hx rfl (dG hby D47 2 rfl) rfl ((if0 _ _).trans (teq (by decide : (0 : Int32) = (0 : Int32))).2) ?_
    refine XS.aloadN X1.here hx rfl (dG hby D47 3 rfl) rfl rfl ?_
    show SP p e below T1 m 8 #[vr a0l, .unset] [(.ref a0l)] _
    refine st2 _ ?_
    show SP p e below T2 m 11 #[vr a0l, .unset] [(.int 0)] _
    refine XS.ifYes X2.here hx rfl (pc0 := 11) (pc' := 31) rfl (dG hby D47 5 rfl) rfl ((if0 _ _).trans (teq (by decide : (0 : Int32) = (0 : Int32))).1) (by decide) (by decide) ?_
    refine XS.aloadN X2.here hx rfl (dG hby D47 6 rfl) rfl rfl ?_
    show SP p e below T2 m 32 #[vr a0l, .unset] [(.ref a0l)] _
    refine st3.trans ?_
    show SP p e below T3 m 37 #[vr a0l, .unset] [(.int 0)] _
    refine XS.ifYes X3.here hx rfl (pc0 := 37) (pc' := 44) rfl (dG hby D47 8 rfl) rfl ((if0 _ _).trans (teq (by decide : (0 : Int32) = (0 : Int32))).1) (by decide) (by decide) ?_
    refine XS.aloadN X3.here hx rfl (dG hby D47 9 rfl) rfl rfl ?_
    show SP p e below T3 m 45 #[vr a0l, .unset] [(.ref a0l)] _
    refine st4.trans ?_
    show SP p e below T4 m 50 #[vr a0l, .unset] [(.ref b_4)] _
    refine st5 _ ?_
    show SP p e below T5 m 53 #[vr a0l, .unset] [(.ref b_5)] _
    exact retA X5 hx Bd.returns rfl (dG hby D47 12 rfl) hr
  · show Q_rmLk_2 n0 Z cS aDE kDE aUS aSS aIE mO a0l ae ka ob0 ob1 h0 _ T5.heap _
    exact ⟨b_5, rfl, N5, K5, sz_b_5, P5_1, P5_2⟩
def Q_rmLc_2 (n0 : Nat) (Z : State) (cS : Int32) (aDE : Addr) (kDE : ClassId) (aUS : Addr) (aSS : Addr) (aIE : Addr) (mO : Addr) (a0l : Addr) (ae : Addr) (ka : ClassId) (ob0 : Addr) (ob1 : Addr) (h0 : Heap) (v : Option Value) (h : Heap) (L : List Loc) : Prop := ∃ b : Addr, v = some (.ref b) ∧ Fr n0 L ∧ Keep h0 h [] ∧ (h0.size ≤ b) ∧ (Exa Z h b "java/util/ImmutableCollections$List12") ∧ (Fld Z h b "java/util/ImmutableCollections$List12" "e0" "Ljava/lang/Object;" (.ref ob0))
theorem rmLc_2 (l : Launch) (Z : State) (a0 : Array Value) (hw : ∀ d ∈ tables_1, d.before a0 Z = true) (ws : List Jvm.Cond) (cS : Int32) (aDE : Addr) (kDE : ClassId) (aUS : Addr) (aSS : Addr) (aIE : Addr) (mO : Addr) (a0l : Addr) (ae : Addr) (ka : ClassId) (ob0 : Addr) (ob1 : Addr) (h0 : Heap) (n0 : Nat) (O0 : Old Z n0 h0) (GL : GF Z cS aDE kDE aUS aSS aIE mO) (E_a0l : Exa Z h0 a0l "java/util/ArrayList") (F_elementData_a0l : Fld Z h0 a0l "java/util/ArrayList" "elementData" "[Ljava/lang/Object;" (.ref ae)) (F_size_a0l : Fld Z h0 a0l "java/util/ArrayList" "size" "I" (.int 2)) (E_ae : Exa Z h0 ae "[Ljava/lang/Object;") (V_ae : Arv Z h0 ae ka (.object "java/lang/Object") (10 : Int32) [(.ref ob0), (.ref ob1), .null, .null, .null, .null, .null, .null, .null, .null] .null) (E_ob0 : Exa Z h0 ob0 "com/example/grantline/grantline/PolicyException$Problem") (E_ob1 : Exa Z h0 ob1 "com/example/grantline/grantline/PolicyException$Problem") :
    MF l MN_60 jdk_40_method_48_code 1 (some (.object "java/util/List")) ws (Rm 7 2 4 89) #[(.ref a0l)] Z h0 (Q_rmLc_2 n0 Z cS aDE kDE aUS aSS aIE mO a0l ae ka ob0 ob1 h0) := by
  refine MetFree.of_bodySF (plainFor_of_name pnv18) hisR ?_
  intro p e s m args below meth c s₁ Bd hml0 hP hK
  obtain ⟨rfl, hZ, hh⟩ := hP
  have hx := Bd.exec
  have hby := Bd.bytes
  have hml : c.maxLocals = 1 := hml0
  have hown : s.vm.findClass "java/util/List" = some m.cls := findClass_of_methodNamed Bd.named
  have hnm := (name_of_methodNamed Bd.named Bd.method).1
  have X0 : Stand p l e (Rm 7 2 4 89) s m #[(.ref a0l)] below meth c s₁ [] 0 0 := Stand.of_body Bd
  have e0 : s₁.heap = h0 := by rw [← hh, Bd.state]; rfl
  have N0 := Fr.nil n0
  have pre0 : ∀ t, SP p e below s₁ m 0 #[vr a0l] [] t → Steps p.tables e below (s₁.setTop (entryFrame m #[(.ref a0l)] 1)) t := fun t k => castTop (ef_rmAbc m a0l) k
  have GL' := GL
  obtain ⟨GCS, GCP, GDE, GVE, GUS, GSS, GIE, GMO⟩ := GL'
  obtain ⟨_, _, ⟨T1, L1, k1, n1⟩, -, X1, ⟨Lc1, hQ1, l1, y1, z1⟩, st1⟩ := Jvm.LawKit.callS X0 hx (y := MN_59) hown (mvT hZ (Wd hw 298 rfl)) (mvT hZ (Wd hw 299 rfl)) (mvT hZ (Wd hw 300 rfl)) (mvT hZ (Wd hw 301 rfl)) (by decide) (backOf (W := 0) (rmLk_2 l Z a0 hw [] cS aDE kDE aUS aSS aIE mO a0l ae ka ob0 ob1 h0 n0 O0 GL E_a0l F_elementData_a0l F_size_a0l E_ae V_ae E_ob0 E_ob1) hZ (Wd hw 301 rfl) (Wd hw 300 rfl) (by decide) (by decide)) (g := mkF m 1 #[vr a0l] [(.ref a0l)]) rfl (by rw [hml]; rfl) (argsL := [(.ref a0l)]) (rest := []) (lenOf pdv32 rfl) rfl (by show 2 * 0 + _ ≤ _; exact lEq rfl) (dG hby D46 1 rfl) (fun _ _ => ⟨rfl, e0, (by decide : 0 + 2 ≤ _), (by decide : 0 + 4 ≤ _)⟩)
  dsimp only [Pt.U, Pt.locs, Pt.cells, Pt.slots] at X1 l1 y1 z1 st1 hQ1
  subst l1 y1 z1
  obtain ⟨b_1, rfl, N1q, Kc1, P1_0, P1_1, P1_2⟩ := hQ1
  have K1 : Keep h0 T1.heap [] := (Keep.refl h0 []).trans Kc1 all0
  have O1 := O0.keep Kc1 all0
  have g_b_1 : n0 ≤ b_1 := lTr (own_sz O0) P1_0
  have sz_b_1 : h0.size ≤ b_1 := lTr (Keep.refl h0 []).1 P1_0
  have N1 := Fr.app N0 N1q
  obtain ⟨fs, hr, hrun, hended, hW, hsame⟩ := X1.leave (v := some (.ref b_1)) (fun h => by rw [Bd.returns] at h; cases h)
  refine ⟨_, _, pre0 _ ?_, hrun, hended, _, _, rfl, ?_, ⟨_, rfl⟩, hW, hsame.mono (by decide) (by decide)⟩
  · show SP p e below s₁ m 0 #[vr a0l] [] _
    refine XS.aloadN X0.here hx rfl (dG hby D46 0 rfl) rfl rfl ?_
    show SP p e below s₁ m 1 #[vr a0l] [(.ref a0l)] _
    refine st1 _ ?_
    show SP p e below T1 m 4 #[vr a0l] [(.ref b_1)] _
    exact retA X1 hx Bd.returns rfl (dG hby D46 2 rfl) hr
  · show Q_rmLc_2 n0 Z cS aDE kDE aUS aSS aIE mO a0l ae ka ob0 ob1 h0 _ T1.heap _
    exact ⟨b_1, rfl, N1, K1, sz_b_1, P1_1, P1_2⟩
def Q_rmLo_3 (n0 : Nat) (Z : State) (cS : Int32) (aDE : Addr) (kDE : ClassId) (aUS : Addr) (aSS : Addr) (aIE : Addr) (mO : Addr) (a0d : Addr) (ka : ClassId) (ob0 : Addr) (ob1 : Addr) (ob2 : Addr) (h0 : Heap) (v : Option Value) (h : Heap) (L : List Loc) : Prop := ∃ b : Addr, ∃ d : Addr, ∃ kd : ClassId, v = some (.ref b) ∧ Fr n0 L ∧ Keep h0 h [] ∧ (h0.size ≤ b) ∧ (h0.size ≤ d) ∧ (Exa Z h b "java/util/ImmutableCollections$ListN") ∧ (Fld Z h b "java/util/ImmutableCollections$ListN" "elements" "[Ljava/lang/Object;" (.ref d)) ∧ (Arv Z h d kd (.object "java/lang/Object") (3 : Int32) [(.ref ob0), (.ref ob1), (.ref ob2)] .null)
theorem rmLo_3 (l : Launch) (Z : State) (a0 : Array Value) (hw : ∀ d ∈ tables_1, d.before a0 Z = true) (ws : List Jvm.Cond) (cS : Int32) (aDE : Addr) (kDE : ClassId) (aUS : Addr) (aSS : Addr) (aIE : Addr) (mO : Addr) (a0d : Addr) (ka : ClassId) (ob0 : Addr) (ob1 : Addr) (ob2 : Addr) (h0 : Heap) (n0 : Nat) (O0 : Old Z n0 h0) (GL : GF Z cS aDE kDE aUS aSS aIE mO) (V_a0d : Arv Z h0 a0d ka (.object "java/lang/Object") (3 : Int32) [(.ref ob0), (.ref ob1), (.ref ob2)] .null) (E_ob0 : Exa Z h0 ob0 "com/example/grantline/grantline/PolicyException$Problem") (E_ob1 : Exa Z h0 ob1 "com/example/grantline/grantline/PolicyException$Problem") (E_ob2 : Exa Z h0 ob2 "com/example/grantline/grantline/PolicyException$Problem") :
    MF l MN_56 jdk_40_method_47_code 2 (some (.object "java/util/List")) ws (Rm 6 2 5 77) #[(.ref a0d)] Z h0 (Q_rmLo_3 n0 Z cS aDE kDE aUS aSS aIE mO a0d ka ob0 ob1 ob2 h0) := by
  refine MetFree.of_bodySF (plainFor_of_name pnv18) hisR ?_
  intro p e s m args below meth c s₁ Bd hml0 hP hK
  obtain ⟨rfl, hZ, hh⟩ := hP
  have hx := Bd.exec
  have hby := Bd.bytes
  have hml : c.maxLocals = 2 := hml0
  have hown : s.vm.findClass "java/util/List" = some m.cls := findClass_of_methodNamed Bd.named
  have hnm := (name_of_methodNamed Bd.named Bd.method).1
  have X0 : Stand p l e (Rm 6 2 5 77) s m #[(.ref a0d)] below meth c s₁ [] 0 0 := Stand.of_body Bd
  have e0 : s₁.heap = h0 := by rw [← hh, Bd.state]; rfl
  have N0 := Fr.nil n0
  have pre0 : ∀ t, SP p e below s₁ m 0 #[vr a0d, .unset] [] t → Steps p.tables e below (s₁.setTop (entryFrame m #[(.ref a0d)] 2)) t := fun t k => castTop (ef_rmLo_1 m a0d) k
  have GL' := GL
  obtain ⟨GCS, GCP, GDE, GVE, GUS, GSS, GIE, GMO⟩ := GL'
  obtain ⟨cl1, Ar1, -, S1, N1_, -, -⟩ := id (V_a0d)
  obtain ⟨_, _, ⟨T2, L2, k2, n2⟩, -, X2, ⟨Lc2, hQ2, l2, y2, z2⟩, st2⟩ := Jvm.LawKit.callS X0 hx (y := MN_55) hown (mvT hZ (Wd hw 390 rfl)) (mvT hZ (Wd hw 391 rfl)) (mvT hZ (Wd hw 300 rfl)) (mvT hZ (Wd hw 392 rfl)) (by decide) (backOf (W := 0) (rmLfa l Z a0 hw [] cS aDE kDE aUS aSS aIE mO a0d ka ob0 ob1 ob2 h0 n0 O0 GL V_a0d E_ob0 E_ob1 E_ob2) hZ (Wd hw 392 rfl) (Wd hw 300 rfl) (by decide) (by decide)) (g := mkF m 60 #[vr a0d, .unset] [(.ref a0d)]) rfl (by rw [hml]; rfl) (argsL := [(.ref a0d)]) (rest := []) (lenOf pdv31 rfl) rfl (by show 2 * 0 + _ ≤ _; exact lEq rfl) (dG hby D51 21 rfl) (fun _ _ => ⟨rfl, e0, (by decide : 0 + 2 ≤ _), (by decide : 0 + 5 ≤ _)⟩)
  dsimp only [Pt.U, Pt.locs, Pt.cells, Pt.slots] at X2 l2 y2 z2 st2 hQ2
  subst l2 y2 z2
  obtain ⟨b_2, d_2, kd_2, rfl, N2q, Kc2, P2_0, P2_1, P2_2, P2_3, P2_4⟩ := hQ2
  have K2 : Keep h0 T2.heap [] := (Keep.refl h0 []).trans Kc2 all0
  have O2 := O0.keep Kc2 all0
  have g_b_2 : n0 ≤ b_2 := lTr (own_sz O0) P2_0
  have sz_b_2 : h0.size ≤ b_2 := lTr (Keep.refl h0 []).1 P2_0
  have g_d_2 : n0 ≤ d_2 := lTr (own_sz O0) P2_1
  have sz_d_2 : h0.size ≤ d_2 := lTr (Keep.refl h0 []).1 P2_1
  have N2 := Fr.app N0 N2q
  obtain ⟨fs, hr, hrun, hended, hW, hsame⟩ := X2.leave (v := some (.ref b_2)) (fun h => by rw [Bd.returns] at h; cases h)
  refine ⟨_, _, pre0 _ ?_, hrun, hended, _, _, rfl, ?_, ⟨_, rfl⟩, hW, hsame.mono (by decide) (by decide)⟩
  · show SP p e below s₁ m 0 #[vr a0d, .unset] [] _
    refine XS.aloadN X0.here hx rfl (dG hby D51 0 rfl) rfl rfl ?_
    show SP p e below s₁ m 1 #[vr a0d, .unset] [(.ref a0d)] _
    refine X0.arraylength hx (by rw [e0]; exact Ar1.1) (State.isArrayOf_alike hZ.alike Ar1.2.1) (g := mkF m 1 #[vr a0d, .unset] [(.ref a0d)]) rfl rfl (dG hby D51 1 rfl) _ ?_
    rw [len_of S1 N1_]
    show SP p e below s₁ m 2 #[vr a0d, .unset] [(.int 3)] _
    refine XS.tswOut X0.here hx rfl (pc0 := 2) (pc' := 59) rfl (dG hby D51 2 rfl) rfl (by decide) (by decide) (by decide) ?_
    refine XS.aloadN X0.here hx rfl (dG hby D51 20 rfl) rfl rfl ?_
    show SP p e below s₁ m 60 #[vr a0d, .unset] [(.ref a0d)] _
    refine st2 _ ?_
    show SP p e below T2 m 63 #[vr a0d, .unset] [(.ref b_2)] _
    exact retA X2 hx Bd.returns rfl (dG hby D51 22 rfl) hr
  · show Q_rmLo_3 n0 Z cS aDE kDE aUS aSS aIE mO a0d ka ob0 ob1 ob2 h0 _ T2.heap _
    exact ⟨b_2, d_2, kd_2, rfl, N2, K2, sz_b_2, sz_d_2, P2_2, P2_3, P2_4⟩
def Q_rmLk_3 (n0 : Nat) (Z : State) (cS : Int32) (aDE : Addr) (kDE : ClassId) (aUS : Addr) (aSS : Addr) (aIE : Addr) (mO : Addr) (a0l : Addr) (ae : Addr) (ka : ClassId) (ob0 : Addr) (ob1 : Addr) (ob2 : Addr) (h0 : Heap) (v : Option Value) (h : Heap) (L : List Loc) : Prop := ∃ b : Addr, ∃ d : Addr, ∃ kd : ClassId, v = some (.ref b) ∧ Fr n0 L ∧ Keep h0 h [] ∧ (h0.size ≤ b) ∧ (h0.size ≤ d) ∧ (Exa Z h b "java/util/ImmutableCollections$ListN") ∧ (Fld Z h b "java/util/ImmutableCollections$ListN" "elements" "[Ljava/lang/Object;" (.ref d)) ∧ (Arv Z h d kd (.object "java/lang/Object") (3 : Int32) [(.ref ob0), (.ref ob1), (.ref ob2)] .null)
theorem rmLk_3 (l : Launch) (Z : State) (a0 : Array Value) (hw : ∀ d ∈ tables_1, d.before a0 Z = true) (ws : List Jvm.Cond) (cS : Int32) (aDE : Addr) (kDE : ClassId) (aUS : Addr) (aSS : Addr) (aIE : Addr) (mO : Addr) (a0l : Addr) (ae : Addr) (ka : ClassId) (ob0 : Addr) (ob1 : Addr) (ob2 : Addr) (h0 : Heap) (n0 : Nat) (O0 : Old Z n0 h0) (GL : GF Z cS aDE kDE aUS aSS aIE mO) (E_a0l : Exa Z h0 a0l "java/util/ArrayList") (F_elementData_a0l : Fld Z h0 a0l "java/util/ArrayList" "elementData" "[Ljava/lang/Object;" (.ref ae)) (F_size_a0l : Fld Z h0 a0l "java/util/ArrayList" "size" "I" (.int 3)) (E_ae : Exa Z h0 ae "[Ljava/lang/Object;") (V_ae : Arv Z h0 ae ka (.object "java/lang/Object") (10 : Int32) [(.ref ob0), (.ref ob1), (.ref ob2), .null, .null, .null, .null, .null, .null, .null] .null) (E_ob0 : Exa Z h0 ob0 "com/example/grantline/grantline/PolicyException$Problem") (E_ob1 : Exa Z h0 ob1 "com/example/grantline/grantline/PolicyException$Problem") (E_ob2 : Exa Z h0 ob2 "com/example/grantline/grantline/PolicyException$Problem") :
    MF l MN_59 jdk_56_method_3_code 2 (some (.object "java/util/List")) ws (Rm 7 3 8 90) #[(.ref a0l)] Z h0 (Q_rmLk_3 n0 Z cS aDE kDE aUS aSS aIE mO a0l ae ka ob0 ob1 ob2 h0) := by
  refine MetFree.of_bodySF (plainFor_of_name pnv17) hisR ?_
  intro p e s m args below meth c s₁ Bd hml0 hP hK
  obtain ⟨rfl, hZ, hh⟩ := hP
  have hx := Bd.exec
  have hby := Bd.bytes
  have hml : c.maxLocals = 2 := hml0
  have hown : s.vm.findClass "java/util/ImmutableCollections" = some m.cls := findClass_of_methodNamed Bd.named
  have hnm := (name_of_methodNamed Bd.named Bd.method).1
  have X0 : Stand p l e (Rm 7 3 8 90) s m #[(.ref a0l)] below meth c s₁ [] 0 0 := Stand.of_body Bd
  have e0 : s₁.heap = h0 := by rw [← hh, Bd.state]; rfl
  have N0 := Fr.nil n0
  have pre0 : ∀ t, SP p e below s₁ m 0 #[vr a0l, .unset] [] t → Steps p.tables e below (s₁.setTop (entryFrame m #[(.ref a0l)] 2)) t := fun t k => castTop (ef_rmLk_1 m a0l) k
  have GL' := GL
  obtain ⟨GCS, GCP, GDE, GVE, GUS, GSS, GIE, GMO⟩ := GL'
  obtain ⟨T1, X1, e1, st1⟩ := instNo X0 hx hZ hown (Wd hw 302 rfl) e0 E_a0l (own_nsNo (Wd hw 303 rfl) (Wd hw 339 rfl) (NS.step (Wd hw 303 rfl) (NS.step (Wd hw 304 rfl) (NS.step (Wd hw 305 rfl) (own_nsRoot (Wd hw 306 rfl) (Wd hw 339 rfl) (by decide)) (by decide)) (by decide)) (by decide)) (by decide)) (g := mkF m 1 #[vr a0l, .unset] [(.ref a0l)]) rfl rfl (dG hby D47 1 rfl)
  obtain ⟨T2, X2, e2, st2⟩ := instNo X1 hx hZ hown (Wd hw 307 rfl) e1 E_a0l (own_nsNo (Wd hw 303 rfl) (Wd hw 395 rfl) (NS.step (Wd hw 303 rfl) (NS.step (Wd hw 304 rfl) (NS.step (Wd hw 305 rfl) (own_nsRoot (Wd hw 306 rfl) (Wd hw 395 rfl) (by decide)) (by decide)) (by decide)) (by decide)) (by decide)) (g := mkF m 8 #[vr a0l, .unset] [(.ref a0l)]) rfl rfl (dG hby D47 4 rfl)
  obtain ⟨cq3, kq3, q3a, q3b, q3c⟩ := isOf hZ e2 E_a0l
  obtain ⟨_, _, ⟨T3, L3, k3, n3⟩, -, X3, ⟨Lc3, hQ3, l3, y3, z3⟩, st3⟩ := X2.interfaceBack hx (xi := MN_57) (y := MN_38) hown (mvT hZ (Wd hw 308 rfl)) (mvT hZ (Wd hw 309 rfl)) (mvT hZ (Wd hw 310 rfl)) (mvT hZ (Wd hw 311 rfl)) (mvT hZ (Wd hw 99 rfl)) (mvT hZ (Wd hw 100 rfl)) (mvT hZ (Wd hw 101 rfl)) (mvT hZ (Wd hw 312 rfl)) (by decide) (backOf (W := 0) (rmIe l Z a0 hw [] cS aDE kDE aUS aSS aIE mO a0l ((3 : Int32)) h0 n0 O0 GL F_size_a0l (by decide)) hZ (Wd hw 103 rfl) (Wd hw 15 rfl) (by decide) (by decide)) q3a q3b q3c (g := mkF m 32 #[vr a0l, .unset] [(.ref a0l)]) rfl (by rw [hml]; rfl) (Steps.refl _) (argsL := []) (rest := []) (lenOf pdv15 rfl) rfl (by show 2 * 0 + _ ≤ _; exact lEq rfl) (dG hby D47 7 rfl) (fun _ _ => ⟨rfl, e2, (by decide : 0 + 0 ≤ _), (by decide : 0 + 0 ≤ _)⟩)
  dsimp only [Pt.U, Pt.locs, Pt.cells, Pt.slots] at X3 l3 y3 z3 st3 hQ3
  subst l3 y3 z3
  obtain ⟨rfl, N3q, e3⟩ := hQ3
  have N3 := Fr.app N0 N3q
  obtain ⟨cq4, kq4, q4a, q4b, q4c⟩ := isOf hZ e3 E_a0l
  obtain ⟨_, _, ⟨T4, L4, k4, n4⟩, -, X4, ⟨Lc4, hQ4, l4, y4, z4⟩, st4⟩ := X3.interfaceBack hx (xi := MN_58) (y := MN_48) hown (mvT hZ (Wd hw 313 rfl)) (mvT hZ (Wd hw 314 rfl)) (mvT hZ (Wd hw 315 rfl)) (mvT hZ (Wd hw 316 rfl)) (mvT hZ (Wd hw 317 rfl)) (mvT hZ (Wd hw 318 rfl)) (mvT hZ (Wd hw 319 rfl)) (mvT hZ (Wd hw 312 rfl)) (by decide) (backOf (W := 0) (rmTa_3 l Z a0 hw [] cS aDE kDE aUS aSS aIE mO a0l ae ka ob0 ob1 ob2 h0 n0 O0 GL E_a0l F_elementData_a0l F_size_a0l E_ae V_ae E_ob0 E_ob1 E_ob2) hZ (Wd hw 320 rfl) (Wd hw 15 rfl) (by decide) (by decide)) q4a q4b q4c (g := mkF m 45 #[vr a0l, .unset] [(.ref a0l)]) rfl (by rw [hml]; rfl) (Steps.refl _) (argsL := []) (rest := []) (lenOf pdv22 rfl) rfl (by show 2 * 0 + _ ≤ _; exact lEq rfl) (dG hby D47 10 rfl) (fun _ _ => ⟨rfl, e3, (by decide : 0 + 1 ≤ _), (by decide : 0 + 3 ≤ _)⟩)
  dsimp only [Pt.U, Pt.locs, Pt.cells, Pt.slots] at X4 l4 y4 z4 st4 hQ4
  subst l4 y4 z4
  obtain ⟨b_4, kb_4, rfl, N4q, Kc4, P4_0, P4_1⟩ := hQ4
  have K4 : Keep h0 T4.heap [] := (Keep.refl h0 []).trans Kc4 all0
  have O4 := O0.keep Kc4 all0
  have g_b_4 : n0 ≤ b_4 := lTr (own_sz O0) P4_0
  have sz_b_4 : h0.size ≤ b_4 := lTr (Keep.refl h0 []).1 P4_0
  have N4 := Fr.app N3 N4q
  obtain ⟨_, _, ⟨T5, L5, k5, n5⟩, -, X5, ⟨Lc5, hQ5, l5, y5, z5⟩, st5⟩ := Jvm.LawKit.callS X4 hx (y := MN_56) hown (mvT hZ (Wd hw 335 rfl)) (mvT hZ (Wd hw 336 rfl)) (mvT hZ (Wd hw 296 rfl)) (mvT hZ (Wd hw 337 rfl)) (by decide) (backOf (W := 0) (rmLo_3 l Z a0 hw [] cS aDE kDE aUS aSS aIE mO b_4 kb_4 ob0 ob1 ob2 (T4.heap) n0 O4 GL P4_1 (E_ob0.keep Kc4) (E_ob1.keep Kc4) (E_ob2.keep Kc4)) hZ (Wd hw 337 rfl) (Wd hw 296 rfl) (by decide) (by decide)) (g := mkF m 50 #[vr a0l, .unset] [(.ref b_4)]) rfl (by rw [hml]; rfl) (argsL := [(.ref b_4)]) (rest := []) (lenOf pdv31 rfl) rfl (by show 2 * 0 + _ ≤ _; exact lEq rfl) (dG hby D47 11 rfl) (fun _ _ => ⟨rfl, rfl, (by decide : 1 + 2 ≤ _), (by decide : 3 + 5 ≤ _)⟩)
  dsimp only [Pt.U, Pt.locs, Pt.cells, Pt.slots] at X5 l5 y5 z5 st5 hQ5
  subst l5 y5 z5
  obtain ⟨b_5, d_5, kd_5, rfl, N5q, Kc5, P5_0, P5_1, P5_2, P5_3, P5_4⟩ := hQ5
  have K5 : Keep h0 T5.heap [] := K4.trans Kc5 all0
  have O5 := O4.keep Kc5 all0
  have g_b_5 : n0 ≤ b_5 := lTr (own_sz O4) P5_0
  have sz_b_5 : h0.size ≤ b_5 := lTr K4.1 P5_0
  have g_d_5 : n0 ≤ d_5 := lTr (own_sz O4) P5_1
  have sz_d_5 : h0.size ≤ d_5 := lTr K4.1 P5_1
  have N5 := Fr.app N4 N5q
  obtain ⟨fs, hr, hrun, hended, hW, hsame⟩ := X5.leave (v := some (.ref b_5)) (fun h => by rw [Bd.returns] at h; cases h)
  refine ⟨_, _, pre0 _ ?_, hrun, hended, _, _, rfl, ?_, ⟨_, rfl⟩, hW, hsame.mono (by decide) (by decide)⟩
  · show SP p e below s₁ m 0 #[vr a0l, .unset] [] _
    refine XS.aloadN X0.here hx rfl (dG hby D47 0 rfl) rfl rfl ?_
    show SP p e below s₁ m 1 #[vr a0l, .unset] [(.ref a0l)] _
    refine st1 _ ?_
    show SP p e below T1 m 4 #[vr a0l, .unset] [(.int 0)] _
    refine XS.ifNo X1.here hx rfl (dG hby D47 2 rfl) rfl ((if0 _ _).trans (teq (by decide : (0 : Int32) = (0 : Int32))).2) ?_
    refine XS.aloadN X1.here hx rfl (dG hby D47 3 rfl) rfl rfl ?_
    show SP p e below T1 m 8 #[vr a0l, .unset] [(.ref a0l)] _
    refine st2 _ ?_
    show SP p e below T2 m 11 #[vr a0l, .unset] [(.int 0)] _
    refine XS.ifYes X2.here hx rfl (pc0 := 11) (pc' := 31) rfl (dG hby D47 5 rfl) rfl ((if0 _ _).trans (teq (by decide : (0 : Int32) = (0 : Int32))).1) (by decide) (by decide) ?_
    refine XS.aloadN X2.here hx rfl (dG hby D47 6 rfl) rfl rfl ?_
    show SP p e below T2 m 32 #[vr a0l, .unset] [(.ref a0l)] _
    refine st3.trans ?_
    show SP p e below T3 m 37 #[vr a0l, .unset] [(.int 0)] _
    refine XS.ifYes X3.here hx rfl (pc0 := 37) (pc' := 44) rfl (dG hby D47 8 rfl) rfl ((if0 _ _).trans (teq (by decide : (0 : Int32) = (0 : Int32))).1) (by decide) (by decide) ?_
    refine XS.aloadN X3.here hx rfl (dG hby D47 9 rfl) rfl rfl ?_
    show SP p e below T3 m 45 #[vr a0l, .unset] [(.ref a0l)] _
    refine st4.trans ?_
    show SP p e below T4 m 50 #[vr a0l, .unset] [(.ref b_4)] _
    refine st5 _ ?_
    show SP p e below T5 m 53 #[vr a0l, .unset] [(.ref b_5)] _
    exact retA X5 hx Bd.returns rfl (dG hby D47 12 rfl) hr
  · show Q_rmLk_3 n0 Z cS aDE kDE aUS aSS aIE mO a0l ae ka ob0 ob1 ob2 h0 _ T5.heap _
    exact ⟨b_5, d_5, kd_5, rfl, N5, K5, sz_b_5, sz_d_5, P5_2, P5_3, P5_4⟩
def Q_rmLc_3 (n0 : Nat) (Z : State) (cS : Int32) (aDE : Addr) (kDE : ClassId) (aUS : Addr) (aSS : Addr) (aIE : Addr) (mO : Addr) (a0l : Addr) (ae : Addr) (ka : ClassId) (ob0 : Addr) (ob1 : Addr) (ob2 : Addr) (h0 : Heap) (v : Option Value) (h : Heap) (L : List Loc) : Prop := ∃ b : Addr, ∃ d : Addr, ∃ kd : ClassId, v = some (.ref b) ∧ Fr n0 L ∧ Keep h0 h [] ∧ (h0.size ≤ b) ∧ (h0.size ≤ d) ∧ (Exa Z h b "java/util/ImmutableCollections$ListN") ∧ (Fld Z h b "java/util/ImmutableCollections$ListN" "elements" "[Ljava/lang/Object;" (.ref d)) ∧ (Arv Z h d kd (.object "java/lang/Object") (3 : Int32) [(.ref ob0), (.ref ob1), (.ref ob2)] .null)
theorem rmLc_3 (l : Launch) (Z : State) (a0 : Array Value) (hw : ∀ d ∈ tables_1, d.before a0 Z = true) (ws : List Jvm.Cond) (cS : Int32) (aDE : Addr) (kDE : ClassId) (aUS : Addr) (aSS : Addr) (aIE : Addr) (mO : Addr) (a0l : Addr) (ae : Addr) (ka : ClassId) (ob0 : Addr) (ob1 : Addr) (ob2 : Addr) (h0 : Heap) (n0 : Nat) (O0 : Old Z n0 h0) (GL : GF Z cS aDE kDE aUS aSS aIE mO) (E_a0l : Exa Z h0 a0l "java/util/ArrayList") (F_elementData_a0l : Fld Z h0 a0l "java/util/ArrayList" "elementData" "[Ljava/lang/Object;" (.ref ae)) (F_size_a0l : Fld Z h0 a0l "java/util/ArrayList" "size" "I" (.int 3)) (E_ae : Exa Z h0 ae "[Ljava/lang/Object;") (V_ae : Arv Z h0 ae ka (.object "java/lang/Object") (10 : Int32) [(.ref ob0), (.ref ob1), (.ref ob2), .null, .null, .null, .null, .null, .null, .null] .null) (E_ob0 : Exa Z h0 ob0 "com/example/grantline/grantline/PolicyException$Problem") (E_ob1 : Exa Z h0 ob1 "com/example/grantline/grantline/PolicyException$Problem") (E_ob2 : Exa Z h0 ob2 "com/example/grantline/grantline/PolicyException$Problem") :
    MF l MN_60 jdk_40_method_48_code 1 (some (.object "java/util/List")) ws (Rm 8 3 8 103) #[(.ref a0l)] Z h0 (Q_rmLc_3 n0 Z cS aDE kDE aUS aSS aIE mO a0l ae ka ob0 ob1 ob2 h0) := by
  refine MetFree.of_bodySF (plainFor_of_name pnv18) hisR ?_
  intro p e s m args below meth c s₁ Bd hml0 hP hK
  obtain ⟨rfl, hZ, hh⟩ := hP
  have hx := Bd.exec
  have hby := Bd.bytes
  have hml : c.maxLocals = 1 := hml0
  have hown : s.vm.findClass "java/util/List" = some m.cls := findClass_of_methodNamed Bd.named
  have hnm := (name_of_methodNamed Bd.named Bd.method).1
  have X0 : Stand p l e (Rm 8 3 8 103) s m #[(.ref a0l)] below meth c s₁ [] 0 0 := Stand.of_body Bd
  have e0 : s₁.heap = h0 := by rw [← hh, Bd.state]; rfl
  have N0 := Fr.nil n0
  have pre0 : ∀ t, SP p e below s₁ m 0 #[vr a0l] [] t → Steps p.tables e below (s₁.setTop (entryFrame m #[(.ref a0l)] 1)) t := fun t k => castTop (ef_rmAbc m a0l) k
  have GL' := GL
  obtain ⟨GCS, GCP, GDE, GVE, GUS, GSS, GIE, GMO⟩ := GL'
  obtain ⟨_, _, ⟨T1, L1, k1, n1⟩, -, X1, ⟨Lc1, hQ1, l1, y1, z1⟩, st1⟩ := Jvm.LawKit.callS X0 hx (y := MN_59) hown (mvT hZ (Wd hw 298 rfl)) (mvT hZ (Wd hw 299 rfl)) (mvT hZ (Wd hw 300 rfl)) (mvT hZ (Wd hw 301 rfl)) (by decide) (backOf (W := 0) (rmLk_3 l Z a0 hw [] cS aDE kDE aUS aSS aIE mO a0l ae ka ob0 ob1 ob2 h0 n0 O0 GL E_a0l F_elementData_a0l F_size_a0l E_ae V_ae E_ob0 E_ob1 E_ob2) hZ (Wd hw 301 rfl) (Wd hw 300 rfl) (by decide) (by decide)) (g := mkF m 1 #[vr a0l] [(.ref a0l)]) rfl (by rw [hml]; rfl) (argsL := [(.ref a0l)]) (rest := []) (lenOf pdv32 rfl) rfl (by show 2 * 0 + _ ≤ _; exact lEq rfl) (dG hby D46 1 rfl) (fun _ _ => ⟨rfl, e0, (by decide : 0 + 3 ≤ _), (by decide : 0 + 8 ≤ _)⟩)
  dsimp only [Pt.U, Pt.locs, Pt.cells, Pt.slots] at X1 l1 y1 z1 st1 hQ1
  subst l1 y1 z1
  obtain ⟨b_1, d_1, kd_1, rfl, N1q, Kc1, P1_0, P1_1, P1_2, P1_3, P1_4⟩ := hQ1
  have K1 : Keep h0 T1.heap [] := (Keep.refl h0 []).trans Kc1 all0
  have O1 := O0.keep Kc1 all0
  have g_b_1 : n0 ≤ b_1 := lTr (own_sz O0) P1_0
  have sz_b_1 : h0.size ≤ b_1 := lTr (Keep.refl h0 []).1 P1_0
  have g_d_1 : n0 ≤ d_1 := lTr (own_sz O0) P1_1
  have sz_d_1 : h0.size ≤ d_1 := lTr (Keep.refl h0 []).1 P1_1
  have N1 := Fr.app N0 N1q
  obtain ⟨fs, hr, hrun, hended, hW, hsame⟩ := X1.leave (v := some (.ref b_1)) (fun h => by rw [Bd.returns] at h; cases h)
  refine ⟨_, _, pre0 _ ?_, hrun, hended, _, _, rfl, ?_, ⟨_, rfl⟩, hW, hsame.mono (by decide) (by decide)⟩
  · show SP p e below s₁ m 0 #[vr a0l] [] _
    refine XS.aloadN X0.here hx rfl (dG hby D46 0 rfl) rfl rfl ?_
    show SP p e below s₁ m 1 #[vr a0l] [(.ref a0l)] _
    refine st1 _ ?_
    show SP p e below T1 m 4 #[vr a0l] [(.ref b_1)] _
    exact retA X1 hx Bd.returns rfl (dG hby D46 2 rfl) hr
  · show Q_rmLc_3 n0 Z cS aDE kDE aUS aSS aIE mO a0l ae ka ob0 ob1 ob2 h0 _ T1.heap _
    exact ⟨b_1, d_1, kd_1, rfl, N1, K1, sz_b_1, sz_d_1, P1_2, P1_3, P1_4⟩
theorem D43 : dL jdk_78_method_2_code [(0, .aload_n 0, 1), (1, .invokespecial 1, 3), (4, .aload_n 0, 1), (5, .aload_n 0, 1), (6, .putfield 7, 3), (9, .aload_n 0, 1), (10, .getstatic 13, 3), (13, .putfield 17, 3), (16, .aload_n 0, 1), (17, .getstatic 20, 3), (20, .putfield 24, 3), (23, .aload_n 0, 1), (24, .invokevirtual 27, 3), (27, .pop, 1), (28, .aload_n 0, 1), (29, .aload_n 1, 1), (30, .putfield 31, 3), (33, .return_, 1)] = true := by decide +kernel
theorem pnv19 : plainName "java/lang/Throwable" = true := by first | (simp [plainName, overriddenIn]; done) | decide +kernel
abbrev MN_61 : MethodName := ⟨"java/lang/Throwable", "<init>", "(Ljava/lang/String;)V"⟩
theorem ef_rmTh (m : MethodId) (a0x : Addr) (am : Addr) : entryFrame m #[(.ref a0x), (.ref am)] 2 = mkF m 0 #[vr a0x, vr am] [] := by first | (simp [entryFrame, mkF, argsToLocals, Value.category]; done) | rfl
def Q_rmTh (n0 : Nat) (Z : State) (cS : Int32) (aDE : Addr) (kDE : ClassId) (aUS : Addr) (aSS : Addr) (aIE : Addr) (mO : Addr) (a0x : Addr) (am : Addr) (h0 : Heap) (v : Option Value) (h : Heap) (L : List Loc) : Prop := v = none ∧ Fr n0 L ∧ Keep h0 h [a0x] ∧ (Exa Z h a0x "com/example/grantline/grantline/PolicyException") ∧ (Fld Z h a0x "com/example/grantline/grantline/PolicyException" "problems" "Ljava/util/List;" .null)
theorem rmTh (l : Launch) (Z : State) (a0 : Array Value) (hw : ∀ d ∈ tables_1, d.before a0 Z = true) (ws : List Jvm.Cond) (hlt : l.stackTraces = true) (cS : Int32) (aDE : Addr) (kDE : ClassId) (aUS : Addr) (aSS : Addr) (aIE : Addr) (mO : Addr) (a0x : Addr) (am : Addr) (h0 : Heap) (n0 : Nat) (O0 : Old Z n0 h0) (GL : GF Z cS aDE kDE aUS aSS aIE mO) (E_a0x : Exa Z h0 a0x "com/example/grantline/grantline/PolicyException") (U_a0x : Unt h0 a0x) (F_cause_a0x : Fld Z h0 a0x "java/lang/Throwable" "cause" "Ljava/lang/Throwable;" .null) (F_stackTrace_a0x : Fld Z h0 a0x "java/lang/Throwable" "stackTrace" "[Ljava/lang/StackTraceElement;" .null) (F_suppressedExceptions_a0x : Fld Z h0 a0x "java/lang/Throwable" "suppressedExceptions" "Ljava/util/List;" .null) (F_detailMessage_a0x : Fld Z h0 a0x "java/lang/Throwable" "detailMessage" "Ljava/lang/String;" .null) (F_backtrace_a0x : Fld Z h0 a0x "java/lang/Throwable" "backtrace" "Ljava/lang/Object;" .null) (F_problems_a0x : Fld Z h0 a0x "com/example/grantline/grantline/PolicyException" "problems" "Ljava/util/List;" .null) (g_a0x : n0 ≤ a0x) :
    MetFree l MN_61 (head1 (Jvm.Cond.code MN_61 jdk_78_method_2_code 2 none :: ws) (Rm 3 1 2752 42)) (fun a U => a = #[(.ref a0x), (.ref am)] ∧ Z.Warmed39 U.vm ∧ U.heap = h0) (fun _ _ bl s _ => s.vm.MethodsKnown ∧ s.vm.FramesKnown bl) (fun _ U o U' => ∃ v L, o = .returned v ∧ Q_rmTh n0 Z cS aDE kDE aUS aSS aIE mO a0x am h0 v U'.heap L ∧ FrameEnd U o U' L (Rm 3 1 2752 42).cells (Rm 3 1 2752 42).slots) := by
  refine MetFree.of_bodySF (plainFor_of_name pnv19) hisR ?_
  intro p e s m args below meth c s₁ Bd hml0 hP hK
  obtain ⟨rfl, hZ, hh⟩ := hP
  have hx := Bd.exec
  have hby := Bd.bytes
  have hml : c.maxLocals = 2 := hml0
  have hown : s.vm.findClass "java/lang/Throwable" = some m.cls := findClass_of_methodNamed Bd.named
  have hnm := (name_of_methodNamed Bd.named Bd.method).1
  have X0 : Stand p l e (Rm 3 1 2752 42) s m #[(.ref a0x), (.ref am)] below meth c s₁ [] 0 0 := Stand.of_body Bd
  have e0 : s₁.heap = h0 := by rw [← hh, Bd.state]; rfl
  have N0 := Fr.nil n0
  have pre0 : ∀ t, SP p e below s₁ m 0 #[vr a0x, vr am] [] t → Steps p.tables e below (s₁.setTop (entryFrame m #[(.ref a0x), (.ref am)] 2)) t := fun t k => castTop (ef_rmTh m a0x am) k
  obtain ⟨hTK, hBW⟩ := hK
  have GL' := GL
  obtain ⟨GCS, GCP, GDE, GVE, GUS, GSS, GIE, GMO⟩ := GL'
  obtain ⟨T1, X1, e1, st1⟩ := initO X0 hx hZ hown (Wd hw 258 rfl) (Wd hw 32 rfl) (Wd hw 33 rfl) e0 (g := mkF m 1 #[vr a0x, vr am] [(.ref a0x)]) rfl (by rw [hml]; rfl) rfl (dG hby D43 1 rfl) (by decide) (W := 0) (by show 2 * 0 + _ ≤ _; exact lEq rfl) (by decide)
  obtain ⟨T2, h2, X2, e2, W2, st2⟩ := putF X1 hx hZ hown (host := "") (Or.inl (Wd hw 259 rfl)) Via.refl e1 F_cause_a0x E_a0x (Or.inl (Wd hw 260 rfl)) (Wd hw 87 rfl) (ty := (.object "java/lang/Throwable")) (by decide) rfl rfl (g := mkF m 6 #[vr a0x, vr am] [(.ref a0x), (.ref a0x)]) rfl rfl (dG hby D43 4 rfl)
  have Fw2 := F_cause_a0x.same W2
  have K2 : Keep h0 h2 [a0x] := (Keep.refl h0 [a0x]).wr W2 (Or.inl (List.mem_of_getElem? (i := 0) rfl))
  have O2 := O0.wr W2 g_a0x
  have N2 := Fr.snoc X2 N0 g_a0x
  obtain ⟨T3, X3, e3, st3⟩ := getS2 X2 hx hZ hown (host := "") (Or.inl (Wd hw 261 rfl)) Via.refl e2 (GUS.ext O2.2) (g := mkF m 10 #[vr a0x, vr am] [(.ref a0x)]) rfl (dG hby D43 6 rfl)
  obtain ⟨T4, h4, X4, e4, W4, st4⟩ := putF X3 hx hZ hown (host := "") (Or.inl (Wd hw 262 rfl)) Via.refl e3 (F_stackTrace_a0x.other W2 (Or.inr (slot_ne (a0 := a0) (Or.inl (Wd hw 263 rfl)) (Or.inl (Wd hw 260 rfl)) (by decide) (t := (.array (.object "java/lang/StackTraceElement"))) (t' := (.object "java/lang/Throwable")) (by decide) (by decide)))) (E_a0x.wr W2) (Or.inl (Wd hw 263 rfl)) (Wd hw 87 rfl) (ty := (.array (.object "java/lang/StackTraceElement"))) (by decide) rfl rfl (g := mkF m 13 #[vr a0x, vr am] [(.ref aUS), (.ref a0x)]) rfl rfl (dG hby D43 7 rfl)
  have Fw4 := (F_stackTrace_a0x.other W2 (Or.inr (slot_ne (a0 := a0) (Or.inl (Wd hw 263 rfl)) (Or.inl (Wd hw 260 rfl)) (by decide) (t := (.array (.object "java/lang/StackTraceElement"))) (t' := (.object "java/lang/Throwable")) (by decide) (by decide)))).same W4
  have K4 : Keep h0 h4 [a0x] := K2.wr W4 (Or.inl (List.mem_of_getElem? (i := 0) rfl))
  have O4 := O2.wr W4 g_a0x
  have N4 := Fr.snoc X4 N2 g_a0x
  obtain ⟨T5, X5, e5, st5⟩ := getS2 X4 hx hZ hown (host := "") (Or.inl (Wd hw 264 rfl)) Via.refl e4 (GSS.ext O4.2) (g := mkF m 17 #[vr a0x, vr am] [(.ref a0x)]) rfl (dG hby D43 9 rfl)
  obtain ⟨T6, h6, X6, e6, W6, st6⟩ := putF X5 hx hZ hown (host := "") (Or.inl (Wd hw 265 rfl)) Via.refl e5 ((F_suppressedExceptions_a0x.other W2 (Or.inr (slot_ne (a0 := a0) (Or.inl (Wd hw 266 rfl)) (Or.inl (Wd hw 260 rfl)) (by decide) (t := (.object "java/util/List")) (t' := (.object "java/lang/Throwable")) (by decide) (by decide)))).other W4 (Or.inr (slot_ne (a0 := a0) (Or.inl (Wd hw 266 rfl)) (Or.inl (Wd hw 263 rfl)) (by decide) (t := (.object "java/util/List")) (t' := (.array (.object "java/lang/StackTraceElement"))) (by decide) (by decide)))) ((E_a0x.wr W2).wr W4) (Or.inl (Wd hw 266 rfl)) (Wd hw 87 rfl) (ty := (.object "java/util/List")) (by decide) rfl rfl (g := mkF m 20 #[vr a0x, vr am] [(.ref aSS), (.ref a0x)]) rfl rfl (dG hby D43 10 rfl)
  have Fw6 := ((F_suppressedExceptions_a0x.other W2 (Or.inr (slot_ne (a0 := a0) (Or.inl (Wd hw 266 rfl)) (Or.inl (Wd hw 260 rfl)) (by decide) (t := (.object "java/util/List")) (t' := (.object "java/lang/Throwable")) (by decide) (by decide)))).other W4 (Or.inr (slot_ne (a0 := a0) (Or.inl (Wd hw 266 rfl)) (Or.inl (Wd hw 263 rfl)) (by decide) (t := (.object "java/util/List")) (t' := (.array (.object "java/lang/StackTraceElement"))) (by decide) (by decide)))).same W6
  have K6 : Keep h0 h6 [a0x] := K4.wr W6 (Or.inl (List.mem_of_getElem? (i := 0) rfl))
  have O6 := O4.wr W6 g_a0x
  have N6 := Fr.snoc X6 N4 g_a0x
  obtain ⟨T7, h7, X7, e7, Kc7, Ex7, Ff7, st7⟩ := own_fill X6 hx hlt hZ hw hown (hTK.alikeC (hZ.alike.symm.trans hZ.alike)) (hBW.alikeC (hZ.alike.symm.trans hZ.alike)) (own_ths (by rw [hh]; exact O0)) (own_ths O6) e6 (((E_a0x.wr W2).wr W4).wr W6) (((U_a0x.wr W2).wr W4).wr W6) (((F_backtrace_a0x.other W2 (Or.inr (slot_ne (a0 := a0) (Or.inl (Wd hw 290 rfl)) (Or.inl (Wd hw 260 rfl)) (by decide) (t := (.object "java/lang/Object")) (t' := (.object "java/lang/Throwable")) (by decide) (by decide)))).other W4 (Or.inr (slot_ne (a0 := a0) (Or.inl (Wd hw 290 rfl)) (Or.inl (Wd hw 263 rfl)) (by decide) (t := (.object "java/lang/Object")) (t' := (.array (.object "java/lang/StackTraceElement"))) (by decide) (by decide)))).other W6 (Or.inr (slot_ne (a0 := a0) (Or.inl (Wd hw 290 rfl)) (Or.inl (Wd hw 266 rfl)) (by decide) (t := (.object "java/lang/Object")) (t' := (.object "java/util/List")) (by decide) (by decide)))) (Fw4.other W6 (Or.inr (slot_ne (a0 := a0) (Or.inl (Wd hw 263 rfl)) (Or.inl (Wd hw 266 rfl)) (by decide) (t := (.array (.object "java/lang/StackTraceElement"))) (t' := (.object "java/util/List")) (by decide) (by decide)))) (GUS.ext O6.2) (g := mkF m 24 #[vr a0x, vr am] [(.ref a0x)]) rfl (by rw [hml]; rfl) rfl (dG hby D43 12 rfl) (by decide) (W := 0) (by show 2 * 0 + _ ≤ _; exact lEq rfl) (by decide) (by decide) (by decide)
  have K7 : Keep h0 h7 [a0x] := K6.trans Kc7 (allS (Or.inl (List.mem_of_getElem? (i := 0) rfl)) all0)
  have O7 := O6.keep Kc7 (allS g_a0x all0)
  have N7 := own_frfill (Z := Z) N6 g_a0x
  have Fl7_problems := Ff7 (((F_problems_a0x.other W2 (Or.inr (slot_ne (a0 := a0) (Or.inr (Wd hw 368 rfl)) (Or.inl (Wd hw 260 rfl)) (by decide) (t := (.object "java/util/List")) (t' := (.object "java/lang/Throwable")) (by decide) (by decide)))).other W4 (Or.inr (slot_ne (a0 := a0) (Or.inr (Wd hw 368 rfl)) (Or.inl (Wd hw 263 rfl)) (by decide) (t := (.object "java/util/List")) (t' := (.array (.object "java/lang/StackTraceElement"))) (by decide) (by decide)))).other W6 (Or.inr (slot_ne (a0 := a0) (Or.inr (Wd hw 368 rfl)) (Or.inl (Wd hw 266 rfl)) (by decide) (t := (.object "java/util/List")) (t' := (.object "java/util/List")) (by decide) (by decide)))) (slot_ne (a0 := a0) (Or.inr (Wd hw 368 rfl)) (Or.inl (Wd hw 290 rfl)) (by decide) (t := (.object "java/util/List")) (t' := (.object "java/lang/Object")) (by decide) (by decide)) (slot_ne (a0 := a0) (Or.inr (Wd hw 368 rfl)) (Or.inl (Wd hw 291 rfl)) (by decide) (t := (.object "java/util/List")) (t' := .int) (by decide) (by decide)) (slot_ne (a0 := a0) (Or.inr (Wd hw 368 rfl)) (Or.inl (Wd hw 263 rfl)) (by decide) (t := (.object "java/util/List")) (t' := (.array (.object "java/lang/StackTraceElement"))) (by decide) (by decide))
  have Fl7_detailMessage := Ff7 (((F_detailMessage_a0x.other W2 (Or.inr (slot_ne (a0 := a0) (Or.inl (Wd hw 289 rfl)) (Or.inl (Wd hw 260 rfl)) (by decide) (t := (.object "java/lang/String")) (t' := (.object "java/lang/Throwable")) (by decide) (by decide)))).other W4 (Or.inr (slot_ne (a0 := a0) (Or.inl (Wd hw 289 rfl)) (Or.inl (Wd hw 263 rfl)) (by decide) (t := (.object "java/lang/String")) (t' := (.array (.object "java/lang/StackTraceElement"))) (by decide) (by decide)))).other W6 (Or.inr (slot_ne (a0 := a0) (Or.inl (Wd hw 289 rfl)) (Or.inl (Wd hw 266 rfl)) (by decide) (t := (.object "java/lang/String")) (t' := (.object "java/util/List")) (by decide) (by decide)))) (slot_ne (a0 := a0) (Or.inl (Wd hw 289 rfl)) (Or.inl (Wd hw 290 rfl)) (by decide) (t := (.object "java/lang/String")) (t' := (.object "java/lang/Object")) (by decide) (by decide)) (slot_ne (a0 := a0) (Or.inl (Wd hw 289 rfl)) (Or.inl (Wd hw 291 rfl)) (by decide) (t := (.object "java/lang/String")) (t' := .int) (by decide) (by decide)) (slot_ne (a0 := a0) (Or.inl (Wd hw 289 rfl)) (Or.inl (Wd hw 263 rfl)) (by decide) (t := (.object "java/lang/String")) (t' := (.array (.object "java/lang/StackTraceElement"))) (by decide) (by decide))
  obtain ⟨T8, h8, X8, e8, W8, st8⟩ := putF X7 hx hZ hown (host := "") (Or.inl (Wd hw 293 rfl)) Via.refl e7 Fl7_detailMessage Ex7 (Or.inl (Wd hw 289 rfl)) (Wd hw 87 rfl) (ty := (.object "java/lang/String")) (by decide) rfl rfl (g := mkF m 30 #[vr a0x, vr am] [(.ref am), (.ref a0x)]) rfl rfl (dG hby D43 16 rfl)
  have Fw8 := Fl7_detailMessage.same W8
  have K8 : Keep h0 h8 [a0x] := K7.wr W8 (Or.inl (List.mem_of_getElem? (i := 0) rfl))
  have O8 := O7.wr W8 g_a0x
  have N8 := Fr.snoc X8 N7 g_a0x
  obtain ⟨fs, hr, hrun, hended, hW, hsame⟩ := X8.leave (v := none) (fun _ => rfl)
  refine ⟨_, _, pre0 _ ?_, hrun, hended, _, _, rfl, ?_, ⟨_, rfl⟩, hW, hsame.mono (by decide) (by decide)⟩
  · show SP p e below s₁ m 0 #[vr a0x, vr am] [] _
    refine XS.aloadN X0.here hx rfl (dG hby D43 0 rfl) rfl rfl ?_
    show SP p e below s₁ m 1 #[vr a0x, vr am] [(.ref a0x)] _
    refine st1 _ ?_
    show SP p e below T1 m 4 #[vr a0x, vr am] [] _
    refine XS.aloadN X1.here hx rfl (dG hby D43 2 rfl) rfl rfl ?_
    refine XS.aloadN X1.here hx rfl (dG hby D43 3 rfl) rfl rfl ?_
    show SP p e below T1 m 6 #[vr a0x, vr am] [(.ref a0x), (.ref a0x)] _
    refine st2 _ ?_
    show SP p e below T2 m 9 #[vr a0x, vr am] [] _
    refine XS.aloadN X2.here hx rfl (dG hby D43 5 rfl) rfl rfl ?_
    show SP p e below T2 m 10 #[vr a0x, vr am] [(.ref a0x)] _
    refine st3 _ ?_
    show SP p e below T3 m 13 #[vr a0x, vr am] [(.ref aUS), (.ref a0x)] _
    refine st4 _ ?_
    show SP p e below T4 m 16 #[vr a0x, vr am] [] _
    refine XS.aloadN X4.here hx rfl (dG hby D43 8 rfl) rfl rfl ?_
    show SP p e below T4 m 17 #[vr a0x, vr am] [(.ref a0x)] _
    refine st5 _ ?_
    show SP p e below T5 m 20 #[vr a0x, vr am] [(.ref aSS), (.ref a0x)] _
    refine st6 _ ?_
    show SP p e below T6 m 23 #[vr a0x, vr am] [] _
    refine XS.aloadN X6.here hx rfl (dG hby D43 11 rfl) rfl rfl ?_
    show SP p e below T6 m 24 #[vr a0x, vr am] [(.ref a0x)] _
    refine st7 _ ?_
    show SP p e below T7 m 27 #[vr a0x, vr am] [(.ref a0x)] _
    refine XS.pop X7.here hx rfl (dG hby D43 13 rfl) rfl rfl ?_
    refine XS.aloadN X7.here hx rfl (dG hby D43 14 rfl) rfl rfl ?_
    refine XS.aloadN X7.here hx rfl (dG hby D43 15 rfl) rfl rfl ?_
    show SP p e below T7 m 30 #[vr a0x, vr am] [(.ref am), (.ref a0x)] _
    refine st8 _ ?_
    show SP p e below T8 m 33 #[vr a0x, vr am] [] _
    exact X8.returnOut hx Bd.returns (dG hby D43 17 rfl) hr
  · show Q_rmTh n0 Z cS aDE kDE aUS aSS aIE mO a0x am h0 _ T8.heap _
    rw [e8]
    exact ⟨rfl, N8, K8, (Ex7.wr W8), (Fl7_problems.other W8 (Or.inr (slot_ne (a0 := a0) (Or.inr (Wd hw 368 rfl)) (Or.inl (Wd hw 289 rfl)) (by decide) (t := (.object "java/util/List")) (t' := (.object "java/lang/String")) (by decide) (by decide))))⟩
theorem D42 : dL jdk_59_method_2_code [(0, .aload_n 0, 1), (1, .aload_n 1, 1), (2, .invokespecial 7, 3), (5, .return_, 1)] = true := by decide +kernel
theorem pnv20 : plainName "java/lang/Exception" = true := by first | (simp [plainName, overriddenIn]; done) | decide +kernel
abbrev MN_62 : MethodName := ⟨"java/lang/Exception", "<init>", "(Ljava/lang/String;)V"⟩
def Q_rmEx (n0 : Nat) (Z : State) (cS : Int32) (aDE : Addr) (kDE : ClassId) (aUS : Addr) (aSS : Addr) (aIE : Addr) (mO : Addr) (a0x : Addr) (am : Addr) (h0 : Heap) (v : Option Value) (h : Heap) (L : List Loc) : Prop := v = none ∧ Fr n0 L ∧ Keep h0 h [a0x] ∧ (Exa Z h a0x "com/example/grantline/grantline/PolicyException") ∧ (Fld Z h a0x "com/example/grantline/grantline/PolicyException" "problems" "Ljava/util/List;" .null)
theorem rmEx (l : Launch) (Z : State) (a0 : Array Value) (hw : ∀ d ∈ tables_1, d.before a0 Z = true) (ws : List Jvm.Cond) (hlt : l.stackTraces = true) (cS : Int32) (aDE : Addr) (kDE : ClassId) (aUS : Addr) (aSS : Addr) (aIE : Addr) (mO : Addr) (a0x : Addr) (am : Addr) (h0 : Heap) (n0 : Nat) (O0 : Old Z n0 h0) (GL : GF Z cS aDE kDE aUS aSS aIE mO) (E_a0x : Exa Z h0 a0x "com/example/grantline/grantline/PolicyException") (U_a0x : Unt h0 a0x) (F_cause_a0x : Fld Z h0 a0x "java/lang/Throwable" "cause" "Ljava/lang/Throwable;" .null) (F_stackTrace_a0x : Fld Z h0 a0x "java/lang/Throwable" "stackTrace" "[Ljava/lang/StackTraceElement;" .null) (F_suppressedExceptions_a0x : Fld Z h0 a0x "java/lang/Throwable" "suppressedExceptions" "Ljava/util/List;" .null) (F_detailMessage_a0x : Fld Z h0 a0x "java/lang/Throwable" "detailMessage" "Ljava/lang/String;" .null) (F_backtrace_a0x : Fld Z h0 a0x "java/lang/Throwable" "backtrace" "Ljava/lang/Object;" .null) (F_problems_a0x : Fld Z h0 a0x "com/example/grantline/grantline/PolicyException" "problems" "Ljava/util/List;" .null) (g_a0x : n0 ≤ a0x) :
    MetFree l MN_62 (head1 (Jvm.Cond.code MN_62 jdk_59_method_2_code 2 none :: ws) (Rm 4 1 2752 55)) (fun a U => a = #[(.ref a0x), (.ref am)] ∧ Z.Warmed39 U.vm ∧ U.heap = h0) (fun _ _ bl s _ => s.vm.MethodsKnown ∧ s.vm.FramesKnown bl) (fun _ U o U' => ∃ v L, o = .returned v ∧ Q_rmEx n0 Z cS aDE kDE aUS aSS aIE mO a0x am h0 v U'.heap L ∧ FrameEnd U o U' L (Rm 4 1 2752 55).cells (Rm 4 1 2752 55).slots) := by
  refine MetFree.of_bodySF (plainFor_of_name pnv20) hisR ?_
  intro p e s m args below meth c s₁ Bd hml0 hP hK
  obtain ⟨rfl, hZ, hh⟩ := hP
  have hx := Bd.exec
  have hby := Bd.bytes
  have hml : c.maxLocals = 2 := hml0
  have hown : s.vm.findClass "java/lang/Exception" = some m.cls := findClass_of_methodNamed Bd.named
  have hnm := (name_of_methodNamed Bd.named Bd.method).1
  have X0 : Stand p l e (Rm 4 1 2752 55) s m #[(.ref a0x), (.ref am)] below meth c s₁ [] 0 0 := Stand.of_body Bd
  have e0 : s₁.heap = h0 := by rw [← hh, Bd.state]; rfl
  have N0 := Fr.nil n0
  have pre0 : ∀ t, SP p e below s₁ m 0 #[vr a0x, vr am] [] t → Steps p.tables e below (s₁.setTop (entryFrame m #[(.ref a0x), (.ref am)] 2)) t := fun t k => castTop (ef_rmTh m a0x am) k
  obtain ⟨hTK, hBW⟩ := hK
  have GL' := GL
  obtain ⟨GCS, GCP, GDE, GVE, GUS, GSS, GIE, GMO⟩ := GL'
  obtain ⟨_, _, ⟨T1, L1, k1, n1⟩, -, X1, ⟨Lc1, hQ1, l1, y1, z1⟩, st1⟩ := X0.specialBack hx (y := MN_61) rfl hown (mvT hZ (Wd hw 252 rfl)) (mvT hZ (Wd hw 253 rfl)) (mvT hZ (Wd hw 257 rfl)) (by decide) (backOfKL (W := 0) (rmTh l Z a0 hw [] hlt cS aDE kDE aUS aSS aIE mO a0x am h0 n0 O0 GL E_a0x U_a0x F_cause_a0x F_stackTrace_a0x F_suppressedExceptions_a0x F_detailMessage_a0x F_backtrace_a0x F_problems_a0x g_a0x) hZ (Wd hw 257 rfl) (Wd hw 256 rfl) (by decide) (by decide) (hTK.alikeC (hZ.alike.symm.trans hZ.alike)) (hBW.alikeC (hZ.alike.symm.trans hZ.alike))) (g := mkF m 2 #[vr a0x, vr am] [(.ref am), (.ref a0x)]) rfl (by rw [hml]; rfl) (Steps.refl _) (a := a0x) (argsL := [(.ref am)]) (rest := []) (lenOf pdv6 rfl) rfl (by show 2 * 0 + _ ≤ _; exact lEq rfl) (dG hby D42 2 rfl) (fun _ _ => ⟨rfl, e0, (by decide : 0 + 1 ≤ _), (by decide : 0 + 2752 ≤ _)⟩)
  dsimp only [Pt.U, Pt.locs, Pt.cells, Pt.slots] at X1 l1 y1 z1 st1 hQ1
  subst l1 y1 z1
  obtain ⟨rfl, N1q, Kc1, P1_0, P1_1⟩ := hQ1
  have K1 : Keep h0 T1.heap [a0x] := (Keep.refl h0 [a0x]).trans Kc1 (allS (Or.inl (List.mem_of_getElem? (i := 0) rfl)) all0)
  have O1 := O0.keep Kc1 (allS g_a0x all0)
  have N1 := Fr.app N0 N1q
  obtain ⟨fs, hr, hrun, hended, hW, hsame⟩ := X1.leave (v := none) (fun _ => rfl)
  refine ⟨_, _, pre0 _ ?_, hrun, hended, _, _, rfl, ?_, ⟨_, rfl⟩, hW, hsame.mono (by decide) (by decide)⟩
  · show SP p e below s₁ m 0 #[vr a0x, vr am] [] _
    refine XS.aloadN X0.here hx rfl (dG hby D42 0 rfl) rfl rfl ?_
    refine XS.aloadN X0.here hx rfl (dG hby D42 1 rfl) rfl rfl ?_
    show SP p e below s₁ m 2 #[vr a0x, vr am] [(.ref am), (.ref a0x)] _
    refine st1.trans ?_
    show SP p e below T1 m 5 #[vr a0x, vr am] [] _
    exact X1.returnOut hx Bd.returns (dG hby D42 3 rfl) hr
  · show Q_rmEx n0 Z cS aDE kDE aUS aSS aIE mO a0x am h0 _ T1.heap _
    exact ⟨rfl, N1, K1, P1_0, P1_1⟩
theorem D13 : dL prog_16_method_2_code [(0, .aload_n 0, 1), (1, .aload_n 1, 1), (2, .invokestatic 18, 3), (5, .invokevirtual 22, 3), (8, .invokespecial 26, 3), (11, .aload_n 0, 1), (12, .aload_n 1, 1), (13, .invokestatic 31, 3), (16, .putfield 35, 3), (19, .return_, 1)] = true := by decide +kernel
theorem pdv34 : parseMethodDescriptor "(Ljava/util/List;)Lcom/example/grantline/grantline/PolicyException$Problem;" = some ⟨[(.object "java/util/List")], some (.object "com/example/grantline/grantline/PolicyException$Problem")⟩ := by decide +kernel
abbrev MN_63 : MethodName := ⟨"com/example/grantline/grantline/PolicyException", "<init>", "(Ljava/util/List;)V"⟩
theorem ef_rmX_1 (m : MethodId) (a0x : Addr) (a1l : Addr) : entryFrame m #[(.ref a0x), (.ref a1l)] 2 = mkF m 0 #[vr a0x, vr a1l] [] := by first | (simp [entryFrame, mkF, argsToLocals, Value.category]; done) | rfl
def Q_rmX_1 (n0 : Nat) (Z : State) (cS : Int32) (aDE : Addr) (kDE : ClassId) (aUS : Addr) (aSS : Addr) (aIE : Addr) (mO : Addr) (a0x : Addr) (a1l : Addr) (ae : Addr) (ka : ClassId) (ob0 : Addr) (sA : Addr) (vA : Addr) (kA : ClassId) (nA : Int32) (lA : List Value) (sB : Addr) (vB : Addr) (kB : ClassId) (nB : Int32) (lB : List Value) (h0 : Heap) (v : Option Value) (h : Heap) (L : List Loc) : Prop := ∃ b : Addr, v = none ∧ Fr n0 L ∧ Keep h0 h [a0x] ∧ (Exa Z h a0x "com/example/grantline/grantline/PolicyException") ∧ (Fld Z h a0x "com/example/grantline/grantline/PolicyException" "problems" "Ljava/util/List;" (.ref b)) ∧ (Exa Z h b "java/util/ImmutableCollections$List12") ∧ (Fld Z h b "java/util/ImmutableCollections$List12" "e0" "Ljava/lang/Object;" (.ref ob0))
theorem rmX_1 (l : Launch) (Z : State) (a0 : Array Value) (hw : ∀ d ∈ tables_1, d.before a0 Z = true) (ws : List Jvm.Cond) (hlt : l.stackTraces = true) (cS : Int32) (aDE : Addr) (kDE : ClassId) (aUS : Addr) (aSS : Addr) (aIE : Addr) (mO : Addr) (a0x : Addr) (a1l : Addr) (ae : Addr) (ka : ClassId) (ob0 : Addr) (sA : Addr) (vA : Addr) (kA : ClassId) (nA : Int32) (lA : List Value) (sB : Addr) (vB : Addr) (kB : ClassId) (nB : Int32) (lB : List Value) (h0 : Heap) (n0 : Nat) (O0 : Old Z n0 h0) (GL : GF Z cS aDE kDE aUS aSS aIE mO) (E_a0x : Exa Z h0 a0x "com/example/grantline/grantline/PolicyException") (U_a0x : Unt h0 a0x) (F_cause_a0x : Fld Z h0 a0x "java/lang/Throwable" "cause" "Ljava/lang/Throwable;" .null) (F_stackTrace_a0x : Fld Z h0 a0x "java/lang/Throwable" "stackTrace" "[Ljava/lang/StackTraceElement;" .null) (F_suppressedExceptions_a0x : Fld Z h0 a0x "java/lang/Throwable" "suppressedExceptions" "Ljava/util/List;" .null) (F_detailMessage_a0x : Fld Z h0 a0x "java/lang/Throwable" "detailMessage" "Ljava/lang/String;" .null) (F_backtrace_a0x : Fld Z h0 a0x "java/lang/Throwable" "backtrace" "Ljava/lang/Object;" .null) (F_problems_a0x : Fld Z h0 a0x "com/example/grantline/grantline/PolicyException" "problems" "Ljava/util/List;" .null) (g_a0x : n0 ≤ a0x) (E_a1l : Exa Z h0 a1l "java/util/ArrayList") (F_elementData_a1l : Fld Z h0 a1l "java/util/ArrayList" "elementData" "[Ljava/lang/Object;" (.ref ae)) (F_size_a1l : Fld Z h0 a1l "java/util/ArrayList" "size" "I" (.int 1)) (E_ae : Exa Z h0 ae "[Ljava/lang/Object;") (V_ae : Arv Z h0 ae ka (.object "java/lang/Object") (10 : Int32) [(.ref ob0), .null, .null, .null, .null, .null, .null, .null, .null, .null] .null) (E_ob0 : Exa Z h0 ob0 "com/example/grantline/grantline/PolicyException$Problem") (F_pointer_ob0 : Fld Z h0 ob0 "com/example/grantline/grantline/PolicyException$Problem" "pointer" "Ljava/lang/String;" (.ref sA)) (F_description_ob0 : Fld Z h0 ob0 "com/example/grantline/grantline/PolicyException$Problem" "description" "Ljava/lang/String;" (.ref sB)) (E_sA : Exa Z h0 sA "java/lang/String") (F_value_sA : Fld Z h0 sA "java/lang/String" "value" "[B" (.ref vA)) (F_coder_sA : Fld Z h0 sA "java/lang/String" "coder" "B" (.int 0)) (V_vA : Arv Z h0 vA kA .byte nA lA (.int 0)) (E_sB : Exa Z h0 sB "java/lang/String") (F_value_sB : Fld Z h0 sB "java/lang/String" "value" "[B" (.ref vB)) (F_coder_sB : Fld Z h0 sB "java/lang/String" "coder" "B" (.int 0)) (V_vB : Arv Z h0 vB kB .byte nB lB (.int 0)) (hb0 : ¬ (nA < (0 : Int32))) (hb1 : ¬ ((2 : Int32) < nA)) (hb2 : ¬ (nB < (0 : Int32))) (hb3 : ¬ ((2 : Int32) < nB)) :
    MetFree l MN_63 (head1 (Jvm.Cond.code MN_63 prog_16_method_2_code 2 none :: ws) (Rm 8 9 2807 104)) (fun a U => a = #[(.ref a0x), (.ref a1l)] ∧ Z.Warmed39 U.vm ∧ U.heap = h0 ∧ CHv Z EL1 U.vm h0) (fun _ _ bl s _ => s.vm.MethodsKnown ∧ s.vm.FramesKnown bl) (fun _ U o U' => ∃ v L, o = .returned v ∧ Q_rmX_1 n0 Z cS aDE kDE aUS aSS aIE mO a0x a1l ae ka ob0 sA vA kA nA lA sB vB kB nB lB h0 v U'.heap L ∧ CHr Z EL1 U.vm U.heap U'.vm U'.heap ∧ ReturnedEndW U o U' L (Rm 8 9 2807 104).cells (Rm 8 9 2807 104).slots) := by
  refine MetFree.of_bodySF (plainFor_of_name pnv12) hisR ?_
  intro p e s m args below meth c s₁ Bd hml0 hP hK
  obtain ⟨rfl, hZ, hh, H0⟩ := hP
  have hx := Bd.exec
  have hby := Bd.bytes
  have hml : c.maxLocals = 2 := hml0
  have hown : s.vm.findClass "com/example/grantline/grantline/PolicyException" = some m.cls := findClass_of_methodNamed Bd.named
  have hnm := (name_of_methodNamed Bd.named Bd.method).1
  have X0 : Stand p l e (Rm 8 9 2807 104) s m #[(.ref a0x), (.ref a1l)] below meth c s₁ [] 0 0 := Stand.of_body Bd
  have e0 : s₁.heap = h0 := by rw [← hh, Bd.state]; rfl
  have N0 := Fr.nil n0
  have pre0 : ∀ t, SP p e below s₁ m 0 #[vr a0x, vr a1l] [] t → Steps p.tables e below (s₁.setTop (entryFrame m #[(.ref a0x), (.ref a1l)] 2)) t := fun t k => castTop (ef_rmX_1 m a0x a1l) k
  obtain ⟨hTK, hBW⟩ := hK
  have X0w : Stand p l e (Rm 8 9 2807 104) (s.setVm s.vm) m #[(.ref a0x), (.ref a1l)] below meth c s₁ [] 0 0 := X0
  have R0 : CHr Z EL1 s.vm h0 s.vm h0 := CHr.refl H0
  have hS0 : s.Since s.vm h0.size := (State.WarmedH.refl s).since _
  have GL' := GL
  obtain ⟨GCS, GCP, GDE, GVE, GUS, GSS, GIE, GMO⟩ := GL'
  obtain ⟨_, _, ⟨T1, L1, k1, n1⟩, -, X1, ⟨Lc1, hQ1, l1, y1, z1⟩, st1⟩ := Jvm.LawKit.callS X0w hx (y := MN_45) hown (mvT hZ (Wd hw 92 rfl)) (mvT hZ (Wd hw 93 rfl)) (mvT hZ (Wd hw 88 rfl)) (mvT hZ (Wd hw 94 rfl)) (by decide) (backOf (W := 1) (rmFi l Z a0 hw [] cS aDE kDE aUS aSS aIE mO a1l ae ka ob0 (.null) (.null) (.null) (.null) (.null) (.null) (.null) (.null) (.null) ((1 : Int32)) h0 n0 O0 GL E_a1l F_elementData_a1l V_ae F_size_a1l E_ob0 (by decide) (by decide)) hZ (Wd hw 94 rfl) (Wd hw 88 rfl) (by decide) (by decide)) (g := mkF m 2 #[vr a0x, vr a1l] [(.ref a1l), (.ref a0x)]) rfl (by rw [hml]; rfl) (argsL := [(.ref a1l)]) (rest := [(.ref a0x)]) (lenOf pdv34 rfl) rfl (by show 2 * 0 + _ ≤ _; exact lEq rfl) (dG hby D13 2 rfl) (fun _ _ => ⟨rfl, e0, (by decide : 0 + 0 ≤ _), (by decide : 0 + 0 ≤ _)⟩)
  dsimp only [Pt.U, Pt.locs, Pt.cells, Pt.slots] at X1 l1 y1 z1 st1 hQ1
  subst l1 y1 z1
  obtain ⟨rfl, N1q, e1⟩ := hQ1
  have N1 := Fr.app N0 N1q
  obtain ⟨cq2, kq2, q2a, q2b, q2c⟩ := isOf hZ e1 E_ob0
  obtain ⟨_, _, ⟨T2, L2, k2, n2⟩, -, X2', hS2', hg2, ⟨Lc2, hQ2, l2, y2, z2, Rs2⟩, st2⟩ := X1.virtualBackS hx (y := MN_28) (z := MN_28) hown (mvT hZ (Wd hw 127 rfl)) (mvT hZ (Wd hw 128 rfl)) (notFace_of_selects (args := #[]) (mvT hZ (Wd hw 130 rfl))) (mvT hZ (Wd hw 130 rfl)) (mvT hZ (Wd hw 129 rfl)) (by decide) (backOfSH (W := 1) (rmPt l Z a0 hw [] cS aDE kDE aUS aSS aIE mO ob0 sA vA kA nA lA sB vB kB nB lB h0 n0 O0 GL E_ob0 F_pointer_ob0 F_description_ob0 E_sA F_value_sA F_coder_sA V_vA E_sB F_value_sB F_coder_sB V_vB hb0 hb1 hb2 hb3) hZ (Wd hw 131 rfl) (Wd hw 41 rfl) (by decide) (by decide) (own_EW hw) H0) q2a q2c (g := mkF m 5 #[vr a0x, vr a1l] [(.ref ob0), (.ref a0x)]) rfl (by rw [hml]; rfl) (Steps.refl _) (argsL := []) (rest := [(.ref a0x)]) (lenOf pdv20 rfl) rfl (by show 2 * 0 + _ ≤ _; exact lEq rfl) (dG hby D13 3 rfl) (fun _ _ => ⟨rfl, e1, (by decide : 0 + 6 ≤ _), (by decide : 0 + 52 ≤ _)⟩)
  dsimp only [Pt.U, Pt.locs, Pt.cells, Pt.slots] at X2' l2 y2 z2 st2 hQ2 hS2' hg2 Rs2
  subst l2 y2 z2
  obtain ⟨X2, hS2, hZ2, hown2⟩ := rebS hS0 (by rw [e1]; exact (Nat.le_refl _)) X2' hS2' hg2 hZ hown
  obtain ⟨b_2, rfl, N2q, Kc2, P2_0, P2_1⟩ := hQ2
  have K2 : Keep h0 T2.heap [a0x] := (Keep.refl h0 [a0x]).trans Kc2 all0
  have O2 := O0.keep Kc2 all0
  have H_3 := Rs2.1
  have R_3 := R0.trans Rs2
  have g_b_2 : n0 ≤ b_2 := lTr (own_sz O0) P2_0
  have sz_b_2 : h0.size ≤ b_2 := lTr (Keep.refl h0 [a0x]).1 P2_0
  have N2 := Fr.app N1 N2q
  obtain ⟨_, _, ⟨T4, L4, k4, n4⟩, -, X4, ⟨Lc4, hQ4, l4, y4, z4⟩, st4⟩ := X2.specialBack hx (y := MN_62) rfl hown2 (mvT hZ2 (Wd hw 247 rfl)) (mvT hZ2 (Wd hw 248 rfl)) (mvT hZ2 (Wd hw 251 rfl)) (by decide) (backOfKL (W := 0) (rmEx l Z a0 hw [] hlt cS aDE kDE aUS aSS aIE mO a0x b_2 (T2.heap) n0 O2 GL (E_a0x.keep Kc2) (U_a0x.keep Kc2 nin0) (F_cause_a0x.keep Kc2 nin0) (F_stackTrace_a0x.keep Kc2 nin0) (F_suppressedExceptions_a0x.keep Kc2 nin0) (F_detailMessage_a0x.keep Kc2 nin0) (F_backtrace_a0x.keep Kc2 nin0) (F_problems_a0x.keep Kc2 nin0) g_a0x) hZ2 (Wd hw 251 rfl) (Wd hw 250 rfl) (by decide) (by decide) (hTK.alikeC (hZ.alike.symm.trans hZ2.alike)) (hBW.alikeC (hZ.alike.symm.trans hZ2.alike))) (g := mkF m 8 #[vr a0x, vr a1l] [(.ref b_2), (.ref a0x)]) rfl (by rw [hml]; rfl) (Steps.refl _) (a := a0x) (argsL := [(.ref b_2)]) (rest := []) (lenOf pdv6 rfl) rfl (by show 2 * 0 + _ ≤ _; exact lEq rfl) (dG hby D13 4 rfl) (fun _ _ => ⟨rfl, rfl, (by decide : 6 + 1 ≤ _), (by decide : 52 + 2752 ≤ _)⟩)
  dsimp only [Pt.U, Pt.locs, Pt.cells, Pt.slots] at X4 l4 y4 z4 st4 hQ4
  subst l4 y4 z4
  obtain ⟨rfl, N4q, Kc4, P4_0, P4_1⟩ := hQ4
  have K4 : Keep h0 T4.heap [a0x] := K2.trans Kc4 (allS (Or.inl (List.mem_of_getElem? (i := 0) rfl)) all0)
  have O4 := O2.keep Kc4 (allS g_a0x all0)
  have Sf6 : Safe Z EL1 T2.vm T2.heap a0x := Safe.exa (EL := EL1) hZ2.alike (E_a0x.keep Kc2) (by decide) (by decide)
  have H_5 := H_3.keep Kc4 (sfS Sf6 sf0)
  have R_5 := R_3.trans (CHr.keep Kc4 (sfS Sf6 sf0) H_3)
  have N4 := Fr.app N2 N4q
  obtain ⟨_, _, ⟨T7, L7, k7, n7⟩, -, X7, ⟨Lc7, hQ7, l7, y7, z7⟩, st7⟩ := Jvm.LawKit.callS X4 hx (y := MN_60) hown2 (mvT hZ2 (Wd hw 294 rfl)) (mvT hZ2 (Wd hw 295 rfl)) (mvT hZ2 (Wd hw 296 rfl)) (mvT hZ2 (Wd hw 297 rfl)) (by decide) (backOf (W := 1) (rmLc_1 l Z a0 hw [] cS aDE kDE aUS aSS aIE mO a1l ae ka ob0 (T4.heap) n0 O4 GL ((E_a1l.keep Kc2).keep Kc4) ((F_elementData_a1l.keep Kc2 nin0).keep Kc4 (ninS (Exa.ne E_a1l E_a0x (by decide)) nin0)) ((F_size_a1l.keep Kc2 nin0).keep Kc4 (ninS (Exa.ne E_a1l E_a0x (by decide)) nin0)) ((E_ae.keep Kc2).keep Kc4) ((V_ae.keep Kc2 nin0).keep Kc4 (ninS (Exa.ne E_ae E_a0x (by decide)) nin0)) ((E_ob0.keep Kc2).keep Kc4)) hZ2 (Wd hw 297 rfl) (Wd hw 296 rfl) (by decide) (by decide)) (g := mkF m 13 #[vr a0x, vr a1l] [(.ref a1l), (.ref a0x)]) rfl (by rw [hml]; rfl) (argsL := [(.ref a1l)]) (rest := [(.ref a0x)]) (lenOf pdv32 rfl) rfl (by show 2 * 0 + _ ≤ _; exact lEq rfl) (dG hby D13 7 rfl) (fun _ _ => ⟨rfl, rfl, (by decide : 7 + 2 ≤ _), (by decide : 2804 + 3 ≤ _)⟩)
  dsimp only [Pt.U, Pt.locs, Pt.cells, Pt.slots] at X7 l7 y7 z7 st7 hQ7
  subst l7 y7 z7
  obtain ⟨b_7, rfl, N7q, Kc7, P7_0, P7_1, P7_2⟩ := hQ7
  have K7 : Keep h0 T7.heap [a0x] := K4.trans Kc7 all0
  have O7 := O4.keep Kc7 all0
  have H_8 := H_5.keep Kc7 sf0
  have R_8 := R_5.trans (CHr.keep Kc7 sf0 H_5)
  have g_b_7 : n0 ≤ b_7 := lTr (own_sz O4) P7_0
  have sz_b_7 : h0.size ≤ b_7 := lTr K4.1 P7_0
  have N7 := Fr.app N4 N7q
  obtain ⟨T9, h9, X9, e9, W9, st9⟩ := putF X7 hx hZ2 hown2 (host := "") (Or.inl (Wd hw 367 rfl)) Via.refl rfl (P4_1.keep Kc7 nin0) (P4_0.keep Kc7) (Or.inr ⟨(Wd hw 368 rfl), rfl, hnm⟩) (Wd hw 87 rfl) (ty := (.object "java/util/List")) (by decide) rfl rfl (g := mkF m 16 #[vr a0x, vr a1l] [(.ref b_7), (.ref a0x)]) rfl rfl (dG hby D13 8 rfl)
  have Fw9 := (P4_1.keep Kc7 nin0).same W9
  have Sf11 : Safe Z EL1 T2.vm T7.heap a0x := Safe.exa (EL := EL1) hZ2.alike (P4_0.keep Kc7) (by decide) (by decide)
  have H_10 := H_8.wr W9 Sf11
  have R_10 := R_8.trans (CHr.wr W9 Sf11 H_8)
  have K9 : Keep h0 h9 [a0x] := K7.wr W9 (Or.inl (List.mem_of_getElem? (i := 0) rfl))
  have O9 := O7.wr W9 g_a0x
  have N9 := Fr.snoc X9 N7 g_a0x
  obtain ⟨fs, hr, hrun, hended, hRW⟩ := X9.leaveW hS2 (by rw [e9]; exact (lTr (lTr (lTr (Nat.le_refl _) Kc4.1) Kc7.1) (Keep.of_wr W9).1)) (v := none) (fun _ => rfl)
  have hCR : CHr Z EL1 s.vm s.heap T9.vm T9.heap := by
    rw [hh, e9]
    exact R_10.trans (CHv.at X9 hZ2 (own_EW hw) H_10)
  refine ⟨_, _, pre0 _ ?_, hrun, hended, _, _, rfl, ?_, hCR, hRW.1, hRW.2.1, hRW.2.2.1, hRW.2.2.2.mono (by decide) (by decide)⟩
  · show SP p e below s₁ m 0 #[vr a0x, vr a1l] [] _
    refine XS.aloadN X0w.here hx rfl (dG hby D13 0 rfl) rfl rfl ?_
    refine XS.aloadN X0w.here hx rfl (dG hby D13 1 rfl) rfl rfl ?_
    show SP p e below s₁ m 2 #[vr a0x, vr a1l] [(.ref a1l), (.ref a0x)] _
    refine st1 _ ?_
    show SP p e below T1 m 5 #[vr a0x, vr a1l] [(.ref ob0), (.ref a0x)] _
    refine st2.trans ?_
    show SP p e below T2 m 8 #[vr a0x, vr a1l] [(.ref b_2), (.ref a0x)] _
    refine st4.trans ?_
    show SP p e below T4 m 11 #[vr a0x, vr a1l] [] _
    refine XS.aloadN X4.here hx rfl (dG hby D13 5 rfl) rfl rfl ?_
    refine XS.aloadN X4.here hx rfl (dG hby D13 6 rfl) rfl rfl ?_
    show SP p e below T4 m 13 #[vr a0x, vr a1l] [(.ref a1l), (.ref a0x)] _
    refine st7 _ ?_
    show SP p e below T7 m 16 #[vr a0x, vr a1l] [(.ref b_7), (.ref a0x)] _
    refine st9 _ ?_
    show SP p e below T9 m 19 #[vr a0x, vr a1l] [] _
    exact X9.returnOut hx Bd.returns (dG hby D13 9 rfl) hr
  · show Q_rmX_1 n0 Z cS aDE kDE aUS aSS aIE mO a0x a1l ae ka ob0 sA vA kA nA lA sB vB kB nB lB h0 _ T9.heap _
    rw [e9]
    exact ⟨b_7, rfl, N9, K9, ((P4_0.keep Kc7).wr W9), Fw9, (P7_1.wr W9), (P7_2.other W9 (Or.inl (Ne.symm (nLt (lLt (lLt E_a0x.lt (lTr Kc2.1 Kc4.1)) P7_0)))))⟩
def Q_rmX_2 (n0 : Nat) (Z : State) (cS : Int32) (aDE : Addr) (kDE : ClassId) (aUS : Addr) (aSS : Addr) (aIE : Addr) (mO : Addr) (a0x : Addr) (a1l : Addr) (ae : Addr) (ka : ClassId) (ob0 : Addr) (ob1 : Addr) (sA : Addr) (vA : Addr) (kA : ClassId) (nA : Int32) (lA : List Value) (sB : Addr) (vB : Addr) (kB : ClassId) (nB : Int32) (lB : List Value) (h0 : Heap) (v : Option Value) (h : Heap) (L : List Loc) : Prop := ∃ b : Addr, v = none ∧ Fr n0 L ∧ Keep h0 h [a0x] ∧ (Exa Z h a0x "com/example/grantline/grantline/PolicyException") ∧ (Fld Z h a0x "com/example/grantline/grantline/PolicyException" "problems" "Ljava/util/List;" (.ref b)) ∧ (Exa Z h b "java/util/ImmutableCollections$List12") ∧ (Fld Z h b "java/util/ImmutableCollections$List12" "e0" "Ljava/lang/Object;" (.ref ob0))
theorem rmX_2 (l : Launch) (Z : State) (a0 : Array Value) (hw : ∀ d ∈ tables_1, d.before a0 Z = true) (ws : List Jvm.Cond) (hlt : l.stackTraces = true) (cS : Int32) (aDE : Addr) (kDE : ClassId) (aUS : Addr) (aSS : Addr) (aIE : Addr) (mO : Addr) (a0x : Addr) (a1l : Addr) (ae : Addr) (ka : ClassId) (ob0 : Addr) (ob1 : Addr) (sA : Addr) (vA : Addr) (kA : ClassId) (nA : Int32) (lA : List Value) (sB : Addr) (vB : Addr) (kB : ClassId) (nB : Int32) (lB : List Value) (h0 : Heap) (n0 : Nat) (O0 : Old Z n0 h0) (GL : GF Z cS aDE kDE aUS aSS aIE mO) (E_a0x : Exa Z h0 a0x "com/example/grantline/grantline/PolicyException") (U_a0x : Unt h0 a0x) (F_cause_a0x : Fld Z h0 a0x "java/lang/Throwable" "cause" "Ljava/lang/Throwable;" .null) (F_stackTrace_a0x : Fld Z h0 a0x "java/lang/Throwable" "stackTrace" "[Ljava/lang/StackTraceElement;" .null) (F_suppressedExceptions_a0x : Fld Z h0 a0x "java/lang/Throwable" "suppressedExceptions" "Ljava/util/List;" .null) (F_detailMessage_a0x : Fld Z h0 a0x "java/lang/Throwable" "detailMessage" "Ljava/lang/String;" .null) (F_backtrace_a0x : Fld Z h0 a0x "java/lang/Throwable" "backtrace" "Ljava/lang/Object;" .null) (F_problems_a0x : Fld Z h0 a0x "com/example/grantline/grantline/PolicyException" "problems" "Ljava/util/List;" .null) (g_a0x : n0 ≤ a0x) (E_a1l : Exa Z h0 a1l "java/util/ArrayList") (F_elementData_a1l : Fld Z h0 a1l "java/util/ArrayList" "elementData" "[Ljava/lang/Object;" (.ref ae)) (F_size_a1l : Fld Z h0 a1l "java/util/ArrayList" "size" "I" (.int 2)) (E_ae : Exa Z h0 ae "[Ljava/lang/Object;") (V_ae : Arv Z h0 ae ka (.object "java/lang/Object") (10 : Int32) [(.ref ob0), (.ref ob1), .null, .null, .null, .null, .null, .null, .null, .null] .null) (E_ob0 : Exa Z h0 ob0 "com/example/grantline/grantline/PolicyException$Problem") (E_ob1 : Exa Z h0 ob1 "com/example/grantline/grantline/PolicyException$Problem") (F_pointer_ob0 : Fld Z h0 ob0 "com/example/grantline/grantline/PolicyException$Problem" "pointer" "Ljava/lang/String;" (.ref sA)) (F_description_ob0 : Fld Z h0 ob0 "com/example/grantline/grantline/PolicyException$Problem" "description" "Ljava/lang/String;" (.ref sB)) (E_sA : Exa Z h0 sA "java/lang/String") (F_value_sA : Fld Z h0 sA "java/lang/String" "value" "[B" (.ref vA)) (F_coder_sA : Fld Z h0 sA "java/lang/String" "coder" "B" (.int 0)) (V_vA : Arv Z h0 vA kA .byte nA lA (.int 0)) (E_sB : Exa Z h0 sB "java/lang/String") (F_value_sB : Fld Z h0 sB "java/lang/String" "value" "[B" (.ref vB)) (F_coder_sB : Fld Z h0 sB "java/lang/String" "coder" "B" (.int 0)) (V_vB : Arv Z h0 vB kB .byte nB lB (.int 0)) (hb0 : ¬ (nA < (0 : Int32))) (hb1 : ¬ ((2 : Int32) < nA)) (hb2 : ¬ (nB < (0 : Int32))) (hb3 : ¬ ((2 : Int32) < nB)) :
    MetFree l MN_63 (head1 (Jvm.Cond.code MN_63 prog_16_method_2_code 2 none :: ws) (Rm 8 9 2808 104)) (fun a U => a = #[(.ref a0x), (.ref a1l)] ∧ Z.Warmed39 U.vm ∧ U.heap = h0 ∧ CHv Z EL1 U.vm h0) (fun _ _ bl s _ => s.vm.MethodsKnown ∧ s.vm.FramesKnown bl) (fun _ U o U' => ∃ v L, o = .returned v ∧ Q_rmX_2 n0 Z cS aDE kDE aUS aSS aIE mO a0x a1l ae ka ob0 ob1 sA vA kA nA lA sB vB kB nB lB h0 v U'.heap L ∧ CHr Z EL1 U.vm U.heap U'.vm U'.heap ∧ ReturnedEndW U o U' L (Rm 8 9 2808 104).cells (Rm 8 9 2808 104).slots) := by
  refine MetFree.of_bodySF (plainFor_of_name pnv12) hisR ?_
  intro p e s m args below meth c s₁ Bd hml0 hP hK
  obtain ⟨rfl, hZ, hh, H0⟩ := hP
  have hx := Bd.exec
  have hby := Bd.bytes
  have hml : c.maxLocals = 2 := hml0
  have hown : s.vm.findClass "com/example/grantline/grantline/PolicyException" = some m.cls := findClass_of_methodNamed Bd.named
  have hnm := (name_of_methodNamed Bd.named Bd.method).1
  have X0 : Stand p l e (Rm 8 9 2808 104) s m #[(.ref a0x), (.ref a1l)] below meth c s₁ [] 0 0 := Stand.of_body Bd
  have e0 : s₁.heap = h0 := by rw [← hh, Bd.state]; rfl
  have N0 := Fr.nil n0
  have pre0 : ∀ t, SP p e below s₁ m 0 #[vr a0x, vr a1l] [] t → Steps p.tables e below (s₁.setTop (entryFrame m #[(.ref a0x), (.ref a1l)] 2)) t := fun t k => castTop (ef_rmX_1 m a0x a1l) k
  obtain ⟨hTK, hBW⟩ := hK
  have X0w : Stand p l e (Rm 8 9 2808 104) (s.setVm s.vm) m #[(.ref a0x), (.ref a1l)] below meth c s₁ [] 0 0 := X0
  have R0 : CHr Z EL1 s.vm h0 s.vm h0 := CHr.refl H0
  have hS0 : s.Since s.vm h0.size := (State.WarmedH.refl s).since _
  have GL' := GL
  obtain ⟨GCS, GCP, GDE, GVE, GUS, GSS, GIE, GMO⟩ := GL'
  obtain ⟨_, _, ⟨T1, L1, k1, n1⟩, -, X1, ⟨Lc1, hQ1, l1, y1, z1⟩, st1⟩ := Jvm.LawKit.callS X0w hx (y := MN_45) hown (mvT hZ (Wd hw 92 rfl)) (mvT hZ (Wd hw 93 rfl)) (mvT hZ (Wd hw 88 rfl)) (mvT hZ (Wd hw 94 rfl)) (by decide) (backOf (W := 1) (rmFi l Z a0 hw [] cS aDE kDE aUS aSS aIE mO a1l ae ka ob0 ((.ref ob1)) (.null) (.null) (.null) (.null) (.null) (.null) (.null) (.null) ((2 : Int32)) h0 n0 O0 GL E_a1l F_elementData_a1l V_ae F_size_a1l E_ob0 (by decide) (by decide)) hZ (Wd hw 94 rfl) (Wd hw 88 rfl) (by decide) (by decide)) (g := mkF m 2 #[vr a0x, vr a1l] [(.ref a1l), (.ref a0x)]) rfl (by rw [hml]; rfl) (argsL := [(.ref a1l)]) (rest := [(.ref a0x)]) (lenOf pdv34 rfl) rfl (by show 2 * 0 + _ ≤ _; exact lEq rfl) (dG hby D13 2 rfl) (fun _ _ => ⟨rfl, e0, (by decide : 0 + 0 ≤ _), (by decide : 0 + 0 ≤ _)⟩)
  dsimp only [Pt.U, Pt.locs, Pt.cells, Pt.slots] at X1 l1 y1 z1 st1 hQ1
  subst l1 y1 z1
  obtain ⟨rfl, N1q, e1⟩ := hQ1
  have N1 := Fr.app N0 N1q
  obtain ⟨cq2, kq2, q2a, q2b, q2c⟩ := isOf hZ e1 E_ob0
  obtain ⟨_, _, ⟨T2, L2, k2, n2⟩, -, X2', hS2', hg2, ⟨Lc2, hQ2, l2, y2, z2, Rs2⟩, st2⟩ := X1.virtualBackS hx (y := MN_28) (z := MN_28) hown (mvT hZ (Wd hw 127 rfl)) (mvT hZ (Wd hw 128 rfl)) (notFace_of_selects (args := #[]) (mvT hZ (Wd hw 130 rfl))) (mvT hZ (Wd hw 130 rfl)) (mvT hZ (Wd hw 129 rfl)) (by decide) (backOfSH (W := 1) (rmPt l Z a0 hw [] cS aDE kDE aUS aSS aIE mO ob0 sA vA kA nA lA sB vB kB nB lB h0 n0 O0 GL E_ob0 F_pointer_ob0 F_description_ob0 E_sA F_value_sA F_coder_sA V_vA E_sB F_value_sB F_coder_sB V_vB hb0 hb1 hb2 hb3) hZ (Wd hw 131 rfl) (Wd hw 41 rfl) (by decide) (by decide) (own_EW hw) H0) q2a q2c (g := mkF m 5 #[vr a0x, vr a1l] [(.ref ob0), (.ref a0x)]) rfl (by rw [hml]; rfl) (Steps.refl _) (argsL := []) (rest := [(.ref a0x)]) (lenOf pdv20 rfl) rfl (by show 2 * 0 + _ ≤ _; exact lEq rfl) (dG hby D13 3 rfl) (fun _ _ => ⟨rfl, e1, (by decide : 0 + 6 ≤ _), (by decide : 0 + 52 ≤ _)⟩)
  dsimp only [Pt.U, Pt.locs, Pt.cells, Pt.slots] at X2' l2 y2 z2 st2 hQ2 hS2' hg2 Rs2
  subst l2 y2 z2
  obtain ⟨X2, hS2, hZ2, hown2⟩ := rebS hS0 (by rw [e1]; exact (Nat.le_refl _)) X2' hS2' hg2 hZ hown
  obtain ⟨b_2, rfl, N2q, Kc2, P2_0, P2_1⟩ := hQ2
  have K2 : Keep h0 T2.heap [a0x] := (Keep.refl h0 [a0x]).trans Kc2 all0
  have O2 := O0.keep Kc2 all0
  have H_3 := Rs2.1
  have R_3 := R0.trans Rs2
  have g_b_2 : n0 ≤ b_2 := lTr (own_sz O0) P2_0
  have sz_b_2 : h0.size ≤ b_2 := lTr (Keep.refl h0 [a0x]).1 P2_0
  have N2 := Fr.app N1 N2q
  obtain ⟨_, _, ⟨T4, L4, k4, n4⟩, -, X4, ⟨Lc4, hQ4, l4, y4, z4⟩, st4⟩ := X2.specialBack hx (y := MN_62) rfl hown2 (mvT hZ2 (Wd hw 247 rfl)) (mvT hZ2 (Wd hw 248 rfl)) (mvT hZ2 (Wd hw 251 rfl)) (by decide) (backOfKL (W := 0) (rmEx l Z a0 hw [] hlt cS aDE kDE aUS aSS aIE mO a0x b_2 (T2.heap) n0 O2 GL (E_a0x.keep Kc2) (U_a0x.keep Kc2 nin0) (F_cause_a0x.keep Kc2 nin0) (F_stackTrace_a0x.keep Kc2 nin0) (F_suppressedExceptions_a0x.keep Kc2 nin0) (F_detailMessage_a0x.keep Kc2 nin0) (F_backtrace_a0x.keep Kc2 nin0) (F_problems_a0x.keep Kc2 nin0) g_a0x) hZ2 (Wd hw 251 rfl) (Wd hw 250 rfl) (by decide) (by decide) (hTK.alikeC (hZ.alike.symm.trans hZ2.alike)) (hBW.alikeC (hZ.alike.symm.trans hZ2.alike))) (g := mkF m 8 #[vr a0x, vr a1l] [(.ref b_2), (.ref a0x)]) rfl (by rw [hml]; rfl) (Steps.refl _) (a := a0x) (argsL := [(.ref b_2)]) (rest := []) (lenOf pdv6 rfl) rfl (by show 2 * 0 + _ ≤ _; exact lEq rfl) (dG hby D13 4 rfl) (fun _ _ => ⟨rfl, rfl, (by decide : 6 + 1 ≤ _), (by decide : 52 + 2752 ≤ _)⟩)
  dsimp only [Pt.U, Pt.locs, Pt.cells, Pt.slots] at X4 l4 y4 z4 st4 hQ4
  subst l4 y4 z4
  obtain ⟨rfl, N4q, Kc4, P4_0, P4_1⟩ := hQ4
  have K4 : Keep h0 T4.heap [a0x] := K2.trans Kc4 (allS (Or.inl (List.mem_of_getElem? (i := 0) rfl)) all0)
  have O4 := O2.keep Kc4 (allS g_a0x all0)
  have Sf6 : Safe Z EL1 T2.vm T2.heap a0x := Safe.exa (EL := EL1) hZ2.alike (E_a0x.keep Kc2) (by decide) (by decide)
  have H_5 := H_3.keep Kc4 (sfS Sf6 sf0)
  have R_5 := R_3.trans (CHr.keep Kc4 (sfS Sf6 sf0) H_3)
  have N4 := Fr.app N2 N4q
  obtain ⟨_, _, ⟨T7, L7, k7, n7⟩, -, X7, ⟨Lc7, hQ7, l7, y7, z7⟩, st7⟩ := Jvm.LawKit.callS X4 hx (y := MN_60) hown2 (mvT hZ2 (Wd hw 294 rfl)) (mvT hZ2 (Wd hw 295 rfl)) (mvT hZ2 (Wd hw 296 rfl)) (mvT hZ2 (Wd hw 297 rfl)) (by decide) (backOf (W := 1) (rmLc_2 l Z a0 hw [] cS aDE kDE aUS aSS aIE mO a1l ae ka ob0 ob1 (T4.heap) n0 O4 GL ((E_a1l.keep Kc2).keep Kc4) ((F_elementData_a1l.keep Kc2 nin0).keep Kc4 (ninS (Exa.ne E_a1l E_a0x (by decide)) nin0)) ((F_size_a1l.keep Kc2 nin0).keep Kc4 (ninS (Exa.ne E_a1l E_a0x (by decide)) nin0)) ((E_ae.keep Kc2).keep Kc4) ((V_ae.keep Kc2 nin0).keep Kc4 (ninS (Exa.ne E_ae E_a0x (by decide)) nin0)) ((E_ob0.keep Kc2).keep Kc4) ((E_ob1.keep Kc2).keep Kc4)) hZ2 (Wd hw 297 rfl) (Wd hw 296 rfl) (by decide) (by decide)) (g := mkF m 13 #[vr a0x, vr a1l] [(.ref a1l), (.ref a0x)]) rfl (by rw [hml]; rfl) (argsL := [(.ref a1l)]) (rest := [(.ref a0x)]) (lenOf pdv32 rfl) rfl (by show 2 * 0 + _ ≤ _; exact lEq rfl) (dG hby D13 7 rfl) (fun _ _ => ⟨rfl, rfl, (by decide : 7 + 2 ≤ _), (by decide : 2804 + 4 ≤ _)⟩)
  dsimp only [Pt.U, Pt.locs, Pt.cells, Pt.slots] at X7 l7 y7 z7 st7 hQ7
  subst l7 y7 z7
  obtain ⟨b_7, rfl, N7q, Kc7, P7_0, P7_1, P7_2⟩ := hQ7
  have K7 : Keep h0 T7.heap [a0x] := K4.trans Kc7 all0
  have O7 := O4.keep Kc7 all0
  have H_8 := H_5.keep Kc7 sf0
  have R_8 := R_5.trans (CHr.keep Kc7 sf0 H_5)
  have g_b_7 : n0 ≤ b_7 := lTr (own_sz O4) P7_0
  have sz_b_7 : h0.size ≤ b_7 := lTr K4.1 P7_0
  have N7 := Fr.app N4 N7q
  obtain ⟨T9, h9, X9, e9, W9, st9⟩ := putF X7 hx hZ2 hown2 (host := "") (Or.inl (Wd hw 367 rfl)) Via.refl rfl (P4_1.keep Kc7 nin0) (P4_0.keep Kc7) (Or.inr ⟨(Wd hw 368 rfl), rfl, hnm⟩) (Wd hw 87 rfl) (ty := (.object "java/util/List")) (by decide) rfl rfl (g := mkF m 16 #[vr a0x, vr a1l] [(.ref b_7), (.ref a0x)]) rfl rfl (dG hby D13 8 rfl)
  have Fw9 := (P4_1.keep Kc7 nin0).same W9
  have Sf11 : Safe Z EL1 T2.vm T7.heap a0x := Safe.exa (EL := EL1) hZ2.alike (P4_0.keep Kc7) (by decide) (by decide)
  have H_10 := H_8.wr W9 Sf11
  have R_10 := R_8.trans (CHr.wr W9 Sf11 H_8)
  have K9 : Keep h0 h9 [a0x] := K7.wr W9 (Or.inl (List.mem_of_getElem? (i := 0) rfl))
  have O9 := O7.wr W9 g_a0x
  have N9 := Fr.snoc X9 N7 g_a0x
  obtain ⟨fs, hr, hrun, hended, hRW⟩ := X9.leaveW hS2 (by rw [e9]; exact (lTr (lTr (lTr (Nat.le_refl _) Kc4.1) Kc7.1) (Keep.of_wr W9).1)) (v := none) (fun _ => rfl)
  have hCR : CHr Z EL1 s.vm s.heap T9.vm T9.heap := by
    rw [hh, e9]
    exact R_10.trans (CHv.at X9 hZ2 (own_EW hw) H_10)
  refine ⟨_, _, pre0 _ ?_, hrun, hended, _, _, rfl, ?_, hCR, hRW.1, hRW.2.1, hRW.2.2.1, hRW.2.2.2.mono (by decide) (by decide)⟩
  · show SP p e below s₁ m 0 #[vr a0x, vr a1l] [] _
    refine XS.aloadN X0w.here hx rfl (dG hby D13 0 rfl) rfl rfl ?_
    refine XS.aloadN X0w.here hx rfl (dG hby D13 1 rfl) rfl rfl ?_
    show SP p e below s₁ m 2 #[vr a0x, vr a1l] [(.ref a1l), (.ref a0x)] _
    refine st1 _ ?_
    show SP p e below T1 m 5 #[vr a0x, vr a1l] [(.ref ob0), (.ref a0x)] _
    refine st2.trans ?_
    show SP p e below T2 m 8 #[vr a0x, vr a1l] [(.ref b_2), (.ref a0x)] _
    refine st4.trans ?_
    show SP p e below T4 m 11 #[vr a0x, vr a1l] [] _
    refine XS.aloadN X4.here hx rfl (dG hby D13 5 rfl) rfl rfl ?_
    refine XS.aloadN X4.here hx rfl (dG hby D13 6 rfl) rfl rfl ?_
    show SP p e below T4 m 13 #[vr a0x, vr a1l] [(.ref a1l), (.ref a0x)] _
    refine st7 _ ?_
    show SP p e below T7 m 16 #[vr a0x, vr a1l] [(.ref b_7), (.ref a0x)] _
    refine st9 _ ?_
    show SP p e below T9 m 19 #[vr a0x, vr a1l] [] _
    exact X9.returnOut hx Bd.returns (dG hby D13 9 rfl) hr
  · show Q_rmX_2 n0 Z cS aDE kDE aUS aSS aIE mO a0x a1l ae ka ob0 ob1 sA vA kA nA lA sB vB kB nB lB h0 _ T9.heap _
    rw [e9]
    exact ⟨b_7, rfl, N9, K9, ((P4_0.keep Kc7).wr W9), Fw9, (P7_1.wr W9), (P7_2.other W9 (Or.inl (Ne.symm (nLt (lLt (lLt E_a0x.lt (lTr Kc2.1 Kc4.1)) P7_0)))))⟩
def Q_rmX_3 (n0 : Nat) (Z : State) (cS : Int32) (aDE : Addr) (kDE : ClassId) (aUS : Addr) (aSS : Addr) (aIE : Addr) (mO : Addr) (a0x : Addr) (a1l : Addr) (ae : Addr) (ka : ClassId) (ob0 : Addr) (ob1 : Addr) (ob2 : Addr) (sA : Addr) (vA : Addr) (kA : ClassId) (nA : Int32) (lA : List Value) (sB : Addr) (vB : Addr) (kB : ClassId) (nB : Int32) (lB : List Value) (h0 : Heap) (v : Option Value) (h : Heap) (L : List Loc) : Prop := ∃ b : Addr, ∃ d : Addr, ∃ kd : ClassId, v = none ∧ Fr n0 L ∧ Keep h0 h [a0x] ∧ (Exa Z h a0x "com/example/grantline/grantline/PolicyException") ∧ (Fld Z h a0x "com/example/grantline/grantline/PolicyException" "problems" "Ljava/util/List;" (.ref b)) ∧ (h0.size ≤ d) ∧ (Exa Z h b "java/util/ImmutableCollections$ListN") ∧ (Fld Z h b "java/util/ImmutableCollections$ListN" "elements" "[Ljava/lang/Object;" (.ref d)) ∧ (Arv Z h d kd (.object "java/lang/Object") (3 : Int32) [(.ref ob0), (.ref ob1), (.ref ob2)] .null)
theorem rmX_3 (l : Launch) (Z : State) (a0 : Array Value) (hw : ∀ d ∈ tables_1, d.before a0 Z = true) (ws : List Jvm.Cond) (hlt : l.stackTraces = true) (cS : Int32) (aDE : Addr) (kDE : ClassId) (aUS : Addr) (aSS : Addr) (aIE : Addr) (mO : Addr) (a0x : Addr) (a1l : Addr) (ae : Addr) (ka : ClassId) (ob0 : Addr) (ob1 : Addr) (ob2 : Addr) (sA : Addr) (vA : Addr) (kA : ClassId) (nA : Int32) (lA : List Value) (sB : Addr) (vB : Addr) (kB : ClassId) (nB : Int32) (lB : List Value) (h0 : Heap) (n0 : Nat) (O0 : Old Z n0 h0) (GL : GF Z cS aDE kDE aUS aSS aIE mO) (E_a0x : Exa Z h0 a0x "com/example/grantline/grantline/PolicyException") (U_a0x : Unt h0 a0x) (F_cause_a0x : Fld Z h0 a0x "java/lang/Throwable" "cause" "Ljava/lang/Throwable;" .null) (F_stackTrace_a0x : Fld Z h0 a0x "java/lang/Throwable" "stackTrace" "[Ljava/lang/StackTraceElement;" .null) (F_suppressedExceptions_a0x : Fld Z h0 a0x "java/lang/Throwable" "suppressedExceptions" "Ljava/util/List;" .null) (F_detailMessage_a0x : Fld Z h0 a0x "java/lang/Throwable" "detailMessage" "Ljava/lang/String;" .null) (F_backtrace_a0x : Fld Z h0 a0x "java/lang/Throwable" "backtrace" "Ljava/lang/Object;" .null) (F_problems_a0x : Fld Z h0 a0x "com/example/grantline/grantline/PolicyException" "problems" "Ljava/util/List;" .null) (g_a0x : n0 ≤ a0x) (E_a1l : Exa Z h0 a1l "java/util/ArrayList") (F_elementData_a1l : Fld Z h0 a1l "java/util/ArrayList" "elementData" "[Ljava/lang/Object;" (.ref ae)) (F_size_a1l : Fld Z h0 a1l "java/util/ArrayList" "size" "I" (.int 3)) (E_ae : Exa Z h0 ae "[Ljava/lang/Object;") (V_ae : Arv Z h0 ae ka (.object "java/lang/Object") (10 : Int32) [(.ref ob0), (.ref ob1), (.ref ob2), .null, .null, .null, .null, .null, .null, .null] .null) (E_ob0 : Exa Z h0 ob0 "com/example/grantline/grantline/PolicyException$Problem") (E_ob1 : Exa Z h0 ob1 "com/example/grantline/grantline/PolicyException$Problem") (E_ob2 : Exa Z h0 ob2 "com/example/grantline/grantline/PolicyException$Problem") (F_pointer_ob0 : Fld Z h0 ob0 "com/example/grantline/grantline/PolicyException$Problem" "pointer" "Ljava/lang/String;" (.ref sA)) (F_description_ob0 : Fld Z h0 ob0 "com/example/grantline/grantline/PolicyException$Problem" "description" "Ljava/lang/String;" (.ref sB)) (E_sA : Exa Z h0 sA "java/lang/String") (F_value_sA : Fld Z h0 sA "java/lang/String" "value" "[B" (.ref vA)) (F_coder_sA : Fld Z h0 sA "java/lang/String" "coder" "B" (.int 0)) (V_vA : Arv Z h0 vA kA .byte nA lA (.int 0)) (E_sB : Exa Z h0 sB "java/lang/String") (F_value_sB : Fld Z h0 sB "java/lang/String" "value" "[B" (.ref vB)) (F_coder_sB : Fld Z h0 sB "java/lang/String" "coder" "B" (.int 0)) (V_vB : Arv Z h0 vB kB .byte nB lB (.int 0)) (hb0 : ¬ (nA < (0 : Int32))) (hb1 : ¬ ((2 : Int32) < nA)) (hb2 : ¬ (nB < (0 : Int32))) (hb3 : ¬ ((2 : Int32) < nB)) :
    MetFree l MN_63 (head1 (Jvm.Cond.code MN_63 prog_16_method_2_code 2 none :: ws) (Rm 9 10 2812 116)) (fun a U => a = #[(.ref a0x), (.ref a1l)] ∧ Z.Warmed39 U.vm ∧ U.heap = h0 ∧ CHv Z EL1 U.vm h0) (fun _ _ bl s _ => s.vm.MethodsKnown ∧ s.vm.FramesKnown bl) (fun _ U o U' => ∃ v L, o = .returned v ∧ Q_rmX_3 n0 Z cS aDE kDE aUS aSS aIE mO a0x a1l ae ka ob0 ob1 ob2 sA vA kA nA lA sB vB kB nB lB h0 v U'.heap L ∧ CHr Z EL1 U.vm U.heap U'.vm U'.heap ∧ ReturnedEndW U o U' L (Rm 9 10 2812 116).cells (Rm 9 10 2812 116).slots) := by
  refine MetFree.of_bodySF (plainFor_of_name pnv12) hisR ?_
  intro p e s m args below meth c s₁ Bd hml0 hP hK
  obtain ⟨rfl, hZ, hh, H0⟩ := hP
  have hx := Bd.exec
  have hby := Bd.bytes
  have hml : c.maxLocals = 2 := hml0
  have hown : s.vm.findClass "com/example/grantline/grantline/PolicyException" = some m.cls := findClass_of_methodNamed Bd.named
  have hnm := (name_of_methodNamed Bd.named Bd.method).1
  have X0 : Stand p l e (Rm 9 10 2812 116) s m #[(.ref a0x), (.ref a1l)] below meth c s₁ [] 0 0 := Stand.of_body Bd
  have e0 : s₁.heap = h0 := by rw [← hh, Bd.state]; rfl
  have N0 := Fr.nil n0
  have pre0 : ∀ t, SP p e below s₁ m 0 #[vr a0x, vr a1l] [] t → Steps p.tables e below (s₁.setTop (entryFrame m #[(.ref a0x), (.ref a1l)] 2)) t := fun t k => castTop (ef_rmX_1 m a0x a1l) k
  obtain ⟨hTK, hBW⟩ := hK
  have X0w : Stand p l e (Rm 9 10 2812 116) (s.setVm s.vm) m #[(.ref a0x), (.ref a1l)] below meth c s₁ [] 0 0 := X0
  have R0 : CHr Z EL1 s.vm h0 s.vm h0 := CHr.refl H0
  have hS0 : s.Since s.vm h0.size := (State.WarmedH.refl s).since _
  have GL' := GL
  obtain ⟨GCS, GCP, GDE, GVE, GUS, GSS, GIE, GMO⟩ := GL'
  obtain ⟨_, _, ⟨T1, L1, k1, n1⟩, -, X1, ⟨Lc1, hQ1, l1, y1, z1⟩, st1⟩ := Jvm.LawKit.callS X0w hx (y := MN_45) hown (mvT hZ (Wd hw 92 rfl)) (mvT hZ (Wd hw 93 rfl)) (mvT hZ (Wd hw 88 rfl)) (mvT hZ (Wd hw 94 rfl)) (by decide) (backOf (W := 1) (rmFi l Z a0 hw [] cS aDE kDE aUS aSS aIE mO a1l ae ka ob0 ((.ref ob1)) ((.ref ob2)) (.null) (.null) (.null) (.null) (.null) (.null) (.null) ((3 : Int32)) h0 n0 O0 GL E_a1l F_elementData_a1l V_ae F_size_a1l E_ob0 (by decide) (by decide)) hZ (Wd hw 94 rfl) (Wd hw 88 rfl) (by decide) (by decide)) (g := mkF m 2 #[vr a0x, vr a1l] [(.ref a1l), (.ref a0x)]) rfl (by rw [hml]; rfl) (argsL := [(.ref a1l)]) (rest := [(.ref a0x)]) (lenOf pdv34 rfl) rfl (by show 2 * 0 + _ ≤ _; exact lEq rfl) (dG hby D13 2 rfl) (fun _ _ => ⟨rfl, e0, (by decide : 0 + 0 ≤ _), (by decide : 0 + 0 ≤ _)⟩)
  dsimp only [Pt.U, Pt.locs, Pt.cells, Pt.slots] at X1 l1 y1 z1 st1 hQ1
  subst l1 y1 z1
  obtain ⟨rfl, N1q, e1⟩ := hQ1
  have N1 := Fr.app N0 N1q
  obtain ⟨cq2, kq2, q2a, q2b, q2c⟩ := isOf hZ e1 E_ob0
  obtain ⟨_, _, ⟨T2, L2, k2, n2⟩, -, X2', hS2', hg2, ⟨Lc2, hQ2, l2, y2, z2, Rs2⟩, st2⟩ := X1.virtualBackS hx (y := MN_28) (z := MN_28) hown (mvT hZ (Wd hw 127 rfl)) (mvT hZ (Wd hw 128 rfl)) (notFace_of_selects (args := #[]) (mvT hZ (Wd hw 130 rfl))) (mvT hZ (Wd hw 130 rfl)) (mvT hZ (Wd hw 129 rfl)) (by decide) (backOfSH (W := 1) (rmPt l Z a0 hw [] cS aDE kDE aUS aSS aIE mO ob0 sA vA kA nA lA sB vB kB nB lB h0 n0 O0 GL E_ob0 F_pointer_ob0 F_description_ob0 E_sA F_value_sA F_coder_sA V_vA E_sB F_value_sB F_coder_sB V_vB hb0 hb1 hb2 hb3) hZ (Wd hw 131 rfl) (Wd hw 41 rfl) (by decide) (by decide) (own_EW hw) H0) q2a q2c (g := mkF m 5 #[vr a0x, vr a1l] [(.ref ob0), (.ref a0x)]) rfl (by rw [hml]; rfl) (Steps.refl _) (argsL := []) (rest := [(.ref a0x)]) (lenOf pdv20 rfl) rfl (by show 2 * 0 + _ ≤ _; exact lEq rfl) (dG hby D13 3 rfl) (fun _ _ => ⟨rfl, e1, (by decide : 0 + 6 ≤ _), (by decide : 0 + 52 ≤ _)⟩)
  dsimp only [Pt.U, Pt.locs, Pt.cells, Pt.slots] at X2' l2 y2 z2 st2 hQ2 hS2' hg2 Rs2
  subst l2 y2 z2
  obtain ⟨X2, hS2, hZ2, hown2⟩ := rebS hS0 (by rw [e1]; exact (Nat.le_refl _)) X2' hS2' hg2 hZ hown
  obtain ⟨b_2, rfl, N2q, Kc2, P2_0, P2_1⟩ := hQ2
  have K2 : Keep h0 T2.heap [a0x] := (Keep.refl h0 [a0x]).trans Kc2 all0
  have O2 := O0.keep Kc2 all0
  have H_3 := Rs2.1
  have R_3 := R0.trans Rs2
  have g_b_2 : n0 ≤ b_2 := lTr (own_sz O0) P2_0
  have sz_b_2 : h0.size ≤ b_2 := lTr (Keep.refl h0 [a0x]).1 P2_0
  have N2 := Fr.app N1 N2q
  obtain ⟨_, _, ⟨T4, L4, k4, n4⟩, -, X4, ⟨Lc4, hQ4, l4, y4, z4⟩, st4⟩ := X2.specialBack hx (y := MN_62) rfl hown2 (mvT hZ2 (Wd hw 247 rfl)) (mvT hZ2 (Wd hw 248 rfl)) (mvT hZ2 (Wd hw 251 rfl)) (by decide) (backOfKL (W := 0) (rmEx l Z a0 hw [] hlt cS aDE kDE aUS aSS aIE mO a0x b_2 (T2.heap) n0 O2 GL (E_a0x.keep Kc2) (U_a0x.keep Kc2 nin0) (F_cause_a0x.keep Kc2 nin0) (F_stackTrace_a0x.keep Kc2 nin0) (F_suppressedExceptions_a0x.keep Kc2 nin0) (F_detailMessage_a0x.keep Kc2 nin0) (F_backtrace_a0x.keep Kc2 nin0) (F_problems_a0x.keep Kc2 nin0) g_a0x) hZ2 (Wd hw 251 rfl) (Wd hw 250 rfl) (by decide) (by decide) (hTK.alikeC (hZ.alike.symm.trans hZ2.alike)) (hBW.alikeC (hZ.alike.symm.trans hZ2.alike))) (g := mkF m 8 #[vr a0x, vr a1l] [(.ref b_2), (.ref a0x)]) rfl (by rw [hml]; rfl) (Steps.refl _) (a := a0x) (argsL := [(.ref b_2)]) (rest := []) (lenOf pdv6 rfl) rfl (by show 2 * 0 + _ ≤ _; exact lEq rfl) (dG hby D13 4 rfl) (fun _ _ => ⟨rfl, rfl, (by decide : 6 + 1 ≤ _), (by decide : 52 + 2752 ≤ _)⟩)
  dsimp only [Pt.U, Pt.locs, Pt.cells, Pt.slots] at X4 l4 y4 z4 st4 hQ4
  subst l4 y4 z4
  obtain ⟨rfl, N4q, Kc4, P4_0, P4_1⟩ := hQ4
  have K4 : Keep h0 T4.heap [a0x] := K2.trans Kc4 (allS (Or.inl (List.mem_of_getElem? (i := 0) rfl)) all0)
  have O4 := O2.keep Kc4 (allS g_a0x all0)
  have Sf6 : Safe Z EL1 T2.vm T2.heap a0x := Safe.exa (EL := EL1) hZ2.alike (E_a0x.keep Kc2) (by decide) (by decide)
  have H_5 := H_3.keep Kc4 (sfS Sf6 sf0)
  have R_5 := R_3.trans (CHr.keep Kc4 (sfS Sf6 sf0) H_3)
  have N4 := Fr.app N2 N4q
  obtain ⟨_, _, ⟨T7, L7, k7, n7⟩, -, X7, ⟨Lc7, hQ7, l7, y7, z7⟩, st7⟩ := Jvm.LawKit.callS X4 hx (y := MN_60) hown2 (mvT hZ2 (Wd hw 294 rfl)) (mvT hZ2 (Wd hw 295 rfl)) (mvT hZ2 (Wd hw 296 rfl)) (mvT hZ2 (Wd hw 297 rfl)) (by decide) (backOf (W := 1) (rmLc_3 l Z a0 hw [] cS aDE kDE aUS aSS aIE mO a1l ae ka ob0 ob1 ob2 (T4.heap) n0 O4 GL ((E_a1l.keep Kc2).keep Kc4) ((F_elementData_a1l.keep Kc2 nin0).keep Kc4 (ninS (Exa.ne E_a1l E_a0x (by decide)) nin0)) ((F_size_a1l.keep Kc2 nin0).keep Kc4 (ninS (Exa.ne E_a1l E_a0x (by decide)) nin0)) ((E_ae.keep Kc2).keep Kc4) ((V_ae.keep Kc2 nin0).keep Kc4 (ninS (Exa.ne E_ae E_a0x (by decide)) nin0)) ((E_ob0.keep Kc2).keep Kc4) ((E_ob1.keep Kc2).keep Kc4) ((E_ob2.keep Kc2).keep Kc4)) hZ2 (Wd hw 297 rfl) (Wd hw 296 rfl) (by decide) (by decide)) (g := mkF m 13 #[vr a0x, vr a1l] [(.ref a1l), (.ref a0x)]) rfl (by rw [hml]; rfl) (argsL := [(.ref a1l)]) (rest := [(.ref a0x)]) (lenOf pdv32 rfl) rfl (by show 2 * 0 + _ ≤ _; exact lEq rfl) (dG hby D13 7 rfl) (fun _ _ => ⟨rfl, rfl, (by decide : 7 + 3 ≤ _), (by decide : 2804 + 8 ≤ _)⟩)
  dsimp only [Pt.U, Pt.locs, Pt.cells, Pt.slots] at X7 l7 y7 z7 st7 hQ7
  subst l7 y7 z7
  obtain ⟨b_7, d_7, kd_7, rfl, N7q, Kc7, P7_0, P7_1, P7_2, P7_3, P7_4⟩ := hQ7
  have K7 : Keep h0 T7.heap [a0x] := K4.trans Kc7 all0
  have O7 := O4.keep Kc7 all0
  have H_8 := H_5.keep Kc7 sf0
  have R_8 := R_5.trans (CHr.keep Kc7 sf0 H_5)
  have g_b_7 : n0 ≤ b_7 := lTr (own_sz O4) P7_0
  have sz_b_7 : h0.size ≤ b_7 := lTr K4.1 P7_0
  have g_d_7 : n0 ≤ d_7 := lTr (own_sz O4) P7_1
  have sz_d_7 : h0.size ≤ d_7 := lTr K4.1 P7_1
  have N7 := Fr.app N4 N7q
  obtain ⟨T9, h9, X9, e9, W9, st9⟩ := putF X7 hx hZ2 hown2 (host := "") (Or.inl (Wd hw 367 rfl)) Via.refl rfl (P4_1.keep Kc7 nin0) (P4_0.keep Kc7) (Or.inr ⟨(Wd hw 368 rfl), rfl, hnm⟩) (Wd hw 87 rfl) (ty := (.object "java/util/List")) (by decide) rfl rfl (g := mkF m 16 #[vr a0x, vr a1l] [(.ref b_7), (.ref a0x)]) rfl rfl (dG hby D13 8 rfl)
  have Fw9 := (P4_1.keep Kc7 nin0).same W9
  have Sf11 : Safe Z EL1 T2.vm T7.heap a0x := Safe.exa (EL := EL1) hZ2.alike (P4_0.keep Kc7) (by decide) (by decide)
  have H_10 := H_8.wr W9 Sf11
  have R_10 := R_8.trans (CHr.wr W9 Sf11 H_8)
  have K9 : Keep h0 h9 [a0x] := K7.wr W9 (Or.inl (List.mem_of_getElem? (i := 0) rfl))
  have O9 := O7.wr W9 g_a0x
  have N9 := Fr.snoc X9 N7 g_a0x
  obtain ⟨fs, hr, hrun, hended, hRW⟩ := X9.leaveW hS2 (by rw [e9]; exact (lTr (lTr (lTr (Nat.le_refl _) Kc4.1) Kc7.1) (Keep.of_wr W9).1)) (v := none) (fun _ => rfl)
  have hCR : CHr Z EL1 s.vm s.heap T9.vm T9.heap := by
    rw [hh, e9]
    exact R_10.trans (CHv.at X9 hZ2 (own_EW hw) H_10)
  refine ⟨_, _, pre0 _ ?_, hrun, hended, _, _, rfl, ?_, hCR, hRW.1, hRW.2.1, hRW.2.2.1, hRW.2.2.2.mono (by decide) (by decide)⟩
  · show SP p e below s₁ m 0 #[vr a0x, vr a1l] [] _
    refine XS.aloadN X0w.here hx rfl (dG hby D13 0 rfl) rfl rfl ?_
    refine XS.aloadN X0w.here hx rfl (dG hby D13 1 rfl) rfl rfl ?_
    show SP p e below s₁ m 2 #[vr a0x, vr a1l] [(.ref a1l), (.ref a0x)] _
    refine st1 _ ?_
    show SP p e below T1 m 5 #[vr a0x, vr a1l] [(.ref ob0), (.ref a0x)] _
    refine st2.trans ?_
    show SP p e below T2 m 8 #[vr a0x, vr a1l] [(.ref b_2), (.ref a0x)] _
    refine st4.trans ?_
    show SP p e below T4 m 11 #[vr a0x, vr a1l] [] _
    refine XS.aloadN X4.here hx rfl (dG hby D13 5 rfl) rfl rfl ?_
    refine XS.aloadN X4.here hx rfl (dG hby D13 6 rfl) rfl rfl ?_
    show SP p e below T4 m 13 #[vr a0x, vr a1l] [(.ref a1l), (.ref a0x)] _
    refine st7 _ ?_
    show SP p e below T7 m 16 #[vr a0x, vr a1l] [(.ref b_7), (.ref a0x)] _
    refine st9 _ ?_
    show SP p e below T9 m 19 #[vr a0x, vr a1l] [] _
    exact X9.returnOut hx Bd.returns (dG hby D13 9 rfl) hr
  · show Q_rmX_3 n0 Z cS aDE kDE aUS aSS aIE mO a0x a1l ae ka ob0 ob1 ob2 sA vA kA nA lA sB vB kB nB lB h0 _ T9.heap _
    rw [e9]
    exact ⟨b_7, d_7, kd_7, rfl, N9, K9, ((P4_0.keep Kc7).wr W9), Fw9, sz_d_7, (P7_2.wr W9), (P7_3.other W9 (Or.inl (Ne.symm (nLt (lLt (lLt E_a0x.lt (lTr Kc2.1 Kc4.1)) P7_0))))), (P7_4.other W9 (Ne.symm (nLt (lLt (lLt E_a0x.lt (lTr Kc2.1 Kc4.1)) P7_1))))⟩
theorem D57 : dL jdk_44_method_5_code [(0, .iload_n 1, 1), (1, .ifCond .ne 8, 3), (4, .aload_n 0, 1), (5, .getfield 13, 3), (8, .areturn, 1)] = true := by decide +kernel
abbrev MN_64 : MethodName := ⟨"java/util/ImmutableCollections$List12", "get", "(I)Ljava/lang/Object;"⟩
def Q_rmG12 (n0 : Nat) (Z : State) (cS : Int32) (aDE : Addr) (kDE : ClassId) (aUS : Addr) (aSS : Addr) (aIE : Addr) (mO : Addr) (a0l : Addr) (ob0 : Addr) (h0 : Heap) (v : Option Value) (h : Heap) (L : List Loc) : Prop := v = some (.ref ob0) ∧ Fr n0 L ∧ h = h0
theorem rmG12 (l : Launch) (Z : State) (a0 : Array Value) (hw : ∀ d ∈ tables_1, d.before a0 Z = true) (ws : List Jvm.Cond) (cS : Int32) (aDE : Addr) (kDE : ClassId) (aUS : Addr) (aSS : Addr) (aIE : Addr) (mO : Addr) (a0l : Addr) (ob0 : Addr) (h0 : Heap) (n0 : Nat) (O0 : Old Z n0 h0) (GL : GF Z cS aDE kDE aUS aSS aIE mO) (E_a0l : Exa Z h0 a0l "java/util/ImmutableCollections$List12") (F_e0_a0l : Fld Z h0 a0l "java/util/ImmutableCollections$List12" "e0" "Ljava/lang/Object;" (.ref ob0)) :
    MF l MN_64 jdk_44_method_5_code 2 (some (.object "java/lang/Object")) ws (Rm 0 0 0 0) #[(.ref a0l), (.int 0)] Z h0 (Q_rmG12 n0 Z cS aDE kDE aUS aSS aIE mO a0l ob0 h0) := by
  refine MetFree.of_bodySF (plainFor_of_name pnv15) hisR ?_
  intro p e s m args below meth c s₁ Bd hml0 hP hK
  obtain ⟨rfl, hZ, hh⟩ := hP
  have hx := Bd.exec
  have hby := Bd.bytes
  have hml : c.maxLocals = 2 := hml0
  have hown : s.vm.findClass "java/util/ImmutableCollections$List12" = some m.cls := findClass_of_methodNamed Bd.named
  have hnm := (name_of_methodNamed Bd.named Bd.method).1
  have X0 : Stand p l e (Rm 0 0 0 0) s m #[(.ref a0l), (.int 0)] below meth c s₁ [] 0 0 := Stand.of_body Bd
  have e0 : s₁.heap = h0 := by rw [← hh, Bd.state]; rfl
  have N0 := Fr.nil n0
  have pre0 : ∀ t, SP p e below s₁ m 0 #[vr a0l, vi (0 : Int32)] [] t → Steps p.tables e below (s₁.setTop (entryFrame m #[(.ref a0l), (.int 0)] 2)) t := fun t k => castTop (ef_rmEd m a0l) k
  have GL' := GL
  obtain ⟨GCS, GCP, GDE, GVE, GUS, GSS, GIE, GMO⟩ := GL'
  obtain ⟨T1, X1, e1, st1⟩ := getF X0 hx hZ hown (host := "") (Or.inl (Wd hw 362 rfl)) Via.refl e0 F_e0_a0l (g := mkF m 5 #[vr a0l, vi (0 : Int32)] [(.ref a0l)]) rfl rfl (dG hby D57 3 rfl)
  obtain ⟨fs, hr, hrun, hended, hW, hsame⟩ := X1.leave (v := some (.ref ob0)) (fun h => by rw [Bd.returns] at h; cases h)
  refine ⟨_, _, pre0 _ ?_, hrun, hended, _, _, rfl, ?_, ⟨_, rfl⟩, hW, hsame.mono (by decide) (by decide)⟩
  · show SP p e below s₁ m 0 #[vr a0l, vi (0 : Int32)] [] _
    refine XS.iloadN X0.here hx rfl (dG hby D57 0 rfl) rfl ?_
    refine XS.ifNo X0.here hx rfl (dG hby D57 1 rfl) rfl ((if0 _ _).trans (teq (by decide : (0 : Int32) = (0 : Int32))).2) ?_
    refine XS.aloadN X0.here hx rfl (dG hby D57 2 rfl) rfl rfl ?_
    show SP p e below s₁ m 5 #[vr a0l, vi (0 : Int32)] [(.ref a0l)] _
    refine st1 _ ?_
    show SP p e below T1 m 8 #[vr a0l, vi (0 : Int32)] [(.ref ob0)] _
    exact retA X1 hx Bd.returns rfl (dG hby D57 4 rfl) hr
  · show Q_rmG12 n0 Z cS aDE kDE aUS aSS aIE mO a0l ob0 h0 _ T1.heap _
    rw [e1]
    exact ⟨rfl, N0, rfl⟩
theorem D62 : dL jdk_45_method_4_code [(0, .aload_n 0, 1), (1, .getfield 7, 3), (4, .iload_n 1, 1), (5, .aaload, 1), (6, .areturn, 1)] = true := by decide +kernel
abbrev MN_65 : MethodName := ⟨"java/util/ImmutableCollections$ListN", "get", "(I)Ljava/lang/Object;"⟩
def Q_rmGn (n0 : Nat) (Z : State) (cS : Int32) (aDE : Addr) (kDE : ClassId) (aUS : Addr) (aSS : Addr) (aIE : Addr) (mO : Addr) (a0l : Addr) (d : Addr) (kd : ClassId) (ob0 : Addr) (ob1 : Addr) (ob2 : Addr) (h0 : Heap) (v : Option Value) (h : Heap) (L : List Loc) : Prop := v = some (.ref ob0) ∧ Fr n0 L ∧ h = h0
theorem rmGn (l : Launch) (Z : State) (a0 : Array Value) (hw : ∀ d ∈ tables_1, d.before a0 Z = true) (ws : List Jvm.Cond) (cS : Int32) (aDE : Addr) (kDE : ClassId) (aUS : Addr) (aSS : Addr) (aIE : Addr) (mO : Addr) (a0l : Addr) (d : Addr) (kd : ClassId) (ob0 : Addr) (ob1 : Addr) (ob2 : Addr) (h0 : Heap) (n0 : Nat) (O0 : Old Z n0 h0) (GL : GF Z cS aDE kDE aUS aSS aIE mO) (E_a0l : Exa Z h0 a0l "java/util/ImmutableCollections$ListN") (F_elements_a0l : Fld Z h0 a0l "java/util/ImmutableCollections$ListN" "elements" "[Ljava/lang/Object;" (.ref d)) (V_d : Arv Z h0 d kd (.object "java/lang/Object") (3 : Int32) [(.ref ob0), (.ref ob1), (.ref ob2)] .null) :
    MF l MN_65 jdk_45_method_4_code 2 (some (.object "java/lang/Object")) ws (Rm 0 0 0 0) #[(.ref a0l), (.int 0)] Z h0 (Q_rmGn n0 Z cS aDE kDE aUS aSS aIE mO a0l d kd ob0 ob1 ob2 h0) := by
  refine MetFree.of_bodySF (plainFor_of_name pnv16) hisR ?_
  intro p e s m args below meth c s₁ Bd hml0 hP hK
  obtain ⟨rfl, hZ, hh⟩ := hP
  have hx := Bd.exec
  have hby := Bd.bytes
  have hml : c.maxLocals = 2 := hml0
  have hown : s.vm.findClass "java/util/ImmutableCollections$ListN" = some m.cls := findClass_of_methodNamed Bd.named
  have hnm := (name_of_methodNamed Bd.named Bd.method).1
  have X0 : Stand p l e (Rm 0 0 0 0) s m #[(.ref a0l), (.int 0)] below meth c s₁ [] 0 0 := Stand.of_body Bd
  have e0 : s₁.heap = h0 := by rw [← hh, Bd.state]; rfl
  have N0 := Fr.nil n0
  have pre0 : ∀ t, SP p e below s₁ m 0 #[vr a0l, vi (0 : Int32)] [] t → Steps p.tables e below (s₁.setTop (entryFrame m #[(.ref a0l), (.int 0)] 2)) t := fun t k => castTop (ef_rmEd m a0l) k
  have GL' := GL
  obtain ⟨GCS, GCP, GDE, GVE, GUS, GSS, GIE, GMO⟩ := GL'
  obtain ⟨T1, X1, e1, st1⟩ := getF X0 hx hZ hown (host := "") (Or.inl (Wd hw 405 rfl)) Via.refl e0 F_elements_a0l (g := mkF m 1 #[vr a0l, vi (0 : Int32)] [(.ref a0l)]) rfl rfl (dG hby D62 1 rfl)
  obtain ⟨cl2, Ar2, -, S2, N2_, H2, G2⟩ := id (V_d)
  have hin2 : ¬ ((0 : Int32) < 0 ∨ cl2.slots.size ≤ ((0 : Int32)).toNatClampNeg) := inb_of S2 ⟨(by decide), (by decide)⟩
  have hat2 : cl2.slots[((0 : Int32)).toNatClampNeg]? = some (.ref ob0) := H2.at hin2 rfl
  obtain ⟨fs, hr, hrun, hended, hW, hsame⟩ := X1.leave (v := some (.ref ob0)) (fun h => by rw [Bd.returns] at h; cases h)
  refine ⟨_, _, pre0 _ ?_, hrun, hended, _, _, rfl, ?_, ⟨_, rfl⟩, hW, hsame.mono (by decide) (by decide)⟩
  · show SP p e below s₁ m 0 #[vr a0l, vi (0 : Int32)] [] _
    refine XS.aloadN X0.here hx rfl (dG hby D62 0 rfl) rfl rfl ?_
    show SP p e below s₁ m 1 #[vr a0l, vi (0 : Int32)] [(.ref a0l)] _
    refine st1 _ ?_
    show SP p e below T1 m 4 #[vr a0l, vi (0 : Int32)] [(.ref d)] _
    refine XS.iloadN X1.here hx rfl (dG hby D62 2 rfl) rfl ?_
    show SP p e below T1 m 5 #[vr a0l, vi (0 : Int32)] [(.int 0), (.ref d)] _
    refine X1.aaload hx (j := (0 : Int32)) (v := (.ref ob0)) (by rw [e1]; exact Ar2.1) (State.isArrayOf_alike hZ.alike Ar2.2.1) rfl Ar2.2.2 hin2 hat2 (g := mkF m 5 #[vr a0l, vi (0 : Int32)] [(.int 0), (.ref d)]) rfl rfl (dG hby D62 3 rfl) _ ?_
    show SP p e below T1 m 6 #[vr a0l, vi (0 : Int32)] [(.ref ob0)] _
    exact retA X1 hx Bd.returns rfl (dG hby D62 4 rfl) hr
  · show Q_rmGn n0 Z cS aDE kDE aUS aSS aIE mO a0l d kd ob0 ob1 ob2 h0 _ T1.heap _
    rw [e1]
    exact ⟨rfl, N0, rfl⟩
theorem D56 : dL prog_16_method_5_code [(0, .aload_n 0, 1), (1, .getfield 35, 3), (4, .iconst 0, 1), (5, .invokeinterface 48 2, 5), (10, .checkcast 1, 3), (13, .invokevirtual 55, 3), (16, .areturn, 1)] = true := by decide +kernel
abbrev MN_66 : MethodName := ⟨"com/example/grantline/grantline/PolicyException", "problem", "()Ljava/lang/String;"⟩
theorem ef_rmP12 (m : MethodId) (a0x : Addr) : entryFrame m #[(.ref a0x)] 1 = mkF m 0 #[vr a0x] [] := by first | (simp [entryFrame, mkF, argsToLocals, Value.category]; done) | rfl
def Q_rmP12 (n0 : Nat) (Z : State) (cS : Int32) (aDE : Addr) (kDE : ClassId) (aUS : Addr) (aSS : Addr) (aIE : Addr) (mO : Addr) (a0x : Addr) (b : Addr) (ob0 : Addr) (gv : Addr) (h0 : Heap) (v : Option Value) (h : Heap) (L : List Loc) : Prop := v = some (.ref gv) ∧ Fr n0 L ∧ h = h0
theorem rmP12 (l : Launch) (Z : State) (a0 : Array Value) (hw : ∀ d ∈ tables_1, d.before a0 Z = true) (ws : List Jvm.Cond) (cS : Int32) (aDE : Addr) (kDE : ClassId) (aUS : Addr) (aSS : Addr) (aIE : Addr) (mO : Addr) (a0x : Addr) (b : Addr) (ob0 : Addr) (gv : Addr) (h0 : Heap) (n0 : Nat) (O0 : Old Z n0 h0) (GL : GF Z cS aDE kDE aUS aSS aIE mO) (E_b : Exa Z h0 b "java/util/ImmutableCollections$List12") (F_e0_b : Fld Z h0 b "java/util/ImmutableCollections$List12" "e0" "Ljava/lang/Object;" (.ref ob0)) (F_problems_a0x : Fld Z h0 a0x "com/example/grantline/grantline/PolicyException" "problems" "Ljava/util/List;" (.ref b)) (E_ob0 : Exa Z h0 ob0 "com/example/grantline/grantline/PolicyException$Problem") (F_description_ob0 : Fld Z h0 ob0 "com/example/grantline/grantline/PolicyException$Problem" "description" "Ljava/lang/String;" (.ref gv)) :
    MF l MN_66 prog_16_method_5_code 1 (some (.object "java/lang/String")) ws (Rm 1 0 0 13) #[(.ref a0x)] Z h0 (Q_rmP12 n0 Z cS aDE kDE aUS aSS aIE mO a0x b ob0 gv h0) := by
  refine MetFree.of_bodySF (plainFor_of_name pnv12) hisR ?_
  intro p e s m args below meth c s₁ Bd hml0 hP hK
  obtain ⟨rfl, hZ, hh⟩ := hP
  have hx := Bd.exec
  have hby := Bd.bytes
  have hml : c.maxLocals = 1 := hml0
  have hown : s.vm.findClass "com/example/grantline/grantline/PolicyException" = some m.cls := findClass_of_methodNamed Bd.named
  have hnm := (name_of_methodNamed Bd.named Bd.method).1
  have X0 : Stand p l e (Rm 1 0 0 13) s m #[(.ref a0x)] below meth c s₁ [] 0 0 := Stand.of_body Bd
  have e0 : s₁.heap = h0 := by rw [← hh, Bd.state]; rfl
  have N0 := Fr.nil n0
  have pre0 : ∀ t, SP p e below s₁ m 0 #[vr a0x] [] t → Steps p.tables e below (s₁.setTop (entryFrame m #[(.ref a0x)] 1)) t := fun t k => castTop (ef_rmP12 m a0x) k
  have GL' := GL
  obtain ⟨GCS, GCP, GDE, GVE, GUS, GSS, GIE, GMO⟩ := GL'
  obtain ⟨T1, X1, e1, st1⟩ := getF X0 hx hZ hown (host := "") (Or.inl (Wd hw 367 rfl)) Via.refl e0 F_problems_a0x (g := mkF m 1 #[vr a0x] [(.ref a0x)]) rfl rfl (dG hby D56 1 rfl)
  obtain ⟨cq2, kq2, q2a, q2b, q2c⟩ := isOf hZ e1 E_b
  obtain ⟨_, _, ⟨T2, L2, k2, n2⟩, -, X2, ⟨Lc2, hQ2, l2, y2, z2⟩, st2⟩ := X1.interfaceBack hx (xi := MN_44) (y := MN_64) hown (mvT hZ (Wd hw 104 rfl)) (mvT hZ (Wd hw 105 rfl)) (mvT hZ (Wd hw 106 rfl)) (mvT hZ (Wd hw 374 rfl)) (mvT hZ (Wd hw 375 rfl)) (mvT hZ (Wd hw 376 rfl)) (mvT hZ (Wd hw 377 rfl)) (mvT hZ (Wd hw 378 rfl)) (by decide) (backOf (W := 0) (rmG12 l Z a0 hw [] cS aDE kDE aUS aSS aIE mO b ob0 h0 n0 O0 GL E_b F_e0_b) hZ (Wd hw 379 rfl) (Wd hw 340 rfl) (by decide) (by decide)) q2a q2b q2c (g := mkF m 5 #[vr a0x] [(.int 0), (.ref b)]) rfl (by rw [hml]; rfl) (Steps.refl _) (argsL := [(.int 0)]) (rest := []) (lenOf pdv25 rfl) rfl (by show 2 * 0 + _ ≤ _; exact lEq rfl) (dG hby D56 3 rfl) (fun _ _ => ⟨rfl, e1, (by decide : 0 + 0 ≤ _), (by decide : 0 + 0 ≤ _)⟩)
  dsimp only [Pt.U, Pt.locs, Pt.cells, Pt.slots] at X2 l2 y2 z2 st2 hQ2
  subst l2 y2 z2
  obtain ⟨rfl, N2q, e2⟩ := hQ2
  have N2 := Fr.app N0 N2q
  obtain ⟨T3, X3, e3, st3⟩ := castY X2 hx hZ hown (Wd hw 125 rfl) e2 (Ins.self E_ob0) (g := mkF m 10 #[vr a0x] [(.ref ob0)]) rfl rfl (dG hby D56 4 rfl)
  obtain ⟨cq4, kq4, q4a, q4b, q4c⟩ := isOf hZ e3 E_ob0
  obtain ⟨_, _, ⟨T4, L4, k4, n4⟩, -, X4, ⟨Lc4, hQ4, l4, y4, z4⟩, st4⟩ := X3.virtualBack hx (y := MN_29) (z := MN_29) hown (mvT hZ (Wd hw 380 rfl)) (mvT hZ (Wd hw 381 rfl)) (notFace_of_selects (args := #[]) (mvT hZ (Wd hw 383 rfl))) (mvT hZ (Wd hw 383 rfl)) (mvT hZ (Wd hw 382 rfl)) (by decide) (backOf (W := 0) (rmGd l Z a0 hw [] cS aDE kDE aUS aSS aIE mO ob0 gv h0 n0 O0 GL F_description_ob0) hZ (Wd hw 384 rfl) (Wd hw 41 rfl) (by decide) (by decide)) q4a q4c (g := mkF m 13 #[vr a0x] [(.ref ob0)]) rfl (by rw [hml]; rfl) (Steps.refl _) (argsL := []) (rest := []) (lenOf pdv20 rfl) rfl (by show 2 * 0 + _ ≤ _; exact lEq rfl) (dG hby D56 5 rfl) (fun _ _ => ⟨rfl, e3, (by decide : 0 + 0 ≤ _), (by decide : 0 + 0 ≤ _)⟩)
  dsimp only [Pt.U, Pt.locs, Pt.cells, Pt.slots] at X4 l4 y4 z4 st4 hQ4
  subst l4 y4 z4
  obtain ⟨rfl, N4q, e4⟩ := hQ4
  have N4 := Fr.app N2 N4q
  obtain ⟨fs, hr, hrun, hended, hW, hsame⟩ := X4.leave (v := some (.ref gv)) (fun h => by rw [Bd.returns] at h; cases h)
  refine ⟨_, _, pre0 _ ?_, hrun, hended, _, _, rfl, ?_, ⟨_, rfl⟩, hW, hsame.mono (by decide) (by decide)⟩
  · show SP p e below s₁ m 0 #[vr a0x] [] _
    refine XS.aloadN X0.here hx rfl (dG hby D56 0 rfl) rfl rfl ?_
    show SP p e below s₁ m 1 #[vr a0x] [(.ref a0x)] _
    refine st1 _ ?_
    show SP p e below T1 m 4 #[vr a0x] [(.ref b)] _
    refine XS.iconst X1.here hx rfl (dG hby D56 2 rfl) ?_
    show SP p e below T1 m 5 #[vr a0x] [(.int 0), (.ref b)] _
    refine st2.trans ?_
    show SP p e below T2 m 10 #[vr a0x] [(.ref ob0)] _
    refine st3 _ ?_
    show SP p e below T3 m 13 #[vr a0x] [(.ref ob0)] _
    refine st4.trans ?_
    show SP p e below T4 m 16 #[vr a0x] [(.ref gv)] _
    exact retA X4 hx Bd.returns rfl (dG hby D56 6 rfl) hr
  · show Q_rmP12 n0 Z cS aDE kDE aUS aSS aIE mO a0x b ob0 gv h0 _ T4.heap _
    rw [e4]
    exact ⟨rfl, N4, rfl⟩
def Q_rmPn (n0 : Nat) (Z : State) (cS : Int32) (aDE : Addr) (kDE : ClassId) (aUS : Addr) (aSS : Addr) (aIE : Addr) (mO : Addr) (a0x : Addr) (b : Addr) (d : Addr) (kd : ClassId) (ob0 : Addr) (ob1 : Addr) (ob2 : Addr) (gv : Addr) (h0 : Heap) (v : Option Value) (h : Heap) (L : List Loc) : Prop := v = some (.ref gv) ∧ Fr n0 L ∧ h = h0
theorem rmPn (l : Launch) (Z : State) (a0 : Array Value) (hw : ∀ d ∈ tables_1, d.before a0 Z = true) (ws : List Jvm.Cond) (cS : Int32) (aDE : Addr) (kDE : ClassId) (aUS : Addr) (aSS : Addr) (aIE : Addr) (mO : Addr) (a0x : Addr) (b : Addr) (d : Addr) (kd : ClassId) (ob0 : Addr) (ob1 : Addr) (ob2 : Addr) (gv : Addr) (h0 : Heap) (n0 : Nat) (O0 : Old Z n0 h0) (GL : GF Z cS aDE kDE aUS aSS aIE mO) (E_b : Exa Z h0 b "java/util/ImmutableCollections$ListN") (F_elements_b : Fld Z h0 b "java/util/ImmutableCollections$ListN" "elements" "[Ljava/lang/Object;" (.ref d)) (V_d : Arv Z h0 d kd (.object "java/lang/Object") (3 : Int32) [(.ref ob0), (.ref ob1), (.ref ob2)] .null) (F_problems_a0x : Fld Z h0 a0x "com/example/grantline/grantline/PolicyException" "problems" "Ljava/util/List;" (.ref b)) (E_ob0 : Exa Z h0 ob0 "com/example/grantline/grantline/PolicyException$Problem") (F_description_ob0 : Fld Z h0 ob0 "com/example/grantline/grantline/PolicyException$Problem" "description" "Ljava/lang/String;" (.ref gv)) :
    MF l MN_66 prog_16_method_5_code 1 (some (.object "java/lang/String")) ws (Rm 1 0 0 13) #[(.ref a0x)] Z h0 (Q_rmPn n0 Z cS aDE kDE aUS aSS aIE mO a0x b d kd ob0 ob1 ob2 gv h0) := by
  refine MetFree.of_bodySF (plainFor_of_name pnv12) hisR ?_
  intro p e s m args below meth c s₁ Bd hml0 hP hK
  obtain ⟨rfl, hZ, hh⟩ := hP
  have hx := Bd.exec
  have hby := Bd.bytes
  have hml : c.maxLocals = 1 := hml0
  have hown : s.vm.findClass "com/example/grantline/grantline/PolicyException" = some m.cls := findClass_of_methodNamed Bd.named
  have hnm := (name_of_methodNamed Bd.named Bd.method).1
  have X0 : Stand p l e (Rm 1 0 0 13) s m #[(.ref a0x)] below meth c s₁ [] 0 0 := Stand.of_body Bd
  have e0 : s₁.heap = h0 := by rw [← hh, Bd.state]; rfl
  have N0 := Fr.nil n0
  have pre0 : ∀ t, SP p e below s₁ m 0 #[vr a0x] [] t → Steps p.tables e below (s₁.setTop (entryFrame m #[(.ref a0x)] 1)) t := fun t k => castTop (ef_rmP12 m a0x) k
  have GL' := GL
  obtain ⟨GCS, GCP, GDE, GVE, GUS, GSS, GIE, GMO⟩ := GL'
  obtain ⟨T1, X1, e1, st1⟩ := getF X0 hx hZ hown (host := "") (Or.inl (Wd hw 367 rfl)) Via.refl e0 F_problems_a0x (g := mkF m 1 #[vr a0x] [(.ref a0x)]) rfl rfl (dG hby D56 1 rfl)
  obtain ⟨cq2, kq2, q2a, q2b, q2c⟩ := isOf hZ e1 E_b
  obtain ⟨_, _, ⟨T2, L2, k2, n2⟩, -, X2, ⟨Lc2, hQ2, l2, y2, z2⟩, st2⟩ := X1.interfaceBack hx (xi := MN_44) (y := MN_65) hown (mvT hZ (Wd hw 104 rfl)) (mvT hZ (Wd hw 105 rfl)) (mvT hZ (Wd hw 106 rfl)) (mvT hZ (Wd hw 409 rfl)) (mvT hZ (Wd hw 410 rfl)) (mvT hZ (Wd hw 411 rfl)) (mvT hZ (Wd hw 412 rfl)) (mvT hZ (Wd hw 413 rfl)) (by decide) (backOf (W := 0) (rmGn l Z a0 hw [] cS aDE kDE aUS aSS aIE mO b d kd ob0 ob1 ob2 h0 n0 O0 GL E_b F_elements_b V_d) hZ (Wd hw 414 rfl) (Wd hw 396 rfl) (by decide) (by decide)) q2a q2b q2c (g := mkF m 5 #[vr a0x] [(.int 0), (.ref b)]) rfl (by rw [hml]; rfl) (Steps.refl _) (argsL := [(.int 0)]) (rest := []) (lenOf pdv25 rfl) rfl (by show 2 * 0 + _ ≤ _; exact lEq rfl) (dG hby D56 3 rfl) (fun _ _ => ⟨rfl, e1, (by decide : 0 + 0 ≤ _), (by decide : 0 + 0 ≤ _)⟩)
  dsimp only [Pt.U, Pt.locs, Pt.cells, Pt.slots] at X2 l2 y2 z2 st2 hQ2
  subst l2 y2 z2
  obtain ⟨rfl, N2q, e2⟩ := hQ2
  have N2 := Fr.app N0 N2q
  obtain ⟨T3, X3, e3, st3⟩ := castY X2 hx hZ hown (Wd hw 125 rfl) e2 (Ins.self E_ob0) (g := mkF m 10 #[vr a0x] [(.ref ob0)]) rfl rfl (dG hby D56 4 rfl)
  obtain ⟨cq4, kq4, q4a, q4b, q4c⟩ := isOf hZ e3 E_ob0
  obtain ⟨_, _, ⟨T4, L4, k4, n4⟩, -, X4, ⟨Lc4, hQ4, l4, y4, z4⟩, st4⟩ := X3.virtualBack hx (y := MN_29) (z := MN_29) hown (mvT hZ (Wd hw 380 rfl)) (mvT hZ (Wd hw 381 rfl)) (notFace_of_selects (args := #[]) (mvT hZ (Wd hw 383 rfl))) (mvT hZ (Wd hw 383 rfl)) (mvT hZ (Wd hw 382 rfl)) (by decide) (backOf (W := 0) (rmGd l Z a0 hw [] cS aDE kDE aUS aSS aIE mO ob0 gv h0 n0 O0 GL F_description_ob0) hZ (Wd hw 384 rfl) (Wd hw 41 rfl) (by decide) (by decide)) q4a q4c (g := mkF m 13 #[vr a0x] [(.ref ob0)]) rfl (by rw [hml]; rfl) (Steps.refl _) (argsL := []) (rest := []) (lenOf pdv20 rfl) rfl (by show 2 * 0 + _ ≤ _; exact lEq rfl) (dG hby D56 5 rfl) (fun _ _ => ⟨rfl, e3, (by decide : 0 + 0 ≤ _), (by decide : 0 + 0 ≤ _)⟩)
  dsimp only [Pt.U, Pt.locs, Pt.cells, Pt.slots] at X4 l4 y4 z4 st4 hQ4
  subst l4 y4 z4
  obtain ⟨rfl, N4q, e4⟩ := hQ4
  have N4 := Fr.app N2 N4q
  obtain ⟨fs, hr, hrun, hended, hW, hsame⟩ := X4.leave (v := some (.ref gv)) (fun h => by rw [Bd.returns] at h; cases h)
  refine ⟨_, _, pre0 _ ?_, hrun, hended, _, _, rfl, ?_, ⟨_, rfl⟩, hW, hsame.mono (by decide) (by decide)⟩
  · show SP p e below s₁ m 0 #[vr a0x] [] _
    refine XS.aloadN X0.here hx rfl (dG hby D56 0 rfl) rfl rfl ?_
    show SP p e below s₁ m 1 #[vr a0x] [(.ref a0x)] _
    refine st1 _ ?_
    show SP p e below T1 m 4 #[vr a0x] [(.ref b)] _
    refine XS.iconst X1.here hx rfl (dG hby D56 2 rfl) ?_
    show SP p e below T1 m 5 #[vr a0x] [(.int 0), (.ref b)] _
    refine st2.trans ?_
    show SP p e below T2 m 10 #[vr a0x] [(.ref ob0)] _
    refine st3 _ ?_
    show SP p e below T3 m 13 #[vr a0x] [(.ref ob0)] _
    refine st4.trans ?_
    show SP p e below T4 m 16 #[vr a0x] [(.ref gv)] _
    exact retA X4 hx Bd.returns rfl (dG hby D56 6 rfl) hr
  · show Q_rmPn n0 Z cS aDE kDE aUS aSS aIE mO a0x b d kd ob0 ob1 ob2 gv h0 _ T4.heap _
    rw [e4]
    exact ⟨rfl, N4, rfl⟩
theorem D59 : dL jdk_42_method_66_code [(0, .aload_n 0, 1), (1, .aload_n 1, 1), (2, .if_acmp .ne 5, 3), (5, .iconst 1, 1), (6, .ireturn, 1)] = true := by decide +kernel
abbrev MN_67 : MethodName := ⟨"java/lang/String", "equals", "(Ljava/lang/Object;)Z"⟩
theorem ef_rmEq (m : MethodId) (a0e : Addr) (a0e : Addr) : entryFrame m #[(.ref a0e), (.ref a0e)] 3 = mkF m 0 #[vr a0e, vr a0e, .unset] [] := by first | (simp [entryFrame, mkF, argsToLocals, Value.category]; done) | rfl
def Q_rmEq (n0 : Nat) (Z : State) (cS : Int32) (aDE : Addr) (kDE : ClassId) (aUS : Addr) (aSS : Addr) (aIE : Addr) (mO : Addr) (a0e : Addr) (h0 : Heap) (v : Option Value) (h : Heap) (L : List Loc) : Prop := v = some (.int 1) ∧ Fr n0 L ∧ h = h0
theorem rmEq (l : Launch) (Z : State) (a0 : Array Value) (hw : ∀ d ∈ tables_1, d.before a0 Z = true) (ws : List Jvm.Cond) (cS : Int32) (aDE : Addr) (kDE : ClassId) (aUS : Addr) (aSS : Addr) (aIE : Addr) (mO : Addr) (a0e : Addr) (h0 : Heap) (n0 : Nat) (O0 : Old Z n0 h0) (GL : GF Z cS aDE kDE aUS aSS aIE mO) :
    MF l MN_67 jdk_42_method_66_code 3 (some .boolean) ws (Rm 0 0 0 0) #[(.ref a0e), (.ref a0e)] Z h0 (Q_rmEq n0 Z cS aDE kDE aUS aSS aIE mO a0e h0) := by
  refine MetFree.of_bodySF (plainFor_of_name pnv1) hisR ?_
  intro p e s m args below meth c s₁ Bd hml0 hP hK
  obtain ⟨rfl, hZ, hh⟩ := hP
  have hx := Bd.exec
  have hby := Bd.bytes
  have hml : c.maxLocals = 3 := hml0
  have hown : s.vm.findClass "java/lang/String" = some m.cls := findClass_of_methodNamed Bd.named
  have hnm := (name_of_methodNamed Bd.named Bd.method).1
  have X0 : Stand p l e (Rm 0 0 0 0) s m #[(.ref a0e), (.ref a0e)] below meth c s₁ [] 0 0 := Stand.of_body Bd
  have e0 : s₁.heap = h0 := by rw [← hh, Bd.state]; rfl
  have N0 := Fr.nil n0
  have pre0 : ∀ t, SP p e below s₁ m 0 #[vr a0e, vr a0e, .unset] [] t → Steps p.tables e below (s₁.setTop (entryFrame m #[(.ref a0e), (.ref a0e)] 3)) t := fun t k => castTop (ef_rmEq m a0e a0e) k
  have GL' := GL
  obtain ⟨GCS, GCP, GDE, GVE, GUS, GSS, GIE, GMO⟩ := GL'
  obtain ⟨fs, hr, hrun, hended, hW, hsame⟩ := X0.leave (v := some (.int 1)) (fun h => by rw [Bd.returns] at h; cases h)
  refine ⟨_, _, pre0 _ ?_, hrun, hended, _, _, rfl, ?_, ⟨_, rfl⟩, hW, hsame.mono (by decide) (by decide)⟩
  · show SP p e below s₁ m 0 #[vr a0e, vr a0e, .unset] [] _
    refine XS.aloadN X0.here hx rfl (dG hby D59 0 rfl) rfl rfl ?_
    refine XS.aloadN X0.here hx rfl (dG hby D59 1 rfl) rfl rfl ?_
    show SP p e below s₁ m 2 #[vr a0e, vr a0e, .unset] [(.ref a0e), (.ref a0e)] _
    refine Jvm.RoadKit.acmp (g := mkF m 2 #[vr a0e, vr a0e, .unset] [(.ref a0e), (.ref a0e)]) X0 hx rfl rfl rfl (pc0 := 2) (pc' := 5) (same := true) rfl (dG hby D59 2 rfl) rfl (decide_eq_true rfl) (by decide) (by decide) ?_
    show SP p e below s₁ m 5 #[vr a0e, vr a0e, .unset] [] _
    refine XS.iconst X0.here hx rfl (dG hby D59 3 rfl) ?_
    show SP p e below s₁ m 6 #[vr a0e, vr a0e, .unset] [(.int 1)] _
    exact retN X0 hx (t := .boolean) Bd.returns (by simp) (dG hby D59 4 rfl) hr
  · show Q_rmEq n0 Z cS aDE kDE aUS aSS aIE mO a0e h0 _ s₁.heap _
    rw [e0]
    exact ⟨rfl, N0, rfl⟩
theorem D69 : dL jdk_43_method_3_code [(0, .iload_n 0, 1), (1, .sipush 255, 3), (4, .if_icmp .gt 7, 3), (7, .iconst 1, 1), (8, .goto 4, 3), (12, .ireturn, 1)] = true := by decide +kernel
theorem pnv21 : plainName "java/lang/StringLatin1" = true := by first | (simp [plainName, overriddenIn]; done) | decide +kernel
abbrev MN_68 : MethodName := ⟨"java/lang/StringLatin1", "canEncode", "(C)Z"⟩
theorem ef_rmCe (m : MethodId) (p0 : Int32) : entryFrame m #[(.int p0)] 1 = mkF m 0 #[vi p0] [] := by first | (simp [entryFrame, mkF, argsToLocals, Value.category]; done) | rfl
def Q_rmCe (n0 : Nat) (Z : State) (cS : Int32) (aDE : Addr) (kDE : ClassId) (aUS : Addr) (aSS : Addr) (aIE : Addr) (mO : Addr) (p0 : Int32) (h0 : Heap) (v : Option Value) (h : Heap) (L : List Loc) : Prop := v = some (.int 1) ∧ Fr n0 L ∧ h = h0
theorem rmCe (l : Launch) (Z : State) (a0 : Array Value) (hw : ∀ d ∈ tables_1, d.before a0 Z = true) (ws : List Jvm.Cond) (cS : Int32) (aDE : Addr) (kDE : ClassId) (aUS : Addr) (aSS : Addr) (aIE : Addr) (mO : Addr) (p0 : Int32) (h0 : Heap) (n0 : Nat) (O0 : Old Z n0 h0) (GL : GF Z cS aDE kDE aUS aSS aIE mO) (hc : ¬ ((255 : Int32) < p0)) :
    MF l MN_68 jdk_43_method_3_code 1 (some .boolean) ws (Rm 0 0 0 0) #[(.int p0)] Z h0 (Q_rmCe n0 Z cS aDE kDE aUS aSS aIE mO p0 h0) := by
  refine MetFree.of_bodySF (plainFor_of_name pnv21) hisR ?_
  intro p e s m args below meth c s₁ Bd hml0 hP hK
  obtain ⟨rfl, hZ, hh⟩ := hP
  have hx := Bd.exec
  have hby := Bd.bytes
  have hml : c.maxLocals = 1 := hml0
  have hown : s.vm.findClass "java/lang/StringLatin1" = some m.cls := findClass_of_methodNamed Bd.named
  have hnm := (name_of_methodNamed Bd.named Bd.method).1
  have X0 : Stand p l e (Rm 0 0 0 0) s m #[(.int p0)] below meth c s₁ [] 0 0 := Stand.of_body Bd
  have e0 : s₁.heap = h0 := by rw [← hh, Bd.state]; rfl
  have N0 := Fr.nil n0
  have pre0 : ∀ t, SP p e below s₁ m 0 #[vi p0] [] t → Steps p.tables e below (s₁.setTop (entryFrame m #[(.int p0)] 1)) t := fun t k => castTop (ef_rmCe m p0) k
  have GL' := GL
  obtain ⟨GCS, GCP, GDE, GVE, GUS, GSS, GIE, GMO⟩ := GL'
  obtain ⟨fs, hr, hrun, hended, hW, hsame⟩ := X0.leave (v := some (.int 1)) (fun h => by rw [Bd.returns] at h; cases h)
  refine ⟨_, _, pre0 _ ?_, hrun, hended, _, _, rfl, ?_, ⟨_, rfl⟩, hW, hsame.mono (by decide) (by decide)⟩
  · show SP p e below s₁ m 0 #[vi p0] [] _
    refine XS.iloadN X0.here hx rfl (dG hby D69 0 rfl) rfl ?_
    refine XS.sipush X0.here hx rfl (dG hby D69 1 rfl) ?_
    refine XS.icmpNo X0.here hx rfl (dG hby D69 2 rfl) rfl (flt hc).2.2.1 ?_
    refine XS.iconst X0.here hx rfl (dG hby D69 3 rfl) ?_
    refine XS.goto X0.here hx rfl (pc0 := 8) (pc' := 12) rfl (dG hby D69 4 rfl) (by decide) (by decide) ?_
    show SP p e below s₁ m 12 #[vi p0] [(.int 1)] _
    exact retN X0 hx (t := .boolean) Bd.returns (by simp) (dG hby D69 5 rfl) hr
  · show Q_rmCe n0 Z cS aDE kDE aUS aSS aIE mO p0 h0 _ s₁.heap _
    rw [e0]
    exact ⟨rfl, N0, rfl⟩
theorem D70 : dL jdk_43_method_46_code [(0, .iconst 1, 1), (1, .newarray .byte, 2), (3, .dup, 1), (4, .iconst 0, 1), (5, .iload_n 0, 1), (6, .i2b, 1), (7, .bastore, 1), (8, .areturn, 1)] = true := by decide +kernel
abbrev MN_69 : MethodName := ⟨"java/lang/StringLatin1", "toBytes", "(C)[B"⟩
def Q_rmTy (n0 : Nat) (Z : State) (cS : Int32) (aDE : Addr) (kDE : ClassId) (aUS : Addr) (aSS : Addr) (aIE : Addr) (mO : Addr) (p0 : Int32) (h0 : Heap) (v : Option Value) (h : Heap) (L : List Loc) : Prop := ∃ b : Addr, ∃ kb : ClassId, v = some (.ref b) ∧ Fr n0 L ∧ Keep h0 h [] ∧ (h0.size ≤ b) ∧ (Exa Z h b "[B") ∧ (Arv Z h b kb .byte (1 : Int32) [(.int (p0.toInt8.toInt32))] (.int 0))
theorem rmTy (l : Launch) (Z : State) (a0 : Array Value) (hw : ∀ d ∈ tables_1, d.before a0 Z = true) (ws : List Jvm.Cond) (cS : Int32) (aDE : Addr) (kDE : ClassId) (aUS : Addr) (aSS : Addr) (aIE : Addr) (mO : Addr) (p0 : Int32) (h0 : Heap) (n0 : Nat) (O0 : Old Z n0 h0) (GL : GF Z cS aDE kDE aUS aSS aIE mO) :
    MF l MN_69 jdk_43_method_46_code 1 (some (.array .byte)) ws (Rm 0 1 1 0) #[(.int p0)] Z h0 (Q_rmTy n0 Z cS aDE kDE aUS aSS aIE mO p0 h0) := by
  refine MetFree.of_bodySF (plainFor_of_name pnv21) hisR ?_
  intro p e s m args below meth c s₁ Bd hml0 hP hK
  obtain ⟨rfl, hZ, hh⟩ := hP
  have hx := Bd.exec
  have hby := Bd.bytes
  have hml : c.maxLocals = 1 := hml0
  have hown : s.vm.findClass "java/lang/StringLatin1" = some m.cls := findClass_of_methodNamed Bd.named
  have hnm := (name_of_methodNamed Bd.named Bd.method).1
  have X0 : Stand p l e (Rm 0 1 1 0) s m #[(.int p0)] below meth c s₁ [] 0 0 := Stand.of_body Bd
  have e0 : s₁.heap = h0 := by rw [← hh, Bd.state]; rfl
  have N0 := Fr.nil n0
  have pre0 : ∀ t, SP p e below s₁ m 0 #[vi p0] [] t → Steps p.tables e below (s₁.setTop (entryFrame m #[(.int p0)] 1)) t := fun t k => castTop (ef_rmCe m p0) k
  have GL' := GL
  obtain ⟨GCS, GCP, GDE, GVE, GUS, GSS, GIE, GMO⟩ := GL'
  obtain ⟨T1, h1, k1, X1, e1, E1, A1, A1', st1⟩ := newPE X0 hx hZ (Wd hw 8 rfl) e0 (g := mkF m 1 #[vi p0] [(.int 1)]) rfl (dG hby D70 1 rfl) rfl (by decide) (cap := 1) (by decide) (by decide) (by decide) (by decide) (ad := "[B") rfl
  obtain ⟨b1, g1⟩ : ∃ z, z = h0.size := ⟨_, rfl⟩
  rw [← g1] at A1 A1' st1
  have g_b1 : n0 ≤ b1 := lTr (own_sz O0) (lEq g1.symm)
  have sz_b1 : h0.size ≤ b1 := lTr (Keep.refl h0 []).1 (lEq g1.symm)
  have K1 : Keep h0 h1 [] := (Keep.refl h0 []).ext E1
  have O1 := O0.ext E1
  have V_b1 : Arv Z h1 b1 k1 .byte (1 : Int32) [(.int 0)] (.int 0) := (Arv.new A1 (by decide)).pad (pad_rep [] (.int 0) 1)
  obtain ⟨cl2, Ar2, q2, S2, N2_, H2, G2⟩ := id (V_b1)
  have hin2 : ¬ ((0 : Int32) < 0 ∨ cl2.slots.size ≤ ((0 : Int32)).toNatClampNeg) := inb_of S2 ⟨(by decide), (by decide)⟩
  obtain ⟨T2, h2, X2, e2, W2, st2⟩ := stB X1 hx hZ e1 Ar2 (j := (0 : Int32)) hin2 (g := mkF m 7 #[vi p0] [(.int (p0.toInt8.toInt32)), (.int 0), (.ref b1), (.ref b1)]) rfl rfl (dG hby D70 6 rfl)
  have K2 : Keep h0 h2 [] := K1.wr W2 (Or.inr sz_b1)
  have O2 := O1.wr W2 g_b1
  have N2 := Fr.snoc X2 N0 g_b1
  have V2' : Arv Z h2 b1 k1 .byte (1 : Int32) [(.int ((p0.toInt8.toInt32)).toInt8.toInt32)] (.int 0) := Arv.set Ar2 q2 S2 N2_ H2 G2 (fits_nar_byte _) W2 0 rfl (Nat.le_of_ble_eq_true rfl)
  have V2 : Arv Z h2 b1 k1 .byte (1 : Int32) [(.int (p0.toInt8.toInt32))] (.int 0) := by
    rw [own_b2 p0] at V2'
    exact V2'
  obtain ⟨fs, hr, hrun, hended, hW, hsame⟩ := X2.leave (v := some (.ref b1)) (fun h => by rw [Bd.returns] at h; cases h)
  refine ⟨_, _, pre0 _ ?_, hrun, hended, _, _, rfl, ?_, ⟨_, rfl⟩, hW, hsame.mono (by decide) (by decide)⟩
  · show SP p e below s₁ m 0 #[vi p0] [] _
    refine XS.iconst X0.here hx rfl (dG hby D70 0 rfl) ?_
    show SP p e below s₁ m 1 #[vi p0] [(.int 1)] _
    refine st1 _ ?_
    show SP p e below T1 m 3 #[vi p0] [(.ref b1)] _
    refine XS.dup X1.here hx rfl (dG hby D70 2 rfl) rfl rfl ?_
    refine XS.iconst X1.here hx rfl (dG hby D70 3 rfl) ?_
    refine XS.iloadN X1.here hx rfl (dG hby D70 4 rfl) rfl ?_
    refine XS.i2b X1.here hx rfl (dG hby D70 5 rfl) rfl ?_
    show SP p e below T1 m 7 #[vi p0] [(.int (p0.toInt8.toInt32)), (.int 0), (.ref b1), (.ref b1)] _
    refine st2 _ ?_
    show SP p e below T2 m 8 #[vi p0] [(.ref b1)] _
    exact retA X2 hx Bd.returns rfl (dG hby D70 7 rfl) hr
  · show Q_rmTy n0 Z cS aDE kDE aUS aSS aIE mO p0 h0 _ T2.heap _
    rw [e2]
    exact ⟨b1, k1, rfl, N2, K2, sz_b1, (A1'.wr W2), V2⟩
theorem D71 : dL jdk_42_method_151_code [(0, .aload_n 0, 1), (1, .invokespecial 1, 3), (4, .aload_n 0, 1), (5, .aload_n 1, 1), (6, .putfield 9, 3), (9, .aload_n 0, 1), (10, .iload_n 2, 1), (11, .putfield 15, 3), (14, .return_, 1)] = true := by decide +kernel
abbrev MN_70 : MethodName := ⟨"java/lang/String", "<init>", "([BB)V"⟩
theorem ef_rmIb (m : MethodId) (a0s : Addr) (a1b : Addr) : entryFrame m #[(.ref a0s), (.ref a1b), (.int 0)] 3 = mkF m 0 #[vr a0s, vr a1b, vi (0 : Int32)] [] := by first | (simp [entryFrame, mkF, argsToLocals, Value.category]; done) | rfl
def Q_rmIb (n0 : Nat) (Z : State) (cS : Int32) (aDE : Addr) (kDE : ClassId) (aUS : Addr) (aSS : Addr) (aIE : Addr) (mO : Addr) (a0s : Addr) (a1b : Addr) (h0 : Heap) (v : Option Value) (h : Heap) (L : List Loc) : Prop := v = none ∧ Fr n0 L ∧ Keep h0 h [a0s] ∧ (Exa Z h a0s "java/lang/String") ∧ (Fld Z h a0s "java/lang/String" "value" "[B" (.ref a1b)) ∧ (Fld Z h a0s "java/lang/String" "coder" "B" (.int 0))
theorem rmIb (l : Launch) (Z : State) (a0 : Array Value) (hw : ∀ d ∈ tables_1, d.before a0 Z = true) (ws : List Jvm.Cond) (cS : Int32) (aDE : Addr) (kDE : ClassId) (aUS : Addr) (aSS : Addr) (aIE : Addr) (mO : Addr) (a0s : Addr) (a1b : Addr) (h0 : Heap) (n0 : Nat) (O0 : Old Z n0 h0) (GL : GF Z cS aDE kDE aUS aSS aIE mO) (E_a0s : Exa Z h0 a0s "java/lang/String") (F_value_a0s : Fld Z h0 a0s "java/lang/String" "value" "[B" .null) (F_coder_a0s : Fld Z h0 a0s "java/lang/String" "coder" "B" (.int 0)) (g_a0s : n0 ≤ a0s) :
    MF l MN_70 jdk_42_method_151_code 3 none ws (Rm 1 0 0 12) #[(.ref a0s), (.ref a1b), (.int 0)] Z h0 (Q_rmIb n0 Z cS aDE kDE aUS aSS aIE mO a0s a1b h0) := by
  refine MetFree.of_bodySF (plainFor_of_name pnv1) hisR ?_
  intro p e s m args below meth c s₁ Bd hml0 hP hK
  obtain ⟨rfl, hZ, hh⟩ := hP
  have hx := Bd.exec
  have hby := Bd.bytes
  have hml : c.maxLocals = 3 := hml0
  have hown : s.vm.findClass "java/lang/String" = some m.cls := findClass_of_methodNamed Bd.named
  have hnm := (name_of_methodNamed Bd.named Bd.method).1
  have X0 : Stand p l e (Rm 1 0 0 12) s m #[(.ref a0s), (.ref a1b), (.int 0)] below meth c s₁ [] 0 0 := Stand.of_body Bd
  have e0 : s₁.heap = h0 := by rw [← hh, Bd.state]; rfl
  have N0 := Fr.nil n0
  have pre0 : ∀ t, SP p e below s₁ m 0 #[vr a0s, vr a1b, vi (0 : Int32)] [] t → Steps p.tables e below (s₁.setTop (entryFrame m #[(.ref a0s), (.ref a1b), (.int 0)] 3)) t := fun t k => castTop (ef_rmIb m a0s a1b) k
  have GL' := GL
  obtain ⟨GCS, GCP, GDE, GVE, GUS, GSS, GIE, GMO⟩ := GL'
  obtain ⟨T1, X1, e1, st1⟩ := initO X0 hx hZ hown (Wd hw 214 rfl) (Wd hw 32 rfl) (Wd hw 33 rfl) e0 (g := mkF m 1 #[vr a0s, vr a1b, vi (0 : Int32)] [(.ref a0s)]) rfl (by rw [hml]; rfl) rfl (dG hby D71 1 rfl) (by decide) (W := 0) (by show 2 * 0 + _ ≤ _; exact lEq rfl) (by decide)
  obtain ⟨T2, h2, X2, e2, W2, st2⟩ := putF X1 hx hZ hown (host := "") (Or.inl (Wd hw 165 rfl)) Via.refl e1 F_value_a0s E_a0s (Or.inr ⟨(Wd hw 9 rfl), rfl, hnm⟩) (Wd hw 7 rfl) (ty := (.array .byte)) (by decide) rfl rfl (g := mkF m 6 #[vr a0s, vr a1b, vi (0 : Int32)] [(.ref a1b), (.ref a0s)]) rfl rfl (dG hby D71 4 rfl)
  have Fw2 := F_value_a0s.same W2
  have K2 : Keep h0 h2 [a0s] := (Keep.refl h0 [a0s]).wr W2 (Or.inl (List.mem_of_getElem? (i := 0) rfl))
  have O2 := O0.wr W2 g_a0s
  have N2 := Fr.snoc X2 N0 g_a0s
  obtain ⟨T3, h3, X3, e3, W3, st3⟩ := putFN X2 hx hZ hown (Wd hw 172 rfl) Via.refl e2 (F_coder_a0s.other W2 (Or.inr (slot_ne (a0 := a0) (Or.inr (Wd hw 10 rfl)) (Or.inr (Wd hw 9 rfl)) (by decide) (t := .byte) (t' := (.array .byte)) (by decide) (by decide)))) (E_a0s.wr W2) (Or.inr ⟨(Wd hw 10 rfl), rfl, hnm⟩) (Wd hw 7 rfl) (ty := .byte) (v' := (.int 0)) (by decide) rfl (by decide) (g := mkF m 11 #[vr a0s, vr a1b, vi (0 : Int32)] [(.int 0), (.ref a0s)]) rfl rfl (dG hby D71 7 rfl)
  have Fw3 := (F_coder_a0s.other W2 (Or.inr (slot_ne (a0 := a0) (Or.inr (Wd hw 10 rfl)) (Or.inr (Wd hw 9 rfl)) (by decide) (t := .byte) (t' := (.array .byte)) (by decide) (by decide)))).same W3
  have K3 : Keep h0 h3 [a0s] := K2.wr W3 (Or.inl (List.mem_of_getElem? (i := 0) rfl))
  have O3 := O2.wr W3 g_a0s
  have N3 := Fr.snoc X3 N2 g_a0s
  obtain ⟨fs, hr, hrun, hended, hW, hsame⟩ := X3.leave (v := none) (fun _ => rfl)
  refine ⟨_, _, pre0 _ ?_, hrun, hended, _, _, rfl, ?_, ⟨_, rfl⟩, hW, hsame.mono (by decide) (by decide)⟩
  · show SP p e below s₁ m 0 #[vr a0s, vr a1b, vi (0 : Int32)] [] _
    refine XS.aloadN X0.here hx rfl (dG hby D71 0 rfl) rfl rfl ?_
    show SP p e below s₁ m 1 #[vr a0s, vr a1b, vi (0 : Int32)] [(.ref a0s)] _
    refine st1 _ ?_
    show SP p e below T1 m 4 #[vr a0s, vr a1b, vi (0 : Int32)] [] _
    refine XS.aloadN X1.here hx rfl (dG hby D71 2 rfl) rfl rfl ?_
    refine XS.aloadN X1.here hx rfl (dG hby D71 3 rfl) rfl rfl ?_
    show SP p e below T1 m 6 #[vr a0s, vr a1b, vi (0 : Int32)] [(.ref a1b), (.ref a0s)] _
    refine st2 _ ?_
    show SP p e below T2 m 9 #[vr a0s, vr a1b, vi (0 : Int32)] [] _
    refine XS.aloadN X2.here hx rfl (dG hby D71 5 rfl) rfl rfl ?_
    refine XS.iloadN X2.here hx rfl (dG hby D71 6 rfl) rfl ?_
    show SP p e below T2 m 11 #[vr a0s, vr a1b, vi (0 : Int32)] [(.int 0), (.ref a0s)] _
    refine st3 _ ?_
    show SP p e below T3 m 14 #[vr a0s, vr a1b, vi (0 : Int32)] [] _
    exact X3.returnOut hx Bd.returns (dG hby D71 8 rfl) hr
  · show Q_rmIb n0 Z cS aDE kDE aUS aSS aIE mO a0s a1b h0 _ T3.heap _
    rw [e3]
    exact ⟨rfl, N3, K3, ((E_a0s.wr W2).wr W3), (Fw2.other W3 (Or.inr (slot_ne (a0 := a0) (Or.inr (Wd hw 9 rfl)) (Or.inr (Wd hw 10 rfl)) (by decide) (t := (.array .byte)) (t' := .byte) (by decide) (by decide)))), Fw3⟩
theorem D68 : dL jdk_42_method_139_code [(0, .getstatic 38, 3), (3, .ifCond .eq 23, 3), (6, .iload_n 0, 1), (7, .invokestatic 1015, 3), (10, .ifCond .eq 16, 3), (13, .new 10, 3), (16, .dup, 1), (17, .iload_n 0, 1), (18, .invokestatic 1018, 3), (21, .iconst 0, 1), (22, .invokespecial 209, 3), (25, .areturn, 1)] = true := by decide +kernel
theorem pdv35 : parseMethodDescriptor "(C)Z" = some ⟨[.char], some .boolean⟩ := by decide +kernel
theorem pdv36 : parseMethodDescriptor "(C)[B" = some ⟨[.char], some (.array .byte)⟩ := by decide +kernel
theorem pdv37 : parseMethodDescriptor "([BB)V" = some ⟨[(.array .byte), .byte], none⟩ := by decide +kernel
abbrev MN_71 : MethodName := ⟨"java/lang/String", "valueOf", "(C)Ljava/lang/String;"⟩
def Q_rmVo (n0 : Nat) (Z : State) (cS : Int32) (aDE : Addr) (kDE : ClassId) (aUS : Addr) (aSS : Addr) (aIE : Addr) (mO : Addr) (p0 : Int32) (h0 : Heap) (v : Option Value) (h : Heap) (L : List Loc) : Prop := ∃ bS : Addr, ∃ vS : Addr, ∃ kS : ClassId, ∃ nS : Int32, ∃ lS : List Value, v = some (.ref bS) ∧ Fr n0 L ∧ Keep h0 h [] ∧ (Exa Z h bS "java/lang/String") ∧ (Fld Z h bS "java/lang/String" "value" "[B" (.ref vS)) ∧ (Fld Z h bS "java/lang/String" "coder" "B" (.int 0)) ∧ (Arv Z h vS kS .byte nS lS (.int 0)) ∧ (¬ (nS < (0 : Int32))) ∧ (¬ ((2 : Int32) < nS))
theorem rmVo (l : Launch) (Z : State) (a0 : Array Value) (hw : ∀ d ∈ tables_1, d.before a0 Z = true) (ws : List Jvm.Cond) (cS : Int32) (aDE : Addr) (kDE : ClassId) (aUS : Addr) (aSS : Addr) (aIE : Addr) (mO : Addr) (p0 : Int32) (h0 : Heap) (n0 : Nat) (O0 : Old Z n0 h0) (GL : GF Z cS aDE kDE aUS aSS aIE mO) (hc : ¬ ((255 : Int32) < p0)) :
    MF l MN_71 jdk_42_method_139_code 1 (some (.object "java/lang/String")) ws (Rm 2 2 5 27) #[(.int p0)] Z h0 (Q_rmVo n0 Z cS aDE kDE aUS aSS aIE mO p0 h0) := by
  refine MetFree.of_bodySF (plainFor_of_name pnv1) hisR ?_
  intro p e s m args below meth c s₁ Bd hml0 hP hK
  obtain ⟨rfl, hZ, hh⟩ := hP
  have hx := Bd.exec
  have hby := Bd.bytes
  have hml : c.maxLocals = 1 := hml0
  have hown : s.vm.findClass "java/lang/String" = some m.cls := findClass_of_methodNamed Bd.named
  have hnm := (name_of_methodNamed Bd.named Bd.method).1
  have X0 : Stand p l e (Rm 2 2 5 27) s m #[(.int p0)] below meth c s₁ [] 0 0 := Stand.of_body Bd
  have e0 : s₁.heap = h0 := by rw [← hh, Bd.state]; rfl
  have N0 := Fr.nil n0
  have pre0 : ∀ t, SP p e below s₁ m 0 #[vi p0] [] t → Steps p.tables e below (s₁.setTop (entryFrame m #[(.int p0)] 1)) t := fun t k => castTop (ef_rmCe m p0) k
  have GL' := GL
  obtain ⟨GCS, GCP, GDE, GVE, GUS, GSS, GIE, GMO⟩ := GL'
  obtain ⟨T1, X1, e1, st1⟩ := getS2 X0 hx hZ hown (host := "") (Or.inl (Wd hw 171 rfl)) Via.refl e0 (GCS.ext O0.2) (g := mkF m 0 #[vi p0] []) rfl (dG hby D68 0 rfl)
  obtain ⟨_, _, ⟨T2, L2, k2, n2⟩, -, X2, ⟨Lc2, hQ2, l2, y2, z2⟩, st2⟩ := Jvm.LawKit.callS X1 hx (y := MN_68) hown (mvT hZ (Wd hw 436 rfl)) (mvT hZ (Wd hw 437 rfl)) (mvT hZ (Wd hw 438 rfl)) (mvT hZ (Wd hw 439 rfl)) (by decide) (backOf (W := 0) (rmCe l Z a0 hw [] cS aDE kDE aUS aSS aIE mO p0 h0 n0 O0 GL hc) hZ (Wd hw 439 rfl) (Wd hw 438 rfl) (by decide) (by decide)) (g := mkF m 7 #[vi p0] [(.int p0)]) rfl (by rw [hml]; rfl) (argsL := [(.int p0)]) (rest := []) (lenOf pdv35 rfl) rfl (by show 2 * 0 + _ ≤ _; exact lEq rfl) (dG hby D68 3 rfl) (fun _ _ => ⟨rfl, e1, (by decide : 0 + 0 ≤ _), (by decide : 0 + 0 ≤ _)⟩)
  dsimp only [Pt.U, Pt.locs, Pt.cells, Pt.slots] at X2 l2 y2 z2 st2 hQ2
  subst l2 y2 z2
  obtain ⟨rfl, N2q, e2⟩ := hQ2
  have N2 := Fr.app N0 N2q
  obtain ⟨T3, h3, X3, e3, E3, A3, D3, -, st3⟩ := newO X2 hx hZ hown (Wd hw 440 rfl) (Wd hw 7 rfl) (Wd hw 6 rfl) e2 (g := mkF m 13 #[vi p0] []) rfl (dG hby D68 5 rfl) (by decide) (by decide)
  obtain ⟨b3, g3⟩ : ∃ z, z = h0.size := ⟨_, rfl⟩
  rw [← g3] at A3 D3 st3
  have g_b3 : n0 ≤ b3 := lTr (own_sz O0) (lEq g3.symm)
  have sz_b3 : h0.size ≤ b3 := lTr (Keep.refl h0 []).1 (lEq g3.symm)
  have K3 : Keep h0 h3 [] := (Keep.refl h0 []).ext E3
  have O3 := O0.ext E3
  have F_value_b3 : Fld Z h3 b3 "java/lang/String" "value" "[B" .null := D3 (Or.inr (Wd hw 9 rfl)) (ty := (.array .byte)) (by decide)
  have F_coder_b3 : Fld Z h3 b3 "java/lang/String" "coder" "B" (.int 0) := D3 (Or.inr (Wd hw 10 rfl)) (ty := .byte) (by decide)
  obtain ⟨_, _, ⟨T4, L4, k4, n4⟩, -, X4, ⟨Lc4, hQ4, l4, y4, z4⟩, st4⟩ := Jvm.LawKit.callS X3 hx (y := MN_69) hown (mvT hZ (Wd hw 441 rfl)) (mvT hZ (Wd hw 442 rfl)) (mvT hZ (Wd hw 438 rfl)) (mvT hZ (Wd hw 443 rfl)) (by decide) (backOf (W := 2) (rmTy l Z a0 hw [] cS aDE kDE aUS aSS aIE mO p0 h3 n0 O3 GL) hZ (Wd hw 443 rfl) (Wd hw 438 rfl) (by decide) (by decide)) (g := mkF m 18 #[vi p0] [(.int p0), (.ref b3), (.ref b3)]) rfl (by rw [hml]; rfl) (argsL := [(.int p0)]) (rest := [(.ref b3), (.ref b3)]) (lenOf pdv36 rfl) rfl (by show 2 * 0 + _ ≤ _; exact lEq rfl) (dG hby D68 8 rfl) (fun _ _ => ⟨rfl, e3, (by decide : 1 + 1 ≤ _), (by decide : 4 + 1 ≤ _)⟩)
  dsimp only [Pt.U, Pt.locs, Pt.cells, Pt.slots] at X4 l4 y4 z4 st4 hQ4
  subst l4 y4 z4
  obtain ⟨b_4, kb_4, rfl, N4q, Kc4, P4_0, P4_1, P4_2⟩ := hQ4
  have K4 : Keep h0 T4.heap [] := K3.trans Kc4 all0
  have O4 := O3.keep Kc4 all0
  have g_b_4 : n0 ≤ b_4 := lTr (own_sz O3) P4_0
  have sz_b_4 : h0.size ≤ b_4 := lTr K3.1 P4_0
  have N4 := Fr.app N2 N4q
  obtain ⟨_, _, ⟨T5, L5, k5, n5⟩, -, X5, ⟨Lc5, hQ5, l5, y5, z5⟩, st5⟩ := X4.specialBack hx (y := MN_70) rfl hown (mvT hZ (Wd hw 444 rfl)) (mvT hZ (Wd hw 445 rfl)) (mvT hZ (Wd hw 446 rfl)) (by decide) (backOf (W := 1) (rmIb l Z a0 hw [] cS aDE kDE aUS aSS aIE mO b3 b_4 (T4.heap) n0 O4 GL (A3.keep Kc4) (F_value_b3.keep Kc4 nin0) (F_coder_b3.keep Kc4 nin0) g_b3) hZ (Wd hw 446 rfl) (Wd hw 6 rfl) (by decide) (by decide)) (g := mkF m 22 #[vi p0] [(.int 0), (.ref b_4), (.ref b3), (.ref b3)]) rfl (by rw [hml]; rfl) (Steps.refl _) (a := b3) (argsL := [(.ref b_4), (.int 0)]) (rest := [(.ref b3)]) (lenOf pdv37 rfl) rfl (by show 2 * 0 + _ ≤ _; exact lEq rfl) (dG hby D68 10 rfl) (fun _ _ => ⟨rfl, rfl, (by decide : 2 + 0 ≤ _), (by decide : 5 + 0 ≤ _)⟩)
  dsimp only [Pt.U, Pt.locs, Pt.cells, Pt.slots] at X5 l5 y5 z5 st5 hQ5
  subst l5 y5 z5
  obtain ⟨rfl, N5q, Kc5, P5_0, P5_1, P5_2⟩ := hQ5
  have K5 : Keep h0 T5.heap [] := K4.trans Kc5 (allS (Or.inr sz_b3) all0)
  have O5 := O4.keep Kc5 (allS g_b3 all0)
  have N5 := Fr.app N4 N5q
  obtain ⟨fs, hr, hrun, hended, hW, hsame⟩ := X5.leave (v := some (.ref b3)) (fun h => by rw [Bd.returns] at h; cases h)
  refine ⟨_, _, pre0 _ ?_, hrun, hended, _, _, rfl, ?_, ⟨_, rfl⟩, hW, hsame.mono (by decide) (by decide)⟩
  · show SP p e below s₁ m 0 #[vi p0] [] _
    refine st1 _ ?_
    show SP p e below T1 m 3 #[vi p0] [(.int cS)] _
    refine XS.ifNo X1.here hx rfl (dG hby D68 1 rfl) rfl ((if0 _ _).trans (feq GCP).1) ?_
    refine XS.iloadN X1.here hx rfl (dG hby D68 2 rfl) rfl ?_
    show SP p e below T1 m 7 #[vi p0] [(.int p0)] _
    refine st2 _ ?_
    show SP p e below T2 m 10 #[vi p0] [(.int 1)] _
    refine XS.ifNo X2.here hx rfl (dG hby D68 4 rfl) rfl ((if0 _ _).trans (feq (by decide : ¬ ((1 : Int32) = (0 : Int32)))).1) ?_
    show SP p e below T2 m 13 #[vi p0] [] _
    refine st3 _ ?_
    show SP p e below T3 m 16 #[vi p0] [(.ref b3)] _
    refine XS.dup X3.here hx rfl (dG hby D68 6 rfl) rfl rfl ?_
    refine XS.iloadN X3.here hx rfl (dG hby D68 7 rfl) rfl ?_
    show SP p e below T3 m 18 #[vi p0] [(.int p0), (.ref b3), (.ref b3)] _
    refine st4 _ ?_
    show SP p e below T4 m 21 #[vi p0] [(.ref b_4), (.ref b3), (.ref b3)] _
    refine XS.iconst X4.here hx rfl (dG hby D68 9 rfl) ?_
    show SP p e below T4 m 22 #[vi p0] [(.int 0), (.ref b_4), (.ref b3), (.ref b3)] _
    refine st5.trans ?_
    show SP p e below T5 m 25 #[vi p0] [(.ref b3)] _
    exact retA X5 hx Bd.returns rfl (dG hby D68 11 rfl) hr
  · show Q_rmVo n0 Z cS aDE kDE aUS aSS aIE mO p0 h0 _ T5.heap _
    exact ⟨b3, b_4, kb_4, (1 : Int32), [(.int (p0.toInt8.toInt32))], rfl, N5, K5, P5_0, P5_1, P5_2, (P4_2.keep Kc5 (ninS (Ne.symm (nLt (lLt A3.lt P4_0))) nin0)), (by decide), (by decide)⟩
theorem D1 : dL method_2_code [(0, .iload_n 0, 1), (1, .bipush 16, 2), (3, .iushr, 1), (4, .sipush 32767, 3), (7, .iand, 1), (8, .iconst 3, 1), (9, .irem, 1), (10, .istore_n 1, 1), (11, .iload_n 0, 1), (12, .sipush 255, 3), (15, .iand, 1), (16, .i2c, 1), (17, .istore_n 2, 1), (18, .iload_n 0, 1), (19, .bipush 8, 2), (21, .iushr, 1), (22, .sipush 255, 3), (25, .iand, 1), (26, .i2c, 1), (27, .istore_n 3, 1), (28, .iload_n 1, 1), (29, .ifCond .ne 6, 3), (32, .ldc 7, 2), (34, .areturn, 1), (35, .iload_n 1, 1), (36, .iconst 1, 1), (37, .if_icmp .ne 8, 3), (40, .iload_n 2, 1), (41, .invokestatic 9, 3), (44, .areturn, 1), (45, .new 10, 3), (48, .dup, 1), (49, .iconst 2, 1), (50, .newarray .char, 2), (52, .dup, 1), (53, .iconst 0, 1), (54, .iload_n 2, 1), (55, .castore, 1), (56, .dup, 1), (57, .iconst 1, 1), (58, .iload_n 3, 1), (59, .castore, 1), (60, .invokespecial 15, 3), (63, .areturn, 1)] = true := by decide +kernel
theorem pdv38 : parseMethodDescriptor "(C)Ljava/lang/String;" = some ⟨[.char], some (.object "java/lang/String")⟩ := by decide +kernel
theorem pdv39 : parseMethodDescriptor "([C)V" = some ⟨[(.array .char)], none⟩ := by decide +kernel
theorem pnv22 : plainName "com/example/grantline/grantline/PolicyExceptionProblemPinLaw" = true := by first | (simp [plainName, overriddenIn]; done) | decide +kernel
abbrev MN_72 : MethodName := ⟨"com/example/grantline/grantline/PolicyExceptionProblemPinLaw", "str", "(I)Ljava/lang/String;"⟩
theorem ef_rmStr (m : MethodId) (p0 : Int32) : entryFrame m #[(.int p0)] 4 = mkF m 0 #[vi p0, .unset, .unset, .unset] [] := by first | (simp [entryFrame, mkF, argsToLocals, Value.category]; done) | rfl
def Q_rmStr (n0 : Nat) (Z : State) (cS : Int32) (aDE : Addr) (kDE : ClassId) (aUS : Addr) (aSS : Addr) (aIE : Addr) (mO : Addr) (p0 : Int32) (h0 : Heap) (v : Option Value) (h : Heap) (L : List Loc) : Prop := ∃ bS : Addr, ∃ vS : Addr, ∃ kS : ClassId, ∃ nS : Int32, ∃ lS : List Value, v = some (.ref bS) ∧ Fr n0 L ∧ Keep h0 h [] ∧ (Exa Z h bS "java/lang/String") ∧ (Fld Z h bS "java/lang/String" "value" "[B" (.ref vS)) ∧ (Fld Z h bS "java/lang/String" "coder" "B" (.int 0)) ∧ (Arv Z h vS kS .byte nS lS (.int 0)) ∧ (¬ (nS < (0 : Int32))) ∧ (¬ ((2 : Int32) < nS))
theorem rmStr (l : Launch) (Z : State) (a0 : Array Value) (hw : ∀ d ∈ tables_1, d.before a0 Z = true) (ws : List Jvm.Cond) (cS : Int32) (aDE : Addr) (kDE : ClassId) (aUS : Addr) (aSS : Addr) (aIE : Addr) (mO : Addr) (p0 : Int32) (h0 : Heap) (n0 : Nat) (O0 : Old Z n0 h0) (GL : GF Z cS aDE kDE aUS aSS aIE mO) :
    MetFree l MN_72 (head1 (Jvm.Cond.code MN_72 method_2_code 4 (some (.object "java/lang/String")) :: ws) (Rm 4 3 8 66)) (fun a U => a = #[(.int p0)] ∧ Z.Warmed39 U.vm ∧ U.heap = h0 ∧ CHv Z EL1 U.vm h0) (fun _ _ _ _ _ => True) (fun _ U o U' => ∃ v L, o = .returned v ∧ Q_rmStr n0 Z cS aDE kDE aUS aSS aIE mO p0 h0 v U'.heap L ∧ CHr Z EL1 U.vm U.heap U'.vm U'.heap ∧ ReturnedEndW U o U' L (Rm 4 3 8 66).cells (Rm 4 3 8 66).slots) := by
  refine MetFree.of_bodySF (plainFor_of_name pnv22) hisR ?_
  intro p e s m args below meth c s₁ Bd hml0 hP hK
  obtain ⟨rfl, hZ, hh, H0⟩ := hP
  have hx := Bd.exec
  have hby := Bd.bytes
  have hml : c.maxLocals = 4 := hml0
  have hown : s.vm.findClass "com/example/grantline/grantline/PolicyExceptionProblemPinLaw" = some m.cls := findClass_of_methodNamed Bd.named
  have hnm := (name_of_methodNamed Bd.named Bd.method).1
  have X0 : Stand p l e (Rm 4 3 8 66) s m #[(.int p0)] below meth c s₁ [] 0 0 := Stand.of_body Bd
  have e0 : s₁.heap = h0 := by rw [← hh, Bd.state]; rfl
  have N0 := Fr.nil n0
  have pre0 : ∀ t, SP p e below s₁ m 0 #[vi p0, .unset, .unset, .unset] [] t → Steps p.tables e below (s₁.setTop (entryFrame m #[(.int p0)] 4)) t := fun t k => castTop (ef_rmStr m p0) k
  have X0w : Stand p l e (Rm 4 3 8 66) (s.setVm s.vm) m #[(.int p0)] below meth c s₁ [] 0 0 := X0
  have R0 : CHr Z EL1 s.vm h0 s.vm h0 := CHr.refl H0
  have hS0 : s.Since s.vm h0.size := (State.WarmedH.refl s).since _
  have GL' := GL
  obtain ⟨GCS, GCP, GDE, GVE, GUS, GSS, GIE, GMO⟩ := GL'
  have hq0 : ¬ ((255 : Int32) < (p0 &&& (255 : Int32))) := (own_and255 _).1
  have hq1 : ¬ ((255 : Int32) < (((p0.toUInt32 >>> ((8 : Int32) &&& 31).toUInt32).toInt32) &&& (255 : Int32))) := (own_and255 _).1
  have pre2 : ∀ t, SP p e below s₁ m 29 #[vi p0, vi ((((p0.toUInt32 >>> ((16 : Int32) &&& 31).toUInt32).toInt32) &&& (32767 : Int32)) % (3 : Int32)), vi (p0 &&& (255 : Int32)), vi (((p0.toUInt32 >>> ((8 : Int32) &&& 31).toUInt32).toInt32) &&& (255 : Int32))] [(.int ((((p0.toUInt32 >>> ((16 : Int32) &&& 31).toUInt32).toInt32) &&& (32767 : Int32)) % (3 : Int32)))] t → Steps p.tables e below (s₁.setTop (entryFrame m #[(.int p0)] 4)) t := fun t kt => by
    refine pre0 t ?_
    show SP p e below s₁ m 0 #[vi p0, .unset, .unset, .unset] [] _
    refine XS.iloadN X0w.here hx rfl (dG hby D1 0 rfl) rfl ?_
    refine XS.bipush X0w.here hx rfl (dG hby D1 1 rfl) ?_
    refine XS.iushr X0w.here hx rfl (dG hby D1 2 rfl) rfl ?_
    refine XS.sipush X0w.here hx rfl (dG hby D1 3 rfl) ?_
    refine XS.iand X0w.here hx rfl (dG hby D1 4 rfl) rfl ?_
    refine XS.iconst X0w.here hx rfl (dG hby D1 5 rfl) ?_
    show SP p e below s₁ m 9 #[vi p0, .unset, .unset, .unset] [(.int 3), (.int (((p0.toUInt32 >>> ((16 : Int32) &&& 31).toUInt32).toInt32) &&& (32767 : Int32)))] _
    refine Jvm.RoadKit.iremM X0w hx rfl (dG hby D1 6 rfl) rfl (by decide) ?_
    show SP p e below s₁ m 10 #[vi p0, .unset, .unset, .unset] [(.int ((((p0.toUInt32 >>> ((16 : Int32) &&& 31).toUInt32).toInt32) &&& (32767 : Int32)) % (3 : Int32)))] _
    refine XS.istoreN X0w.here hx rfl (dG hby D1 7 rfl) rfl (l' := #[vi p0, vi ((((p0.toUInt32 >>> ((16 : Int32) &&& 31).toUInt32).toInt32) &&& (32767 : Int32)) % (3 : Int32)), .unset, .unset]) rfl ?_
    refine XS.iloadN X0w.here hx rfl (dG hby D1 8 rfl) rfl ?_
    refine XS.sipush X0w.here hx rfl (dG hby D1 9 rfl) ?_
    refine XS.iand X0w.here hx rfl (dG hby D1 10 rfl) rfl ?_
    show SP p e below s₁ m 16 #[vi p0, vi ((((p0.toUInt32 >>> ((16 : Int32) &&& 31).toUInt32).toInt32) &&& (32767 : Int32)) % (3 : Int32)), .unset, .unset] [(.int (p0 &&& (255 : Int32)))] _
    refine XS.i2c X0w.here hx rfl (dG hby D1 11 rfl) rfl ?_
    rw [i2c_mask p0]
    show SP p e below s₁ m 17 #[vi p0, vi ((((p0.toUInt32 >>> ((16 : Int32) &&& 31).toUInt32).toInt32) &&& (32767 : Int32)) % (3 : Int32)), .unset, .unset] [(.int (p0 &&& (255 : Int32)))] _
    refine XS.istoreN X0w.here hx rfl (dG hby D1 12 rfl) rfl (l' := #[vi p0, vi ((((p0.toUInt32 >>> ((16 : Int32) &&& 31).toUInt32).toInt32) &&& (32767 : Int32)) % (3 : Int32)), vi (p0 &&& (255 : Int32)), .unset]) rfl ?_
    refine XS.iloadN X0w.here hx rfl (dG hby D1 13 rfl) rfl ?_
    refine XS.bipush X0w.here hx rfl (dG hby D1 14 rfl) ?_
    refine XS.iushr X0w.here hx rfl (dG hby D1 15 rfl) rfl ?_
    refine XS.sipush X0w.here hx rfl (dG hby D1 16 rfl) ?_
    refine XS.iand X0w.here hx rfl (dG hby D1 17 rfl) rfl ?_
    show SP p e below s₁ m 26 #[vi p0, vi ((((p0.toUInt32 >>> ((16 : Int32) &&& 31).toUInt32).toInt32) &&& (32767 : Int32)) % (3 : Int32)), vi (p0 &&& (255 : Int32)), .unset] [(.int (((p0.toUInt32 >>> ((8 : Int32) &&& 31).toUInt32).toInt32) &&& (255 : Int32)))] _
    refine XS.i2c X0w.here hx rfl (dG hby D1 18 rfl) rfl ?_
    rw [i2c_mask ((p0.toUInt32 >>> ((8 : Int32) &&& 31).toUInt32).toInt32)]
    show SP p e below s₁ m 27 #[vi p0, vi ((((p0.toUInt32 >>> ((16 : Int32) &&& 31).toUInt32).toInt32) &&& (32767 : Int32)) % (3 : Int32)), vi (p0 &&& (255 : Int32)), .unset] [(.int (((p0.toUInt32 >>> ((8 : Int32) &&& 31).toUInt32).toInt32) &&& (255 : Int32)))] _
    refine XS.istoreN X0w.here hx rfl (dG hby D1 19 rfl) rfl (l' := #[vi p0, vi ((((p0.toUInt32 >>> ((16 : Int32) &&& 31).toUInt32).toInt32) &&& (32767 : Int32)) % (3 : Int32)), vi (p0 &&& (255 : Int32)), vi (((p0.toUInt32 >>> ((8 : Int32) &&& 31).toUInt32).toInt32) &&& (255 : Int32))]) rfl ?_
    refine XS.iloadN X0w.here hx rfl (dG hby D1 20 rfl) rfl ?_
    exact kt
  by_cases hc29_1 : ((((p0.toUInt32 >>> ((16 : Int32) &&& 31).toUInt32).toInt32) &&& (32767 : Int32)) % (3 : Int32)) = (0 : Int32)
  · obtain ⟨a3, T3, h3, k13, b3, kc3, X3, e3, E3, hS3, hk3, hZ3, hown3, A3, Fc3, Fv3, V3, la3, lb3, Rs3, Li3, nel3, st3⟩ := ldcCH X0w hx hZ hown (Wd hw 5 rfl) (own_wS hw) e0 hS0 (Nat.le_refl _) (own_EW hw) (List.mem_of_getElem? (i := 1) rfl) H0 (vs := []) (z := (0 : Int32)) ⟨by decide, by decide⟩ (by decide) rfl (g := (mkF m 32 #[vi p0, vi ((((p0.toUInt32 >>> ((16 : Int32) &&& 31).toUInt32).toInt32) &&& (32767 : Int32)) % (3 : Int32)), vi (p0 &&& (255 : Int32)), vi (((p0.toUInt32 >>> ((8 : Int32) &&& 31).toUInt32).toInt32) &&& (255 : Int32))] [])) rfl (dG hby D1 22 rfl) (n := 0) (by decide) (by decide) (by decide) (by decide)
    have H_4 := Rs3.1
    have R_4 := R0.trans Rs3
    have K3 : Keep h0 h3 [] := (Keep.refl h0 []).ext E3
    have O3 := O0.ext E3
    obtain ⟨fs, hr, hrun, hended, hRW⟩ := X3.leaveW hS3 (by rw [e3]; exact hk3) (v := some (.ref a3)) (fun h => by rw [Bd.returns] at h; cases h)
    have hCR : CHr Z EL1 s.vm s.heap T3.vm T3.heap := by
      rw [hh, e3]
      exact R_4.trans (CHv.at X3 hZ3 (own_EW hw) H_4)
    refine ⟨_, _, pre2 _ ?_, hrun, hended, _, _, rfl, ?_, hCR, hRW.1, hRW.2.1, hRW.2.2.1, hRW.2.2.2.mono (by decide) (by decide)⟩
    · show SP p e below s₁ m 29 #[vi p0, vi ((((p0.toUInt32 >>> ((16 : Int32) &&& 31).toUInt32).toInt32) &&& (32767 : Int32)) % (3 : Int32)), vi (p0 &&& (255 : Int32)), vi (((p0.toUInt32 >>> ((8 : Int32) &&& 31).toUInt32).toInt32) &&& (255 : Int32))] [(.int ((((p0.toUInt32 >>> ((16 : Int32) &&& 31).toUInt32).toInt32) &&& (32767 : Int32)) % (3 : Int32)))] _
      refine XS.ifNo X0w.here hx rfl (dG hby D1 21 rfl) rfl ((if0 _ _).trans (teq hc29_1).2) ?_
      show SP p e below s₁ m 32 #[vi p0, vi ((((p0.toUInt32 >>> ((16 : Int32) &&& 31).toUInt32).toInt32) &&& (32767 : Int32)) % (3 : Int32)), vi (p0 &&& (255 : Int32)), vi (((p0.toUInt32 >>> ((8 : Int32) &&& 31).toUInt32).toInt32) &&& (255 : Int32))] [] _
      refine st3 _ ?_
      show SP p e below T3 m 34 #[vi p0, vi ((((p0.toUInt32 >>> ((16 : Int32) &&& 31).toUInt32).toInt32) &&& (32767 : Int32)) % (3 : Int32)), vi (p0 &&& (255 : Int32)), vi (((p0.toUInt32 >>> ((8 : Int32) &&& 31).toUInt32).toInt32) &&& (255 : Int32))] [(.ref a3)] _
      exact retA X3 hx Bd.returns rfl (dG hby D1 23 rfl) hr
    · show Q_rmStr n0 Z cS aDE kDE aUS aSS aIE mO p0 h0 _ T3.heap _
      rw [e3]
      exact ⟨a3, b3, kc3, (0 : Int32), [], rfl, N0, K3, A3, Fv3, Fc3, V3, (by decide), (by decide)⟩
  · have pre6 : ∀ t, SP p e below s₁ m 37 #[vi p0, vi ((((p0.toUInt32 >>> ((16 : Int32) &&& 31).toUInt32).toInt32) &&& (32767 : Int32)) % (3 : Int32)), vi (p0 &&& (255 : Int32)), vi (((p0.toUInt32 >>> ((8 : Int32) &&& 31).toUInt32).toInt32) &&& (255 : Int32))] [(.int 1), (.int ((((p0.toUInt32 >>> ((16 : Int32) &&& 31).toUInt32).toInt32) &&& (32767 : Int32)) % (3 : Int32)))] t → Steps p.tables e below (s₁.setTop (entryFrame m #[(.int p0)] 4)) t := fun t kt => by
      refine pre2 t ?_
      show SP p e below s₁ m 29 #[vi p0, vi ((((p0.toUInt32 >>> ((16 : Int32) &&& 31).toUInt32).toInt32) &&& (32767 : Int32)) % (3 : Int32)), vi (p0 &&& (255 : Int32)), vi (((p0.toUInt32 >>> ((8 : Int32) &&& 31).toUInt32).toInt32) &&& (255 : Int32))] [(.int ((((p0.toUInt32 >>> ((16 : Int32) &&& 31).toUInt32).toInt32) &&& (32767 : Int32)) % (3 : Int32)))] _
      refine XS.ifYes X0w.here hx rfl (pc0 := 29) (pc' := 35) rfl (dG hby D1 21 rfl) rfl ((if0 _ _).trans (feq hc29_1).2) (by decide) (by decide) ?_
      refine XS.iloadN X0w.here hx rfl (dG hby D1 24 rfl) rfl ?_
      refine XS.iconst X0w.here hx rfl (dG hby D1 25 rfl) ?_
      exact kt
    by_cases hc37_5 : ((((p0.toUInt32 >>> ((16 : Int32) &&& 31).toUInt32).toInt32) &&& (32767 : Int32)) % (3 : Int32)) = (1 : Int32)
    · obtain ⟨_, _, ⟨T7, L7, k7, n7⟩, -, X7, ⟨Lc7, hQ7, l7, y7, z7⟩, st7⟩ := Jvm.LawKit.callS X0w hx (y := MN_71) hown (mvT hZ (Wd hw 433 rfl)) (mvT hZ (Wd hw 434 rfl)) (mvT hZ (Wd hw 6 rfl)) (mvT hZ (Wd hw 435 rfl)) (by decide) (backOf (W := 0) (rmVo l Z a0 hw [] cS aDE kDE aUS aSS aIE mO ((p0 &&& (255 : Int32))) h0 n0 O0 GL hq0) hZ (Wd hw 435 rfl) (Wd hw 6 rfl) (by decide) (by decide)) (g := (mkF m 41 #[vi p0, vi ((((p0.toUInt32 >>> ((16 : Int32) &&& 31).toUInt32).toInt32) &&& (32767 : Int32)) % (3 : Int32)), vi (p0 &&& (255 : Int32)), vi (((p0.toUInt32 >>> ((8 : Int32) &&& 31).toUInt32).toInt32) &&& (255 : Int32))] [(.int (p0 &&& (255 : Int32)))])) rfl (by rw [hml]; rfl) (argsL := [(.int (p0 &&& (255 : Int32)))]) (rest := []) (lenOf pdv38 rfl) rfl (by show 2 * 0 + _ ≤ _; exact lEq rfl) (dG hby D1 28 rfl) (fun _ _ => ⟨rfl, e0, (by decide : 0 + 2 ≤ _), (by decide : 0 + 5 ≤ _)⟩)
      dsimp only [Pt.U, Pt.locs, Pt.cells, Pt.slots] at X7 l7 y7 z7 st7 hQ7
      subst l7 y7 z7
      obtain ⟨bS_7, vS_7, kS_7, nS_7, lS_7, rfl, N7q, Kc7, P7_0, P7_1, P7_2, P7_3, P7_4, P7_5⟩ := hQ7
      have K7 : Keep h0 T7.heap [] := (Keep.refl h0 []).trans Kc7 all0
      have O7 := O0.keep Kc7 all0
      have H_8 := H0.keep Kc7 sf0
      have R_8 := R0.trans (CHr.keep Kc7 sf0 H0)
      have N7 := Fr.app N0 N7q
      obtain ⟨fs, hr, hrun, hended, hRW⟩ := X7.leaveW hS0 (lTr (Nat.le_refl _) Kc7.1) (v := some (.ref bS_7)) (fun h => by rw [Bd.returns] at h; cases h)
      have hCR : CHr Z EL1 s.vm s.heap T7.vm T7.heap := by
        rw [hh]
        exact R_8.trans (CHv.at X7 hZ (own_EW hw) H_8)
      refine ⟨_, _, pre6 _ ?_, hrun, hended, _, _, rfl, ?_, hCR, hRW.1, hRW.2.1, hRW.2.2.1, hRW.2.2.2.mono (by decide) (by decide)⟩
      · show SP p e below s₁ m 37 #[vi p0, vi ((((p0.toUInt32 >>> ((16 : Int32) &&& 31).toUInt32).toInt32) &&& (32767 : Int32)) % (3 : Int32)), vi (p0 &&& (255 : Int32)), vi (((p0.toUInt32 >>> ((8 : Int32) &&& 31).toUInt32).toInt32) &&& (255 : Int32))] [(.int 1), (.int ((((p0.toUInt32 >>> ((16 : Int32) &&& 31).toUInt32).toInt32) &&& (32767 : Int32)) % (3 : Int32)))] _
        refine XS.icmpNo X0w.here hx rfl (dG hby D1 26 rfl) rfl (teq hc37_5).2 ?_
        refine XS.iloadN X0w.here hx rfl (dG hby D1 27 rfl) rfl ?_
        show SP p e below s₁ m 41 #[vi p0, vi ((((p0.toUInt32 >>> ((16 : Int32) &&& 31).toUInt32).toInt32) &&& (32767 : Int32)) % (3 : Int32)), vi (p0 &&& (255 : Int32)), vi (((p0.toUInt32 >>> ((8 : Int32) &&& 31).toUInt32).toInt32) &&& (255 : Int32))] [(.int (p0 &&& (255 : Int32)))] _
        refine st7 _ ?_
        show SP p e below T7 m 44 #[vi p0, vi ((((p0.toUInt32 >>> ((16 : Int32) &&& 31).toUInt32).toInt32) &&& (32767 : Int32)) % (3 : Int32)), vi (p0 &&& (255 : Int32)), vi (((p0.toUInt32 >>> ((8 : Int32) &&& 31).toUInt32).toInt32) &&& (255 : Int32))] [(.ref bS_7)] _
        exact retA X7 hx Bd.returns rfl (dG hby D1 29 rfl) hr
      · show Q_rmStr n0 Z cS aDE kDE aUS aSS aIE mO p0 h0 _ T7.heap _
        exact ⟨bS_7, vS_7, kS_7, nS_7, lS_7, rfl, N7, K7, P7_0, P7_1, P7_2, P7_3, P7_4, P7_5⟩
    · obtain ⟨T9, h9, X9, e9, E9, A9, D9, -, st9⟩ := newO X0w hx hZ hown (Wd hw 415 rfl) (Wd hw 7 rfl) (Wd hw 6 rfl) e0 (g := (mkF m 45 #[vi p0, vi ((((p0.toUInt32 >>> ((16 : Int32) &&& 31).toUInt32).toInt32) &&& (32767 : Int32)) % (3 : Int32)), vi (p0 &&& (255 : Int32)), vi (((p0.toUInt32 >>> ((8 : Int32) &&& 31).toUInt32).toInt32) &&& (255 : Int32))] [])) rfl (dG hby D1 30 rfl) (by decide) (by decide)
      obtain ⟨b9, g9⟩ : ∃ z, z = h0.size := ⟨_, rfl⟩
      rw [← g9] at A9 D9 st9
      have g_b9 : n0 ≤ b9 := lTr (own_sz O0) (lEq g9.symm)
      have sz_b9 : h0.size ≤ b9 := lTr (Keep.refl h0 []).1 (lEq g9.symm)
      have H_10 := H0.ext E9
      have R_10 := R0.trans (CHr.ext E9 H0)
      have K9 : Keep h0 h9 [] := (Keep.refl h0 []).ext E9
      have O9 := O0.ext E9
      have F_value_b9 : Fld Z h9 b9 "java/lang/String" "value" "[B" .null := D9 (Or.inr (Wd hw 9 rfl)) (ty := (.array .byte)) (by decide)
      have F_coder_b9 : Fld Z h9 b9 "java/lang/String" "coder" "B" (.int 0) := D9 (Or.inr (Wd hw 10 rfl)) (ty := .byte) (by decide)
      obtain ⟨T11, h11, k11, X11, e11, E11, A11, A11', st11⟩ := newPE X9 hx hZ (Wd hw 416 rfl) e9 (g := (mkF m 50 #[vi p0, vi ((((p0.toUInt32 >>> ((16 : Int32) &&& 31).toUInt32).toInt32) &&& (32767 : Int32)) % (3 : Int32)), vi (p0 &&& (255 : Int32)), vi (((p0.toUInt32 >>> ((8 : Int32) &&& 31).toUInt32).toInt32) &&& (255 : Int32))] [(.int 2), (.ref b9), (.ref b9)])) rfl (dG hby D1 33 rfl) rfl (by decide) (cap := 2) (by decide) (by decide) (by decide) (by decide) (ad := "[C") rfl
      obtain ⟨b11, g11⟩ : ∃ z, z = h9.size := ⟨_, rfl⟩
      rw [← g11] at A11 A11' st11
      have g_b11 : n0 ≤ b11 := lTr (own_sz O9) (lEq g11.symm)
      have sz_b11 : h0.size ≤ b11 := lTr K9.1 (lEq g11.symm)
      have H_12 := H_10.ext E11
      have R_12 := R_10.trans (CHr.ext E11 H_10)
      have K11 : Keep h0 h11 [] := K9.ext E11
      have O11 := O9.ext E11
      have V_b11 : Arv Z h11 b11 k11 .char (2 : Int32) [(.int 0), (.int 0)] (.int 0) := (Arv.new A11 (by decide)).pad (pad_rep [] (.int 0) 2)
      obtain ⟨cl13, Ar13, q13, S13, N13_, H13, G13⟩ := id (V_b11)
      have hin13 : ¬ ((0 : Int32) < 0 ∨ cl13.slots.size ≤ ((0 : Int32)).toNatClampNeg) := inb_of S13 ⟨(by decide), (by decide)⟩
      obtain ⟨T13, h13, X13, e13, W13, st13⟩ := stC X11 hx hZ e11 Ar13 (j := (0 : Int32)) hin13 (g := (mkF m 55 #[vi p0, vi ((((p0.toUInt32 >>> ((16 : Int32) &&& 31).toUInt32).toInt32) &&& (32767 : Int32)) % (3 : Int32)), vi (p0 &&& (255 : Int32)), vi (((p0.toUInt32 >>> ((8 : Int32) &&& 31).toUInt32).toInt32) &&& (255 : Int32))] [(.int (p0 &&& (255 : Int32))), (.int 0), (.ref b11), (.ref b11), (.ref b9), (.ref b9)])) rfl rfl (dG hby D1 37 rfl)
      have Sf15 : Safe Z EL1 s.vm h11 b11 := Safe.exa (EL := EL1) hZ.alike A11' (by decide) (by decide)
      have H_14 := H_12.wr W13 Sf15
      have R_14 := R_12.trans (CHr.wr W13 Sf15 H_12)
      have K13 : Keep h0 h13 [] := K11.wr W13 (Or.inr sz_b11)
      have O13 := O11.wr W13 g_b11
      have N13 := Fr.snoc X13 N0 g_b11
      have V13' : Arv Z h13 b11 k11 .char (2 : Int32) [(.int (nar .char (p0 &&& (255 : Int32)))), (.int 0)] (.int 0) := Arv.set Ar13 q13 S13 N13_ H13 G13 (fits_nar_char _) W13 0 rfl (Nat.le_of_ble_eq_true rfl)
      have V13 : Arv Z h13 b11 k11 .char (2 : Int32) [(.int (p0 &&& (255 : Int32))), (.int 0)] (.int 0) := by
        rw [own_nar255 p0] at V13'
        exact V13'
      obtain ⟨cl16, Ar16, q16, S16, N16_, H16, G16⟩ := id (V13)
      have hin16 : ¬ ((1 : Int32) < 0 ∨ cl16.slots.size ≤ ((1 : Int32)).toNatClampNeg) := inb_of S16 ⟨(by decide), (by decide)⟩
      obtain ⟨T16, h16, X16, e16, W16, st16⟩ := stC X13 hx hZ e13 Ar16 (j := (1 : Int32)) hin16 (g := (mkF m 59 #[vi p0, vi ((((p0.toUInt32 >>> ((16 : Int32) &&& 31).toUInt32).toInt32) &&& (32767 : Int32)) % (3 : Int32)), vi (p0 &&& (255 : Int32)), vi (((p0.toUInt32 >>> ((8 : Int32) &&& 31).toUInt32).toInt32) &&& (255 : Int32))] [(.int (((p0.toUInt32 >>> ((8 : Int32) &&& 31).toUInt32).toInt32) &&& (255 : Int32))), (.int 1), (.ref b11), (.ref b11), (.ref b9), (.ref b9)])) rfl rfl (dG hby D1 41 rfl)
      have Sf18 : Safe Z EL1 s.vm h13 b11 := Safe.exa (EL := EL1) hZ.alike (A11'.wr W13) (by decide) (by decide)
      have H_17 := H_14.wr W16 Sf18
      have R_17 := R_14.trans (CHr.wr W16 Sf18 H_14)
      have K16 : Keep h0 h16 [] := K13.wr W16 (Or.inr sz_b11)
      have O16 := O13.wr W16 g_b11
      have N16 := Fr.snoc X16 N13 g_b11
      have V16' : Arv Z h16 b11 k11 .char (2 : Int32) [(.int (p0 &&& (255 : Int32))), (.int (nar .char (((p0.toUInt32 >>> ((8 : Int32) &&& 31).toUInt32).toInt32) &&& (255 : Int32))))] (.int 0) := Arv.set Ar16 q16 S16 N16_ H16 G16 (fits_nar_char _) W16 1 rfl (Nat.le_of_ble_eq_true rfl)
      have V16 : Arv Z h16 b11 k11 .char (2 : Int32) [(.int (p0 &&& (255 : Int32))), (.int (((p0.toUInt32 >>> ((8 : Int32) &&& 31).toUInt32).toInt32) &&& (255 : Int32)))] (.int 0) := by
        rw [own_nar255 ((p0.toUInt32 >>> ((8 : Int32) &&& 31).toUInt32).toInt32)] at V16'
        exact V16'
      obtain ⟨_, _, ⟨T19, L19, k19, n19⟩, -, X19, ⟨Lc19, hQ19, l19, y19, z19⟩, st19⟩ := X16.specialBack hx (y := MN_4) rfl hown (mvT hZ (Wd hw 417 rfl)) (mvT hZ (Wd hw 418 rfl)) (mvT hZ (Wd hw 419 rfl)) (by decide) (backOf (W := 1) (rmIc_2 l Z a0 hw [] cS aDE kDE aUS aSS aIE mO b9 b11 k11 ((p0 &&& (255 : Int32))) ((((p0.toUInt32 >>> ((8 : Int32) &&& 31).toUInt32).toInt32) &&& (255 : Int32))) h16 n0 O16 GL (((A9.ext E11).wr W13).wr W16) (((F_value_b9.ext E11).other W13 (Or.inl (nLt (lLt A9.lt (lEq g11.symm))))).other W16 (Or.inl (nLt (lLt A9.lt (lEq g11.symm))))) (((F_coder_b9.ext E11).other W13 (Or.inl (nLt (lLt A9.lt (lEq g11.symm))))).other W16 (Or.inl (nLt (lLt A9.lt (lEq g11.symm))))) g_b9 V16 hq0 hq1) hZ (Wd hw 419 rfl) (Wd hw 6 rfl) (by decide) (by decide)) (g := (mkF m 60 #[vi p0, vi ((((p0.toUInt32 >>> ((16 : Int32) &&& 31).toUInt32).toInt32) &&& (32767 : Int32)) % (3 : Int32)), vi (p0 &&& (255 : Int32)), vi (((p0.toUInt32 >>> ((8 : Int32) &&& 31).toUInt32).toInt32) &&& (255 : Int32))] [(.ref b11), (.ref b9), (.ref b9)])) rfl (by rw [hml]; rfl) (Steps.refl _) (a := b9) (argsL := [(.ref b11)]) (rest := [(.ref b9)]) (lenOf pdv39 rfl) rfl (by show 2 * 0 + _ ≤ _; exact lEq rfl) (dG hby D1 42 rfl) (fun _ _ => ⟨rfl, e16, (by decide : 2 + 1 ≤ _), (by decide : 6 + 2 ≤ _)⟩)
      dsimp only [Pt.U, Pt.locs, Pt.cells, Pt.slots] at X19 l19 y19 z19 st19 hQ19
      subst l19 y19 z19
      obtain ⟨b_19, kb_19, rfl, N19q, Kc19, P19_0, P19_1, P19_2, P19_3, P19_4, P19_5⟩ := hQ19
      have K19 : Keep h0 T19.heap [] := K16.trans Kc19 (allS (Or.inr sz_b9) all0)
      have O19 := O16.keep Kc19 (allS g_b9 all0)
      have Sf21 : Safe Z EL1 s.vm h16 b9 := (Safe.wr W16 Sf18 H_14 (Safe.wr W13 Sf15 H_12 (Safe.ext E11 H_10 (Safe.ext E9 H0 (Safe.new (Z := Z) (EL := EL1) (vm := s.vm) (lEq g9.symm))))))
      have H_20 := H_17.keep Kc19 (sfS Sf21 sf0)
      have R_20 := R_17.trans (CHr.keep Kc19 (sfS Sf21 sf0) H_17)
      have g_b_19 : n0 ≤ b_19 := lTr (own_sz O16) P19_0
      have sz_b_19 : h0.size ≤ b_19 := lTr K16.1 P19_0
      have N19 := Fr.app N16 N19q
      obtain ⟨fs, hr, hrun, hended, hRW⟩ := X19.leaveW hS0 (lTr (lTr (lTr (lTr (lTr (Nat.le_refl _) E9.1) E11.1) (Keep.of_wr W13).1) (Keep.of_wr W16).1) Kc19.1) (v := some (.ref b9)) (fun h => by rw [Bd.returns] at h; cases h)
      have hCR : CHr Z EL1 s.vm s.heap T19.vm T19.heap := by
        rw [hh]
        exact R_20.trans (CHv.at X19 hZ (own_EW hw) H_20)
      refine ⟨_, _, pre6 _ ?_, hrun, hended, _, _, rfl, ?_, hCR, hRW.1, hRW.2.1, hRW.2.2.1, hRW.2.2.2.mono (by decide) (by decide)⟩
      · show SP p e below s₁ m 37 #[vi p0, vi ((((p0.toUInt32 >>> ((16 : Int32) &&& 31).toUInt32).toInt32) &&& (32767 : Int32)) % (3 : Int32)), vi (p0 &&& (255 : Int32)), vi (((p0.toUInt32 >>> ((8 : Int32) &&& 31).toUInt32).toInt32) &&& (255 : Int32))] [(.int 1), (.int ((((p0.toUInt32 >>> ((16 : Int32) &&& 31).toUInt32).toInt32) &&& (32767 : Int32)) % (3 : Int32)))] _
        refine XS.icmpYes X0w.here hx rfl (pc0 := 37) (pc' := 45) rfl (dG hby D1 26 rfl) rfl (feq hc37_5).2 (by decide) (by decide) ?_
        show SP p e below s₁ m 45 #[vi p0, vi ((((p0.toUInt32 >>> ((16 : Int32) &&& 31).toUInt32).toInt32) &&& (32767 : Int32)) % (3 : Int32)), vi (p0 &&& (255 : Int32)), vi (((p0.toUInt32 >>> ((8 : Int32) &&& 31).toUInt32).toInt32) &&& (255 : Int32))] [] _
        refine st9 _ ?_
        show SP p e below T9 m 48 #[vi p0, vi ((((p0.toUInt32 >>> ((16 : Int32) &&& 31).toUInt32).toInt32) &&& (32767 : Int32)) % (3 : Int32)), vi (p0 &&& (255 : Int32)), vi (((p0.toUInt32 >>> ((8 : Int32) &&& 31).toUInt32).toInt32) &&& (255 : Int32))] [(.ref b9)] _
        refine XS.dup X9.here hx rfl (dG hby D1 31 rfl) rfl rfl ?_
        refine XS.iconst X9.here hx rfl (dG hby D1 32 rfl) ?_
        show SP p e below T9 m 50 #[vi p0, vi ((((p0.toUInt32 >>> ((16 : Int32) &&& 31).toUInt32).toInt32) &&& (32767 : Int32)) % (3 : Int32)), vi (p0 &&& (255 : Int32)), vi (((p0.toUInt32 >>> ((8 : Int32) &&& 31).toUInt32).toInt32) &&& (255 : Int32))] [(.int 2), (.ref b9), (.ref b9)] _
        refine st11 _ ?_
        show SP p e below T11 m 52 #[vi p0, vi ((((p0.toUInt32 >>> ((16 : Int32) &&& 31).toUInt32).toInt32) &&& (32767 : Int32)) % (3 : Int32)), vi (p0 &&& (255 : Int32)), vi (((p0.toUInt32 >>> ((8 : Int32) &&& 31).toUInt32).toInt32) &&& (255 : Int32))] [(.ref b11), (.ref b9), (.ref b9)] _
        refine XS.dup X11.here hx rfl (dG hby D1 34 rfl) rfl rfl ?_
        refine XS.iconst X11.here hx rfl (dG hby D1 35 rfl) ?_
        refine XS.iloadN X11.here hx rfl (dG hby D1 36 rfl) rfl ?_
        show SP p e below T11 m 55 #[vi p0, vi ((((p0.toUInt32 >>> ((16 : Int32) &&& 31).toUInt32).toInt32) &&& (32767 : Int32)) % (3 : Int32)), vi (p0 &&& (255 : Int32)), vi (((p0.toUInt32 >>> ((8 : Int32) &&& 31).toUInt32).toInt32) &&& (255 : Int32))] [(.int (p0 &&& (255 : Int32))), (.int 0), (.ref b11), (.ref b11), (.ref b9), (.ref b9)] _
        refine st13 _ ?_
        show SP p e below T13 m 56 #[vi p0, vi ((((p0.toUInt32 >>> ((16 : Int32) &&& 31).toUInt32).toInt32) &&& (32767 : Int32)) % (3 : Int32)), vi (p0 &&& (255 : Int32)), vi (((p0.toUInt32 >>> ((8 : Int32) &&& 31).toUInt32).toInt32) &&& (255 : Int32))] [(.ref b11), (.ref b9), (.ref b9)] _
        refine XS.dup X13.here hx rfl (dG hby D1 38 rfl) rfl rfl ?_
        refine XS.iconst X13.here hx rfl (dG hby D1 39 rfl) ?_
        refine XS.iloadN X13.here hx rfl (dG hby D1 40 rfl) rfl ?_
        show SP p e below T13 m 59 #[vi p0, vi ((((p0.toUInt32 >>> ((16 : Int32) &&& 31).toUInt32).toInt32) &&& (32767 : Int32)) % (3 : Int32)), vi (p0 &&& (255 : Int32)), vi (((p0.toUInt32 >>> ((8 : Int32) &&& 31).toUInt32).toInt32) &&& (255 : Int32))] [(.int (((p0.toUInt32 >>> ((8 : Int32) &&& 31).toUInt32).toInt32) &&& (255 : Int32))), (.int 1), (.ref b11), (.ref b11), (.ref b9), (.ref b9)] _
        refine st16 _ ?_
        show SP p e below T16 m 60 #[vi p0, vi ((((p0.toUInt32 >>> ((16 : Int32) &&& 31).toUInt32).toInt32) &&& (32767 : Int32)) % (3 : Int32)), vi (p0 &&& (255 : Int32)), vi (((p0.toUInt32 >>> ((8 : Int32) &&& 31).toUInt32).toInt32) &&& (255 : Int32))] [(.ref b11), (.ref b9), (.ref b9)] _
        refine st19.trans ?_
        show SP p e below T19 m 63 #[vi p0, vi ((((p0.toUInt32 >>> ((16 : Int32) &&& 31).toUInt32).toInt32) &&& (32767 : Int32)) % (3 : Int32)), vi (p0 &&& (255 : Int32)), vi (((p0.toUInt32 >>> ((8 : Int32) &&& 31).toUInt32).toInt32) &&& (255 : Int32))] [(.ref b9)] _
        exact retA X19 hx Bd.returns rfl (dG hby D1 43 rfl) hr
      · show Q_rmStr n0 Z cS aDE kDE aUS aSS aIE mO p0 h0 _ T19.heap _
        exact ⟨b9, b_19, kb_19, (2 : Int32), [(.int ((p0 &&& (255 : Int32)).toInt8.toInt32)), (.int ((((p0.toUInt32 >>> ((8 : Int32) &&& 31).toUInt32).toInt32) &&& (255 : Int32)).toInt8.toInt32))], rfl, N19, K19, P19_2, P19_3, P19_4, P19_5, (by decide), (by decide)⟩
theorem pdv40 : parseMethodDescriptor "(I)Ljava/lang/String;" = some ⟨[.int], some (.object "java/lang/String")⟩ := by decide +kernel
theorem pdv41 : parseMethodDescriptor "(Ljava/lang/String;Ljava/lang/String;)V" = some ⟨[(.object "java/lang/String"), (.object "java/lang/String")], none⟩ := by decide +kernel
theorem pdv42 : parseMethodDescriptor "(Ljava/lang/Object;)Z" = some ⟨[(.object "java/lang/Object")], some .boolean⟩ := by decide +kernel
theorem pdv43 : parseMethodDescriptor "(Ljava/util/List;)V" = some ⟨[(.object "java/util/List")], none⟩ := by decide +kernel
theorem ef_rm0 (m : MethodId) (p0 : Int32) (p1 : Int32) (p2 : Int32) (p3 : Int32) (p4 : Int32) (p5 : Int32) : entryFrame m #[(.int p0), (.int p1), (.int p2), (.int p3), (.int p4), (.int p5)] maxLocals = mkF m 0 #[vi p0, vi p1, vi p2, vi p3, vi p4, vi p5, .unset, .unset, .unset, .unset, .unset, .unset, .unset, .unset, .unset, .unset] [] := by first | (simp [entryFrame, mkF, argsToLocals, Value.category, maxLocals]; done) | rfl
def Q_rm0 (n0 : Nat) (v : Option Value) (h : Heap) (L : List Loc) : Prop := v = some (.int 1) ∧ Fr n0 L
theorem rm0 (l : Launch) (Z : State) (a0 : Array Value) (hw : ∀ d ∈ tables_1, d.before a0 Z = true) (ws : List Jvm.Cond) (hlt : l.stackTraces = true) (cS : Int32) (aDE : Addr) (kDE : ClassId) (aUS : Addr) (aSS : Addr) (aIE : Addr) (mO : Addr) (p0 : Int32) (p1 : Int32) (p2 : Int32) (p3 : Int32) (p4 : Int32) (p5 : Int32) (h0 : Heap) (n0 : Nat) (O0 : Old Z n0 h0) (GL : GF Z cS aDE kDE aUS aSS aIE mO) :
    MetFree l x (head1 (Jvm.Cond.code x code maxLocals ret :: ws) room_1) (fun a U => a = #[(.int p0), (.int p1), (.int p2), (.int p3), (.int p4), (.int p5)] ∧ Z.Warmed39 U.vm ∧ U.heap = h0 ∧ CHv Z EL1 U.vm h0) (fun _ _ bl s _ => s.vm.MethodsKnown ∧ s.vm.FramesKnown bl) (fun _ U o U' => ∃ v L, o = .returned v ∧ Q_rm0 n0 v U'.heap L ∧ CHr Z EL1 U.vm U.heap U'.vm U'.heap ∧ ReturnedEndW U o U' L room_1.cells room_1.slots) := by
  refine MetFree.of_bodySF (plainFor_of_name pnv22) hisR ?_
  intro p e s m args below meth c s₁ Bd hml0 hP hK
  obtain ⟨rfl, hZ, hh, H0⟩ := hP
  have hx := Bd.exec
  have hby := Bd.bytes
  have hml : c.maxLocals = 16 := hml0
  have hown : s.vm.findClass "com/example/grantline/grantline/PolicyExceptionProblemPinLaw" = some m.cls := findClass_of_methodNamed Bd.named
  have hnm := (name_of_methodNamed Bd.named Bd.method).1
  have X0 : Stand p l e room_1 s m #[(.int p0), (.int p1), (.int p2), (.int p3), (.int p4), (.int p5)] below meth c s₁ [] 0 0 := Stand.of_body Bd
  have e0 : s₁.heap = h0 := by rw [← hh, Bd.state]; rfl
  have N0 := Fr.nil n0
  have pre0 : ∀ t, SP p e below s₁ m 0 #[vi p0, vi p1, vi p2, vi p3, vi p4, vi p5, .unset, .unset, .unset, .unset, .unset, .unset, .unset, .unset, .unset, .unset] [] t → Steps p.tables e below (s₁.setTop (entryFrame m #[(.int p0), (.int p1), (.int p2), (.int p3), (.int p4), (.int p5)] maxLocals)) t := fun t k => castTop (ef_rm0 m p0 p1 p2 p3 p4 p5) k
  obtain ⟨hTK, hBW⟩ := hK
  have X0w : Stand p l e room_1 (s.setVm s.vm) m #[(.int p0), (.int p1), (.int p2), (.int p3), (.int p4), (.int p5)] below meth c s₁ [] 0 0 := X0
  have R0 : CHr Z EL1 s.vm h0 s.vm h0 := CHr.refl H0
  have hS0 : s.Since s.vm h0.size := (State.WarmedH.refl s).since _
  have GL' := GL
  obtain ⟨GCS, GCP, GDE, GVE, GUS, GSS, GIE, GMO⟩ := GL'
  obtain ⟨_, _, ⟨T1, L1, k1, n1⟩, -, X1', hS1', hg1, ⟨Lc1, hQ1, l1, y1, z1, Rs1⟩, st1⟩ := callSS X0w hx (y := MN_72) hown (mvT hZ (Wd hw 1 rfl)) (mvT hZ (Wd hw 2 rfl)) (mvT hZ (Wd hw 3 rfl)) (mvT hZ (Wd hw 4 rfl)) (by decide) (backOfSH (W := 0) (rmStr l Z a0 hw [] cS aDE kDE aUS aSS aIE mO p0 h0 n0 O0 GL) hZ (Wd hw 4 rfl) (Wd hw 3 rfl) (by decide) (by decide) (own_EW hw) H0) (g := mkF m 12 #[vi p0, vi p1, vi p2, vi p3, vi p4, vi p5, vi (((p5 &&& (2147483647 : Int32)) % (3 : Int32)) + (1 : Int32)), .unset, .unset, .unset, .unset, .unset, .unset, .unset, .unset, .unset] [(.int p0)]) rfl (by rw [hml]; rfl) (argsL := [(.int p0)]) (rest := []) (lenOf pdv40 rfl) rfl (by show 2 * 0 + _ ≤ _; exact lEq rfl) (hb hby at_12) (fun _ _ => ⟨rfl, e0, (by decide : 0 + 3 ≤ _), (by decide : 0 + 8 ≤ _)⟩)
  dsimp only [Pt.U, Pt.locs, Pt.cells, Pt.slots] at X1' l1 y1 z1 st1 hQ1 hS1' hg1 Rs1
  subst l1 y1 z1
  obtain ⟨X1, hS1, hZ1, hown1⟩ := rebS hS0 (by rw [e0]; exact (Nat.le_refl _)) X1' hS1' hg1 hZ hown
  obtain ⟨bS_1, vS_1, kS_1, nS_1, lS_1, rfl, N1q, Kc1, P1_0, P1_1, P1_2, P1_3, P1_4, P1_5⟩ := hQ1
  have O1 := O0.keep Kc1 all0
  have H_2 := Rs1.1
  have R_2 := R0.trans Rs1
  have N1 := Fr.app N0 N1q
  obtain ⟨_, _, ⟨T3, L3, k3, n3⟩, -, X3', hS3', hg3, ⟨Lc3, hQ3, l3, y3, z3, Rs3⟩, st3⟩ := callSS X1 hx (y := MN_72) hown1 (mvT hZ1 (Wd hw 1 rfl)) (mvT hZ1 (Wd hw 2 rfl)) (mvT hZ1 (Wd hw 3 rfl)) (mvT hZ1 (Wd hw 4 rfl)) (by decide) (backOfSH (W := 0) (rmStr l Z a0 hw [] cS aDE kDE aUS aSS aIE mO p1 (T1.heap) n0 O1 GL) hZ1 (Wd hw 4 rfl) (Wd hw 3 rfl) (by decide) (by decide) (own_EW hw) H_2) (g := mkF m 18 #[vi p0, vi p1, vi p2, vi p3, vi p4, vi p5, vi (((p5 &&& (2147483647 : Int32)) % (3 : Int32)) + (1 : Int32)), vr bS_1, .unset, .unset, .unset, .unset, .unset, .unset, .unset, .unset] [(.int p1)]) rfl (by rw [hml]; rfl) (argsL := [(.int p1)]) (rest := []) (lenOf pdv40 rfl) rfl (by show 2 * 0 + _ ≤ _; exact lEq rfl) (hb hby at_18) (fun _ _ => ⟨rfl, rfl, (by decide : 3 + 3 ≤ _), (by decide : 8 + 8 ≤ _)⟩)
  dsimp only [Pt.U, Pt.locs, Pt.cells, Pt.slots] at X3' l3 y3 z3 st3 hQ3 hS3' hg3 Rs3
  subst l3 y3 z3
  obtain ⟨X3, hS3, hZ3, hown3⟩ := rebS hS1 (Nat.le_refl _) X3' hS3' hg3 hZ1 hown1
  obtain ⟨bS_3, vS_3, kS_3, nS_3, lS_3, rfl, N3q, Kc3, P3_0, P3_1, P3_2, P3_3, P3_4, P3_5⟩ := hQ3
  have O3 := O1.keep Kc3 all0
  have H_4 := Rs3.1
  have R_4 := R_2.trans Rs3
  have N3 := Fr.app N1 N3q
  obtain ⟨_, _, ⟨T5, L5, k5, n5⟩, -, X5', hS5', hg5, ⟨Lc5, hQ5, l5, y5, z5, Rs5⟩, st5⟩ := callSS X3 hx (y := MN_72) hown3 (mvT hZ3 (Wd hw 1 rfl)) (mvT hZ3 (Wd hw 2 rfl)) (mvT hZ3 (Wd hw 3 rfl)) (mvT hZ3 (Wd hw 4 rfl)) (by decide) (backOfSH (W := 0) (rmStr l Z a0 hw [] cS aDE kDE aUS aSS aIE mO p2 (T3.heap) n0 O3 GL) hZ3 (Wd hw 4 rfl) (Wd hw 3 rfl) (by decide) (by decide) (own_EW hw) H_4) (g := mkF m 24 #[vi p0, vi p1, vi p2, vi p3, vi p4, vi p5, vi (((p5 &&& (2147483647 : Int32)) % (3 : Int32)) + (1 : Int32)), vr bS_1, vr bS_3, .unset, .unset, .unset, .unset, .unset, .unset, .unset] [(.int p2)]) rfl (by rw [hml]; rfl) (argsL := [(.int p2)]) (rest := []) (lenOf pdv40 rfl) rfl (by show 2 * 0 + _ ≤ _; exact lEq rfl) (hb hby at_24) (fun _ _ => ⟨rfl, rfl, (by decide : 6 + 3 ≤ _), (by decide : 16 + 8 ≤ _)⟩)
  dsimp only [Pt.U, Pt.locs, Pt.cells, Pt.slots] at X5' l5 y5 z5 st5 hQ5 hS5' hg5 Rs5
  subst l5 y5 z5
  obtain ⟨X5, hS5, hZ5, hown5⟩ := rebS hS3 (Nat.le_refl _) X5' hS5' hg5 hZ3 hown3
  obtain ⟨bS_5, vS_5, kS_5, nS_5, lS_5, rfl, N5q, Kc5, P5_0, P5_1, P5_2, P5_3, P5_4, P5_5⟩ := hQ5
  have O5 := O3.keep Kc5 all0
  have H_6 := Rs5.1
  have R_6 := R_4.trans Rs5
  have N5 := Fr.app N3 N5q
  obtain ⟨_, _, ⟨T7, L7, k7, n7⟩, -, X7', hS7', hg7, ⟨Lc7, hQ7, l7, y7, z7, Rs7⟩, st7⟩ := callSS X5 hx (y := MN_72) hown5 (mvT hZ5 (Wd hw 1 rfl)) (mvT hZ5 (Wd hw 2 rfl)) (mvT hZ5 (Wd hw 3 rfl)) (mvT hZ5 (Wd hw 4 rfl)) (by decide) (backOfSH (W := 0) (rmStr l Z a0 hw [] cS aDE kDE aUS aSS aIE mO p3 (T5.heap) n0 O5 GL) hZ5 (Wd hw 4 rfl) (Wd hw 3 rfl) (by decide) (by decide) (own_EW hw) H_6) (g := mkF m 30 #[vi p0, vi p1, vi p2, vi p3, vi p4, vi p5, vi (((p5 &&& (2147483647 : Int32)) % (3 : Int32)) + (1 : Int32)), vr bS_1, vr bS_3, vr bS_5, .unset, .unset, .unset, .unset, .unset, .unset] [(.int p3)]) rfl (by rw [hml]; rfl) (argsL := [(.int p3)]) (rest := []) (lenOf pdv40 rfl) rfl (by show 2 * 0 + _ ≤ _; exact lEq rfl) (hb hby at_30) (fun _ _ => ⟨rfl, rfl, (by decide : 9 + 3 ≤ _), (by decide : 24 + 8 ≤ _)⟩)
  dsimp only [Pt.U, Pt.locs, Pt.cells, Pt.slots] at X7' l7 y7 z7 st7 hQ7 hS7' hg7 Rs7
  subst l7 y7 z7
  obtain ⟨X7, hS7, hZ7, hown7⟩ := rebS hS5 (Nat.le_refl _) X7' hS7' hg7 hZ5 hown5
  obtain ⟨bS_7, vS_7, kS_7, nS_7, lS_7, rfl, N7q, Kc7, P7_0, P7_1, P7_2, P7_3, P7_4, P7_5⟩ := hQ7
  have O7 := O5.keep Kc7 all0
  have H_8 := Rs7.1
  have R_8 := R_6.trans Rs7
  have N7 := Fr.app N5 N7q
  obtain ⟨_, _, ⟨T9, L9, k9, n9⟩, -, X9', hS9', hg9, ⟨Lc9, hQ9, l9, y9, z9, Rs9⟩, st9⟩ := callSS X7 hx (y := MN_72) hown7 (mvT hZ7 (Wd hw 1 rfl)) (mvT hZ7 (Wd hw 2 rfl)) (mvT hZ7 (Wd hw 3 rfl)) (mvT hZ7 (Wd hw 4 rfl)) (by decide) (backOfSH (W := 0) (rmStr l Z a0 hw [] cS aDE kDE aUS aSS aIE mO (((p2.toUInt32 >>> ((8 : Int32) &&& 31).toUInt32).toInt32)) (T7.heap) n0 O7 GL) hZ7 (Wd hw 4 rfl) (Wd hw 3 rfl) (by decide) (by decide) (own_EW hw) H_8) (g := (mkF m 39 #[vi p0, vi p1, vi p2, vi p3, vi p4, vi p5, vi (((p5 &&& (2147483647 : Int32)) % (3 : Int32)) + (1 : Int32)), vr bS_1, vr bS_3, vr bS_5, vr bS_7, .unset, .unset, .unset, .unset, .unset] [(.int ((p2.toUInt32 >>> ((8 : Int32) &&& 31).toUInt32).toInt32))])) rfl (by rw [hml]; rfl) (argsL := [(.int ((p2.toUInt32 >>> ((8 : Int32) &&& 31).toUInt32).toInt32))]) (rest := []) (lenOf pdv40 rfl) rfl (by show 2 * 0 + _ ≤ _; exact lEq rfl) (hb hby at_39) (fun _ _ => ⟨rfl, rfl, (by decide : 12 + 3 ≤ _), (by decide : 32 + 8 ≤ _)⟩)
  dsimp only [Pt.U, Pt.locs, Pt.cells, Pt.slots] at X9' l9 y9 z9 st9 hQ9 hS9' hg9 Rs9
  subst l9 y9 z9
  obtain ⟨X9, hS9, hZ9, hown9⟩ := rebS hS7 (Nat.le_refl _) X9' hS9' hg9 hZ7 hown7
  obtain ⟨bS_9, vS_9, kS_9, nS_9, lS_9, rfl, N9q, Kc9, P9_0, P9_1, P9_2, P9_3, P9_4, P9_5⟩ := hQ9
  have O9 := O7.keep Kc9 all0
  have H_10 := Rs9.1
  have R_10 := R_8.trans Rs9
  have N9 := Fr.app N7 N9q
  obtain ⟨_, _, ⟨T11, L11, k11, n11⟩, -, X11', hS11', hg11, ⟨Lc11, hQ11, l11, y11, z11, Rs11⟩, st11⟩ := callSS X9 hx (y := MN_72) hown9 (mvT hZ9 (Wd hw 1 rfl)) (mvT hZ9 (Wd hw 2 rfl)) (mvT hZ9 (Wd hw 3 rfl)) (mvT hZ9 (Wd hw 4 rfl)) (by decide) (backOfSH (W := 0) (rmStr l Z a0 hw [] cS aDE kDE aUS aSS aIE mO p4 (T9.heap) n0 O9 GL) hZ9 (Wd hw 4 rfl) (Wd hw 3 rfl) (by decide) (by decide) (own_EW hw) H_10) (g := mkF m 46 #[vi p0, vi p1, vi p2, vi p3, vi p4, vi p5, vi (((p5 &&& (2147483647 : Int32)) % (3 : Int32)) + (1 : Int32)), vr bS_1, vr bS_3, vr bS_5, vr bS_7, vr bS_9, .unset, .unset, .unset, .unset] [(.int p4)]) rfl (by rw [hml]; rfl) (argsL := [(.int p4)]) (rest := []) (lenOf pdv40 rfl) rfl (by show 2 * 0 + _ ≤ _; exact lEq rfl) (hb hby at_46) (fun _ _ => ⟨rfl, rfl, (by decide : 15 + 3 ≤ _), (by decide : 40 + 8 ≤ _)⟩)
  dsimp only [Pt.U, Pt.locs, Pt.cells, Pt.slots] at X11' l11 y11 z11 st11 hQ11 hS11' hg11 Rs11
  subst l11 y11 z11
  obtain ⟨X11, hS11, hZ11, hown11⟩ := rebS hS9 (Nat.le_refl _) X11' hS11' hg11 hZ9 hown9
  obtain ⟨bS_11, vS_11, kS_11, nS_11, lS_11, rfl, N11q, Kc11, P11_0, P11_1, P11_2, P11_3, P11_4, P11_5⟩ := hQ11
  have O11 := O9.keep Kc11 all0
  have H_12 := Rs11.1
  have R_12 := R_10.trans Rs11
  have N11 := Fr.app N9 N11q
  obtain ⟨T13, h13, X13, e13, E13, A13, D13, -, st13⟩ := newO X11 hx hZ11 hown11 (Wd hw 13 rfl) (Wd hw 14 rfl) (Wd hw 15 rfl) rfl (g := mkF m 51 #[vi p0, vi p1, vi p2, vi p3, vi p4, vi p5, vi (((p5 &&& (2147483647 : Int32)) % (3 : Int32)) + (1 : Int32)), vr bS_1, vr bS_3, vr bS_5, vr bS_7, vr bS_9, vr bS_11, .unset, .unset, .unset] []) rfl (hb hby at_51) (by decide) (by decide)
  obtain ⟨b13, g13⟩ : ∃ z, z = T11.heap.size := ⟨_, rfl⟩
  rw [← g13] at A13 D13 st13
  have g_b13 : n0 ≤ b13 := lTr (own_sz O11) (lEq g13.symm)
  have H_14 := H_12.ext E13
  have R_14 := R_12.trans (CHr.ext E13 H_12)
  have O13 := O11.ext E13
  have F_modCount_b13 : Fld Z h13 b13 "java/util/AbstractList" "modCount" "I" (.int 0) := D13 (Or.inl (Wd hw 35 rfl)) (ty := .int) (by decide)
  have F_elementData_b13 : Fld Z h13 b13 "java/util/ArrayList" "elementData" "[Ljava/lang/Object;" .null := D13 (Or.inl (Wd hw 38 rfl)) (ty := (.array (.object "java/lang/Object"))) (by decide)
  have F_size_b13 : Fld Z h13 b13 "java/util/ArrayList" "size" "I" (.int 0) := D13 (Or.inl (Wd hw 63 rfl)) (ty := .int) (by decide)
  obtain ⟨_, _, ⟨T15, L15, k15, n15⟩, -, X15, ⟨Lc15, hQ15, l15, y15, z15⟩, st15⟩ := X13.specialBack hx (y := MN_32) rfl hown11 (mvT hZ11 (Wd hw 16 rfl)) (mvT hZ11 (Wd hw 17 rfl)) (mvT hZ11 (Wd hw 18 rfl)) (by decide) (backOf (W := 1) (rmLi l Z a0 hw [] cS aDE kDE aUS aSS aIE mO b13 h13 n0 O13 GL A13 F_elementData_b13 F_size_b13 F_modCount_b13 g_b13) hZ11 (Wd hw 18 rfl) (Wd hw 15 rfl) (by decide) (by decide)) (g := mkF m 55 #[vi p0, vi p1, vi p2, vi p3, vi p4, vi p5, vi (((p5 &&& (2147483647 : Int32)) % (3 : Int32)) + (1 : Int32)), vr bS_1, vr bS_3, vr bS_5, vr bS_7, vr bS_9, vr bS_11, .unset, .unset, .unset] [(.ref b13), (.ref b13)]) rfl (by rw [hml]; rfl) (Steps.refl _) (a := b13) (argsL := []) (rest := [(.ref b13)]) (lenOf pdv18 rfl) rfl (by show 2 * 0 + _ ≤ _; exact lEq rfl) (hb hby at_55) (fun _ _ => ⟨rfl, e13, (by decide : 19 + 0 ≤ _), (by decide : 51 + 0 ≤ _)⟩)
  dsimp only [Pt.U, Pt.locs, Pt.cells, Pt.slots] at X15 l15 y15 z15 st15 hQ15
  subst l15 y15 z15
  obtain ⟨rfl, N15q, Kc15, P15_0, P15_1, P15_2, P15_3⟩ := hQ15
  have O15 := O13.keep Kc15 (allS g_b13 all0)
  have Sf17 : Safe Z EL1 T11.vm h13 b13 := Safe.exa (EL := EL1) hZ11.alike A13 (by decide) (by decide)
  have H_16 := H_14.keep Kc15 (sfS Sf17 sf0)
  have R_16 := R_14.trans (CHr.keep Kc15 (sfS Sf17 sf0) H_14)
  have N15 := Fr.app N11 N15q
  obtain ⟨T18, h18, X18, e18, E18, A18, D18, -, st18⟩ := newO X15 hx hZ11 hown11 (Wd hw 39 rfl) (Wd hw 40 rfl) (Wd hw 41 rfl) rfl (g := mkF m 62 #[vi p0, vi p1, vi p2, vi p3, vi p4, vi p5, vi (((p5 &&& (2147483647 : Int32)) % (3 : Int32)) + (1 : Int32)), vr bS_1, vr bS_3, vr bS_5, vr bS_7, vr bS_9, vr bS_11, vr b13, .unset, .unset] [(.ref b13)]) rfl (hb hby at_62) (by decide) (by decide)
  obtain ⟨b18, g18⟩ : ∃ z, z = T15.heap.size := ⟨_, rfl⟩
  rw [← g18] at A18 D18 st18
  have g_b18 : n0 ≤ b18 := lTr (own_sz O15) (lEq g18.symm)
  have H_19 := H_16.ext E18
  have R_19 := R_16.trans (CHr.ext E18 H_16)
  have O18 := O15.ext E18
  have F_pointer_b18 : Fld Z h18 b18 "com/example/grantline/grantline/PolicyException$Problem" "pointer" "Ljava/lang/String;" .null := D18 (Or.inr (Wd hw 52 rfl)) (ty := (.object "java/lang/String")) (by decide)
  have F_description_b18 : Fld Z h18 b18 "com/example/grantline/grantline/PolicyException$Problem" "description" "Ljava/lang/String;" .null := D18 (Or.inr (Wd hw 54 rfl)) (ty := (.object "java/lang/String")) (by decide)
  obtain ⟨_, _, ⟨T20, L20, k20, n20⟩, -, X20, ⟨Lc20, hQ20, l20, y20, z20⟩, st20⟩ := X18.specialBack hx (y := MN_27) rfl hown11 (mvT hZ11 (Wd hw 42 rfl)) (mvT hZ11 (Wd hw 43 rfl)) (mvT hZ11 (Wd hw 44 rfl)) (by decide) (backOf (W := 2) (rmPi l Z a0 hw [] cS aDE kDE aUS aSS aIE mO b18 bS_1 bS_3 h18 n0 O18 GL A18 F_pointer_b18 F_description_b18 g_b18) hZ11 (Wd hw 44 rfl) (Wd hw 41 rfl) (by decide) (by decide)) (g := mkF m 70 #[vi p0, vi p1, vi p2, vi p3, vi p4, vi p5, vi (((p5 &&& (2147483647 : Int32)) % (3 : Int32)) + (1 : Int32)), vr bS_1, vr bS_3, vr bS_5, vr bS_7, vr bS_9, vr bS_11, vr b13, .unset, .unset] [(.ref bS_3), (.ref bS_1), (.ref b18), (.ref b18), (.ref b13)]) rfl (by rw [hml]; rfl) (Steps.refl _) (a := b18) (argsL := [(.ref bS_1), (.ref bS_3)]) (rest := [(.ref b18), (.ref b13)]) (lenOf pdv41 rfl) rfl (by show 2 * 0 + _ ≤ _; exact lEq rfl) (hb hby at_70) (fun _ _ => ⟨rfl, e18, (by decide : 20 + 0 ≤ _), (by decide : 53 + 0 ≤ _)⟩)
  dsimp only [Pt.U, Pt.locs, Pt.cells, Pt.slots] at X20 l20 y20 z20 st20 hQ20
  subst l20 y20 z20
  obtain ⟨rfl, N20q, Kc20, P20_0, P20_1, P20_2⟩ := hQ20
  have O20 := O18.keep Kc20 (allS g_b18 all0)
  have Sf22 : Safe Z EL1 T11.vm h18 b18 := Safe.exa (EL := EL1) hZ11.alike A18 (by decide) (by decide)
  have H_21 := H_19.keep Kc20 (sfS Sf22 sf0)
  have R_21 := R_19.trans (CHr.keep Kc20 (sfS Sf22 sf0) H_19)
  have N20 := Fr.app N15 N20q
  obtain ⟨cq23, kq23, q23a, q23b, q23c⟩ := isOf hZ11 rfl ((P15_0.ext E18).keep Kc20)
  obtain ⟨_, _, ⟨T23, L23, k23, n23⟩, -, X23, ⟨Lc23, hQ23, l23, y23, z23⟩, st23⟩ := X20.virtualBack hx (y := MN_37) (z := MN_37) hown11 (mvT hZ11 (Wd hw 55 rfl)) (mvT hZ11 (Wd hw 56 rfl)) (notFace_of_selects (args := #[]) (mvT hZ11 (Wd hw 58 rfl))) (mvT hZ11 (Wd hw 58 rfl)) (mvT hZ11 (Wd hw 57 rfl)) (by decide) (backOf (W := 0) (rmA1_0 l Z a0 hw [] cS aDE kDE aUS aSS aIE mO b13 b18 ((0 : Int32)) (T20.heap) n0 O20 GL ((P15_0.ext E18).keep Kc20) ((P15_1.ext E18).keep Kc20 (ninS (nLt (lLt (lLt A13.lt Kc15.1) (lEq g18.symm))) nin0)) ((P15_2.ext E18).keep Kc20 (ninS (nLt (lLt (lLt A13.lt Kc15.1) (lEq g18.symm))) nin0)) ((P15_3.ext E18).keep Kc20 (ninS (nLt (lLt (lLt A13.lt Kc15.1) (lEq g18.symm))) nin0)) g_b13 P20_0) hZ11 (Wd hw 59 rfl) (Wd hw 15 rfl) (by decide) (by decide)) q23a q23c (g := mkF m 73 #[vi p0, vi p1, vi p2, vi p3, vi p4, vi p5, vi (((p5 &&& (2147483647 : Int32)) % (3 : Int32)) + (1 : Int32)), vr bS_1, vr bS_3, vr bS_5, vr bS_7, vr bS_9, vr bS_11, vr b13, .unset, .unset] [(.ref b18), (.ref b13)]) rfl (by rw [hml]; rfl) (Steps.refl _) (argsL := [(.ref b18)]) (rest := []) (lenOf pdv42 rfl) rfl (by show 2 * 0 + _ ≤ _; exact lEq rfl) (hb hby at_73) (fun _ _ => ⟨rfl, rfl, (by decide : 20 + 1 ≤ _), (by decide : 53 + 10 ≤ _)⟩)
  dsimp only [Pt.U, Pt.locs, Pt.cells, Pt.slots] at X23 l23 y23 z23 st23 hQ23
  subst l23 y23 z23
  obtain ⟨b_23, kb_23, rfl, N23q, Kc23, P23_0, P23_1, P23_2, P23_3, P23_4, P23_5, P23_6, P23_7⟩ := hQ23
  have O23 := O20.keep Kc23 (allS g_b13 all0)
  have Sf25 : Safe Z EL1 T11.vm T20.heap b13 := Safe.exa (EL := EL1) hZ11.alike ((P15_0.ext E18).keep Kc20) (by decide) (by decide)
  have H_24 := H_21.keep Kc23 (sfS Sf25 sf0)
  have R_24 := R_21.trans (CHr.keep Kc23 (sfS Sf25 sf0) H_21)
  have g_b_23 : n0 ≤ b_23 := lTr (own_sz O20) P23_0
  have N23 := Fr.app N20 N23q
  have pre27 : ∀ t, SP p e below T23 m 80 #[vi p0, vi p1, vi p2, vi p3, vi p4, vi p5, vi (((p5 &&& (2147483647 : Int32)) % (3 : Int32)) + (1 : Int32)), vr bS_1, vr bS_3, vr bS_5, vr bS_7, vr bS_9, vr bS_11, vr b13, .unset, .unset] [(.int 2), (.int (((p5 &&& (2147483647 : Int32)) % (3 : Int32)) + (1 : Int32)))] t → Steps p.tables e below (s₁.setTop (entryFrame m #[(.int p0), (.int p1), (.int p2), (.int p3), (.int p4), (.int p5)] maxLocals)) t := fun t kt => by
    refine pre0 t ?_
    show SP p e below s₁ m 0 #[vi p0, vi p1, vi p2, vi p3, vi p4, vi p5, .unset, .unset, .unset, .unset, .unset, .unset, .unset, .unset, .unset, .unset] [] _
    refine XS.iload X0w.here hx rfl (hb hby at_0) rfl ?_
    show SP p e below s₁ m 2 #[vi p0, vi p1, vi p2, vi p3, vi p4, vi p5, .unset, .unset, .unset, .unset, .unset, .unset, .unset, .unset, .unset, .unset] [(.int p5)] _
    refine X0w.ldcInt hx hown (mvT hZ (Wd hw 0 rfl)) (g := mkF m 2 #[vi p0, vi p1, vi p2, vi p3, vi p4, vi p5, .unset, .unset, .unset, .unset, .unset, .unset, .unset, .unset, .unset, .unset] [(.int p5)]) rfl (hb hby at_2) _ ?_
    show SP p e below s₁ m 4 #[vi p0, vi p1, vi p2, vi p3, vi p4, vi p5, .unset, .unset, .unset, .unset, .unset, .unset, .unset, .unset, .unset, .unset] [(.int 2147483647), (.int p5)] _
    refine XS.iand X0w.here hx rfl (hb hby at_4) rfl ?_
    refine XS.iconst X0w.here hx rfl (hb hby at_5) ?_
    show SP p e below s₁ m 6 #[vi p0, vi p1, vi p2, vi p3, vi p4, vi p5, .unset, .unset, .unset, .unset, .unset, .unset, .unset, .unset, .unset, .unset] [(.int 3), (.int (p5 &&& (2147483647 : Int32)))] _
    refine Jvm.RoadKit.iremM X0w hx rfl (hb hby at_6) rfl (by decide) ?_
    show SP p e below s₁ m 7 #[vi p0, vi p1, vi p2, vi p3, vi p4, vi p5, .unset, .unset, .unset, .unset, .unset, .unset, .unset, .unset, .unset, .unset] [(.int ((p5 &&& (2147483647 : Int32)) % (3 : Int32)))] _
    refine XS.iconst X0w.here hx rfl (hb hby at_7) ?_
    refine XS.iadd X0w.here hx rfl (hb hby at_8) rfl ?_
    refine XS.istore X0w.here hx rfl (hb hby at_9) rfl (l' := #[vi p0, vi p1, vi p2, vi p3, vi p4, vi p5, vi (((p5 &&& (2147483647 : Int32)) % (3 : Int32)) + (1 : Int32)), .unset, .unset, .unset, .unset, .unset, .unset, .unset, .unset, .unset]) rfl ?_
    refine XS.iloadN X0w.here hx rfl (hb hby at_11) rfl ?_
    show SP p e below s₁ m 12 #[vi p0, vi p1, vi p2, vi p3, vi p4, vi p5, vi (((p5 &&& (2147483647 : Int32)) % (3 : Int32)) + (1 : Int32)), .unset, .unset, .unset, .unset, .unset, .unset, .unset, .unset, .unset] [(.int p0)] _
    refine st1.trans ?_
    show SP p e below T1 m 15 #[vi p0, vi p1, vi p2, vi p3, vi p4, vi p5, vi (((p5 &&& (2147483647 : Int32)) % (3 : Int32)) + (1 : Int32)), .unset, .unset, .unset, .unset, .unset, .unset, .unset, .unset, .unset] [(.ref bS_1)] _
    refine XS.astore X1.here hx rfl (hb hby at_15) rfl rfl (l' := #[vi p0, vi p1, vi p2, vi p3, vi p4, vi p5, vi (((p5 &&& (2147483647 : Int32)) % (3 : Int32)) + (1 : Int32)), vr bS_1, .unset, .unset, .unset, .unset, .unset, .unset, .unset, .unset]) rfl ?_
    refine XS.iloadN X1.here hx rfl (hb hby at_17) rfl ?_
    show SP p e below T1 m 18 #[vi p0, vi p1, vi p2, vi p3, vi p4, vi p5, vi (((p5 &&& (2147483647 : Int32)) % (3 : Int32)) + (1 : Int32)), vr bS_1, .unset, .unset, .unset, .unset, .unset, .unset, .unset, .unset] [(.int p1)] _
    refine st3.trans ?_
    show SP p e below T3 m 21 #[vi p0, vi p1, vi p2, vi p3, vi p4, vi p5, vi (((p5 &&& (2147483647 : Int32)) % (3 : Int32)) + (1 : Int32)), vr bS_1, .unset, .unset, .unset, .unset, .unset, .unset, .unset, .unset] [(.ref bS_3)] _
    refine XS.astore X3.here hx rfl (hb hby at_21) rfl rfl (l' := #[vi p0, vi p1, vi p2, vi p3, vi p4, vi p5, vi (((p5 &&& (2147483647 : Int32)) % (3 : Int32)) + (1 : Int32)), vr bS_1, vr bS_3, .unset, .unset, .unset, .unset, .unset, .unset, .unset]) rfl ?_
    refine XS.iloadN X3.here hx rfl (hb hby at_23) rfl ?_
    show SP p e below T3 m 24 #[vi p0, vi p1, vi p2, vi p3, vi p4, vi p5, vi (((p5 &&& (2147483647 : Int32)) % (3 : Int32)) + (1 : Int32)), vr bS_1, vr bS_3, .unset, .unset, .unset, .unset, .unset, .unset, .unset] [(.int p2)] _
    refine st5.trans ?_
    show SP p e below T5 m 27 #[vi p0, vi p1, vi p2, vi p3, vi p4, vi p5, vi (((p5 &&& (2147483647 : Int32)) % (3 : Int32)) + (1 : Int32)), vr bS_1, vr bS_3, .unset, .unset, .unset, .unset, .unset, .unset, .unset] [(.ref bS_5)] _
    refine XS.astore X5.here hx rfl (hb hby at_27) rfl rfl (l' := #[vi p0, vi p1, vi p2, vi p3, vi p4, vi p5, vi (((p5 &&& (2147483647 : Int32)) % (3 : Int32)) + (1 : Int32)), vr bS_1, vr bS_3, vr bS_5, .unset, .unset, .unset, .unset, .unset, .unset]) rfl ?_
    refine XS.iloadN X5.here hx rfl (hb hby at_29) rfl ?_
    show SP p e below T5 m 30 #[vi p0, vi p1, vi p2, vi p3, vi p4, vi p5, vi (((p5 &&& (2147483647 : Int32)) % (3 : Int32)) + (1 : Int32)), vr bS_1, vr bS_3, vr bS_5, .unset, .unset, .unset, .unset, .unset, .unset] [(.int p3)] _
    refine st7.trans ?_
    show SP p e below T7 m 33 #[vi p0, vi p1, vi p2, vi p3, vi p4, vi p5, vi (((p5 &&& (2147483647 : Int32)) % (3 : Int32)) + (1 : Int32)), vr bS_1, vr bS_3, vr bS_5, .unset, .unset, .unset, .unset, .unset, .unset] [(.ref bS_7)] _
    refine XS.astore X7.here hx rfl (hb hby at_33) rfl rfl (l' := #[vi p0, vi p1, vi p2, vi p3, vi p4, vi p5, vi (((p5 &&& (2147483647 : Int32)) % (3 : Int32)) + (1 : Int32)), vr bS_1, vr bS_3, vr bS_5, vr bS_7, .unset, .unset, .unset, .unset, .unset]) rfl ?_
    refine XS.iloadN X7.here hx rfl (hb hby at_35) rfl ?_
    refine XS.bipush X7.here hx rfl (hb hby at_36) ?_
    refine XS.iushr X7.here hx rfl (hb hby at_38) rfl ?_
    show SP p e below T7 m 39 #[vi p0, vi p1, vi p2, vi p3, vi p4, vi p5, vi (((p5 &&& (2147483647 : Int32)) % (3 : Int32)) + (1 : Int32)), vr bS_1, vr bS_3, vr bS_5, vr bS_7, .unset, .unset, .unset, .unset, .unset] [(.int ((p2.toUInt32 >>> ((8 : Int32) &&& 31).toUInt32).toInt32))] _
    refine st9.trans ?_
    show SP p e below T9 m 42 #[vi p0, vi p1, vi p2, vi p3, vi p4, vi p5, vi (((p5 &&& (2147483647 : Int32)) % (3 : Int32)) + (1 : Int32)), vr bS_1, vr bS_3, vr bS_5, vr bS_7, .unset, .unset, .unset, .unset, .unset] [(.ref bS_9)] _
    refine XS.astore X9.here hx rfl (hb hby at_42) rfl rfl (l' := #[vi p0, vi p1, vi p2, vi p3, vi p4, vi p5, vi (((p5 &&& (2147483647 : Int32)) % (3 : Int32)) + (1 : Int32)), vr bS_1, vr bS_3, vr bS_5, vr bS_7, vr bS_9, .unset, .unset, .unset, .unset]) rfl ?_
    refine XS.iload X9.here hx rfl (hb hby at_44) rfl ?_
    show SP p e below T9 m 46 #[vi p0, vi p1, vi p2, vi p3, vi p4, vi p5, vi (((p5 &&& (2147483647 : Int32)) % (3 : Int32)) + (1 : Int32)), vr bS_1, vr bS_3, vr bS_5, vr bS_7, vr bS_9, .unset, .unset, .unset, .unset] [(.int p4)] _
    refine st11.trans ?_
    show SP p e below T11 m 49 #[vi p0, vi p1, vi p2, vi p3, vi p4, vi p5, vi (((p5 &&& (2147483647 : Int32)) % (3 : Int32)) + (1 : Int32)), vr bS_1, vr bS_3, vr bS_5, vr bS_7, vr bS_9, .unset, .unset, .unset, .unset] [(.ref bS_11)] _
    refine XS.astore X11.here hx rfl (hb hby at_49) rfl rfl (l' := #[vi p0, vi p1, vi p2, vi p3, vi p4, vi p5, vi (((p5 &&& (2147483647 : Int32)) % (3 : Int32)) + (1 : Int32)), vr bS_1, vr bS_3, vr bS_5, vr bS_7, vr bS_9, vr bS_11, .unset, .unset, .unset]) rfl ?_
    show SP p e below T11 m 51 #[vi p0, vi p1, vi p2, vi p3, vi p4, vi p5, vi (((p5 &&& (2147483647 : Int32)) % (3 : Int32)) + (1 : Int32)), vr bS_1, vr bS_3, vr bS_5, vr bS_7, vr bS_9, vr bS_11, .unset, .unset, .unset] [] _
    refine st13 _ ?_
    show SP p e below T13 m 54 #[vi p0, vi p1, vi p2, vi p3, vi p4, vi p5, vi (((p5 &&& (2147483647 : Int32)) % (3 : Int32)) + (1 : Int32)), vr bS_1, vr bS_3, vr bS_5, vr bS_7, vr bS_9, vr bS_11, .unset, .unset, .unset] [(.ref b13)] _
    refine XS.dup X13.here hx rfl (hb hby at_54) rfl rfl ?_
    show SP p e below T13 m 55 #[vi p0, vi p1, vi p2, vi p3, vi p4, vi p5, vi (((p5 &&& (2147483647 : Int32)) % (3 : Int32)) + (1 : Int32)), vr bS_1, vr bS_3, vr bS_5, vr bS_7, vr bS_9, vr bS_11, .unset, .unset, .unset] [(.ref b13), (.ref b13)] _
    refine st15.trans ?_
    show SP p e below T15 m 58 #[vi p0, vi p1, vi p2, vi p3, vi p4, vi p5, vi (((p5 &&& (2147483647 : Int32)) % (3 : Int32)) + (1 : Int32)), vr bS_1, vr bS_3, vr bS_5, vr bS_7, vr bS_9, vr bS_11, .unset, .unset, .unset] [(.ref b13)] _
    refine XS.astore X15.here hx rfl (hb hby at_58) rfl rfl (l' := #[vi p0, vi p1, vi p2, vi p3, vi p4, vi p5, vi (((p5 &&& (2147483647 : Int32)) % (3 : Int32)) + (1 : Int32)), vr bS_1, vr bS_3, vr bS_5, vr bS_7, vr bS_9, vr bS_11, vr b13, .unset, .unset]) rfl ?_
    refine XS.aload X15.here hx rfl (hb hby at_60) rfl rfl ?_
    show SP p e below T15 m 62 #[vi p0, vi p1, vi p2, vi p3, vi p4, vi p5, vi (((p5 &&& (2147483647 : Int32)) % (3 : Int32)) + (1 : Int32)), vr bS_1, vr bS_3, vr bS_5, vr bS_7, vr bS_9, vr bS_11, vr b13, .unset, .unset] [(.ref b13)] _
    refine st18 _ ?_
    show SP p e below T18 m 65 #[vi p0, vi p1, vi p2, vi p3, vi p4, vi p5, vi (((p5 &&& (2147483647 : Int32)) % (3 : Int32)) + (1 : Int32)), vr bS_1, vr bS_3, vr bS_5, vr bS_7, vr bS_9, vr bS_11, vr b13, .unset, .unset] [(.ref b18), (.ref b13)] _
    refine XS.dup X18.here hx rfl (hb hby at_65) rfl rfl ?_
    refine XS.aload X18.here hx rfl (hb hby at_66) rfl rfl ?_
    refine XS.aload X18.here hx rfl (hb hby at_68) rfl rfl ?_
    show SP p e below T18 m 70 #[vi p0, vi p1, vi p2, vi p3, vi p4, vi p5, vi (((p5 &&& (2147483647 : Int32)) % (3 : Int32)) + (1 : Int32)), vr bS_1, vr bS_3, vr bS_5, vr bS_7, vr bS_9, vr bS_11, vr b13, .unset, .unset] [(.ref bS_3), (.ref bS_1), (.ref b18), (.ref b18), (.ref b13)] _
    refine st20.trans ?_
    show SP p e below T20 m 73 #[vi p0, vi p1, vi p2, vi p3, vi p4, vi p5, vi (((p5 &&& (2147483647 : Int32)) % (3 : Int32)) + (1 : Int32)), vr bS_1, vr bS_3, vr bS_5, vr bS_7, vr bS_9, vr bS_11, vr b13, .unset, .unset] [(.ref b18), (.ref b13)] _
    refine st23.trans ?_
    show SP p e below T23 m 76 #[vi p0, vi p1, vi p2, vi p3, vi p4, vi p5, vi (((p5 &&& (2147483647 : Int32)) % (3 : Int32)) + (1 : Int32)), vr bS_1, vr bS_3, vr bS_5, vr bS_7, vr bS_9, vr bS_11, vr b13, .unset, .unset] [(.int 1)] _
    refine XS.pop X23.here hx rfl (hb hby at_76) rfl rfl ?_
    refine XS.iload X23.here hx rfl (hb hby at_77) rfl ?_
    refine XS.iconst X23.here hx rfl (hb hby at_79) ?_
    exact kt
  by_cases hc80_26 : (((p5 &&& (2147483647 : Int32)) % (3 : Int32)) + (1 : Int32)) < (2 : Int32)
  · have pre29 : ∀ t, SP p e below T23 m 103 #[vi p0, vi p1, vi p2, vi p3, vi p4, vi p5, vi (((p5 &&& (2147483647 : Int32)) % (3 : Int32)) + (1 : Int32)), vr bS_1, vr bS_3, vr bS_5, vr bS_7, vr bS_9, vr bS_11, vr b13, .unset, .unset] [(.int 3), (.int (((p5 &&& (2147483647 : Int32)) % (3 : Int32)) + (1 : Int32)))] t → Steps p.tables e below (s₁.setTop (entryFrame m #[(.int p0), (.int p1), (.int p2), (.int p3), (.int p4), (.int p5)] maxLocals)) t := fun t kt => by
      refine pre27 t ?_
      show SP p e below T23 m 80 #[vi p0, vi p1, vi p2, vi p3, vi p4, vi p5, vi (((p5 &&& (2147483647 : Int32)) % (3 : Int32)) + (1 : Int32)), vr bS_1, vr bS_3, vr bS_5, vr bS_7, vr bS_9, vr bS_11, vr b13, .unset, .unset] [(.int 2), (.int (((p5 &&& (2147483647 : Int32)) % (3 : Int32)) + (1 : Int32)))] _
      refine XS.icmpYes X23.here hx rfl (pc0 := 80) (pc' := 100) rfl (hb hby at_80) rfl (tlt hc80_26).1 (by decide) (by decide) ?_
      refine XS.iload X23.here hx rfl (hb hby at_100) rfl ?_
      refine XS.iconst X23.here hx rfl (hb hby at_102) ?_
      exact kt
    by_cases hc103_28 : (((p5 &&& (2147483647 : Int32)) % (3 : Int32)) + (1 : Int32)) < (3 : Int32)
    · obtain ⟨T30, h30, X30, e30, E30, A30, D30, U30, st30⟩ := newO X23 hx hZ11 hown11 (Wd hw 86 rfl) (Wd hw 87 rfl) (Wd hw 88 rfl) rfl (g := mkF m 123 #[vi p0, vi p1, vi p2, vi p3, vi p4, vi p5, vi (((p5 &&& (2147483647 : Int32)) % (3 : Int32)) + (1 : Int32)), vr bS_1, vr bS_3, vr bS_5, vr bS_7, vr bS_9, vr bS_11, vr b13, .unset, .unset] []) rfl (hb hby at_123) (by decide) (by decide)
      obtain ⟨b30, g30⟩ : ∃ z, z = T23.heap.size := ⟨_, rfl⟩
      rw [← g30] at A30 D30 U30 st30
      have g_b30 : n0 ≤ b30 := lTr (own_sz O23) (lEq g30.symm)
      have H_31 := H_24.ext E30
      have R_31 := R_24.trans (CHr.ext E30 H_24)
      have O30 := O23.ext E30
      have F_cause_b30 : Fld Z h30 b30 "java/lang/Throwable" "cause" "Ljava/lang/Throwable;" .null := D30 (Or.inl (Wd hw 260 rfl)) (ty := (.object "java/lang/Throwable")) (by decide)
      have F_stackTrace_b30 : Fld Z h30 b30 "java/lang/Throwable" "stackTrace" "[Ljava/lang/StackTraceElement;" .null := D30 (Or.inl (Wd hw 263 rfl)) (ty := (.array (.object "java/lang/StackTraceElement"))) (by decide)
      have F_suppressedExceptions_b30 : Fld Z h30 b30 "java/lang/Throwable" "suppressedExceptions" "Ljava/util/List;" .null := D30 (Or.inl (Wd hw 266 rfl)) (ty := (.object "java/util/List")) (by decide)
      have F_detailMessage_b30 : Fld Z h30 b30 "java/lang/Throwable" "detailMessage" "Ljava/lang/String;" .null := D30 (Or.inl (Wd hw 289 rfl)) (ty := (.object "java/lang/String")) (by decide)
      have F_backtrace_b30 : Fld Z h30 b30 "java/lang/Throwable" "backtrace" "Ljava/lang/Object;" .null := D30 (Or.inl (Wd hw 290 rfl)) (ty := (.object "java/lang/Object")) (by decide)
      have F_depth_b30 : Fld Z h30 b30 "java/lang/Throwable" "depth" "I" (.int 0) := D30 (Or.inl (Wd hw 291 rfl)) (ty := .int) (by decide)
      have F_problems_b30 : Fld Z h30 b30 "com/example/grantline/grantline/PolicyException" "problems" "Ljava/util/List;" .null := D30 (Or.inr (Wd hw 368 rfl)) (ty := (.object "java/util/List")) (by decide)
      obtain ⟨_, _, ⟨T32, L32, k32, n32⟩, -, X32', hS32', hg32, ⟨Lc32, hQ32, l32, y32, z32, Rs32⟩, st32⟩ := X30.specialBackS hx (y := MN_63) rfl hown11 (mvT hZ11 (Wd hw 89 rfl)) (mvT hZ11 (Wd hw 90 rfl)) (mvT hZ11 (Wd hw 91 rfl)) (by decide) (backOfSKH (W := 1) (rmX_1 l Z a0 hw [] hlt cS aDE kDE aUS aSS aIE mO b30 b13 b_23 kb_23 b18 bS_1 vS_1 kS_1 nS_1 lS_1 bS_3 vS_3 kS_3 nS_3 lS_3 h30 n0 O30 GL A30 U30 F_cause_b30 F_stackTrace_b30 F_suppressedExceptions_b30 F_detailMessage_b30 F_backtrace_b30 F_problems_b30 g_b30 (P23_4.ext E30) (P23_5.ext E30) (P23_6.ext E30) (P23_1.ext E30) (P23_2.ext E30) ((P20_0.keep Kc23).ext E30) ((P20_1.keep Kc23 (ninS (Ne.symm (nLt (lLt (lLt A13.lt Kc15.1) (lEq g18.symm)))) nin0)).ext E30) ((P20_2.keep Kc23 (ninS (Ne.symm (nLt (lLt (lLt A13.lt Kc15.1) (lEq g18.symm)))) nin0)).ext E30) (((((((((((P1_0.keep Kc3).keep Kc5).keep Kc7).keep Kc9).keep Kc11).ext E13).keep Kc15).ext E18).keep Kc20).keep Kc23).ext E30) (((((((((((P1_1.keep Kc3 nin0).keep Kc5 nin0).keep Kc7 nin0).keep Kc9 nin0).keep Kc11 nin0).ext E13).keep Kc15 (ninS (nLt (lLt (lLt P1_0.lt (lTr (lTr (lTr (lTr Kc3.1 Kc5.1) Kc7.1) Kc9.1) Kc11.1)) (lEq g13.symm))) nin0)).ext E18).keep Kc20 (ninS (nLt (lLt (lLt P1_0.lt (lTr (lTr (lTr (lTr (lTr (lTr Kc3.1 Kc5.1) Kc7.1) Kc9.1) Kc11.1) E13.1) Kc15.1)) (lEq g18.symm))) nin0)).keep Kc23 (ninS (nLt (lLt (lLt P1_0.lt (lTr (lTr (lTr (lTr Kc3.1 Kc5.1) Kc7.1) Kc9.1) Kc11.1)) (lEq g13.symm))) nin0)).ext E30) (((((((((((P1_2.keep Kc3 nin0).keep Kc5 nin0).keep Kc7 nin0).keep Kc9 nin0).keep Kc11 nin0).ext E13).keep Kc15 (ninS (nLt (lLt (lLt P1_0.lt (lTr (lTr (lTr (lTr Kc3.1 Kc5.1) Kc7.1) Kc9.1) Kc11.1)) (lEq g13.symm))) nin0)).ext E18).keep Kc20 (ninS (nLt (lLt (lLt P1_0.lt (lTr (lTr (lTr (lTr (lTr (lTr Kc3.1 Kc5.1) Kc7.1) Kc9.1) Kc11.1) E13.1) Kc15.1)) (lEq g18.symm))) nin0)).keep Kc23 (ninS (nLt (lLt (lLt P1_0.lt (lTr (lTr (lTr (lTr Kc3.1 Kc5.1) Kc7.1) Kc9.1) Kc11.1)) (lEq g13.symm))) nin0)).ext E30) (((((((((((P1_3.keep Kc3 nin0).keep Kc5 nin0).keep Kc7 nin0).keep Kc9 nin0).keep Kc11 nin0).ext E13).keep Kc15 (ninS (nLt (lLt (lLt P1_3.lt (lTr (lTr (lTr (lTr Kc3.1 Kc5.1) Kc7.1) Kc9.1) Kc11.1)) (lEq g13.symm))) nin0)).ext E18).keep Kc20 (ninS (nLt (lLt (lLt P1_3.lt (lTr (lTr (lTr (lTr (lTr (lTr Kc3.1 Kc5.1) Kc7.1) Kc9.1) Kc11.1) E13.1) Kc15.1)) (lEq g18.symm))) nin0)).keep Kc23 (ninS (nLt (lLt (lLt P1_3.lt (lTr (lTr (lTr (lTr Kc3.1 Kc5.1) Kc7.1) Kc9.1) Kc11.1)) (lEq g13.symm))) nin0)).ext E30) ((((((((((P3_0.keep Kc5).keep Kc7).keep Kc9).keep Kc11).ext E13).keep Kc15).ext E18).keep Kc20).keep Kc23).ext E30) ((((((((((P3_1.keep Kc5 nin0).keep Kc7 nin0).keep Kc9 nin0).keep Kc11 nin0).ext E13).keep Kc15 (ninS (nLt (lLt (lLt P3_0.lt (lTr (lTr (lTr Kc5.1 Kc7.1) Kc9.1) Kc11.1)) (lEq g13.symm))) nin0)).ext E18).keep Kc20 (ninS (nLt (lLt (lLt P3_0.lt (lTr (lTr (lTr (lTr (lTr Kc5.1 Kc7.1) Kc9.1) Kc11.1) E13.1) Kc15.1)) (lEq g18.symm))) nin0)).keep Kc23 (ninS (nLt (lLt (lLt P3_0.lt (lTr (lTr (lTr Kc5.1 Kc7.1) Kc9.1) Kc11.1)) (lEq g13.symm))) nin0)).ext E30) ((((((((((P3_2.keep Kc5 nin0).keep Kc7 nin0).keep Kc9 nin0).keep Kc11 nin0).ext E13).keep Kc15 (ninS (nLt (lLt (lLt P3_0.lt (lTr (lTr (lTr Kc5.1 Kc7.1) Kc9.1) Kc11.1)) (lEq g13.symm))) nin0)).ext E18).keep Kc20 (ninS (nLt (lLt (lLt P3_0.lt (lTr (lTr (lTr (lTr (lTr Kc5.1 Kc7.1) Kc9.1) Kc11.1) E13.1) Kc15.1)) (lEq g18.symm))) nin0)).keep Kc23 (ninS (nLt (lLt (lLt P3_0.lt (lTr (lTr (lTr Kc5.1 Kc7.1) Kc9.1) Kc11.1)) (lEq g13.symm))) nin0)).ext E30) ((((((((((P3_3.keep Kc5 nin0).keep Kc7 nin0).keep Kc9 nin0).keep Kc11 nin0).ext E13).keep Kc15 (ninS (nLt (lLt (lLt P3_3.lt (lTr (lTr (lTr Kc5.1 Kc7.1) Kc9.1) Kc11.1)) (lEq g13.symm))) nin0)).ext E18).keep Kc20 (ninS (nLt (lLt (lLt P3_3.lt (lTr (lTr (lTr (lTr (lTr Kc5.1 Kc7.1) Kc9.1) Kc11.1) E13.1) Kc15.1)) (lEq g18.symm))) nin0)).keep Kc23 (ninS (nLt (lLt (lLt P3_3.lt (lTr (lTr (lTr Kc5.1 Kc7.1) Kc9.1) Kc11.1)) (lEq g13.symm))) nin0)).ext E30) P1_4 P1_5 P3_4 P3_5) hZ11 (Wd hw 91 rfl) (Wd hw 88 rfl) (by decide) (by decide) (own_EW hw) H_31 (hTK.alikeC (hZ.alike.symm.trans hZ11.alike)) (hBW.alikeC (hZ.alike.symm.trans hZ11.alike))) (g := mkF m 129 #[vi p0, vi p1, vi p2, vi p3, vi p4, vi p5, vi (((p5 &&& (2147483647 : Int32)) % (3 : Int32)) + (1 : Int32)), vr bS_1, vr bS_3, vr bS_5, vr bS_7, vr bS_9, vr bS_11, vr b13, .unset, .unset] [(.ref b13), (.ref b30), (.ref b30)]) rfl (by rw [hml]; rfl) (Steps.refl _) (a := b30) (argsL := [(.ref b13)]) (rest := [(.ref b30)]) (lenOf pdv43 rfl) rfl (by show 2 * 0 + _ ≤ _; exact lEq rfl) (hb hby at_129) (fun _ _ => ⟨rfl, e30, (by decide : 22 + 9 ≤ _), (by decide : 70 + 2807 ≤ _)⟩)
      dsimp only [Pt.U, Pt.locs, Pt.cells, Pt.slots] at X32' l32 y32 z32 st32 hQ32 hS32' hg32 Rs32
      subst l32 y32 z32
      obtain ⟨X32, hS32, hZ32, hown32⟩ := rebS hS11 (by rw [e30]; exact (lTr (lTr (lTr (lTr (lTr (lTr (Nat.le_refl _) E13.1) Kc15.1) E18.1) Kc20.1) Kc23.1) E30.1)) X32' hS32' hg32 hZ11 hown11
      obtain ⟨b_32, rfl, N32q, Kc32, P32_0, P32_1, P32_2, P32_3⟩ := hQ32
      have O32 := O30.keep Kc32 (allS g_b30 all0)
      have H_33 := Rs32.1
      have R_33 := R_31.trans Rs32
      have N32 := Fr.app N23 N32q
      obtain ⟨cq34, kq34, q34a, q34b, q34c⟩ := isOf hZ32 rfl P32_0
      obtain ⟨_, _, ⟨T34, L34, k34, n34⟩, -, X34, ⟨Lc34, hQ34, l34, y34, z34⟩, st34⟩ := X32.virtualBack hx (y := MN_66) (z := MN_66) hown32 (mvT hZ32 (Wd hw 369 rfl)) (mvT hZ32 (Wd hw 370 rfl)) (notFace_of_selects (args := #[]) (mvT hZ32 (Wd hw 372 rfl))) (mvT hZ32 (Wd hw 372 rfl)) (mvT hZ32 (Wd hw 371 rfl)) (by decide) (backOf (W := 0) (rmP12 l Z a0 hw [] cS aDE kDE aUS aSS aIE mO b30 b_32 b18 bS_3 (T32.heap) n0 O32 GL P32_2 P32_3 P32_1 (((P20_0.keep Kc23).ext E30).keep Kc32) (((P20_2.keep Kc23 (ninS (Ne.symm (nLt (lLt (lLt A13.lt Kc15.1) (lEq g18.symm)))) nin0)).ext E30).keep Kc32 (ninS (nLt (lLt (lLt A18.lt (lTr Kc20.1 Kc23.1)) (lEq g30.symm))) nin0))) hZ32 (Wd hw 373 rfl) (Wd hw 88 rfl) (by decide) (by decide)) q34a q34c (g := mkF m 136 #[vi p0, vi p1, vi p2, vi p3, vi p4, vi p5, vi (((p5 &&& (2147483647 : Int32)) % (3 : Int32)) + (1 : Int32)), vr bS_1, vr bS_3, vr bS_5, vr bS_7, vr bS_9, vr bS_11, vr b13, vr b30, .unset] [(.ref b30)]) rfl (by rw [hml]; rfl) (Steps.refl _) (argsL := []) (rest := []) (lenOf pdv20 rfl) rfl (by show 2 * 0 + _ ≤ _; exact lEq rfl) (hb hby at_136) (fun _ _ => ⟨rfl, rfl, (by decide : 31 + 0 ≤ _), (by decide : 2877 + 0 ≤ _)⟩)
      dsimp only [Pt.U, Pt.locs, Pt.cells, Pt.slots] at X34 l34 y34 z34 st34 hQ34
      subst l34 y34 z34
      obtain ⟨rfl, N34q, e34⟩ := hQ34
      have N34 := Fr.app N32 N34q
      obtain ⟨cq35, kq35, q35a, q35b, q35c⟩ := isOf hZ32 e34 (((((((((((P3_0.keep Kc5).keep Kc7).keep Kc9).keep Kc11).ext E13).keep Kc15).ext E18).keep Kc20).keep Kc23).ext E30).keep Kc32)
      obtain ⟨_, _, ⟨T35, L35, k35, n35⟩, -, X35, ⟨Lc35, hQ35, l35, y35, z35⟩, st35⟩ := X34.virtualBack hx (y := MN_67) (z := MN_67) hown32 (mvT hZ32 (Wd hw 385 rfl)) (mvT hZ32 (Wd hw 386 rfl)) (notFace_of_selects (args := #[]) (mvT hZ32 (Wd hw 388 rfl))) (mvT hZ32 (Wd hw 388 rfl)) (mvT hZ32 (Wd hw 387 rfl)) (by decide) (backOf (W := 0) (rmEq l Z a0 hw [] cS aDE kDE aUS aSS aIE mO bS_3 (T32.heap) n0 O32 GL) hZ32 (Wd hw 389 rfl) (Wd hw 6 rfl) (by decide) (by decide)) q35a q35c (g := mkF m 150 #[vi p0, vi p1, vi p2, vi p3, vi p4, vi p5, vi (((p5 &&& (2147483647 : Int32)) % (3 : Int32)) + (1 : Int32)), vr bS_1, vr bS_3, vr bS_5, vr bS_7, vr bS_9, vr bS_11, vr b13, vr b30, vr bS_3] [(.ref bS_3), (.ref bS_3)]) rfl (by rw [hml]; rfl) (Steps.refl _) (argsL := [(.ref bS_3)]) (rest := []) (lenOf pdv42 rfl) rfl (by show 2 * 0 + _ ≤ _; exact lEq rfl) (hb hby at_150) (fun _ _ => ⟨rfl, e34, (by decide : 31 + 0 ≤ _), (by decide : 2877 + 0 ≤ _)⟩)
      dsimp only [Pt.U, Pt.locs, Pt.cells, Pt.slots] at X35 l35 y35 z35 st35 hQ35
      subst l35 y35 z35
      obtain ⟨rfl, N35q, e35⟩ := hQ35
      have N35 := Fr.app N34 N35q
      obtain ⟨fs, hr, hrun, hended, hRW⟩ := X35.leaveW hS32 (by rw [e35]; exact (Nat.le_refl _)) (v := some (.int 1)) (fun h => by rw [Bd.returns] at h; cases h)
      have hCR : CHr Z EL1 s.vm s.heap T35.vm T35.heap := by
        rw [hh, e35]
        exact R_33.trans (CHv.at X35 hZ32 (own_EW hw) H_33)
      refine ⟨_, _, pre29 _ ?_, hrun, hended, _, _, rfl, ?_, hCR, hRW.1, hRW.2.1, hRW.2.2.1, hRW.2.2.2.mono (by decide) (by decide)⟩
      · show SP p e below T23 m 103 #[vi p0, vi p1, vi p2, vi p3, vi p4, vi p5, vi (((p5 &&& (2147483647 : Int32)) % (3 : Int32)) + (1 : Int32)), vr bS_1, vr bS_3, vr bS_5, vr bS_7, vr bS_9, vr bS_11, vr b13, .unset, .unset] [(.int 3), (.int (((p5 &&& (2147483647 : Int32)) % (3 : Int32)) + (1 : Int32)))] _
        refine XS.icmpYes X23.here hx rfl (pc0 := 103) (pc' := 123) rfl (hb hby at_103) rfl (tlt hc103_28).1 (by decide) (by decide) ?_
        show SP p e below T23 m 123 #[vi p0, vi p1, vi p2, vi p3, vi p4, vi p5, vi (((p5 &&& (2147483647 : Int32)) % (3 : Int32)) + (1 : Int32)), vr bS_1, vr bS_3, vr bS_5, vr bS_7, vr bS_9, vr bS_11, vr b13, .unset, .unset] [] _
        refine st30 _ ?_
        show SP p e below T30 m 126 #[vi p0, vi p1, vi p2, vi p3, vi p4, vi p5, vi (((p5 &&& (2147483647 : Int32)) % (3 : Int32)) + (1 : Int32)), vr bS_1, vr bS_3, vr bS_5, vr bS_7, vr bS_9, vr bS_11, vr b13, .unset, .unset] [(.ref b30)] _
        refine XS.dup X30.here hx rfl (hb hby at_126) rfl rfl ?_
        refine XS.aload X30.here hx rfl (hb hby at_127) rfl rfl ?_
        show SP p e below T30 m 129 #[vi p0, vi p1, vi p2, vi p3, vi p4, vi p5, vi (((p5 &&& (2147483647 : Int32)) % (3 : Int32)) + (1 : Int32)), vr bS_1, vr bS_3, vr bS_5, vr bS_7, vr bS_9, vr bS_11, vr b13, .unset, .unset] [(.ref b13), (.ref b30), (.ref b30)] _
        refine st32.trans ?_
        show SP p e below T32 m 132 #[vi p0, vi p1, vi p2, vi p3, vi p4, vi p5, vi (((p5 &&& (2147483647 : Int32)) % (3 : Int32)) + (1 : Int32)), vr bS_1, vr bS_3, vr bS_5, vr bS_7, vr bS_9, vr bS_11, vr b13, .unset, .unset] [(.ref b30)] _
        refine XS.astore X32.here hx rfl (hb hby at_132) rfl rfl (l' := #[vi p0, vi p1, vi p2, vi p3, vi p4, vi p5, vi (((p5 &&& (2147483647 : Int32)) % (3 : Int32)) + (1 : Int32)), vr bS_1, vr bS_3, vr bS_5, vr bS_7, vr bS_9, vr bS_11, vr b13, vr b30, .unset]) rfl ?_
        refine XS.aload X32.here hx rfl (hb hby at_134) rfl rfl ?_
        show SP p e below T32 m 136 #[vi p0, vi p1, vi p2, vi p3, vi p4, vi p5, vi (((p5 &&& (2147483647 : Int32)) % (3 : Int32)) + (1 : Int32)), vr bS_1, vr bS_3, vr bS_5, vr bS_7, vr bS_9, vr bS_11, vr b13, vr b30, .unset] [(.ref b30)] _
        refine st34.trans ?_
        show SP p e below T34 m 139 #[vi p0, vi p1, vi p2, vi p3, vi p4, vi p5, vi (((p5 &&& (2147483647 : Int32)) % (3 : Int32)) + (1 : Int32)), vr bS_1, vr bS_3, vr bS_5, vr bS_7, vr bS_9, vr bS_11, vr b13, vr b30, .unset] [(.ref bS_3)] _
        refine XS.astore X34.here hx rfl (hb hby at_139) rfl rfl (l' := #[vi p0, vi p1, vi p2, vi p3, vi p4, vi p5, vi (((p5 &&& (2147483647 : Int32)) % (3 : Int32)) + (1 : Int32)), vr bS_1, vr bS_3, vr bS_5, vr bS_7, vr bS_9, vr bS_11, vr b13, vr b30, vr bS_3]) rfl ?_
        refine XS.aload X34.here hx rfl (hb hby at_141) rfl rfl ?_
        refine XS.ifnullNo X34.here hx rfl (hb hby at_143) rfl ?_
        refine XS.aload X34.here hx rfl (hb hby at_146) rfl rfl ?_
        refine XS.aload X34.here hx rfl (hb hby at_148) rfl rfl ?_
        show SP p e below T34 m 150 #[vi p0, vi p1, vi p2, vi p3, vi p4, vi p5, vi (((p5 &&& (2147483647 : Int32)) % (3 : Int32)) + (1 : Int32)), vr bS_1, vr bS_3, vr bS_5, vr bS_7, vr bS_9, vr bS_11, vr b13, vr b30, vr bS_3] [(.ref bS_3), (.ref bS_3)] _
        refine st35.trans ?_
        show SP p e below T35 m 153 #[vi p0, vi p1, vi p2, vi p3, vi p4, vi p5, vi (((p5 &&& (2147483647 : Int32)) % (3 : Int32)) + (1 : Int32)), vr bS_1, vr bS_3, vr bS_5, vr bS_7, vr bS_9, vr bS_11, vr b13, vr b30, vr bS_3] [(.int 1)] _
        refine XS.ifNo X35.here hx rfl (hb hby at_153) rfl ((if0 _ _).trans (feq (by decide : ¬ ((1 : Int32) = (0 : Int32)))).1) ?_
        refine XS.iconst X35.here hx rfl (hb hby at_156) ?_
        refine XS.goto X35.here hx rfl (pc0 := 157) (pc' := 161) rfl (hb hby at_157) (by decide) (by decide) ?_
        show SP p e below T35 m 161 #[vi p0, vi p1, vi p2, vi p3, vi p4, vi p5, vi (((p5 &&& (2147483647 : Int32)) % (3 : Int32)) + (1 : Int32)), vr bS_1, vr bS_3, vr bS_5, vr bS_7, vr bS_9, vr bS_11, vr b13, vr b30, vr bS_3] [(.int 1)] _
        exact retN X35 hx (t := .boolean) Bd.returns (by simp) (hb hby at_161) hr
      · show Q_rm0 n0 _ T35.heap _
        rw [e35]
        exact ⟨rfl, N35⟩
    · obtain ⟨T36, h36, X36, e36, E36, A36, D36, -, st36⟩ := newO X23 hx hZ11 hown11 (Wd hw 39 rfl) (Wd hw 40 rfl) (Wd hw 41 rfl) rfl (g := mkF m 108 #[vi p0, vi p1, vi p2, vi p3, vi p4, vi p5, vi (((p5 &&& (2147483647 : Int32)) % (3 : Int32)) + (1 : Int32)), vr bS_1, vr bS_3, vr bS_5, vr bS_7, vr bS_9, vr bS_11, vr b13, .unset, .unset] [(.ref b13)]) rfl (hb hby at_108) (by decide) (by decide)
      obtain ⟨b36, g36⟩ : ∃ z, z = T23.heap.size := ⟨_, rfl⟩
      rw [← g36] at A36 D36 st36
      have g_b36 : n0 ≤ b36 := lTr (own_sz O23) (lEq g36.symm)
      have H_37 := H_24.ext E36
      have R_37 := R_24.trans (CHr.ext E36 H_24)
      have O36 := O23.ext E36
      have F_pointer_b36 : Fld Z h36 b36 "com/example/grantline/grantline/PolicyException$Problem" "pointer" "Ljava/lang/String;" .null := D36 (Or.inr (Wd hw 52 rfl)) (ty := (.object "java/lang/String")) (by decide)
      have F_description_b36 : Fld Z h36 b36 "com/example/grantline/grantline/PolicyException$Problem" "description" "Ljava/lang/String;" .null := D36 (Or.inr (Wd hw 54 rfl)) (ty := (.object "java/lang/String")) (by decide)
      obtain ⟨_, _, ⟨T38, L38, k38, n38⟩, -, X38, ⟨Lc38, hQ38, l38, y38, z38⟩, st38⟩ := X36.specialBack hx (y := MN_27) rfl hown11 (mvT hZ11 (Wd hw 42 rfl)) (mvT hZ11 (Wd hw 43 rfl)) (mvT hZ11 (Wd hw 44 rfl)) (by decide) (backOf (W := 2) (rmPi l Z a0 hw [] cS aDE kDE aUS aSS aIE mO b36 bS_9 bS_11 h36 n0 O36 GL A36 F_pointer_b36 F_description_b36 g_b36) hZ11 (Wd hw 44 rfl) (Wd hw 41 rfl) (by decide) (by decide)) (g := mkF m 116 #[vi p0, vi p1, vi p2, vi p3, vi p4, vi p5, vi (((p5 &&& (2147483647 : Int32)) % (3 : Int32)) + (1 : Int32)), vr bS_1, vr bS_3, vr bS_5, vr bS_7, vr bS_9, vr bS_11, vr b13, .unset, .unset] [(.ref bS_11), (.ref bS_9), (.ref b36), (.ref b36), (.ref b13)]) rfl (by rw [hml]; rfl) (Steps.refl _) (a := b36) (argsL := [(.ref bS_9), (.ref bS_11)]) (rest := [(.ref b36), (.ref b13)]) (lenOf pdv41 rfl) rfl (by show 2 * 0 + _ ≤ _; exact lEq rfl) (hb hby at_116) (fun _ _ => ⟨rfl, e36, (by decide : 22 + 0 ≤ _), (by decide : 65 + 0 ≤ _)⟩)
      dsimp only [Pt.U, Pt.locs, Pt.cells, Pt.slots] at X38 l38 y38 z38 st38 hQ38
      subst l38 y38 z38
      obtain ⟨rfl, N38q, Kc38, P38_0, P38_1, P38_2⟩ := hQ38
      have O38 := O36.keep Kc38 (allS g_b36 all0)
      have Sf40 : Safe Z EL1 T11.vm h36 b36 := Safe.exa (EL := EL1) hZ11.alike A36 (by decide) (by decide)
      have H_39 := H_37.keep Kc38 (sfS Sf40 sf0)
      have R_39 := R_37.trans (CHr.keep Kc38 (sfS Sf40 sf0) H_37)
      have N38 := Fr.app N23 N38q
      obtain ⟨cq41, kq41, q41a, q41b, q41c⟩ := isOf hZ11 rfl ((P23_4.ext E36).keep Kc38)
      obtain ⟨_, _, ⟨T41, L41, k41, n41⟩, -, X41, ⟨Lc41, hQ41, l41, y41, z41⟩, st41⟩ := X38.virtualBack hx (y := MN_37) (z := MN_37) hown11 (mvT hZ11 (Wd hw 55 rfl)) (mvT hZ11 (Wd hw 56 rfl)) (notFace_of_selects (args := #[]) (mvT hZ11 (Wd hw 58 rfl))) (mvT hZ11 (Wd hw 58 rfl)) (mvT hZ11 (Wd hw 57 rfl)) (by decide) (backOf (W := 0) (rmA1_1 l Z a0 hw [] cS aDE kDE aUS aSS aIE mO b13 b36 b_23 (((0 : Int32) + (1 : Int32))) kb_23 b18 (T38.heap) n0 O38 GL ((P23_4.ext E36).keep Kc38) ((P23_5.ext E36).keep Kc38 (ninS (nLt (lLt (lLt A13.lt (lTr (lTr (lTr Kc15.1 E18.1) Kc20.1) Kc23.1)) (lEq g36.symm))) nin0)) ((P23_6.ext E36).keep Kc38 (ninS (nLt (lLt (lLt A13.lt (lTr (lTr (lTr Kc15.1 E18.1) Kc20.1) Kc23.1)) (lEq g36.symm))) nin0)) ((P23_7.ext E36).keep Kc38 (ninS (nLt (lLt (lLt A13.lt (lTr (lTr (lTr Kc15.1 E18.1) Kc20.1) Kc23.1)) (lEq g36.symm))) nin0)) g_b13 P38_0 ((P23_1.ext E36).keep Kc38) ((P23_2.ext E36).keep Kc38 (ninS (nLt (lLt P23_1.lt (lEq g36.symm))) nin0)) P23_3 g_b_23) hZ11 (Wd hw 59 rfl) (Wd hw 15 rfl) (by decide) (by decide)) q41a q41c (g := mkF m 119 #[vi p0, vi p1, vi p2, vi p3, vi p4, vi p5, vi (((p5 &&& (2147483647 : Int32)) % (3 : Int32)) + (1 : Int32)), vr bS_1, vr bS_3, vr bS_5, vr bS_7, vr bS_9, vr bS_11, vr b13, .unset, .unset] [(.ref b36), (.ref b13)]) rfl (by rw [hml]; rfl) (Steps.refl _) (argsL := [(.ref b36)]) (rest := []) (lenOf pdv42 rfl) rfl (by show 2 * 0 + _ ≤ _; exact lEq rfl) (hb hby at_119) (fun _ _ => ⟨rfl, rfl, (by decide : 22 + 0 ≤ _), (by decide : 65 + 0 ≤ _)⟩)
      dsimp only [Pt.U, Pt.locs, Pt.cells, Pt.slots] at X41 l41 y41 z41 st41 hQ41
      subst l41 y41 z41
      obtain ⟨rfl, N41q, Kc41, P41_0, P41_1, P41_2, P41_3, P41_4, P41_5, P41_6⟩ := hQ41
      have O41 := O38.keep Kc41 (allS g_b13 (allS g_b_23 all0))
      have Sf43 : Safe Z EL1 T11.vm T38.heap b_23 := Safe.exa (EL := EL1) hZ11.alike ((P23_1.ext E36).keep Kc38) (by decide) (by decide)
      have Sf44 : Safe Z EL1 T11.vm T38.heap b13 := Safe.exa (EL := EL1) hZ11.alike ((P23_4.ext E36).keep Kc38) (by decide) (by decide)
      have H_42 := H_39.keep Kc41 (sfS Sf44 (sfS Sf43 sf0))
      have R_42 := R_39.trans (CHr.keep Kc41 (sfS Sf44 (sfS Sf43 sf0)) H_39)
      have N41 := Fr.app N38 N41q
      obtain ⟨T45, h45, X45, e45, E45, A45, D45, U45, st45⟩ := newO X41 hx hZ11 hown11 (Wd hw 86 rfl) (Wd hw 87 rfl) (Wd hw 88 rfl) rfl (g := mkF m 123 #[vi p0, vi p1, vi p2, vi p3, vi p4, vi p5, vi (((p5 &&& (2147483647 : Int32)) % (3 : Int32)) + (1 : Int32)), vr bS_1, vr bS_3, vr bS_5, vr bS_7, vr bS_9, vr bS_11, vr b13, .unset, .unset] []) rfl (hb hby at_123) (by decide) (by decide)
      obtain ⟨b45, g45⟩ : ∃ z, z = T41.heap.size := ⟨_, rfl⟩
      rw [← g45] at A45 D45 U45 st45
      have g_b45 : n0 ≤ b45 := lTr (own_sz O41) (lEq g45.symm)
      have H_46 := H_42.ext E45
      have R_46 := R_42.trans (CHr.ext E45 H_42)
      have O45 := O41.ext E45
      have F_cause_b45 : Fld Z h45 b45 "java/lang/Throwable" "cause" "Ljava/lang/Throwable;" .null := D45 (Or.inl (Wd hw 260 rfl)) (ty := (.object "java/lang/Throwable")) (by decide)
      have F_stackTrace_b45 : Fld Z h45 b45 "java/lang/Throwable" "stackTrace" "[Ljava/lang/StackTraceElement;" .null := D45 (Or.inl (Wd hw 263 rfl)) (ty := (.array (.object "java/lang/StackTraceElement"))) (by decide)
      have F_suppressedExceptions_b45 : Fld Z h45 b45 "java/lang/Throwable" "suppressedExceptions" "Ljava/util/List;" .null := D45 (Or.inl (Wd hw 266 rfl)) (ty := (.object "java/util/List")) (by decide)
      have F_detailMessage_b45 : Fld Z h45 b45 "java/lang/Throwable" "detailMessage" "Ljava/lang/String;" .null := D45 (Or.inl (Wd hw 289 rfl)) (ty := (.object "java/lang/String")) (by decide)
      have F_backtrace_b45 : Fld Z h45 b45 "java/lang/Throwable" "backtrace" "Ljava/lang/Object;" .null := D45 (Or.inl (Wd hw 290 rfl)) (ty := (.object "java/lang/Object")) (by decide)
      have F_depth_b45 : Fld Z h45 b45 "java/lang/Throwable" "depth" "I" (.int 0) := D45 (Or.inl (Wd hw 291 rfl)) (ty := .int) (by decide)
      have F_problems_b45 : Fld Z h45 b45 "com/example/grantline/grantline/PolicyException" "problems" "Ljava/util/List;" .null := D45 (Or.inr (Wd hw 368 rfl)) (ty := (.object "java/util/List")) (by decide)
      obtain ⟨_, _, ⟨T47, L47, k47, n47⟩, -, X47', hS47', hg47, ⟨Lc47, hQ47, l47, y47, z47, Rs47⟩, st47⟩ := X45.specialBackS hx (y := MN_63) rfl hown11 (mvT hZ11 (Wd hw 89 rfl)) (mvT hZ11 (Wd hw 90 rfl)) (mvT hZ11 (Wd hw 91 rfl)) (by decide) (backOfSKH (W := 1) (rmX_2 l Z a0 hw [] hlt cS aDE kDE aUS aSS aIE mO b45 b13 b_23 kb_23 b18 b36 bS_1 vS_1 kS_1 nS_1 lS_1 bS_3 vS_3 kS_3 nS_3 lS_3 h45 n0 O45 GL A45 U45 F_cause_b45 F_stackTrace_b45 F_suppressedExceptions_b45 F_detailMessage_b45 F_backtrace_b45 F_problems_b45 g_b45 (P41_3.ext E45) (P41_4.ext E45) (P41_5.ext E45) (P41_0.ext E45) (P41_1.ext E45) (((((P20_0.keep Kc23).ext E36).keep Kc38).keep Kc41).ext E45) ((P38_0.keep Kc41).ext E45) (((((P20_1.keep Kc23 (ninS (Ne.symm (nLt (lLt (lLt A13.lt Kc15.1) (lEq g18.symm)))) nin0)).ext E36).keep Kc38 (ninS (nLt (lLt (lLt A18.lt (lTr Kc20.1 Kc23.1)) (lEq g36.symm))) nin0)).keep Kc41 (ninS (Ne.symm (nLt (lLt (lLt A13.lt Kc15.1) (lEq g18.symm)))) (ninS (nLt (lLt (lLt A18.lt Kc20.1) P23_0)) nin0))).ext E45) (((((P20_2.keep Kc23 (ninS (Ne.symm (nLt (lLt (lLt A13.lt Kc15.1) (lEq g18.symm)))) nin0)).ext E36).keep Kc38 (ninS (nLt (lLt (lLt A18.lt (lTr Kc20.1 Kc23.1)) (lEq g36.symm))) nin0)).keep Kc41 (ninS (Ne.symm (nLt (lLt (lLt A13.lt Kc15.1) (lEq g18.symm)))) (ninS (nLt (lLt (lLt A18.lt Kc20.1) P23_0)) nin0))).ext E45) ((((((((((((((P1_0.keep Kc3).keep Kc5).keep Kc7).keep Kc9).keep Kc11).ext E13).keep Kc15).ext E18).keep Kc20).keep Kc23).ext E36).keep Kc38).keep Kc41).ext E45) ((((((((((((((P1_1.keep Kc3 nin0).keep Kc5 nin0).keep Kc7 nin0).keep Kc9 nin0).keep Kc11 nin0).ext E13).keep Kc15 (ninS (nLt (lLt (lLt P1_0.lt (lTr (lTr (lTr (lTr Kc3.1 Kc5.1) Kc7.1) Kc9.1) Kc11.1)) (lEq g13.symm))) nin0)).ext E18).keep Kc20 (ninS (nLt (lLt (lLt P1_0.lt (lTr (lTr (lTr (lTr (lTr (lTr Kc3.1 Kc5.1) Kc7.1) Kc9.1) Kc11.1) E13.1) Kc15.1)) (lEq g18.symm))) nin0)).keep Kc23 (ninS (nLt (lLt (lLt P1_0.lt (lTr (lTr (lTr (lTr Kc3.1 Kc5.1) Kc7.1) Kc9.1) Kc11.1)) (lEq g13.symm))) nin0)).ext E36).keep Kc38 (ninS (nLt (lLt (lLt P1_0.lt (lTr (lTr (lTr (lTr (lTr (lTr (lTr (lTr (lTr Kc3.1 Kc5.1) Kc7.1) Kc9.1) Kc11.1) E13.1) Kc15.1) E18.1) Kc20.1) Kc23.1)) (lEq g36.symm))) nin0)).keep Kc41 (ninS (nLt (lLt (lLt P1_0.lt (lTr (lTr (lTr (lTr Kc3.1 Kc5.1) Kc7.1) Kc9.1) Kc11.1)) (lEq g13.symm))) (ninS (nLt (lLt (lLt P1_0.lt (lTr (lTr (lTr (lTr (lTr (lTr (lTr (lTr Kc3.1 Kc5.1) Kc7.1) Kc9.1) Kc11.1) E13.1) Kc15.1) E18.1) Kc20.1)) P23_0)) nin0))).ext E45) ((((((((((((((P1_2.keep Kc3 nin0).keep Kc5 nin0).keep Kc7 nin0).keep Kc9 nin0).keep Kc11 nin0).ext E13).keep Kc15 (ninS (nLt (lLt (lLt P1_0.lt (lTr (lTr (lTr (lTr Kc3.1 Kc5.1) Kc7.1) Kc9.1) Kc11.1)) (lEq g13.symm))) nin0)).ext E18).keep Kc20 (ninS (nLt (lLt (lLt P1_0.lt (lTr (lTr (lTr (lTr (lTr (lTr Kc3.1 Kc5.1) Kc7.1) Kc9.1) Kc11.1) E13.1) Kc15.1)) (lEq g18.symm))) nin0)).keep Kc23 (ninS (nLt (lLt (lLt P1_0.lt (lTr (lTr (lTr (lTr Kc3.1 Kc5.1) Kc7.1) Kc9.1) Kc11.1)) (lEq g13.symm))) nin0)).ext E36).keep Kc38 (ninS (nLt (lLt (lLt P1_0.lt (lTr (lTr (lTr (lTr (lTr (lTr (lTr (lTr (lTr Kc3.1 Kc5.1) Kc7.1) Kc9.1) Kc11.1) E13.1) Kc15.1) E18.1) Kc20.1) Kc23.1)) (lEq g36.symm))) nin0)).keep Kc41 (ninS (nLt (lLt (lLt P1_0.lt (lTr (lTr (lTr (lTr Kc3.1 Kc5.1) Kc7.1) Kc9.1) Kc11.1)) (lEq g13.symm))) (ninS (nLt (lLt (lLt P1_0.lt (lTr (lTr (lTr (lTr (lTr (lTr (lTr (lTr Kc3.1 Kc5.1) Kc7.1) Kc9.1) Kc11.1) E13.1) Kc15.1) E18.1) Kc20.1)) P23_0)) nin0))).ext E45) ((((((((((((((P1_3.keep Kc3 nin0).keep Kc5 nin0).keep Kc7 nin0).keep Kc9 nin0).keep Kc11 nin0).ext E13).keep Kc15 (ninS (nLt (lLt (lLt P1_3.lt (lTr (lTr (lTr (lTr Kc3.1 Kc5.1) Kc7.1) Kc9.1) Kc11.1)) (lEq g13.symm))) nin0)).ext E18).keep Kc20 (ninS (nLt (lLt (lLt P1_3.lt (lTr (lTr (lTr (lTr (lTr (lTr Kc3.1 Kc5.1) Kc7.1) Kc9.1) Kc11.1) E13.1) Kc15.1)) (lEq g18.symm))) nin0)).keep Kc23 (ninS (nLt (lLt (lLt P1_3.lt (lTr (lTr (lTr (lTr Kc3.1 Kc5.1) Kc7.1) Kc9.1) Kc11.1)) (lEq g13.symm))) nin0)).ext E36).keep Kc38 (ninS (nLt (lLt (lLt P1_3.lt (lTr (lTr (lTr (lTr (lTr (lTr (lTr (lTr (lTr Kc3.1 Kc5.1) Kc7.1) Kc9.1) Kc11.1) E13.1) Kc15.1) E18.1) Kc20.1) Kc23.1)) (lEq g36.symm))) nin0)).keep Kc41 (ninS (nLt (lLt (lLt P1_3.lt (lTr (lTr (lTr (lTr Kc3.1 Kc5.1) Kc7.1) Kc9.1) Kc11.1)) (lEq g13.symm))) (ninS (nLt (lLt (lLt P1_3.lt (lTr (lTr (lTr (lTr (lTr (lTr (lTr (lTr Kc3.1 Kc5.1) Kc7.1) Kc9.1) Kc11.1) E13.1) Kc15.1) E18.1) Kc20.1)) P23_0)) nin0))).ext E45) (((((((((((((P3_0.keep Kc5).keep Kc7).keep Kc9).keep Kc11).ext E13).keep Kc15).ext E18).keep Kc20).keep Kc23).ext E36).keep Kc38).keep Kc41).ext E45) (((((((((((((P3_1.keep Kc5 nin0).keep Kc7 nin0).keep Kc9 nin0).keep Kc11 nin0).ext E13).keep Kc15 (ninS (nLt (lLt (lLt P3_0.lt (lTr (lTr (lTr Kc5.1 Kc7.1) Kc9.1) Kc11.1)) (lEq g13.symm))) nin0)).ext E18).keep Kc20 (ninS (nLt (lLt (lLt P3_0.lt (lTr (lTr (lTr (lTr (lTr Kc5.1 Kc7.1) Kc9.1) Kc11.1) E13.1) Kc15.1)) (lEq g18.symm))) nin0)).keep Kc23 (ninS (nLt (lLt (lLt P3_0.lt (lTr (lTr (lTr Kc5.1 Kc7.1) Kc9.1) Kc11.1)) (lEq g13.symm))) nin0)).ext E36).keep Kc38 (ninS (nLt (lLt (lLt P3_0.lt (lTr (lTr (lTr (lTr (lTr (lTr (lTr (lTr Kc5.1 Kc7.1) Kc9.1) Kc11.1) E13.1) Kc15.1) E18.1) Kc20.1) Kc23.1)) (lEq g36.symm))) nin0)).keep Kc41 (ninS (nLt (lLt (lLt P3_0.lt (lTr (lTr (lTr Kc5.1 Kc7.1) Kc9.1) Kc11.1)) (lEq g13.symm))) (ninS (nLt (lLt (lLt P3_0.lt (lTr (lTr (lTr (lTr (lTr (lTr (lTr Kc5.1 Kc7.1) Kc9.1) Kc11.1) E13.1) Kc15.1) E18.1) Kc20.1)) P23_0)) nin0))).ext E45) (((((((((((((P3_2.keep Kc5 nin0).keep Kc7 nin0).keep Kc9 nin0).keep Kc11 nin0).ext E13).keep Kc15 (ninS (nLt (lLt (lLt P3_0.lt (lTr (lTr (lTr Kc5.1 Kc7.1) Kc9.1) Kc11.1)) (lEq g13.symm))) nin0)).ext E18).keep Kc20 (ninS (nLt (lLt (lLt P3_0.lt (lTr (lTr (lTr (lTr (lTr Kc5.1 Kc7.1) Kc9.1) Kc11.1) E13.1) Kc15.1)) (lEq g18.symm))) nin0)).keep Kc23 (ninS (nLt (lLt (lLt P3_0.lt (lTr (lTr (lTr Kc5.1 Kc7.1) Kc9.1) Kc11.1)) (lEq g13.symm))) nin0)).ext E36).keep Kc38 (ninS (nLt (lLt (lLt P3_0.lt (lTr (lTr (lTr (lTr (lTr (lTr (lTr (lTr Kc5.1 Kc7.1) Kc9.1) Kc11.1) E13.1) Kc15.1) E18.1) Kc20.1) Kc23.1)) (lEq g36.symm))) nin0)).keep Kc41 (ninS (nLt (lLt (lLt P3_0.lt (lTr (lTr (lTr Kc5.1 Kc7.1) Kc9.1) Kc11.1)) (lEq g13.symm))) (ninS (nLt (lLt (lLt P3_0.lt (lTr (lTr (lTr (lTr (lTr (lTr (lTr Kc5.1 Kc7.1) Kc9.1) Kc11.1) E13.1) Kc15.1) E18.1) Kc20.1)) P23_0)) nin0))).ext E45) (((((((((((((P3_3.keep Kc5 nin0).keep Kc7 nin0).keep Kc9 nin0).keep Kc11 nin0).ext E13).keep Kc15 (ninS (nLt (lLt (lLt P3_3.lt (lTr (lTr (lTr Kc5.1 Kc7.1) Kc9.1) Kc11.1)) (lEq g13.symm))) nin0)).ext E18).keep Kc20 (ninS (nLt (lLt (lLt P3_3.lt (lTr (lTr (lTr (lTr (lTr Kc5.1 Kc7.1) Kc9.1) Kc11.1) E13.1) Kc15.1)) (lEq g18.symm))) nin0)).keep Kc23 (ninS (nLt (lLt (lLt P3_3.lt (lTr (lTr (lTr Kc5.1 Kc7.1) Kc9.1) Kc11.1)) (lEq g13.symm))) nin0)).ext E36).keep Kc38 (ninS (nLt (lLt (lLt P3_3.lt (lTr (lTr (lTr (lTr (lTr (lTr (lTr (lTr Kc5.1 Kc7.1) Kc9.1) Kc11.1) E13.1) Kc15.1) E18.1) Kc20.1) Kc23.1)) (lEq g36.symm))) nin0)).keep Kc41 (ninS (nLt (lLt (lLt P3_3.lt (lTr (lTr (lTr Kc5.1 Kc7.1) Kc9.1) Kc11.1)) (lEq g13.symm))) (ninS (nLt (lLt (lLt P3_3.lt (lTr (lTr (lTr (lTr (lTr (lTr (lTr Kc5.1 Kc7.1) Kc9.1) Kc11.1) E13.1) Kc15.1) E18.1) Kc20.1)) P23_0)) nin0))).ext E45) P1_4 P1_5 P3_4 P3_5) hZ11 (Wd hw 91 rfl) (Wd hw 88 rfl) (by decide) (by decide) (own_EW hw) H_46 (hTK.alikeC (hZ.alike.symm.trans hZ11.alike)) (hBW.alikeC (hZ.alike.symm.trans hZ11.alike))) (g := mkF m 129 #[vi p0, vi p1, vi p2, vi p3, vi p4, vi p5, vi (((p5 &&& (2147483647 : Int32)) % (3 : Int32)) + (1 : Int32)), vr bS_1, vr bS_3, vr bS_5, vr bS_7, vr bS_9, vr bS_11, vr b13, .unset, .unset] [(.ref b13), (.ref b45), (.ref b45)]) rfl (by rw [hml]; rfl) (Steps.refl _) (a := b45) (argsL := [(.ref b13)]) (rest := [(.ref b45)]) (lenOf pdv43 rfl) rfl (by show 2 * 0 + _ ≤ _; exact lEq rfl) (hb hby at_129) (fun _ _ => ⟨rfl, e45, (by decide : 23 + 9 ≤ _), (by decide : 72 + 2808 ≤ _)⟩)
      dsimp only [Pt.U, Pt.locs, Pt.cells, Pt.slots] at X47' l47 y47 z47 st47 hQ47 hS47' hg47 Rs47
      subst l47 y47 z47
      obtain ⟨X47, hS47, hZ47, hown47⟩ := rebS hS11 (by rw [e45]; exact (lTr (lTr (lTr (lTr (lTr (lTr (lTr (lTr (lTr (Nat.le_refl _) E13.1) Kc15.1) E18.1) Kc20.1) Kc23.1) E36.1) Kc38.1) Kc41.1) E45.1)) X47' hS47' hg47 hZ11 hown11
      obtain ⟨b_47, rfl, N47q, Kc47, P47_0, P47_1, P47_2, P47_3⟩ := hQ47
      have O47 := O45.keep Kc47 (allS g_b45 all0)
      have H_48 := Rs47.1
      have R_48 := R_46.trans Rs47
      have N47 := Fr.app N41 N47q
      obtain ⟨cq49, kq49, q49a, q49b, q49c⟩ := isOf hZ47 rfl P47_0
      obtain ⟨_, _, ⟨T49, L49, k49, n49⟩, -, X49, ⟨Lc49, hQ49, l49, y49, z49⟩, st49⟩ := X47.virtualBack hx (y := MN_66) (z := MN_66) hown47 (mvT hZ47 (Wd hw 369 rfl)) (mvT hZ47 (Wd hw 370 rfl)) (notFace_of_selects (args := #[]) (mvT hZ47 (Wd hw 372 rfl))) (mvT hZ47 (Wd hw 372 rfl)) (mvT hZ47 (Wd hw 371 rfl)) (by decide) (backOf (W := 0) (rmP12 l Z a0 hw [] cS aDE kDE aUS aSS aIE mO b45 b_47 b18 bS_3 (T47.heap) n0 O47 GL P47_2 P47_3 P47_1 ((((((P20_0.keep Kc23).ext E36).keep Kc38).keep Kc41).ext E45).keep Kc47) ((((((P20_2.keep Kc23 (ninS (Ne.symm (nLt (lLt (lLt A13.lt Kc15.1) (lEq g18.symm)))) nin0)).ext E36).keep Kc38 (ninS (nLt (lLt (lLt A18.lt (lTr Kc20.1 Kc23.1)) (lEq g36.symm))) nin0)).keep Kc41 (ninS (Ne.symm (nLt (lLt (lLt A13.lt Kc15.1) (lEq g18.symm)))) (ninS (nLt (lLt (lLt A18.lt Kc20.1) P23_0)) nin0))).ext E45).keep Kc47 (ninS (nLt (lLt (lLt A18.lt (lTr (lTr (lTr (lTr Kc20.1 Kc23.1) E36.1) Kc38.1) Kc41.1)) (lEq g45.symm))) nin0))) hZ47 (Wd hw 373 rfl) (Wd hw 88 rfl) (by decide) (by decide)) q49a q49c (g := mkF m 136 #[vi p0, vi p1, vi p2, vi p3, vi p4, vi p5, vi (((p5 &&& (2147483647 : Int32)) % (3 : Int32)) + (1 : Int32)), vr bS_1, vr bS_3, vr bS_5, vr bS_7, vr bS_9, vr bS_11, vr b13, vr b45, .unset] [(.ref b45)]) rfl (by rw [hml]; rfl) (Steps.refl _) (argsL := []) (rest := []) (lenOf pdv20 rfl) rfl (by show 2 * 0 + _ ≤ _; exact lEq rfl) (hb hby at_136) (fun _ _ => ⟨rfl, rfl, (by decide : 32 + 0 ≤ _), (by decide : 2880 + 0 ≤ _)⟩)
      dsimp only [Pt.U, Pt.locs, Pt.cells, Pt.slots] at X49 l49 y49 z49 st49 hQ49
      subst l49 y49 z49
      obtain ⟨rfl, N49q, e49⟩ := hQ49
      have N49 := Fr.app N47 N49q
      obtain ⟨cq50, kq50, q50a, q50b, q50c⟩ := isOf hZ47 e49 ((((((((((((((P3_0.keep Kc5).keep Kc7).keep Kc9).keep Kc11).ext E13).keep Kc15).ext E18).keep Kc20).keep Kc23).ext E36).keep Kc38).keep Kc41).ext E45).keep Kc47)
      obtain ⟨_, _, ⟨T50, L50, k50, n50⟩, -, X50, ⟨Lc50, hQ50, l50, y50, z50⟩, st50⟩ := X49.virtualBack hx (y := MN_67) (z := MN_67) hown47 (mvT hZ47 (Wd hw 385 rfl)) (mvT hZ47 (Wd hw 386 rfl)) (notFace_of_selects (args := #[]) (mvT hZ47 (Wd hw 388 rfl))) (mvT hZ47 (Wd hw 388 rfl)) (mvT hZ47 (Wd hw 387 rfl)) (by decide) (backOf (W := 0) (rmEq l Z a0 hw [] cS aDE kDE aUS aSS aIE mO bS_3 (T47.heap) n0 O47 GL) hZ47 (Wd hw 389 rfl) (Wd hw 6 rfl) (by decide) (by decide)) q50a q50c (g := mkF m 150 #[vi p0, vi p1, vi p2, vi p3, vi p4, vi p5, vi (((p5 &&& (2147483647 : Int32)) % (3 : Int32)) + (1 : Int32)), vr bS_1, vr bS_3, vr bS_5, vr bS_7, vr bS_9, vr bS_11, vr b13, vr b45, vr bS_3] [(.ref bS_3), (.ref bS_3)]) rfl (by rw [hml]; rfl) (Steps.refl _) (argsL := [(.ref bS_3)]) (rest := []) (lenOf pdv42 rfl) rfl (by show 2 * 0 + _ ≤ _; exact lEq rfl) (hb hby at_150) (fun _ _ => ⟨rfl, e49, (by decide : 32 + 0 ≤ _), (by decide : 2880 + 0 ≤ _)⟩)
      dsimp only [Pt.U, Pt.locs, Pt.cells, Pt.slots] at X50 l50 y50 z50 st50 hQ50
      subst l50 y50 z50
      obtain ⟨rfl, N50q, e50⟩ := hQ50
      have N50 := Fr.app N49 N50q
      obtain ⟨fs, hr, hrun, hended, hRW⟩ := X50.leaveW hS47 (by rw [e50]; exact (Nat.le_refl _)) (v := some (.int 1)) (fun h => by rw [Bd.returns] at h; cases h)
      have hCR : CHr Z EL1 s.vm s.heap T50.vm T50.heap := by
        rw [hh, e50]
        exact R_48.trans (CHv.at X50 hZ47 (own_EW hw) H_48)
      refine ⟨_, _, pre29 _ ?_, hrun, hended, _, _, rfl, ?_, hCR, hRW.1, hRW.2.1, hRW.2.2.1, hRW.2.2.2.mono (by decide) (by decide)⟩
      · show SP p e below T23 m 103 #[vi p0, vi p1, vi p2, vi p3, vi p4, vi p5, vi (((p5 &&& (2147483647 : Int32)) % (3 : Int32)) + (1 : Int32)), vr bS_1, vr bS_3, vr bS_5, vr bS_7, vr bS_9, vr bS_11, vr b13, .unset, .unset] [(.int 3), (.int (((p5 &&& (2147483647 : Int32)) % (3 : Int32)) + (1 : Int32)))] _
        refine XS.icmpNo X23.here hx rfl (hb hby at_103) rfl (flt hc103_28).1 ?_
        refine XS.aload X23.here hx rfl (hb hby at_106) rfl rfl ?_
        show SP p e below T23 m 108 #[vi p0, vi p1, vi p2, vi p3, vi p4, vi p5, vi (((p5 &&& (2147483647 : Int32)) % (3 : Int32)) + (1 : Int32)), vr bS_1, vr bS_3, vr bS_5, vr bS_7, vr bS_9, vr bS_11, vr b13, .unset, .unset] [(.ref b13)] _
        refine st36 _ ?_
        show SP p e below T36 m 111 #[vi p0, vi p1, vi p2, vi p3, vi p4, vi p5, vi (((p5 &&& (2147483647 : Int32)) % (3 : Int32)) + (1 : Int32)), vr bS_1, vr bS_3, vr bS_5, vr bS_7, vr bS_9, vr bS_11, vr b13, .unset, .unset] [(.ref b36), (.ref b13)] _
        refine XS.dup X36.here hx rfl (hb hby at_111) rfl rfl ?_
        refine XS.aload X36.here hx rfl (hb hby at_112) rfl rfl ?_
        refine XS.aload X36.here hx rfl (hb hby at_114) rfl rfl ?_
        show SP p e below T36 m 116 #[vi p0, vi p1, vi p2, vi p3, vi p4, vi p5, vi (((p5 &&& (2147483647 : Int32)) % (3 : Int32)) + (1 : Int32)), vr bS_1, vr bS_3, vr bS_5, vr bS_7, vr bS_9, vr bS_11, vr b13, .unset, .unset] [(.ref bS_11), (.ref bS_9), (.ref b36), (.ref b36), (.ref b13)] _
        refine st38.trans ?_
        show SP p e below T38 m 119 #[vi p0, vi p1, vi p2, vi p3, vi p4, vi p5, vi (((p5 &&& (2147483647 : Int32)) % (3 : Int32)) + (1 : Int32)), vr bS_1, vr bS_3, vr bS_5, vr bS_7, vr bS_9, vr bS_11, vr b13, .unset, .unset] [(.ref b36), (.ref b13)] _
        refine st41.trans ?_
        show SP p e below T41 m 122 #[vi p0, vi p1, vi p2, vi p3, vi p4, vi p5, vi (((p5 &&& (2147483647 : Int32)) % (3 : Int32)) + (1 : Int32)), vr bS_1, vr bS_3, vr bS_5, vr bS_7, vr bS_9, vr bS_11, vr b13, .unset, .unset] [(.int 1)] _
        refine XS.pop X41.here hx rfl (hb hby at_122) rfl rfl ?_
        show SP p e below T41 m 123 #[vi p0, vi p1, vi p2, vi p3, vi p4, vi p5, vi (((p5 &&& (2147483647 : Int32)) % (3 : Int32)) + (1 : Int32)), vr bS_1, vr bS_3, vr bS_5, vr bS_7, vr bS_9, vr bS_11, vr b13, .unset, .unset] [] _
        refine st45 _ ?_
        show SP p e below T45 m 126 #[vi p0, vi p1, vi p2, vi p3, vi p4, vi p5, vi (((p5 &&& (2147483647 : Int32)) % (3 : Int32)) + (1 : Int32)), vr bS_1, vr bS_3, vr bS_5, vr bS_7, vr bS_9, vr bS_11, vr b13, .unset, .unset] [(.ref b45)] _
        refine XS.dup X45.here hx rfl (hb hby at_126) rfl rfl ?_
        refine XS.aload X45.here hx rfl (hb hby at_127) rfl rfl ?_
        show SP p e below T45 m 129 #[vi p0, vi p1, vi p2, vi p3, vi p4, vi p5, vi (((p5 &&& (2147483647 : Int32)) % (3 : Int32)) + (1 : Int32)), vr bS_1, vr bS_3, vr bS_5, vr bS_7, vr bS_9, vr bS_11, vr b13, .unset, .unset] [(.ref b13), (.ref b45), (.ref b45)] _
        refine st47.trans ?_
        show SP p e below T47 m 132 #[vi p0, vi p1, vi p2, vi p3, vi p4, vi p5, vi (((p5 &&& (2147483647 : Int32)) % (3 : Int32)) + (1 : Int32)), vr bS_1, vr bS_3, vr bS_5, vr bS_7, vr bS_9, vr bS_11, vr b13, .unset, .unset] [(.ref b45)] _
        refine XS.astore X47.here hx rfl (hb hby at_132) rfl rfl (l' := #[vi p0, vi p1, vi p2, vi p3, vi p4, vi p5, vi (((p5 &&& (2147483647 : Int32)) % (3 : Int32)) + (1 : Int32)), vr bS_1, vr bS_3, vr bS_5, vr bS_7, vr bS_9, vr bS_11, vr b13, vr b45, .unset]) rfl ?_
        refine XS.aload X47.here hx rfl (hb hby at_134) rfl rfl ?_
        show SP p e below T47 m 136 #[vi p0, vi p1, vi p2, vi p3, vi p4, vi p5, vi (((p5 &&& (2147483647 : Int32)) % (3 : Int32)) + (1 : Int32)), vr bS_1, vr bS_3, vr bS_5, vr bS_7, vr bS_9, vr bS_11, vr b13, vr b45, .unset] [(.ref b45)] _
        refine st49.trans ?_
        show SP p e below T49 m 139 #[vi p0, vi p1, vi p2, vi p3, vi p4, vi p5, vi (((p5 &&& (2147483647 : Int32)) % (3 : Int32)) + (1 : Int32)), vr bS_1, vr bS_3, vr bS_5, vr bS_7, vr bS_9, vr bS_11, vr b13, vr b45, .unset] [(.ref bS_3)] _
        refine XS.astore X49.here hx rfl (hb hby at_139) rfl rfl (l' := #[vi p0, vi p1, vi p2, vi p3, vi p4, vi p5, vi (((p5 &&& (2147483647 : Int32)) % (3 : Int32)) + (1 : Int32)), vr bS_1, vr bS_3, vr bS_5, vr bS_7, vr bS_9, vr bS_11, vr b13, vr b45, vr bS_3]) rfl ?_
        refine XS.aload X49.here hx rfl (hb hby at_141) rfl rfl ?_
        refine XS.ifnullNo X49.here hx rfl (hb hby at_143) rfl ?_
        refine XS.aload X49.here hx rfl (hb hby at_146) rfl rfl ?_
        refine XS.aload X49.here hx rfl (hb hby at_148) rfl rfl ?_
        show SP p e below T49 m 150 #[vi p0, vi p1, vi p2, vi p3, vi p4, vi p5, vi (((p5 &&& (2147483647 : Int32)) % (3 : Int32)) + (1 : Int32)), vr bS_1, vr bS_3, vr bS_5, vr bS_7, vr bS_9, vr bS_11, vr b13, vr b45, vr bS_3] [(.ref bS_3), (.ref bS_3)] _
        refine st50.trans ?_
        show SP p e below T50 m 153 #[vi p0, vi p1, vi p2, vi p3, vi p4, vi p5, vi (((p5 &&& (2147483647 : Int32)) % (3 : Int32)) + (1 : Int32)), vr bS_1, vr bS_3, vr bS_5, vr bS_7, vr bS_9, vr bS_11, vr b13, vr b45, vr bS_3] [(.int 1)] _
        refine XS.ifNo X50.here hx rfl (hb hby at_153) rfl ((if0 _ _).trans (feq (by decide : ¬ ((1 : Int32) = (0 : Int32)))).1) ?_
        refine XS.iconst X50.here hx rfl (hb hby at_156) ?_
        refine XS.goto X50.here hx rfl (pc0 := 157) (pc' := 161) rfl (hb hby at_157) (by decide) (by decide) ?_
        show SP p e below T50 m 161 #[vi p0, vi p1, vi p2, vi p3, vi p4, vi p5, vi (((p5 &&& (2147483647 : Int32)) % (3 : Int32)) + (1 : Int32)), vr bS_1, vr bS_3, vr bS_5, vr bS_7, vr bS_9, vr bS_11, vr b13, vr b45, vr bS_3] [(.int 1)] _
        exact retN X50 hx (t := .boolean) Bd.returns (by simp) (hb hby at_161) hr
      · show Q_rm0 n0 _ T50.heap _
        rw [e50]
        exact ⟨rfl, N50⟩
  · obtain ⟨T51, h51, X51, e51, E51, A51, D51, -, st51⟩ := newO X23 hx hZ11 hown11 (Wd hw 39 rfl) (Wd hw 40 rfl) (Wd hw 41 rfl) rfl (g := mkF m 85 #[vi p0, vi p1, vi p2, vi p3, vi p4, vi p5, vi (((p5 &&& (2147483647 : Int32)) % (3 : Int32)) + (1 : Int32)), vr bS_1, vr bS_3, vr bS_5, vr bS_7, vr bS_9, vr bS_11, vr b13, .unset, .unset] [(.ref b13)]) rfl (hb hby at_85) (by decide) (by decide)
    obtain ⟨b51, g51⟩ : ∃ z, z = T23.heap.size := ⟨_, rfl⟩
    rw [← g51] at A51 D51 st51
    have g_b51 : n0 ≤ b51 := lTr (own_sz O23) (lEq g51.symm)
    have H_52 := H_24.ext E51
    have R_52 := R_24.trans (CHr.ext E51 H_24)
    have O51 := O23.ext E51
    have F_pointer_b51 : Fld Z h51 b51 "com/example/grantline/grantline/PolicyException$Problem" "pointer" "Ljava/lang/String;" .null := D51 (Or.inr (Wd hw 52 rfl)) (ty := (.object "java/lang/String")) (by decide)
    have F_description_b51 : Fld Z h51 b51 "com/example/grantline/grantline/PolicyException$Problem" "description" "Ljava/lang/String;" .null := D51 (Or.inr (Wd hw 54 rfl)) (ty := (.object "java/lang/String")) (by decide)
    obtain ⟨_, _, ⟨T53, L53, k53, n53⟩, -, X53, ⟨Lc53, hQ53, l53, y53, z53⟩, st53⟩ := X51.specialBack hx (y := MN_27) rfl hown11 (mvT hZ11 (Wd hw 42 rfl)) (mvT hZ11 (Wd hw 43 rfl)) (mvT hZ11 (Wd hw 44 rfl)) (by decide) (backOf (W := 2) (rmPi l Z a0 hw [] cS aDE kDE aUS aSS aIE mO b51 bS_5 bS_7 h51 n0 O51 GL A51 F_pointer_b51 F_description_b51 g_b51) hZ11 (Wd hw 44 rfl) (Wd hw 41 rfl) (by decide) (by decide)) (g := mkF m 93 #[vi p0, vi p1, vi p2, vi p3, vi p4, vi p5, vi (((p5 &&& (2147483647 : Int32)) % (3 : Int32)) + (1 : Int32)), vr bS_1, vr bS_3, vr bS_5, vr bS_7, vr bS_9, vr bS_11, vr b13, .unset, .unset] [(.ref bS_7), (.ref bS_5), (.ref b51), (.ref b51), (.ref b13)]) rfl (by rw [hml]; rfl) (Steps.refl _) (a := b51) (argsL := [(.ref bS_5), (.ref bS_7)]) (rest := [(.ref b51), (.ref b13)]) (lenOf pdv41 rfl) rfl (by show 2 * 0 + _ ≤ _; exact lEq rfl) (hb hby at_93) (fun _ _ => ⟨rfl, e51, (by decide : 22 + 0 ≤ _), (by decide : 65 + 0 ≤ _)⟩)
    dsimp only [Pt.U, Pt.locs, Pt.cells, Pt.slots] at X53 l53 y53 z53 st53 hQ53
    subst l53 y53 z53
    obtain ⟨rfl, N53q, Kc53, P53_0, P53_1, P53_2⟩ := hQ53
    have O53 := O51.keep Kc53 (allS g_b51 all0)
    have Sf55 : Safe Z EL1 T11.vm h51 b51 := Safe.exa (EL := EL1) hZ11.alike A51 (by decide) (by decide)
    have H_54 := H_52.keep Kc53 (sfS Sf55 sf0)
    have R_54 := R_52.trans (CHr.keep Kc53 (sfS Sf55 sf0) H_52)
    have N53 := Fr.app N23 N53q
    obtain ⟨cq56, kq56, q56a, q56b, q56c⟩ := isOf hZ11 rfl ((P23_4.ext E51).keep Kc53)
    obtain ⟨_, _, ⟨T56, L56, k56, n56⟩, -, X56, ⟨Lc56, hQ56, l56, y56, z56⟩, st56⟩ := X53.virtualBack hx (y := MN_37) (z := MN_37) hown11 (mvT hZ11 (Wd hw 55 rfl)) (mvT hZ11 (Wd hw 56 rfl)) (notFace_of_selects (args := #[]) (mvT hZ11 (Wd hw 58 rfl))) (mvT hZ11 (Wd hw 58 rfl)) (mvT hZ11 (Wd hw 57 rfl)) (by decide) (backOf (W := 0) (rmA1_1 l Z a0 hw [] cS aDE kDE aUS aSS aIE mO b13 b51 b_23 (((0 : Int32) + (1 : Int32))) kb_23 b18 (T53.heap) n0 O53 GL ((P23_4.ext E51).keep Kc53) ((P23_5.ext E51).keep Kc53 (ninS (nLt (lLt (lLt A13.lt (lTr (lTr (lTr Kc15.1 E18.1) Kc20.1) Kc23.1)) (lEq g51.symm))) nin0)) ((P23_6.ext E51).keep Kc53 (ninS (nLt (lLt (lLt A13.lt (lTr (lTr (lTr Kc15.1 E18.1) Kc20.1) Kc23.1)) (lEq g51.symm))) nin0)) ((P23_7.ext E51).keep Kc53 (ninS (nLt (lLt (lLt A13.lt (lTr (lTr (lTr Kc15.1 E18.1) Kc20.1) Kc23.1)) (lEq g51.symm))) nin0)) g_b13 P53_0 ((P23_1.ext E51).keep Kc53) ((P23_2.ext E51).keep Kc53 (ninS (nLt (lLt P23_1.lt (lEq g51.symm))) nin0)) P23_3 g_b_23) hZ11 (Wd hw 59 rfl) (Wd hw 15 rfl) (by decide) (by decide)) q56a q56c (g := mkF m 96 #[vi p0, vi p1, vi p2, vi p3, vi p4, vi p5, vi (((p5 &&& (2147483647 : Int32)) % (3 : Int32)) + (1 : Int32)), vr bS_1, vr bS_3, vr bS_5, vr bS_7, vr bS_9, vr bS_11, vr b13, .unset, .unset] [(.ref b51), (.ref b13)]) rfl (by rw [hml]; rfl) (Steps.refl _) (argsL := [(.ref b51)]) (rest := []) (lenOf pdv42 rfl) rfl (by show 2 * 0 + _ ≤ _; exact lEq rfl) (hb hby at_96) (fun _ _ => ⟨rfl, rfl, (by decide : 22 + 0 ≤ _), (by decide : 65 + 0 ≤ _)⟩)
    dsimp only [Pt.U, Pt.locs, Pt.cells, Pt.slots] at X56 l56 y56 z56 st56 hQ56
    subst l56 y56 z56
    obtain ⟨rfl, N56q, Kc56, P56_0, P56_1, P56_2, P56_3, P56_4, P56_5, P56_6⟩ := hQ56
    have O56 := O53.keep Kc56 (allS g_b13 (allS g_b_23 all0))
    have Sf58 : Safe Z EL1 T11.vm T53.heap b_23 := Safe.exa (EL := EL1) hZ11.alike ((P23_1.ext E51).keep Kc53) (by decide) (by decide)
    have Sf59 : Safe Z EL1 T11.vm T53.heap b13 := Safe.exa (EL := EL1) hZ11.alike ((P23_4.ext E51).keep Kc53) (by decide) (by decide)
    have H_57 := H_54.keep Kc56 (sfS Sf59 (sfS Sf58 sf0))
    have R_57 := R_54.trans (CHr.keep Kc56 (sfS Sf59 (sfS Sf58 sf0)) H_54)
    have N56 := Fr.app N53 N56q
    have pre61 : ∀ t, SP p e below T56 m 103 #[vi p0, vi p1, vi p2, vi p3, vi p4, vi p5, vi (((p5 &&& (2147483647 : Int32)) % (3 : Int32)) + (1 : Int32)), vr bS_1, vr bS_3, vr bS_5, vr bS_7, vr bS_9, vr bS_11, vr b13, .unset, .unset] [(.int 3), (.int (((p5 &&& (2147483647 : Int32)) % (3 : Int32)) + (1 : Int32)))] t → Steps p.tables e below (s₁.setTop (entryFrame m #[(.int p0), (.int p1), (.int p2), (.int p3), (.int p4), (.int p5)] maxLocals)) t := fun t kt => by
      refine pre27 t ?_
      show SP p e below T23 m 80 #[vi p0, vi p1, vi p2, vi p3, vi p4, vi p5, vi (((p5 &&& (2147483647 : Int32)) % (3 : Int32)) + (1 : Int32)), vr bS_1, vr bS_3, vr bS_5, vr bS_7, vr bS_9, vr bS_11, vr b13, .unset, .unset] [(.int 2), (.int (((p5 &&& (2147483647 : Int32)) % (3 : Int32)) + (1 : Int32)))] _
      refine XS.icmpNo X23.here hx rfl (hb hby at_80) rfl (flt hc80_26).1 ?_
      refine XS.aload X23.here hx rfl (hb hby at_83) rfl rfl ?_
      show SP p e below T23 m 85 #[vi p0, vi p1, vi p2, vi p3, vi p4, vi p5, vi (((p5 &&& (2147483647 : Int32)) % (3 : Int32)) + (1 : Int32)), vr bS_1, vr bS_3, vr bS_5, vr bS_7, vr bS_9, vr bS_11, vr b13, .unset, .unset] [(.ref b13)] _
      refine st51 _ ?_
      show SP p e below T51 m 88 #[vi p0, vi p1, vi p2, vi p3, vi p4, vi p5, vi (((p5 &&& (2147483647 : Int32)) % (3 : Int32)) + (1 : Int32)), vr bS_1, vr bS_3, vr bS_5, vr bS_7, vr bS_9, vr bS_11, vr b13, .unset, .unset] [(.ref b51), (.ref b13)] _
      refine XS.dup X51.here hx rfl (hb hby at_88) rfl rfl ?_
      refine XS.aload X51.here hx rfl (hb hby at_89) rfl rfl ?_
      refine XS.aload X51.here hx rfl (hb hby at_91) rfl rfl ?_
      show SP p e below T51 m 93 #[vi p0, vi p1, vi p2, vi p3, vi p4, vi p5, vi (((p5 &&& (2147483647 : Int32)) % (3 : Int32)) + (1 : Int32)), vr bS_1, vr bS_3, vr bS_5, vr bS_7, vr bS_9, vr bS_11, vr b13, .unset, .unset] [(.ref bS_7), (.ref bS_5), (.ref b51), (.ref b51), (.ref b13)] _
      refine st53.trans ?_
      show SP p e below T53 m 96 #[vi p0, vi p1, vi p2, vi p3, vi p4, vi p5, vi (((p5 &&& (2147483647 : Int32)) % (3 : Int32)) + (1 : Int32)), vr bS_1, vr bS_3, vr bS_5, vr bS_7, vr bS_9, vr bS_11, vr b13, .unset, .unset] [(.ref b51), (.ref b13)] _
      refine st56.trans ?_
      show SP p e below T56 m 99 #[vi p0, vi p1, vi p2, vi p3, vi p4, vi p5, vi (((p5 &&& (2147483647 : Int32)) % (3 : Int32)) + (1 : Int32)), vr bS_1, vr bS_3, vr bS_5, vr bS_7, vr bS_9, vr bS_11, vr b13, .unset, .unset] [(.int 1)] _
      refine XS.pop X56.here hx rfl (hb hby at_99) rfl rfl ?_
      refine XS.iload X56.here hx rfl (hb hby at_100) rfl ?_
      refine XS.iconst X56.here hx rfl (hb hby at_102) ?_
      exact kt
    by_cases hc103_60 : (((p5 &&& (2147483647 : Int32)) % (3 : Int32)) + (1 : Int32)) < (3 : Int32)
    · obtain ⟨T62, h62, X62, e62, E62, A62, D62, U62, st62⟩ := newO X56 hx hZ11 hown11 (Wd hw 86 rfl) (Wd hw 87 rfl) (Wd hw 88 rfl) rfl (g := mkF m 123 #[vi p0, vi p1, vi p2, vi p3, vi p4, vi p5, vi (((p5 &&& (2147483647 : Int32)) % (3 : Int32)) + (1 : Int32)), vr bS_1, vr bS_3, vr bS_5, vr bS_7, vr bS_9, vr bS_11, vr b13, .unset, .unset] []) rfl (hb hby at_123) (by decide) (by decide)
      obtain ⟨b62, g62⟩ : ∃ z, z = T56.heap.size := ⟨_, rfl⟩
      rw [← g62] at A62 D62 U62 st62
      have g_b62 : n0 ≤ b62 := lTr (own_sz O56) (lEq g62.symm)
      have H_63 := H_57.ext E62
      have R_63 := R_57.trans (CHr.ext E62 H_57)
      have O62 := O56.ext E62
      have F_cause_b62 : Fld Z h62 b62 "java/lang/Throwable" "cause" "Ljava/lang/Throwable;" .null := D62 (Or.inl (Wd hw 260 rfl)) (ty := (.object "java/lang/Throwable")) (by decide)
      have F_stackTrace_b62 : Fld Z h62 b62 "java/lang/Throwable" "stackTrace" "[Ljava/lang/StackTraceElement;" .null := D62 (Or.inl (Wd hw 263 rfl)) (ty := (.array (.object "java/lang/StackTraceElement"))) (by decide)
      have F_suppressedExceptions_b62 : Fld Z h62 b62 "java/lang/Throwable" "suppressedExceptions" "Ljava/util/List;" .null := D62 (Or.inl (Wd hw 266 rfl)) (ty := (.object "java/util/List")) (by decide)
      have F_detailMessage_b62 : Fld Z h62 b62 "java/lang/Throwable" "detailMessage" "Ljava/lang/String;" .null := D62 (Or.inl (Wd hw 289 rfl)) (ty := (.object "java/lang/String")) (by decide)
      have F_backtrace_b62 : Fld Z h62 b62 "java/lang/Throwable" "backtrace" "Ljava/lang/Object;" .null := D62 (Or.inl (Wd hw 290 rfl)) (ty := (.object "java/lang/Object")) (by decide)
      have F_depth_b62 : Fld Z h62 b62 "java/lang/Throwable" "depth" "I" (.int 0) := D62 (Or.inl (Wd hw 291 rfl)) (ty := .int) (by decide)
      have F_problems_b62 : Fld Z h62 b62 "com/example/grantline/grantline/PolicyException" "problems" "Ljava/util/List;" .null := D62 (Or.inr (Wd hw 368 rfl)) (ty := (.object "java/util/List")) (by decide)
      obtain ⟨_, _, ⟨T64, L64, k64, n64⟩, -, X64', hS64', hg64, ⟨Lc64, hQ64, l64, y64, z64, Rs64⟩, st64⟩ := X62.specialBackS hx (y := MN_63) rfl hown11 (mvT hZ11 (Wd hw 89 rfl)) (mvT hZ11 (Wd hw 90 rfl)) (mvT hZ11 (Wd hw 91 rfl)) (by decide) (backOfSKH (W := 1) (rmX_2 l Z a0 hw [] hlt cS aDE kDE aUS aSS aIE mO b62 b13 b_23 kb_23 b18 b51 bS_1 vS_1 kS_1 nS_1 lS_1 bS_3 vS_3 kS_3 nS_3 lS_3 h62 n0 O62 GL A62 U62 F_cause_b62 F_stackTrace_b62 F_suppressedExceptions_b62 F_detailMessage_b62 F_backtrace_b62 F_problems_b62 g_b62 (P56_3.ext E62) (P56_4.ext E62) (P56_5.ext E62) (P56_0.ext E62) (P56_1.ext E62) (((((P20_0.keep Kc23).ext E51).keep Kc53).keep Kc56).ext E62) ((P53_0.keep Kc56).ext E62) (((((P20_1.keep Kc23 (ninS (Ne.symm (nLt (lLt (lLt A13.lt Kc15.1) (lEq g18.symm)))) nin0)).ext E51).keep Kc53 (ninS (nLt (lLt (lLt A18.lt (lTr Kc20.1 Kc23.1)) (lEq g51.symm))) nin0)).keep Kc56 (ninS (Ne.symm (nLt (lLt (lLt A13.lt Kc15.1) (lEq g18.symm)))) (ninS (nLt (lLt (lLt A18.lt Kc20.1) P23_0)) nin0))).ext E62) (((((P20_2.keep Kc23 (ninS (Ne.symm (nLt (lLt (lLt A13.lt Kc15.1) (lEq g18.symm)))) nin0)).ext E51).keep Kc53 (ninS (nLt (lLt (lLt A18.lt (lTr Kc20.1 Kc23.1)) (lEq g51.symm))) nin0)).keep Kc56 (ninS (Ne.symm (nLt (lLt (lLt A13.lt Kc15.1) (lEq g18.symm)))) (ninS (nLt (lLt (lLt A18.lt Kc20.1) P23_0)) nin0))).ext E62) ((((((((((((((P1_0.keep Kc3).keep Kc5).keep Kc7).keep Kc9).keep Kc11).ext E13).keep Kc15).ext E18).keep Kc20).keep Kc23).ext E51).keep Kc53).keep Kc56).ext E62) ((((((((((((((P1_1.keep Kc3 nin0).keep Kc5 nin0).keep Kc7 nin0).keep Kc9 nin0).keep Kc11 nin0).ext E13).keep Kc15 (ninS (nLt (lLt (lLt P1_0.lt (lTr (lTr (lTr (lTr Kc3.1 Kc5.1) Kc7.1) Kc9.1) Kc11.1)) (lEq g13.symm))) nin0)).ext E18).keep Kc20 (ninS (nLt (lLt (lLt P1_0.lt (lTr (lTr (lTr (lTr (lTr (lTr Kc3.1 Kc5.1) Kc7.1) Kc9.1) Kc11.1) E13.1) Kc15.1)) (lEq g18.symm))) nin0)).keep Kc23 (ninS (nLt (lLt (lLt P1_0.lt (lTr (lTr (lTr (lTr Kc3.1 Kc5.1) Kc7.1) Kc9.1) Kc11.1)) (lEq g13.symm))) nin0)).ext E51).keep Kc53 (ninS (nLt (lLt (lLt P1_0.lt (lTr (lTr (lTr (lTr (lTr (lTr (lTr (lTr (lTr Kc3.1 Kc5.1) Kc7.1) Kc9.1) Kc11.1) E13.1) Kc15.1) E18.1) Kc20.1) Kc23.1)) (lEq g51.symm))) nin0)).keep Kc56 (ninS (nLt (lLt (lLt P1_0.lt (lTr (lTr (lTr (lTr Kc3.1 Kc5.1) Kc7.1) Kc9.1) Kc11.1)) (lEq g13.symm))) (ninS (nLt (lLt (lLt P1_0.lt (lTr (lTr (lTr (lTr (lTr (lTr (lTr (lTr Kc3.1 Kc5.1) Kc7.1) Kc9.1) Kc11.1) E13.1) Kc15.1) E18.1) Kc20.1)) P23_0)) nin0))).ext E62) ((((((((((((((P1_2.keep Kc3 nin0).keep Kc5 nin0).keep Kc7 nin0).keep Kc9 nin0).keep Kc11 nin0).ext E13).keep Kc15 (ninS (nLt (lLt (lLt P1_0.lt (lTr (lTr (lTr (lTr Kc3.1 Kc5.1) Kc7.1) Kc9.1) Kc11.1)) (lEq g13.symm))) nin0)).ext E18).keep Kc20 (ninS (nLt (lLt (lLt P1_0.lt (lTr (lTr (lTr (lTr (lTr (lTr Kc3.1 Kc5.1) Kc7.1) Kc9.1) Kc11.1) E13.1) Kc15.1)) (lEq g18.symm))) nin0)).keep Kc23 (ninS (nLt (lLt (lLt P1_0.lt (lTr (lTr (lTr (lTr Kc3.1 Kc5.1) Kc7.1) Kc9.1) Kc11.1)) (lEq g13.symm))) nin0)).ext E51).keep Kc53 (ninS (nLt (lLt (lLt P1_0.lt (lTr (lTr (lTr (lTr (lTr (lTr (lTr (lTr (lTr Kc3.1 Kc5.1) Kc7.1) Kc9.1) Kc11.1) E13.1) Kc15.1) E18.1) Kc20.1) Kc23.1)) (lEq g51.symm))) nin0)).keep Kc56 (ninS (nLt (lLt (lLt P1_0.lt (lTr (lTr (lTr (lTr Kc3.1 Kc5.1) Kc7.1) Kc9.1) Kc11.1)) (lEq g13.symm))) (ninS (nLt (lLt (lLt P1_0.lt (lTr (lTr (lTr (lTr (lTr (lTr (lTr (lTr Kc3.1 Kc5.1) Kc7.1) Kc9.1) Kc11.1) E13.1) Kc15.1) E18.1) Kc20.1)) P23_0)) nin0))).ext E62) ((((((((((((((P1_3.keep Kc3 nin0).keep Kc5 nin0).keep Kc7 nin0).keep Kc9 nin0).keep Kc11 nin0).ext E13).keep Kc15 (ninS (nLt (lLt (lLt P1_3.lt (lTr (lTr (lTr (lTr Kc3.1 Kc5.1) Kc7.1) Kc9.1) Kc11.1)) (lEq g13.symm))) nin0)).ext E18).keep Kc20 (ninS (nLt (lLt (lLt P1_3.lt (lTr (lTr (lTr (lTr (lTr (lTr Kc3.1 Kc5.1) Kc7.1) Kc9.1) Kc11.1) E13.1) Kc15.1)) (lEq g18.symm))) nin0)).keep Kc23 (ninS (nLt (lLt (lLt P1_3.lt (lTr (lTr (lTr (lTr Kc3.1 Kc5.1) Kc7.1) Kc9.1) Kc11.1)) (lEq g13.symm))) nin0)).ext E51).keep Kc53 (ninS (nLt (lLt (lLt P1_3.lt (lTr (lTr (lTr (lTr (lTr (lTr (lTr (lTr (lTr Kc3.1 Kc5.1) Kc7.1) Kc9.1) Kc11.1) E13.1) Kc15.1) E18.1) Kc20.1) Kc23.1)) (lEq g51.symm))) nin0)).keep Kc56 (ninS (nLt (lLt (lLt P1_3.lt (lTr (lTr (lTr (lTr Kc3.1 Kc5.1) Kc7.1) Kc9.1) Kc11.1)) (lEq g13.symm))) (ninS (nLt (lLt (lLt P1_3.lt (lTr (lTr (lTr (lTr (lTr (lTr (lTr (lTr Kc3.1 Kc5.1) Kc7.1) Kc9.1) Kc11.1) E13.1) Kc15.1) E18.1) Kc20.1)) P23_0)) nin0))).ext E62) (((((((((((((P3_0.keep Kc5).keep Kc7).keep Kc9).keep Kc11).ext E13).keep Kc15).ext E18).keep Kc20).keep Kc23).ext E51).keep Kc53).keep Kc56).ext E62) (((((((((((((P3_1.keep Kc5 nin0).keep Kc7 nin0).keep Kc9 nin0).keep Kc11 nin0).ext E13).keep Kc15 (ninS (nLt (lLt (lLt P3_0.lt (lTr (lTr (lTr Kc5.1 Kc7.1) Kc9.1) Kc11.1)) (lEq g13.symm))) nin0)).ext E18).keep Kc20 (ninS (nLt (lLt (lLt P3_0.lt (lTr (lTr (lTr (lTr (lTr Kc5.1 Kc7.1) Kc9.1) Kc11.1) E13.1) Kc15.1)) (lEq g18.symm))) nin0)).keep Kc23 (ninS (nLt (lLt (lLt P3_0.lt (lTr (lTr (lTr Kc5.1 Kc7.1) Kc9.1) Kc11.1)) (lEq g13.symm))) nin0)).ext E51).keep Kc53 (ninS (nLt (lLt (lLt P3_0.lt (lTr (lTr (lTr (lTr (lTr (lTr (lTr (lTr Kc5.1 Kc7.1) Kc9.1) Kc11.1) E13.1) Kc15.1) E18.1) Kc20.1) Kc23.1)) (lEq g51.symm))) nin0)).keep Kc56 (ninS (nLt (lLt (lLt P3_0.lt (lTr (lTr (lTr Kc5.1 Kc7.1) Kc9.1) Kc11.1)) (lEq g13.symm))) (ninS (nLt (lLt (lLt P3_0.lt (lTr (lTr (lTr (lTr (lTr (lTr (lTr Kc5.1 Kc7.1) Kc9.1) Kc11.1) E13.1) Kc15.1) E18.1) Kc20.1)) P23_0)) nin0))).ext E62) (((((((((((((P3_2.keep Kc5 nin0).keep Kc7 nin0).keep Kc9 nin0).keep Kc11 nin0).ext E13).keep Kc15 (ninS (nLt (lLt (lLt P3_0.lt (lTr (lTr (lTr Kc5.1 Kc7.1) Kc9.1) Kc11.1)) (lEq g13.symm))) nin0)).ext E18).keep Kc20 (ninS (nLt (lLt (lLt P3_0.lt (lTr (lTr (lTr (lTr (lTr Kc5.1 Kc7.1) Kc9.1) Kc11.1) E13.1) Kc15.1)) (lEq g18.symm))) nin0)).keep Kc23 (ninS (nLt (lLt (lLt P3_0.lt (lTr (lTr (lTr Kc5.1 Kc7.1) Kc9.1) Kc11.1)) (lEq g13.symm))) nin0)).ext E51).keep Kc53 (ninS (nLt (lLt (lLt P3_0.lt (lTr (lTr (lTr (lTr (lTr (lTr (lTr (lTr Kc5.1 Kc7.1) Kc9.1) Kc11.1) E13.1) Kc15.1) E18.1) Kc20.1) Kc23.1)) (lEq g51.symm))) nin0)).keep Kc56 (ninS (nLt (lLt (lLt P3_0.lt (lTr (lTr (lTr Kc5.1 Kc7.1) Kc9.1) Kc11.1)) (lEq g13.symm))) (ninS (nLt (lLt (lLt P3_0.lt (lTr (lTr (lTr (lTr (lTr (lTr (lTr Kc5.1 Kc7.1) Kc9.1) Kc11.1) E13.1) Kc15.1) E18.1) Kc20.1)) P23_0)) nin0))).ext E62) (((((((((((((P3_3.keep Kc5 nin0).keep Kc7 nin0).keep Kc9 nin0).keep Kc11 nin0).ext E13).keep Kc15 (ninS (nLt (lLt (lLt P3_3.lt (lTr (lTr (lTr Kc5.1 Kc7.1) Kc9.1) Kc11.1)) (lEq g13.symm))) nin0)).ext E18).keep Kc20 (ninS (nLt (lLt (lLt P3_3.lt (lTr (lTr (lTr (lTr (lTr Kc5.1 Kc7.1) Kc9.1) Kc11.1) E13.1) Kc15.1)) (lEq g18.symm))) nin0)).keep Kc23 (ninS (nLt (lLt (lLt P3_3.lt (lTr (lTr (lTr Kc5.1 Kc7.1) Kc9.1) Kc11.1)) (lEq g13.symm))) nin0)).ext E51).keep Kc53 (ninS (nLt (lLt (lLt P3_3.lt (lTr (lTr (lTr (lTr (lTr (lTr (lTr (lTr Kc5.1 Kc7.1) Kc9.1) Kc11.1) E13.1) Kc15.1) E18.1) Kc20.1) Kc23.1)) (lEq g51.symm))) nin0)).keep Kc56 (ninS (nLt (lLt (lLt P3_3.lt (lTr (lTr (lTr Kc5.1 Kc7.1) Kc9.1) Kc11.1)) (lEq g13.symm))) (ninS (nLt (lLt (lLt P3_3.lt (lTr (lTr (lTr (lTr (lTr (lTr (lTr Kc5.1 Kc7.1) Kc9.1) Kc11.1) E13.1) Kc15.1) E18.1) Kc20.1)) P23_0)) nin0))).ext E62) P1_4 P1_5 P3_4 P3_5) hZ11 (Wd hw 91 rfl) (Wd hw 88 rfl) (by decide) (by decide) (own_EW hw) H_63 (hTK.alikeC (hZ.alike.symm.trans hZ11.alike)) (hBW.alikeC (hZ.alike.symm.trans hZ11.alike))) (g := mkF m 129 #[vi p0, vi p1, vi p2, vi p3, vi p4, vi p5, vi (((p5 &&& (2147483647 : Int32)) % (3 : Int32)) + (1 : Int32)), vr bS_1, vr bS_3, vr bS_5, vr bS_7, vr bS_9, vr bS_11, vr b13, .unset, .unset] [(.ref b13), (.ref b62), (.ref b62)]) rfl (by rw [hml]; rfl) (Steps.refl _) (a := b62) (argsL := [(.ref b13)]) (rest := [(.ref b62)]) (lenOf pdv43 rfl) rfl (by show 2 * 0 + _ ≤ _; exact lEq rfl) (hb hby at_129) (fun _ _ => ⟨rfl, e62, (by decide : 23 + 9 ≤ _), (by decide : 72 + 2808 ≤ _)⟩)
      dsimp only [Pt.U, Pt.locs, Pt.cells, Pt.slots] at X64' l64 y64 z64 st64 hQ64 hS64' hg64 Rs64
      subst l64 y64 z64
      obtain ⟨X64, hS64, hZ64, hown64⟩ := rebS hS11 (by rw [e62]; exact (lTr (lTr (lTr (lTr (lTr (lTr (lTr (lTr (lTr (Nat.le_refl _) E13.1) Kc15.1) E18.1) Kc20.1) Kc23.1) E51.1) Kc53.1) Kc56.1) E62.1)) X64' hS64' hg64 hZ11 hown11
      obtain ⟨b_64, rfl, N64q, Kc64, P64_0, P64_1, P64_2, P64_3⟩ := hQ64
      have O64 := O62.keep Kc64 (allS g_b62 all0)
      have H_65 := Rs64.1
      have R_65 := R_63.trans Rs64
      have N64 := Fr.app N56 N64q
      obtain ⟨cq66, kq66, q66a, q66b, q66c⟩ := isOf hZ64 rfl P64_0
      obtain ⟨_, _, ⟨T66, L66, k66, n66⟩, -, X66, ⟨Lc66, hQ66, l66, y66, z66⟩, st66⟩ := X64.virtualBack hx (y := MN_66) (z := MN_66) hown64 (mvT hZ64 (Wd hw 369 rfl)) (mvT hZ64 (Wd hw 370 rfl)) (notFace_of_selects (args := #[]) (mvT hZ64 (Wd hw 372 rfl))) (mvT hZ64 (Wd hw 372 rfl)) (mvT hZ64 (Wd hw 371 rfl)) (by decide) (backOf (W := 0) (rmP12 l Z a0 hw [] cS aDE kDE aUS aSS aIE mO b62 b_64 b18 bS_3 (T64.heap) n0 O64 GL P64_2 P64_3 P64_1 ((((((P20_0.keep Kc23).ext E51).keep Kc53).keep Kc56).ext E62).keep Kc64) ((((((P20_2.keep Kc23 (ninS (Ne.symm (nLt (lLt (lLt A13.lt Kc15.1) (lEq g18.symm)))) nin0)).ext E51).keep Kc53 (ninS (nLt (lLt (lLt A18.lt (lTr Kc20.1 Kc23.1)) (lEq g51.symm))) nin0)).keep Kc56 (ninS (Ne.symm (nLt (lLt (lLt A13.lt Kc15.1) (lEq g18.symm)))) (ninS (nLt (lLt (lLt A18.lt Kc20.1) P23_0)) nin0))).ext E62).keep Kc64 (ninS (nLt (lLt (lLt A18.lt (lTr (lTr (lTr (lTr Kc20.1 Kc23.1) E51.1) Kc53.1) Kc56.1)) (lEq g62.symm))) nin0))) hZ64 (Wd hw 373 rfl) (Wd hw 88 rfl) (by decide) (by decide)) q66a q66c (g := mkF m 136 #[vi p0, vi p1, vi p2, vi p3, vi p4, vi p5, vi (((p5 &&& (2147483647 : Int32)) % (3 : Int32)) + (1 : Int32)), vr bS_1, vr bS_3, vr bS_5, vr bS_7, vr bS_9, vr bS_11, vr b13, vr b62, .unset] [(.ref b62)]) rfl (by rw [hml]; rfl) (Steps.refl _) (argsL := []) (rest := []) (lenOf pdv20 rfl) rfl (by show 2 * 0 + _ ≤ _; exact lEq rfl) (hb hby at_136) (fun _ _ => ⟨rfl, rfl, (by decide : 32 + 0 ≤ _), (by decide : 2880 + 0 ≤ _)⟩)
      dsimp only [Pt.U, Pt.locs, Pt.cells, Pt.slots] at X66 l66 y66 z66 st66 hQ66
      subst l66 y66 z66
      obtain ⟨rfl, N66q, e66⟩ := hQ66
      have N66 := Fr.app N64 N66q
      obtain ⟨cq67, kq67, q67a, q67b, q67c⟩ := isOf hZ64 e66 ((((((((((((((P3_0.keep Kc5).keep Kc7).keep Kc9).keep Kc11).ext E13).keep Kc15).ext E18).keep Kc20).keep Kc23).ext E51).keep Kc53).keep Kc56).ext E62).keep Kc64)
      obtain ⟨_, _, ⟨T67, L67, k67, n67⟩, -, X67, ⟨Lc67, hQ67, l67, y67, z67⟩, st67⟩ := X66.virtualBack hx (y := MN_67) (z := MN_67) hown64 (mvT hZ64 (Wd hw 385 rfl)) (mvT hZ64 (Wd hw 386 rfl)) (notFace_of_selects (args := #[]) (mvT hZ64 (Wd hw 388 rfl))) (mvT hZ64 (Wd hw 388 rfl)) (mvT hZ64 (Wd hw 387 rfl)) (by decide) (backOf (W := 0) (rmEq l Z a0 hw [] cS aDE kDE aUS aSS aIE mO bS_3 (T64.heap) n0 O64 GL) hZ64 (Wd hw 389 rfl) (Wd hw 6 rfl) (by decide) (by decide)) q67a q67c (g := mkF m 150 #[vi p0, vi p1, vi p2, vi p3, vi p4, vi p5, vi (((p5 &&& (2147483647 : Int32)) % (3 : Int32)) + (1 : Int32)), vr bS_1, vr bS_3, vr bS_5, vr bS_7, vr bS_9, vr bS_11, vr b13, vr b62, vr bS_3] [(.ref bS_3), (.ref bS_3)]) rfl (by rw [hml]; rfl) (Steps.refl _) (argsL := [(.ref bS_3)]) (rest := []) (lenOf pdv42 rfl) rfl (by show 2 * 0 + _ ≤ _; exact lEq rfl) (hb hby at_150) (fun _ _ => ⟨rfl, e66, (by decide : 32 + 0 ≤ _), (by decide : 2880 + 0 ≤ _)⟩)
      dsimp only [Pt.U, Pt.locs, Pt.cells, Pt.slots] at X67 l67 y67 z67 st67 hQ67
      subst l67 y67 z67
      obtain ⟨rfl, N67q, e67⟩ := hQ67
      have N67 := Fr.app N66 N67q
      obtain ⟨fs, hr, hrun, hended, hRW⟩ := X67.leaveW hS64 (by rw [e67]; exact (Nat.le_refl _)) (v := some (.int 1)) (fun h => by rw [Bd.returns] at h; cases h)
      have hCR : CHr Z EL1 s.vm s.heap T67.vm T67.heap := by
        rw [hh, e67]
        exact R_65.trans (CHv.at X67 hZ64 (own_EW hw) H_65)
      refine ⟨_, _, pre61 _ ?_, hrun, hended, _, _, rfl, ?_, hCR, hRW.1, hRW.2.1, hRW.2.2.1, hRW.2.2.2.mono (by decide) (by decide)⟩
      · show SP p e below T56 m 103 #[vi p0, vi p1, vi p2, vi p3, vi p4, vi p5, vi (((p5 &&& (2147483647 : Int32)) % (3 : Int32)) + (1 : Int32)), vr bS_1, vr bS_3, vr bS_5, vr bS_7, vr bS_9, vr bS_11, vr b13, .unset, .unset] [(.int 3), (.int (((p5 &&& (2147483647 : Int32)) % (3 : Int32)) + (1 : Int32)))] _
        refine XS.icmpYes X56.here hx rfl (pc0 := 103) (pc' := 123) rfl (hb hby at_103) rfl (tlt hc103_60).1 (by decide) (by decide) ?_
        show SP p e below T56 m 123 #[vi p0, vi p1, vi p2, vi p3, vi p4, vi p5, vi (((p5 &&& (2147483647 : Int32)) % (3 : Int32)) + (1 : Int32)), vr bS_1, vr bS_3, vr bS_5, vr bS_7, vr bS_9, vr bS_11, vr b13, .unset, .unset] [] _
        refine st62 _ ?_
        show SP p e below T62 m 126 #[vi p0, vi p1, vi p2, vi p3, vi p4, vi p5, vi (((p5 &&& (2147483647 : Int32)) % (3 : Int32)) + (1 : Int32)), vr bS_1, vr bS_3, vr bS_5, vr bS_7, vr bS_9, vr bS_11, vr b13, .unset, .unset] [(.ref b62)] _
        refine XS.dup X62.here hx rfl (hb hby at_126) rfl rfl ?_
        refine XS.aload X62.here hx rfl (hb hby at_127) rfl rfl ?_
        show SP p e below T62 m 129 #[vi p0, vi p1, vi p2, vi p3, vi p4, vi p5, vi (((p5 &&& (2147483647 : Int32)) % (3 : Int32)) + (1 : Int32)), vr bS_1, vr bS_3, vr bS_5, vr bS_7, vr bS_9, vr bS_11, vr b13, .unset, .unset] [(.ref b13), (.ref b62), (.ref b62)] _
        refine st64.trans ?_
        show SP p e below T64 m 132 #[vi p0, vi p1, vi p2, vi p3, vi p4, vi p5, vi (((p5 &&& (2147483647 : Int32)) % (3 : Int32)) + (1 : Int32)), vr bS_1, vr bS_3, vr bS_5, vr bS_7, vr bS_9, vr bS_11, vr b13, .unset, .unset] [(.ref b62)] _
        refine XS.astore X64.here hx rfl (hb hby at_132) rfl rfl (l' := #[vi p0, vi p1, vi p2, vi p3, vi p4, vi p5, vi (((p5 &&& (2147483647 : Int32)) % (3 : Int32)) + (1 : Int32)), vr bS_1, vr bS_3, vr bS_5, vr bS_7, vr bS_9, vr bS_11, vr b13, vr b62, .unset]) rfl ?_
        refine XS.aload X64.here hx rfl (hb hby at_134) rfl rfl ?_
        show SP p e below T64 m 136 #[vi p0, vi p1, vi p2, vi p3, vi p4, vi p5, vi (((p5 &&& (2147483647 : Int32)) % (3 : Int32)) + (1 : Int32)), vr bS_1, vr bS_3, vr bS_5, vr bS_7, vr bS_9, vr bS_11, vr b13, vr b62, .unset] [(.ref b62)] _
        refine st66.trans ?_
        show SP p e below T66 m 139 #[vi p0, vi p1, vi p2, vi p3, vi p4, vi p5, vi (((p5 &&& (2147483647 : Int32)) % (3 : Int32)) + (1 : Int32)), vr bS_1, vr bS_3, vr bS_5, vr bS_7, vr bS_9, vr bS_11, vr b13, vr b62, .unset] [(.ref bS_3)] _
        refine XS.astore X66.here hx rfl (hb hby at_139) rfl rfl (l' := #[vi p0, vi p1, vi p2, vi p3, vi p4, vi p5, vi (((p5 &&& (2147483647 : Int32)) % (3 : Int32)) + (1 : Int32)), vr bS_1, vr bS_3, vr bS_5, vr bS_7, vr bS_9, vr bS_11, vr b13, vr b62, vr bS_3]) rfl ?_
        refine XS.aload X66.here hx rfl (hb hby at_141) rfl rfl ?_
        refine XS.ifnullNo X66.here hx rfl (hb hby at_143) rfl ?_
        refine XS.aload X66.here hx rfl (hb hby at_146) rfl rfl ?_
        refine XS.aload X66.here hx rfl (hb hby at_148) rfl rfl ?_
        show SP p e below T66 m 150 #[vi p0, vi p1, vi p2, vi p3, vi p4, vi p5, vi (((p5 &&& (2147483647 : Int32)) % (3 : Int32)) + (1 : Int32)), vr bS_1, vr bS_3, vr bS_5, vr bS_7, vr bS_9, vr bS_11, vr b13, vr b62, vr bS_3] [(.ref bS_3), (.ref bS_3)] _
        refine st67.trans ?_
        show SP p e below T67 m 153 #[vi p0, vi p1, vi p2, vi p3, vi p4, vi p5, vi (((p5 &&& (2147483647 : Int32)) % (3 : Int32)) + (1 : Int32)), vr bS_1, vr bS_3, vr bS_5, vr bS_7, vr bS_9, vr bS_11, vr b13, vr b62, vr bS_3] [(.int 1)] _
        refine XS.ifNo X67.here hx rfl (hb hby at_153) rfl ((if0 _ _).trans (feq (by decide : ¬ ((1 : Int32) = (0 : Int32)))).1) ?_
        refine XS.iconst X67.here hx rfl (hb hby at_156) ?_
        refine XS.goto X67.here hx rfl (pc0 := 157) (pc' := 161) rfl (hb hby at_157) (by decide) (by decide) ?_
        show SP p e below T67 m 161 #[vi p0, vi p1, vi p2, vi p3, vi p4, vi p5, vi (((p5 &&& (2147483647 : Int32)) % (3 : Int32)) + (1 : Int32)), vr bS_1, vr bS_3, vr bS_5, vr bS_7, vr bS_9, vr bS_11, vr b13, vr b62, vr bS_3] [(.int 1)] _
        exact retN X67 hx (t := .boolean) Bd.returns (by simp) (hb hby at_161) hr
      · show Q_rm0 n0 _ T67.heap _
        rw [e67]
        exact ⟨rfl, N67⟩
    · obtain ⟨T68, h68, X68, e68, E68, A68, D68, -, st68⟩ := newO X56 hx hZ11 hown11 (Wd hw 39 rfl) (Wd hw 40 rfl) (Wd hw 41 rfl) rfl (g := mkF m 108 #[vi p0, vi p1, vi p2, vi p3, vi p4, vi p5, vi (((p5 &&& (2147483647 : Int32)) % (3 : Int32)) + (1 : Int32)), vr bS_1, vr bS_3, vr bS_5, vr bS_7, vr bS_9, vr bS_11, vr b13, .unset, .unset] [(.ref b13)]) rfl (hb hby at_108) (by decide) (by decide)
      obtain ⟨b68, g68⟩ : ∃ z, z = T56.heap.size := ⟨_, rfl⟩
      rw [← g68] at A68 D68 st68
      have g_b68 : n0 ≤ b68 := lTr (own_sz O56) (lEq g68.symm)
      have H_69 := H_57.ext E68
      have R_69 := R_57.trans (CHr.ext E68 H_57)
      have O68 := O56.ext E68
      have F_pointer_b68 : Fld Z h68 b68 "com/example/grantline/grantline/PolicyException$Problem" "pointer" "Ljava/lang/String;" .null := D68 (Or.inr (Wd hw 52 rfl)) (ty := (.object "java/lang/String")) (by decide)
      have F_description_b68 : Fld Z h68 b68 "com/example/grantline/grantline/PolicyException$Problem" "description" "Ljava/lang/String;" .null := D68 (Or.inr (Wd hw 54 rfl)) (ty := (.object "java/lang/String")) (by decide)
      obtain ⟨_, _, ⟨T70, L70, k70, n70⟩, -, X70, ⟨Lc70, hQ70, l70, y70, z70⟩, st70⟩ := X68.specialBack hx (y := MN_27) rfl hown11 (mvT hZ11 (Wd hw 42 rfl)) (mvT hZ11 (Wd hw 43 rfl)) (mvT hZ11 (Wd hw 44 rfl)) (by decide) (backOf (W := 2) (rmPi l Z a0 hw [] cS aDE kDE aUS aSS aIE mO b68 bS_9 bS_11 h68 n0 O68 GL A68 F_pointer_b68 F_description_b68 g_b68) hZ11 (Wd hw 44 rfl) (Wd hw 41 rfl) (by decide) (by decide)) (g := mkF m 116 #[vi p0, vi p1, vi p2, vi p3, vi p4, vi p5, vi (((p5 &&& (2147483647 : Int32)) % (3 : Int32)) + (1 : Int32)), vr bS_1, vr bS_3, vr bS_5, vr bS_7, vr bS_9, vr bS_11, vr b13, .unset, .unset] [(.ref bS_11), (.ref bS_9), (.ref b68), (.ref b68), (.ref b13)]) rfl (by rw [hml]; rfl) (Steps.refl _) (a := b68) (argsL := [(.ref bS_9), (.ref bS_11)]) (rest := [(.ref b68), (.ref b13)]) (lenOf pdv41 rfl) rfl (by show 2 * 0 + _ ≤ _; exact lEq rfl) (hb hby at_116) (fun _ _ => ⟨rfl, e68, (by decide : 23 + 0 ≤ _), (by decide : 67 + 0 ≤ _)⟩)
      dsimp only [Pt.U, Pt.locs, Pt.cells, Pt.slots] at X70 l70 y70 z70 st70 hQ70
      subst l70 y70 z70
      obtain ⟨rfl, N70q, Kc70, P70_0, P70_1, P70_2⟩ := hQ70
      have O70 := O68.keep Kc70 (allS g_b68 all0)
      have Sf72 : Safe Z EL1 T11.vm h68 b68 := Safe.exa (EL := EL1) hZ11.alike A68 (by decide) (by decide)
      have H_71 := H_69.keep Kc70 (sfS Sf72 sf0)
      have R_71 := R_69.trans (CHr.keep Kc70 (sfS Sf72 sf0) H_69)
      have N70 := Fr.app N56 N70q
      obtain ⟨cq73, kq73, q73a, q73b, q73c⟩ := isOf hZ11 rfl ((P56_3.ext E68).keep Kc70)
      obtain ⟨_, _, ⟨T73, L73, k73, n73⟩, -, X73, ⟨Lc73, hQ73, l73, y73, z73⟩, st73⟩ := X70.virtualBack hx (y := MN_37) (z := MN_37) hown11 (mvT hZ11 (Wd hw 55 rfl)) (mvT hZ11 (Wd hw 56 rfl)) (notFace_of_selects (args := #[]) (mvT hZ11 (Wd hw 58 rfl))) (mvT hZ11 (Wd hw 58 rfl)) (mvT hZ11 (Wd hw 57 rfl)) (by decide) (backOf (W := 0) (rmA1_2 l Z a0 hw [] cS aDE kDE aUS aSS aIE mO b13 b68 b_23 ((((0 : Int32) + (1 : Int32)) + (1 : Int32))) kb_23 b18 b51 (T70.heap) n0 O70 GL ((P56_3.ext E68).keep Kc70) ((P56_4.ext E68).keep Kc70 (ninS (nLt (lLt (lLt A13.lt (lTr (lTr (lTr (lTr (lTr (lTr Kc15.1 E18.1) Kc20.1) Kc23.1) E51.1) Kc53.1) Kc56.1)) (lEq g68.symm))) nin0)) ((P56_5.ext E68).keep Kc70 (ninS (nLt (lLt (lLt A13.lt (lTr (lTr (lTr (lTr (lTr (lTr Kc15.1 E18.1) Kc20.1) Kc23.1) E51.1) Kc53.1) Kc56.1)) (lEq g68.symm))) nin0)) ((P56_6.ext E68).keep Kc70 (ninS (nLt (lLt (lLt A13.lt (lTr (lTr (lTr (lTr (lTr (lTr Kc15.1 E18.1) Kc20.1) Kc23.1) E51.1) Kc53.1) Kc56.1)) (lEq g68.symm))) nin0)) g_b13 P70_0 ((P56_0.ext E68).keep Kc70) ((P56_1.ext E68).keep Kc70 (ninS (nLt (lLt (lLt P23_1.lt (lTr (lTr E51.1 Kc53.1) Kc56.1)) (lEq g68.symm))) nin0)) P56_2 g_b_23) hZ11 (Wd hw 59 rfl) (Wd hw 15 rfl) (by decide) (by decide)) q73a q73c (g := mkF m 119 #[vi p0, vi p1, vi p2, vi p3, vi p4, vi p5, vi (((p5 &&& (2147483647 : Int32)) % (3 : Int32)) + (1 : Int32)), vr bS_1, vr bS_3, vr bS_5, vr bS_7, vr bS_9, vr bS_11, vr b13, .unset, .unset] [(.ref b68), (.ref b13)]) rfl (by rw [hml]; rfl) (Steps.refl _) (argsL := [(.ref b68)]) (rest := []) (lenOf pdv42 rfl) rfl (by show 2 * 0 + _ ≤ _; exact lEq rfl) (hb hby at_119) (fun _ _ => ⟨rfl, rfl, (by decide : 23 + 0 ≤ _), (by decide : 67 + 0 ≤ _)⟩)
      dsimp only [Pt.U, Pt.locs, Pt.cells, Pt.slots] at X73 l73 y73 z73 st73 hQ73
      subst l73 y73 z73
      obtain ⟨rfl, N73q, Kc73, P73_0, P73_1, P73_2, P73_3, P73_4, P73_5, P73_6⟩ := hQ73
      have O73 := O70.keep Kc73 (allS g_b13 (allS g_b_23 all0))
      have Sf75 : Safe Z EL1 T11.vm T70.heap b_23 := Safe.exa (EL := EL1) hZ11.alike ((P56_0.ext E68).keep Kc70) (by decide) (by decide)
      have Sf76 : Safe Z EL1 T11.vm T70.heap b13 := Safe.exa (EL := EL1) hZ11.alike ((P56_3.ext E68).keep Kc70) (by decide) (by decide)
      have H_74 := H_71.keep Kc73 (sfS Sf76 (sfS Sf75 sf0))
      have R_74 := R_71.trans (CHr.keep Kc73 (sfS Sf76 (sfS Sf75 sf0)) H_71)
      have N73 := Fr.app N70 N73q
      obtain ⟨T77, h77, X77, e77, E77, A77, D77, U77, st77⟩ := newO X73 hx hZ11 hown11 (Wd hw 86 rfl) (Wd hw 87 rfl) (Wd hw 88 rfl) rfl (g := mkF m 123 #[vi p0, vi p1, vi p2, vi p3, vi p4, vi p5, vi (((p5 &&& (2147483647 : Int32)) % (3 : Int32)) + (1 : Int32)), vr bS_1, vr bS_3, vr bS_5, vr bS_7, vr bS_9, vr bS_11, vr b13, .unset, .unset] []) rfl (hb hby at_123) (by decide) (by decide)
      obtain ⟨b77, g77⟩ : ∃ z, z = T73.heap.size := ⟨_, rfl⟩
      rw [← g77] at A77 D77 U77 st77
      have g_b77 : n0 ≤ b77 := lTr (own_sz O73) (lEq g77.symm)
      have H_78 := H_74.ext E77
      have R_78 := R_74.trans (CHr.ext E77 H_74)
      have O77 := O73.ext E77
      have F_cause_b77 : Fld Z h77 b77 "java/lang/Throwable" "cause" "Ljava/lang/Throwable;" .null := D77 (Or.inl (Wd hw 260 rfl)) (ty := (.object "java/lang/Throwable")) (by decide)
      have F_stackTrace_b77 : Fld Z h77 b77 "java/lang/Throwable" "stackTrace" "[Ljava/lang/StackTraceElement;" .null := D77 (Or.inl (Wd hw 263 rfl)) (ty := (.array (.object "java/lang/StackTraceElement"))) (by decide)
      have F_suppressedExceptions_b77 : Fld Z h77 b77 "java/lang/Throwable" "suppressedExceptions" "Ljava/util/List;" .null := D77 (Or.inl (Wd hw 266 rfl)) (ty := (.object "java/util/List")) (by decide)
      have F_detailMessage_b77 : Fld Z h77 b77 "java/lang/Throwable" "detailMessage" "Ljava/lang/String;" .null := D77 (Or.inl (Wd hw 289 rfl)) (ty := (.object "java/lang/String")) (by decide)
      have F_backtrace_b77 : Fld Z h77 b77 "java/lang/Throwable" "backtrace" "Ljava/lang/Object;" .null := D77 (Or.inl (Wd hw 290 rfl)) (ty := (.object "java/lang/Object")) (by decide)
      have F_depth_b77 : Fld Z h77 b77 "java/lang/Throwable" "depth" "I" (.int 0) := D77 (Or.inl (Wd hw 291 rfl)) (ty := .int) (by decide)
      have F_problems_b77 : Fld Z h77 b77 "com/example/grantline/grantline/PolicyException" "problems" "Ljava/util/List;" .null := D77 (Or.inr (Wd hw 368 rfl)) (ty := (.object "java/util/List")) (by decide)
      obtain ⟨_, _, ⟨T79, L79, k79, n79⟩, -, X79', hS79', hg79, ⟨Lc79, hQ79, l79, y79, z79, Rs79⟩, st79⟩ := X77.specialBackS hx (y := MN_63) rfl hown11 (mvT hZ11 (Wd hw 89 rfl)) (mvT hZ11 (Wd hw 90 rfl)) (mvT hZ11 (Wd hw 91 rfl)) (by decide) (backOfSKH (W := 1) (rmX_3 l Z a0 hw [] hlt cS aDE kDE aUS aSS aIE mO b77 b13 b_23 kb_23 b18 b51 b68 bS_1 vS_1 kS_1 nS_1 lS_1 bS_3 vS_3 kS_3 nS_3 lS_3 h77 n0 O77 GL A77 U77 F_cause_b77 F_stackTrace_b77 F_suppressedExceptions_b77 F_detailMessage_b77 F_backtrace_b77 F_problems_b77 g_b77 (P73_3.ext E77) (P73_4.ext E77) (P73_5.ext E77) (P73_0.ext E77) (P73_1.ext E77) ((((((((P20_0.keep Kc23).ext E51).keep Kc53).keep Kc56).ext E68).keep Kc70).keep Kc73).ext E77) (((((P53_0.keep Kc56).ext E68).keep Kc70).keep Kc73).ext E77) ((P70_0.keep Kc73).ext E77) ((((((((P20_1.keep Kc23 (ninS (Ne.symm (nLt (lLt (lLt A13.lt Kc15.1) (lEq g18.symm)))) nin0)).ext E51).keep Kc53 (ninS (nLt (lLt (lLt A18.lt (lTr Kc20.1 Kc23.1)) (lEq g51.symm))) nin0)).keep Kc56 (ninS (Ne.symm (nLt (lLt (lLt A13.lt Kc15.1) (lEq g18.symm)))) (ninS (nLt (lLt (lLt A18.lt Kc20.1) P23_0)) nin0))).ext E68).keep Kc70 (ninS (nLt (lLt (lLt A18.lt (lTr (lTr (lTr (lTr Kc20.1 Kc23.1) E51.1) Kc53.1) Kc56.1)) (lEq g68.symm))) nin0)).keep Kc73 (ninS (Ne.symm (nLt (lLt (lLt A13.lt Kc15.1) (lEq g18.symm)))) (ninS (nLt (lLt (lLt A18.lt Kc20.1) P23_0)) nin0))).ext E77) ((((((((P20_2.keep Kc23 (ninS (Ne.symm (nLt (lLt (lLt A13.lt Kc15.1) (lEq g18.symm)))) nin0)).ext E51).keep Kc53 (ninS (nLt (lLt (lLt A18.lt (lTr Kc20.1 Kc23.1)) (lEq g51.symm))) nin0)).keep Kc56 (ninS (Ne.symm (nLt (lLt (lLt A13.lt Kc15.1) (lEq g18.symm)))) (ninS (nLt (lLt (lLt A18.lt Kc20.1) P23_0)) nin0))).ext E68).keep Kc70 (ninS (nLt (lLt (lLt A18.lt (lTr (lTr (lTr (lTr Kc20.1 Kc23.1) E51.1) Kc53.1) Kc56.1)) (lEq g68.symm))) nin0)).keep Kc73 (ninS (Ne.symm (nLt (lLt (lLt A13.lt Kc15.1) (lEq g18.symm)))) (ninS (nLt (lLt (lLt A18.lt Kc20.1) P23_0)) nin0))).ext E77) (((((((((((((((((P1_0.keep Kc3).keep Kc5).keep Kc7).keep Kc9).keep Kc11).ext E13).keep Kc15).ext E18).keep Kc20).keep Kc23).ext E51).keep Kc53).keep Kc56).ext E68).keep Kc70).keep Kc73).ext E77) (((((((((((((((((P1_1.keep Kc3 nin0).keep Kc5 nin0).keep Kc7 nin0).keep Kc9 nin0).keep Kc11 nin0).ext E13).keep Kc15 (ninS (nLt (lLt (lLt P1_0.lt (lTr (lTr (lTr (lTr Kc3.1 Kc5.1) Kc7.1) Kc9.1) Kc11.1)) (lEq g13.symm))) nin0)).ext E18).keep Kc20 (ninS (nLt (lLt (lLt P1_0.lt (lTr (lTr (lTr (lTr (lTr (lTr Kc3.1 Kc5.1) Kc7.1) Kc9.1) Kc11.1) E13.1) Kc15.1)) (lEq g18.symm))) nin0)).keep Kc23 (ninS (nLt (lLt (lLt P1_0.lt (lTr (lTr (lTr (lTr Kc3.1 Kc5.1) Kc7.1) Kc9.1) Kc11.1)) (lEq g13.symm))) nin0)).ext E51).keep Kc53 (ninS (nLt (lLt (lLt P1_0.lt (lTr (lTr (lTr (lTr (lTr (lTr (lTr (lTr (lTr Kc3.1 Kc5.1) Kc7.1) Kc9.1) Kc11.1) E13.1) Kc15.1) E18.1) Kc20.1) Kc23.1)) (lEq g51.symm))) nin0)).keep Kc56 (ninS (nLt (lLt (lLt P1_0.lt (lTr (lTr (lTr (lTr Kc3.1 Kc5.1) Kc7.1) Kc9.1) Kc11.1)) (lEq g13.symm))) (ninS (nLt (lLt (lLt P1_0.lt (lTr (lTr (lTr (lTr (lTr (lTr (lTr (lTr Kc3.1 Kc5.1) Kc7.1) Kc9.1) Kc11.1) E13.1) Kc15.1) E18.1) Kc20.1)) P23_0)) nin0))).ext E68).keep Kc70 (ninS (nLt (lLt (lLt P1_0.lt (lTr (lTr (lTr (lTr (lTr (lTr (lTr (lTr (lTr (lTr (lTr (lTr Kc3.1 Kc5.1) Kc7.1) Kc9.1) Kc11.1) E13.1) Kc15.1) E18.1) Kc20.1) Kc23.1) E51.1) Kc53.1) Kc56.1)) (lEq g68.symm))) nin0)).keep Kc73 (ninS (nLt (lLt (lLt P1_0.lt (lTr (lTr (lTr (lTr Kc3.1 Kc5.1) Kc7.1) Kc9.1) Kc11.1)) (lEq g13.symm))) (ninS (nLt (lLt (lLt P1_0.lt (lTr (lTr (lTr (lTr (lTr (lTr (lTr (lTr Kc3.1 Kc5.1) Kc7.1) Kc9.1) Kc11.1) E13.1) Kc15.1) E18.1) Kc20.1)) P23_0)) nin0))).ext E77) (((((((((((((((((P1_2.keep Kc3 nin0).keep Kc5 nin0).keep Kc7 nin0).keep Kc9 nin0).keep Kc11 nin0).ext E13).keep Kc15 (ninS (nLt (lLt (lLt P1_0.lt (lTr (lTr (lTr (lTr Kc3.1 Kc5.1) Kc7.1) Kc9.1) Kc11.1)) (lEq g13.symm))) nin0)).ext E18).keep Kc20 (ninS (nLt (lLt (lLt P1_0.lt (lTr (lTr (lTr (lTr (lTr (lTr Kc3.1 Kc5.1) Kc7.1) Kc9.1) Kc11.1) E13.1) Kc15.1)) (lEq g18.symm))) nin0)).keep Kc23 (ninS (nLt (lLt (lLt P1_0.lt (lTr (lTr (lTr (lTr Kc3.1 Kc5.1) Kc7.1) Kc9.1) Kc11.1)) (lEq g13.symm))) nin0)).ext E51).keep Kc53 (ninS (nLt (lLt (lLt P1_0.lt (lTr (lTr (lTr (lTr (lTr (lTr (lTr (lTr (lTr Kc3.1 Kc5.1) Kc7.1) Kc9.1) Kc11.1) E13.1) Kc15.1) E18.1) Kc20.1) Kc23.1)) (lEq g51.symm))) nin0)).keep Kc56 (ninS (nLt (lLt (lLt P1_0.lt (lTr (lTr (lTr (lTr Kc3.1 Kc5.1) Kc7.1) Kc9.1) Kc11.1)) (lEq g13.symm))) (ninS (nLt (lLt (lLt P1_0.lt (lTr (lTr (lTr (lTr (lTr (lTr (lTr (lTr Kc3.1 Kc5.1) Kc7.1) Kc9.1) Kc11.1) E13.1) Kc15.1) E18.1) Kc20.1)) P23_0)) nin0))).ext E68).keep Kc70 (ninS (nLt (lLt (lLt P1_0.lt (lTr (lTr (lTr (lTr (lTr (lTr (lTr (lTr (lTr (lTr (lTr (lTr Kc3.1 Kc5.1) Kc7.1) Kc9.1) Kc11.1) E13.1) Kc15.1) E18.1) Kc20.1) Kc23.1) E51.1) Kc53.1) Kc56.1)) (lEq g68.symm))) nin0)).keep Kc73 (ninS (nLt (lLt (lLt P1_0.lt (lTr (lTr (lTr (lTr Kc3.1 Kc5.1) Kc7.1) Kc9.1) Kc11.1)) (lEq g13.symm))) (ninS (nLt (lLt (lLt P1_0.lt (lTr (lTr (lTr (lTr (lTr (lTr (lTr (lTr Kc3.1 Kc5.1) Kc7.1) Kc9.1) Kc11.1) E13.1) Kc15.1) E18.1) Kc20.1)) P23_0)) nin0))).ext E77) (((((((((((((((((P1_3.keep Kc3 nin0).keep Kc5 nin0).keep Kc7 nin0).keep Kc9 nin0).keep Kc11 nin0).ext E13).keep Kc15 (ninS (nLt (lLt (lLt P1_3.lt (lTr (lTr (lTr (lTr Kc3.1 Kc5.1) Kc7.1) Kc9.1) Kc11.1)) (lEq g13.symm))) nin0)).ext E18).keep Kc20 (ninS (nLt (lLt (lLt P1_3.lt (lTr (lTr (lTr (lTr (lTr (lTr Kc3.1 Kc5.1) Kc7.1) Kc9.1) Kc11.1) E13.1) Kc15.1)) (lEq g18.symm))) nin0)).keep Kc23 (ninS (nLt (lLt (lLt P1_3.lt (lTr (lTr (lTr (lTr Kc3.1 Kc5.1) Kc7.1) Kc9.1) Kc11.1)) (lEq g13.symm))) nin0)).ext E51).keep Kc53 (ninS (nLt (lLt (lLt P1_3.lt (lTr (lTr (lTr (lTr (lTr (lTr (lTr (lTr (lTr Kc3.1 Kc5.1) Kc7.1) Kc9.1) Kc11.1) E13.1) Kc15.1) E18.1) Kc20.1) Kc23.1)) (lEq g51.symm))) nin0)).keep Kc56 (ninS (nLt (lLt (lLt P1_3.lt (lTr (lTr (lTr (lTr Kc3.1 Kc5.1) Kc7.1) Kc9.1) Kc11.1)) (lEq g13.symm))) (ninS (nLt (lLt (lLt P1_3.lt (lTr (lTr (lTr (lTr (lTr (lTr (lTr (lTr Kc3.1 Kc5.1) Kc7.1) Kc9.1) Kc11.1) E13.1) Kc15.1) E18.1) Kc20.1)) P23_0)) nin0))).ext E68).keep Kc70 (ninS (nLt (lLt (lLt P1_3.lt (lTr (lTr (lTr (lTr (lTr (lTr (lTr (lTr (lTr (lTr (lTr (lTr Kc3.1 Kc5.1) Kc7.1) Kc9.1) Kc11.1) E13.1) Kc15.1) E18.1) Kc20.1) Kc23.1) E51.1) Kc53.1) Kc56.1)) (lEq g68.symm))) nin0)).keep Kc73 (ninS (nLt (lLt (lLt P1_3.lt (lTr (lTr (lTr (lTr Kc3.1 Kc5.1) Kc7.1) Kc9.1) Kc11.1)) (lEq g13.symm))) (ninS (nLt (lLt (lLt P1_3.lt (lTr (lTr (lTr (lTr (lTr (lTr (lTr (lTr Kc3.1 Kc5.1) Kc7.1) Kc9.1) Kc11.1) E13.1) Kc15.1) E18.1) Kc20.1)) P23_0)) nin0))).ext E77) ((((((((((((((((P3_0.keep Kc5).keep Kc7).keep Kc9).keep Kc11).ext E13).keep Kc15).ext E18).keep Kc20).keep Kc23).ext E51).keep Kc53).keep Kc56).ext E68).keep Kc70).keep Kc73).ext E77) ((((((((((((((((P3_1.keep Kc5 nin0).keep Kc7 nin0).keep Kc9 nin0).keep Kc11 nin0).ext E13).keep Kc15 (ninS (nLt (lLt (lLt P3_0.lt (lTr (lTr (lTr Kc5.1 Kc7.1) Kc9.1) Kc11.1)) (lEq g13.symm))) nin0)).ext E18).keep Kc20 (ninS (nLt (lLt (lLt P3_0.lt (lTr (lTr (lTr (lTr (lTr Kc5.1 Kc7.1) Kc9.1) Kc11.1) E13.1) Kc15.1)) (lEq g18.symm))) nin0)).keep Kc23 (ninS (nLt (lLt (lLt P3_0.lt (lTr (lTr (lTr Kc5.1 Kc7.1) Kc9.1) Kc11.1)) (lEq g13.symm))) nin0)).ext E51).keep Kc53 (ninS (nLt (lLt (lLt P3_0.lt (lTr (lTr (lTr (lTr (lTr (lTr (lTr (lTr Kc5.1 Kc7.1) Kc9.1) Kc11.1) E13.1) Kc15.1) E18.1) Kc20.1) Kc23.1)) (lEq g51.symm))) nin0)).keep Kc56 (ninS (nLt (lLt (lLt P3_0.lt (lTr (lTr (lTr Kc5.1 Kc7.1) Kc9.1) Kc11.1)) (lEq g13.symm))) (ninS (nLt (lLt (lLt P3_0.lt (lTr (lTr (lTr (lTr (lTr (lTr (lTr Kc5.1 Kc7.1) Kc9.1) Kc11.1) E13.1) Kc15.1) E18.1) Kc20.1)) P23_0)) nin0))).ext E68).keep Kc70 (ninS (nLt (lLt (lLt P3_0.lt (lTr (lTr (lTr (lTr (lTr (lTr (lTr (lTr (lTr (lTr (lTr Kc5.1 Kc7.1) Kc9.1) Kc11.1) E13.1) Kc15.1) E18.1) Kc20.1) Kc23.1) E51.1) Kc53.1) Kc56.1)) (lEq g68.symm))) nin0)).keep Kc73 (ninS (nLt (lLt (lLt P3_0.lt (lTr (lTr (lTr Kc5.1 Kc7.1) Kc9.1) Kc11.1)) (lEq g13.symm))) (ninS (nLt (lLt (lLt P3_0.lt (lTr (lTr (lTr (lTr (lTr (lTr (lTr Kc5.1 Kc7.1) Kc9.1) Kc11.1) E13.1) Kc15.1) E18.1) Kc20.1)) P23_0)) nin0))).ext E77) ((((((((((((((((P3_2.keep Kc5 nin0).keep Kc7 nin0).keep Kc9 nin0).keep Kc11 nin0).ext E13).keep Kc15 (ninS (nLt (lLt (lLt P3_0.lt (lTr (lTr (lTr Kc5.1 Kc7.1) Kc9.1) Kc11.1)) (lEq g13.symm))) nin0)).ext E18).keep Kc20 (ninS (nLt (lLt (lLt P3_0.lt (lTr (lTr (lTr (lTr (lTr Kc5.1 Kc7.1) Kc9.1) Kc11.1) E13.1) Kc15.1)) (lEq g18.symm))) nin0)).keep Kc23 (ninS (nLt (lLt (lLt P3_0.lt (lTr (lTr (lTr Kc5.1 Kc7.1) Kc9.1) Kc11.1)) (lEq g13.symm))) nin0)).ext E51).keep Kc53 (ninS (nLt (lLt (lLt P3_0.lt (lTr (lTr (lTr (lTr (lTr (lTr (lTr (lTr Kc5.1 Kc7.1) Kc9.1) Kc11.1) E13.1) Kc15.1) E18.1) Kc20.1) Kc23.1)) (lEq g51.symm))) nin0)).keep Kc56 (ninS (nLt (lLt (lLt P3_0.lt (lTr (lTr (lTr Kc5.1 Kc7.1) Kc9.1) Kc11.1)) (lEq g13.symm))) (ninS (nLt (lLt (lLt P3_0.lt (lTr (lTr (lTr (lTr (lTr (lTr (lTr Kc5.1 Kc7.1) Kc9.1) Kc11.1) E13.1) Kc15.1) E18.1) Kc20.1)) P23_0)) nin0))).ext E68).keep Kc70 (ninS (nLt (lLt (lLt P3_0.lt (lTr (lTr (lTr (lTr (lTr (lTr (lTr (lTr (lTr (lTr (lTr Kc5.1 Kc7.1) Kc9.1) Kc11.1) E13.1) Kc15.1) E18.1) Kc20.1) Kc23.1) E51.1) Kc53.1) Kc56.1)) (lEq g68.symm))) nin0)).keep Kc73 (ninS (nLt (lLt (lLt P3_0.lt (lTr (lTr (lTr Kc5.1 Kc7.1) Kc9.1) Kc11.1)) (lEq g13.symm))) (ninS (nLt (lLt (lLt P3_0.lt (lTr (lTr (lTr (lTr (lTr (lTr (lTr Kc5.1 Kc7.1) Kc9.1) Kc11.1) E13.1) Kc15.1) E18.1) Kc20.1)) P23_0)) nin0))).ext E77) ((((((((((((((((P3_3.keep Kc5 nin0).keep Kc7 nin0).keep Kc9 nin0).keep Kc11 nin0).ext E13).keep Kc15 (ninS (nLt (lLt (lLt P3_3.lt (lTr (lTr (lTr Kc5.1 Kc7.1) Kc9.1) Kc11.1)) (lEq g13.symm))) nin0)).ext E18).keep Kc20 (ninS (nLt (lLt (lLt P3_3.lt (lTr (lTr (lTr (lTr (lTr Kc5.1 Kc7.1) Kc9.1) Kc11.1) E13.1) Kc15.1)) (lEq g18.symm))) nin0)).keep Kc23 (ninS (nLt (lLt (lLt P3_3.lt (lTr (lTr (lTr Kc5.1 Kc7.1) Kc9.1) Kc11.1)) (lEq g13.symm))) nin0)).ext E51).keep Kc53 (ninS (nLt (lLt (lLt P3_3.lt (lTr (lTr (lTr (lTr (lTr (lTr (lTr (lTr Kc5.1 Kc7.1) Kc9.1) Kc11.1) E13.1) Kc15.1) E18.1) Kc20.1) Kc23.1)) (lEq g51.symm))) nin0)).keep Kc56 (ninS (nLt (lLt (lLt P3_3.lt (lTr (lTr (lTr Kc5.1 Kc7.1) Kc9.1) Kc11.1)) (lEq g13.symm))) (ninS (nLt (lLt (lLt P3_3.lt (lTr (lTr (lTr (lTr (lTr (lTr (lTr Kc5.1 Kc7.1) Kc9.1) Kc11.1) E13.1) Kc15.1) E18.1) Kc20.1)) P23_0)) nin0))).ext E68).keep Kc70 (ninS (nLt (lLt (lLt P3_3.lt (lTr (lTr (lTr (lTr (lTr (lTr (lTr (lTr (lTr (lTr (lTr Kc5.1 Kc7.1) Kc9.1) Kc11.1) E13.1) Kc15.1) E18.1) Kc20.1) Kc23.1) E51.1) Kc53.1) Kc56.1)) (lEq g68.symm))) nin0)).keep Kc73 (ninS (nLt (lLt (lLt P3_3.lt (lTr (lTr (lTr Kc5.1 Kc7.1) Kc9.1) Kc11.1)) (lEq g13.symm))) (ninS (nLt (lLt (lLt P3_3.lt (lTr (lTr (lTr (lTr (lTr (lTr (lTr Kc5.1 Kc7.1) Kc9.1) Kc11.1) E13.1) Kc15.1) E18.1) Kc20.1)) P23_0)) nin0))).ext E77) P1_4 P1_5 P3_4 P3_5) hZ11 (Wd hw 91 rfl) (Wd hw 88 rfl) (by decide) (by decide) (own_EW hw) H_78 (hTK.alikeC (hZ.alike.symm.trans hZ11.alike)) (hBW.alikeC (hZ.alike.symm.trans hZ11.alike))) (g := mkF m 129 #[vi p0, vi p1, vi p2, vi p3, vi p4, vi p5, vi (((p5 &&& (2147483647 : Int32)) % (3 : Int32)) + (1 : Int32)), vr bS_1, vr bS_3, vr bS_5, vr bS_7, vr bS_9, vr bS_11, vr b13, .unset, .unset] [(.ref b13), (.ref b77), (.ref b77)]) rfl (by rw [hml]; rfl) (Steps.refl _) (a := b77) (argsL := [(.ref b13)]) (rest := [(.ref b77)]) (lenOf pdv43 rfl) rfl (by show 2 * 0 + _ ≤ _; exact lEq rfl) (hb hby at_129) (fun _ _ => ⟨rfl, e77, (by decide : 24 + 10 ≤ _), (by decide : 74 + 2812 ≤ _)⟩)
      dsimp only [Pt.U, Pt.locs, Pt.cells, Pt.slots] at X79' l79 y79 z79 st79 hQ79 hS79' hg79 Rs79
      subst l79 y79 z79
      obtain ⟨X79, hS79, hZ79, hown79⟩ := rebS hS11 (by rw [e77]; exact (lTr (lTr (lTr (lTr (lTr (lTr (lTr (lTr (lTr (lTr (lTr (lTr (Nat.le_refl _) E13.1) Kc15.1) E18.1) Kc20.1) Kc23.1) E51.1) Kc53.1) Kc56.1) E68.1) Kc70.1) Kc73.1) E77.1)) X79' hS79' hg79 hZ11 hown11
      obtain ⟨b_79, d_79, kd_79, rfl, N79q, Kc79, P79_0, P79_1, P79_2, P79_3, P79_4, P79_5⟩ := hQ79
      have O79 := O77.keep Kc79 (allS g_b77 all0)
      have H_80 := Rs79.1
      have R_80 := R_78.trans Rs79
      have g_d_79 : n0 ≤ d_79 := lTr (own_sz O77) P79_2
      have N79 := Fr.app N73 N79q
      obtain ⟨cq81, kq81, q81a, q81b, q81c⟩ := isOf hZ79 rfl P79_0
      obtain ⟨_, _, ⟨T81, L81, k81, n81⟩, -, X81, ⟨Lc81, hQ81, l81, y81, z81⟩, st81⟩ := X79.virtualBack hx (y := MN_66) (z := MN_66) hown79 (mvT hZ79 (Wd hw 369 rfl)) (mvT hZ79 (Wd hw 370 rfl)) (notFace_of_selects (args := #[]) (mvT hZ79 (Wd hw 372 rfl))) (mvT hZ79 (Wd hw 372 rfl)) (mvT hZ79 (Wd hw 371 rfl)) (by decide) (backOf (W := 0) (rmPn l Z a0 hw [] cS aDE kDE aUS aSS aIE mO b77 b_79 d_79 kd_79 b18 b51 b68 bS_3 (T79.heap) n0 O79 GL P79_3 P79_4 P79_5 P79_1 (((((((((P20_0.keep Kc23).ext E51).keep Kc53).keep Kc56).ext E68).keep Kc70).keep Kc73).ext E77).keep Kc79) (((((((((P20_2.keep Kc23 (ninS (Ne.symm (nLt (lLt (lLt A13.lt Kc15.1) (lEq g18.symm)))) nin0)).ext E51).keep Kc53 (ninS (nLt (lLt (lLt A18.lt (lTr Kc20.1 Kc23.1)) (lEq g51.symm))) nin0)).keep Kc56 (ninS (Ne.symm (nLt (lLt (lLt A13.lt Kc15.1) (lEq g18.symm)))) (ninS (nLt (lLt (lLt A18.lt Kc20.1) P23_0)) nin0))).ext E68).keep Kc70 (ninS (nLt (lLt (lLt A18.lt (lTr (lTr (lTr (lTr Kc20.1 Kc23.1) E51.1) Kc53.1) Kc56.1)) (lEq g68.symm))) nin0)).keep Kc73 (ninS (Ne.symm (nLt (lLt (lLt A13.lt Kc15.1) (lEq g18.symm)))) (ninS (nLt (lLt (lLt A18.lt Kc20.1) P23_0)) nin0))).ext E77).keep Kc79 (ninS (nLt (lLt (lLt A18.lt (lTr (lTr (lTr (lTr (lTr (lTr (lTr Kc20.1 Kc23.1) E51.1) Kc53.1) Kc56.1) E68.1) Kc70.1) Kc73.1)) (lEq g77.symm))) nin0))) hZ79 (Wd hw 373 rfl) (Wd hw 88 rfl) (by decide) (by decide)) q81a q81c (g := mkF m 136 #[vi p0, vi p1, vi p2, vi p3, vi p4, vi p5, vi (((p5 &&& (2147483647 : Int32)) % (3 : Int32)) + (1 : Int32)), vr bS_1, vr bS_3, vr bS_5, vr bS_7, vr bS_9, vr bS_11, vr b13, vr b77, .unset] [(.ref b77)]) rfl (by rw [hml]; rfl) (Steps.refl _) (argsL := []) (rest := []) (lenOf pdv20 rfl) rfl (by show 2 * 0 + _ ≤ _; exact lEq rfl) (hb hby at_136) (fun _ _ => ⟨rfl, rfl, (by decide : 34 + 0 ≤ _), (by decide : 2886 + 0 ≤ _)⟩)
      dsimp only [Pt.U, Pt.locs, Pt.cells, Pt.slots] at X81 l81 y81 z81 st81 hQ81
      subst l81 y81 z81
      obtain ⟨rfl, N81q, e81⟩ := hQ81
      have N81 := Fr.app N79 N81q
      obtain ⟨cq82, kq82, q82a, q82b, q82c⟩ := isOf hZ79 e81 (((((((((((((((((P3_0.keep Kc5).keep Kc7).keep Kc9).keep Kc11).ext E13).keep Kc15).ext E18).keep Kc20).keep Kc23).ext E51).keep Kc53).keep Kc56).ext E68).keep Kc70).keep Kc73).ext E77).keep Kc79)
      obtain ⟨_, _, ⟨T82, L82, k82, n82⟩, -, X82, ⟨Lc82, hQ82, l82, y82, z82⟩, st82⟩ := X81.virtualBack hx (y := MN_67) (z := MN_67) hown79 (mvT hZ79 (Wd hw 385 rfl)) (mvT hZ79 (Wd hw 386 rfl)) (notFace_of_selects (args := #[]) (mvT hZ79 (Wd hw 388 rfl))) (mvT hZ79 (Wd hw 388 rfl)) (mvT hZ79 (Wd hw 387 rfl)) (by decide) (backOf (W := 0) (rmEq l Z a0 hw [] cS aDE kDE aUS aSS aIE mO bS_3 (T79.heap) n0 O79 GL) hZ79 (Wd hw 389 rfl) (Wd hw 6 rfl) (by decide) (by decide)) q82a q82c (g := mkF m 150 #[vi p0, vi p1, vi p2, vi p3, vi p4, vi p5, vi (((p5 &&& (2147483647 : Int32)) % (3 : Int32)) + (1 : Int32)), vr bS_1, vr bS_3, vr bS_5, vr bS_7, vr bS_9, vr bS_11, vr b13, vr b77, vr bS_3] [(.ref bS_3), (.ref bS_3)]) rfl (by rw [hml]; rfl) (Steps.refl _) (argsL := [(.ref bS_3)]) (rest := []) (lenOf pdv42 rfl) rfl (by show 2 * 0 + _ ≤ _; exact lEq rfl) (hb hby at_150) (fun _ _ => ⟨rfl, e81, (by decide : 34 + 0 ≤ _), (by decide : 2886 + 0 ≤ _)⟩)
      dsimp only [Pt.U, Pt.locs, Pt.cells, Pt.slots] at X82 l82 y82 z82 st82 hQ82
      subst l82 y82 z82
      obtain ⟨rfl, N82q, e82⟩ := hQ82
      have N82 := Fr.app N81 N82q
      obtain ⟨fs, hr, hrun, hended, hRW⟩ := X82.leaveW hS79 (by rw [e82]; exact (Nat.le_refl _)) (v := some (.int 1)) (fun h => by rw [Bd.returns] at h; cases h)
      have hCR : CHr Z EL1 s.vm s.heap T82.vm T82.heap := by
        rw [hh, e82]
        exact R_80.trans (CHv.at X82 hZ79 (own_EW hw) H_80)
      refine ⟨_, _, pre61 _ ?_, hrun, hended, _, _, rfl, ?_, hCR, hRW.1, hRW.2.1, hRW.2.2.1, hRW.2.2.2.mono (by decide) (by decide)⟩
      · show SP p e below T56 m 103 #[vi p0, vi p1, vi p2, vi p3, vi p4, vi p5, vi (((p5 &&& (2147483647 : Int32)) % (3 : Int32)) + (1 : Int32)), vr bS_1, vr bS_3, vr bS_5, vr bS_7, vr bS_9, vr bS_11, vr b13, .unset, .unset] [(.int 3), (.int (((p5 &&& (2147483647 : Int32)) % (3 : Int32)) + (1 : Int32)))] _
        refine XS.icmpNo X56.here hx rfl (hb hby at_103) rfl (flt hc103_60).1 ?_
        refine XS.aload X56.here hx rfl (hb hby at_106) rfl rfl ?_
        show SP p e below T56 m 108 #[vi p0, vi p1, vi p2, vi p3, vi p4, vi p5, vi (((p5 &&& (2147483647 : Int32)) % (3 : Int32)) + (1 : Int32)), vr bS_1, vr bS_3, vr bS_5, vr bS_7, vr bS_9, vr bS_11, vr b13, .unset, .unset] [(.ref b13)] _
        refine st68 _ ?_
        show SP p e below T68 m 111 #[vi p0, vi p1, vi p2, vi p3, vi p4, vi p5, vi (((p5 &&& (2147483647 : Int32)) % (3 : Int32)) + (1 : Int32)), vr bS_1, vr bS_3, vr bS_5, vr bS_7, vr bS_9, vr bS_11, vr b13, .unset, .unset] [(.ref b68), (.ref b13)] _
        refine XS.dup X68.here hx rfl (hb hby at_111) rfl rfl ?_
        refine XS.aload X68.here hx rfl (hb hby at_112) rfl rfl ?_
        refine XS.aload X68.here hx rfl (hb hby at_114) rfl rfl ?_
        show SP p e below T68 m 116 #[vi p0, vi p1, vi p2, vi p3, vi p4, vi p5, vi (((p5 &&& (2147483647 : Int32)) % (3 : Int32)) + (1 : Int32)), vr bS_1, vr bS_3, vr bS_5, vr bS_7, vr bS_9, vr bS_11, vr b13, .unset, .unset] [(.ref bS_11), (.ref bS_9), (.ref b68), (.ref b68), (.ref b13)] _
        refine st70.trans ?_
        show SP p e below T70 m 119 #[vi p0, vi p1, vi p2, vi p3, vi p4, vi p5, vi (((p5 &&& (2147483647 : Int32)) % (3 : Int32)) + (1 : Int32)), vr bS_1, vr bS_3, vr bS_5, vr bS_7, vr bS_9, vr bS_11, vr b13, .unset, .unset] [(.ref b68), (.ref b13)] _
        refine st73.trans ?_
        show SP p e below T73 m 122 #[vi p0, vi p1, vi p2, vi p3, vi p4, vi p5, vi (((p5 &&& (2147483647 : Int32)) % (3 : Int32)) + (1 : Int32)), vr bS_1, vr bS_3, vr bS_5, vr bS_7, vr bS_9, vr bS_11, vr b13, .unset, .unset] [(.int 1)] _
        refine XS.pop X73.here hx rfl (hb hby at_122) rfl rfl ?_
        show SP p e below T73 m 123 #[vi p0, vi p1, vi p2, vi p3, vi p4, vi p5, vi (((p5 &&& (2147483647 : Int32)) % (3 : Int32)) + (1 : Int32)), vr bS_1, vr bS_3, vr bS_5, vr bS_7, vr bS_9, vr bS_11, vr b13, .unset, .unset] [] _
        refine st77 _ ?_
        show SP p e below T77 m 126 #[vi p0, vi p1, vi p2, vi p3, vi p4, vi p5, vi (((p5 &&& (2147483647 : Int32)) % (3 : Int32)) + (1 : Int32)), vr bS_1, vr bS_3, vr bS_5, vr bS_7, vr bS_9, vr bS_11, vr b13, .unset, .unset] [(.ref b77)] _
        refine XS.dup X77.here hx rfl (hb hby at_126) rfl rfl ?_
        refine XS.aload X77.here hx rfl (hb hby at_127) rfl rfl ?_
        show SP p e below T77 m 129 #[vi p0, vi p1, vi p2, vi p3, vi p4, vi p5, vi (((p5 &&& (2147483647 : Int32)) % (3 : Int32)) + (1 : Int32)), vr bS_1, vr bS_3, vr bS_5, vr bS_7, vr bS_9, vr bS_11, vr b13, .unset, .unset] [(.ref b13), (.ref b77), (.ref b77)] _
        refine st79.trans ?_
        show SP p e below T79 m 132 #[vi p0, vi p1, vi p2, vi p3, vi p4, vi p5, vi (((p5 &&& (2147483647 : Int32)) % (3 : Int32)) + (1 : Int32)), vr bS_1, vr bS_3, vr bS_5, vr bS_7, vr bS_9, vr bS_11, vr b13, .unset, .unset] [(.ref b77)] _
        refine XS.astore X79.here hx rfl (hb hby at_132) rfl rfl (l' := #[vi p0, vi p1, vi p2, vi p3, vi p4, vi p5, vi (((p5 &&& (2147483647 : Int32)) % (3 : Int32)) + (1 : Int32)), vr bS_1, vr bS_3, vr bS_5, vr bS_7, vr bS_9, vr bS_11, vr b13, vr b77, .unset]) rfl ?_
        refine XS.aload X79.here hx rfl (hb hby at_134) rfl rfl ?_
        show SP p e below T79 m 136 #[vi p0, vi p1, vi p2, vi p3, vi p4, vi p5, vi (((p5 &&& (2147483647 : Int32)) % (3 : Int32)) + (1 : Int32)), vr bS_1, vr bS_3, vr bS_5, vr bS_7, vr bS_9, vr bS_11, vr b13, vr b77, .unset] [(.ref b77)] _
        refine st81.trans ?_
        show SP p e below T81 m 139 #[vi p0, vi p1, vi p2, vi p3, vi p4, vi p5, vi (((p5 &&& (2147483647 : Int32)) % (3 : Int32)) + (1 : Int32)), vr bS_1, vr bS_3, vr bS_5, vr bS_7, vr bS_9, vr bS_11, vr b13, vr b77, .unset] [(.ref bS_3)] _
        refine XS.astore X81.here hx rfl (hb hby at_139) rfl rfl (l' := #[vi p0, vi p1, vi p2, vi p3, vi p4, vi p5, vi (((p5 &&& (2147483647 : Int32)) % (3 : Int32)) + (1 : Int32)), vr bS_1, vr bS_3, vr bS_5, vr bS_7, vr bS_9, vr bS_11, vr b13, vr b77, vr bS_3]) rfl ?_
        refine XS.aload X81.here hx rfl (hb hby at_141) rfl rfl ?_
        refine XS.ifnullNo X81.here hx rfl (hb hby at_143) rfl ?_
        refine XS.aload X81.here hx rfl (hb hby at_146) rfl rfl ?_
        refine XS.aload X81.here hx rfl (hb hby at_148) rfl rfl ?_
        show SP p e below T81 m 150 #[vi p0, vi p1, vi p2, vi p3, vi p4, vi p5, vi (((p5 &&& (2147483647 : Int32)) % (3 : Int32)) + (1 : Int32)), vr bS_1, vr bS_3, vr bS_5, vr bS_7, vr bS_9, vr bS_11, vr b13, vr b77, vr bS_3] [(.ref bS_3), (.ref bS_3)] _
        refine st82.trans ?_
        show SP p e below T82 m 153 #[vi p0, vi p1, vi p2, vi p3, vi p4, vi p5, vi (((p5 &&& (2147483647 : Int32)) % (3 : Int32)) + (1 : Int32)), vr bS_1, vr bS_3, vr bS_5, vr bS_7, vr bS_9, vr bS_11, vr b13, vr b77, vr bS_3] [(.int 1)] _
        refine XS.ifNo X82.here hx rfl (hb hby at_153) rfl ((if0 _ _).trans (feq (by decide : ¬ ((1 : Int32) = (0 : Int32)))).1) ?_
        refine XS.iconst X82.here hx rfl (hb hby at_156) ?_
        refine XS.goto X82.here hx rfl (pc0 := 157) (pc' := 161) rfl (hb hby at_157) (by decide) (by decide) ?_
        show SP p e below T82 m 161 #[vi p0, vi p1, vi p2, vi p3, vi p4, vi p5, vi (((p5 &&& (2147483647 : Int32)) % (3 : Int32)) + (1 : Int32)), vr bS_1, vr bS_3, vr bS_5, vr bS_7, vr bS_9, vr bS_11, vr b13, vr b77, vr bS_3] [(.int 1)] _
        exact retN X82 hx (t := .boolean) Bd.returns (by simp) (hb hby at_161) hr
      · show Q_rm0 n0 _ T82.heap _
        rw [e82]
        exact ⟨rfl, N82⟩
theorem comes_1 {Post : Tables → Env → Array Value → State → Outcome → State → Prop} (hpost : ∀ tb e args s v u, (limb_1_1.after args s (.returned v) u = true ∧ limb_1_2.after args s (.returned v) u = true ∧ True) → ReturnedEndW s (.returned v) u (Jvm.fieldLocs frame_1_writes args s ++ Jvm.arrayLocs frame_1_arrays args s ++ Jvm.staticLocs frame_1_statics s) 72 7872 → Post tb e args s (.returned v) u) :
    ArmFor flags0 classFile x code maxLocals ret World_1 tables_1 room_1 Calls_1 rest_1 Pre_1 Post := by
  intro l hfl _ _ p e ha hc hk s m args below hf hA hF happ hP
  obtain ⟨hcalls, hrest, hpre⟩ := hP
  obtain ⟨-, -, -, hnamed, -, -, -, hat⟩ := (Spec.applies_iff hf).mp happ
  obtain ⟨hg, hn⟩ := and_e (Cond.before_iff.mp (show (Jvm.Cond.and given_1 narrow_1).before args s = true from hpre))
  obtain ⟨gv_l0, gv_r0⟩ := and_e hg
  obtain ⟨gv_l2, gv_r2⟩ := and_e gv_r0
  obtain ⟨gv_l4, gv_r4⟩ := and_e gv_r2
  obtain ⟨gv_l6, gv_r6⟩ := and_e gv_r4
  obtain ⟨gv_l8, gv_r8⟩ := and_e gv_r6
  obtain ⟨gv_l10, gv_r10⟩ := and_e gv_r8
  obtain ⟨w0, w1, w2, w3, w4, w5, rfl⟩ : ∃ w0 w1 w2 w3 w4 w5 : Value, args = #[w0, w1, w2, w3, w4, w5] := by
    have hs : args.size = 6 := by simpa [Cond.value, given_1] using gv_l0
    obtain ⟨L⟩ := args
    match L, hs with
    | [w0, w1, w2, w3, w4, w5], _ => exact ⟨w0, w1, w2, w3, w4, w5, rfl⟩
  have hw := fun d (hd : d ∈ tables_1) => atoms_spec (ws := Jvm.Cond.code x code maxLocals ret :: tables_1) hat d (List.mem_cons_of_mem _ hd)
  have hfit : Fit s := fun {y c} hc i hi => by
    obtain ⟨ha, rfl⟩ := Array.getElem?_eq_some_iff.mp hc
    have q := List.all_eq_true.mp ((Array.all_eq_true_iff_forall_mem.mp hF) _ (Array.getElem_mem ha)) i (List.mem_range.mpr hi)
    simpa [Array.getElem?_eq_getElem hi] using q
  obtain ⟨hsets, hown0⟩ := atoms_of _ (rest_1_c_eq ▸ (show rest_1_c.before _ s = true from hrest))
  have hr0 := Cond.before_iff.mp hown0
  obtain ⟨i0, ei0⟩ := is_v gv_l2
  obtain rfl : w0 = (.int i0) := Option.some.inj ei0
  obtain ⟨i1, ei1⟩ := is_v gv_l4
  obtain rfl : w1 = (.int i1) := Option.some.inj ei1
  obtain ⟨i2, ei2⟩ := is_v gv_l6
  obtain rfl : w2 = (.int i2) := Option.some.inj ei2
  obtain ⟨i3, ei3⟩ := is_v gv_l8
  obtain rfl : w3 = (.int i3) := Option.some.inj ei3
  obtain ⟨i4, ei4⟩ := is_v gv_l10
  obtain rfl : w4 = (.int i4) := Option.some.inj ei4
  obtain ⟨i5, ei5⟩ := is_v gv_r10
  obtain rfl : w5 = (.int i5) := Option.some.inj ei5
  obtain ⟨cS, eCS⟩ := is_v (Cond.before_iff.mp (hsets _ (List.mem_of_getElem? (i := 10) rfl)))
  have SCS := Sta.start eCS (Or.inl (hsets _ (List.mem_of_getElem? (i := 9) rfl)))
  have PCS : ¬ (cS = (0 : Int32)) := gotF (Cond.eq_ints eCS (Term.int_eval (0 : Int32))) (not_v (Cond.before_iff.mp (hsets _ (List.mem_of_getElem? (i := 11) rfl))))
  obtain ⟨aDE, vDE⟩ := arr_v (Cond.before_iff.mp (hsets _ (List.mem_of_getElem? (i := 6) rfl)))
  obtain ⟨cDE, ADE⟩ := Arr.start vDE (Cond.before_iff.mp (hsets _ (List.mem_of_getElem? (i := 6) rfl)))
  obtain ⟨zDE, lDE⟩ := own_len ADE vDE (Cond.before_iff.mp (hsets _ (List.mem_of_getElem? (i := 8) rfl)))
  have VDE : Arv s s.heap aDE cDE.cls (.object "java/lang/Object") (0 : Int32) [] .null := Arv.start hfit ADE zDE lDE (by decide) rfl trivial
  obtain ⟨aIE, vIE⟩ := exa_v (Cond.before_iff.mp (hsets _ (List.mem_of_getElem? (i := 40) rfl)))
  obtain ⟨mc, mk, mO, mq1, mq2, mq3, mq4⟩ := hcalls.2.2.1
  obtain ⟨aUS, vUS⟩ := arr_v (Cond.before_iff.mp (hsets _ (List.mem_of_getElem? (i := 26) rfl)))
  obtain ⟨aSS, vSS⟩ := exa_v (Cond.before_iff.mp (hsets _ (List.mem_of_getElem? (i := 31) rfl)))
  have GL : GF s cS aDE cDE.cls aUS aSS aIE mO := ⟨SCS, PCS, Sta.start vDE (Or.inr ⟨(Wd hw 15 rfl), (hsets _ (List.mem_of_getElem? (i := 2) rfl))⟩), VDE, Sta.start vUS (Or.inl (hsets _ (List.mem_of_getElem? (i := 24) rfl))), Sta.start vSS (Or.inl (hsets _ (List.mem_of_getElem? (i := 29) rfl))), Sta.start vIE (Or.inl (hsets _ (List.mem_of_getElem? (i := 39) rfl))), ⟨mc, mk, mq1, mq2, mq3, mq4⟩⟩
  have H0 : CHv s EL1 s.vm s.heap := CHv.start (own_EW hw) hcalls.2.2.2.1 (hsets _ (List.mem_of_getElem? (i := 11) rfl)) (Wd hw 8 rfl) (Wd hw 7 rfl)
  have hlt : l.stackTraces = true := by unfold Launch.stackTraces; rw [hfl]; decide
  obtain ⟨n, o, h1, h2, h3, _, L, rfl, ⟨rfl, N⟩, -, hq⟩ := rm0 l s _ hw tables_1 hlt cS aDE cDE.cls aUS aSS aIE mO i0 i1 i2 i3 i4 i5 s.heap s.heap.size (Old.start s) GL p e ha hc hk s m _ below hf ((Spec.applies_iff_loose hf).mp happ).1 ⟨rfl, State.Warmed39.refl s, rfl, H0⟩ ⟨MethodsKnown_of_tablesKnown hcalls.2.1, FramesKnown_of_framesKnown hcalls.1 hf⟩
  refine ⟨n, _, h1, h2, h3, hpost _ _ _ _ _ _ ⟨Cond.after_iff.mpr rfl, Cond.after_iff.mpr (eq_i res_at (Term.int_eval 1) rfl), trivial⟩ ⟨hq.1, hq.2.1, hq.2.2.1, (hq.2.2.2.sift fun y hy => Or.inr (N y hy)).mono (by decide) (by decide)⟩⟩
theorem main_1_1 : Claimed_1_1 := comes_1 fun _ _ _ _ _ _ h hF => ⟨h.1, hF⟩
theorem main_1_2 : Claimed_1_2 := comes_1 fun _ _ _ _ _ _ h hF => ⟨h.2.1, hF⟩
end Jvm.Pilot.@@N@@
namespace Jvm.Pilot.@@N@@
open Jvm Jvm.ClassFile Sem Op Lib Jvm.Free Jvm.Stand Jvm.Pilot.@@N@@.Jvm.D
/-! MADE BY PROGRAM (witnessworld.py) out of the Statement's table words and the real class files: 51 classes; the members and pool entries that the words name. The judged class is class 1, her method 2. -/
namespace start1
open Jvm.ClassFile
def u (s : String) : CpInfo := .utf8 (stringToUtf16 s)
/-- a pool by its gaps: so many unusable entries, then the entry; so many at the end -/
def gap : Nat → List CpInfo → List CpInfo
  | 0, r => r
  | n + 1, r => .unusable :: gap n r
def poolList (es : List (Nat × CpInfo)) (last : Nat) : List CpInfo := es.foldr (fun e r => gap e.1 (e.2 :: r)) (gap last [])
def pool (es : List (Nat × CpInfo)) (last : Nat) : Array CpInfo := ⟨poolList es last⟩
def fileOf (pool : Array CpInfo) (this : Nat) (attrs : Array Attribute := #[]) (ms : Array MethodInfo := #[]) (fl : Nat := 33) (sup : Nat := 0) (ifs : Array Nat := #[]) (fds : Array FieldInfo := #[]) : ClassFile where
  minorVersion := 0
  majorVersion := 65
  constantPool := pool
  accessFlags := fl
  thisClass := this
  superClass := sup
  interfaces := ifs
  fields := fds
  methods := ms
  attributes := attrs
def plain (name : String) (sup : Option ClassId) : Class where
  name := name
  kind := .ordinary
  loader := none
  accessFlags := 33
  super := sup
  interfaces := #[]
  cf := none
  fields := #[]
  methods := #[]
  instanceTypes := #[]
  staticTypes := #[]
  resolved := #[]
  callSites := []
  init := .initialized
  statics := none
  mirror := none

def pool0 : Array CpInfo := pool [(5, u "<init>"), (0, u "()V"), (1, .class_ 10), (1, u "java/lang/Object"), (0, u "getClass"), (0, u "()Ljava/lang/Class;")] 111

def k0c0 : Code := { maxStack := 0, maxLocals := 1, code := object_method_1_code, exceptionTable := #[], attributes := #[] }
def k0m0 : Method := { name := "<init>", desc := "()V", sig := { parameters := [], returnType := none }, accessFlags := 1, code := some k0c0 }
def k0m1 : Method := { name := "getClass", desc := "()Ljava/lang/Class;", sig := { parameters := [], returnType := some (.object "java/lang/Class") }, accessFlags := 273, code := none }
/-- java/lang/Object -/
def k0 : Class := { plain "java/lang/Object" none with
  accessFlags := 33
  interfaces := #[]
  cf := some (fileOf pool0 8 #[] #[{ accessFlags := 1, nameIndex := 5, descriptorIndex := 6, attributes := #[] }, { accessFlags := 273, nameIndex := 11, descriptorIndex := 12, attributes := #[] }] 33 0 #[] #[])
  fields := #[]
  methods := #[k0m0, k0m1]
  instanceTypes := #[]
  staticTypes := #[]
  resolved := Array.replicate 124 none
  statics := none }

def pool1 : Array CpInfo := pool [(2, .class_ 4), (0, .nameAndType 5 6), (0, u "java/lang/Object"), (0, u "<init>"), (0, u "()V"), (0, .string 8), (0, u ""), (0, .methodref 10 11), (0, .class_ 12), (0, .nameAndType 13 14), (0, u "java/lang/String"), (0, u "valueOf"), (0, u "(C)Ljava/lang/String;"), (0, .methodref 10 16), (0, .nameAndType 5 17), (0, u "([C)V"), (0, .integer 2147483647), (0, .methodref 20 21), (0, .class_ 22), (0, .nameAndType 23 24), (0, u "com/example/grantline/grantline/PolicyExceptionProblemPinLaw"), (0, u "str"), (0, u "(I)Ljava/lang/String;"), (0, .class_ 26), (0, u "java/util/ArrayList"), (0, .methodref 25 3), (0, .class_ 29), (0, u "com/example/grantline/grantline/PolicyException$Problem"), (0, .methodref 28 31), (0, .nameAndType 5 32), (0, u "(Ljava/lang/String;Ljava/lang/String;)V"), (0, .methodref 25 34), (0, .nameAndType 35 36), (0, u "add"), (0, u "(Ljava/lang/Object;)Z"), (0, .class_ 38), (0, u "com/example/grantline/grantline/PolicyException"), (0, .methodref 37 40), (0, .nameAndType 5 41), (0, u "(Ljava/util/List;)V"), (0, .methodref 37 43), (0, .nameAndType 44 45), (0, u "problem"), (0, u "()Ljava/lang/String;"), (0, .methodref 10 47), (0, .nameAndType 48 36), (0, u "equals"), (3, u "law"), (0, u "(IIIIII)Z")] 4

def k1m0 : Method := { name := "<init>", desc := "()V", sig := { parameters := [], returnType := none }, accessFlags := 1, code := none }
def k1c1 : Code := { maxStack := 6, maxLocals := 4, code := method_2_code, exceptionTable := #[], attributes := #[] }
def k1m1 : Method := { name := "str", desc := "(I)Ljava/lang/String;", sig := { parameters := [.int], returnType := some (.object "java/lang/String") }, accessFlags := 10, code := some k1c1 }
def k1c2 : Code := { maxStack := 5, maxLocals := 16, code := code, exceptionTable := #[], attributes := #[] }
def k1m2 : Method := { name := "law", desc := "(IIIIII)Z", sig := { parameters := [.int, .int, .int, .int, .int, .int], returnType := some .boolean }, accessFlags := 9, code := some k1c2 }
/-- com/example/grantline/grantline/PolicyExceptionProblemPinLaw -/
def k1 : Class := { plain "com/example/grantline/grantline/PolicyExceptionProblemPinLaw" (some 0) with
  accessFlags := 49
  interfaces := #[]
  cf := some (fileOf pool1 20 #[] #[{ accessFlags := 1, nameIndex := 5, descriptorIndex := 6, attributes := #[] }, { accessFlags := 10, nameIndex := 23, descriptorIndex := 24, attributes := #[] }, { accessFlags := 9, nameIndex := 52, descriptorIndex := 53, attributes := #[] }] 49 2 #[] #[])
  fields := #[]
  methods := #[k1m0, k1m1, k1m2]
  instanceTypes := #[]
  staticTypes := #[]
  resolved := Array.replicate 58 none
  statics := none }

def pool2 : Array CpInfo := pool [(1, .class_ 2), (0, u "java/io/Serializable"), (0, .class_ 4), (0, u "java/lang/Object")] 2

/-- java/io/Serializable -/
def k2 : Class := { plain "java/io/Serializable" (some 0) with
  accessFlags := 1537
  interfaces := #[]
  cf := some (fileOf pool2 1 #[] #[] 1537 3 #[] #[])
  fields := #[]
  methods := #[]
  instanceTypes := #[]
  staticTypes := #[]
  resolved := Array.replicate 7 none
  statics := none }

def pool3 : Array CpInfo := pool [(1, .class_ 2), (0, u "java/lang/Comparable"), (0, .class_ 4), (0, u "java/lang/Object")] 7

/-- java/lang/Comparable -/
def k3 : Class := { plain "java/lang/Comparable" (some 0) with
  accessFlags := 1537
  interfaces := #[]
  cf := some (fileOf pool3 1 #[] #[] 1537 3 #[] #[])
  fields := #[]
  methods := #[]
  instanceTypes := #[]
  staticTypes := #[]
  resolved := Array.replicate 12 none
  statics := none }

def pool4 : Array CpInfo := pool [(2, .class_ 4), (1, u "java/lang/CharSequence"), (42, .class_ 48), (0, u "java/lang/CharSequence$1CodePointIterator"), (10, .class_ 60), (0, u "java/lang/CharSequence$1CharIterator"), (5, .class_ 67), (0, u "java/lang/Object")] 63

/-- java/lang/CharSequence -/
def k4 : Class := { plain "java/lang/CharSequence" (some 0) with
  accessFlags := 1537
  interfaces := #[]
  cf := some (fileOf pool4 2 #[.nestMembers #[47, 59]] #[] 1537 66 #[] #[])
  fields := #[]
  methods := #[]
  instanceTypes := #[]
  staticTypes := #[]
  resolved := Array.replicate 131 none
  statics := none }

def pool5 : Array CpInfo := pool [(1, .class_ 2), (0, u "java/lang/constant/Constable"), (0, .class_ 4), (0, u "java/lang/Object")] 6

/-- java/lang/constant/Constable -/
def k5 : Class := { plain "java/lang/constant/Constable" (some 0) with
  accessFlags := 1537
  interfaces := #[]
  cf := some (fileOf pool5 1 #[] #[] 1537 3 #[] #[])
  fields := #[]
  methods := #[]
  instanceTypes := #[]
  staticTypes := #[]
  resolved := Array.replicate 11 none
  statics := none }

def pool6 : Array CpInfo := pool [(1, .class_ 2), (0, u "java/lang/constant/ConstantDesc"), (0, .class_ 4), (0, u "java/lang/Object")] 32

/-- java/lang/constant/ConstantDesc -/
def k6 : Class := { plain "java/lang/constant/ConstantDesc" (some 0) with
  accessFlags := 1537
  interfaces := #[]
  cf := some (fileOf pool6 1 #[] #[] 1537 3 #[] #[])
  fields := #[]
  methods := #[]
  instanceTypes := #[]
  staticTypes := #[]
  resolved := Array.replicate 37 none
  statics := none }

def pool7 : Array CpInfo := pool [(1, .methodref 2 3), (0, .class_ 4), (0, .nameAndType 5 6), (0, u "java/lang/Object"), (0, u "<init>"), (0, u "()V"), (2, .fieldref 10 11), (0, .class_ 12), (0, .nameAndType 13 14), (0, u "java/lang/String"), (0, u "value"), (0, u "[B"), (0, .fieldref 10 16), (0, .nameAndType 17 18), (0, u "coder"), (0, u "B"), (2, u "hash"), (0, u "I"), (2, u "hashIsZero"), (0, u "Z"), (0, .methodref 10 28), (0, .nameAndType 5 29), (0, u "([CIILjava/lang/Void;)V"), (8, .fieldref 10 39), (0, .nameAndType 40 26), (0, u "COMPACT_STRINGS"), (1, .class_ 44), (1, u "java/lang/StringUTF16"), (0, u "compress"), (1, .methodref 42 48), (0, .nameAndType 49 50), (0, u "coderFromArrayLen"), (0, u "([BI)B"), (2, u "toBytes"), (0, .methodref 55 56), (0, .class_ 57), (0, .nameAndType 58 59), (0, u "java/util/Arrays"), (0, u "copyOfRange"), (0, u "([BII)[B"), (47, .class_ 109), (1, u "java/lang/StringLatin1"), (32, u "()Z"), (34, .methodref 42 178), (0, .nameAndType 45 179), (0, u "([CII)[B"), (13, .class_ 195), (1, u "java/lang/System"), (13, .methodref 10 210), (0, .nameAndType 5 211), (0, u "([BB)V"), (0, .methodref 193 213), (0, .nameAndType 214 215), (0, u "arraycopy"), (0, u "(Ljava/lang/Object;ILjava/lang/Object;II)V"), (118, u "()I"), (0, .methodref 10 336), (0, .nameAndType 17 337), (0, u "()B"), (2, u "()[B"), (28, u "(C)Z"), (119, .methodref 10 490), (0, .nameAndType 5 491), (0, u "(Ljava/lang/AbstractStringBuilder;Ljava/lang/Void;)V"), (1, .nameAndType 494 142), (0, u "isLatin1"), (11, .nameAndType 507 334), (0, u "length"), (24, u "getBytes"), (10, u "equals"), (5, .methodref 550 506), (0, .class_ 551), (0, u "java/lang/AbstractStringBuilder"), (0, .methodref 550 553), (0, .nameAndType 554 340), (0, u "getValue"), (18, u "(Ljava/lang/Object;)Z"), (1, .class_ 576), (0, u "java/lang/CharSequence"), (22, u "CASE_INSENSITIVE_ORDER"), (0, u "Ljava/util/Comparator;"), (181, u "valueOf"), (0, u "(C)Ljava/lang/String;"), (37, u "([BIB)V"), (188, u "([C)V"), (4, .methodref 107 1016), (0, .nameAndType 1017 369), (0, u "canEncode"), (0, .methodref 107 1019), (0, .nameAndType 53 1020), (0, u "(C)[B"), (26, .methodref 550 493), (53, u "serialPersistentFields"), (0, u "[Ljava/io/ObjectStreamField;"), (0, .class_ 1104), (0, u "java/lang/String$CaseInsensitiveComparator"), (1, .class_ 1107), (0, u "java/io/Serializable"), (0, .class_ 1109), (0, u "java/lang/Comparable"), (0, .class_ 1111), (0, u "java/lang/constant/Constable"), (0, .class_ 1113), (0, u "java/lang/constant/ConstantDesc"), (2, u "serialVersionUID"), (0, u "J"), (3, u "REPL"), (0, u "C"), (2, u "LATIN1"), (1, u "UTF16"), (105, u "(Ljava/lang/StringBuilder;)V")] 217

def k7m0 : Method := { name := "<init>", desc := "()V", sig := { parameters := [], returnType := none }, accessFlags := 1, code := none }
def k7c1 : Code := { maxStack := 5, maxLocals := 2, code := jdk_42_method_3_code, exceptionTable := #[], attributes := #[] }
def k7m1 : Method := { name := "<init>", desc := "([C)V", sig := { parameters := [(.array .char)], returnType := none }, accessFlags := 1, code := some k7c1 }
def k7c2 : Code := { maxStack := 3, maxLocals := 2, code := jdk_42_method_53_code, exceptionTable := #[], attributes := #[] }
def k7m2 : Method := { name := "<init>", desc := "(Ljava/lang/StringBuilder;)V", sig := { parameters := [(.object "java/lang/StringBuilder")], returnType := none }, accessFlags := 1, code := some k7c2 }
def k7c3 : Code := { maxStack := 2, maxLocals := 1, code := jdk_42_method_54_code, exceptionTable := #[], attributes := #[] }
def k7m3 : Method := { name := "length", desc := "()I", sig := { parameters := [], returnType := some .int }, accessFlags := 1, code := some k7c3 }
def k7c4 : Code := { maxStack := 2, maxLocals := 3, code := jdk_42_method_66_code, exceptionTable := #[], attributes := #[] }
def k7m4 : Method := { name := "equals", desc := "(Ljava/lang/Object;)Z", sig := { parameters := [(.object "java/lang/Object")], returnType := some .boolean }, accessFlags := 1, code := some k7c4 }
def k7c5 : Code := { maxStack := 4, maxLocals := 1, code := jdk_42_method_139_code, exceptionTable := #[], attributes := #[] }
def k7m5 : Method := { name := "valueOf", desc := "(C)Ljava/lang/String;", sig := { parameters := [.char], returnType := some (.object "java/lang/String") }, accessFlags := 9, code := some k7c5 }
def k7c6 : Code := { maxStack := 5, maxLocals := 4, code := jdk_42_method_147_code, exceptionTable := #[], attributes := #[] }
def k7m6 : Method := { name := "getBytes", desc := "([BIB)V", sig := { parameters := [(.array .byte), .int, .byte], returnType := none }, accessFlags := 0, code := some k7c6 }
def k7c7 : Code := { maxStack := 4, maxLocals := 6, code := jdk_42_method_149_code, exceptionTable := #[], attributes := #[] }
def k7m7 : Method := { name := "<init>", desc := "([CIILjava/lang/Void;)V", sig := { parameters := [(.array .char), .int, .int, (.object "java/lang/Void")], returnType := none }, accessFlags := 2, code := some k7c7 }
def k7c8 : Code := { maxStack := 5, maxLocals := 5, code := jdk_42_method_150_code, exceptionTable := #[], attributes := #[] }
def k7m8 : Method := { name := "<init>", desc := "(Ljava/lang/AbstractStringBuilder;Ljava/lang/Void;)V", sig := { parameters := [(.object "java/lang/AbstractStringBuilder"), (.object "java/lang/Void")], returnType := none }, accessFlags := 0, code := some k7c8 }
def k7c9 : Code := { maxStack := 2, maxLocals := 3, code := jdk_42_method_151_code, exceptionTable := #[], attributes := #[] }
def k7m9 : Method := { name := "<init>", desc := "([BB)V", sig := { parameters := [(.array .byte), .byte], returnType := none }, accessFlags := 0, code := some k7c9 }
def k7c10 : Code := { maxStack := 1, maxLocals := 1, code := jdk_42_method_152_code, exceptionTable := #[], attributes := #[] }
def k7m10 : Method := { name := "coder", desc := "()B", sig := { parameters := [], returnType := some .byte }, accessFlags := 0, code := some k7c10 }
/-- java/lang/String -/
def k7 : Class := { plain "java/lang/String" (some 0) with
  accessFlags := 49
  interfaces := #[2, 3, 4, 5, 6]
  cf := some (fileOf pool7 10 #[.nestMembers #[1103]] #[{ accessFlags := 1, nameIndex := 5, descriptorIndex := 6, attributes := #[] }, { accessFlags := 1, nameIndex := 5, descriptorIndex := 1010, attributes := #[] }, { accessFlags := 1, nameIndex := 5, descriptorIndex := 1233, attributes := #[] }, { accessFlags := 1, nameIndex := 507, descriptorIndex := 334, attributes := #[] }, { accessFlags := 1, nameIndex := 543, descriptorIndex := 573, attributes := #[] }, { accessFlags := 9, nameIndex := 782, descriptorIndex := 783, attributes := #[] }, { accessFlags := 0, nameIndex := 532, descriptorIndex := 821, attributes := #[] }, { accessFlags := 2, nameIndex := 5, descriptorIndex := 29, attributes := #[] }, { accessFlags := 0, nameIndex := 5, descriptorIndex := 491, attributes := #[] }, { accessFlags := 0, nameIndex := 5, descriptorIndex := 211, attributes := #[] }, { accessFlags := 0, nameIndex := 17, descriptorIndex := 337, attributes := #[] }] 49 2 #[1106, 1108, 575, 1110, 1112] #[{ accessFlags := 18, nameIndex := 13, descriptorIndex := 14, attributes := #[] }, { accessFlags := 18, nameIndex := 17, descriptorIndex := 18, attributes := #[] }, { accessFlags := 2, nameIndex := 21, descriptorIndex := 22, attributes := #[] }, { accessFlags := 2, nameIndex := 25, descriptorIndex := 26, attributes := #[] }, { accessFlags := 26, nameIndex := 1116, descriptorIndex := 1117, attributes := #[] }, { accessFlags := 24, nameIndex := 40, descriptorIndex := 26, attributes := #[] }, { accessFlags := 26, nameIndex := 1101, descriptorIndex := 1102, attributes := #[] }, { accessFlags := 26, nameIndex := 1121, descriptorIndex := 1122, attributes := #[] }, { accessFlags := 25, nameIndex := 599, descriptorIndex := 600, attributes := #[] }, { accessFlags := 24, nameIndex := 1125, descriptorIndex := 18, attributes := #[] }, { accessFlags := 24, nameIndex := 1127, descriptorIndex := 18, attributes := #[] }])
  fields := #[{ name := "value", type := (.array .byte), accessFlags := 18, slot := 0, constantValue := 0 }, { name := "coder", type := .byte, accessFlags := 18, slot := 1, constantValue := 0 }, { name := "hash", type := .int, accessFlags := 2, slot := 2, constantValue := 0 }, { name := "hashIsZero", type := .boolean, accessFlags := 2, slot := 3, constantValue := 0 }, { name := "serialVersionUID", type := .long, accessFlags := 26, slot := 0, constantValue := 0 }, { name := "COMPACT_STRINGS", type := .boolean, accessFlags := 24, slot := 1, constantValue := 0 }, { name := "serialPersistentFields", type := (.array (.object "java/io/ObjectStreamField")), accessFlags := 26, slot := 2, constantValue := 0 }, { name := "REPL", type := .char, accessFlags := 26, slot := 3, constantValue := 0 }, { name := "CASE_INSENSITIVE_ORDER", type := (.object "java/util/Comparator"), accessFlags := 25, slot := 4, constantValue := 0 }, { name := "LATIN1", type := .byte, accessFlags := 24, slot := 5, constantValue := 0 }, { name := "UTF16", type := .byte, accessFlags := 24, slot := 6, constantValue := 0 }]
  methods := #[k7m0, k7m1, k7m2, k7m3, k7m4, k7m5, k7m6, k7m7, k7m8, k7m9, k7m10]
  instanceTypes := #[(.array .byte), .byte, .int, .boolean]
  staticTypes := #[.long, .boolean, (.array (.object "java/io/ObjectStreamField")), .char, (.object "java/util/Comparator"), .byte, .byte]
  resolved := Array.replicate 1451 none
  statics := some 0 }

def pool8 : Array CpInfo := pool [(8, .class_ 10), (1, u "java/lang/Iterable"), (24, .class_ 36), (0, u "java/lang/Object")] 25

/-- java/lang/Iterable -/
def k8 : Class := { plain "java/lang/Iterable" (some 0) with
  accessFlags := 1537
  interfaces := #[]
  cf := some (fileOf pool8 8 #[] #[] 1537 35 #[] #[])
  fields := #[]
  methods := #[]
  instanceTypes := #[]
  staticTypes := #[]
  resolved := Array.replicate 62 none
  statics := none }

def pool9 : Array CpInfo := pool [(10, .class_ 12), (1, u "java/util/Collection"), (0, u "toArray"), (16, u "()Z"), (29, .class_ 61), (0, u "java/lang/Object"), (0, .class_ 63), (0, u "java/lang/Iterable"), (2, u "isEmpty"), (3, u "()[Ljava/lang/Object;")] 44

def k9m0 : Method := { name := "isEmpty", desc := "()Z", sig := { parameters := [], returnType := some .boolean }, accessFlags := 1025, code := none }
def k9m1 : Method := { name := "toArray", desc := "()[Ljava/lang/Object;", sig := { parameters := [], returnType := some (.array (.object "java/lang/Object")) }, accessFlags := 1025, code := none }
/-- java/util/Collection -/
def k9 : Class := { plain "java/util/Collection" (some 0) with
  accessFlags := 1537
  interfaces := #[8]
  cf := some (fileOf pool9 10 #[] #[{ accessFlags := 1025, nameIndex := 66, descriptorIndex := 30, attributes := #[] }, { accessFlags := 1025, nameIndex := 13, descriptorIndex := 70, attributes := #[] }] 1537 60 #[62] #[])
  fields := #[]
  methods := #[k9m0, k9m1]
  instanceTypes := #[]
  staticTypes := #[]
  resolved := Array.replicate 115 none
  statics := none }

def pool10 : Array CpInfo := pool [(1, .methodref 2 3), (0, .class_ 4), (0, .nameAndType 5 6), (0, u "java/lang/Object"), (0, u "<init>"), (0, u "()V"), (1, .class_ 10), (1, u "java/util/AbstractCollection"), (66, .class_ 78), (0, u "java/util/Collection")] 81

def k10c0 : Code := { maxStack := 1, maxLocals := 1, code := jdk_22_method_1_code, exceptionTable := #[], attributes := #[] }
def k10m0 : Method := { name := "<init>", desc := "()V", sig := { parameters := [], returnType := none }, accessFlags := 4, code := some k10c0 }
/-- java/util/AbstractCollection -/
def k10 : Class := { plain "java/util/AbstractCollection" (some 0) with
  accessFlags := 1057
  interfaces := #[9]
  cf := some (fileOf pool10 8 #[] #[{ accessFlags := 4, nameIndex := 5, descriptorIndex := 6, attributes := #[] }] 1057 2 #[77] #[])
  fields := #[]
  methods := #[k10m0]
  instanceTypes := #[]
  staticTypes := #[]
  resolved := Array.replicate 160 none
  statics := none }

def pool11 : Array CpInfo := pool [(8, .class_ 10), (1, u "java/util/SequencedCollection"), (15, .class_ 27), (0, u "java/lang/Object"), (0, .class_ 29), (0, u "java/util/Collection")] 27

/-- java/util/SequencedCollection -/
def k11 : Class := { plain "java/util/SequencedCollection" (some 0) with
  accessFlags := 1537
  interfaces := #[9]
  cf := some (fileOf pool11 8 #[] #[] 1537 26 #[28] #[])
  fields := #[]
  methods := #[]
  instanceTypes := #[]
  staticTypes := #[]
  resolved := Array.replicate 57 none
  statics := none }

def pool12 : Array CpInfo := pool [(8, .class_ 10), (1, u "java/util/List"), (7, u "()Z"), (12, u "(Ljava/lang/Object;)V"), (16, u "<init>"), (18, u "isEmpty"), (7, u "get"), (0, u "(I)Ljava/lang/Object;"), (11, u "of"), (2, .class_ 93), (1, u "java/util/ImmutableCollections"), (2, .class_ 97), (0, u "java/util/ImmutableCollections$List12"), (0, .methodref 96 99), (0, .nameAndType 48 31), (0, .methodref 96 101), (0, .nameAndType 48 102), (0, u "(Ljava/lang/Object;Ljava/lang/Object;)V"), (0, .class_ 104), (0, u "java/lang/Object"), (3, u "([Ljava/lang/Object;)Ljava/util/List;"), (0, .methodref 91 110), (0, .nameAndType 111 108), (0, u "listFromArray"), (0, .methodref 91 113), (0, .nameAndType 114 115), (0, u "listCopy"), (0, u "(Ljava/util/Collection;)Ljava/util/List;"), (4, .class_ 121), (0, u "java/util/SequencedCollection"), (112, u "copyOf")] 16

def k12m0 : Method := { name := "isEmpty", desc := "()Z", sig := { parameters := [], returnType := some .boolean }, accessFlags := 1025, code := none }
def k12m1 : Method := { name := "get", desc := "(I)Ljava/lang/Object;", sig := { parameters := [.int], returnType := some (.object "java/lang/Object") }, accessFlags := 1025, code := none }
def k12c2 : Code := { maxStack := 5, maxLocals := 2, code := jdk_40_method_47_code, exceptionTable := #[], attributes := #[] }
def k12m2 : Method := { name := "of", desc := "([Ljava/lang/Object;)Ljava/util/List;", sig := { parameters := [(.array (.object "java/lang/Object"))], returnType := some (.object "java/util/List") }, accessFlags := 137, code := some k12c2 }
def k12c3 : Code := { maxStack := 1, maxLocals := 1, code := jdk_40_method_48_code, exceptionTable := #[], attributes := #[] }
def k12m3 : Method := { name := "copyOf", desc := "(Ljava/util/Collection;)Ljava/util/List;", sig := { parameters := [(.object "java/util/Collection")], returnType := some (.object "java/util/List") }, accessFlags := 9, code := some k12c3 }
/-- java/util/List -/
def k12 : Class := { plain "java/util/List" (some 0) with
  accessFlags := 1537
  interfaces := #[11]
  cf := some (fileOf pool12 8 #[] #[{ accessFlags := 1025, nameIndex := 67, descriptorIndex := 18, attributes := #[] }, { accessFlags := 1025, nameIndex := 75, descriptorIndex := 76, attributes := #[] }, { accessFlags := 137, nameIndex := 88, descriptorIndex := 108, attributes := #[] }, { accessFlags := 9, nameIndex := 234, descriptorIndex := 115, attributes := #[] }] 1537 103 #[120] #[])
  fields := #[]
  methods := #[k12m0, k12m1, k12m2, k12m3]
  instanceTypes := #[]
  staticTypes := #[]
  resolved := Array.replicate 251 none
  statics := none }

def pool13 : Array CpInfo := pool [(1, .methodref 2 3), (0, .class_ 4), (0, .nameAndType 5 6), (0, u "java/util/AbstractCollection"), (0, u "<init>"), (0, u "()V"), (0, .fieldref 8 9), (0, .class_ 10), (0, .nameAndType 11 12), (0, u "java/util/AbstractList"), (0, u "modCount"), (0, u "I"), (64, .class_ 78), (0, u "java/util/AbstractList$Itr"), (3, .class_ 83), (0, u "java/util/AbstractList$ListItr"), (9, .class_ 94), (0, u "java/util/AbstractList$RandomAccessSubList"), (3, .class_ 99), (0, u "java/util/AbstractList$SubList"), (33, .class_ 134), (0, u "java/util/List"), (73, .class_ 209), (0, u "java/util/AbstractList$SubList$1"), (0, .class_ 211), (0, u "java/util/AbstractList$RandomAccessSpliterator")] 6

def k13c0 : Code := { maxStack := 2, maxLocals := 1, code := jdk_39_method_1_code, exceptionTable := #[], attributes := #[] }
def k13m0 : Method := { name := "<init>", desc := "()V", sig := { parameters := [], returnType := none }, accessFlags := 4, code := some k13c0 }
/-- java/util/AbstractList -/
def k13 : Class := { plain "java/util/AbstractList" (some 10) with
  accessFlags := 1057
  interfaces := #[12]
  cf := some (fileOf pool13 8 #[.nestMembers #[93, 98, 208, 210, 82, 77]] #[{ accessFlags := 4, nameIndex := 5, descriptorIndex := 6, attributes := #[] }] 1057 2 #[133] #[{ accessFlags := 132, nameIndex := 11, descriptorIndex := 12, attributes := #[] }])
  fields := #[{ name := "modCount", type := .int, accessFlags := 132, slot := 0, constantValue := 0 }]
  methods := #[k13m0]
  instanceTypes := #[.int]
  staticTypes := #[]
  resolved := Array.replicate 218 none
  statics := none }

def pool14 : Array CpInfo := pool [(1, .class_ 2), (0, u "java/util/RandomAccess"), (0, .class_ 4), (0, u "java/lang/Object")] 2

/-- java/util/RandomAccess -/
def k14 : Class := { plain "java/util/RandomAccess" (some 0) with
  accessFlags := 1537
  interfaces := #[]
  cf := some (fileOf pool14 1 #[] #[] 1537 3 #[] #[])
  fields := #[]
  methods := #[]
  instanceTypes := #[]
  staticTypes := #[]
  resolved := Array.replicate 7 none
  statics := none }

def pool15 : Array CpInfo := pool [(1, .class_ 2), (0, u "java/lang/Cloneable"), (0, .class_ 4), (0, u "java/lang/Object")] 2

/-- java/lang/Cloneable -/
def k15 : Class := { plain "java/lang/Cloneable" (some 0) with
  accessFlags := 1537
  interfaces := #[]
  cf := some (fileOf pool15 1 #[] #[] 1537 3 #[] #[])
  fields := #[]
  methods := #[]
  instanceTypes := #[]
  staticTypes := #[]
  resolved := Array.replicate 7 none
  statics := none }

def pool16 : Array CpInfo := pool [(1, .methodref 2 3), (0, .class_ 4), (0, .nameAndType 5 6), (0, u "java/util/AbstractList"), (0, u "<init>"), (0, u "()V"), (0, .class_ 8), (0, u "java/lang/Object"), (0, .fieldref 10 11), (0, .class_ 12), (0, .nameAndType 13 14), (0, u "java/util/ArrayList"), (0, u "elementData"), (0, u "[Ljava/lang/Object;"), (2, u "EMPTY_ELEMENTDATA"), (21, .fieldref 10 40), (0, .nameAndType 41 14), (0, u "DEFAULTCAPACITY_EMPTY_ELEMENTDATA"), (4, u "toArray"), (0, u "()[Ljava/lang/Object;"), (0, .fieldref 10 49), (0, .nameAndType 50 51), (0, u "size"), (0, u "I"), (6, .class_ 60), (1, u "java/util/Arrays"), (0, u "copyOf"), (1, .fieldref 10 64), (0, .nameAndType 65 51), (0, u "modCount"), (0, .methodref 58 67), (0, .nameAndType 61 68), (0, u "([Ljava/lang/Object;I)[Ljava/lang/Object;"), (0, .methodref 10 70), (0, .nameAndType 71 72), (0, u "grow"), (0, u "(I)[Ljava/lang/Object;"), (6, .methodref 80 81), (0, .class_ 82), (0, .nameAndType 83 84), (0, u "java/lang/Math"), (0, u "max"), (0, u "(II)I"), (11, u "(Ljava/lang/Object;)Z"), (21, .methodref 119 120), (0, .class_ 121), (0, .nameAndType 122 84), (0, u "java/util/Objects"), (0, u "checkIndex"), (0, .methodref 10 124), (0, .nameAndType 13 125), (0, u "(I)Ljava/lang/Object;"), (3, .methodref 10 130), (0, .nameAndType 71 47), (0, .methodref 10 132), (0, .nameAndType 133 134), (0, u "add"), (0, u "(Ljava/lang/Object;[Ljava/lang/Object;I)V"), (13, .class_ 149), (0, u "java/util/List"), (23, u "()Z"), (88, .class_ 263), (0, u "java/util/ArrayList$ListItr"), (3, .class_ 268), (0, u "java/util/ArrayList$Itr"), (7, .class_ 277), (0, u "java/util/ArrayList$SubList"), (12, .class_ 291), (0, u "java/util/ArrayList$ArrayListSpliterator"), (37, .class_ 330), (0, u "java/util/RandomAccess"), (0, .class_ 332), (0, u "java/lang/Cloneable"), (0, .class_ 334), (0, u "java/io/Serializable"), (0, u "serialVersionUID"), (0, u "J"), (3, u "DEFAULT_CAPACITY"), (22, u "isEmpty"), (17, u "get"), (118, .class_ 501), (0, u "java/util/ArrayList$SubList$2"), (0, .class_ 503), (0, u "java/util/ArrayList$SubList$1")] 5

def k16c0 : Code := { maxStack := 2, maxLocals := 1, code := jdk_38_method_2_code, exceptionTable := #[], attributes := #[] }
def k16m0 : Method := { name := "<init>", desc := "()V", sig := { parameters := [], returnType := none }, accessFlags := 1, code := some k16c0 }
def k16c1 : Code := { maxStack := 4, maxLocals := 4, code := jdk_38_method_6_code, exceptionTable := #[], attributes := #[] }
def k16m1 : Method := { name := "grow", desc := "(I)[Ljava/lang/Object;", sig := { parameters := [.int], returnType := some (.array (.object "java/lang/Object")) }, accessFlags := 2, code := some k16c1 }
def k16c2 : Code := { maxStack := 3, maxLocals := 1, code := jdk_38_method_7_code, exceptionTable := #[], attributes := #[] }
def k16m2 : Method := { name := "grow", desc := "()[Ljava/lang/Object;", sig := { parameters := [], returnType := some (.array (.object "java/lang/Object")) }, accessFlags := 2, code := some k16c2 }
def k16c3 : Code := { maxStack := 1, maxLocals := 1, code := jdk_38_method_9_code, exceptionTable := #[], attributes := #[] }
def k16m3 : Method := { name := "isEmpty", desc := "()Z", sig := { parameters := [], returnType := some .boolean }, accessFlags := 1, code := some k16c3 }
def k16c4 : Code := { maxStack := 2, maxLocals := 1, code := jdk_38_method_16_code, exceptionTable := #[], attributes := #[] }
def k16m4 : Method := { name := "toArray", desc := "()[Ljava/lang/Object;", sig := { parameters := [], returnType := some (.array (.object "java/lang/Object")) }, accessFlags := 1, code := some k16c4 }
def k16c5 : Code := { maxStack := 2, maxLocals := 2, code := jdk_38_method_18_code, exceptionTable := #[], attributes := #[] }
def k16m5 : Method := { name := "elementData", desc := "(I)Ljava/lang/Object;", sig := { parameters := [.int], returnType := some (.object "java/lang/Object") }, accessFlags := 0, code := some k16c5 }
def k16c6 : Code := { maxStack := 2, maxLocals := 2, code := jdk_38_method_20_code, exceptionTable := #[], attributes := #[] }
def k16m6 : Method := { name := "get", desc := "(I)Ljava/lang/Object;", sig := { parameters := [.int], returnType := some (.object "java/lang/Object") }, accessFlags := 1, code := some k16c6 }
def k16c7 : Code := { maxStack := 3, maxLocals := 4, code := jdk_38_method_24_code, exceptionTable := #[], attributes := #[] }
def k16m7 : Method := { name := "add", desc := "(Ljava/lang/Object;[Ljava/lang/Object;I)V", sig := { parameters := [(.object "java/lang/Object"), (.array (.object "java/lang/Object")), .int], returnType := none }, accessFlags := 2, code := some k16c7 }
def k16c8 : Code := { maxStack := 4, maxLocals := 2, code := jdk_38_method_25_code, exceptionTable := #[], attributes := #[] }
def k16m8 : Method := { name := "add", desc := "(Ljava/lang/Object;)Z", sig := { parameters := [(.object "java/lang/Object")], returnType := some .boolean }, accessFlags := 1, code := some k16c8 }
/-- java/util/ArrayList -/
def k16 : Class := { plain "java/util/ArrayList" (some 13) with
  accessFlags := 33
  interfaces := #[12, 14, 15, 2]
  cf := some (fileOf pool16 10 #[.nestMembers #[290, 276, 500, 502, 262, 267]] #[{ accessFlags := 1, nameIndex := 5, descriptorIndex := 6, attributes := #[] }, { accessFlags := 2, nameIndex := 71, descriptorIndex := 72, attributes := #[] }, { accessFlags := 2, nameIndex := 71, descriptorIndex := 47, attributes := #[] }, { accessFlags := 1, nameIndex := 363, descriptorIndex := 173, attributes := #[] }, { accessFlags := 1, nameIndex := 46, descriptorIndex := 47, attributes := #[] }, { accessFlags := 0, nameIndex := 13, descriptorIndex := 125, attributes := #[] }, { accessFlags := 1, nameIndex := 381, descriptorIndex := 125, attributes := #[] }, { accessFlags := 2, nameIndex := 133, descriptorIndex := 134, attributes := #[] }, { accessFlags := 1, nameIndex := 133, descriptorIndex := 96, attributes := #[] }] 33 2 #[148, 329, 331, 333] #[{ accessFlags := 26, nameIndex := 335, descriptorIndex := 336, attributes := #[] }, { accessFlags := 26, nameIndex := 340, descriptorIndex := 51, attributes := #[] }, { accessFlags := 26, nameIndex := 17, descriptorIndex := 14, attributes := #[] }, { accessFlags := 26, nameIndex := 41, descriptorIndex := 14, attributes := #[] }, { accessFlags := 128, nameIndex := 13, descriptorIndex := 14, attributes := #[] }, { accessFlags := 2, nameIndex := 50, descriptorIndex := 51, attributes := #[] }])
  fields := #[{ name := "serialVersionUID", type := .long, accessFlags := 26, slot := 0, constantValue := 0 }, { name := "DEFAULT_CAPACITY", type := .int, accessFlags := 26, slot := 1, constantValue := 0 }, { name := "EMPTY_ELEMENTDATA", type := (.array (.object "java/lang/Object")), accessFlags := 26, slot := 2, constantValue := 0 }, { name := "DEFAULTCAPACITY_EMPTY_ELEMENTDATA", type := (.array (.object "java/lang/Object")), accessFlags := 26, slot := 3, constantValue := 0 }, { name := "elementData", type := (.array (.object "java/lang/Object")), accessFlags := 128, slot := 1, constantValue := 0 }, { name := "size", type := .int, accessFlags := 2, slot := 2, constantValue := 0 }]
  methods := #[k16m0, k16m1, k16m2, k16m3, k16m4, k16m5, k16m6, k16m7, k16m8]
  instanceTypes := #[.int, (.array (.object "java/lang/Object")), .int]
  staticTypes := #[.long, .int, (.array (.object "java/lang/Object")), (.array (.object "java/lang/Object"))]
  resolved := Array.replicate 509 none
  statics := some 1 }

def pool17 : Array CpInfo := pool [(1, .methodref 2 3), (0, .class_ 4), (0, .nameAndType 5 6), (0, u "java/lang/Object"), (0, u "<init>"), (0, u "()V"), (0, .class_ 8), (0, u "java/lang/Record")] 13

def k17c0 : Code := { maxStack := 1, maxLocals := 1, code := jdk_30_method_1_code, exceptionTable := #[], attributes := #[] }
def k17m0 : Method := { name := "<init>", desc := "()V", sig := { parameters := [], returnType := none }, accessFlags := 4, code := some k17c0 }
/-- java/lang/Record -/
def k17 : Class := { plain "java/lang/Record" (some 0) with
  accessFlags := 1057
  interfaces := #[]
  cf := some (fileOf pool17 7 #[] #[{ accessFlags := 4, nameIndex := 5, descriptorIndex := 6, attributes := #[] }] 1057 2 #[] #[])
  fields := #[]
  methods := #[k17m0]
  instanceTypes := #[]
  staticTypes := #[]
  resolved := Array.replicate 22 none
  statics := none }

def pool18 : Array CpInfo := pool [(1, .methodref 2 3), (0, .class_ 4), (0, .nameAndType 5 6), (0, u "java/lang/Record"), (0, u "<init>"), (0, u "()V"), (0, .fieldref 8 9), (0, .class_ 10), (0, .nameAndType 11 12), (0, u "com/example/grantline/grantline/PolicyException$Problem"), (0, u "pointer"), (0, u "Ljava/lang/String;"), (0, .fieldref 8 14), (0, .nameAndType 15 12), (0, u "description"), (0, .class_ 17), (0, u "java/lang/StringBuilder"), (0, .methodref 16 3), (0, .methodref 16 20), (0, .nameAndType 21 22), (0, u "append"), (0, u "(Ljava/lang/String;)Ljava/lang/StringBuilder;"), (0, .string 24), (0, u ": "), (0, .methodref 16 26), (0, .nameAndType 27 28), (0, u "toString"), (0, u "()Ljava/lang/String;"), (8, .class_ 38), (0, u "java/io/Serializable"), (0, u "(Ljava/lang/String;Ljava/lang/String;)V"), (8, .class_ 49), (0, u "com/example/grantline/grantline/PolicyException")] 20

def k18c0 : Code := { maxStack := 2, maxLocals := 3, code := prog_17_method_1_code, exceptionTable := #[], attributes := #[] }
def k18m0 : Method := { name := "<init>", desc := "(Ljava/lang/String;Ljava/lang/String;)V", sig := { parameters := [(.object "java/lang/String"), (.object "java/lang/String")], returnType := none }, accessFlags := 1, code := some k18c0 }
def k18c1 : Code := { maxStack := 2, maxLocals := 1, code := prog_17_method_2_code, exceptionTable := #[], attributes := #[] }
def k18m1 : Method := { name := "toString", desc := "()Ljava/lang/String;", sig := { parameters := [], returnType := some (.object "java/lang/String") }, accessFlags := 1, code := some k18c1 }
def k18c2 : Code := { maxStack := 1, maxLocals := 1, code := prog_17_method_6_code, exceptionTable := #[], attributes := #[] }
def k18m2 : Method := { name := "description", desc := "()Ljava/lang/String;", sig := { parameters := [], returnType := some (.object "java/lang/String") }, accessFlags := 1, code := some k18c2 }
/-- com/example/grantline/grantline/PolicyException$Problem -/
def k18 : Class := { plain "com/example/grantline/grantline/PolicyException$Problem" (some 17) with
  accessFlags := 49
  interfaces := #[2]
  cf := some (fileOf pool18 8 #[.nestHost 48] #[{ accessFlags := 1, nameIndex := 5, descriptorIndex := 39, attributes := #[] }, { accessFlags := 1, nameIndex := 27, descriptorIndex := 28, attributes := #[] }, { accessFlags := 1, nameIndex := 15, descriptorIndex := 28, attributes := #[] }] 49 2 #[37] #[{ accessFlags := 18, nameIndex := 11, descriptorIndex := 12, attributes := #[] }, { accessFlags := 18, nameIndex := 15, descriptorIndex := 12, attributes := #[] }])
  fields := #[{ name := "pointer", type := (.object "java/lang/String"), accessFlags := 18, slot := 0, constantValue := 0 }, { name := "description", type := (.object "java/lang/String"), accessFlags := 18, slot := 1, constantValue := 0 }]
  methods := #[k18m0, k18m1, k18m2]
  instanceTypes := #[(.object "java/lang/String"), (.object "java/lang/String")]
  staticTypes := #[]
  resolved := Array.replicate 70 none
  statics := none }

def pool19 : Array CpInfo := pool [(1, .class_ 2), (0, u "java/lang/Math"), (1, .class_ 6), (1, u "java/lang/Object"), (0, u "<init>"), (0, u "()V"), (89, .class_ 100), (1, u "java/lang/Math$RandomNumberGeneratorHolder"), (71, u "negativeZeroFloatBits"), (0, u "J"), (2, u "negativeZeroDoubleBits"), (21, u "max"), (2, u "min"), (43, u "$assertionsDisabled"), (0, u "Z"), (88, u "(II)I"), (2, u "twoToTheDoubleScaleDown"), (0, u "D"), (4, u "twoToTheDoubleScaleUp"), (9, u "E"), (3, u "PI"), (2, u "TAU"), (2, u "DEGREES_TO_RADIANS"), (0, u "RADIANS_TO_DEGREES")] 94

def k19m0 : Method := { name := "<init>", desc := "()V", sig := { parameters := [], returnType := none }, accessFlags := 2, code := none }
def k19c1 : Code := { maxStack := 2, maxLocals := 2, code := jdk_29_method_65_code, exceptionTable := #[], attributes := #[] }
def k19m1 : Method := { name := "max", desc := "(II)I", sig := { parameters := [.int, .int], returnType := some .int }, accessFlags := 9, code := some k19c1 }
def k19c2 : Code := { maxStack := 2, maxLocals := 2, code := jdk_29_method_69_code, exceptionTable := #[], attributes := #[] }
def k19m2 : Method := { name := "min", desc := "(II)I", sig := { parameters := [.int, .int], returnType := some .int }, accessFlags := 9, code := some k19c2 }
/-- java/lang/Math -/
def k19 : Class := { plain "java/lang/Math" (some 0) with
  accessFlags := 49
  interfaces := #[]
  cf := some (fileOf pool19 1 #[.nestMembers #[98]] #[{ accessFlags := 2, nameIndex := 7, descriptorIndex := 8, attributes := #[] }, { accessFlags := 9, nameIndex := 198, descriptorIndex := 335, attributes := #[] }, { accessFlags := 9, nameIndex := 201, descriptorIndex := 335, attributes := #[] }] 49 4 #[] #[{ accessFlags := 25, nameIndex := 354, descriptorIndex := 339, attributes := #[] }, { accessFlags := 25, nameIndex := 358, descriptorIndex := 339, attributes := #[] }, { accessFlags := 25, nameIndex := 361, descriptorIndex := 339, attributes := #[] }, { accessFlags := 26, nameIndex := 364, descriptorIndex := 339, attributes := #[] }, { accessFlags := 26, nameIndex := 365, descriptorIndex := 339, attributes := #[] }, { accessFlags := 26, nameIndex := 172, descriptorIndex := 173, attributes := #[] }, { accessFlags := 26, nameIndex := 176, descriptorIndex := 173, attributes := #[] }, { accessFlags := 8, nameIndex := 344, descriptorIndex := 339, attributes := #[] }, { accessFlags := 8, nameIndex := 338, descriptorIndex := 339, attributes := #[] }, { accessFlags := 4120, nameIndex := 245, descriptorIndex := 246, attributes := #[] }])
  fields := #[{ name := "E", type := .double, accessFlags := 25, slot := 0, constantValue := 0 }, { name := "PI", type := .double, accessFlags := 25, slot := 1, constantValue := 0 }, { name := "TAU", type := .double, accessFlags := 25, slot := 2, constantValue := 0 }, { name := "DEGREES_TO_RADIANS", type := .double, accessFlags := 26, slot := 3, constantValue := 0 }, { name := "RADIANS_TO_DEGREES", type := .double, accessFlags := 26, slot := 4, constantValue := 0 }, { name := "negativeZeroFloatBits", type := .long, accessFlags := 26, slot := 5, constantValue := 0 }, { name := "negativeZeroDoubleBits", type := .long, accessFlags := 26, slot := 6, constantValue := 0 }, { name := "twoToTheDoubleScaleUp", type := .double, accessFlags := 8, slot := 7, constantValue := 0 }, { name := "twoToTheDoubleScaleDown", type := .double, accessFlags := 8, slot := 8, constantValue := 0 }, { name := "$assertionsDisabled", type := .boolean, accessFlags := 4120, slot := 9, constantValue := 0 }]
  methods := #[k19m0, k19m1, k19m2]
  instanceTypes := #[]
  staticTypes := #[.double, .double, .double, .double, .double, .long, .long, .double, .double, .boolean]
  resolved := Array.replicate 460 none
  statics := none }

def pool20 : Array CpInfo := pool [(1, .methodref 2 3), (0, .class_ 4), (0, .nameAndType 5 6), (0, u "java/lang/Object"), (0, u "<init>"), (0, u "()V"), (0, .fieldref 8 9), (0, .class_ 10), (0, .nameAndType 11 12), (0, u "java/lang/Throwable"), (0, u "cause"), (0, u "Ljava/lang/Throwable;"), (0, .fieldref 8 14), (0, .nameAndType 15 16), (0, u "UNASSIGNED_STACK"), (0, u "[Ljava/lang/StackTraceElement;"), (0, .fieldref 8 18), (0, .nameAndType 19 16), (0, u "stackTrace"), (0, .fieldref 8 21), (0, .nameAndType 22 23), (0, u "SUPPRESSED_SENTINEL"), (0, u "Ljava/util/List;"), (0, .fieldref 8 25), (0, .nameAndType 26 23), (0, u "suppressedExceptions"), (0, .methodref 8 28), (0, .nameAndType 29 30), (0, u "fillInStackTrace"), (0, u "()Ljava/lang/Throwable;"), (0, .fieldref 8 32), (0, .nameAndType 33 34), (0, u "detailMessage"), (0, u "Ljava/lang/String;"), (58, .class_ 94), (0, u "java/lang/Throwable$WrappedPrintStream"), (6, .class_ 103), (1, u "java/lang/Throwable$PrintStreamOrWriter"), (61, u "$assertionsDisabled"), (0, u "Z"), (26, .class_ 194), (0, u "java/lang/Throwable$WrappedPrintWriter"), (3, .fieldref 8 199), (0, .nameAndType 200 201), (0, u "backtrace"), (0, u "Ljava/lang/Object;"), (0, .methodref 8 203), (0, .nameAndType 29 204), (0, u "(I)Ljava/lang/Throwable;"), (6, u "depth"), (0, u "I"), (10, u "(Ljava/lang/String;)V"), (45, .class_ 271), (1, u "java/lang/Throwable$SentinelHolder"), (32, u "EMPTY_THROWABLE_ARRAY"), (0, u "[Ljava/lang/Throwable;"), (12, .class_ 319), (0, u "java/io/Serializable"), (0, u "serialVersionUID"), (0, u "J"), (5, u "NULL_CAUSE_MESSAGE"), (0, u "SELF_SUPPRESSION_MESSAGE"), (0, u "CAUSE_CAPTION"), (0, u "SUPPRESSED_CAPTION")] 73

def k20c0 : Code := { maxStack := 2, maxLocals := 1, code := jdk_78_method_1_code, exceptionTable := #[], attributes := #[] }
def k20m0 : Method := { name := "<init>", desc := "()V", sig := { parameters := [], returnType := none }, accessFlags := 1, code := some k20c0 }
def k20c1 : Code := { maxStack := 2, maxLocals := 2, code := jdk_78_method_2_code, exceptionTable := #[], attributes := #[] }
def k20m1 : Method := { name := "<init>", desc := "(Ljava/lang/String;)V", sig := { parameters := [(.object "java/lang/String")], returnType := none }, accessFlags := 1, code := some k20c1 }
def k20c2 : Code := { maxStack := 2, maxLocals := 1, code := jdk_78_method_18_code, exceptionTable := #[], attributes := #[] }
def k20m2 : Method := { name := "fillInStackTrace", desc := "()Ljava/lang/Throwable;", sig := { parameters := [], returnType := some (.object "java/lang/Throwable") }, accessFlags := 33, code := some k20c2 }
def k20m3 : Method := { name := "fillInStackTrace", desc := "(I)Ljava/lang/Throwable;", sig := { parameters := [.int], returnType := some (.object "java/lang/Throwable") }, accessFlags := 258, code := none }
/-- java/lang/Throwable -/
def k20 : Class := { plain "java/lang/Throwable" (some 0) with
  accessFlags := 33
  interfaces := #[2]
  cf := some (fileOf pool20 8 #[.nestMembers #[193, 93, 101, 269]] #[{ accessFlags := 1, nameIndex := 5, descriptorIndex := 6, attributes := #[] }, { accessFlags := 1, nameIndex := 5, descriptorIndex := 223, attributes := #[] }, { accessFlags := 33, nameIndex := 29, descriptorIndex := 30, attributes := #[] }, { accessFlags := 258, nameIndex := 29, descriptorIndex := 204, attributes := #[] }] 33 2 #[318] #[{ accessFlags := 26, nameIndex := 320, descriptorIndex := 321, attributes := #[] }, { accessFlags := 130, nameIndex := 200, descriptorIndex := 201, attributes := #[] }, { accessFlags := 2, nameIndex := 33, descriptorIndex := 34, attributes := #[] }, { accessFlags := 26, nameIndex := 15, descriptorIndex := 16, attributes := #[] }, { accessFlags := 2, nameIndex := 11, descriptorIndex := 12, attributes := #[] }, { accessFlags := 2, nameIndex := 19, descriptorIndex := 16, attributes := #[] }, { accessFlags := 130, nameIndex := 211, descriptorIndex := 212, attributes := #[] }, { accessFlags := 26, nameIndex := 22, descriptorIndex := 23, attributes := #[] }, { accessFlags := 2, nameIndex := 26, descriptorIndex := 23, attributes := #[] }, { accessFlags := 26, nameIndex := 327, descriptorIndex := 34, attributes := #[] }, { accessFlags := 26, nameIndex := 328, descriptorIndex := 34, attributes := #[] }, { accessFlags := 26, nameIndex := 329, descriptorIndex := 34, attributes := #[] }, { accessFlags := 26, nameIndex := 330, descriptorIndex := 34, attributes := #[] }, { accessFlags := 26, nameIndex := 304, descriptorIndex := 305, attributes := #[] }, { accessFlags := 4120, nameIndex := 165, descriptorIndex := 166, attributes := #[] }])
  fields := #[{ name := "serialVersionUID", type := .long, accessFlags := 26, slot := 0, constantValue := 0 }, { name := "backtrace", type := (.object "java/lang/Object"), accessFlags := 130, slot := 0, constantValue := 0 }, { name := "detailMessage", type := (.object "java/lang/String"), accessFlags := 2, slot := 1, constantValue := 0 }, { name := "UNASSIGNED_STACK", type := (.array (.object "java/lang/StackTraceElement")), accessFlags := 26, slot := 1, constantValue := 0 }, { name := "cause", type := (.object "java/lang/Throwable"), accessFlags := 2, slot := 2, constantValue := 0 }, { name := "stackTrace", type := (.array (.object "java/lang/StackTraceElement")), accessFlags := 2, slot := 3, constantValue := 0 }, { name := "depth", type := .int, accessFlags := 130, slot := 4, constantValue := 0 }, { name := "SUPPRESSED_SENTINEL", type := (.object "java/util/List"), accessFlags := 26, slot := 2, constantValue := 0 }, { name := "suppressedExceptions", type := (.object "java/util/List"), accessFlags := 2, slot := 5, constantValue := 0 }, { name := "NULL_CAUSE_MESSAGE", type := (.object "java/lang/String"), accessFlags := 26, slot := 3, constantValue := 0 }, { name := "SELF_SUPPRESSION_MESSAGE", type := (.object "java/lang/String"), accessFlags := 26, slot := 4, constantValue := 0 }, { name := "CAUSE_CAPTION", type := (.object "java/lang/String"), accessFlags := 26, slot := 5, constantValue := 0 }, { name := "SUPPRESSED_CAPTION", type := (.object "java/lang/String"), accessFlags := 26, slot := 6, constantValue := 0 }, { name := "EMPTY_THROWABLE_ARRAY", type := (.array (.object "java/lang/Throwable")), accessFlags := 26, slot := 7, constantValue := 0 }, { name := "$assertionsDisabled", type := .boolean, accessFlags := 4120, slot := 8, constantValue := 0 }]
  methods := #[k20m0, k20m1, k20m2, k20m3]
  instanceTypes := #[(.object "java/lang/Object"), (.object "java/lang/String"), (.object "java/lang/Throwable"), (.array (.object "java/lang/StackTraceElement")), .int, (.object "java/util/List")]
  staticTypes := #[.long, (.array (.object "java/lang/StackTraceElement")), (.object "java/util/List"), (.object "java/lang/String"), (.object "java/lang/String"), (.object "java/lang/String"), (.object "java/lang/String"), (.array (.object "java/lang/Throwable")), .boolean]
  resolved := Array.replicate 404 none
  statics := some 2 }

def pool21 : Array CpInfo := pool [(2, .class_ 4), (1, u "java/lang/Throwable"), (0, u "<init>"), (0, u "()V"), (0, .methodref 2 8), (0, .nameAndType 5 9), (0, u "(Ljava/lang/String;)V"), (9, .class_ 20), (0, u "java/lang/Exception"), (0, u "serialVersionUID"), (0, u "J")] 17

def k21m0 : Method := { name := "<init>", desc := "()V", sig := { parameters := [], returnType := none }, accessFlags := 1, code := none }
def k21c1 : Code := { maxStack := 2, maxLocals := 2, code := jdk_59_method_2_code, exceptionTable := #[], attributes := #[] }
def k21m1 : Method := { name := "<init>", desc := "(Ljava/lang/String;)V", sig := { parameters := [(.object "java/lang/String")], returnType := none }, accessFlags := 1, code := some k21c1 }
/-- java/lang/Exception -/
def k21 : Class := { plain "java/lang/Exception" (some 20) with
  accessFlags := 33
  interfaces := #[]
  cf := some (fileOf pool21 19 #[] #[{ accessFlags := 1, nameIndex := 5, descriptorIndex := 6, attributes := #[] }, { accessFlags := 1, nameIndex := 5, descriptorIndex := 9, attributes := #[] }] 33 2 #[] #[{ accessFlags := 24, nameIndex := 21, descriptorIndex := 22, attributes := #[] }])
  fields := #[{ name := "serialVersionUID", type := .long, accessFlags := 24, slot := 0, constantValue := 0 }]
  methods := #[k21m0, k21m1]
  instanceTypes := #[(.object "java/lang/Object"), (.object "java/lang/String"), (.object "java/lang/Throwable"), (.array (.object "java/lang/StackTraceElement")), .int, (.object "java/util/List")]
  staticTypes := #[.long]
  resolved := Array.replicate 40 none
  statics := none }

def pool22 : Array CpInfo := pool [(1, .class_ 2), (0, u "com/example/grantline/grantline/PolicyException$Problem"), (2, u "<init>"), (2, .class_ 10), (1, u "java/util/List"), (3, .class_ 16), (1, u "com/example/grantline/grantline/PolicyException"), (0, u "(Ljava/util/List;)V"), (0, .methodref 14 19), (0, .nameAndType 20 21), (0, u "first"), (0, u "(Ljava/util/List;)Lcom/example/grantline/grantline/PolicyException$Problem;"), (0, .methodref 1 23), (0, .nameAndType 24 25), (0, u "toString"), (0, u "()Ljava/lang/String;"), (0, .methodref 27 28), (0, .class_ 29), (0, .nameAndType 5 30), (0, u "java/lang/Exception"), (0, u "(Ljava/lang/String;)V"), (0, .interfaceMethodref 8 32), (0, .nameAndType 33 34), (0, u "copyOf"), (0, u "(Ljava/util/Collection;)Ljava/util/List;"), (0, .fieldref 14 36), (0, .nameAndType 37 38), (0, u "problems"), (0, u "Ljava/util/List;"), (0, .interfaceMethodref 8 40), (0, .nameAndType 41 42), (0, u "isEmpty"), (0, u "()Z"), (5, .interfaceMethodref 8 49), (0, .nameAndType 50 51), (0, u "get"), (0, u "(I)Ljava/lang/Object;"), (3, .methodref 1 56), (0, .nameAndType 57 25), (0, u "description"), (0, u "serialVersionUID"), (0, u "J"), (10, u "problem")] 7

def k22c0 : Code := { maxStack := 2, maxLocals := 2, code := prog_16_method_2_code, exceptionTable := #[], attributes := #[] }
def k22m0 : Method := { name := "<init>", desc := "(Ljava/util/List;)V", sig := { parameters := [(.object "java/util/List")], returnType := none }, accessFlags := 0, code := some k22c0 }
def k22c1 : Code := { maxStack := 3, maxLocals := 1, code := prog_16_method_3_code, exceptionTable := #[], attributes := #[] }
def k22m1 : Method := { name := "first", desc := "(Ljava/util/List;)Lcom/example/grantline/grantline/PolicyException$Problem;", sig := { parameters := [(.object "java/util/List")], returnType := some (.object "com/example/grantline/grantline/PolicyException$Problem") }, accessFlags := 10, code := some k22c1 }
def k22c2 : Code := { maxStack := 2, maxLocals := 1, code := prog_16_method_5_code, exceptionTable := #[], attributes := #[] }
def k22m2 : Method := { name := "problem", desc := "()Ljava/lang/String;", sig := { parameters := [], returnType := some (.object "java/lang/String") }, accessFlags := 1, code := some k22c2 }
/-- com/example/grantline/grantline/PolicyException -/
def k22 : Class := { plain "com/example/grantline/grantline/PolicyException" (some 21) with
  accessFlags := 33
  interfaces := #[]
  cf := some (fileOf pool22 14 #[.nestMembers #[1]] #[{ accessFlags := 0, nameIndex := 5, descriptorIndex := 17, attributes := #[] }, { accessFlags := 10, nameIndex := 20, descriptorIndex := 21, attributes := #[] }, { accessFlags := 1, nameIndex := 70, descriptorIndex := 25, attributes := #[] }] 33 27 #[] #[{ accessFlags := 26, nameIndex := 58, descriptorIndex := 59, attributes := #[] }, { accessFlags := 18, nameIndex := 37, descriptorIndex := 38, attributes := #[] }])
  fields := #[{ name := "serialVersionUID", type := .long, accessFlags := 26, slot := 0, constantValue := 0 }, { name := "problems", type := (.object "java/util/List"), accessFlags := 18, slot := 6, constantValue := 0 }]
  methods := #[k22m0, k22m1, k22m2]
  instanceTypes := #[(.object "java/lang/Object"), (.object "java/lang/String"), (.object "java/lang/Throwable"), (.array (.object "java/lang/StackTraceElement")), .int, (.object "java/util/List"), (.object "java/util/List")]
  staticTypes := #[.long]
  resolved := Array.replicate 78 none
  statics := none }

def pool23 : Array CpInfo := pool [(2, .class_ 4), (1, u "java/lang/Object"), (0, u "<init>"), (0, u "()V"), (35, .class_ 44), (1, u "java/util/Objects"), (0, u "requireNonNull"), (0, u "(Ljava/lang/Object;)Ljava/lang/Object;"), (58, .methodref 106 107), (0, .class_ 108), (0, .nameAndType 109 110), (0, u "jdk/internal/util/Preconditions"), (0, u "checkIndex"), (0, u "(IILjava/util/function/BiFunction;)I"), (60, u "(II)I")] 12

def k23m0 : Method := { name := "<init>", desc := "()V", sig := { parameters := [], returnType := none }, accessFlags := 2, code := none }
def k23c1 : Code := { maxStack := 2, maxLocals := 1, code := jdk_31_method_10_code, exceptionTable := #[], attributes := #[] }
def k23m1 : Method := { name := "requireNonNull", desc := "(Ljava/lang/Object;)Ljava/lang/Object;", sig := { parameters := [(.object "java/lang/Object")], returnType := some (.object "java/lang/Object") }, accessFlags := 9, code := some k23c1 }
def k23c2 : Code := { maxStack := 3, maxLocals := 2, code := jdk_31_method_17_code, exceptionTable := #[], attributes := #[] }
def k23m2 : Method := { name := "checkIndex", desc := "(II)I", sig := { parameters := [.int, .int], returnType := some .int }, accessFlags := 9, code := some k23c2 }
/-- java/util/Objects -/
def k23 : Class := { plain "java/util/Objects" (some 0) with
  accessFlags := 49
  interfaces := #[]
  cf := some (fileOf pool23 42 #[] #[{ accessFlags := 2, nameIndex := 5, descriptorIndex := 6, attributes := #[] }, { accessFlags := 9, nameIndex := 45, descriptorIndex := 46, attributes := #[] }, { accessFlags := 9, nameIndex := 109, descriptorIndex := 171, attributes := #[] }] 49 2 #[] #[])
  fields := #[]
  methods := #[k23m0, k23m1, k23m2]
  instanceTypes := #[]
  staticTypes := #[]
  resolved := Array.replicate 184 none
  statics := none }

def pool24 : Array CpInfo := pool [(2, .class_ 4), (1, u "java/lang/Object"), (0, u "<init>"), (0, u "()V"), (17, .class_ 26), (1, u "jdk/internal/util/Preconditions"), (6, u "checkIndex"), (21, .class_ 56), (0, u "jdk/internal/util/Preconditions$4"), (57, .class_ 115), (0, u "jdk/internal/util/Preconditions$1"), (7, u "SIOOBE_FORMATTER"), (0, u "Ljava/util/function/BiFunction;"), (0, .class_ 126), (0, u "jdk/internal/util/Preconditions$2"), (3, u "AIOOBE_FORMATTER"), (0, .class_ 132), (0, u "jdk/internal/util/Preconditions$3"), (3, u "IOOBE_FORMATTER"), (41, u "(IILjava/util/function/BiFunction;)I")] 15

def k24m0 : Method := { name := "<init>", desc := "()V", sig := { parameters := [], returnType := none }, accessFlags := 1, code := none }
def k24c1 : Code := { maxStack := 3, maxLocals := 3, code := jdk_41_method_11_code, exceptionTable := #[], attributes := #[] }
def k24m1 : Method := { name := "checkIndex", desc := "(IILjava/util/function/BiFunction;)I", sig := { parameters := [.int, .int, (.object "java/util/function/BiFunction")], returnType := some .int }, accessFlags := 9, code := some k24c1 }
/-- jdk/internal/util/Preconditions -/
def k24 : Class := { plain "jdk/internal/util/Preconditions" (some 0) with
  accessFlags := 33
  interfaces := #[]
  cf := some (fileOf pool24 24 #[.nestMembers #[55, 131, 125, 114]] #[{ accessFlags := 1, nameIndex := 5, descriptorIndex := 6, attributes := #[] }, { accessFlags := 9, nameIndex := 33, descriptorIndex := 178, attributes := #[] }] 33 2 #[] #[{ accessFlags := 25, nameIndex := 123, descriptorIndex := 124, attributes := #[] }, { accessFlags := 25, nameIndex := 130, descriptorIndex := 124, attributes := #[] }, { accessFlags := 25, nameIndex := 136, descriptorIndex := 124, attributes := #[] }])
  fields := #[{ name := "SIOOBE_FORMATTER", type := (.object "java/util/function/BiFunction"), accessFlags := 25, slot := 0, constantValue := 0 }, { name := "AIOOBE_FORMATTER", type := (.object "java/util/function/BiFunction"), accessFlags := 25, slot := 1, constantValue := 0 }, { name := "IOOBE_FORMATTER", type := (.object "java/util/function/BiFunction"), accessFlags := 25, slot := 2, constantValue := 0 }]
  methods := #[k24m0, k24m1]
  instanceTypes := #[]
  staticTypes := #[(.object "java/util/function/BiFunction"), (.object "java/util/function/BiFunction"), (.object "java/util/function/BiFunction")]
  resolved := Array.replicate 194 none
  statics := some 3 }

def pool25 : Array CpInfo := pool [(1, .class_ 2), (0, u "java/lang/Appendable"), (0, .class_ 4), (0, u "java/lang/Object")] 9

/-- java/lang/Appendable -/
def k25 : Class := { plain "java/lang/Appendable" (some 0) with
  accessFlags := 1537
  interfaces := #[]
  cf := some (fileOf pool25 1 #[] #[] 1537 3 #[] #[])
  fields := #[]
  methods := #[]
  instanceTypes := #[]
  staticTypes := #[]
  resolved := Array.replicate 14 none
  statics := none }

def pool26 : Array CpInfo := pool [(1, .class_ 2), (0, u "java/lang/String"), (0, .methodref 4 5), (0, .class_ 6), (0, .nameAndType 7 8), (0, u "java/lang/Object"), (0, u "<init>"), (0, u "()V"), (1, .class_ 12), (1, u "java/lang/AbstractStringBuilder"), (0, u "EMPTYVALUE"), (0, u "[B"), (0, .fieldref 10 16), (0, .nameAndType 17 14), (0, u "value"), (0, .fieldref 1 19), (0, .nameAndType 20 21), (0, u "COMPACT_STRINGS"), (0, u "Z"), (0, .fieldref 10 23), (0, .nameAndType 24 25), (0, u "coder"), (0, u "B"), (6, .methodref 1 33), (0, .nameAndType 34 35), (0, u "length"), (0, u "()I"), (4, .methodref 1 41), (0, .nameAndType 24 42), (0, u "()B"), (2, u "append"), (0, u "(Ljava/lang/String;)Ljava/lang/AbstractStringBuilder;"), (1, .class_ 49), (0, u "java/lang/CharSequence"), (19, u "(Ljava/lang/String;)V"), (5, u "maybeLatin1"), (3, .fieldref 10 80), (0, .nameAndType 81 82), (0, u "count"), (0, u "I"), (2, u "isLatin1"), (0, u "()Z"), (13, .methodref 10 101), (0, .nameAndType 102 103), (0, u "ensureCapacityInternal"), (0, u "(I)V"), (104, .methodref 10 209), (0, .nameAndType 210 211), (0, u "putStringAt"), (0, u "(ILjava/lang/String;)V"), (5, u "inflateIfNeededFor"), (2, .nameAndType 221 222), (0, u "getBytes"), (0, u "([BIB)V"), (174, .methodref 10 398), (0, .nameAndType 217 69), (0, .methodref 1 220), (3, u "()[B"), (40, .class_ 445), (0, u "java/lang/Appendable"), (106, u "getValue")] 56

def k26m0 : Method := { name := "<init>", desc := "()V", sig := { parameters := [], returnType := none }, accessFlags := 0, code := none }
def k26c1 : Code := { maxStack := 2, maxLocals := 2, code := jdk_68_method_2_code, exceptionTable := #[], attributes := #[] }
def k26m1 : Method := { name := "<init>", desc := "(I)V", sig := { parameters := [.int], returnType := none }, accessFlags := 0, code := some k26c1 }
def k26c2 : Code := { maxStack := 1, maxLocals := 1, code := jdk_68_method_6_code, exceptionTable := #[], attributes := #[] }
def k26m2 : Method := { name := "length", desc := "()I", sig := { parameters := [], returnType := some .int }, accessFlags := 1, code := some k26c2 }
def k26c3 : Code := { maxStack := 4, maxLocals := 3, code := jdk_68_method_9_code, exceptionTable := #[], attributes := #[] }
def k26m3 : Method := { name := "ensureCapacityInternal", desc := "(I)V", sig := { parameters := [.int], returnType := none }, accessFlags := 2, code := some k26c3 }
def k26c4 : Code := { maxStack := 3, maxLocals := 3, code := jdk_68_method_22_code, exceptionTable := #[], attributes := #[] }
def k26m4 : Method := { name := "append", desc := "(Ljava/lang/String;)Ljava/lang/AbstractStringBuilder;", sig := { parameters := [(.object "java/lang/String")], returnType := some (.object "java/lang/AbstractStringBuilder") }, accessFlags := 1, code := some k26c4 }
def k26c5 : Code := { maxStack := 1, maxLocals := 1, code := jdk_68_method_64_code, exceptionTable := #[], attributes := #[] }
def k26m5 : Method := { name := "getValue", desc := "()[B", sig := { parameters := [], returnType := some (.array .byte) }, accessFlags := 16, code := some k26c5 }
def k26c6 : Code := { maxStack := 1, maxLocals := 1, code := jdk_68_method_68_code, exceptionTable := #[], attributes := #[] }
def k26m6 : Method := { name := "isLatin1", desc := "()Z", sig := { parameters := [], returnType := some .boolean }, accessFlags := 16, code := some k26c6 }
def k26c7 : Code := { maxStack := 2, maxLocals := 2, code := jdk_68_method_71_code, exceptionTable := #[], attributes := #[] }
def k26m7 : Method := { name := "inflateIfNeededFor", desc := "(Ljava/lang/String;)V", sig := { parameters := [(.object "java/lang/String")], returnType := none }, accessFlags := 2, code := some k26c7 }
def k26c8 : Code := { maxStack := 4, maxLocals := 3, code := jdk_68_method_73_code, exceptionTable := #[], attributes := #[] }
def k26m8 : Method := { name := "putStringAt", desc := "(ILjava/lang/String;)V", sig := { parameters := [.int, (.object "java/lang/String")], returnType := none }, accessFlags := 2, code := some k26c8 }
/-- java/lang/AbstractStringBuilder -/
def k26 : Class := { plain "java/lang/AbstractStringBuilder" (some 0) with
  accessFlags := 1056
  interfaces := #[25, 4]
  cf := some (fileOf pool26 10 #[] #[{ accessFlags := 0, nameIndex := 7, descriptorIndex := 8, attributes := #[] }, { accessFlags := 0, nameIndex := 7, descriptorIndex := 103, attributes := #[] }, { accessFlags := 1, nameIndex := 34, descriptorIndex := 35, attributes := #[] }, { accessFlags := 2, nameIndex := 102, descriptorIndex := 103, attributes := #[] }, { accessFlags := 1, nameIndex := 45, descriptorIndex := 46, attributes := #[] }, { accessFlags := 16, nameIndex := 552, descriptorIndex := 403, attributes := #[] }, { accessFlags := 16, nameIndex := 85, descriptorIndex := 86, attributes := #[] }, { accessFlags := 2, nameIndex := 217, descriptorIndex := 69, attributes := #[] }, { accessFlags := 2, nameIndex := 210, descriptorIndex := 211, attributes := #[] }] 1056 4 #[444, 48] #[{ accessFlags := 0, nameIndex := 17, descriptorIndex := 14, attributes := #[] }, { accessFlags := 0, nameIndex := 24, descriptorIndex := 25, attributes := #[] }, { accessFlags := 0, nameIndex := 75, descriptorIndex := 21, attributes := #[] }, { accessFlags := 0, nameIndex := 81, descriptorIndex := 82, attributes := #[] }, { accessFlags := 26, nameIndex := 13, descriptorIndex := 14, attributes := #[] }])
  fields := #[{ name := "value", type := (.array .byte), accessFlags := 0, slot := 0, constantValue := 0 }, { name := "coder", type := .byte, accessFlags := 0, slot := 1, constantValue := 0 }, { name := "maybeLatin1", type := .boolean, accessFlags := 0, slot := 2, constantValue := 0 }, { name := "count", type := .int, accessFlags := 0, slot := 3, constantValue := 0 }, { name := "EMPTYVALUE", type := (.array .byte), accessFlags := 26, slot := 0, constantValue := 0 }]
  methods := #[k26m0, k26m1, k26m2, k26m3, k26m4, k26m5, k26m6, k26m7, k26m8]
  instanceTypes := #[(.array .byte), .byte, .boolean, .int]
  staticTypes := #[(.array .byte)]
  resolved := Array.replicate 609 none
  statics := none }

def pool27 : Array CpInfo := pool [(1, .methodref 2 3), (0, .class_ 4), (0, .nameAndType 5 6), (0, u "java/lang/AbstractStringBuilder"), (0, u "<init>"), (0, u "(I)V"), (11, .class_ 20), (1, u "java/lang/String"), (3, .class_ 26), (1, u "java/lang/StringBuilder"), (0, u "append"), (0, u "(Ljava/lang/String;)Ljava/lang/StringBuilder;"), (0, .methodref 2 30), (0, .nameAndType 27 31), (0, u "(Ljava/lang/String;)Ljava/lang/AbstractStringBuilder;"), (105, .methodref 18 138), (0, .nameAndType 5 139), (0, u "(Ljava/lang/StringBuilder;)V"), (5, u "()V"), (10, u "()I"), (186, .methodref 2 344), (0, .nameAndType 345 156), (0, u "length"), (3, .class_ 350), (0, u "java/lang/Appendable"), (0, .class_ 352), (0, u "java/io/Serializable"), (0, .class_ 354), (0, u "java/lang/Comparable"), (0, .class_ 356), (0, u "java/lang/CharSequence"), (0, u "serialVersionUID"), (0, u "J"), (40, u "toString"), (0, u "()Ljava/lang/String;")] 21

def k27c0 : Code := { maxStack := 2, maxLocals := 1, code := jdk_67_method_1_code, exceptionTable := #[], attributes := #[] }
def k27m0 : Method := { name := "<init>", desc := "()V", sig := { parameters := [], returnType := none }, accessFlags := 1, code := some k27c0 }
def k27c1 : Code := { maxStack := 2, maxLocals := 2, code := jdk_67_method_7_code, exceptionTable := #[], attributes := #[] }
def k27m1 : Method := { name := "append", desc := "(Ljava/lang/String;)Ljava/lang/StringBuilder;", sig := { parameters := [(.object "java/lang/String")], returnType := some (.object "java/lang/StringBuilder") }, accessFlags := 1, code := some k27c1 }
def k27c2 : Code := { maxStack := 3, maxLocals := 1, code := jdk_67_method_42_code, exceptionTable := #[], attributes := #[] }
def k27m2 : Method := { name := "toString", desc := "()Ljava/lang/String;", sig := { parameters := [], returnType := some (.object "java/lang/String") }, accessFlags := 1, code := some k27c2 }
def k27c3 : Code := { maxStack := 1, maxLocals := 1, code := jdk_67_method_93_code, exceptionTable := #[], attributes := #[] }
def k27m3 : Method := { name := "length", desc := "()I", sig := { parameters := [], returnType := some .int }, accessFlags := 4161, code := some k27c3 }
/-- java/lang/StringBuilder -/
def k27 : Class := { plain "java/lang/StringBuilder" (some 26) with
  accessFlags := 49
  interfaces := #[25, 2, 3, 4]
  cf := some (fileOf pool27 24 #[] #[{ accessFlags := 1, nameIndex := 5, descriptorIndex := 145, attributes := #[] }, { accessFlags := 1, nameIndex := 27, descriptorIndex := 28, attributes := #[] }, { accessFlags := 1, nameIndex := 399, descriptorIndex := 400, attributes := #[] }, { accessFlags := 4161, nameIndex := 345, descriptorIndex := 156, attributes := #[] }] 49 2 #[349, 351, 353, 355] #[{ accessFlags := 24, nameIndex := 357, descriptorIndex := 358, attributes := #[] }])
  fields := #[{ name := "serialVersionUID", type := .long, accessFlags := 24, slot := 0, constantValue := 0 }]
  methods := #[k27m0, k27m1, k27m2, k27m3]
  instanceTypes := #[(.array .byte), .byte, .boolean, .int]
  staticTypes := #[.long]
  resolved := Array.replicate 422 none
  statics := none }

def pool28 : Array CpInfo := pool [(2, .class_ 4), (1, u "java/lang/Object"), (0, u "<init>"), (0, u "()V"), (1, .class_ 10), (1, u "java/lang/System"), (0, u "allowSecurityManager"), (0, u "I"), (16, u "cons"), (0, u "Ljava/io/Console;"), (77, .class_ 110), (1, u "java/lang/System$CallersHolder"), (43, u "initialErrStream"), (0, u "Ljava/io/PrintStream;"), (19, u "security"), (0, u "Ljava/lang/SecurityManager;"), (31, .class_ 209), (0, u "java/lang/System$1"), (7, u "props"), (0, u "Ljava/util/Properties;"), (2, u "lineSeparator"), (0, u "Ljava/lang/String;"), (96, .class_ 321), (1, u "java/lang/System$LoggerFinder"), (5, .class_ 328), (0, u "java/lang/System$Logger"), (67, u "err"), (2, u "out"), (91, u "notSupportedJnuEncoding"), (15, u "in"), (17, u "initialIn"), (0, u "Ljava/io/InputStream;"), (35, u "bootLayer"), (0, u "Ljava/lang/ModuleLayer;"), (99, .class_ 664), (0, u "java/lang/System$2"), (9, u "NEVER"), (2, u "MAYBE"), (49, u "arraycopy"), (0, u "(Ljava/lang/Object;ILjava/lang/Object;II)V"), (72, .class_ 802), (0, u "java/lang/System$Logger$Level")] 31

def k28m0 : Method := { name := "<init>", desc := "()V", sig := { parameters := [], returnType := none }, accessFlags := 2, code := none }
def k28m1 : Method := { name := "arraycopy", desc := "(Ljava/lang/Object;ILjava/lang/Object;II)V", sig := { parameters := [(.object "java/lang/Object"), .int, (.object "java/lang/Object"), .int, .int], returnType := none }, accessFlags := 265, code := none }
/-- java/lang/System -/
def k28 : Class := { plain "java/lang/System" (some 0) with
  accessFlags := 49
  interfaces := #[]
  cf := some (fileOf pool28 8 #[.nestMembers #[319, 327, 801, 108, 663, 208]] #[{ accessFlags := 2, nameIndex := 5, descriptorIndex := 6, attributes := #[] }, { accessFlags := 265, nameIndex := 727, descriptorIndex := 728, attributes := #[] }] 49 2 #[] #[{ accessFlags := 25, nameIndex := 507, descriptorIndex := 526, attributes := #[] }, { accessFlags := 25, nameIndex := 399, descriptorIndex := 155, attributes := #[] }, { accessFlags := 25, nameIndex := 396, descriptorIndex := 155, attributes := #[] }, { accessFlags := 10, nameIndex := 525, descriptorIndex := 526, attributes := #[] }, { accessFlags := 26, nameIndex := 674, descriptorIndex := 12, attributes := #[] }, { accessFlags := 26, nameIndex := 677, descriptorIndex := 12, attributes := #[] }, { accessFlags := 10, nameIndex := 11, descriptorIndex := 12, attributes := #[] }, { accessFlags := 74, nameIndex := 175, descriptorIndex := 176, attributes := #[] }, { accessFlags := 10, nameIndex := 491, descriptorIndex := 222, attributes := #[] }, { accessFlags := 74, nameIndex := 29, descriptorIndex := 30, attributes := #[] }, { accessFlags := 74, nameIndex := 154, descriptorIndex := 155, attributes := #[] }, { accessFlags := 10, nameIndex := 217, descriptorIndex := 218, attributes := #[] }, { accessFlags := 10, nameIndex := 221, descriptorIndex := 222, attributes := #[] }, { accessFlags := 8, nameIndex := 562, descriptorIndex := 563, attributes := #[] }])
  fields := #[{ name := "in", type := (.object "java/io/InputStream"), accessFlags := 25, slot := 0, constantValue := 0 }, { name := "out", type := (.object "java/io/PrintStream"), accessFlags := 25, slot := 1, constantValue := 0 }, { name := "err", type := (.object "java/io/PrintStream"), accessFlags := 25, slot := 2, constantValue := 0 }, { name := "initialIn", type := (.object "java/io/InputStream"), accessFlags := 10, slot := 3, constantValue := 0 }, { name := "NEVER", type := .int, accessFlags := 26, slot := 4, constantValue := 0 }, { name := "MAYBE", type := .int, accessFlags := 26, slot := 5, constantValue := 0 }, { name := "allowSecurityManager", type := .int, accessFlags := 10, slot := 6, constantValue := 0 }, { name := "security", type := (.object "java/lang/SecurityManager"), accessFlags := 74, slot := 7, constantValue := 0 }, { name := "notSupportedJnuEncoding", type := (.object "java/lang/String"), accessFlags := 10, slot := 8, constantValue := 0 }, { name := "cons", type := (.object "java/io/Console"), accessFlags := 74, slot := 9, constantValue := 0 }, { name := "initialErrStream", type := (.object "java/io/PrintStream"), accessFlags := 74, slot := 10, constantValue := 0 }, { name := "props", type := (.object "java/util/Properties"), accessFlags := 10, slot := 11, constantValue := 0 }, { name := "lineSeparator", type := (.object "java/lang/String"), accessFlags := 10, slot := 12, constantValue := 0 }, { name := "bootLayer", type := (.object "java/lang/ModuleLayer"), accessFlags := 8, slot := 13, constantValue := 0 }]
  methods := #[k28m0, k28m1]
  instanceTypes := #[]
  staticTypes := #[(.object "java/io/InputStream"), (.object "java/io/PrintStream"), (.object "java/io/PrintStream"), (.object "java/io/InputStream"), .int, .int, .int, (.object "java/lang/SecurityManager"), (.object "java/lang/String"), (.object "java/io/Console"), (.object "java/io/PrintStream"), (.object "java/util/Properties"), (.object "java/lang/String"), (.object "java/lang/ModuleLayer")]
  resolved := Array.replicate 834 none
  statics := none }

def pool29 : Array CpInfo := pool [(2, .class_ 4), (1, u "java/lang/Object"), (0, u "<init>"), (0, u "()V"), (7, .class_ 16), (1, u "java/util/Arrays"), (57, .class_ 76), (1, u "java/util/Arrays$NaturalOrder"), (9, .methodref 2 87), (0, .nameAndType 88 89), (0, u "getClass"), (0, u "()Ljava/lang/Class;"), (20, .class_ 111), (0, u "[Ljava/lang/Object;"), (1, .class_ 115), (1, u "java/util/Arrays$LegacyMergeSort"), (1, u "Z"), (21, u "copyOfRange"), (10, .methodref 151 152), (0, .class_ 153), (0, .nameAndType 154 155), (0, u "java/lang/System"), (0, u "arraycopy"), (0, u "(Ljava/lang/Object;ILjava/lang/Object;II)V"), (144, .methodref 14 301), (0, .nameAndType 302 303), (0, u "copyOf"), (0, u "([Ljava/lang/Object;ILjava/lang/Class;)[Ljava/lang/Object;"), (0, .methodref 305 306), (0, .class_ 307), (0, .nameAndType 308 309), (0, u "java/lang/Math"), (0, u "min"), (0, u "(II)I"), (29, .methodref 14 340), (0, .nameAndType 341 342), (0, u "copyOfRangeByte"), (0, u "([BII)[B"), (0, .methodref 14 344), (0, .nameAndType 345 346), (0, u "checkLength"), (0, u "(II)V"), (28, .class_ 376), (0, u "java/util/Arrays$ArrayList"), (68, u "$assertionsDisabled"), (269, u "MIN_ARRAY_SORT_GRAN"), (0, u "I"), (2, u "INSERTIONSORT_THRESHOLD"), (140, u "([Ljava/lang/Object;I)[Ljava/lang/Object;"), (114, .class_ 976), (0, u "java/util/Arrays$ArrayItr")] 52

def k29m0 : Method := { name := "<init>", desc := "()V", sig := { parameters := [], returnType := none }, accessFlags := 2, code := none }
def k29c1 : Code := { maxStack := 3, maxLocals := 2, code := jdk_65_method_119_code, exceptionTable := #[], attributes := #[] }
def k29m1 : Method := { name := "copyOf", desc := "([Ljava/lang/Object;I)[Ljava/lang/Object;", sig := { parameters := [(.array (.object "java/lang/Object")), .int], returnType := some (.array (.object "java/lang/Object")) }, accessFlags := 9, code := some k29c1 }
def k29c2 : Code := { maxStack := 6, maxLocals := 4, code := jdk_65_method_120_code, exceptionTable := #[], attributes := #[] }
def k29m2 : Method := { name := "copyOf", desc := "([Ljava/lang/Object;ILjava/lang/Class;)[Ljava/lang/Object;", sig := { parameters := [(.array (.object "java/lang/Object")), .int, (.object "java/lang/Class")], returnType := some (.array (.object "java/lang/Object")) }, accessFlags := 9, code := some k29c2 }
def k29c3 : Code := { maxStack := 4, maxLocals := 2, code := jdk_65_method_131_code, exceptionTable := #[], attributes := #[] }
def k29m3 : Method := { name := "checkLength", desc := "(II)V", sig := { parameters := [.int, .int], returnType := none }, accessFlags := 10, code := some k29c3 }
def k29c4 : Code := { maxStack := 3, maxLocals := 3, code := jdk_65_method_132_code, exceptionTable := #[], attributes := #[] }
def k29m4 : Method := { name := "copyOfRange", desc := "([BII)[B", sig := { parameters := [(.array .byte), .int, .int], returnType := some (.array .byte) }, accessFlags := 9, code := some k29c4 }
def k29c5 : Code := { maxStack := 6, maxLocals := 5, code := jdk_65_method_133_code, exceptionTable := #[], attributes := #[] }
def k29m5 : Method := { name := "copyOfRangeByte", desc := "([BII)[B", sig := { parameters := [(.array .byte), .int, .int], returnType := some (.array .byte) }, accessFlags := 10, code := some k29c5 }
/-- java/util/Arrays -/
def k29 : Class := { plain "java/util/Arrays" (some 0) with
  accessFlags := 49
  interfaces := #[]
  cf := some (fileOf pool29 14 #[.nestMembers #[975, 375, 113, 74]] #[{ accessFlags := 2, nameIndex := 5, descriptorIndex := 6, attributes := #[] }, { accessFlags := 9, nameIndex := 302, descriptorIndex := 860, attributes := #[] }, { accessFlags := 9, nameIndex := 302, descriptorIndex := 303, attributes := #[] }, { accessFlags := 10, nameIndex := 345, descriptorIndex := 346, attributes := #[] }, { accessFlags := 9, nameIndex := 139, descriptorIndex := 342, attributes := #[] }, { accessFlags := 10, nameIndex := 341, descriptorIndex := 342, attributes := #[] }] 49 2 #[] #[{ accessFlags := 26, nameIndex := 715, descriptorIndex := 716, attributes := #[] }, { accessFlags := 26, nameIndex := 719, descriptorIndex := 716, attributes := #[] }, { accessFlags := 4120, nameIndex := 445, descriptorIndex := 117, attributes := #[] }])
  fields := #[{ name := "MIN_ARRAY_SORT_GRAN", type := .int, accessFlags := 26, slot := 0, constantValue := 0 }, { name := "INSERTIONSORT_THRESHOLD", type := .int, accessFlags := 26, slot := 1, constantValue := 0 }, { name := "$assertionsDisabled", type := .boolean, accessFlags := 4120, slot := 2, constantValue := 0 }]
  methods := #[k29m0, k29m1, k29m2, k29m3, k29m4, k29m5]
  instanceTypes := #[]
  staticTypes := #[.int, .int, .boolean]
  resolved := Array.replicate 1029 none
  statics := none }

def pool30 : Array CpInfo := pool [(2, .class_ 4), (1, u "java/lang/Object"), (0, u "<init>"), (0, u "()V"), (3, .class_ 11), (0, u "java/util/ImmutableCollections$List12"), (0, .class_ 13), (0, u "java/util/ImmutableCollections$ListN"), (3, u "Z"), (0, .class_ 19), (0, u "java/util/List"), (0, .interfaceMethodref 21 22), (0, .class_ 23), (0, .nameAndType 24 25), (0, u "java/util/Collection"), (0, u "isEmpty"), (0, u "()Z"), (2, u "of"), (1, .interfaceMethodref 21 31), (0, .nameAndType 32 33), (0, u "toArray"), (0, u "()[Ljava/lang/Object;"), (0, .interfaceMethodref 18 35), (0, .nameAndType 28 36), (0, u "([Ljava/lang/Object;)Ljava/util/List;"), (0, .methodref 38 39), (0, .class_ 40), (0, .nameAndType 41 42), (0, u "java/util/Objects"), (0, u "requireNonNull"), (0, u "(Ljava/lang/Object;)Ljava/lang/Object;"), (0, .methodref 12 44), (0, .nameAndType 5 45), (0, u "([Ljava/lang/Object;Z)V"), (1, .class_ 49), (1, u "java/util/ImmutableCollections"), (0, u "$assertionsDisabled"), (5, u "[Ljava/lang/Object;"), (5, u "EMPTY_LIST"), (0, u "Ljava/util/ImmutableCollections$ListN;"), (8, u "EMPTY_LIST_NULLS"), (22, u "SALT32L"), (0, u "J"), (2, u "REVERSE"), (6, u "archivedObjects"), (2, u "EMPTY"), (0, u "Ljava/lang/Object;"), (0, .class_ 112), (0, u "java/util/ImmutableCollections$SetN"), (5, u "EMPTY_SET"), (0, u "Ljava/util/ImmutableCollections$SetN;"), (0, .class_ 121), (0, u "java/util/ImmutableCollections$MapN"), (3, u "EMPTY_MAP"), (0, u "Ljava/util/ImmutableCollections$MapN;"), (4, u "EXPAND_FACTOR"), (0, u "I"), (9, u "listCopy"), (0, u "(Ljava/util/Collection;)Ljava/util/List;"), (7, u "listFromArray"), (17, .class_ 170), (0, u "java/util/ImmutableCollections$MapN$MapNIterator"), (0, .class_ 172), (0, u "java/util/ImmutableCollections$MapN$1"), (0, .class_ 174), (0, u "java/util/ImmutableCollections$Map1"), (0, .class_ 176), (0, u "java/util/ImmutableCollections$AbstractImmutableMap"), (0, .class_ 178), (0, u "java/util/ImmutableCollections$SetN$SetNIterator"), (0, .class_ 180), (0, u "java/util/ImmutableCollections$Set12"), (0, .class_ 182), (0, u "java/util/ImmutableCollections$Set12$1"), (0, .class_ 184), (0, u "java/util/ImmutableCollections$AbstractImmutableSet"), (0, .class_ 186), (0, u "java/util/ImmutableCollections$SubList"), (0, .class_ 188), (0, u "java/util/ImmutableCollections$ListItr"), (0, .class_ 190), (0, u "java/util/ImmutableCollections$AbstractImmutableList"), (0, .class_ 192), (0, u "java/util/ImmutableCollections$AbstractImmutableCollection"), (0, .class_ 194), (0, u "java/util/ImmutableCollections$Access"), (0, .class_ 196), (0, u "java/util/ImmutableCollections$Access$1")] 16

def k30m0 : Method := { name := "<init>", desc := "()V", sig := { parameters := [], returnType := none }, accessFlags := 2, code := none }
def k30c1 : Code := { maxStack := 1, maxLocals := 2, code := jdk_56_method_3_code, exceptionTable := #[], attributes := #[] }
def k30m1 : Method := { name := "listCopy", desc := "(Ljava/util/Collection;)Ljava/util/List;", sig := { parameters := [(.object "java/util/Collection")], returnType := some (.object "java/util/List") }, accessFlags := 8, code := some k30c1 }
def k30c2 : Code := { maxStack := 4, maxLocals := 3, code := jdk_56_method_4_code, exceptionTable := #[], attributes := #[] }
def k30m2 : Method := { name := "listFromArray", desc := "([Ljava/lang/Object;)Ljava/util/List;", sig := { parameters := [(.array (.object "java/lang/Object"))], returnType := some (.object "java/util/List") }, accessFlags := 136, code := some k30c2 }
/-- java/util/ImmutableCollections -/
def k30 : Class := { plain "java/util/ImmutableCollections" (some 0) with
  accessFlags := 32
  interfaces := #[]
  cf := some (fileOf pool30 47 #[.nestMembers #[120, 169, 171, 173, 175, 111, 177, 179, 181, 183, 12, 10, 185, 187, 189, 191, 193, 195]] #[{ accessFlags := 2, nameIndex := 5, descriptorIndex := 6, attributes := #[] }, { accessFlags := 8, nameIndex := 142, descriptorIndex := 143, attributes := #[] }, { accessFlags := 136, nameIndex := 151, descriptorIndex := 36, attributes := #[] }] 32 2 #[] #[{ accessFlags := 26, nameIndex := 95, descriptorIndex := 96, attributes := #[] }, { accessFlags := 26, nameIndex := 99, descriptorIndex := 17, attributes := #[] }, { accessFlags := 10, nameIndex := 106, descriptorIndex := 56, attributes := #[] }, { accessFlags := 26, nameIndex := 109, descriptorIndex := 110, attributes := #[] }, { accessFlags := 24, nameIndex := 62, descriptorIndex := 63, attributes := #[] }, { accessFlags := 24, nameIndex := 72, descriptorIndex := 63, attributes := #[] }, { accessFlags := 24, nameIndex := 118, descriptorIndex := 119, attributes := #[] }, { accessFlags := 24, nameIndex := 125, descriptorIndex := 126, attributes := #[] }, { accessFlags := 24, nameIndex := 131, descriptorIndex := 132, attributes := #[] }, { accessFlags := 4120, nameIndex := 50, descriptorIndex := 17, attributes := #[] }])
  fields := #[{ name := "SALT32L", type := .long, accessFlags := 26, slot := 0, constantValue := 0 }, { name := "REVERSE", type := .boolean, accessFlags := 26, slot := 1, constantValue := 0 }, { name := "archivedObjects", type := (.array (.object "java/lang/Object")), accessFlags := 10, slot := 2, constantValue := 0 }, { name := "EMPTY", type := (.object "java/lang/Object"), accessFlags := 26, slot := 3, constantValue := 0 }, { name := "EMPTY_LIST", type := (.object "java/util/ImmutableCollections$ListN"), accessFlags := 24, slot := 4, constantValue := 0 }, { name := "EMPTY_LIST_NULLS", type := (.object "java/util/ImmutableCollections$ListN"), accessFlags := 24, slot := 5, constantValue := 0 }, { name := "EMPTY_SET", type := (.object "java/util/ImmutableCollections$SetN"), accessFlags := 24, slot := 6, constantValue := 0 }, { name := "EMPTY_MAP", type := (.object "java/util/ImmutableCollections$MapN"), accessFlags := 24, slot := 7, constantValue := 0 }, { name := "EXPAND_FACTOR", type := .int, accessFlags := 24, slot := 8, constantValue := 0 }, { name := "$assertionsDisabled", type := .boolean, accessFlags := 4120, slot := 9, constantValue := 0 }]
  methods := #[k30m0, k30m1, k30m2]
  instanceTypes := #[]
  staticTypes := #[.long, .boolean, (.array (.object "java/lang/Object")), (.object "java/lang/Object"), (.object "java/util/ImmutableCollections$ListN"), (.object "java/util/ImmutableCollections$ListN"), (.object "java/util/ImmutableCollections$SetN"), (.object "java/util/ImmutableCollections$MapN"), .int, .boolean]
  resolved := Array.replicate 213 none
  statics := some 4 }

def pool31 : Array CpInfo := pool [(1, .methodref 2 3), (0, .class_ 4), (0, .nameAndType 5 6), (0, u "java/util/AbstractCollection"), (0, u "<init>"), (0, u "()V"), (1, .class_ 10), (1, u "java/util/ImmutableCollections"), (2, .class_ 14), (0, u "java/util/ImmutableCollections$AbstractImmutableCollection")] 41

def k31c0 : Code := { maxStack := 1, maxLocals := 1, code := jdk_47_method_1_code, exceptionTable := #[], attributes := #[] }
def k31m0 : Method := { name := "<init>", desc := "()V", sig := { parameters := [], returnType := none }, accessFlags := 0, code := some k31c0 }
/-- java/util/ImmutableCollections$AbstractImmutableCollection -/
def k31 : Class := { plain "java/util/ImmutableCollections$AbstractImmutableCollection" (some 10) with
  accessFlags := 1056
  interfaces := #[]
  cf := some (fileOf pool31 13 #[.nestHost 8] #[{ accessFlags := 0, nameIndex := 5, descriptorIndex := 6, attributes := #[] }] 1056 2 #[] #[])
  fields := #[]
  methods := #[k31m0]
  instanceTypes := #[]
  staticTypes := #[]
  resolved := Array.replicate 56 none
  statics := none }

def pool32 : Array CpInfo := pool [(1, .methodref 2 3), (0, .class_ 4), (0, .nameAndType 5 6), (0, u "java/util/ImmutableCollections$AbstractImmutableCollection"), (0, u "<init>"), (0, u "()V"), (1, .class_ 10), (1, u "java/util/ImmutableCollections"), (3, .class_ 16), (1, u "java/util/ImmutableCollections$AbstractImmutableList"), (60, .class_ 78), (0, u "java/util/List"), (45, .class_ 125), (0, u "java/util/RandomAccess")] 70

def k32c0 : Code := { maxStack := 1, maxLocals := 1, code := jdk_46_method_1_code, exceptionTable := #[], attributes := #[] }
def k32m0 : Method := { name := "<init>", desc := "()V", sig := { parameters := [], returnType := none }, accessFlags := 0, code := some k32c0 }
/-- java/util/ImmutableCollections$AbstractImmutableList -/
def k32 : Class := { plain "java/util/ImmutableCollections$AbstractImmutableList" (some 31) with
  accessFlags := 1056
  interfaces := #[12, 14]
  cf := some (fileOf pool32 14 #[.nestHost 8] #[{ accessFlags := 0, nameIndex := 5, descriptorIndex := 6, attributes := #[] }] 1056 2 #[77, 124] #[])
  fields := #[]
  methods := #[k32m0]
  instanceTypes := #[]
  staticTypes := #[]
  resolved := Array.replicate 196 none
  statics := none }

def pool33 : Array CpInfo := pool [(1, .methodref 2 3), (0, .class_ 4), (0, .nameAndType 5 6), (0, u "java/util/ImmutableCollections$AbstractImmutableList"), (0, u "<init>"), (0, u "()V"), (0, .methodref 8 9), (0, .class_ 10), (0, .nameAndType 11 12), (0, u "java/util/Objects"), (0, u "requireNonNull"), (0, u "(Ljava/lang/Object;)Ljava/lang/Object;"), (0, .fieldref 14 15), (0, .class_ 16), (0, .nameAndType 17 18), (0, u "java/util/ImmutableCollections$List12"), (0, u "e0"), (0, u "Ljava/lang/Object;"), (0, .fieldref 20 21), (0, .class_ 22), (0, .nameAndType 23 18), (0, u "java/util/ImmutableCollections"), (0, u "EMPTY"), (0, .fieldref 14 25), (0, .nameAndType 26 18), (0, u "e1"), (43, .class_ 71), (0, u "java/io/Serializable"), (4, u "(Ljava/lang/Object;)V"), (8, u "(Ljava/lang/Object;Ljava/lang/Object;)V"), (4, u "get"), (0, u "(I)Ljava/lang/Object;")] 33

def k33c0 : Code := { maxStack := 2, maxLocals := 2, code := jdk_44_method_1_code, exceptionTable := #[], attributes := #[] }
def k33m0 : Method := { name := "<init>", desc := "(Ljava/lang/Object;)V", sig := { parameters := [(.object "java/lang/Object")], returnType := none }, accessFlags := 0, code := some k33c0 }
def k33c1 : Code := { maxStack := 2, maxLocals := 3, code := jdk_44_method_2_code, exceptionTable := #[], attributes := #[] }
def k33m1 : Method := { name := "<init>", desc := "(Ljava/lang/Object;Ljava/lang/Object;)V", sig := { parameters := [(.object "java/lang/Object"), (.object "java/lang/Object")], returnType := none }, accessFlags := 0, code := some k33c1 }
def k33c2 : Code := { maxStack := 2, maxLocals := 2, code := jdk_44_method_5_code, exceptionTable := #[], attributes := #[] }
def k33m2 : Method := { name := "get", desc := "(I)Ljava/lang/Object;", sig := { parameters := [.int], returnType := some (.object "java/lang/Object") }, accessFlags := 1, code := some k33c2 }
/-- java/util/ImmutableCollections$List12 -/
def k33 : Class := { plain "java/util/ImmutableCollections$List12" (some 32) with
  accessFlags := 48
  interfaces := #[2]
  cf := some (fileOf pool33 14 #[.nestHost 20] #[{ accessFlags := 0, nameIndex := 5, descriptorIndex := 76, attributes := #[] }, { accessFlags := 0, nameIndex := 5, descriptorIndex := 85, attributes := #[] }, { accessFlags := 1, nameIndex := 90, descriptorIndex := 91, attributes := #[] }] 48 2 #[70] #[{ accessFlags := 18, nameIndex := 17, descriptorIndex := 18, attributes := #[] }, { accessFlags := 18, nameIndex := 26, descriptorIndex := 18, attributes := #[] }])
  fields := #[{ name := "e0", type := (.object "java/lang/Object"), accessFlags := 18, slot := 0, constantValue := 0 }, { name := "e1", type := (.object "java/lang/Object"), accessFlags := 18, slot := 1, constantValue := 0 }]
  methods := #[k33m0, k33m1, k33m2]
  instanceTypes := #[(.object "java/lang/Object"), (.object "java/lang/Object")]
  staticTypes := #[]
  resolved := Array.replicate 125 none
  statics := none }

def pool34 : Array CpInfo := pool [(1, .methodref 2 3), (0, .class_ 4), (0, .nameAndType 5 6), (0, u "java/util/ImmutableCollections$AbstractImmutableList"), (0, u "<init>"), (0, u "()V"), (0, .fieldref 8 9), (0, .class_ 10), (0, .nameAndType 11 12), (0, u "java/util/ImmutableCollections$ListN"), (0, u "elements"), (0, u "[Ljava/lang/Object;"), (0, .fieldref 8 14), (0, .nameAndType 15 16), (0, u "allowNulls"), (0, u "Z"), (42, .class_ 60), (0, u "java/io/Serializable"), (4, u "([Ljava/lang/Object;Z)V"), (13, u "get"), (0, u "(I)Ljava/lang/Object;"), (33, .class_ 115), (0, u "java/util/ImmutableCollections")] 3

def k34c0 : Code := { maxStack := 2, maxLocals := 3, code := jdk_45_method_1_code, exceptionTable := #[], attributes := #[] }
def k34m0 : Method := { name := "<init>", desc := "([Ljava/lang/Object;Z)V", sig := { parameters := [(.array (.object "java/lang/Object")), .boolean], returnType := none }, accessFlags := 2, code := some k34c0 }
def k34c1 : Code := { maxStack := 2, maxLocals := 2, code := jdk_45_method_4_code, exceptionTable := #[], attributes := #[] }
def k34m1 : Method := { name := "get", desc := "(I)Ljava/lang/Object;", sig := { parameters := [.int], returnType := some (.object "java/lang/Object") }, accessFlags := 1, code := some k34c1 }
/-- java/util/ImmutableCollections$ListN -/
def k34 : Class := { plain "java/util/ImmutableCollections$ListN" (some 32) with
  accessFlags := 48
  interfaces := #[2]
  cf := some (fileOf pool34 8 #[.nestHost 114] #[{ accessFlags := 2, nameIndex := 5, descriptorIndex := 65, attributes := #[] }, { accessFlags := 1, nameIndex := 79, descriptorIndex := 80, attributes := #[] }] 48 2 #[59] #[{ accessFlags := 18, nameIndex := 11, descriptorIndex := 12, attributes := #[] }, { accessFlags := 18, nameIndex := 15, descriptorIndex := 16, attributes := #[] }])
  fields := #[{ name := "elements", type := (.array (.object "java/lang/Object")), accessFlags := 18, slot := 0, constantValue := 0 }, { name := "allowNulls", type := .boolean, accessFlags := 18, slot := 1, constantValue := 0 }]
  methods := #[k34m0, k34m1]
  instanceTypes := #[(.array (.object "java/lang/Object")), .boolean]
  staticTypes := #[]
  resolved := Array.replicate 119 none
  statics := none }

def pool35 : Array CpInfo := pool [(6, .class_ 8), (1, u "java/lang/Object"), (0, u "<init>"), (0, u "()V"), (1, .class_ 14), (1, u "java/lang/StringUTF16"), (31, u "$assertionsDisabled"), (0, u "Z"), (13, u "HI_BYTE_SHIFT"), (0, u "I"), (2, u "LO_BYTE_SHIFT"), (49, .methodref 12 116), (0, .nameAndType 117 118), (0, u "compress"), (0, u "([CI[BII)I"), (3, u "([CII)[B"), (138, u "coderFromArrayLen"), (0, u "([BI)B"), (106, .class_ 371), (1, u "java/lang/StringUTF16$LinesSpliterator"), (58, u "MAX_LENGTH"), (196, .class_ 628), (0, u "java/lang/StringUTF16$CodePointsSpliterator"), (0, .class_ 630), (0, u "java/lang/StringUTF16$CharsSpliterator")] 4

def k35m0 : Method := { name := "<init>", desc := "()V", sig := { parameters := [], returnType := none }, accessFlags := 0, code := none }
def k35c1 : Code := { maxStack := 2, maxLocals := 2, code := jdk_52_method_15_code, exceptionTable := #[], attributes := #[] }
def k35m1 : Method := { name := "coderFromArrayLen", desc := "([BI)B", sig := { parameters := [(.array .byte), .int], returnType := some .byte }, accessFlags := 8, code := some k35c1 }
def k35c2 : Code := { maxStack := 5, maxLocals := 6, code := jdk_52_method_16_code, exceptionTable := #[], attributes := #[] }
def k35m2 : Method := { name := "compress", desc := "([CII)[B", sig := { parameters := [(.array .char), .int, .int], returnType := some (.array .byte) }, accessFlags := 9, code := some k35c2 }
def k35c3 : Code := { maxStack := 3, maxLocals := 7, code := jdk_52_method_21_code, exceptionTable := #[], attributes := #[] }
def k35m3 : Method := { name := "compress", desc := "([CI[BII)I", sig := { parameters := [(.array .char), .int, (.array .byte), .int, .int], returnType := some .int }, accessFlags := 9, code := some k35c3 }
/-- java/lang/StringUTF16 -/
def k35 : Class := { plain "java/lang/StringUTF16" (some 0) with
  accessFlags := 48
  interfaces := #[]
  cf := some (fileOf pool35 12 #[.nestMembers #[627, 629, 369]] #[{ accessFlags := 0, nameIndex := 9, descriptorIndex := 10, attributes := #[] }, { accessFlags := 8, nameIndex := 261, descriptorIndex := 262, attributes := #[] }, { accessFlags := 9, nameIndex := 117, descriptorIndex := 122, attributes := #[] }, { accessFlags := 9, nameIndex := 117, descriptorIndex := 118, attributes := #[] }] 48 6 #[] #[{ accessFlags := 26, nameIndex := 61, descriptorIndex := 62, attributes := #[] }, { accessFlags := 26, nameIndex := 65, descriptorIndex := 62, attributes := #[] }, { accessFlags := 24, nameIndex := 430, descriptorIndex := 62, attributes := #[] }, { accessFlags := 4120, nameIndex := 46, descriptorIndex := 47, attributes := #[] }])
  fields := #[{ name := "HI_BYTE_SHIFT", type := .int, accessFlags := 26, slot := 0, constantValue := 0 }, { name := "LO_BYTE_SHIFT", type := .int, accessFlags := 26, slot := 1, constantValue := 0 }, { name := "MAX_LENGTH", type := .int, accessFlags := 24, slot := 2, constantValue := 0 }, { name := "$assertionsDisabled", type := .boolean, accessFlags := 4120, slot := 3, constantValue := 0 }]
  methods := #[k35m0, k35m1, k35m2, k35m3]
  instanceTypes := #[]
  staticTypes := #[.int, .int, .int, .boolean]
  resolved := Array.replicate 635 none
  statics := none }

def pool36 : Array CpInfo := pool [(4, .class_ 6), (1, u "java/lang/Object"), (0, u "<init>"), (0, u "()V"), (5, .class_ 16), (1, u "java/lang/StringLatin1"), (73, u "canEncode"), (14, u "(C)Z"), (15, u "$assertionsDisabled"), (0, u "Z"), (98, .class_ 223), (1, u "java/lang/StringLatin1$LinesSpliterator"), (156, u "toBytes"), (1, u "(C)[B"), (7, .class_ 391), (0, u "java/lang/StringLatin1$CharsSpliterator")] 3

def k36m0 : Method := { name := "<init>", desc := "()V", sig := { parameters := [], returnType := none }, accessFlags := 0, code := none }
def k36c1 : Code := { maxStack := 2, maxLocals := 1, code := jdk_43_method_3_code, exceptionTable := #[], attributes := #[] }
def k36m1 : Method := { name := "canEncode", desc := "(C)Z", sig := { parameters := [.char], returnType := some .boolean }, accessFlags := 9, code := some k36c1 }
def k36c2 : Code := { maxStack := 4, maxLocals := 1, code := jdk_43_method_46_code, exceptionTable := #[], attributes := #[] }
def k36m2 : Method := { name := "toBytes", desc := "(C)[B", sig := { parameters := [.char], returnType := some (.array .byte) }, accessFlags := 9, code := some k36c2 }
/-- java/lang/StringLatin1 -/
def k36 : Class := { plain "java/lang/StringLatin1" (some 0) with
  accessFlags := 48
  interfaces := #[]
  cf := some (fileOf pool36 14 #[.nestMembers #[390, 221]] #[{ accessFlags := 0, nameIndex := 7, descriptorIndex := 8, attributes := #[] }, { accessFlags := 9, nameIndex := 90, descriptorIndex := 105, attributes := #[] }, { accessFlags := 9, nameIndex := 380, descriptorIndex := 382, attributes := #[] }] 48 4 #[] #[{ accessFlags := 4120, nameIndex := 121, descriptorIndex := 122, attributes := #[] }])
  fields := #[{ name := "$assertionsDisabled", type := .boolean, accessFlags := 4120, slot := 0, constantValue := 0 }]
  methods := #[k36m0, k36m1, k36m2]
  instanceTypes := #[]
  staticTypes := #[.boolean]
  resolved := Array.replicate 395 none
  statics := none }

def pool37 : Array CpInfo := pool [(9, u "<init>"), (6, .class_ 18), (1, u "java/lang/Object"), (0, u "()V"), (1, .class_ 23), (1, u "jdk/internal/util/ArraysSupport"), (0, u "LOG2_ARRAY_LONG_INDEX_SCALE"), (0, u "I"), (2, u "U"), (0, u "Ljdk/internal/misc/Unsafe;"), (8, u "BIG_ENDIAN"), (0, u "Z"), (8, u "LOG2_BYTE_BIT_SIZE"), (4, u "LOG2_ARRAY_INT_INDEX_SCALE"), (54, u "JLA"), (0, u "Ljdk/internal/access/JavaLangAccess;"), (11, u "LOG2_ARRAY_BOOLEAN_INDEX_SCALE"), (9, u "LOG2_ARRAY_BYTE_INDEX_SCALE"), (5, u "LOG2_ARRAY_CHAR_INDEX_SCALE"), (5, u "LOG2_ARRAY_SHORT_INDEX_SCALE"), (18, u "LOG2_ARRAY_FLOAT_INDEX_SCALE"), (24, u "LOG2_ARRAY_DOUBLE_INDEX_SCALE"), (89, u "T_BOOLEAN"), (2, u "T_CHAR"), (1, u "T_FLOAT"), (1, u "T_DOUBLE"), (1, u "T_BYTE"), (1, u "T_SHORT"), (1, u "T_INT"), (1, u "T_LONG"), (1, u "SOFT_MAX_ARRAY_LENGTH")] 83

def k37m0 : Method := { name := "<init>", desc := "()V", sig := { parameters := [], returnType := none }, accessFlags := 2, code := none }
/-- jdk/internal/util/ArraysSupport -/
def k37 : Class := { plain "jdk/internal/util/ArraysSupport" (some 0) with
  accessFlags := 33
  interfaces := #[]
  cf := some (fileOf pool37 21 #[] #[{ accessFlags := 2, nameIndex := 9, descriptorIndex := 19, attributes := #[] }] 33 16 #[] #[{ accessFlags := 24, nameIndex := 28, descriptorIndex := 29, attributes := #[] }, { accessFlags := 26, nameIndex := 38, descriptorIndex := 39, attributes := #[] }, { accessFlags := 25, nameIndex := 121, descriptorIndex := 25, attributes := #[] }, { accessFlags := 25, nameIndex := 131, descriptorIndex := 25, attributes := #[] }, { accessFlags := 25, nameIndex := 137, descriptorIndex := 25, attributes := #[] }, { accessFlags := 25, nameIndex := 143, descriptorIndex := 25, attributes := #[] }, { accessFlags := 25, nameIndex := 53, descriptorIndex := 25, attributes := #[] }, { accessFlags := 25, nameIndex := 24, descriptorIndex := 25, attributes := #[] }, { accessFlags := 25, nameIndex := 162, descriptorIndex := 25, attributes := #[] }, { accessFlags := 25, nameIndex := 187, descriptorIndex := 25, attributes := #[] }, { accessFlags := 26, nameIndex := 48, descriptorIndex := 25, attributes := #[] }, { accessFlags := 25, nameIndex := 277, descriptorIndex := 25, attributes := #[] }, { accessFlags := 25, nameIndex := 280, descriptorIndex := 25, attributes := #[] }, { accessFlags := 25, nameIndex := 282, descriptorIndex := 25, attributes := #[] }, { accessFlags := 25, nameIndex := 284, descriptorIndex := 25, attributes := #[] }, { accessFlags := 25, nameIndex := 286, descriptorIndex := 25, attributes := #[] }, { accessFlags := 25, nameIndex := 288, descriptorIndex := 25, attributes := #[] }, { accessFlags := 25, nameIndex := 290, descriptorIndex := 25, attributes := #[] }, { accessFlags := 25, nameIndex := 292, descriptorIndex := 25, attributes := #[] }, { accessFlags := 26, nameIndex := 108, descriptorIndex := 109, attributes := #[] }, { accessFlags := 25, nameIndex := 294, descriptorIndex := 25, attributes := #[] }])
  fields := #[{ name := "U", type := (.object "jdk/internal/misc/Unsafe"), accessFlags := 24, slot := 0, constantValue := 0 }, { name := "BIG_ENDIAN", type := .boolean, accessFlags := 26, slot := 1, constantValue := 0 }, { name := "LOG2_ARRAY_BOOLEAN_INDEX_SCALE", type := .int, accessFlags := 25, slot := 2, constantValue := 0 }, { name := "LOG2_ARRAY_BYTE_INDEX_SCALE", type := .int, accessFlags := 25, slot := 3, constantValue := 0 }, { name := "LOG2_ARRAY_CHAR_INDEX_SCALE", type := .int, accessFlags := 25, slot := 4, constantValue := 0 }, { name := "LOG2_ARRAY_SHORT_INDEX_SCALE", type := .int, accessFlags := 25, slot := 5, constantValue := 0 }, { name := "LOG2_ARRAY_INT_INDEX_SCALE", type := .int, accessFlags := 25, slot := 6, constantValue := 0 }, { name := "LOG2_ARRAY_LONG_INDEX_SCALE", type := .int, accessFlags := 25, slot := 7, constantValue := 0 }, { name := "LOG2_ARRAY_FLOAT_INDEX_SCALE", type := .int, accessFlags := 25, slot := 8, constantValue := 0 }, { name := "LOG2_ARRAY_DOUBLE_INDEX_SCALE", type := .int, accessFlags := 25, slot := 9, constantValue := 0 }, { name := "LOG2_BYTE_BIT_SIZE", type := .int, accessFlags := 26, slot := 10, constantValue := 0 }, { name := "T_BOOLEAN", type := .int, accessFlags := 25, slot := 11, constantValue := 0 }, { name := "T_CHAR", type := .int, accessFlags := 25, slot := 12, constantValue := 0 }, { name := "T_FLOAT", type := .int, accessFlags := 25, slot := 13, constantValue := 0 }, { name := "T_DOUBLE", type := .int, accessFlags := 25, slot := 14, constantValue := 0 }, { name := "T_BYTE", type := .int, accessFlags := 25, slot := 15, constantValue := 0 }, { name := "T_SHORT", type := .int, accessFlags := 25, slot := 16, constantValue := 0 }, { name := "T_INT", type := .int, accessFlags := 25, slot := 17, constantValue := 0 }, { name := "T_LONG", type := .int, accessFlags := 25, slot := 18, constantValue := 0 }, { name := "JLA", type := (.object "jdk/internal/access/JavaLangAccess"), accessFlags := 26, slot := 19, constantValue := 0 }, { name := "SOFT_MAX_ARRAY_LENGTH", type := .int, accessFlags := 25, slot := 20, constantValue := 0 }]
  methods := #[k37m0]
  instanceTypes := #[]
  staticTypes := #[(.object "jdk/internal/misc/Unsafe"), .boolean, .int, .int, .int, .int, .int, .int, .int, .int, .int, .int, .int, .int, .int, .int, .int, .int, .int, (.object "jdk/internal/access/JavaLangAccess"), .int]
  resolved := Array.replicate 378 none
  statics := none }

def pool38 : Array CpInfo := pool [(2, .class_ 4), (1, u "java/lang/Object"), (0, u "<init>"), (0, u "()V"), (12, .class_ 20), (0, u "java/util/Collections"), (63, u "r"), (0, u "Ljava/util/Random;"), (80, .class_ 167), (0, u "java/util/Collections$UnmodifiableCollection"), (6, .class_ 175), (0, u "java/util/Collections$UnmodifiableSequencedCollection"), (6, .class_ 183), (0, u "java/util/Collections$UnmodifiableSet"), (6, .class_ 191), (0, u "java/util/Collections$UnmodifiableSequencedSet"), (6, .class_ 199), (0, u "java/util/Collections$UnmodifiableSortedSet"), (6, .class_ 207), (0, u "java/util/Collections$UnmodifiableNavigableSet"), (4, .class_ 213), (0, u "java/util/Collections$UnmodifiableList"), (1, .class_ 216), (0, u "java/util/Collections$UnmodifiableRandomAccessList"), (6, .class_ 224), (0, u "java/util/Collections$UnmodifiableMap"), (6, .class_ 232), (0, u "java/util/Collections$UnmodifiableSequencedMap"), (4, .class_ 238), (0, u "java/util/Collections$UnmodifiableSortedMap"), (6, .class_ 246), (0, u "java/util/Collections$UnmodifiableNavigableMap"), (3, .class_ 251), (0, u "java/util/Collections$SynchronizedCollection"), (4, .class_ 257), (0, u "java/util/Collections$SynchronizedSet"), (4, .class_ 263), (0, u "java/util/Collections$SynchronizedSortedSet"), (1, .class_ 266), (0, u "java/util/Collections$SynchronizedNavigableSet"), (1, .class_ 269), (0, u "java/util/Collections$SynchronizedRandomAccessList"), (1, .class_ 272), (0, u "java/util/Collections$SynchronizedList"), (5, .class_ 279), (0, u "java/util/Collections$SynchronizedMap"), (1, .class_ 282), (0, u "java/util/Collections$SynchronizedSortedMap"), (1, .class_ 285), (0, u "java/util/Collections$SynchronizedNavigableMap"), (1, .class_ 288), (0, u "java/util/Collections$CheckedCollection"), (11, .class_ 301), (0, u "java/util/Collections$CheckedQueue"), (3, .class_ 306), (0, u "java/util/Collections$CheckedSet"), (3, .class_ 311), (0, u "java/util/Collections$CheckedSortedSet"), (3, .class_ 316), (0, u "java/util/Collections$CheckedNavigableSet"), (3, .class_ 321), (0, u "java/util/Collections$CheckedRandomAccessList"), (3, .class_ 326), (0, u "java/util/Collections$CheckedList"), (1, .class_ 329), (0, u "java/util/Collections$CheckedMap"), (3, .class_ 334), (0, u "java/util/Collections$CheckedSortedMap"), (3, .class_ 339), (0, u "java/util/Collections$CheckedNavigableMap"), (4, .class_ 346), (1, u "java/util/Collections$EmptyIterator"), (3, .class_ 352), (1, u "java/util/Collections$EmptyListIterator"), (2, .class_ 357), (1, u "java/util/Collections$EmptyEnumeration"), (4, u "EMPTY_SET"), (0, u "Ljava/util/Set;"), (6, u "EMPTY_LIST"), (0, u "Ljava/util/List;"), (2, u "EMPTY_MAP"), (0, u "Ljava/util/Map;"), (4, .class_ 381), (0, u "java/util/Collections$SingletonSet"), (2, .class_ 385), (0, u "java/util/Collections$1"), (1, .class_ 388), (0, u "java/util/Collections$2"), (1, .class_ 391), (0, u "java/util/Collections$SingletonList"), (1, .class_ 394), (0, u "java/util/Collections$SingletonMap"), (22, .class_ 418), (0, u "java/util/Collections$CopiesList"), (4, .class_ 425), (1, u "java/util/Collections$ReverseComparator"), (8, .class_ 435), (0, u "java/util/Collections$ReverseComparator2"), (6, .class_ 443), (0, u "java/util/Collections$3"), (25, .class_ 470), (0, u "java/util/Collections$SetFromMap"), (2, .class_ 474), (0, u "java/util/Collections$SequencedSetFromMap"), (3, .class_ 479), (0, u "java/util/Collections$AsLIFOQueue"), (11, .class_ 492), (0, u "java/util/Collections$EmptySet"), (1, .class_ 495), (0, u "java/util/Collections$EmptyList"), (1, .class_ 498), (0, u "java/util/Collections$EmptyMap"), (1, u "BINARYSEARCH_THRESHOLD"), (0, u "I"), (2, u "REVERSE_THRESHOLD"), (1, u "SHUFFLE_THRESHOLD"), (1, u "FILL_THRESHOLD"), (1, u "ROTATE_THRESHOLD"), (1, u "COPY_THRESHOLD"), (1, u "REPLACEALL_THRESHOLD"), (1, u "INDEXOFSUBLIST_THRESHOLD"), (333, .class_ 851), (0, u "java/util/Collections$CheckedMap$CheckedEntrySet"), (0, .class_ 853), (0, u "java/util/Collections$CheckedMap$CheckedEntrySet$CheckedEntry"), (0, .class_ 855), (0, u "java/util/Collections$CheckedMap$CheckedEntrySet$1"), (0, .class_ 857), (0, u "java/util/Collections$CheckedList$1"), (0, .class_ 859), (0, u "java/util/Collections$CheckedCollection$1"), (0, .class_ 861), (0, u "java/util/Collections$UnmodifiableNavigableMap$EmptyNavigableMap"), (0, .class_ 863), (0, u "java/util/Collections$UnmodifiableMap$UnmodifiableEntrySet"), (0, .class_ 865), (0, u "java/util/Collections$UnmodifiableMap$UnmodifiableEntrySet$UnmodifiableEntry"), (0, .class_ 867), (0, u "java/util/Collections$UnmodifiableMap$UnmodifiableEntrySet$UnmodifiableEntrySetSpliterator"), (0, .class_ 869), (0, u "java/util/Collections$UnmodifiableMap$UnmodifiableEntrySet$1"), (0, .class_ 871), (0, u "java/util/Collections$UnmodifiableList$1"), (0, .class_ 873), (0, u "java/util/Collections$UnmodifiableNavigableSet$EmptyNavigableSet"), (0, .class_ 875), (0, u "java/util/Collections$UnmodifiableCollection$1")] 57

def k38m0 : Method := { name := "<init>", desc := "()V", sig := { parameters := [], returnType := none }, accessFlags := 2, code := none }
/-- java/util/Collections -/
def k38 : Class := { plain "java/util/Collections" (some 0) with
  accessFlags := 33
  interfaces := #[]
  cf := some (fileOf pool38 19 #[.nestMembers #[478, 473, 469, 434, 423, 417, 393, 390, 380, 497, 494, 491, 355, 350, 344, 338, 333, 328, 850, 852, 854, 320, 325, 856, 315, 310, 305, 300, 287, 858, 284, 281, 278, 268, 271, 265, 262, 256, 250, 245, 860, 237, 231, 223, 862, 864, 866, 868, 215, 212, 870, 206, 872, 198, 190, 182, 174, 166, 874, 442, 387, 384]] #[{ accessFlags := 2, nameIndex := 5, descriptorIndex := 6, attributes := #[] }] 33 2 #[] #[{ accessFlags := 26, nameIndex := 500, descriptorIndex := 501, attributes := #[] }, { accessFlags := 26, nameIndex := 504, descriptorIndex := 501, attributes := #[] }, { accessFlags := 26, nameIndex := 506, descriptorIndex := 501, attributes := #[] }, { accessFlags := 26, nameIndex := 508, descriptorIndex := 501, attributes := #[] }, { accessFlags := 26, nameIndex := 510, descriptorIndex := 501, attributes := #[] }, { accessFlags := 26, nameIndex := 512, descriptorIndex := 501, attributes := #[] }, { accessFlags := 26, nameIndex := 514, descriptorIndex := 501, attributes := #[] }, { accessFlags := 26, nameIndex := 516, descriptorIndex := 501, attributes := #[] }, { accessFlags := 10, nameIndex := 84, descriptorIndex := 85, attributes := #[] }, { accessFlags := 25, nameIndex := 362, descriptorIndex := 363, attributes := #[] }, { accessFlags := 25, nameIndex := 370, descriptorIndex := 371, attributes := #[] }, { accessFlags := 25, nameIndex := 374, descriptorIndex := 375, attributes := #[] }])
  fields := #[{ name := "BINARYSEARCH_THRESHOLD", type := .int, accessFlags := 26, slot := 0, constantValue := 0 }, { name := "REVERSE_THRESHOLD", type := .int, accessFlags := 26, slot := 1, constantValue := 0 }, { name := "SHUFFLE_THRESHOLD", type := .int, accessFlags := 26, slot := 2, constantValue := 0 }, { name := "FILL_THRESHOLD", type := .int, accessFlags := 26, slot := 3, constantValue := 0 }, { name := "ROTATE_THRESHOLD", type := .int, accessFlags := 26, slot := 4, constantValue := 0 }, { name := "COPY_THRESHOLD", type := .int, accessFlags := 26, slot := 5, constantValue := 0 }, { name := "REPLACEALL_THRESHOLD", type := .int, accessFlags := 26, slot := 6, constantValue := 0 }, { name := "INDEXOFSUBLIST_THRESHOLD", type := .int, accessFlags := 26, slot := 7, constantValue := 0 }, { name := "r", type := (.object "java/util/Random"), accessFlags := 10, slot := 8, constantValue := 0 }, { name := "EMPTY_SET", type := (.object "java/util/Set"), accessFlags := 25, slot := 9, constantValue := 0 }, { name := "EMPTY_LIST", type := (.object "java/util/List"), accessFlags := 25, slot := 10, constantValue := 0 }, { name := "EMPTY_MAP", type := (.object "java/util/Map"), accessFlags := 25, slot := 11, constantValue := 0 }]
  methods := #[k38m0]
  instanceTypes := #[]
  staticTypes := #[.int, .int, .int, .int, .int, .int, .int, .int, (.object "java/util/Random"), (.object "java/util/Set"), (.object "java/util/List"), (.object "java/util/Map")]
  resolved := Array.replicate 933 none
  statics := some 5 }

def pool39 : Array CpInfo := pool [(2, .class_ 4), (1, u "java/util/AbstractList"), (0, u "<init>"), (0, u "()V"), (1, .class_ 10), (1, u "java/util/Collections"), (54, .class_ 66), (0, u "java/util/Collections$EmptyList"), (0, .class_ 68), (0, u "java/util/RandomAccess"), (0, .class_ 70), (0, u "java/io/Serializable"), (0, u "serialVersionUID"), (0, u "J")] 77

def k39m0 : Method := { name := "<init>", desc := "()V", sig := { parameters := [], returnType := none }, accessFlags := 2, code := none }
/-- java/util/Collections$EmptyList -/
def k39 : Class := { plain "java/util/Collections$EmptyList" (some 13) with
  accessFlags := 32
  interfaces := #[14, 2]
  cf := some (fileOf pool39 65 #[.nestHost 8] #[{ accessFlags := 2, nameIndex := 5, descriptorIndex := 6, attributes := #[] }] 32 2 #[67, 69] #[{ accessFlags := 26, nameIndex := 71, descriptorIndex := 72, attributes := #[] }])
  fields := #[{ name := "serialVersionUID", type := .long, accessFlags := 26, slot := 0, constantValue := 0 }]
  methods := #[k39m0]
  instanceTypes := #[.int]
  staticTypes := #[.long]
  resolved := Array.replicate 150 none
  statics := none }

def pool40 : Array CpInfo := pool [(2, .class_ 4), (1, u "java/lang/StackTraceElement"), (0, u "<init>"), (2, .class_ 10), (1, u "java/lang/Object"), (0, u "()V"), (2, u "format"), (0, u "B"), (2, u "classLoaderName"), (0, u "Ljava/lang/String;"), (2, u "moduleName"), (2, u "moduleVersion"), (12, u "declaringClass"), (4, u "methodName"), (2, u "fileName"), (2, u "lineNumber"), (0, u "I"), (65, u "declaringClassObject"), (0, u "Ljava/lang/Class;"), (33, .class_ 153), (1, u "java/lang/StackTraceElement$HashedModules"), (17, .class_ 172), (0, u "java/io/Serializable"), (0, u "NATIVE_METHOD"), (1, u "UNKNOWN_SOURCE"), (2, u "BUILTIN_CLASS_LOADER"), (1, u "JDK_NON_UPGRADEABLE_MODULE"), (1, u "serialVersionUID"), (0, u "J")] 51

def k40m0 : Method := { name := "<init>", desc := "()V", sig := { parameters := [], returnType := none }, accessFlags := 2, code := none }
/-- java/lang/StackTraceElement -/
def k40 : Class := { plain "java/lang/StackTraceElement" (some 0) with
  accessFlags := 49
  interfaces := #[2]
  cf := some (fileOf pool40 2 #[.nestMembers #[151]] #[{ accessFlags := 2, nameIndex := 5, descriptorIndex := 11, attributes := #[] }] 49 8 #[171] #[{ accessFlags := 26, nameIndex := 173, descriptorIndex := 19, attributes := #[] }, { accessFlags := 26, nameIndex := 175, descriptorIndex := 19, attributes := #[] }, { accessFlags := 130, nameIndex := 116, descriptorIndex := 117, attributes := #[] }, { accessFlags := 2, nameIndex := 18, descriptorIndex := 19, attributes := #[] }, { accessFlags := 2, nameIndex := 22, descriptorIndex := 19, attributes := #[] }, { accessFlags := 2, nameIndex := 25, descriptorIndex := 19, attributes := #[] }, { accessFlags := 2, nameIndex := 38, descriptorIndex := 19, attributes := #[] }, { accessFlags := 2, nameIndex := 43, descriptorIndex := 19, attributes := #[] }, { accessFlags := 2, nameIndex := 46, descriptorIndex := 19, attributes := #[] }, { accessFlags := 2, nameIndex := 49, descriptorIndex := 50, attributes := #[] }, { accessFlags := 2, nameIndex := 14, descriptorIndex := 15, attributes := #[] }, { accessFlags := 26, nameIndex := 178, descriptorIndex := 15, attributes := #[] }, { accessFlags := 26, nameIndex := 180, descriptorIndex := 15, attributes := #[] }, { accessFlags := 26, nameIndex := 182, descriptorIndex := 183, attributes := #[] }])
  fields := #[{ name := "NATIVE_METHOD", type := (.object "java/lang/String"), accessFlags := 26, slot := 0, constantValue := 0 }, { name := "UNKNOWN_SOURCE", type := (.object "java/lang/String"), accessFlags := 26, slot := 1, constantValue := 0 }, { name := "declaringClassObject", type := (.object "java/lang/Class"), accessFlags := 130, slot := 0, constantValue := 0 }, { name := "classLoaderName", type := (.object "java/lang/String"), accessFlags := 2, slot := 1, constantValue := 0 }, { name := "moduleName", type := (.object "java/lang/String"), accessFlags := 2, slot := 2, constantValue := 0 }, { name := "moduleVersion", type := (.object "java/lang/String"), accessFlags := 2, slot := 3, constantValue := 0 }, { name := "declaringClass", type := (.object "java/lang/String"), accessFlags := 2, slot := 4, constantValue := 0 }, { name := "methodName", type := (.object "java/lang/String"), accessFlags := 2, slot := 5, constantValue := 0 }, { name := "fileName", type := (.object "java/lang/String"), accessFlags := 2, slot := 6, constantValue := 0 }, { name := "lineNumber", type := .int, accessFlags := 2, slot := 7, constantValue := 0 }, { name := "format", type := .byte, accessFlags := 2, slot := 8, constantValue := 0 }, { name := "BUILTIN_CLASS_LOADER", type := .byte, accessFlags := 26, slot := 2, constantValue := 0 }, { name := "JDK_NON_UPGRADEABLE_MODULE", type := .byte, accessFlags := 26, slot := 3, constantValue := 0 }, { name := "serialVersionUID", type := .long, accessFlags := 26, slot := 4, constantValue := 0 }]
  methods := #[k40m0]
  instanceTypes := #[(.object "java/lang/Class"), (.object "java/lang/String"), (.object "java/lang/String"), (.object "java/lang/String"), (.object "java/lang/String"), (.object "java/lang/String"), (.object "java/lang/String"), .int, .byte]
  staticTypes := #[(.object "java/lang/String"), (.object "java/lang/String"), .byte, .byte, .long]
  resolved := Array.replicate 235 none
  statics := none }

def pool41 : Array CpInfo := pool [(1, u "java/lang/Class"), (0, .class_ 1), (0, u "java/lang/Object"), (0, .class_ 3)] 0

/-- java/lang/Class -/
def k41 : Class := { plain "java/lang/Class" (some 0) with
  accessFlags := 49
  interfaces := #[]
  cf := some (fileOf pool41 2 #[] #[] 49 4 #[] #[])
  fields := #[]
  methods := #[]
  instanceTypes := #[]
  staticTypes := #[]
  resolved := Array.replicate 5 none
  statics := none }

/-- the primitive byte -/
def k42 : Class := { plain "byte" none with kind := .primitive 'B', accessFlags := 0x411 }
/-- [B -/
def k43 : Class := { plain "[B" (some 0) with kind := .array 42 .byte, interfaces := #[15, 2], accessFlags := 1041 }

/-- the primitive char -/
def k44 : Class := { plain "char" none with kind := .primitive 'C', accessFlags := 0x411 }
/-- [C -/
def k45 : Class := { plain "[C" (some 0) with kind := .array 44 .char, interfaces := #[15, 2], accessFlags := 1041 }

/-- the primitive int -/
def k46 : Class := { plain "int" none with kind := .primitive 'I', accessFlags := 0x411 }
/-- [I -/
def k47 : Class := { plain "[I" (some 0) with kind := .array 46 .int, interfaces := #[15, 2], accessFlags := 1041 }

/-- [Ljava/lang/Object; -/
def k48 : Class := { plain "[Ljava/lang/Object;" (some 0) with kind := .array 0 (.object "java/lang/Object"), interfaces := #[15, 2], accessFlags := 1041, mirror := some 6 }

/-- [Ljava/lang/StackTraceElement; -/
def k49 : Class := { plain "[Ljava/lang/StackTraceElement;" (some 0) with kind := .array 40 (.object "java/lang/StackTraceElement"), interfaces := #[15, 2], accessFlags := 1041 }

/-- [Ljava/lang/Throwable; -/
def k50 : Class := { plain "[Ljava/lang/Throwable;" (some 0) with kind := .array 20 (.object "java/lang/Throwable"), interfaces := #[15, 2], accessFlags := 1041 }

def heap : Heap := #[{ cls := 7, slots := #[.long 0, .int 1, .null, .int 0, .null, .int 0, .int 0], vm := .statics 7 },
  { cls := 16, slots := #[.long 0, .int 0, .ref 7, .ref 8], vm := .statics 16 },
  { cls := 20, slots := #[.long 0, .ref 9, .ref 10, .null, .null, .null, .null, .ref 11, .int 1], vm := .statics 20 },
  { cls := 24, slots := #[.null, .null, .null], vm := .statics 24 },
  { cls := 30, slots := #[.long 0, .int 0, .null, .ref 12, .ref 13, .null, .null, .null, .int 0, .int 1], vm := .statics 30 },
  { cls := 38, slots := #[.int 0, .int 0, .int 0, .int 0, .int 0, .int 0, .int 0, .int 0, .null, .null, .ref 10, .null], vm := .statics 38 },
  { cls := 41, slots := #[], vm := .mirror 48 },
  { cls := 48, slots := #[], vm := .none },
  { cls := 48, slots := #[], vm := .none },
  { cls := 49, slots := #[], vm := .none },
  { cls := 39, slots := #[.int 0], vm := .none },
  { cls := 50, slots := #[], vm := .none },
  { cls := 0, slots := #[], vm := .none },
  { cls := 34, slots := #[.null, .int 0], vm := .none }]
def classes : Array Class := #[k0, k1, k2, k3, k4, k5, k6, k7, k8, k9, k10, k11, k12, k13, k14, k15, k16, k17, k18, k19, k20, k21, k22, k23, k24, k25, k26, k27, k28, k29, k30, k31, k32, k33, k34, k35, k36, k37, k38, k39, k40, k41, k42, k43, k44, k45, k46, k47, k48, k49, k50]
def interned : List (Array UInt16 × Addr) := []
def slotsUsed : Nat := 48
def theMethod : MethodId := ⟨1, 2⟩
def args0 : Array Value := #[.int 65601, .int 131073, .int 3, .int 65602, .int 66, .int 2]
def aboutOver (below : List Frame) : State where
  vm := { classes := classes, interned := interned.toArray }
  heap := heap
  slotsUsed := slotsUsed
  threads := #[{ frames := .invoking theMethod args0 :: below }]
def below0 : List Frame := [.native { method := ⟨0, 0⟩, args := #[] }]
def about1 : State := aboutOver below0
def p0 : Program := .bare "" "" ""
def e0 : Env := launch0.env 0 0 0
theorem w_frames : about1.frames = Frame.invoking theMethod args0 :: below0 := rfl
set_option maxRecDepth 65536 in
theorem w_args : argsFit about1.vm theMethod args0 = true := by decide +kernel
set_option maxRecDepth 65536 in
theorem w_heap : heapFits about1 = true := by decide +kernel
set_option maxRecDepth 65536 in
theorem w_runnable : about1.curStatus? = some .runnable := by decide +kernel
set_option maxRecDepth 65536 in
theorem w_alone : about1.alone = true := by decide +kernel
set_option maxRecDepth 65536 in
theorem w_named : about1.methodNamed? x = some theMethod := by decide +kernel
set_option maxRecDepth 65536 in
theorem w_hears : about1.hears theMethod below0 = true := by decide +kernel
set_option maxRecDepth 65536 in
theorem w_ripe : about1.ripe theMethod args0 below0 = true := by decide +kernel
theorem w_running : about1.status = .running := rfl
set_option maxRecDepth 65536 in
theorem w_room : about1.hasRoom e0.platform room_1 = true :=
  launch0.hasRoom_least _ room_1 (by decide +kernel) (by decide +kernel) (by decide +kernel) (by decide +kernel) (by decide +kernel) (by decide +kernel)
theorem allAtoms_all (ts : List Jvm.Cond) (a : Array Jvm.Value) (st : Jvm.State) : (allAtoms ts).before a st = ts.all (fun c => c.before a st) := by
  induction ts with
  | nil => rfl
  | cons c t ih =>
    show (Jvm.Cond.and c (allAtoms t)).before a st = _
    rw [Jvm.Cond.before_and, ih, List.all_cons]
def words1 : List Jvm.Cond := Jvm.Cond.code x code maxLocals ret :: tables_1
/-- a 'code' word, met by the world's own term for the bytes: nothing is compared byte by byte -/
theorem code_word {y : MethodName} {bytes : ByteArray} {mx : Nat} {rt : Option FieldType} {a : Array Value} {s : State} {m : MethodId} {meth : Method} {c : Code} (h1 : s.methodNamed? y = some m) (h2 : s.vm.method? m = some meth) (h3 : meth.code = some c) (h4 : c.code = bytes)
    (h5 : (c.maxLocals == mx && c.exceptionTable.isEmpty && decide (c.maxStack ≤ mostOperands) && decide (meth.sig.returnType = rt) && !meth.locks && decide (parseMethodDescriptor y.desc = some meth.sig)) = true) : (Jvm.Cond.code y bytes mx rt).before a s = true := by
  simp only [Bool.and_eq_true, beq_iff_eq, Bool.not_eq_true', decide_eq_true_eq] at h5
  obtain ⟨⟨⟨⟨⟨g1, g2⟩, g3⟩, g4⟩, g5⟩, g6⟩ := h5
  simp [Cond.before, Cond.holds, Cond.value, h1, h2, h3, h4, g1, g2, g3, g4, g5, g6]
def isCode : Jvm.Cond → Bool
  | .code _ _ _ _ => true
  | _ => false
theorem all_split {L : List Jvm.Cond} {P : Jvm.Cond → Bool} (h1 : L.all (fun c => isCode c || P c) = true) (h2 : ∀ c ∈ L.filter isCode, P c = true) : L.all P = true := by
  refine List.all_eq_true.mpr fun c hc => ?_
  have h := List.all_eq_true.mp h1 c hc
  rcases Bool.eq_false_or_eq_true (isCode c) with hi | hi
  · exact h2 c (List.mem_filter.mpr ⟨hc, hi⟩)
  · simpa [hi] using h
set_option maxRecDepth 65536 in
theorem w_c0 : (Jvm.Cond.code x code maxLocals ret).before args0 about1 = true := code_word (m := ⟨1, 2⟩) (meth := k1m2) (c := k1c2) (by decide +kernel) rfl rfl rfl (by decide +kernel)
set_option maxRecDepth 65536 in
theorem w_c1 : (Jvm.Cond.code ({ cls := "com/example/grantline/grantline/PolicyExceptionProblemPinLaw", name := "str", desc := "(I)Ljava/lang/String;" } : Jvm.MethodName) method_2_code (4 : Nat) (Option.some (Jvm.ClassFile.FieldType.object "java/lang/String"))).before args0 about1 = true := code_word (m := ⟨1, 1⟩) (meth := k1m1) (c := k1c1) (by decide +kernel) rfl rfl rfl (by decide +kernel)
set_option maxRecDepth 65536 in
theorem w_c2 : (Jvm.Cond.code ({ cls := "java/util/ArrayList", name := "<init>", desc := "()V" } : Jvm.MethodName) jdk_38_method_2_code (1 : Nat) (Option.none : Option Jvm.ClassFile.FieldType)).before args0 about1 = true := code_word (m := ⟨16, 0⟩) (meth := k16m0) (c := k16c0) (by decide +kernel) rfl rfl rfl (by decide +kernel)
set_option maxRecDepth 65536 in
theorem w_c3 : (Jvm.Cond.code ({ cls := "java/util/AbstractList", name := "<init>", desc := "()V" } : Jvm.MethodName) jdk_39_method_1_code (1 : Nat) (Option.none : Option Jvm.ClassFile.FieldType)).before args0 about1 = true := code_word (m := ⟨13, 0⟩) (meth := k13m0) (c := k13c0) (by decide +kernel) rfl rfl rfl (by decide +kernel)
set_option maxRecDepth 65536 in
theorem w_c4 : (Jvm.Cond.code ({ cls := "java/util/AbstractCollection", name := "<init>", desc := "()V" } : Jvm.MethodName) jdk_22_method_1_code (1 : Nat) (Option.none : Option Jvm.ClassFile.FieldType)).before args0 about1 = true := code_word (m := ⟨10, 0⟩) (meth := k10m0) (c := k10c0) (by decide +kernel) rfl rfl rfl (by decide +kernel)
set_option maxRecDepth 65536 in
theorem w_c5 : (Jvm.Cond.code ({ cls := "java/lang/Object", name := "<init>", desc := "()V" } : Jvm.MethodName) object_method_1_code (1 : Nat) (Option.none : Option Jvm.ClassFile.FieldType)).before args0 about1 = true := code_word (m := ⟨0, 0⟩) (meth := k0m0) (c := k0c0) (by decide +kernel) rfl rfl rfl (by decide +kernel)
set_option maxRecDepth 65536 in
theorem w_c6 : (Jvm.Cond.code ({ cls := "com/example/grantline/grantline/PolicyException$Problem", name := "<init>", desc := "(Ljava/lang/String;Ljava/lang/String;)V" } : Jvm.MethodName) prog_17_method_1_code (3 : Nat) (Option.none : Option Jvm.ClassFile.FieldType)).before args0 about1 = true := code_word (m := ⟨18, 0⟩) (meth := k18m0) (c := k18c0) (by decide +kernel) rfl rfl rfl (by decide +kernel)
set_option maxRecDepth 65536 in
theorem w_c7 : (Jvm.Cond.code ({ cls := "java/lang/Record", name := "<init>", desc := "()V" } : Jvm.MethodName) jdk_30_method_1_code (1 : Nat) (Option.none : Option Jvm.ClassFile.FieldType)).before args0 about1 = true := code_word (m := ⟨17, 0⟩) (meth := k17m0) (c := k17c0) (by decide +kernel) rfl rfl rfl (by decide +kernel)
set_option maxRecDepth 65536 in
theorem w_c8 : (Jvm.Cond.code ({ cls := "java/util/ArrayList", name := "add", desc := "(Ljava/lang/Object;)Z" } : Jvm.MethodName) jdk_38_method_25_code (2 : Nat) (Option.some Jvm.ClassFile.FieldType.boolean)).before args0 about1 = true := code_word (m := ⟨16, 8⟩) (meth := k16m8) (c := k16c8) (by decide +kernel) rfl rfl rfl (by decide +kernel)
set_option maxRecDepth 65536 in
theorem w_c9 : (Jvm.Cond.code ({ cls := "java/util/ArrayList", name := "add", desc := "(Ljava/lang/Object;[Ljava/lang/Object;I)V" } : Jvm.MethodName) jdk_38_method_24_code (4 : Nat) (Option.none : Option Jvm.ClassFile.FieldType)).before args0 about1 = true := code_word (m := ⟨16, 7⟩) (meth := k16m7) (c := k16c7) (by decide +kernel) rfl rfl rfl (by decide +kernel)
set_option maxRecDepth 65536 in
theorem w_c10 : (Jvm.Cond.code ({ cls := "java/util/ArrayList", name := "grow", desc := "()[Ljava/lang/Object;" } : Jvm.MethodName) jdk_38_method_7_code (1 : Nat) (Option.some (Jvm.ClassFile.FieldType.array (Jvm.ClassFile.FieldType.object "java/lang/Object")))).before args0 about1 = true := code_word (m := ⟨16, 2⟩) (meth := k16m2) (c := k16c2) (by decide +kernel) rfl rfl rfl (by decide +kernel)
set_option maxRecDepth 65536 in
theorem w_c11 : (Jvm.Cond.code ({ cls := "java/util/ArrayList", name := "grow", desc := "(I)[Ljava/lang/Object;" } : Jvm.MethodName) jdk_38_method_6_code (4 : Nat) (Option.some (Jvm.ClassFile.FieldType.array (Jvm.ClassFile.FieldType.object "java/lang/Object")))).before args0 about1 = true := code_word (m := ⟨16, 1⟩) (meth := k16m1) (c := k16c1) (by decide +kernel) rfl rfl rfl (by decide +kernel)
set_option maxRecDepth 65536 in
theorem w_c12 : (Jvm.Cond.code ({ cls := "java/lang/Math", name := "max", desc := "(II)I" } : Jvm.MethodName) jdk_29_method_65_code (2 : Nat) (Option.some Jvm.ClassFile.FieldType.int)).before args0 about1 = true := code_word (m := ⟨19, 1⟩) (meth := k19m1) (c := k19c1) (by decide +kernel) rfl rfl rfl (by decide +kernel)
set_option maxRecDepth 65536 in
theorem w_c13 : (Jvm.Cond.code ({ cls := "com/example/grantline/grantline/PolicyException", name := "<init>", desc := "(Ljava/util/List;)V" } : Jvm.MethodName) prog_16_method_2_code (2 : Nat) (Option.none : Option Jvm.ClassFile.FieldType)).before args0 about1 = true := code_word (m := ⟨22, 0⟩) (meth := k22m0) (c := k22c0) (by decide +kernel) rfl rfl rfl (by decide +kernel)
set_option maxRecDepth 65536 in
theorem w_c14 : (Jvm.Cond.code ({ cls := "com/example/grantline/grantline/PolicyException", name := "first", desc := "(Ljava/util/List;)Lcom/example/grantline/grantline/PolicyException$Problem;" } : Jvm.MethodName) prog_16_method_3_code (1 : Nat) (Option.some (Jvm.ClassFile.FieldType.object "com/example/grantline/grantline/PolicyException$Problem"))).before args0 about1 = true := code_word (m := ⟨22, 1⟩) (meth := k22m1) (c := k22c1) (by decide +kernel) rfl rfl rfl (by decide +kernel)
set_option maxRecDepth 65536 in
theorem w_c15 : (Jvm.Cond.code ({ cls := "java/util/ArrayList", name := "isEmpty", desc := "()Z" } : Jvm.MethodName) jdk_38_method_9_code (1 : Nat) (Option.some Jvm.ClassFile.FieldType.boolean)).before args0 about1 = true := code_word (m := ⟨16, 3⟩) (meth := k16m3) (c := k16c3) (by decide +kernel) rfl rfl rfl (by decide +kernel)
set_option maxRecDepth 65536 in
theorem w_c16 : (Jvm.Cond.code ({ cls := "java/util/ArrayList", name := "get", desc := "(I)Ljava/lang/Object;" } : Jvm.MethodName) jdk_38_method_20_code (2 : Nat) (Option.some (Jvm.ClassFile.FieldType.object "java/lang/Object"))).before args0 about1 = true := code_word (m := ⟨16, 6⟩) (meth := k16m6) (c := k16c6) (by decide +kernel) rfl rfl rfl (by decide +kernel)
set_option maxRecDepth 65536 in
theorem w_c17 : (Jvm.Cond.code ({ cls := "java/util/Objects", name := "checkIndex", desc := "(II)I" } : Jvm.MethodName) jdk_31_method_17_code (2 : Nat) (Option.some Jvm.ClassFile.FieldType.int)).before args0 about1 = true := code_word (m := ⟨23, 2⟩) (meth := k23m2) (c := k23c2) (by decide +kernel) rfl rfl rfl (by decide +kernel)
set_option maxRecDepth 65536 in
theorem w_c18 : (Jvm.Cond.code ({ cls := "jdk/internal/util/Preconditions", name := "checkIndex", desc := "(IILjava/util/function/BiFunction;)I" } : Jvm.MethodName) jdk_41_method_11_code (3 : Nat) (Option.some Jvm.ClassFile.FieldType.int)).before args0 about1 = true := code_word (m := ⟨24, 1⟩) (meth := k24m1) (c := k24c1) (by decide +kernel) rfl rfl rfl (by decide +kernel)
set_option maxRecDepth 65536 in
theorem w_c19 : (Jvm.Cond.code ({ cls := "java/util/ArrayList", name := "elementData", desc := "(I)Ljava/lang/Object;" } : Jvm.MethodName) jdk_38_method_18_code (2 : Nat) (Option.some (Jvm.ClassFile.FieldType.object "java/lang/Object"))).before args0 about1 = true := code_word (m := ⟨16, 5⟩) (meth := k16m5) (c := k16c5) (by decide +kernel) rfl rfl rfl (by decide +kernel)
set_option maxRecDepth 65536 in
theorem w_c20 : (Jvm.Cond.code ({ cls := "com/example/grantline/grantline/PolicyException$Problem", name := "toString", desc := "()Ljava/lang/String;" } : Jvm.MethodName) prog_17_method_2_code (1 : Nat) (Option.some (Jvm.ClassFile.FieldType.object "java/lang/String"))).before args0 about1 = true := code_word (m := ⟨18, 1⟩) (meth := k18m1) (c := k18c1) (by decide +kernel) rfl rfl rfl (by decide +kernel)
set_option maxRecDepth 65536 in
theorem w_c21 : (Jvm.Cond.code ({ cls := "java/lang/StringBuilder", name := "<init>", desc := "()V" } : Jvm.MethodName) jdk_67_method_1_code (1 : Nat) (Option.none : Option Jvm.ClassFile.FieldType)).before args0 about1 = true := code_word (m := ⟨27, 0⟩) (meth := k27m0) (c := k27c0) (by decide +kernel) rfl rfl rfl (by decide +kernel)
set_option maxRecDepth 65536 in
theorem w_c22 : (Jvm.Cond.code ({ cls := "java/lang/AbstractStringBuilder", name := "<init>", desc := "(I)V" } : Jvm.MethodName) jdk_68_method_2_code (2 : Nat) (Option.none : Option Jvm.ClassFile.FieldType)).before args0 about1 = true := code_word (m := ⟨26, 1⟩) (meth := k26m1) (c := k26c1) (by decide +kernel) rfl rfl rfl (by decide +kernel)
set_option maxRecDepth 65536 in
theorem w_c23 : (Jvm.Cond.code ({ cls := "java/lang/StringBuilder", name := "append", desc := "(Ljava/lang/String;)Ljava/lang/StringBuilder;" } : Jvm.MethodName) jdk_67_method_7_code (2 : Nat) (Option.some (Jvm.ClassFile.FieldType.object "java/lang/StringBuilder"))).before args0 about1 = true := code_word (m := ⟨27, 1⟩) (meth := k27m1) (c := k27c1) (by decide +kernel) rfl rfl rfl (by decide +kernel)
set_option maxRecDepth 65536 in
theorem w_c24 : (Jvm.Cond.code ({ cls := "java/lang/AbstractStringBuilder", name := "append", desc := "(Ljava/lang/String;)Ljava/lang/AbstractStringBuilder;" } : Jvm.MethodName) jdk_68_method_22_code (3 : Nat) (Option.some (Jvm.ClassFile.FieldType.object "java/lang/AbstractStringBuilder"))).before args0 about1 = true := code_word (m := ⟨26, 4⟩) (meth := k26m4) (c := k26c4) (by decide +kernel) rfl rfl rfl (by decide +kernel)
set_option maxRecDepth 65536 in
theorem w_c25 : (Jvm.Cond.code ({ cls := "java/lang/String", name := "length", desc := "()I" } : Jvm.MethodName) jdk_42_method_54_code (1 : Nat) (Option.some Jvm.ClassFile.FieldType.int)).before args0 about1 = true := code_word (m := ⟨7, 3⟩) (meth := k7m3) (c := k7c3) (by decide +kernel) rfl rfl rfl (by decide +kernel)
set_option maxRecDepth 65536 in
theorem w_c26 : (Jvm.Cond.code ({ cls := "java/lang/String", name := "coder", desc := "()B" } : Jvm.MethodName) jdk_42_method_152_code (1 : Nat) (Option.some Jvm.ClassFile.FieldType.byte)).before args0 about1 = true := code_word (m := ⟨7, 10⟩) (meth := k7m10) (c := k7c10) (by decide +kernel) rfl rfl rfl (by decide +kernel)
set_option maxRecDepth 65536 in
theorem w_c27 : (Jvm.Cond.code ({ cls := "java/lang/AbstractStringBuilder", name := "ensureCapacityInternal", desc := "(I)V" } : Jvm.MethodName) jdk_68_method_9_code (3 : Nat) (Option.none : Option Jvm.ClassFile.FieldType)).before args0 about1 = true := code_word (m := ⟨26, 3⟩) (meth := k26m3) (c := k26c3) (by decide +kernel) rfl rfl rfl (by decide +kernel)
set_option maxRecDepth 65536 in
theorem w_c28 : (Jvm.Cond.code ({ cls := "java/lang/AbstractStringBuilder", name := "putStringAt", desc := "(ILjava/lang/String;)V" } : Jvm.MethodName) jdk_68_method_73_code (3 : Nat) (Option.none : Option Jvm.ClassFile.FieldType)).before args0 about1 = true := code_word (m := ⟨26, 8⟩) (meth := k26m8) (c := k26c8) (by decide +kernel) rfl rfl rfl (by decide +kernel)
set_option maxRecDepth 65536 in
theorem w_c29 : (Jvm.Cond.code ({ cls := "java/lang/AbstractStringBuilder", name := "inflateIfNeededFor", desc := "(Ljava/lang/String;)V" } : Jvm.MethodName) jdk_68_method_71_code (2 : Nat) (Option.none : Option Jvm.ClassFile.FieldType)).before args0 about1 = true := code_word (m := ⟨26, 7⟩) (meth := k26m7) (c := k26c7) (by decide +kernel) rfl rfl rfl (by decide +kernel)
set_option maxRecDepth 65536 in
theorem w_c30 : (Jvm.Cond.code ({ cls := "java/lang/String", name := "getBytes", desc := "([BIB)V" } : Jvm.MethodName) jdk_42_method_147_code (4 : Nat) (Option.none : Option Jvm.ClassFile.FieldType)).before args0 about1 = true := code_word (m := ⟨7, 6⟩) (meth := k7m6) (c := k7c6) (by decide +kernel) rfl rfl rfl (by decide +kernel)
set_option maxRecDepth 65536 in
theorem w_c31 : (Jvm.Cond.code ({ cls := "java/lang/StringBuilder", name := "toString", desc := "()Ljava/lang/String;" } : Jvm.MethodName) jdk_67_method_42_code (1 : Nat) (Option.some (Jvm.ClassFile.FieldType.object "java/lang/String"))).before args0 about1 = true := code_word (m := ⟨27, 2⟩) (meth := k27m2) (c := k27c2) (by decide +kernel) rfl rfl rfl (by decide +kernel)
set_option maxRecDepth 65536 in
theorem w_c32 : (Jvm.Cond.code ({ cls := "java/lang/String", name := "<init>", desc := "(Ljava/lang/StringBuilder;)V" } : Jvm.MethodName) jdk_42_method_53_code (2 : Nat) (Option.none : Option Jvm.ClassFile.FieldType)).before args0 about1 = true := code_word (m := ⟨7, 2⟩) (meth := k7m2) (c := k7c2) (by decide +kernel) rfl rfl rfl (by decide +kernel)
set_option maxRecDepth 65536 in
theorem w_c33 : (Jvm.Cond.code ({ cls := "java/lang/String", name := "<init>", desc := "(Ljava/lang/AbstractStringBuilder;Ljava/lang/Void;)V" } : Jvm.MethodName) jdk_42_method_150_code (5 : Nat) (Option.none : Option Jvm.ClassFile.FieldType)).before args0 about1 = true := code_word (m := ⟨7, 8⟩) (meth := k7m8) (c := k7c8) (by decide +kernel) rfl rfl rfl (by decide +kernel)
set_option maxRecDepth 65536 in
theorem w_c34 : (Jvm.Cond.code ({ cls := "java/lang/AbstractStringBuilder", name := "getValue", desc := "()[B" } : Jvm.MethodName) jdk_68_method_64_code (1 : Nat) (Option.some (Jvm.ClassFile.FieldType.array Jvm.ClassFile.FieldType.byte))).before args0 about1 = true := code_word (m := ⟨26, 5⟩) (meth := k26m5) (c := k26c5) (by decide +kernel) rfl rfl rfl (by decide +kernel)
set_option maxRecDepth 65536 in
theorem w_c35 : (Jvm.Cond.code ({ cls := "java/lang/StringBuilder", name := "length", desc := "()I" } : Jvm.MethodName) jdk_67_method_93_code (1 : Nat) (Option.some Jvm.ClassFile.FieldType.int)).before args0 about1 = true := code_word (m := ⟨27, 3⟩) (meth := k27m3) (c := k27c3) (by decide +kernel) rfl rfl rfl (by decide +kernel)
set_option maxRecDepth 65536 in
theorem w_c36 : (Jvm.Cond.code ({ cls := "java/lang/AbstractStringBuilder", name := "length", desc := "()I" } : Jvm.MethodName) jdk_68_method_6_code (1 : Nat) (Option.some Jvm.ClassFile.FieldType.int)).before args0 about1 = true := code_word (m := ⟨26, 2⟩) (meth := k26m2) (c := k26c2) (by decide +kernel) rfl rfl rfl (by decide +kernel)
set_option maxRecDepth 65536 in
theorem w_c37 : (Jvm.Cond.code ({ cls := "java/lang/AbstractStringBuilder", name := "isLatin1", desc := "()Z" } : Jvm.MethodName) jdk_68_method_68_code (1 : Nat) (Option.some Jvm.ClassFile.FieldType.boolean)).before args0 about1 = true := code_word (m := ⟨26, 6⟩) (meth := k26m6) (c := k26c6) (by decide +kernel) rfl rfl rfl (by decide +kernel)
set_option maxRecDepth 65536 in
theorem w_c38 : (Jvm.Cond.code ({ cls := "java/util/Arrays", name := "copyOfRange", desc := "([BII)[B" } : Jvm.MethodName) jdk_65_method_132_code (3 : Nat) (Option.some (Jvm.ClassFile.FieldType.array Jvm.ClassFile.FieldType.byte))).before args0 about1 = true := code_word (m := ⟨29, 4⟩) (meth := k29m4) (c := k29c4) (by decide +kernel) rfl rfl rfl (by decide +kernel)
set_option maxRecDepth 65536 in
theorem w_c39 : (Jvm.Cond.code ({ cls := "java/util/Arrays", name := "copyOfRangeByte", desc := "([BII)[B" } : Jvm.MethodName) jdk_65_method_133_code (5 : Nat) (Option.some (Jvm.ClassFile.FieldType.array Jvm.ClassFile.FieldType.byte))).before args0 about1 = true := code_word (m := ⟨29, 5⟩) (meth := k29m5) (c := k29c5) (by decide +kernel) rfl rfl rfl (by decide +kernel)
set_option maxRecDepth 65536 in
theorem w_c40 : (Jvm.Cond.code ({ cls := "java/util/Arrays", name := "checkLength", desc := "(II)V" } : Jvm.MethodName) jdk_65_method_131_code (2 : Nat) (Option.none : Option Jvm.ClassFile.FieldType)).before args0 about1 = true := code_word (m := ⟨29, 3⟩) (meth := k29m3) (c := k29c3) (by decide +kernel) rfl rfl rfl (by decide +kernel)
set_option maxRecDepth 65536 in
theorem w_c41 : (Jvm.Cond.code ({ cls := "java/lang/Math", name := "min", desc := "(II)I" } : Jvm.MethodName) jdk_29_method_69_code (2 : Nat) (Option.some Jvm.ClassFile.FieldType.int)).before args0 about1 = true := code_word (m := ⟨19, 2⟩) (meth := k19m2) (c := k19c2) (by decide +kernel) rfl rfl rfl (by decide +kernel)
set_option maxRecDepth 65536 in
theorem w_c42 : (Jvm.Cond.code ({ cls := "java/lang/Exception", name := "<init>", desc := "(Ljava/lang/String;)V" } : Jvm.MethodName) jdk_59_method_2_code (2 : Nat) (Option.none : Option Jvm.ClassFile.FieldType)).before args0 about1 = true := code_word (m := ⟨21, 1⟩) (meth := k21m1) (c := k21c1) (by decide +kernel) rfl rfl rfl (by decide +kernel)
set_option maxRecDepth 65536 in
theorem w_c43 : (Jvm.Cond.code ({ cls := "java/lang/Throwable", name := "<init>", desc := "(Ljava/lang/String;)V" } : Jvm.MethodName) jdk_78_method_2_code (2 : Nat) (Option.none : Option Jvm.ClassFile.FieldType)).before args0 about1 = true := code_word (m := ⟨20, 1⟩) (meth := k20m1) (c := k20c1) (by decide +kernel) rfl rfl rfl (by decide +kernel)
set_option maxRecDepth 65536 in
theorem w_c44 : (Jvm.Cond.code ({ cls := "java/lang/Throwable", name := "<init>", desc := "()V" } : Jvm.MethodName) jdk_78_method_1_code (1 : Nat) (Option.none : Option Jvm.ClassFile.FieldType)).before args0 about1 = true := code_word (m := ⟨20, 0⟩) (meth := k20m0) (c := k20c0) (by decide +kernel) rfl rfl rfl (by decide +kernel)
set_option maxRecDepth 65536 in
theorem w_c45 : (Jvm.Cond.code ({ cls := "java/util/List", name := "copyOf", desc := "(Ljava/util/Collection;)Ljava/util/List;" } : Jvm.MethodName) jdk_40_method_48_code (1 : Nat) (Option.some (Jvm.ClassFile.FieldType.object "java/util/List"))).before args0 about1 = true := code_word (m := ⟨12, 3⟩) (meth := k12m3) (c := k12c3) (by decide +kernel) rfl rfl rfl (by decide +kernel)
set_option maxRecDepth 65536 in
theorem w_c46 : (Jvm.Cond.code ({ cls := "java/util/ImmutableCollections", name := "listCopy", desc := "(Ljava/util/Collection;)Ljava/util/List;" } : Jvm.MethodName) jdk_56_method_3_code (2 : Nat) (Option.some (Jvm.ClassFile.FieldType.object "java/util/List"))).before args0 about1 = true := code_word (m := ⟨30, 1⟩) (meth := k30m1) (c := k30c1) (by decide +kernel) rfl rfl rfl (by decide +kernel)
set_option maxRecDepth 65536 in
theorem w_c47 : (Jvm.Cond.code ({ cls := "java/util/ArrayList", name := "toArray", desc := "()[Ljava/lang/Object;" } : Jvm.MethodName) jdk_38_method_16_code (1 : Nat) (Option.some (Jvm.ClassFile.FieldType.array (Jvm.ClassFile.FieldType.object "java/lang/Object")))).before args0 about1 = true := code_word (m := ⟨16, 4⟩) (meth := k16m4) (c := k16c4) (by decide +kernel) rfl rfl rfl (by decide +kernel)
set_option maxRecDepth 65536 in
theorem w_c48 : (Jvm.Cond.code ({ cls := "java/util/Arrays", name := "copyOf", desc := "([Ljava/lang/Object;I)[Ljava/lang/Object;" } : Jvm.MethodName) jdk_65_method_119_code (2 : Nat) (Option.some (Jvm.ClassFile.FieldType.array (Jvm.ClassFile.FieldType.object "java/lang/Object")))).before args0 about1 = true := code_word (m := ⟨29, 1⟩) (meth := k29m1) (c := k29c1) (by decide +kernel) rfl rfl rfl (by decide +kernel)
set_option maxRecDepth 65536 in
theorem w_c49 : (Jvm.Cond.code ({ cls := "java/util/Arrays", name := "copyOf", desc := "([Ljava/lang/Object;ILjava/lang/Class;)[Ljava/lang/Object;" } : Jvm.MethodName) jdk_65_method_120_code (4 : Nat) (Option.some (Jvm.ClassFile.FieldType.array (Jvm.ClassFile.FieldType.object "java/lang/Object")))).before args0 about1 = true := code_word (m := ⟨29, 2⟩) (meth := k29m2) (c := k29c2) (by decide +kernel) rfl rfl rfl (by decide +kernel)
set_option maxRecDepth 65536 in
theorem w_c50 : (Jvm.Cond.code ({ cls := "java/util/List", name := "of", desc := "([Ljava/lang/Object;)Ljava/util/List;" } : Jvm.MethodName) jdk_40_method_47_code (2 : Nat) (Option.some (Jvm.ClassFile.FieldType.object "java/util/List"))).before args0 about1 = true := code_word (m := ⟨12, 2⟩) (meth := k12m2) (c := k12c2) (by decide +kernel) rfl rfl rfl (by decide +kernel)
set_option maxRecDepth 65536 in
theorem w_c51 : (Jvm.Cond.code ({ cls := "java/util/ImmutableCollections$List12", name := "<init>", desc := "(Ljava/lang/Object;)V" } : Jvm.MethodName) jdk_44_method_1_code (2 : Nat) (Option.none : Option Jvm.ClassFile.FieldType)).before args0 about1 = true := code_word (m := ⟨33, 0⟩) (meth := k33m0) (c := k33c0) (by decide +kernel) rfl rfl rfl (by decide +kernel)
set_option maxRecDepth 65536 in
theorem w_c52 : (Jvm.Cond.code ({ cls := "java/util/ImmutableCollections$AbstractImmutableList", name := "<init>", desc := "()V" } : Jvm.MethodName) jdk_46_method_1_code (1 : Nat) (Option.none : Option Jvm.ClassFile.FieldType)).before args0 about1 = true := code_word (m := ⟨32, 0⟩) (meth := k32m0) (c := k32c0) (by decide +kernel) rfl rfl rfl (by decide +kernel)
set_option maxRecDepth 65536 in
theorem w_c53 : (Jvm.Cond.code ({ cls := "java/util/ImmutableCollections$AbstractImmutableCollection", name := "<init>", desc := "()V" } : Jvm.MethodName) jdk_47_method_1_code (1 : Nat) (Option.none : Option Jvm.ClassFile.FieldType)).before args0 about1 = true := code_word (m := ⟨31, 0⟩) (meth := k31m0) (c := k31c0) (by decide +kernel) rfl rfl rfl (by decide +kernel)
set_option maxRecDepth 65536 in
theorem w_c54 : (Jvm.Cond.code ({ cls := "java/util/Objects", name := "requireNonNull", desc := "(Ljava/lang/Object;)Ljava/lang/Object;" } : Jvm.MethodName) jdk_31_method_10_code (1 : Nat) (Option.some (Jvm.ClassFile.FieldType.object "java/lang/Object"))).before args0 about1 = true := code_word (m := ⟨23, 1⟩) (meth := k23m1) (c := k23c1) (by decide +kernel) rfl rfl rfl (by decide +kernel)
set_option maxRecDepth 65536 in
theorem w_c55 : (Jvm.Cond.code ({ cls := "com/example/grantline/grantline/PolicyException", name := "problem", desc := "()Ljava/lang/String;" } : Jvm.MethodName) prog_16_method_5_code (1 : Nat) (Option.some (Jvm.ClassFile.FieldType.object "java/lang/String"))).before args0 about1 = true := code_word (m := ⟨22, 2⟩) (meth := k22m2) (c := k22c2) (by decide +kernel) rfl rfl rfl (by decide +kernel)
set_option maxRecDepth 65536 in
theorem w_c56 : (Jvm.Cond.code ({ cls := "java/util/ImmutableCollections$List12", name := "get", desc := "(I)Ljava/lang/Object;" } : Jvm.MethodName) jdk_44_method_5_code (2 : Nat) (Option.some (Jvm.ClassFile.FieldType.object "java/lang/Object"))).before args0 about1 = true := code_word (m := ⟨33, 2⟩) (meth := k33m2) (c := k33c2) (by decide +kernel) rfl rfl rfl (by decide +kernel)
set_option maxRecDepth 65536 in
theorem w_c57 : (Jvm.Cond.code ({ cls := "com/example/grantline/grantline/PolicyException$Problem", name := "description", desc := "()Ljava/lang/String;" } : Jvm.MethodName) prog_17_method_6_code (1 : Nat) (Option.some (Jvm.ClassFile.FieldType.object "java/lang/String"))).before args0 about1 = true := code_word (m := ⟨18, 2⟩) (meth := k18m2) (c := k18c2) (by decide +kernel) rfl rfl rfl (by decide +kernel)
set_option maxRecDepth 65536 in
theorem w_c58 : (Jvm.Cond.code ({ cls := "java/lang/String", name := "equals", desc := "(Ljava/lang/Object;)Z" } : Jvm.MethodName) jdk_42_method_66_code (3 : Nat) (Option.some Jvm.ClassFile.FieldType.boolean)).before args0 about1 = true := code_word (m := ⟨7, 4⟩) (meth := k7m4) (c := k7c4) (by decide +kernel) rfl rfl rfl (by decide +kernel)
set_option maxRecDepth 65536 in
theorem w_c59 : (Jvm.Cond.code ({ cls := "java/util/ImmutableCollections", name := "listFromArray", desc := "([Ljava/lang/Object;)Ljava/util/List;" } : Jvm.MethodName) jdk_56_method_4_code (3 : Nat) (Option.some (Jvm.ClassFile.FieldType.object "java/util/List"))).before args0 about1 = true := code_word (m := ⟨30, 2⟩) (meth := k30m2) (c := k30c2) (by decide +kernel) rfl rfl rfl (by decide +kernel)
set_option maxRecDepth 65536 in
theorem w_c60 : (Jvm.Cond.code ({ cls := "java/util/ImmutableCollections$ListN", name := "<init>", desc := "([Ljava/lang/Object;Z)V" } : Jvm.MethodName) jdk_45_method_1_code (3 : Nat) (Option.none : Option Jvm.ClassFile.FieldType)).before args0 about1 = true := code_word (m := ⟨34, 0⟩) (meth := k34m0) (c := k34c0) (by decide +kernel) rfl rfl rfl (by decide +kernel)
set_option maxRecDepth 65536 in
theorem w_c61 : (Jvm.Cond.code ({ cls := "java/util/ImmutableCollections$ListN", name := "get", desc := "(I)Ljava/lang/Object;" } : Jvm.MethodName) jdk_45_method_4_code (2 : Nat) (Option.some (Jvm.ClassFile.FieldType.object "java/lang/Object"))).before args0 about1 = true := code_word (m := ⟨34, 1⟩) (meth := k34m1) (c := k34c1) (by decide +kernel) rfl rfl rfl (by decide +kernel)
set_option maxRecDepth 65536 in
theorem w_c62 : (Jvm.Cond.code ({ cls := "java/lang/String", name := "<init>", desc := "([C)V" } : Jvm.MethodName) jdk_42_method_3_code (2 : Nat) (Option.none : Option Jvm.ClassFile.FieldType)).before args0 about1 = true := code_word (m := ⟨7, 1⟩) (meth := k7m1) (c := k7c1) (by decide +kernel) rfl rfl rfl (by decide +kernel)
set_option maxRecDepth 65536 in
theorem w_c63 : (Jvm.Cond.code ({ cls := "java/lang/String", name := "<init>", desc := "([CIILjava/lang/Void;)V" } : Jvm.MethodName) jdk_42_method_149_code (6 : Nat) (Option.none : Option Jvm.ClassFile.FieldType)).before args0 about1 = true := code_word (m := ⟨7, 7⟩) (meth := k7m7) (c := k7c7) (by decide +kernel) rfl rfl rfl (by decide +kernel)
set_option maxRecDepth 65536 in
theorem w_c64 : (Jvm.Cond.code ({ cls := "java/lang/StringUTF16", name := "compress", desc := "([CII)[B" } : Jvm.MethodName) jdk_52_method_16_code (6 : Nat) (Option.some (Jvm.ClassFile.FieldType.array Jvm.ClassFile.FieldType.byte))).before args0 about1 = true := code_word (m := ⟨35, 2⟩) (meth := k35m2) (c := k35c2) (by decide +kernel) rfl rfl rfl (by decide +kernel)
set_option maxRecDepth 65536 in
theorem w_c65 : (Jvm.Cond.code ({ cls := "java/lang/StringUTF16", name := "compress", desc := "([CI[BII)I" } : Jvm.MethodName) jdk_52_method_21_code (7 : Nat) (Option.some Jvm.ClassFile.FieldType.int)).before args0 about1 = true := code_word (m := ⟨35, 3⟩) (meth := k35m3) (c := k35c3) (by decide +kernel) rfl rfl rfl (by decide +kernel)
set_option maxRecDepth 65536 in
theorem w_c66 : (Jvm.Cond.code ({ cls := "java/lang/StringUTF16", name := "coderFromArrayLen", desc := "([BI)B" } : Jvm.MethodName) jdk_52_method_15_code (2 : Nat) (Option.some Jvm.ClassFile.FieldType.byte)).before args0 about1 = true := code_word (m := ⟨35, 1⟩) (meth := k35m1) (c := k35c1) (by decide +kernel) rfl rfl rfl (by decide +kernel)
set_option maxRecDepth 65536 in
theorem w_c67 : (Jvm.Cond.code ({ cls := "java/lang/String", name := "valueOf", desc := "(C)Ljava/lang/String;" } : Jvm.MethodName) jdk_42_method_139_code (1 : Nat) (Option.some (Jvm.ClassFile.FieldType.object "java/lang/String"))).before args0 about1 = true := code_word (m := ⟨7, 5⟩) (meth := k7m5) (c := k7c5) (by decide +kernel) rfl rfl rfl (by decide +kernel)
set_option maxRecDepth 65536 in
theorem w_c68 : (Jvm.Cond.code ({ cls := "java/lang/StringLatin1", name := "canEncode", desc := "(C)Z" } : Jvm.MethodName) jdk_43_method_3_code (1 : Nat) (Option.some Jvm.ClassFile.FieldType.boolean)).before args0 about1 = true := code_word (m := ⟨36, 1⟩) (meth := k36m1) (c := k36c1) (by decide +kernel) rfl rfl rfl (by decide +kernel)
set_option maxRecDepth 65536 in
theorem w_c69 : (Jvm.Cond.code ({ cls := "java/lang/StringLatin1", name := "toBytes", desc := "(C)[B" } : Jvm.MethodName) jdk_43_method_46_code (1 : Nat) (Option.some (Jvm.ClassFile.FieldType.array Jvm.ClassFile.FieldType.byte))).before args0 about1 = true := code_word (m := ⟨36, 2⟩) (meth := k36m2) (c := k36c2) (by decide +kernel) rfl rfl rfl (by decide +kernel)
set_option maxRecDepth 65536 in
theorem w_c70 : (Jvm.Cond.code ({ cls := "java/lang/String", name := "<init>", desc := "([BB)V" } : Jvm.MethodName) jdk_42_method_151_code (3 : Nat) (Option.none : Option Jvm.ClassFile.FieldType)).before args0 about1 = true := code_word (m := ⟨7, 9⟩) (meth := k7m9) (c := k7c9) (by decide +kernel) rfl rfl rfl (by decide +kernel)
set_option maxRecDepth 65536 in
theorem w_c71 : (Jvm.Cond.code ({ cls := "java/util/ImmutableCollections$List12", name := "<init>", desc := "(Ljava/lang/Object;Ljava/lang/Object;)V" } : Jvm.MethodName) jdk_44_method_2_code (3 : Nat) (Option.none : Option Jvm.ClassFile.FieldType)).before args0 about1 = true := code_word (m := ⟨33, 1⟩) (meth := k33m1) (c := k33c1) (by decide +kernel) rfl rfl rfl (by decide +kernel)
def codes1 : List Jvm.Cond := [Jvm.Cond.code x code maxLocals ret, Jvm.Cond.code ({ cls := "com/example/grantline/grantline/PolicyExceptionProblemPinLaw", name := "str", desc := "(I)Ljava/lang/String;" } : Jvm.MethodName) method_2_code (4 : Nat) (Option.some (Jvm.ClassFile.FieldType.object "java/lang/String")), Jvm.Cond.code ({ cls := "java/util/ArrayList", name := "<init>", desc := "()V" } : Jvm.MethodName) jdk_38_method_2_code (1 : Nat) (Option.none : Option Jvm.ClassFile.FieldType), Jvm.Cond.code ({ cls := "java/util/AbstractList", name := "<init>", desc := "()V" } : Jvm.MethodName) jdk_39_method_1_code (1 : Nat) (Option.none : Option Jvm.ClassFile.FieldType), Jvm.Cond.code ({ cls := "java/util/AbstractCollection", name := "<init>", desc := "()V" } : Jvm.MethodName) jdk_22_method_1_code (1 : Nat) (Option.none : Option Jvm.ClassFile.FieldType), Jvm.Cond.code ({ cls := "java/lang/Object", name := "<init>", desc := "()V" } : Jvm.MethodName) object_method_1_code (1 : Nat) (Option.none : Option Jvm.ClassFile.FieldType), Jvm.Cond.code ({ cls := "com/example/grantline/grantline/PolicyException$Problem", name := "<init>", desc := "(Ljava/lang/String;Ljava/lang/String;)V" } : Jvm.MethodName) prog_17_method_1_code (3 : Nat) (Option.none : Option Jvm.ClassFile.FieldType), Jvm.Cond.code ({ cls := "java/lang/Record", name := "<init>", desc := "()V" } : Jvm.MethodName) jdk_30_method_1_code (1 : Nat) (Option.none : Option Jvm.ClassFile.FieldType), Jvm.Cond.code ({ cls := "java/util/ArrayList", name := "add", desc := "(Ljava/lang/Object;)Z" } : Jvm.MethodName) jdk_38_method_25_code (2 : Nat) (Option.some Jvm.ClassFile.FieldType.boolean), Jvm.Cond.code ({ cls := "java/util/ArrayList", name := "add", desc := "(Ljava/lang/Object;[Ljava/lang/Object;I)V" } : Jvm.MethodName) jdk_38_method_24_code (4 : Nat) (Option.none : Option Jvm.ClassFile.FieldType), Jvm.Cond.code ({ cls := "java/util/ArrayList", name := "grow", desc := "()[Ljava/lang/Object;" } : Jvm.MethodName) jdk_38_method_7_code (1 : Nat) (Option.some (Jvm.ClassFile.FieldType.array (Jvm.ClassFile.FieldType.object "java/lang/Object"))), Jvm.Cond.code ({ cls := "java/util/ArrayList", name := "grow", desc := "(I)[Ljava/lang/Object;" } : Jvm.MethodName) jdk_38_method_6_code (4 : Nat) (Option.some (Jvm.ClassFile.FieldType.array (Jvm.ClassFile.FieldType.object "java/lang/Object"))), Jvm.Cond.code ({ cls := "java/lang/Math", name := "max", desc := "(II)I" } : Jvm.MethodName) jdk_29_method_65_code (2 : Nat) (Option.some Jvm.ClassFile.FieldType.int), Jvm.Cond.code ({ cls := "com/example/grantline/grantline/PolicyException", name := "<init>", desc := "(Ljava/util/List;)V" } : Jvm.MethodName) prog_16_method_2_code (2 : Nat) (Option.none : Option Jvm.ClassFile.FieldType), Jvm.Cond.code ({ cls := "com/example/grantline/grantline/PolicyException", name := "first", desc := "(Ljava/util/List;)Lcom/example/grantline/grantline/PolicyException$Problem;" } : Jvm.MethodName) prog_16_method_3_code (1 : Nat) (Option.some (Jvm.ClassFile.FieldType.object "com/example/grantline/grantline/PolicyException$Problem")), Jvm.Cond.code ({ cls := "java/util/ArrayList", name := "isEmpty", desc := "()Z" } : Jvm.MethodName) jdk_38_method_9_code (1 : Nat) (Option.some Jvm.ClassFile.FieldType.boolean), Jvm.Cond.code ({ cls := "java/util/ArrayList", name := "get", desc := "(I)Ljava/lang/Object;" } : Jvm.MethodName) jdk_38_method_20_code (2 : Nat) (Option.some (Jvm.ClassFile.FieldType.object "java/lang/Object")), Jvm.Cond.code ({ cls := "java/util/Objects", name := "checkIndex", desc := "(II)I" } : Jvm.MethodName) jdk_31_method_17_code (2 : Nat) (Option.some Jvm.ClassFile.FieldType.int), Jvm.Cond.code ({ cls := "jdk/internal/util/Preconditions", name := "checkIndex", desc := "(IILjava/util/function/BiFunction;)I" } : Jvm.MethodName) jdk_41_method_11_code (3 : Nat) (Option.some Jvm.ClassFile.FieldType.int), Jvm.Cond.code ({ cls := "java/util/ArrayList", name := "elementData", desc := "(I)Ljava/lang/Object;" } : Jvm.MethodName) jdk_38_method_18_code (2 : Nat) (Option.some (Jvm.ClassFile.FieldType.object "java/lang/Object")), Jvm.Cond.code ({ cls := "com/example/grantline/grantline/PolicyException$Problem", name := "toString", desc := "()Ljava/lang/String;" } : Jvm.MethodName) prog_17_method_2_code (1 : Nat) (Option.some (Jvm.ClassFile.FieldType.object "java/lang/String")), Jvm.Cond.code ({ cls := "java/lang/StringBuilder", name := "<init>", desc := "()V" } : Jvm.MethodName) jdk_67_method_1_code (1 : Nat) (Option.none : Option Jvm.ClassFile.FieldType), Jvm.Cond.code ({ cls := "java/lang/AbstractStringBuilder", name := "<init>", desc := "(I)V" } : Jvm.MethodName) jdk_68_method_2_code (2 : Nat) (Option.none : Option Jvm.ClassFile.FieldType), Jvm.Cond.code ({ cls := "java/lang/StringBuilder", name := "append", desc := "(Ljava/lang/String;)Ljava/lang/StringBuilder;" } : Jvm.MethodName) jdk_67_method_7_code (2 : Nat) (Option.some (Jvm.ClassFile.FieldType.object "java/lang/StringBuilder")), Jvm.Cond.code ({ cls := "java/lang/AbstractStringBuilder", name := "append", desc := "(Ljava/lang/String;)Ljava/lang/AbstractStringBuilder;" } : Jvm.MethodName) jdk_68_method_22_code (3 : Nat) (Option.some (Jvm.ClassFile.FieldType.object "java/lang/AbstractStringBuilder")), Jvm.Cond.code ({ cls := "java/lang/String", name := "length", desc := "()I" } : Jvm.MethodName) jdk_42_method_54_code (1 : Nat) (Option.some Jvm.ClassFile.FieldType.int), Jvm.Cond.code ({ cls := "java/lang/String", name := "coder", desc := "()B" } : Jvm.MethodName) jdk_42_method_152_code (1 : Nat) (Option.some Jvm.ClassFile.FieldType.byte), Jvm.Cond.code ({ cls := "java/lang/AbstractStringBuilder", name := "ensureCapacityInternal", desc := "(I)V" } : Jvm.MethodName) jdk_68_method_9_code (3 : Nat) (Option.none : Option Jvm.ClassFile.FieldType), Jvm.Cond.code ({ cls := "java/lang/AbstractStringBuilder", name := "putStringAt", desc := "(ILjava/lang/String;)V" } : Jvm.MethodName) jdk_68_method_73_code (3 : Nat) (Option.none : Option Jvm.ClassFile.FieldType), Jvm.Cond.code ({ cls := "java/lang/AbstractStringBuilder", name := "inflateIfNeededFor", desc := "(Ljava/lang/String;)V" } : Jvm.MethodName) jdk_68_method_71_code (2 : Nat) (Option.none : Option Jvm.ClassFile.FieldType), Jvm.Cond.code ({ cls := "java/lang/String", name := "getBytes", desc := "([BIB)V" } : Jvm.MethodName) jdk_42_method_147_code (4 : Nat) (Option.none : Option Jvm.ClassFile.FieldType), Jvm.Cond.code ({ cls := "java/lang/StringBuilder", name := "toString", desc := "()Ljava/lang/String;" } : Jvm.MethodName) jdk_67_method_42_code (1 : Nat) (Option.some (Jvm.ClassFile.FieldType.object "java/lang/String")), Jvm.Cond.code ({ cls := "java/lang/String", name := "<init>", desc := "(Ljava/lang/StringBuilder;)V" } : Jvm.MethodName) jdk_42_method_53_code (2 : Nat) (Option.none : Option Jvm.ClassFile.FieldType), Jvm.Cond.code ({ cls := "java/lang/String", name := "<init>", desc := "(Ljava/lang/AbstractStringBuilder;Ljava/lang/Void;)V" } : Jvm.MethodName) jdk_42_method_150_code (5 : Nat) (Option.none : Option Jvm.ClassFile.FieldType), Jvm.Cond.code ({ cls := "java/lang/AbstractStringBuilder", name := "getValue", desc := "()[B" } : Jvm.MethodName) jdk_68_method_64_code (1 : Nat) (Option.some (Jvm.ClassFile.FieldType.array Jvm.ClassFile.FieldType.byte)), Jvm.Cond.code ({ cls := "java/lang/StringBuilder", name := "length", desc := "()I" } : Jvm.MethodName) jdk_67_method_93_code (1 : Nat) (Option.some Jvm.ClassFile.FieldType.int), Jvm.Cond.code ({ cls := "java/lang/AbstractStringBuilder", name := "length", desc := "()I" } : Jvm.MethodName) jdk_68_method_6_code (1 : Nat) (Option.some Jvm.ClassFile.FieldType.int), Jvm.Cond.code ({ cls := "java/lang/AbstractStringBuilder", name := "isLatin1", desc := "()Z" } : Jvm.MethodName) jdk_68_method_68_code (1 : Nat) (Option.some Jvm.ClassFile.FieldType.boolean), Jvm.Cond.code ({ cls := "java/util/Arrays", name := "copyOfRange", desc := "([BII)[B" } : Jvm.MethodName) jdk_65_method_132_code (3 : Nat) (Option.some (Jvm.ClassFile.FieldType.array Jvm.ClassFile.FieldType.byte)), Jvm.Cond.code ({ cls := "java/util/Arrays", name := "copyOfRangeByte", desc := "([BII)[B" } : Jvm.MethodName) jdk_65_method_133_code (5 : Nat) (Option.some (Jvm.ClassFile.FieldType.array Jvm.ClassFile.FieldType.byte)), Jvm.Cond.code ({ cls := "java/util/Arrays", name := "checkLength", desc := "(II)V" } : Jvm.MethodName) jdk_65_method_131_code (2 : Nat) (Option.none : Option Jvm.ClassFile.FieldType), Jvm.Cond.code ({ cls := "java/lang/Math", name := "min", desc := "(II)I" } : Jvm.MethodName) jdk_29_method_69_code (2 : Nat) (Option.some Jvm.ClassFile.FieldType.int), Jvm.Cond.code ({ cls := "java/lang/Exception", name := "<init>", desc := "(Ljava/lang/String;)V" } : Jvm.MethodName) jdk_59_method_2_code (2 : Nat) (Option.none : Option Jvm.ClassFile.FieldType), Jvm.Cond.code ({ cls := "java/lang/Throwable", name := "<init>", desc := "(Ljava/lang/String;)V" } : Jvm.MethodName) jdk_78_method_2_code (2 : Nat) (Option.none : Option Jvm.ClassFile.FieldType), Jvm.Cond.code ({ cls := "java/lang/Throwable", name := "<init>", desc := "()V" } : Jvm.MethodName) jdk_78_method_1_code (1 : Nat) (Option.none : Option Jvm.ClassFile.FieldType), Jvm.Cond.code ({ cls := "java/util/List", name := "copyOf", desc := "(Ljava/util/Collection;)Ljava/util/List;" } : Jvm.MethodName) jdk_40_method_48_code (1 : Nat) (Option.some (Jvm.ClassFile.FieldType.object "java/util/List")), Jvm.Cond.code ({ cls := "java/util/ImmutableCollections", name := "listCopy", desc := "(Ljava/util/Collection;)Ljava/util/List;" } : Jvm.MethodName) jdk_56_method_3_code (2 : Nat) (Option.some (Jvm.ClassFile.FieldType.object "java/util/List")), Jvm.Cond.code ({ cls := "java/util/ArrayList", name := "toArray", desc := "()[Ljava/lang/Object;" } : Jvm.MethodName) jdk_38_method_16_code (1 : Nat) (Option.some (Jvm.ClassFile.FieldType.array (Jvm.ClassFile.FieldType.object "java/lang/Object"))), Jvm.Cond.code ({ cls := "java/util/Arrays", name := "copyOf", desc := "([Ljava/lang/Object;I)[Ljava/lang/Object;" } : Jvm.MethodName) jdk_65_method_119_code (2 : Nat) (Option.some (Jvm.ClassFile.FieldType.array (Jvm.ClassFile.FieldType.object "java/lang/Object"))), Jvm.Cond.code ({ cls := "java/util/Arrays", name := "copyOf", desc := "([Ljava/lang/Object;ILjava/lang/Class;)[Ljava/lang/Object;" } : Jvm.MethodName) jdk_65_method_120_code (4 : Nat) (Option.some (Jvm.ClassFile.FieldType.array (Jvm.ClassFile.FieldType.object "java/lang/Object"))), Jvm.Cond.code ({ cls := "java/util/List", name := "of", desc := "([Ljava/lang/Object;)Ljava/util/List;" } : Jvm.MethodName) jdk_40_method_47_code (2 : Nat) (Option.some (Jvm.ClassFile.FieldType.object "java/util/List")), Jvm.Cond.code ({ cls := "java/util/ImmutableCollections$List12", name := "<init>", desc := "(Ljava/lang/Object;)V" } : Jvm.MethodName) jdk_44_method_1_code (2 : Nat) (Option.none : Option Jvm.ClassFile.FieldType), Jvm.Cond.code ({ cls := "java/util/ImmutableCollections$AbstractImmutableList", name := "<init>", desc := "()V" } : Jvm.MethodName) jdk_46_method_1_code (1 : Nat) (Option.none : Option Jvm.ClassFile.FieldType), Jvm.Cond.code ({ cls := "java/util/ImmutableCollections$AbstractImmutableCollection", name := "<init>", desc := "()V" } : Jvm.MethodName) jdk_47_method_1_code (1 : Nat) (Option.none : Option Jvm.ClassFile.FieldType), Jvm.Cond.code ({ cls := "java/util/Objects", name := "requireNonNull", desc := "(Ljava/lang/Object;)Ljava/lang/Object;" } : Jvm.MethodName) jdk_31_method_10_code (1 : Nat) (Option.some (Jvm.ClassFile.FieldType.object "java/lang/Object")), Jvm.Cond.code ({ cls := "com/example/grantline/grantline/PolicyException", name := "problem", desc := "()Ljava/lang/String;" } : Jvm.MethodName) prog_16_method_5_code (1 : Nat) (Option.some (Jvm.ClassFile.FieldType.object "java/lang/String")), Jvm.Cond.code ({ cls := "java/util/ImmutableCollections$List12", name := "get", desc := "(I)Ljava/lang/Object;" } : Jvm.MethodName) jdk_44_method_5_code (2 : Nat) (Option.some (Jvm.ClassFile.FieldType.object "java/lang/Object")), Jvm.Cond.code ({ cls := "com/example/grantline/grantline/PolicyException$Problem", name := "description", desc := "()Ljava/lang/String;" } : Jvm.MethodName) prog_17_method_6_code (1 : Nat) (Option.some (Jvm.ClassFile.FieldType.object "java/lang/String")), Jvm.Cond.code ({ cls := "java/lang/String", name := "equals", desc := "(Ljava/lang/Object;)Z" } : Jvm.MethodName) jdk_42_method_66_code (3 : Nat) (Option.some Jvm.ClassFile.FieldType.boolean), Jvm.Cond.code ({ cls := "java/util/ImmutableCollections", name := "listFromArray", desc := "([Ljava/lang/Object;)Ljava/util/List;" } : Jvm.MethodName) jdk_56_method_4_code (3 : Nat) (Option.some (Jvm.ClassFile.FieldType.object "java/util/List")), Jvm.Cond.code ({ cls := "java/util/ImmutableCollections$ListN", name := "<init>", desc := "([Ljava/lang/Object;Z)V" } : Jvm.MethodName) jdk_45_method_1_code (3 : Nat) (Option.none : Option Jvm.ClassFile.FieldType), Jvm.Cond.code ({ cls := "java/util/ImmutableCollections$ListN", name := "get", desc := "(I)Ljava/lang/Object;" } : Jvm.MethodName) jdk_45_method_4_code (2 : Nat) (Option.some (Jvm.ClassFile.FieldType.object "java/lang/Object")), Jvm.Cond.code ({ cls := "java/lang/String", name := "<init>", desc := "([C)V" } : Jvm.MethodName) jdk_42_method_3_code (2 : Nat) (Option.none : Option Jvm.ClassFile.FieldType), Jvm.Cond.code ({ cls := "java/lang/String", name := "<init>", desc := "([CIILjava/lang/Void;)V" } : Jvm.MethodName) jdk_42_method_149_code (6 : Nat) (Option.none : Option Jvm.ClassFile.FieldType), Jvm.Cond.code ({ cls := "java/lang/StringUTF16", name := "compress", desc := "([CII)[B" } : Jvm.MethodName) jdk_52_method_16_code (6 : Nat) (Option.some (Jvm.ClassFile.FieldType.array Jvm.ClassFile.FieldType.byte)), Jvm.Cond.code ({ cls := "java/lang/StringUTF16", name := "compress", desc := "([CI[BII)I" } : Jvm.MethodName) jdk_52_method_21_code (7 : Nat) (Option.some Jvm.ClassFile.FieldType.int), Jvm.Cond.code ({ cls := "java/lang/StringUTF16", name := "coderFromArrayLen", desc := "([BI)B" } : Jvm.MethodName) jdk_52_method_15_code (2 : Nat) (Option.some Jvm.ClassFile.FieldType.byte), Jvm.Cond.code ({ cls := "java/lang/String", name := "valueOf", desc := "(C)Ljava/lang/String;" } : Jvm.MethodName) jdk_42_method_139_code (1 : Nat) (Option.some (Jvm.ClassFile.FieldType.object "java/lang/String")), Jvm.Cond.code ({ cls := "java/lang/StringLatin1", name := "canEncode", desc := "(C)Z" } : Jvm.MethodName) jdk_43_method_3_code (1 : Nat) (Option.some Jvm.ClassFile.FieldType.boolean), Jvm.Cond.code ({ cls := "java/lang/StringLatin1", name := "toBytes", desc := "(C)[B" } : Jvm.MethodName) jdk_43_method_46_code (1 : Nat) (Option.some (Jvm.ClassFile.FieldType.array Jvm.ClassFile.FieldType.byte)), Jvm.Cond.code ({ cls := "java/lang/String", name := "<init>", desc := "([BB)V" } : Jvm.MethodName) jdk_42_method_151_code (3 : Nat) (Option.none : Option Jvm.ClassFile.FieldType), Jvm.Cond.code ({ cls := "java/util/ImmutableCollections$List12", name := "<init>", desc := "(Ljava/lang/Object;Ljava/lang/Object;)V" } : Jvm.MethodName) jdk_44_method_2_code (3 : Nat) (Option.none : Option Jvm.ClassFile.FieldType)]
set_option maxRecDepth 65536 in
theorem codes_eq : words1.filter isCode = codes1 := rfl
theorem w_codes : ∀ c ∈ words1.filter isCode, c.before args0 about1 = true := by
  rw [codes_eq]
  intro c hc
  simp only [codes1, List.mem_cons, List.not_mem_nil, or_false] at hc
  rcases hc with rfl | rfl | rfl | rfl | rfl | rfl | rfl | rfl | rfl | rfl | rfl | rfl | rfl | rfl | rfl | rfl | rfl | rfl | rfl | rfl | rfl | rfl | rfl | rfl | rfl | rfl | rfl | rfl | rfl | rfl | rfl | rfl | rfl | rfl | rfl | rfl | rfl | rfl | rfl | rfl | rfl | rfl | rfl | rfl | rfl | rfl | rfl | rfl | rfl | rfl | rfl | rfl | rfl | rfl | rfl | rfl | rfl | rfl | rfl | rfl | rfl | rfl | rfl | rfl | rfl | rfl | rfl | rfl | rfl | rfl | rfl | rfl
  · exact w_c0
  · exact w_c1
  · exact w_c2
  · exact w_c3
  · exact w_c4
  · exact w_c5
  · exact w_c6
  · exact w_c7
  · exact w_c8
  · exact w_c9
  · exact w_c10
  · exact w_c11
  · exact w_c12
  · exact w_c13
  · exact w_c14
  · exact w_c15
  · exact w_c16
  · exact w_c17
  · exact w_c18
  · exact w_c19
  · exact w_c20
  · exact w_c21
  · exact w_c22
  · exact w_c23
  · exact w_c24
  · exact w_c25
  · exact w_c26
  · exact w_c27
  · exact w_c28
  · exact w_c29
  · exact w_c30
  · exact w_c31
  · exact w_c32
  · exact w_c33
  · exact w_c34
  · exact w_c35
  · exact w_c36
  · exact w_c37
  · exact w_c38
  · exact w_c39
  · exact w_c40
  · exact w_c41
  · exact w_c42
  · exact w_c43
  · exact w_c44
  · exact w_c45
  · exact w_c46
  · exact w_c47
  · exact w_c48
  · exact w_c49
  · exact w_c50
  · exact w_c51
  · exact w_c52
  · exact w_c53
  · exact w_c54
  · exact w_c55
  · exact w_c56
  · exact w_c57
  · exact w_c58
  · exact w_c59
  · exact w_c60
  · exact w_c61
  · exact w_c62
  · exact w_c63
  · exact w_c64
  · exact w_c65
  · exact w_c66
  · exact w_c67
  · exact w_c68
  · exact w_c69
  · exact w_c70
  · exact w_c71
set_option maxRecDepth 65536 in
theorem w_t1 : (words1.take 24).all (fun c => isCode c || c.before args0 about1) = true := by decide +kernel
set_option maxRecDepth 65536 in
theorem w_t2 : ((words1.drop 24).take 24).all (fun c => isCode c || c.before args0 about1) = true := by decide +kernel
set_option maxRecDepth 65536 in
theorem w_t3 : (((words1.drop 24).drop 24).take 24).all (fun c => isCode c || c.before args0 about1) = true := by decide +kernel
set_option maxRecDepth 65536 in
theorem w_t4 : ((((words1.drop 24).drop 24).drop 24).take 24).all (fun c => isCode c || c.before args0 about1) = true := by decide +kernel
set_option maxRecDepth 65536 in
theorem w_t5 : (((((words1.drop 24).drop 24).drop 24).drop 24).take 24).all (fun c => isCode c || c.before args0 about1) = true := by decide +kernel
set_option maxRecDepth 65536 in
theorem w_t6 : ((((((words1.drop 24).drop 24).drop 24).drop 24).drop 24).take 24).all (fun c => isCode c || c.before args0 about1) = true := by decide +kernel
set_option maxRecDepth 65536 in
theorem w_t7 : (((((((words1.drop 24).drop 24).drop 24).drop 24).drop 24).drop 24).take 24).all (fun c => isCode c || c.before args0 about1) = true := by decide +kernel
set_option maxRecDepth 65536 in
theorem w_t8 : ((((((((words1.drop 24).drop 24).drop 24).drop 24).drop 24).drop 24).drop 24).take 24).all (fun c => isCode c || c.before args0 about1) = true := by decide +kernel
set_option maxRecDepth 65536 in
theorem w_t9 : (((((((((words1.drop 24).drop 24).drop 24).drop 24).drop 24).drop 24).drop 24).drop 24).take 24).all (fun c => isCode c || c.before args0 about1) = true := by decide +kernel
set_option maxRecDepth 65536 in
theorem w_t10 : ((((((((((words1.drop 24).drop 24).drop 24).drop 24).drop 24).drop 24).drop 24).drop 24).drop 24).take 24).all (fun c => isCode c || c.before args0 about1) = true := by decide +kernel
set_option maxRecDepth 65536 in
theorem w_t11 : (((((((((((words1.drop 24).drop 24).drop 24).drop 24).drop 24).drop 24).drop 24).drop 24).drop 24).drop 24).take 24).all (fun c => isCode c || c.before args0 about1) = true := by decide +kernel
set_option maxRecDepth 65536 in
theorem w_t12 : ((((((((((((words1.drop 24).drop 24).drop 24).drop 24).drop 24).drop 24).drop 24).drop 24).drop 24).drop 24).drop 24).take 24).all (fun c => isCode c || c.before args0 about1) = true := by decide +kernel
set_option maxRecDepth 65536 in
theorem w_t13 : (((((((((((((words1.drop 24).drop 24).drop 24).drop 24).drop 24).drop 24).drop 24).drop 24).drop 24).drop 24).drop 24).drop 24).take 24).all (fun c => isCode c || c.before args0 about1) = true := by decide +kernel
set_option maxRecDepth 65536 in
theorem w_t14 : ((((((((((((((words1.drop 24).drop 24).drop 24).drop 24).drop 24).drop 24).drop 24).drop 24).drop 24).drop 24).drop 24).drop 24).drop 24).take 24).all (fun c => isCode c || c.before args0 about1) = true := by decide +kernel
set_option maxRecDepth 65536 in
theorem w_t15 : (((((((((((((((words1.drop 24).drop 24).drop 24).drop 24).drop 24).drop 24).drop 24).drop 24).drop 24).drop 24).drop 24).drop 24).drop 24).drop 24).take 24).all (fun c => isCode c || c.before args0 about1) = true := by decide +kernel
set_option maxRecDepth 65536 in
theorem w_t16 : ((((((((((((((((words1.drop 24).drop 24).drop 24).drop 24).drop 24).drop 24).drop 24).drop 24).drop 24).drop 24).drop 24).drop 24).drop 24).drop 24).drop 24).take 24).all (fun c => isCode c || c.before args0 about1) = true := by decide +kernel
set_option maxRecDepth 65536 in
theorem w_t17 : (((((((((((((((((words1.drop 24).drop 24).drop 24).drop 24).drop 24).drop 24).drop 24).drop 24).drop 24).drop 24).drop 24).drop 24).drop 24).drop 24).drop 24).drop 24).take 24).all (fun c => isCode c || c.before args0 about1) = true := by decide +kernel
set_option maxRecDepth 65536 in
theorem w_t18 : ((((((((((((((((((words1.drop 24).drop 24).drop 24).drop 24).drop 24).drop 24).drop 24).drop 24).drop 24).drop 24).drop 24).drop 24).drop 24).drop 24).drop 24).drop 24).drop 24).take 24).all (fun c => isCode c || c.before args0 about1) = true := by decide +kernel
set_option maxRecDepth 65536 in
theorem w_t19 : ((((((((((((((((((words1.drop 24).drop 24).drop 24).drop 24).drop 24).drop 24).drop 24).drop 24).drop 24).drop 24).drop 24).drop 24).drop 24).drop 24).drop 24).drop 24).drop 24).drop 24).all (fun c => isCode c || c.before args0 about1) = true := by decide +kernel
theorem w_tables : (allAtoms (Jvm.Cond.code x code maxLocals ret :: tables_1)).before args0 about1 = true := by
  rw [allAtoms_all]
  show words1.all (fun c => c.before args0 about1) = true
  refine all_split ?_ w_codes
  rw [← List.take_append_drop 24 words1, List.all_append, w_t1, ← List.take_append_drop 24 (words1.drop 24), List.all_append, w_t2, ← List.take_append_drop 24 ((words1.drop 24).drop 24), List.all_append, w_t3, ← List.take_append_drop 24 (((words1.drop 24).drop 24).drop 24), List.all_append, w_t4, ← List.take_append_drop 24 ((((words1.drop 24).drop 24).drop 24).drop 24), List.all_append, w_t5, ← List.take_append_drop 24 (((((words1.drop 24).drop 24).drop 24).drop 24).drop 24), List.all_append, w_t6, ← List.take_append_drop 24 ((((((words1.drop 24).drop 24).drop 24).drop 24).drop 24).drop 24), List.all_append, w_t7, ← List.take_append_drop 24 (((((((words1.drop 24).drop 24).drop 24).drop 24).drop 24).drop 24).drop 24), List.all_append, w_t8, ← List.take_append_drop 24 ((((((((words1.drop 24).drop 24).drop 24).drop 24).drop 24).drop 24).drop 24).drop 24), List.all_append, w_t9, ← List.take_append_drop 24 (((((((((words1.drop 24).drop 24).drop 24).drop 24).drop 24).drop 24).drop 24).drop 24).drop 24), List.all_append, w_t10, ← List.take_append_drop 24 ((((((((((words1.drop 24).drop 24).drop 24).drop 24).drop 24).drop 24).drop 24).drop 24).drop 24).drop 24), List.all_append, w_t11, ← List.take_append_drop 24 (((((((((((words1.drop 24).drop 24).drop 24).drop 24).drop 24).drop 24).drop 24).drop 24).drop 24).drop 24).drop 24), List.all_append, w_t12, ← List.take_append_drop 24 ((((((((((((words1.drop 24).drop 24).drop 24).drop 24).drop 24).drop 24).drop 24).drop 24).drop 24).drop 24).drop 24).drop 24), List.all_append, w_t13, ← List.take_append_drop 24 (((((((((((((words1.drop 24).drop 24).drop 24).drop 24).drop 24).drop 24).drop 24).drop 24).drop 24).drop 24).drop 24).drop 24).drop 24), List.all_append, w_t14, ← List.take_append_drop 24 ((((((((((((((words1.drop 24).drop 24).drop 24).drop 24).drop 24).drop 24).drop 24).drop 24).drop 24).drop 24).drop 24).drop 24).drop 24).drop 24), List.all_append, w_t15, ← List.take_append_drop 24 (((((((((((((((words1.drop 24).drop 24).drop 24).drop 24).drop 24).drop 24).drop 24).drop 24).drop 24).drop 24).drop 24).drop 24).drop 24).drop 24).drop 24), List.all_append, w_t16, ← List.take_append_drop 24 ((((((((((((((((words1.drop 24).drop 24).drop 24).drop 24).drop 24).drop 24).drop 24).drop 24).drop 24).drop 24).drop 24).drop 24).drop 24).drop 24).drop 24).drop 24), List.all_append, w_t17, ← List.take_append_drop 24 (((((((((((((((((words1.drop 24).drop 24).drop 24).drop 24).drop 24).drop 24).drop 24).drop 24).drop 24).drop 24).drop 24).drop 24).drop 24).drop 24).drop 24).drop 24).drop 24), List.all_append, w_t18, w_t19]
  rfl
set_option maxRecDepth 65536 in
theorem w_rest : rest_1_c.before args0 about1 = true := by decide +kernel
set_option maxRecDepth 65536 in
theorem w_case : (Jvm.Cond.and given_1 narrow_1).before args0 about1 = true := by decide +kernel
set_option maxRecDepth 65536 in
theorem w_consts : constsHeld consts_1 about1 := Jvm.Lit.constsHeldB_iff.mp (by decide +kernel)
theorem w_applies : (headSpec (Jvm.Cond.code x code maxLocals ret :: tables_1) room_1).applies x e0.platform about1 = true :=
  (Spec.applies_iff w_frames).mpr ⟨w_running, w_runnable, w_alone, w_named, w_hears, w_ripe, w_room, w_tables⟩
theorem atStart : AtStart classFile x code maxLocals ret World_1 tables_1 room_1 Calls_1 rest_1 Pre_1 launch0 p0 e0 about1 theMethod args0 below0 :=
  ⟨lists_1, trivial, launch0.admits_env _ _ _, launch0.least_env, fairChoices_fair.cas, fairChoices_fair.clock, w_frames, w_args, w_heap, w_applies, ⟨(by decide +kernel : framesKnown about1 = true), ⟨(by decide +kernel : tablesKnown about1 = true), ⟨⟨48, k48, 6, by decide +kernel, rfl, rfl, _, rfl, rfl⟩, ⟨w_consts, trivial⟩⟩⟩⟩, w_rest, w_case⟩
end start1
theorem witness_1 : WitnessClaimed_1 := ⟨start1.p0, start1.e0, start1.about1, start1.theMethod, start1.args0, start1.below0, start1.atStart⟩
end Jvm.Pilot.@@N@@
