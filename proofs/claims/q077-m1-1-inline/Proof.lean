import JvmDerived
import JvmDerived.Pilot.@@N@@Statement
import JvmDerived.Pilot.@@N@@Code
set_option linter.unusedVariables false
set_option linter.unusedSimpArgs false
@@BLOCK:NumsL.lean.txt@@
namespace Jvm.RoadKit
open Sem ClassFile Op Lib Jvm.Stand Jvm.Free Jvm.LawKit
section New
variable {p : Program} {l : Launch} {e : Env} {R : Room} {s : State} {m : MethodId} {args : Array Value} {below : List Frame} {meth : Method} {c : Code} {T : State} {locs : List Loc} {cells slots : Nat}
theorem retI (X : Stand p l e R s m args below meth c T locs cells slots) (hx : p.tables.exec = Jvm.exec) {pc : Nat} {Ls : Array Slot} {z : Int32} {rest : List Value} (hret : meth.sig.returnType = some .int) (hd : decode c.code pc = .ok (.ireturn, 1)) {fs : List Frame}
    (hl : ∀ (f : JFrame) (acts : List Action), f.method = m → f.locked = none → f.entered = [] → (doReturn e (T.setTop f) acts (some (.int z))).1 = T.setFrames fs) : Steps p.tables e below (T.setTop (mkF m pc Ls (.int z :: rest))) (T.setFrames fs) := by
  have hm' : T.vm.method? m = some meth := X.method'
  have hn : narrow .int (.int z) = .int z := rfl
  show Steps p.tables e below (T.setTop { method := m, pc := pc, locals := Ls, stack := _ :: rest, locked := none }) _
  jvm_step X.here [X.here.top, hx, hd, hm', hret, hn]
  first | (intro acts; rw [hl _ acts rfl rfl rfl]) | rw [hl _ _ rfl rfl rfl]
  exact Steps.refl _
end New
end Jvm.RoadKit
namespace Jvm.Pilot.@@N@@
open Jvm Jvm.ClassFile Sem Op Lib Jvm.Free Jvm.Stand Jvm.LawKit Jvm.RoadKit Bundle Jvm.Pilot.@@N@@.Jvm.D
theorem Wd {Z : State} {a0 : Array Value} {d : Jvm.Cond} (hw : ∀ d ∈ tables_1, d.before a0 Z = true) (i : Nat) (h : tables_1[i]? = some d) : d.before a0 Z = true := hw _ (List.mem_of_getElem? h)
theorem own_sz {Z : State} {n0 : Nat} {h : Heap} (O : Old Z n0 h) : n0 ≤ h.size := O.1 ▸ O.2.1
theorem own_neArv {Z : State} {h : Heap} {a b : Addr} {k k' : ClassId} {ty ty' : FieldType} {z z' : Int32} {vs vs' : List Value} {d d' : Value} (F : Arv Z h a k ty z vs d) (G : Arv Z h b k' ty' z' vs' d') (hn : ty ≠ ty') : a ≠ b := fun q => by
  subst q
  obtain ⟨c1, ⟨e1, ⟨-, k1, hk1, cp1, hd1⟩, -⟩, -⟩ := F
  obtain ⟨c2, ⟨e2, ⟨-, k2, hk2, cp2, hd2⟩, -⟩, -⟩ := G
  cases e1.symm.trans e2
  cases hk1.symm.trans hk2
  rw [hd1] at hd2
  injection hd2 with _ h2
  exact hn h2
theorem own_fi {args : Array Value} {s : State} {t : Term} {a : Addr} {C n d : String} {k : Int32} (ht : t.eval args s none [] s = some (.ref a)) (h : (Jvm.Cond.eq (Jvm.Term.field t C n d) (Jvm.Term.int k)).value args s none s [] = some true) : s.fieldOf? a C n d = some (.int k) := by
  have e := fld_at (C := C) (n := n) (dd := d) ht
  obtain ⟨v, w, h1, h2, h3, h4⟩ := cmp_v (Or.inl h)
  cases (Term.int_eval k).symm.trans h2
  obtain ⟨z, rfl⟩ := h4
  rw [← e, h1]
  simp only [Cond.value, h1, Term.int_eval] at h
  simpa using h
theorem own_len {args : Array Value} {s : State} {t : Term} {a : Addr} {cl : Cell} {ty : FieldType} {z : Int32} (A : Arr s s.heap a cl ty) (ev : t.eval args s none [] s = some (.ref a)) (h : (Jvm.Cond.eq (Jvm.Term.length t) (Jvm.Term.int z)).value args s none s [] = some true) : cl.slots.size < 2 ^ 31 ∧ cl.slots.size.toInt32 = z := by
  have e := Cond.eq_int (beq_iff_eq.mpr h) (Term.int_eval z)
  have hA : s.arrayAt? a = some cl := IntBox.arrayAt_of A.1 A.2.1 A.2.2
  by_cases q : cl.slots.size < 2 ^ 31
  · refine ⟨q, ?_⟩
    have r := len_f ev hA q
    rw [r] at e
    injection e with e
    injection e
  · exfalso
    simp [Term.eval, ev, hA] at e
    omega
theorem own_eli {args : Array Value} {s : State} {t : Term} {a : Addr} {cl : Cell} {j k : Int32} (hc : s.heap[a]? = some cl) (ev : t.eval args s none [] s = some (.ref a)) (h : (Jvm.Cond.eq (Jvm.Term.elem t (Jvm.Term.int j)) (Jvm.Term.int k)).value args s none s [] = some true) : cl.slots[j.toNatClampNeg]? = some (.int k) :=
  (elem_in (Cond.eq_int (beq_iff_eq.mpr h) (Term.int_eval k)) ev (Term.int_eval j) hc).2
theorem own_elr {args : Array Value} {s : State} {t u : Term} {a b : Addr} {cl : Cell} {j : Int32} (hc : s.heap[a]? = some cl) (ev : t.eval args s none [] s = some (.ref a)) (eu : u.eval args s none [] s = some (.ref b)) (h : (Jvm.Cond.eq (Jvm.Term.elem t (Jvm.Term.int j)) u).value args s none s [] = some true) : cl.slots[j.toNatClampNeg]? = some (.ref b) := by
  obtain ⟨v, w, h1, h2, h3, h4⟩ := cmp_v (Or.inl h)
  cases eu.symm.trans h2
  have hv : v = .ref b := gotT (eq_R h1 h2 h4.2 rfl) h
  rw [hv] at h1
  exact (elem_in h1 ev (Term.int_eval j) hc).2
set_option maxHeartbeats 40000000
set_option maxRecDepth 65536
theorem lTr {a b c : Nat} (h : a ≤ b) (g : b ≤ c) : a ≤ c := Nat.le_trans h g
theorem lLt {a b c : Nat} (h : a < b) (g : b ≤ c) : a < c := Nat.lt_of_lt_of_le h g
theorem lEq {a b : Nat} (h : a = b) : a ≤ b := Nat.le_of_eq h
theorem nLt {a b : Nat} (h : a < b) : a ≠ b := Nat.ne_of_lt h
abbrev Rm (f c s l : Nat) : Room := { frames := f, cells := c, slots := s, locals := l }
abbrev vr (a : Addr) : Slot := .val (.ref a)
abbrev vi (n : Int32) : Slot := .val (.int n)
abbrev SP (p : Program) (e : Env) (b : List Frame) (T : State) (m : MethodId) (i : Nat) (L : Array Slot) (S : List Value) (t : State) : Prop := Steps p.tables e b (T.setTop (mkF m i L S)) t
abbrev MF (l : Launch) (M : MethodName) (k : ByteArray) (n : Nat) (r : Option FieldType) (ws : List Jvm.Cond) (R : Room) (A : Array Value) (Z : State) (h : Heap) (Q : Option Value → Heap → List Loc → Prop) : Prop := MetFree l M (head1 (Jvm.Cond.code M k n r :: ws) R) (fun a U => a = A ∧ Z.Warmed39 U.vm ∧ U.heap = h) (fun _ _ _ _ _ => True) (fun _ U o U' => ∃ v L, o = .returned v ∧ Q v U'.heap L ∧ FrameEnd U o U' L R.cells R.slots)
abbrev dL (b : ByteArray) (L : List (Nat × Instr × Nat)) : Bool := L.all fun x => decide (decode b x.1 = .ok x.2)
theorem retA {p : Program} {l : Launch} {e : Env} {R : Room} {s : State} {m : MethodId} {args : Array Value} {below : List Frame} {meth : Method} {c : Code} {T : State} {locs : List Loc} {cells slots : Nat} (X : Stand p l e R s m args below meth c T locs cells slots) (hx : p.tables.exec = Jvm.exec) {pc : Nat} {Ls : Array Slot} {a : Addr} {t : FieldType} {rest : List Value} (hret : meth.sig.returnType = some t) (ht : t.isReference = true)
    (hd : decode c.code pc = .ok (.areturn, 1)) {fs : List Frame} (hl : ∀ (f : JFrame) (acts : List Action), f.method = m → f.locked = none → f.entered = [] → (doReturn e (T.setTop f) acts (some (.ref a))).1 = T.setFrames fs) :
    Steps p.tables e below (T.setTop (mkF m pc Ls (.ref a :: rest))) (T.setFrames fs) := by
  have hm' : T.vm.method? m = some meth := X.method'
  show Steps p.tables e below (T.setTop { method := m, pc := pc, locals := Ls, stack := _ :: rest, locked := none }) _
  jvm_step X.here [X.here.top, hx, hd, hm', hret, ht, Value.isRef]
  first | (intro acts; rw [hl _ acts rfl rfl rfl]) | rw [hl _ _ rfl rfl rfl]
  exact Steps.refl _
def dA (L : List (Nat × Instr × Nat)) (k : Nat) : Nat × Instr × Nat := (L[k]?).getD (0, .aconst_null, 1)
theorem dG {b : ByteArray} {c : Code} (hby : c.code = b) {L : List (Nat × Instr × Nat)} (h : dL b L = true) (k : Nat) (q : Nat.ble (k + 1) L.length = true) : decode c.code (dA L k).1 = .ok (dA L k).2 := by
  have hk : k < L.length := Nat.le_of_ble_eq_true q
  have e : L[k]? = some (dA L k) := by simp [dA, hk]
  rw [hby]; exact of_decide_eq_true (List.all_eq_true.mp h _ (List.mem_of_getElem? e))
theorem own_shr0 (x : Int32) : x >>> ((0 : Int32) &&& 31) = x := by
  have h : ((0 : Int32) &&& 31) = 0 := by decide
  rw [h]
  apply Int32.toBitVec_inj.mp
  simp
theorem own_b2 (x : Int32) : (x.toInt8.toInt32).toInt8.toInt32 = x.toInt8.toInt32 := by
  have h : x.toInt8.toInt32.toInt8 = x.toInt8 := by
    apply Int8.toInt_inj.mp
    rw [Int32.toInt_toInt8, Int8.toInt_toInt32]
    have h2 := x.toInt8.toInt_lt; have h3 := x.toInt8.le_toInt
    rw [Int.bmod_eq_of_le] <;> omega
  rw [h]
theorem own_nari2c (x : Int32) : nar .char (x.toUInt32.toUInt16.toUInt32.toInt32) = x.toUInt32.toUInt16.toUInt32.toInt32 := by
  show (x.toUInt32.toUInt16.toUInt32.toInt32).toUInt32.toUInt16.toUInt32.toInt32 = _
  rw [UInt32.toUInt32_toInt32, UInt16.toUInt16_toUInt32]
theorem own_nar255 (x : Int32) : nar .char (x &&& (255 : Int32)) = x &&& (255 : Int32) := i2c_mask x
theorem own_and255 (x : Int32) : ¬ ((255 : Int32) < x &&& (255 : Int32)) ∧ ¬ (x &&& (255 : Int32) < (0 : Int32)) := by
  have e := Jvm.Kit.i32_mask x 255 (k := 8) (by decide) (by decide)
  have h1 := Int.emod_nonneg x.toInt (show (2 : Int) ^ 8 ≠ 0 by decide)
  have h2 := Int.emod_lt_of_pos x.toInt (show (0 : Int) < 2 ^ 8 by decide)
  have e1 : (255 : Int32).toInt = 255 := rfl
  have e0 : (0 : Int32).toInt = 0 := rfl
  constructor <;> rw [Int32.lt_iff_toInt_lt] <;> omega
theorem own_utf (c : Int32) (h : nar .char c = c) : nar .char ((((c.toInt8.toInt32) &&& (255 : Int32)) <<< ((0 : Int32) &&& 31) ||| ((((c >>> ((8 : Int32) &&& 31)).toInt8.toInt32) &&& (255 : Int32)) <<< ((8 : Int32) &&& 31))).toUInt32.toUInt16.toUInt32.toInt32) = c := by
  have h8 : ((8 : Int32) &&& 31) = 8 := by decide
  have h0 : ((0 : Int32) &&& 31) = 0 := by decide
  rw [h8, h0]
  refine Eq.trans ?_ h
  simp only [nar]
  apply Int32.toBitVec_inj.mp
  have e8 : (8 : Int32).toBitVec.smod 32 = 8#32 := by decide
  have e0 : (0 : Int32).toBitVec.smod 32 = 0#32 := by decide
  have e255 : (255 : Int32).toBitVec = 255#32 := by decide
  show BitVec.setWidth 32 (BitVec.setWidth 16 (BitVec.setWidth 32 (BitVec.setWidth 16 (((BitVec.signExtend 32 (BitVec.signExtend 8 c.toBitVec) &&& (255 : Int32).toBitVec) <<< ((0 : Int32).toBitVec.smod 32)) ||| ((BitVec.signExtend 32 (BitVec.signExtend 8 (c.toBitVec.sshiftRight' ((8 : Int32).toBitVec.smod 32))) &&& (255 : Int32).toBitVec) <<< ((8 : Int32).toBitVec.smod 32)))))) = BitVec.setWidth 32 (BitVec.setWidth 16 c.toBitVec)
  rw [e8, e0, e255]
  generalize c.toBitVec = x
  apply BitVec.eq_of_getLsbD_eq
  intro i hi
  have q : ∀ k, k < 32 → (255#32).getLsbD k = decide (k < 8) := by decide
  have q' : ∀ k (h : k < 32), (255#32)[k] = decide (k < 8) := fun k h => (BitVec.getLsbD_eq_getElem h).symm.trans (q k h)
  simp only [BitVec.getLsbD_setWidth, BitVec.getLsbD_or, BitVec.getLsbD_and, BitVec.getLsbD_signExtend, BitVec.shiftLeft_eq', BitVec.getLsbD_shiftLeft, BitVec.sshiftRight_eq', BitVec.getLsbD_sshiftRight, BitVec.toNat_ofNat, hi]
  by_cases i16 : i < 16
  · by_cases i8 : i < 8
    · have : ¬ (32 ≤ i) := by omega
      simp [i16, i8, hi, q']
    · have a1 : i - 8 < 8 := by omega
      have a2 : i - 8 < 32 := by omega
      have a3 : 8 + (i - 8) = i := by omega
      have a4 : ¬ (32 ≤ i - 8) := by omega
      simp [i16, i8, hi, a1, a2, a3, a4, q']
  · simp [i16]
theorem own_mvM {Z s : State} {a0 args : Array Value} {own host : String} {y : MethodName} {index : Nat} (hZ : Z.Warmed39 s.vm) (w : (Jvm.Cond.methodLinkNest own index y host).before a0 Z = true) : (Jvm.Cond.methodLinkNest own index y host).before args s = true := (Cond.methodLinkNest_wide hZ w :)
theorem own_sub0 (x : Int32) : x - (0 : Int32) = x := by simp
theorem own_shl0 (x : Int32) : x <<< ((0 : Int32) &&& 31) = x := by
  have h : ((0 : Int32) &&& 31) = 0 := by decide
  rw [h]
  apply Int32.toBitVec_inj.mp
  simp
theorem own_tn {x : Int32} (h : ¬ (x < (0 : Int32))) : x.toInt = (x.toNatClampNeg : Int) := nat_of h
theorem own_addI {a b : Int32} {A B : Int} (a0 : 0 ≤ a.toInt) (a1 : a.toInt ≤ A) (b0 : 0 ≤ b.toInt) (b1 : b.toInt ≤ B) (h : A + B < 2147483648) : (a + b).toInt = a.toInt + b.toInt := by
  rw [Int32.toInt_add]
  apply Int.bmod_eq_of_le <;> omega
theorem own_le {x k : Int32} (h : ¬ (k < x)) : x.toInt ≤ k.toInt := by rw [Int32.lt_iff_toInt_lt] at h; omega
theorem own_ge {x k : Int32} (h : ¬ (x < k)) : k.toInt ≤ x.toInt := by rw [Int32.lt_iff_toInt_lt] at h; omega
theorem own_cap {k n : Int32} (h0 : ¬ (k < (0 : Int32))) (h1 : ¬ ((14 : Int32) < k)) (h2 : ¬ (n < (0 : Int32))) (h3 : ¬ ((2 : Int32) < n)) : ¬ ((0 : Int32) < ((k + n) - (16 : Int32))) ∧ k.toNatClampNeg + n.toNatClampNeg ≤ 16 := by
  have a0 := own_ge h0; have a1 := own_le h1; have b0 := own_ge h2; have b1 := own_le h3
  have q0 : (0 : Int32).toInt = 0 := rfl
  have q2 : (2 : Int32).toInt = 2 := rfl
  have q14 : (14 : Int32).toInt = 14 := rfl
  have q16 : (16 : Int32).toInt = 16 := rfl
  rw [q0] at a0 b0; rw [q14] at a1; rw [q2] at b1
  have e := own_addI a0 a1 b0 b1 (by decide)
  have t1 := own_tn h0; have t2 := own_tn h2
  refine ⟨?_, by omega⟩
  rw [Int32.lt_iff_toInt_lt, Int32.toInt_sub, e, q0, q16, Int.bmod_eq_of_le (by omega) (by omega)]
  omega
theorem own_c1 {n : Int32} (h2 : ¬ (n < (0 : Int32))) (h3 : ¬ ((2 : Int32) < n)) : ¬ (((0 : Int32) + n) < (0 : Int32)) ∧ ¬ ((14 : Int32) < ((0 : Int32) + n)) ∧ ¬ ((((0 : Int32) + n) + (2 : Int32)) < (0 : Int32)) ∧ ¬ ((14 : Int32) < (((0 : Int32) + n) + (2 : Int32))) := by
  have b0 := own_ge h2; have b1 := own_le h3
  have q0 : (0 : Int32).toInt = 0 := rfl
  have q2 : (2 : Int32).toInt = 2 := rfl
  have q14 : (14 : Int32).toInt = 14 := rfl
  rw [q0] at b0; rw [q2] at b1
  have z : (0 : Int32) + n = n := by simp
  have e := own_addI b0 b1 (b := (2 : Int32)) (B := 2) (by decide) (by decide) (by decide)
  rw [z]
  simp only [Int32.lt_iff_toInt_lt, e, q0, q2, q14]
  omega
theorem own_c2 {n k : Int32} (h2 : ¬ (n < (0 : Int32))) (h3 : ¬ ((2 : Int32) < n)) (h4 : ¬ (k < (0 : Int32))) (h5 : ¬ ((2 : Int32) < k)) : ¬ (((((0 : Int32) + n) + (2 : Int32)) + k) < (0 : Int32)) ∧ ((((0 : Int32) + n) + (2 : Int32)) + k) < (16 : Int32) ∧ ¬ (((((0 : Int32) + n) + (2 : Int32)) + k) = (16 : Int32)) ∧ ((((0 : Int32) + n) + (2 : Int32)) + k).toNatClampNeg ≤ 16 := by
  have b0 := own_ge h2; have b1 := own_le h3; have c0 := own_ge h4; have c1 := own_le h5
  have q0 : (0 : Int32).toInt = 0 := rfl
  have q2 : (2 : Int32).toInt = 2 := rfl
  have q16 : (16 : Int32).toInt = 16 := rfl
  rw [q0] at b0 c0; rw [q2] at b1 c1
  have z : (0 : Int32) + n = n := by simp
  have e := own_addI b0 b1 (b := (2 : Int32)) (B := 2) (by decide) (by decide) (by decide)
  rw [q2] at e
  have e2 := own_addI (a := n + 2) (A := 4) (by omega) (by omega) c0 c1 (by decide)
  rw [z]
  have g1 : ¬ (((n + (2 : Int32)) + k) < (0 : Int32)) := by rw [Int32.lt_iff_toInt_lt, e2, e, q0]; omega
  have t := own_tn g1
  refine ⟨g1, by rw [Int32.lt_iff_toInt_lt, e2, e, q16]; omega, fun q => ?_, by omega⟩
  have q' := congrArg Int32.toInt q
  rw [e2, e, q16] at q'
  omega
theorem own_len16 {vs us : List Value} {i n : Nat} (h : vs.length = 16) (hu : us.length = n) (hi : i + n ≤ 16) : (vs.take i ++ us ++ vs.drop (i + n)).length = 16 := by
  simp only [List.length_append, List.length_take, List.length_drop, h, hu]
  omega
theorem own_nf {args : Array Value} {s : State} {C : String} {u v y : MethodName} (h : (Jvm.Cond.selects C u v).before args s = true) (e : v.cls = y.cls) : NotFace s y := fun r0 h0 => by
  obtain ⟨c2, r2, m2, q1, q2, q3, q4, kP, hkP, hkPi⟩ := Cond.selects_spec h
  have a := findClass_of_methodNamed q3
  have b := findClass_of_methodNamed h0
  rw [e] at a
  have q := Option.some.inj (a.symm.trans b)
  rw [q] at hkP
  exact ⟨kP, hkP, hkPi⟩
theorem own_decl {args : Array Value} {s : State} {y : MethodName} {bytes : ByteArray} {mx : Nat} {rt : Option FieldType} (wi : (Jvm.Cond.instanceMethod y).before args s = true) (wc : (Jvm.Cond.code y bytes mx rt).before args s = true) : (Jvm.Cond.declares y).before args s = true := by
  obtain ⟨mk, methM, hnamed, hmethM, hstM, habM⟩ := Cond.instanceMethod_spec wi
  obtain ⟨m2, cM, q1, -, -, -, -, -, -, hsig⟩ := Cond.code_spec hnamed wc
  cases hmethM.symm.trans q1
  simp [Cond.before, Cond.holds, Cond.value, hnamed, hmethM, hstM, hsig]
theorem own_same {args : Array Value} {s : State} {C : String} {u v y : MethodName} (wi : (Jvm.Cond.instanceMethod y).before args s = true) (h : (Jvm.Cond.selects C u v).before args s = true) (e : v.cls = y.cls) (hn : y.cls ≠ "java/lang/invoke/MethodHandle" ∧ y.cls ≠ "java/lang/invoke/VarHandle") : (Jvm.Cond.sameMethod y.cls y.cls y.name y.desc).before args s = true := by
  obtain ⟨mk, methM, hnamed, hmethM, hstM, habM⟩ := Cond.instanceMethod_spec wi
  obtain ⟨k, hk, hi⟩ := own_nf h e mk hnamed
  have a := findClass_of_methodNamed hnamed
  have f : s.methodFound? y.cls y.name y.desc = some mk := State.methodFound?_of_named hnamed hn
  have g : s.methodNamed? ⟨y.cls, y.name, y.desc⟩ = some mk := hnamed
  simp [Cond.before, Cond.holds, Cond.value, a, f, g, hk, hi]
theorem own_nsRoot {Z : State} {a0 : Array Value} {O K : String} {n : Nat} (w : (Jvm.Cond.noSuperclass O).before a0 Z = true) (wk : (Jvm.Cond.instantiable K n).before a0 Z = true) (hn : O ≠ K) : NS Z O K := by
  obtain ⟨c, k, h1, h2, h3, -, -⟩ := Cond.noSuperclass_spec w
  obtain ⟨t, kt, g1, -⟩ := Cond.instantiable_spec wk
  have ne := ids_ne h1 g1 hn
  refine ⟨c, t, h1, g1, fun fuel => ?_⟩
  cases fuel with
  | zero => rfl
  | succ f => simp [Vm.isSubclassAux, ne, h2, h3]
theorem own_nsNo {Z : State} {a0 : Array Value} {C S K : String} {n : Nat} (w : (Jvm.Cond.superclass C S).before a0 Z = true) (wk : (Jvm.Cond.instantiable K n).before a0 Z = true) (q : NS Z C K) (hn : C ≠ K) : ∃ c t, Z.vm.findClass C = some c ∧ Z.vm.findClass K = some t ∧ Z.vm.assignable c t = false := by
  obtain ⟨c, t, h0, g0, n3⟩ := q
  obtain ⟨p, k, kp, h1, h2, h3, h4, h5, -, h7⟩ := Cond.superclass_spec h0 w
  obtain ⟨t', kt, g1, g2, g5, g6, -⟩ := Cond.instantiable_spec wk
  cases g0.symm.trans g1
  have ne := ids_ne h0 g0 hn
  have g7 : kt.isInterface = false := by simp only [Bool.or_eq_false_iff] at g6; exact g6.1
  refine ⟨c, t, h0, g0, ?_⟩
  show Z.vm.assignableAux (255 + 1) c t = false
  simp [Vm.assignableAux, ne, h2, g2, h5, g5, g7, Vm.isSubclass, n3]
theorem own_ths {Z : State} {n0 : Nat} {h : Heap} (O : Old Z n0 h) : ThS Z h := fun _ _ _ _ _ _ _ q _ => O.2.2 _ _ q
theorem own_ldcM {p : Program} {l : Launch} {e : Env} {R : Room} {s : State} {m : MethodId} {args : Array Value} {below : List Frame} {meth : Method} {c : Code} {T : State} {locs : List Loc} {cells slots : Nat} {Z : State} {a0 : Array Value} {h : Heap} (X : Stand p l e R s m args below meth c T locs cells slots) (hx : p.tables.exec = Jvm.exec) (hZ : Z.Warmed39 s.vm) {own C : String} {index : Nat} (hown : s.vm.findClass own = some m.cls) (w : (Jvm.Cond.classLink own index C).before a0 Z = true) (eT : T.heap = h) {a : Addr} (M : Mir Z C a)
    {g : JFrame} (hg : g.method = m) (hd : decode c.code g.pc = .ok (.ldc index, 2)) : ∃ T', Stand p l e R s m args below meth c T' locs cells slots ∧ T'.heap = h ∧ ∀ target, Steps p.tables e below (T'.setTop { g with pc := g.pc + 2, stack := .ref a :: g.stack }) target → Steps p.tables e below (T.setTop g) target := by
  obtain ⟨cc, k, h1, h2, h3, -⟩ := M
  obtain ⟨k', q, ek⟩ := hZ.alike.2.2 _ _ h2
  have h1' : s.vm.findClass C = some cc := by rw [hZ.alike.findClass]; exact h1
  have h3' : k'.mirror = some a := by rw [ek]; exact h3
  obtain ⟨vm', X', st⟩ := X.ldcMirror hx hown (mv hZ w) (a := a) (by simp [Term.eval, h1', q, h3']) hg hd
  exact ⟨_, X', eT, st⟩
theorem own_sub {L : List Jvm.Cond} {Z : State} {a0 : Array Value} (hw : ∀ d ∈ tables_1, d.before a0 Z = true) (js : List Nat) (h : L = js.map fun j => tables_1.getD j .tt) : ∀ d ∈ L, d.before a0 Z = true := fun d hd => by
  subst h
  obtain ⟨j, -, rfl⟩ := List.mem_map.mp hd
  rw [List.getD_eq_getElem?_getD]
  cases q : tables_1[j]? with
  | none => rfl
  | some x => exact hw _ (List.mem_of_getElem? q)
def EL1 : List (String × Nat) := [("com/example/loomwire/loomwire/manifest/WrittenClause", 23), ("java/lang/String", 7)]
theorem own_EW {Z : State} {a0 : Array Value} (hw : ∀ d ∈ tables_1, d.before a0 Z = true) : EW Z a0 EL1 := (EW.cons (Wd hw 114 rfl) (by decide) (EW.cons (Wd hw 22 rfl) (by decide) EW.nil))
theorem own_wS {Z : State} {a0 : Array Value} (hw : ∀ d ∈ tables_1, d.before a0 Z = true) : ∀ a ∈ Bundle.stringAtoms, a.before a0 Z = true := fun d hd => by
  simp only [Bundle.stringAtoms, List.mem_cons, List.not_mem_nil, or_false] at hd
  rcases hd with rfl | rfl | rfl | rfl | rfl | rfl | rfl
  · exact (Wd hw 11 rfl)
  · exact (Wd hw 10 rfl)
  · exact (Wd hw 23 rfl)
  · exact (Wd hw 24 rfl)
  · exact (Wd hw 25 rfl)
  · exact (Wd hw 26 rfl)
  · exact (Wd hw 27 rfl)
theorem own_safeS {Z : State} {EL : List (String × Nat)} {vm : Vm} {h : Heap} {a : Addr} (hal : Z.vm.Alike vm) (H : CHv Z EL vm h) (F : Fld Z h a "java/lang/String" "value" "[B" .null) (E : Exa Z h a "java/lang/String") : Safe Z EL vm h a := fun ⟨p, hp, u, a', hb, q, hq, S, hy⟩ => by
  obtain ⟨cS, ⟨⟨s1, s2, s3, ⟨cv, kv, iv, s4, s4'⟩, -, s6, -, s8, -, s10, s11, -⟩, hfS, hcS⟩, ⟨kS, k1, k2, k3⟩, -⟩ := S
  obtain ⟨cell, cf, k, i, f, f1, f2, f3, f4, f5, f6, f7⟩ := F
  rcases hy with rfl | rfl
  · cases s1.symm.trans f1
    obtain ⟨kv', z4⟩ := ff_back (U := Wst Z vm h) hal s4
    cases z4.symm.trans f2
    cases s8.symm.trans f7
  · obtain ⟨c2, k2', e1, e2, e3, e4, e5⟩ := E
    cases s10.symm.trans e1
    obtain ⟨hst, k9, hk9, comp, hkind9⟩ := s11
    obtain ⟨kz', hkz', ekz⟩ := hal.2.2 _ _ e3
    have h9 : k9 = kz' := Option.some.inj (hk9.symm.trans hkz')
    have hfS' : vm.findClass "java/lang/String" = some cS := hfS
    rw [hal.findClass] at hfS'
    have hc : q.SA.cls = cS := Option.some.inj (e2.symm.trans hfS')
    have h8 : kz' = kS := Option.some.inj (hkz'.symm.trans (hc ▸ k1))
    rw [h9, h8, k2] at hkind9
    cases hkind9
/-- a Nat as an int -/
abbrev own_n (n : Nat) : Int32 := Int32.ofNat n
theorem own_n_int {n : Nat} (h : n < 2147483648) : (own_n n).toInt = n := by
  exact Int32.toInt_ofNat_of_lt (by omega)
theorem own_n_nat {n : Nat} (h : n < 2147483648) : (own_n n).toNatClampNeg = n := by
  have q : (own_n n).toInt.toNat = n := by rw [own_n_int h]; rfl
  exact q
theorem own_n_add (a b : Nat) : own_n a + own_n b = own_n (a + b) := (Int32.ofNat_add a b).symm
theorem own_n_lt {a b : Nat} (ha : a < 2147483648) (hb : b < 2147483648) : (own_n a < own_n b) ↔ a < b := by
  rw [Int32.lt_iff_toInt_lt, own_n_int ha, own_n_int hb]; omega
theorem own_n_eq {a b : Nat} (ha : a < 2147483648) (hb : b < 2147483648) : (own_n a = own_n b) ↔ a = b :=
  ⟨fun h => by have q := congrArg Int32.toInt h; rw [own_n_int ha, own_n_int hb] at q; omega, fun h => by rw [h]⟩
theorem own_n_nn {a : Nat} (ha : a < 2147483648) : ¬ (own_n a < (0 : Int32)) := by
  rw [Int32.lt_iff_toInt_lt, own_n_int ha]; have : (0 : Int32).toInt = 0 := rfl; omega
theorem own_n_shl (a : Nat) : own_n a <<< ((1 : Int32) &&& 31) = own_n (2 * a) := by
  have h : ((1 : Int32) &&& 31) = 1 := by decide
  rw [h]
  apply Int32.toBitVec_inj.mp
  show (BitVec.ofNat 32 a) <<< ((1 : Int32).toBitVec.smod 32) = BitVec.ofNat 32 (2 * a)
  have e : (1 : Int32).toBitVec.smod 32 = 1#32 := by decide
  rw [e]
  apply BitVec.eq_of_toNat_eq
  simp [BitVec.toNat_shiftLeft, Nat.shiftLeft_eq, Nat.mul_comm]
theorem own_n_shr {a : Nat} (ha : a < 1073741824) : own_n (2 * a) >>> ((1 : Int32) &&& 31) = own_n a := by
  have h : ((1 : Int32) &&& 31) = 1 := by decide
  rw [h]
  apply Int32.toBitVec_inj.mp
  show (BitVec.ofNat 32 (2 * a)).sshiftRight' ((1 : Int32).toBitVec.smod 32) = BitVec.ofNat 32 a
  have e : (1 : Int32).toBitVec.smod 32 = 1#32 := by decide
  rw [e]
  have m : (BitVec.ofNat 32 (2 * a)).msb = false := by
    rw [BitVec.msb_eq_false_iff_two_mul_lt, BitVec.toNat_ofNat]
    omega
  apply BitVec.eq_of_toNat_eq
  rw [BitVec.sshiftRight_eq', BitVec.sshiftRight_eq_of_msb_false m]
  simp [BitVec.toNat_ushiftRight, Nat.shiftRight_eq_div_pow]
  omega
abbrev own_z : Value := .int 0
/-- the first n chars f lie in vs, a byte each / two bytes each -/
def own_L (vs : List Value) (n : Nat) (f : Nat → Int32) : Prop := ∀ i, i < n → nar .char (f i) = f i ∧ ¬ ((255 : Int32) < f i) ∧ vs.getD i own_z = .int ((f i).toInt8.toInt32)
def own_U (vs : List Value) (n : Nat) (f : Nat → Int32) : Prop := ∀ i, i < n → nar .char (f i) = f i ∧ vs.getD (2 * i) own_z = .int ((f i).toInt8.toInt32) ∧ vs.getD (2 * i + 1) own_z = .int ((f i >>> ((8 : Int32) &&& 31)).toInt8.toInt32)
def own_cat (n : Nat) (f g : Nat → Int32) : Nat → Int32 := fun i => if i < n then f i else g (i - n)
/-- two bytes for the char c at the place d -/
def own_put (vs : List Value) (d : Nat) (c : Int32) : List Value := (vs.set (2 * d) (.int (c.toInt8.toInt32))).set (2 * d + 1) (.int ((c >>> ((8 : Int32) &&& 31)).toInt8.toInt32))
def own_inf (vs : List Value) (d : Nat) (f : Nat → Int32) : Nat → List Value
  | 0 => vs
  | k + 1 => own_put (own_inf vs d f k) (d + k) (f k)
theorem own_put_len (vs : List Value) (d : Nat) (c : Int32) : (own_put vs d c).length = vs.length := by simp [own_put]
theorem own_inf_len (vs : List Value) (d : Nat) (f : Nat → Int32) (k : Nat) : (own_inf vs d f k).length = vs.length := by
  induction k with
  | zero => rfl
  | succ k ih => simp [own_inf, own_put_len, ih]
theorem own_put_at {vs : List Value} {d : Nat} {c : Int32} (h : 2 * d + 1 < vs.length) (j : Nat) : (own_put vs d c).getD j own_z = if j = 2 * d then .int (c.toInt8.toInt32) else if j = 2 * d + 1 then .int ((c >>> ((8 : Int32) &&& 31)).toInt8.toInt32) else vs.getD j own_z := by
  simp only [own_put, List.getD_eq_getElem?_getD, List.getElem?_set, List.length_set]
  by_cases q1 : j = 2 * d
  · subst q1
    have : ¬ (2 * d + 1 = 2 * d) := by omega
    have : 2 * d < vs.length := by omega
    simp [*]
  · by_cases q2 : j = 2 * d + 1
    · subst q2; simp [h]
    · have a1 : ¬ (2 * d = j) := by omega
      have a2 : ¬ (2 * d + 1 = j) := by omega
      simp [a1, a2, q1, q2]
theorem own_inf_at {vs : List Value} {d : Nat} {f : Nat → Int32} : ∀ {k : Nat}, 2 * (d + k) ≤ vs.length → ∀ j, (own_inf vs d f k).getD j own_z = if 2 * d ≤ j ∧ j < 2 * (d + k) then (if (j - 2 * d) % 2 = 0 then .int ((f ((j - 2 * d) / 2)).toInt8.toInt32) else .int ((f ((j - 2 * d) / 2) >>> ((8 : Int32) &&& 31)).toInt8.toInt32)) else vs.getD j own_z
  | 0, _, j => by
    have : ¬ (2 * d ≤ j ∧ j < 2 * (d + 0)) := by omega
    rw [if_neg this]; rfl
  | k + 1, h, j => by
    show (own_put (own_inf vs d f k) (d + k) (f k)).getD j own_z = _
    rw [own_put_at (by rw [own_inf_len]; omega), own_inf_at (by omega) j]
    by_cases q1 : j = 2 * (d + k)
    · have a : 2 * d ≤ j ∧ j < 2 * (d + (k + 1)) := by omega
      have b : (j - 2 * d) % 2 = 0 := by omega
      have c : (j - 2 * d) / 2 = k := by omega
      rw [if_pos q1, if_pos a, if_pos b, c]
    · rw [if_neg q1]
      by_cases q2 : j = 2 * (d + k) + 1
      · have a : 2 * d ≤ j ∧ j < 2 * (d + (k + 1)) := by omega
        have b : ¬ ((j - 2 * d) % 2 = 0) := by omega
        have c : (j - 2 * d) / 2 = k := by omega
        rw [if_pos q2, if_pos a, if_neg b, c]
      · rw [if_neg q2]
        by_cases a : 2 * d ≤ j ∧ j < 2 * (d + k)
        · have a' : 2 * d ≤ j ∧ j < 2 * (d + (k + 1)) := by omega
          rw [if_pos a, if_pos a']
        · have a' : ¬ (2 * d ≤ j ∧ j < 2 * (d + (k + 1))) := by omega
          rw [if_neg a, if_neg a']
/-- ds2 is ds with m of ss's from the place d on -/
def own_cp (ds ss : List Value) (d m : Nat) (ds2 : List Value) : Prop := ds2.length = ds.length ∧ ∀ j, ds2.getD j own_z = if j < d then ds.getD j own_z else if j < d + m then ss.getD (j - d) own_z else ds.getD j own_z
theorem own_cp_of {ds ss : List Value} {D M : Nat} (h : D + M ≤ ds.length) : own_cp ds ss D M (List.take D ds ++ ((List.range M).map fun i => ss.getD (0 + i) own_z) ++ List.drop (D + M) ds) := by
  refine ⟨by simp; omega, fun j => ?_⟩
  simp only [List.getD_eq_getElem?_getD, List.getElem?_append, List.length_append, List.length_take, List.length_map, List.length_range, List.getElem?_take, List.getElem?_map, List.getElem?_drop, Nat.zero_add]
  have e : min D ds.length = D := by omega
  rw [e]
  by_cases q1 : j < D
  · have : j < D + M := by omega
    simp [q1, this]
  · by_cases q2 : j < D + M
    · have : j - D < M := by omega
      simp [q1, q2, this]
    · have e2 : D + M + (j - (D + M)) = j := by omega
      simp [q1, q2, e2]
theorem own_L_app {ds ss ds2 : List Value} {n m : Nat} {f g : Nat → Int32} (A : own_L ds n f) (B : own_L ss m g) (C : own_cp ds ss n m ds2) : own_L ds2 (n + m) (own_cat n f g) := fun i hi => by
  rw [C.2 i]
  by_cases q : i < n
  · have e : own_cat n f g i = f i := by simp [own_cat, q]
    rw [e, if_pos q]; exact A i q
  · have e : own_cat n f g i = g (i - n) := by simp [own_cat, q]
    rw [e, if_neg q, if_pos hi]; exact B (i - n) (by omega)
theorem own_U_app {ds ss ds2 : List Value} {n m : Nat} {f g : Nat → Int32} (A : own_U ds n f) (B : own_U ss m g) (C : own_cp ds ss (2 * n) (2 * m) ds2) : own_U ds2 (n + m) (own_cat n f g) := fun i hi => by
  rw [C.2 (2 * i), C.2 (2 * i + 1)]
  by_cases q : i < n
  · have e : own_cat n f g i = f i := by simp [own_cat, q]
    rw [e, if_pos (by omega), if_pos (by omega)]; exact A i q
  · have e : own_cat n f g i = g (i - n) := by simp [own_cat, q]
    have e1 : 2 * i - 2 * n = 2 * (i - n) := by omega
    have e2 : 2 * i + 1 - 2 * n = 2 * (i - n) + 1 := by omega
    rw [e, if_neg (by omega), if_pos (by omega), if_neg (by omega), if_pos (by omega), e1, e2]; exact B (i - n) (by omega)
theorem own_U_inf {ds ss : List Value} {n m : Nat} {f g : Nat → Int32} (A : own_U ds n f) (B : own_L ss m g) (h : 2 * (n + m) ≤ ds.length) : own_U (own_inf ds n g m) (n + m) (own_cat n f g) := fun i hi => by
  rw [own_inf_at h, own_inf_at h]
  by_cases q : i < n
  · have e : own_cat n f g i = f i := by simp [own_cat, q]
    rw [e, if_neg (by omega), if_neg (by omega)]; exact A i q
  · have e : own_cat n f g i = g (i - n) := by simp [own_cat, q]
    have e1 : (2 * i - 2 * n) / 2 = i - n := by omega
    have e2 : (2 * i + 1 - 2 * n) / 2 = i - n := by omega
    rw [e, if_pos (by omega), if_pos (by omega), if_pos (by omega), if_neg (by omega), e1, e2]; exact ⟨(B (i - n) (by omega)).1, rfl, rfl⟩
theorem own_U_new {ds ss : List Value} {m : Nat} {g : Nat → Int32} (B : own_L ss m g) (h : 2 * m ≤ ds.length) : own_U (own_inf ds 0 g m) m g := fun i hi => by
  have h' : 2 * (0 + m) ≤ ds.length := by omega
  rw [own_inf_at h', own_inf_at h']
  have e1 : (2 * i - 2 * 0) / 2 = i := by omega
  have e2 : (2 * i + 1 - 2 * 0) / 2 = i := by omega
  rw [if_pos (by omega), if_pos (by omega), if_pos (by omega), if_neg (by omega), e1, e2]; exact ⟨(B i hi).1, rfl, rfl⟩
theorem own_L_sub {bs us : List Value} {n : Nat} {f : Nat → Int32} (A : own_L bs n f) (h : ∀ j, j < n → us.getD j own_z = bs.getD j own_z) : own_L us n f := fun i hi => by rw [h i hi]; exact A i hi
theorem own_U_sub {bs us : List Value} {n : Nat} {f : Nat → Int32} (A : own_U bs n f) (h : ∀ j, j < 2 * n → us.getD j own_z = bs.getD j own_z) : own_U us n f := fun i hi => by rw [h _ (by omega), h _ (by omega)]; exact A i hi
theorem own_n_add1 (a : Nat) : own_n a + (1 : Int32) = own_n (a + 1) := own_n_add a 1
theorem own_n_add2 (a : Nat) : own_n a + (2 : Int32) = own_n (a + 2) := own_n_add a 2
theorem own_0n (a : Nat) : (0 : Int32) + own_n a = own_n a := by rw [show (0 : Int32) + own_n a = own_n 0 + own_n a from rfl, own_n_add, Nat.zero_add]
theorem own_char {c : Int32} (h : nar .char c = c) : ∃ n, n < 65536 ∧ c = own_n n := by
  refine ⟨c.toUInt32.toUInt16.toNat, c.toUInt32.toUInt16.toNat_lt, ?_⟩
  refine h.symm.trans ?_
  show c.toUInt32.toUInt16.toUInt32.toInt32 = Int32.ofNat _
  generalize c.toUInt32.toUInt16 = u
  apply Int32.toBitVec_inj.mp
  show (u.toBitVec.setWidth 32) = BitVec.ofNat 32 u.toNat
  apply BitVec.eq_of_toNat_eq
  simp
theorem own_mask0 : ∀ n : Fin 256, ((own_n n.val).toInt8.toInt32) &&& (255 : Int32) = own_n n.val := by decide +kernel
theorem own_mask {c : Int32} (h : nar .char c = c) (l : ¬ ((255 : Int32) < c)) : (c.toInt8.toInt32) &&& (255 : Int32) = c := by
  obtain ⟨n, hn, rfl⟩ := own_char h
  have q : ¬ (255 < n) := fun z => l ((own_n_lt (a := 255) (by decide) (by omega)).mpr z)
  exact own_mask0 ⟨n, by omega⟩
def own_f3 (a b c : Int32) : Nat → Int32
  | 0 => a
  | 1 => b
  | _ => c
theorem own_f3_at {a b c : Int32} {j : Nat} (h : j < 3) : [Value.int a, .int b, .int c].getD j (.int 0) = .int (own_f3 a b c j) := by
  match j, h with
  | 0, _ => rfl
  | 1, _ => rfl
  | 2, _ => rfl
def own_sep : Nat → Int32 := fun i => if i = 0 then 58 else 32
theorem own_L_sep : own_L [.int 58, .int 32] 2 own_sep := fun i hi => by
  match i, hi with
  | 0, _ => exact ⟨by decide, by decide, rfl⟩
  | 1, _ => exact ⟨by decide, by decide, rfl⟩
def own_st (co nl : Int32) (vs : List Value) (n : Nat) (f : Nat → Int32) : Prop := (co = 0 ∧ nl = own_n n ∧ own_L vs n f) ∨ (co = 1 ∧ nl = own_n (2 * n) ∧ own_U vs n f)
abbrev own_b (c : Int32) : Value := .int (c.toInt8.toInt32)
abbrev own_h (c : Int32) : Value := .int ((c >>> ((8 : Int32) &&& 31)).toInt8.toInt32)
theorem own_S0 {a b c : Int32} : own_st 0 0 [] 0 (own_f3 a b c) := Or.inl ⟨rfl, rfl, fun i hi => absurd hi (Nat.not_lt_zero i)⟩
theorem own_S1 {a b c : Int32} (ha : nar .char a = a) (la : ¬ ((255 : Int32) < a)) : own_st 0 1 [own_b a] 1 (own_f3 a b c) := Or.inl ⟨rfl, rfl, fun i hi => by
  match i, hi with
  | 0, _ => exact ⟨ha, la, rfl⟩⟩
theorem own_S2 {a b c : Int32} (ha : nar .char a = a) (hb : nar .char b = b) (la : ¬ ((255 : Int32) < a)) (lb : ¬ ((255 : Int32) < b)) : own_st 0 2 [own_b a, own_b b] 2 (own_f3 a b c) := Or.inl ⟨rfl, rfl, fun i hi => by
  match i, hi with
  | 0, _ => exact ⟨ha, la, rfl⟩
  | 1, _ => exact ⟨hb, lb, rfl⟩⟩
theorem own_S3 {a b c : Int32} (ha : nar .char a = a) (hb : nar .char b = b) (hc : nar .char c = c) (la : ¬ ((255 : Int32) < a)) (lb : ¬ ((255 : Int32) < b)) (lc : ¬ ((255 : Int32) < c)) : own_st 0 3 [own_b a, own_b b, own_b c] 3 (own_f3 a b c) := Or.inl ⟨rfl, rfl, fun i hi => by
  match i, hi with
  | 0, _ => exact ⟨ha, la, rfl⟩
  | 1, _ => exact ⟨hb, lb, rfl⟩
  | 2, _ => exact ⟨hc, lc, rfl⟩⟩
theorem own_W1 {a b c : Int32} (ha : nar .char a = a) : own_st 1 2 [own_b a, own_h a] 1 (own_f3 a b c) := Or.inr ⟨rfl, rfl, fun i hi => by
  match i, hi with
  | 0, _ => exact ⟨ha, rfl, rfl⟩⟩
theorem own_W2 {a b c : Int32} (ha : nar .char a = a) (hb : nar .char b = b) : own_st 1 4 [own_b a, own_h a, own_b b, own_h b] 2 (own_f3 a b c) := Or.inr ⟨rfl, rfl, fun i hi => by
  match i, hi with
  | 0, _ => exact ⟨ha, rfl, rfl⟩
  | 1, _ => exact ⟨hb, rfl, rfl⟩⟩
theorem own_W3 {a b c : Int32} (ha : nar .char a = a) (hb : nar .char b = b) (hc : nar .char c = c) : own_st 1 6 [own_b a, own_h a, own_b b, own_h b, own_b c, own_h c] 3 (own_f3 a b c) := Or.inr ⟨rfl, rfl, fun i hi => by
  match i, hi with
  | 0, _ => exact ⟨ha, rfl, rfl⟩
  | 1, _ => exact ⟨hb, rfl, rfl⟩
  | 2, _ => exact ⟨hc, rfl, rfl⟩⟩
theorem own_or_nn {a b c : Nat} (ha : a < 2147483648) (hb : b < 2147483648) (hc : c < 2147483648) : ¬ (((own_n a ||| own_n b) ||| own_n c) < (0 : Int32)) := by
  have m : ∀ {x : Nat}, x < 2147483648 → (own_n x).toBitVec.msb = false := fun {x} hx => by
    show (BitVec.ofNat 32 x).msb = false
    rw [BitVec.msb_eq_false_iff_two_mul_lt, BitVec.toNat_ofNat]; omega
  have q : ((own_n a ||| own_n b) ||| own_n c).toBitVec.msb = false := by
    show ((own_n a).toBitVec ||| (own_n b).toBitVec ||| (own_n c).toBitVec).msb = false
    rw [BitVec.msb_or, BitVec.msb_or, m ha, m hb, m hc]; rfl
  rw [BitVec.msb_eq_toInt] at q
  rw [Int32.lt_iff_toInt_lt]
  have z : (0 : Int32).toInt = 0 := rfl
  have e : ((own_n a ||| own_n b) ||| own_n c).toInt = (((own_n a ||| own_n b) ||| own_n c).toBitVec).toInt := rfl
  simp only [decide_eq_false_iff_not] at q
  omega
theorem own_sub_lt {a b c : Nat} (h : b + c ≤ a) (ha : a < 2147483648) : ¬ ((own_n a - own_n b) < own_n c) := by
  rw [Int32.lt_iff_toInt_lt, Int32.toInt_sub, own_n_int ha, own_n_int (by omega), own_n_int (by omega), Int.bmod_eq_of_le (by omega) (by omega)]
  omega
theorem own_sub_le {a b : Nat} (h : a ≤ b) (hb : b < 2147483648) : ¬ ((0 : Int32) < (own_n a - own_n b)) := by
  have z : (0 : Int32).toInt = 0 := rfl
  rw [Int32.lt_iff_toInt_lt, Int32.toInt_sub, own_n_int hb, own_n_int (by omega), Int.bmod_eq_of_le (by omega) (by omega)]
  omega
theorem own_mm {k m : Nat} (hk : k < 2147483648) (hm : m < 2147483648) (h : ¬ (own_n k < own_n m)) : m ≤ k := by
  rw [own_n_lt hk hm] at h; omega
theorem own_ml {k m : Nat} (hk : k < 2147483648) (hm : m < 2147483648) (h : own_n k < own_n m) : k < m := (own_n_lt hk hm).mp h
theorem own_cp_ac {ds ss : List Value} {D M : Nat} (hD : D < 2147483648) (hM : M < 2147483648) (h : D + M ≤ ds.length) : own_cp ds ss D M (List.take (own_n D).toNatClampNeg ds ++ ((List.range (own_n M).toNatClampNeg).map fun i => ss.getD ((0 : Int32).toNatClampNeg + i) (.int 0)) ++ List.drop ((own_n D).toNatClampNeg + (own_n M).toNatClampNeg) ds) := by
  rw [own_n_nat hD, own_n_nat hM]; exact own_cp_of h
/-- the copy of a range from 0 -/
theorem own_cr_of {bs : List Value} {M : Nat} (hM : M < 2147483648) (j : Nat) (hj : j < M) : (List.take (0 : Int32).toNatClampNeg (List.replicate (own_n M).toNatClampNeg (Value.int (0 : Int32))) ++ ((List.range (own_n M).toNatClampNeg).map fun i => bs.getD ((0 : Int32).toNatClampNeg + i) (.int 0)) ++ List.drop ((0 : Int32).toNatClampNeg + (own_n M).toNatClampNeg) (List.replicate (own_n M).toNatClampNeg (Value.int (0 : Int32)))).getD j own_z = bs.getD j own_z := by
  rw [own_n_nat hM]
  have q := (own_cp_of (ds := List.replicate M (Value.int (0 : Int32))) (ss := bs) (D := 0) (M := M) (by simp)).2 j
  rw [if_neg (by omega), if_pos (by omega)] at q
  exact q
def own_all (pn : Nat) (pf df : Nat → Int32) : Nat → Int32 := own_cat (pn + 2) (own_cat pn pf own_sep) df
theorem own_all_p {pn i : Nat} {pf df : Nat → Int32} (h : i < pn) : own_all pn pf df i = pf i := by
  have : i < pn + 2 := by omega
  simp [own_all, own_cat, h, this]
theorem own_all_c {pn i : Nat} {pf df : Nat → Int32} (h : i = pn) : own_all pn pf df i = 58 := by
  subst h; simp [own_all, own_cat, own_sep]
theorem own_all_s {pn i : Nat} {pf df : Nat → Int32} (h : i = pn + 1) : own_all pn pf df i = 32 := by
  subst h
  have b : ¬ (pn + 1 < pn) := by omega
  simp [own_all, own_cat, own_sep, b]
theorem own_all_d {pn i : Nat} {pf df : Nat → Int32} (h : pn + 2 ≤ i) : own_all pn pf df i = df (i - pn - 2) := by
  have a : ¬ (i < pn + 2) := by omega
  have e : i - (pn + 2) = i - pn - 2 := by omega
  simp [own_all, own_cat, a, e]
theorem own_cat0 (f g : Nat → Int32) : own_cat 0 f g = g := funext fun i => by simp [own_cat]
theorem own_cat0L {vs : List Value} {n : Nat} {f g : Nat → Int32} (h : own_L vs (0 + n) (own_cat 0 f g)) : own_L vs n g := by rw [Nat.zero_add, own_cat0] at h; exact h
theorem own_cat0U {vs : List Value} {n : Nat} {f g : Nat → Int32} (h : own_U vs (0 + n) (own_cat 0 f g)) : own_U vs n g := by rw [Nat.zero_add, own_cat0] at h; exact h
theorem own_L0 {vs : List Value} {f : Nat → Int32} : own_L vs 0 f := fun i hi => absurd hi (Nat.not_lt_zero i)
theorem own_and3 (x : Int32) : ∃ n, n ≤ 3 ∧ x &&& (3 : Int32) = own_n n := by
  refine ⟨x.toBitVec.toNat % 4, by omega, ?_⟩
  apply Int32.toBitVec_inj.mp
  show x.toBitVec &&& 3#32 = BitVec.ofNat 32 (x.toBitVec.toNat % 4)
  apply BitVec.eq_of_toNat_eq
  rw [BitVec.toNat_and, BitVec.toNat_ofNat]
  have : x.toBitVec.toNat &&& 3 = x.toBitVec.toNat % 4 := Nat.and_two_pow_sub_one_eq_mod x.toBitVec.toNat 2
  show x.toBitVec.toNat &&& 3 = _
  rw [this, BitVec.toNat_ofNat]
  omega
theorem own_ltsl {k mm : Nat} {sl : Int32} (hk : k < mm) (hm : mm ≤ 5) (h : mm ≤ sl.toNatClampNeg) (h0 : ¬ (sl < (0 : Int32))) : own_n k < sl := by
  have q : sl.toInt = (sl.toNatClampNeg : Int) := by
    rw [Int32.lt_iff_toInt_lt] at h0
    have z : (0 : Int32).toInt = 0 := rfl
    show sl.toInt = (sl.toInt.toNat : Int)
    omega
  rw [Int32.lt_iff_toInt_lt, own_n_int (by omega), q]; omega
theorem own_h5 {a b z : Nat} (h : a + b ≤ z) (hz : z < 2147483648) : (own_n a).toNatClampNeg + (own_n b).toNatClampNeg ≤ (own_n z).toNatClampNeg := by
  rw [own_n_nat (by omega), own_n_nat (by omega), own_n_nat hz]; exact h
theorem own_h6 {a b z : Nat} (h : a + b ≤ z) (hz : z < 2147483648) : (own_n a).toNatClampNeg + (own_n b).toNatClampNeg ≤ z := by
  rw [own_n_nat (by omega), own_n_nat (by omega)]; exact h
theorem own_h7 {b z : Nat} (h : b ≤ z) (hz : z < 2147483648) : (0 : Int32).toNatClampNeg + (own_n b).toNatClampNeg ≤ (own_n z).toNatClampNeg := by
  rw [own_n_nat (by omega), own_n_nat hz]
  show 0 + b ≤ z
  omega
theorem own_h8 {b z : Nat} (h : b ≤ z ∧ z < 2147483648) : (own_n b).toNatClampNeg ≤ z := by rw [own_n_nat (by omega)]; exact h.1
/-- the chars f lie in cs -/
def own_C (cs : List Value) (n : Nat) (f : Nat → Int32) : Prop := ∀ i, i < n → nar .char (f i) = f i ∧ cs.getD i own_z = .int (f i)
theorem own_C0 {cs : List Value} {f : Nat → Int32} : own_C cs 0 f := fun i hi => absurd hi (Nat.not_lt_zero i)
theorem own_C1 {a b c : Int32} (ha : nar .char a = a) : own_C [.int a] 1 (own_f3 a b c) := fun i hi => by
  match i, hi with
  | 0, _ => exact ⟨ha, rfl⟩
theorem own_C2 {a b c : Int32} (ha : nar .char a = a) (hb : nar .char b = b) : own_C [.int a, .int b] 2 (own_f3 a b c) := fun i hi => by
  match i, hi with
  | 0, _ => exact ⟨ha, rfl⟩
  | 1, _ => exact ⟨hb, rfl⟩
theorem own_C3 {a b c : Int32} (ha : nar .char a = a) (hb : nar .char b = b) (hc : nar .char c = c) : own_C [.int a, .int b, .int c] 3 (own_f3 a b c) := fun i hi => by
  match i, hi with
  | 0, _ => exact ⟨ha, rfl⟩
  | 1, _ => exact ⟨hb, rfl⟩
  | 2, _ => exact ⟨hc, rfl⟩
theorem own_U_newC {ds cs : List Value} {m : Nat} {g : Nat → Int32} (B : own_C cs m g) (h : 2 * m ≤ ds.length) : own_U (own_inf ds 0 g m) m g := fun i hi => by
  have h' : 2 * (0 + m) ≤ ds.length := by omega
  rw [own_inf_at h', own_inf_at h']
  have e1 : (2 * i - 2 * 0) / 2 = i := by omega
  have e2 : (2 * i + 1 - 2 * 0) / 2 = i := by omega
  rw [if_pos (by omega), if_pos (by omega), if_pos (by omega), if_neg (by omega), e1, e2]; exact ⟨(B i hi).1, rfl, rfl⟩
def own_lat (vs : List Value) (f : Nat → Int32) : Nat → List Value
  | 0 => vs
  | k + 1 => (own_lat vs f k).set k (.int ((f k).toInt8.toInt32))
theorem own_lat_len (vs : List Value) (f : Nat → Int32) (k : Nat) : (own_lat vs f k).length = vs.length := by
  induction k with
  | zero => rfl
  | succ k ih => simp [own_lat, ih]
theorem own_lat_at {vs : List Value} {f : Nat → Int32} : ∀ {k : Nat}, k ≤ vs.length → ∀ j, j < k → (own_lat vs f k).getD j own_z = .int ((f j).toInt8.toInt32)
  | 0, _, j, hj => absurd hj (Nat.not_lt_zero j)
  | k + 1, h, j, hj => by
    show ((own_lat vs f k).set k (.int ((f k).toInt8.toInt32))).getD j own_z = _
    rw [List.getD_eq_getElem?_getD, List.getElem?_set]
    by_cases q : k = j
    · subst q
      have : k < (own_lat vs f k).length := by rw [own_lat_len]; omega
      simp [this]
    · rw [if_neg q, ← List.getD_eq_getElem?_getD]
      exact own_lat_at (by omega) j (by omega)
/-- what compress tells: all n chars went into the bytes, or the first one above 255 is the r-th -/
def own_cz (r n : Nat) (bs : List Value) (f : Nat → Int32) : Prop := (r = n ∧ own_L bs n f) ∨ (r < n ∧ (255 : Int32) < f r)
def own_sz2 (bl : Int32) (bs : List Value) (n : Nat) (f : Nat → Int32) : Prop := (bl = own_n n ∧ own_L bs n f) ∨ (bl = own_n (2 * n) ∧ own_U bs n f)
theorem own_cfa : ∀ n : Fin 9, n.val ≠ 0 → ((own_n n.val - own_n (2 * n.val)).toUInt32 >>> ((31 : Int32) &&& 31).toUInt32).toInt32 = 1 := by decide +kernel
theorem own_cfb {n : Nat} (h : n ≤ 8) (h0 : ¬ (own_n n = (0 : Int32))) : ((own_n n - own_n (2 * n)).toUInt32 >>> ((31 : Int32) &&& 31).toUInt32).toInt32 = 1 := own_cfa ⟨n, by omega⟩ fun z => h0 (by rw [show n = 0 from z]; rfl)
theorem own_subs (n : Nat) : own_n n - own_n n = (0 : Int32) := by simp
def own_all3 (P : Nat → Prop) : Nat → Prop
  | 0 => True
  | k + 1 => P 0 ∧ own_all3 (fun i => P (i + 1)) k
theorem own_all3_at : ∀ {k : Nat} {P : Nat → Prop}, own_all3 P k → ∀ i, i < k → P i
  | 0, _, _, i, hi => absurd hi (Nat.not_lt_zero i)
  | k + 1, P, h, 0, _ => h.1
  | k + 1, P, h, i + 1, hi => own_all3_at (k := k) (P := fun i => P (i + 1)) h.2 i (by omega)
theorem own_le3 {f : Nat → Int32} {n k : Nat} (e : n = k) (h : own_all3 (fun i => ¬ ((255 : Int32) < f i)) k) (i : Nat) (hi : i < n) : ¬ ((255 : Int32) < f i) := own_all3_at h i (by omega)
def own_f0 : Nat → Int32 := fun _ => 0
theorem own_refv {args : Array Value} {s : State} {t : Term} (h : (Jvm.Cond.isRef t).value args s none s [] = some true) : ∃ v, t.eval args s none [] s = some v ∧ v.isRef = true := by
  cases e : t.eval args s none [] s with
  | none => simp [Cond.value, e] at h
  | some v =>
    refine ⟨v, rfl, ?_⟩
    simp [Cond.value, e] at h
    cases v <;> simp_all [Value.isRef]
theorem own_n3 {n : Nat} (h : n ≤ 3) (h0 : ¬ (own_n n = (0 : Int32))) (h1 : ¬ (own_n n = (1 : Int32))) (h2 : ¬ (own_n n = (2 : Int32))) : n = 3 := by
  have a0 : n ≠ 0 := fun z => h0 (by rw [z]; rfl)
  have a1 : n ≠ 1 := fun z => h1 (by rw [z]; rfl)
  have a2 : n ≠ 2 := fun z => h2 (by rw [z]; rfl)
  omega
theorem own_ixi {i p : Nat} (h : p + 2 ≤ i) (hi : i < 2147483648) : ((own_n i - own_n p) - (2 : Int32)) = own_n (i - p - 2) := by
  apply Int32.toInt_inj.mp
  have z : (2 : Int32).toInt = 2 := rfl
  rw [Int32.toInt_sub, Int32.toInt_sub, own_n_int hi, own_n_int (by omega), own_n_int (by omega), z]
  rw [Int.bmod_eq_of_le (n := (i : Int) - p) (by omega) (by omega), Int.bmod_eq_of_le (by omega) (by omega)]
  omega
theorem own_ix {i p : Nat} (h : p + 2 ≤ i) (hi : i < 2147483648) : ((own_n i - own_n p) - (2 : Int32)).toNatClampNeg = i - p - 2 := by rw [own_ixi h hi, own_n_nat (by omega)]
theorem own_ix0 {i p : Nat} (h : p + 2 ≤ i) (hi : i < 2147483648) : ¬ (((own_n i - own_n p) - (2 : Int32)) < (0 : Int32)) := by rw [own_ixi h hi]; exact own_n_nn (by omega)
theorem own_ix3 {i p : Nat} (h : p + 2 ≤ i) (hi : i < 2147483648) (h3 : i - p - 2 < 3) : ((own_n i - own_n p) - (2 : Int32)) < (3 : Int32) := by rw [own_ixi h hi]; exact (own_n_lt (b := 3) (by omega) (by decide)).mpr h3
theorem own_ixd {i p d : Nat} (h : p + 2 ≤ i) (hi : i < 2147483648) (h3 : i - p - 2 < d) (hd : d < 2147483648) : ((own_n i - own_n p) - (2 : Int32)) < own_n d := by rw [own_ixi h hi]; exact (own_n_lt (by omega) hd).mpr h3
theorem own_utf2 (c : Int32) (h : nar .char c = c) : nar .char ((((c.toInt8.toInt32) &&& (255 : Int32)) ||| ((((c >>> ((8 : Int32) &&& 31)).toInt8.toInt32) &&& (255 : Int32)) <<< ((8 : Int32) &&& 31))).toUInt32.toUInt16.toUInt32.toInt32) = c := by
  have q := own_utf c h
  rw [own_shl0] at q
  exact q
def GF (Z : State) (cS : Int32) (vF : Value) : Prop := Sta Z Z.heap "java/lang/String" "COMPACT_STRINGS" "Z" (.int cS) ∧ ¬ (cS = (0 : Int32)) ∧ Sta Z Z.heap "java/lang/StringUTF16" "$assertionsDisabled" "Z" (.int 1) ∧ Sta Z Z.heap "java/lang/StringUTF16" "HI_BYTE_SHIFT" "I" (.int 0) ∧ Sta Z Z.heap "java/lang/StringUTF16" "LO_BYTE_SHIFT" "I" (.int 8) ∧ Sta Z Z.heap "jdk/internal/util/Preconditions" "SIOOBE_FORMATTER" "Ljava/util/function/BiFunction;" vF ∧ vF.isRef = true
theorem D13 : dL jdk_42_method_152_code [(0, .getstatic 38, 3), (3, .ifCond .eq 10, 3), (6, .aload_n 0, 1), (7, .getfield 15, 3), (10, .goto 4, 3), (14, .ireturn, 1)] = true := by decide +kernel
theorem pn : plainName "java/lang/String" = true := by first | (simp [plainName, overriddenIn]; done) | decide +kernel
abbrev MN_0 : MethodName := ⟨"java/lang/String", "coder", "()B"⟩
theorem ef_rmCod0 (m : MethodId) (a0s : Addr) : entryFrame m #[(.ref a0s)] 1 = mkF m 0 #[vr a0s] [] := by first | (simp [entryFrame, mkF, argsToLocals, Value.category]; done) | rfl
def Q_rmCod0 (n0 : Nat) (Z : State) (cS : Int32) (vF : Value) (a0s : Addr) (h0 : Heap) (v : Option Value) (h : Heap) (L : List Loc) : Prop := v = some (.int 0) ∧ Fr n0 L ∧ h = h0
theorem rmCod0 (l : Launch) (Z : State) (a0 : Array Value) (hw : ∀ d ∈ tables_1, d.before a0 Z = true) (ws : List Jvm.Cond) (cS : Int32) (vF : Value) (a0s : Addr) (h0 : Heap) (n0 : Nat) (O0 : Old Z n0 h0) (GL : GF Z cS vF) (F_coder_a0s : Fld Z h0 a0s "java/lang/String" "coder" "B" (.int 0)) :
    MF l MN_0 jdk_42_method_152_code 1 (some .byte) ws (Rm 0 0 0 0) #[(.ref a0s)] Z h0 (Q_rmCod0 n0 Z cS vF a0s h0) := by
  refine MetFree.of_bodySF (plainFor_of_name pn) hisR ?_
  intro p e s m args below meth c s₁ Bd hml0 hP hK
  obtain ⟨rfl, hZ, hh⟩ := hP
  have hx := Bd.exec
  have hby := Bd.bytes
  have hml : c.maxLocals = 1 := hml0
  have hown : s.vm.findClass "java/lang/String" = some m.cls := findClass_of_methodNamed Bd.named
  have hnm := (name_of_methodNamed Bd.named Bd.method).1
  have X0 : Stand p l e (Rm 0 0 0 0) s m #[(.ref a0s)] below meth c s₁ [] 0 0 := Stand.of_body Bd
  have e0 : s₁.heap = h0 := by rw [← hh, Bd.state]; rfl
  have N0 := Fr.nil n0
  have pre0 : ∀ t, SP p e below s₁ m 0 #[vr a0s] [] t → Steps p.tables e below (s₁.setTop (entryFrame m #[(.ref a0s)] 1)) t := fun t k => castTop (ef_rmCod0 m a0s) k
  have GL' := GL
  obtain ⟨GCS, GCP, GA16, GHI, GLO, GFF, GVF⟩ := GL'
  obtain ⟨T1, X1, e1, st1⟩ := getS2 X0 hx hZ hown (host := "") (Or.inl (Wd hw 86 rfl)) Via.refl e0 (GCS.ext O0.2) (g := mkF m 0 #[vr a0s] []) rfl (dG hby D13 0 rfl)
  obtain ⟨T2, X2, e2, st2⟩ := getF X1 hx hZ hown (host := "") (Or.inl (Wd hw 29 rfl)) Via.refl e1 F_coder_a0s (g := mkF m 7 #[vr a0s] [(.ref a0s)]) rfl rfl (dG hby D13 3 rfl)
  obtain ⟨fs, hr, hrun, hended, hW, hsame⟩ := X2.leave (v := some (.int 0)) (fun h => by rw [Bd.returns] at h; cases h)
  refine ⟨_, _, pre0 _ ?_, hrun, hended, _, _, rfl, ?_, ⟨_, rfl⟩, hW, hsame.mono (by decide) (by decide)⟩
  · show SP p e below s₁ m 0 #[vr a0s] [] _
    refine st1 _ ?_
    show SP p e below T1 m 3 #[vr a0s] [(.int cS)] _
    refine XS.ifNo X1.here hx rfl (dG hby D13 1 rfl) rfl ((if0 _ _).trans (feq GCP).1) ?_
    refine XS.aloadN X1.here hx rfl (dG hby D13 2 rfl) rfl rfl ?_
    show SP p e below T1 m 7 #[vr a0s] [(.ref a0s)] _
    refine st2 _ ?_
    show SP p e below T2 m 10 #[vr a0s] [(.int 0)] _
    refine XS.goto X2.here hx rfl (pc0 := 10) (pc' := 14) rfl (dG hby D13 4 rfl) (by decide) (by decide) ?_
    show SP p e below T2 m 14 #[vr a0s] [(.int 0)] _
    exact retN X2 hx (t := .byte) Bd.returns (by simp) (dG hby D13 5 rfl) hr
  · show Q_rmCod0 n0 Z cS vF a0s h0 _ T2.heap _
    rw [e2]
    exact ⟨rfl, N0, rfl⟩
def Q_rmCod1 (n0 : Nat) (Z : State) (cS : Int32) (vF : Value) (a0s : Addr) (h0 : Heap) (v : Option Value) (h : Heap) (L : List Loc) : Prop := v = some (.int 1) ∧ Fr n0 L ∧ h = h0
theorem rmCod1 (l : Launch) (Z : State) (a0 : Array Value) (hw : ∀ d ∈ tables_1, d.before a0 Z = true) (ws : List Jvm.Cond) (cS : Int32) (vF : Value) (a0s : Addr) (h0 : Heap) (n0 : Nat) (O0 : Old Z n0 h0) (GL : GF Z cS vF) (F_coder_a0s : Fld Z h0 a0s "java/lang/String" "coder" "B" (.int 1)) :
    MF l MN_0 jdk_42_method_152_code 1 (some .byte) ws (Rm 0 0 0 0) #[(.ref a0s)] Z h0 (Q_rmCod1 n0 Z cS vF a0s h0) := by
  refine MetFree.of_bodySF (plainFor_of_name pn) hisR ?_
  intro p e s m args below meth c s₁ Bd hml0 hP hK
  obtain ⟨rfl, hZ, hh⟩ := hP
  have hx := Bd.exec
  have hby := Bd.bytes
  have hml : c.maxLocals = 1 := hml0
  have hown : s.vm.findClass "java/lang/String" = some m.cls := findClass_of_methodNamed Bd.named
  have hnm := (name_of_methodNamed Bd.named Bd.method).1
  have X0 : Stand p l e (Rm 0 0 0 0) s m #[(.ref a0s)] below meth c s₁ [] 0 0 := Stand.of_body Bd
  have e0 : s₁.heap = h0 := by rw [← hh, Bd.state]; rfl
  have N0 := Fr.nil n0
  have pre0 : ∀ t, SP p e below s₁ m 0 #[vr a0s] [] t → Steps p.tables e below (s₁.setTop (entryFrame m #[(.ref a0s)] 1)) t := fun t k => castTop (ef_rmCod0 m a0s) k
  have GL' := GL
  obtain ⟨GCS, GCP, GA16, GHI, GLO, GFF, GVF⟩ := GL'
  obtain ⟨T1, X1, e1, st1⟩ := getS2 X0 hx hZ hown (host := "") (Or.inl (Wd hw 86 rfl)) Via.refl e0 (GCS.ext O0.2) (g := mkF m 0 #[vr a0s] []) rfl (dG hby D13 0 rfl)
  obtain ⟨T2, X2, e2, st2⟩ := getF X1 hx hZ hown (host := "") (Or.inl (Wd hw 29 rfl)) Via.refl e1 F_coder_a0s (g := mkF m 7 #[vr a0s] [(.ref a0s)]) rfl rfl (dG hby D13 3 rfl)
  obtain ⟨fs, hr, hrun, hended, hW, hsame⟩ := X2.leave (v := some (.int 1)) (fun h => by rw [Bd.returns] at h; cases h)
  refine ⟨_, _, pre0 _ ?_, hrun, hended, _, _, rfl, ?_, ⟨_, rfl⟩, hW, hsame.mono (by decide) (by decide)⟩
  · show SP p e below s₁ m 0 #[vr a0s] [] _
    refine st1 _ ?_
    show SP p e below T1 m 3 #[vr a0s] [(.int cS)] _
    refine XS.ifNo X1.here hx rfl (dG hby D13 1 rfl) rfl ((if0 _ _).trans (feq GCP).1) ?_
    refine XS.aloadN X1.here hx rfl (dG hby D13 2 rfl) rfl rfl ?_
    show SP p e below T1 m 7 #[vr a0s] [(.ref a0s)] _
    refine st2 _ ?_
    show SP p e below T2 m 10 #[vr a0s] [(.int 1)] _
    refine XS.goto X2.here hx rfl (pc0 := 10) (pc' := 14) rfl (dG hby D13 4 rfl) (by decide) (by decide) ?_
    show SP p e below T2 m 14 #[vr a0s] [(.int 1)] _
    exact retN X2 hx (t := .byte) Bd.returns (by simp) (dG hby D13 5 rfl) hr
  · show Q_rmCod1 n0 Z cS vF a0s h0 _ T2.heap _
    rw [e2]
    exact ⟨rfl, N0, rfl⟩
theorem D12 : dL jdk_42_method_54_code [(0, .aload_n 0, 1), (1, .getfield 9, 3), (4, .arraylength, 1), (5, .aload_n 0, 1), (6, .invokevirtual 335, 3), (9, .ishr, 1), (10, .ireturn, 1)] = true := by decide +kernel
theorem pd : parseMethodDescriptor "()B" = some ⟨[], some .byte⟩ := by decide +kernel
abbrev MN_1 : MethodName := ⟨"java/lang/String", "length", "()I"⟩
def Q_rmLen0 (n0 : Nat) (Z : State) (cS : Int32) (vF : Value) (a0s : Addr) (sv : Addr) (sk : ClassId) (ss : List Value) (sn : Nat) (h0 : Heap) (v : Option Value) (h : Heap) (L : List Loc) : Prop := v = some (.int (own_n sn)) ∧ Fr n0 L ∧ h = h0
theorem rmLen0 (l : Launch) (Z : State) (a0 : Array Value) (hw : ∀ d ∈ tables_1, d.before a0 Z = true) (ws : List Jvm.Cond) (cS : Int32) (vF : Value) (a0s : Addr) (sv : Addr) (sk : ClassId) (ss : List Value) (sn : Nat) (h0 : Heap) (n0 : Nat) (O0 : Old Z n0 h0) (GL : GF Z cS vF) (E_a0s : Exa Z h0 a0s "java/lang/String") (F_value_a0s : Fld Z h0 a0s "java/lang/String" "value" "[B" (.ref sv)) (F_coder_a0s : Fld Z h0 a0s "java/lang/String" "coder" "B" (.int 0)) (V_sv : Arv Z h0 sv sk .byte (own_n sn) ss (.int 0)) (h8 : sn ≤ 8) :
    MF l MN_1 jdk_42_method_54_code 1 (some .int) ws (Rm 1 0 0 13) #[(.ref a0s)] Z h0 (Q_rmLen0 n0 Z cS vF a0s sv sk ss sn h0) := by
  refine MetFree.of_bodySF (plainFor_of_name pn) hisR ?_
  intro p e s m args below meth c s₁ Bd hml0 hP hK
  obtain ⟨rfl, hZ, hh⟩ := hP
  have hx := Bd.exec
  have hby := Bd.bytes
  have hml : c.maxLocals = 1 := hml0
  have hown : s.vm.findClass "java/lang/String" = some m.cls := findClass_of_methodNamed Bd.named
  have hnm := (name_of_methodNamed Bd.named Bd.method).1
  have X0 : Stand p l e (Rm 1 0 0 13) s m #[(.ref a0s)] below meth c s₁ [] 0 0 := Stand.of_body Bd
  have e0 : s₁.heap = h0 := by rw [← hh, Bd.state]; rfl
  have N0 := Fr.nil n0
  have pre0 : ∀ t, SP p e below s₁ m 0 #[vr a0s] [] t → Steps p.tables e below (s₁.setTop (entryFrame m #[(.ref a0s)] 1)) t := fun t k => castTop (ef_rmCod0 m a0s) k
  have GL' := GL
  obtain ⟨GCS, GCP, GA16, GHI, GLO, GFF, GVF⟩ := GL'
  obtain ⟨T1, X1, e1, st1⟩ := getF X0 hx hZ hown (host := "") (Or.inl (Wd hw 28 rfl)) Via.refl e0 F_value_a0s (g := mkF m 1 #[vr a0s] [(.ref a0s)]) rfl rfl (dG hby D12 1 rfl)
  obtain ⟨cl2, Ar2, -, S2, N2_, -, -⟩ := id (V_sv)
  obtain ⟨cq3, kq3, q3a, q3b, q3c⟩ := isOf hZ e1 E_a0s
  obtain ⟨_, _, ⟨T3, L3, k3, n3⟩, -, X3, ⟨Lc3, hQ3, l3, y3, z3⟩, st3⟩ := X1.virtualBack hx (y := MN_0) (z := MN_0) hown (mvT hZ (Wd hw 81 rfl)) (mvT hZ (Wd hw 82 rfl)) (notFace_of_selects (args := #[]) (mvT hZ (Wd hw 84 rfl))) (mvT hZ (Wd hw 84 rfl)) (mvT hZ (Wd hw 83 rfl)) (by decide) (backOf (W := 1) (rmCod0 l Z a0 hw [] cS vF a0s h0 n0 O0 GL F_coder_a0s) hZ (Wd hw 85 rfl) (Wd hw 11 rfl) (by decide) (by decide)) q3a q3c (g := mkF m 6 #[vr a0s] [(.ref a0s), (.int (own_n sn))]) rfl (by rw [hml]; rfl) (Steps.refl _) (argsL := []) (rest := [(.int (own_n sn))]) (lenOf pd rfl) rfl (by show 2 * 0 + _ ≤ _; exact lEq rfl) (dG hby D12 4 rfl) (fun _ _ => ⟨rfl, e1, (by decide : 0 + 0 ≤ _), (by decide : 0 + 0 ≤ _)⟩)
  dsimp only [Pt.U, Pt.locs, Pt.cells, Pt.slots] at X3 l3 y3 z3 st3 hQ3
  subst l3 y3 z3
  obtain ⟨rfl, N3q, e3⟩ := hQ3
  have N3 := Fr.app N0 N3q
  obtain ⟨fs, hr, hrun, hended, hW, hsame⟩ := X3.leave (v := some (.int (own_n sn))) (fun h => by rw [Bd.returns] at h; cases h)
  refine ⟨_, _, pre0 _ ?_, hrun, hended, _, _, rfl, ?_, ⟨_, rfl⟩, hW, hsame.mono (by decide) (by decide)⟩
  · show SP p e below s₁ m 0 #[vr a0s] [] _
    refine XS.aloadN X0.here hx rfl (dG hby D12 0 rfl) rfl rfl ?_
    show SP p e below s₁ m 1 #[vr a0s] [(.ref a0s)] _
    refine st1 _ ?_
    show SP p e below T1 m 4 #[vr a0s] [(.ref sv)] _
    refine X1.arraylength hx (by rw [e1]; exact Ar2.1) (State.isArrayOf_alike hZ.alike Ar2.2.1) (g := mkF m 4 #[vr a0s] [(.ref sv)]) rfl rfl (dG hby D12 2 rfl) _ ?_
    rw [len_of S2 N2_]
    show SP p e below T1 m 5 #[vr a0s] [(.int (own_n sn))] _
    refine XS.aloadN X1.here hx rfl (dG hby D12 3 rfl) rfl rfl ?_
    show SP p e below T1 m 6 #[vr a0s] [(.ref a0s), (.int (own_n sn))] _
    refine st3.trans ?_
    show SP p e below T3 m 9 #[vr a0s] [(.int 0), (.int (own_n sn))] _
    refine XS.ishr X3.here hx rfl (dG hby D12 5 rfl) rfl ?_
    rw [own_shr0 (own_n sn)]
    show SP p e below T3 m 10 #[vr a0s] [(.int (own_n sn))] _
    exact retI X3 hx Bd.returns (dG hby D12 6 rfl) hr
  · show Q_rmLen0 n0 Z cS vF a0s sv sk ss sn h0 _ T3.heap _
    rw [e3]
    exact ⟨rfl, N3, rfl⟩
def Q_rmLen1 (n0 : Nat) (Z : State) (cS : Int32) (vF : Value) (a0s : Addr) (sv : Addr) (sk : ClassId) (ss : List Value) (sn : Nat) (h0 : Heap) (v : Option Value) (h : Heap) (L : List Loc) : Prop := v = some (.int (own_n sn)) ∧ Fr n0 L ∧ h = h0
theorem rmLen1 (l : Launch) (Z : State) (a0 : Array Value) (hw : ∀ d ∈ tables_1, d.before a0 Z = true) (ws : List Jvm.Cond) (cS : Int32) (vF : Value) (a0s : Addr) (sv : Addr) (sk : ClassId) (ss : List Value) (sn : Nat) (h0 : Heap) (n0 : Nat) (O0 : Old Z n0 h0) (GL : GF Z cS vF) (E_a0s : Exa Z h0 a0s "java/lang/String") (F_value_a0s : Fld Z h0 a0s "java/lang/String" "value" "[B" (.ref sv)) (F_coder_a0s : Fld Z h0 a0s "java/lang/String" "coder" "B" (.int 1)) (V_sv : Arv Z h0 sv sk .byte (own_n (2 * sn)) ss (.int 0)) (h8 : sn ≤ 8) :
    MF l MN_1 jdk_42_method_54_code 1 (some .int) ws (Rm 1 0 0 13) #[(.ref a0s)] Z h0 (Q_rmLen1 n0 Z cS vF a0s sv sk ss sn h0) := by
  refine MetFree.of_bodySF (plainFor_of_name pn) hisR ?_
  intro p e s m args below meth c s₁ Bd hml0 hP hK
  obtain ⟨rfl, hZ, hh⟩ := hP
  have hx := Bd.exec
  have hby := Bd.bytes
  have hml : c.maxLocals = 1 := hml0
  have hown : s.vm.findClass "java/lang/String" = some m.cls := findClass_of_methodNamed Bd.named
  have hnm := (name_of_methodNamed Bd.named Bd.method).1
  have X0 : Stand p l e (Rm 1 0 0 13) s m #[(.ref a0s)] below meth c s₁ [] 0 0 := Stand.of_body Bd
  have e0 : s₁.heap = h0 := by rw [← hh, Bd.state]; rfl
  have N0 := Fr.nil n0
  have pre0 : ∀ t, SP p e below s₁ m 0 #[vr a0s] [] t → Steps p.tables e below (s₁.setTop (entryFrame m #[(.ref a0s)] 1)) t := fun t k => castTop (ef_rmCod0 m a0s) k
  have GL' := GL
  obtain ⟨GCS, GCP, GA16, GHI, GLO, GFF, GVF⟩ := GL'
  obtain ⟨T1, X1, e1, st1⟩ := getF X0 hx hZ hown (host := "") (Or.inl (Wd hw 28 rfl)) Via.refl e0 F_value_a0s (g := mkF m 1 #[vr a0s] [(.ref a0s)]) rfl rfl (dG hby D12 1 rfl)
  obtain ⟨cl2, Ar2, -, S2, N2_, -, -⟩ := id (V_sv)
  obtain ⟨cq3, kq3, q3a, q3b, q3c⟩ := isOf hZ e1 E_a0s
  obtain ⟨_, _, ⟨T3, L3, k3, n3⟩, -, X3, ⟨Lc3, hQ3, l3, y3, z3⟩, st3⟩ := X1.virtualBack hx (y := MN_0) (z := MN_0) hown (mvT hZ (Wd hw 81 rfl)) (mvT hZ (Wd hw 82 rfl)) (notFace_of_selects (args := #[]) (mvT hZ (Wd hw 84 rfl))) (mvT hZ (Wd hw 84 rfl)) (mvT hZ (Wd hw 83 rfl)) (by decide) (backOf (W := 1) (rmCod1 l Z a0 hw [] cS vF a0s h0 n0 O0 GL F_coder_a0s) hZ (Wd hw 85 rfl) (Wd hw 11 rfl) (by decide) (by decide)) q3a q3c (g := mkF m 6 #[vr a0s] [(.ref a0s), (.int (own_n (2 * sn)))]) rfl (by rw [hml]; rfl) (Steps.refl _) (argsL := []) (rest := [(.int (own_n (2 * sn)))]) (lenOf pd rfl) rfl (by show 2 * 0 + _ ≤ _; exact lEq rfl) (dG hby D12 4 rfl) (fun _ _ => ⟨rfl, e1, (by decide : 0 + 0 ≤ _), (by decide : 0 + 0 ≤ _)⟩)
  dsimp only [Pt.U, Pt.locs, Pt.cells, Pt.slots] at X3 l3 y3 z3 st3 hQ3
  subst l3 y3 z3
  obtain ⟨rfl, N3q, e3⟩ := hQ3
  have N3 := Fr.app N0 N3q
  obtain ⟨fs, hr, hrun, hended, hW, hsame⟩ := X3.leave (v := some (.int (own_n sn))) (fun h => by rw [Bd.returns] at h; cases h)
  refine ⟨_, _, pre0 _ ?_, hrun, hended, _, _, rfl, ?_, ⟨_, rfl⟩, hW, hsame.mono (by decide) (by decide)⟩
  · show SP p e below s₁ m 0 #[vr a0s] [] _
    refine XS.aloadN X0.here hx rfl (dG hby D12 0 rfl) rfl rfl ?_
    show SP p e below s₁ m 1 #[vr a0s] [(.ref a0s)] _
    refine st1 _ ?_
    show SP p e below T1 m 4 #[vr a0s] [(.ref sv)] _
    refine X1.arraylength hx (by rw [e1]; exact Ar2.1) (State.isArrayOf_alike hZ.alike Ar2.2.1) (g := mkF m 4 #[vr a0s] [(.ref sv)]) rfl rfl (dG hby D12 2 rfl) _ ?_
    rw [len_of S2 N2_]
    show SP p e below T1 m 5 #[vr a0s] [(.int (own_n (2 * sn)))] _
    refine XS.aloadN X1.here hx rfl (dG hby D12 3 rfl) rfl rfl ?_
    show SP p e below T1 m 6 #[vr a0s] [(.ref a0s), (.int (own_n (2 * sn)))] _
    refine st3.trans ?_
    show SP p e below T3 m 9 #[vr a0s] [(.int 1), (.int (own_n (2 * sn)))] _
    refine XS.ishr X3.here hx rfl (dG hby D12 5 rfl) rfl ?_
    rw [own_n_shr (Nat.lt_of_le_of_lt h8 (by decide))]
    show SP p e below T3 m 10 #[vr a0s] [(.int (own_n sn))] _
    exact retI X3 hx Bd.returns (dG hby D12 6 rfl) hr
  · show Q_rmLen1 n0 Z cS vF a0s sv sk ss sn h0 _ T3.heap _
    rw [e3]
    exact ⟨rfl, N3, rfl⟩
theorem D31 : dL jdk_42_method_154_code [(0, .getstatic 38, 3), (3, .ifCond .eq 14, 3), (6, .aload_n 0, 1), (7, .getfield 15, 3), (10, .ifCond .ne 7, 3), (13, .iconst 1, 1), (14, .goto 4, 3), (18, .ireturn, 1), (17, .iconst 0, 1)] = true := by decide +kernel
abbrev MN_2 : MethodName := ⟨"java/lang/String", "isLatin1", "()Z"⟩
def Q_rmIl0 (n0 : Nat) (Z : State) (cS : Int32) (vF : Value) (a0s : Addr) (h0 : Heap) (v : Option Value) (h : Heap) (L : List Loc) : Prop := v = some (.int 1) ∧ Fr n0 L ∧ h = h0
theorem rmIl0 (l : Launch) (Z : State) (a0 : Array Value) (hw : ∀ d ∈ tables_1, d.before a0 Z = true) (ws : List Jvm.Cond) (cS : Int32) (vF : Value) (a0s : Addr) (h0 : Heap) (n0 : Nat) (O0 : Old Z n0 h0) (GL : GF Z cS vF) (F_coder_a0s : Fld Z h0 a0s "java/lang/String" "coder" "B" (.int 0)) :
    MF l MN_2 jdk_42_method_154_code 1 (some .boolean) ws (Rm 0 0 0 0) #[(.ref a0s)] Z h0 (Q_rmIl0 n0 Z cS vF a0s h0) := by
  refine MetFree.of_bodySF (plainFor_of_name pn) hisR ?_
  intro p e s m args below meth c s₁ Bd hml0 hP hK
  obtain ⟨rfl, hZ, hh⟩ := hP
  have hx := Bd.exec
  have hby := Bd.bytes
  have hml : c.maxLocals = 1 := hml0
  have hown : s.vm.findClass "java/lang/String" = some m.cls := findClass_of_methodNamed Bd.named
  have hnm := (name_of_methodNamed Bd.named Bd.method).1
  have X0 : Stand p l e (Rm 0 0 0 0) s m #[(.ref a0s)] below meth c s₁ [] 0 0 := Stand.of_body Bd
  have e0 : s₁.heap = h0 := by rw [← hh, Bd.state]; rfl
  have N0 := Fr.nil n0
  have pre0 : ∀ t, SP p e below s₁ m 0 #[vr a0s] [] t → Steps p.tables e below (s₁.setTop (entryFrame m #[(.ref a0s)] 1)) t := fun t k => castTop (ef_rmCod0 m a0s) k
  have GL' := GL
  obtain ⟨GCS, GCP, GA16, GHI, GLO, GFF, GVF⟩ := GL'
  obtain ⟨T1, X1, e1, st1⟩ := getS2 X0 hx hZ hown (host := "") (Or.inl (Wd hw 86 rfl)) Via.refl e0 (GCS.ext O0.2) (g := mkF m 0 #[vr a0s] []) rfl (dG hby D31 0 rfl)
  obtain ⟨T2, X2, e2, st2⟩ := getF X1 hx hZ hown (host := "") (Or.inl (Wd hw 29 rfl)) Via.refl e1 F_coder_a0s (g := mkF m 7 #[vr a0s] [(.ref a0s)]) rfl rfl (dG hby D31 3 rfl)
  obtain ⟨fs, hr, hrun, hended, hW, hsame⟩ := X2.leave (v := some (.int 1)) (fun h => by rw [Bd.returns] at h; cases h)
  refine ⟨_, _, pre0 _ ?_, hrun, hended, _, _, rfl, ?_, ⟨_, rfl⟩, hW, hsame.mono (by decide) (by decide)⟩
  · show SP p e below s₁ m 0 #[vr a0s] [] _
    refine st1 _ ?_
    show SP p e below T1 m 3 #[vr a0s] [(.int cS)] _
    refine XS.ifNo X1.here hx rfl (dG hby D31 1 rfl) rfl ((if0 _ _).trans (feq GCP).1) ?_
    refine XS.aloadN X1.here hx rfl (dG hby D31 2 rfl) rfl rfl ?_
    show SP p e below T1 m 7 #[vr a0s] [(.ref a0s)] _
    refine st2 _ ?_
    show SP p e below T2 m 10 #[vr a0s] [(.int 0)] _
    refine XS.ifNo X2.here hx rfl (dG hby D31 4 rfl) rfl ((if0 _ _).trans (teq (by decide : (0 : Int32) = (0 : Int32))).2) ?_
    refine XS.iconst X2.here hx rfl (dG hby D31 5 rfl) ?_
    refine XS.goto X2.here hx rfl (pc0 := 14) (pc' := 18) rfl (dG hby D31 6 rfl) (by decide) (by decide) ?_
    show SP p e below T2 m 18 #[vr a0s] [(.int 1)] _
    exact retN X2 hx (t := .boolean) Bd.returns (by simp) (dG hby D31 7 rfl) hr
  · show Q_rmIl0 n0 Z cS vF a0s h0 _ T2.heap _
    rw [e2]
    exact ⟨rfl, N0, rfl⟩
def Q_rmIl1 (n0 : Nat) (Z : State) (cS : Int32) (vF : Value) (a0s : Addr) (h0 : Heap) (v : Option Value) (h : Heap) (L : List Loc) : Prop := v = some (.int 0) ∧ Fr n0 L ∧ h = h0
theorem rmIl1 (l : Launch) (Z : State) (a0 : Array Value) (hw : ∀ d ∈ tables_1, d.before a0 Z = true) (ws : List Jvm.Cond) (cS : Int32) (vF : Value) (a0s : Addr) (h0 : Heap) (n0 : Nat) (O0 : Old Z n0 h0) (GL : GF Z cS vF) (F_coder_a0s : Fld Z h0 a0s "java/lang/String" "coder" "B" (.int 1)) :
    MF l MN_2 jdk_42_method_154_code 1 (some .boolean) ws (Rm 0 0 0 0) #[(.ref a0s)] Z h0 (Q_rmIl1 n0 Z cS vF a0s h0) := by
  refine MetFree.of_bodySF (plainFor_of_name pn) hisR ?_
  intro p e s m args below meth c s₁ Bd hml0 hP hK
  obtain ⟨rfl, hZ, hh⟩ := hP
  have hx := Bd.exec
  have hby := Bd.bytes
  have hml : c.maxLocals = 1 := hml0
  have hown : s.vm.findClass "java/lang/String" = some m.cls := findClass_of_methodNamed Bd.named
  have hnm := (name_of_methodNamed Bd.named Bd.method).1
  have X0 : Stand p l e (Rm 0 0 0 0) s m #[(.ref a0s)] below meth c s₁ [] 0 0 := Stand.of_body Bd
  have e0 : s₁.heap = h0 := by rw [← hh, Bd.state]; rfl
  have N0 := Fr.nil n0
  have pre0 : ∀ t, SP p e below s₁ m 0 #[vr a0s] [] t → Steps p.tables e below (s₁.setTop (entryFrame m #[(.ref a0s)] 1)) t := fun t k => castTop (ef_rmCod0 m a0s) k
  have GL' := GL
  obtain ⟨GCS, GCP, GA16, GHI, GLO, GFF, GVF⟩ := GL'
  obtain ⟨T1, X1, e1, st1⟩ := getS2 X0 hx hZ hown (host := "") (Or.inl (Wd hw 86 rfl)) Via.refl e0 (GCS.ext O0.2) (g := mkF m 0 #[vr a0s] []) rfl (dG hby D31 0 rfl)
  obtain ⟨T2, X2, e2, st2⟩ := getF X1 hx hZ hown (host := "") (Or.inl (Wd hw 29 rfl)) Via.refl e1 F_coder_a0s (g := mkF m 7 #[vr a0s] [(.ref a0s)]) rfl rfl (dG hby D31 3 rfl)
  obtain ⟨fs, hr, hrun, hended, hW, hsame⟩ := X2.leave (v := some (.int 0)) (fun h => by rw [Bd.returns] at h; cases h)
  refine ⟨_, _, pre0 _ ?_, hrun, hended, _, _, rfl, ?_, ⟨_, rfl⟩, hW, hsame.mono (by decide) (by decide)⟩
  · show SP p e below s₁ m 0 #[vr a0s] [] _
    refine st1 _ ?_
    show SP p e below T1 m 3 #[vr a0s] [(.int cS)] _
    refine XS.ifNo X1.here hx rfl (dG hby D31 1 rfl) rfl ((if0 _ _).trans (feq GCP).1) ?_
    refine XS.aloadN X1.here hx rfl (dG hby D31 2 rfl) rfl rfl ?_
    show SP p e below T1 m 7 #[vr a0s] [(.ref a0s)] _
    refine st2 _ ?_
    show SP p e below T2 m 10 #[vr a0s] [(.int 1)] _
    refine XS.ifYes X2.here hx rfl (pc0 := 10) (pc' := 17) rfl (dG hby D31 4 rfl) rfl ((if0 _ _).trans (feq (by decide : ¬ ((1 : Int32) = (0 : Int32)))).2) (by decide) (by decide) ?_
    refine XS.iconst X2.here hx rfl (dG hby D31 8 rfl) ?_
    show SP p e below T2 m 18 #[vr a0s] [(.int 0)] _
    exact retN X2 hx (t := .boolean) Bd.returns (by simp) (dG hby D31 7 rfl) hr
  · show Q_rmIl1 n0 Z cS vF a0s h0 _ T2.heap _
    rw [e2]
    exact ⟨rfl, N0, rfl⟩
theorem D34 : dL jdk_41_method_11_code [(0, .iload_n 0, 1), (1, .ifCond .lt 8, 3), (4, .iload_n 0, 1), (5, .iload_n 1, 1), (6, .if_icmp .lt 10, 3), (16, .iload_n 0, 1), (17, .ireturn, 1)] = true := by decide +kernel
theorem pnv1 : plainName "jdk/internal/util/Preconditions" = true := by first | (simp [plainName, overriddenIn]; done) | decide +kernel
abbrev MN_3 : MethodName := ⟨"jdk/internal/util/Preconditions", "checkIndex", "(IILjava/util/function/BiFunction;)I"⟩
theorem ef_rmCk (m : MethodId) (p0 : Int32) (p1 : Int32) {vF : Value} (hv : vF.isRef = true) : entryFrame m #[(.int p0), (.int p1), vF] 3 = mkF m 0 #[vi p0, vi p1, .val vF] [] := by rcases ref_cases hv with rfl | ⟨z, rfl⟩ <;> first | (simp [entryFrame, mkF, argsToLocals, Value.category]; done) | rfl
def Q_rmCk (n0 : Nat) (Z : State) (cS : Int32) (vF : Value) (p0 : Int32) (p1 : Int32) (h0 : Heap) (v : Option Value) (h : Heap) (L : List Loc) : Prop := v = some (.int p0) ∧ Fr n0 L ∧ h = h0
theorem rmCk (l : Launch) (Z : State) (a0 : Array Value) (hw : ∀ d ∈ tables_1, d.before a0 Z = true) (ws : List Jvm.Cond) (cS : Int32) (vF : Value) (p0 : Int32) (p1 : Int32) (h0 : Heap) (n0 : Nat) (O0 : Old Z n0 h0) (GL : GF Z cS vF) (hp : ¬ (p0 < (0 : Int32))) (hq : p0 < p1) :
    MF l MN_3 jdk_41_method_11_code 3 (some .int) ws (Rm 0 0 0 0) #[(.int p0), (.int p1), vF] Z h0 (Q_rmCk n0 Z cS vF p0 p1 h0) := by
  refine MetFree.of_bodySF (plainFor_of_name pnv1) hisR ?_
  intro p e s m args below meth c s₁ Bd hml0 hP hK
  obtain ⟨rfl, hZ, hh⟩ := hP
  have hx := Bd.exec
  have hby := Bd.bytes
  have hml : c.maxLocals = 3 := hml0
  have hown : s.vm.findClass "jdk/internal/util/Preconditions" = some m.cls := findClass_of_methodNamed Bd.named
  have hnm := (name_of_methodNamed Bd.named Bd.method).1
  have X0 : Stand p l e (Rm 0 0 0 0) s m #[(.int p0), (.int p1), vF] below meth c s₁ [] 0 0 := Stand.of_body Bd
  have e0 : s₁.heap = h0 := by rw [← hh, Bd.state]; rfl
  have N0 := Fr.nil n0
  have GL' := GL
  obtain ⟨GCS, GCP, GA16, GHI, GLO, GFF, GVF⟩ := GL'
  have pre0 : ∀ t, SP p e below s₁ m 0 #[vi p0, vi p1, .val vF] [] t → Steps p.tables e below (s₁.setTop (entryFrame m #[(.int p0), (.int p1), vF] 3)) t := fun t k => castTop (ef_rmCk m p0 p1 GVF) k
  obtain ⟨fs, hr, hrun, hended, hW, hsame⟩ := X0.leave (v := some (.int p0)) (fun h => by rw [Bd.returns] at h; cases h)
  refine ⟨_, _, pre0 _ ?_, hrun, hended, _, _, rfl, ?_, ⟨_, rfl⟩, hW, hsame.mono (by decide) (by decide)⟩
  · show SP p e below s₁ m 0 #[vi p0, vi p1, .val vF] [] _
    refine XS.iloadN X0.here hx rfl (dG hby D34 0 rfl) rfl ?_
    refine XS.ifNo X0.here hx rfl (dG hby D34 1 rfl) rfl ((if0 _ _).trans (flt hp).1) ?_
    refine XS.iloadN X0.here hx rfl (dG hby D34 2 rfl) rfl ?_
    refine XS.iloadN X0.here hx rfl (dG hby D34 3 rfl) rfl ?_
    refine XS.icmpYes X0.here hx rfl (pc0 := 6) (pc' := 16) rfl (dG hby D34 4 rfl) rfl (tlt hq).1 (by decide) (by decide) ?_
    refine XS.iloadN X0.here hx rfl (dG hby D34 5 rfl) rfl ?_
    show SP p e below s₁ m 17 #[vi p0, vi p1, .val vF] [(.int p0)] _
    exact retI X0 hx Bd.returns (dG hby D34 6 rfl) hr
  · show Q_rmCk n0 Z cS vF p0 p1 h0 _ s₁.heap _
    rw [e0]
    exact ⟨rfl, N0, rfl⟩
theorem D33 : dL jdk_42_method_155_code [(0, .iload_n 0, 1), (1, .iload_n 1, 1), (2, .getstatic 1053, 3), (5, .invokestatic 1059, 3), (8, .pop, 1), (9, .return_, 1)] = true := by decide +kernel
theorem pdv1 : parseMethodDescriptor "(IILjava/util/function/BiFunction;)I" = some ⟨[.int, .int, (.object "java/util/function/BiFunction")], some .int⟩ := by decide +kernel
abbrev MN_4 : MethodName := ⟨"java/lang/String", "checkIndex", "(II)V"⟩
theorem ef_rmSck (m : MethodId) (p0 : Int32) (p1 : Int32) : entryFrame m #[(.int p0), (.int p1)] 2 = mkF m 0 #[vi p0, vi p1] [] := by first | (simp [entryFrame, mkF, argsToLocals, Value.category]; done) | rfl
def Q_rmSck (n0 : Nat) (Z : State) (cS : Int32) (vF : Value) (p0 : Int32) (p1 : Int32) (h0 : Heap) (v : Option Value) (h : Heap) (L : List Loc) : Prop := v = none ∧ Fr n0 L ∧ h = h0
theorem rmSck (l : Launch) (Z : State) (a0 : Array Value) (hw : ∀ d ∈ tables_1, d.before a0 Z = true) (ws : List Jvm.Cond) (cS : Int32) (vF : Value) (p0 : Int32) (p1 : Int32) (h0 : Heap) (n0 : Nat) (O0 : Old Z n0 h0) (GL : GF Z cS vF) (hp : ¬ (p0 < (0 : Int32))) (hq : p0 < p1) :
    MF l MN_4 jdk_42_method_155_code 2 none ws (Rm 1 0 0 14) #[(.int p0), (.int p1)] Z h0 (Q_rmSck n0 Z cS vF p0 p1 h0) := by
  refine MetFree.of_bodySF (plainFor_of_name pn) hisR ?_
  intro p e s m args below meth c s₁ Bd hml0 hP hK
  obtain ⟨rfl, hZ, hh⟩ := hP
  have hx := Bd.exec
  have hby := Bd.bytes
  have hml : c.maxLocals = 2 := hml0
  have hown : s.vm.findClass "java/lang/String" = some m.cls := findClass_of_methodNamed Bd.named
  have hnm := (name_of_methodNamed Bd.named Bd.method).1
  have X0 : Stand p l e (Rm 1 0 0 14) s m #[(.int p0), (.int p1)] below meth c s₁ [] 0 0 := Stand.of_body Bd
  have e0 : s₁.heap = h0 := by rw [← hh, Bd.state]; rfl
  have N0 := Fr.nil n0
  have pre0 : ∀ t, SP p e below s₁ m 0 #[vi p0, vi p1] [] t → Steps p.tables e below (s₁.setTop (entryFrame m #[(.int p0), (.int p1)] 2)) t := fun t k => castTop (ef_rmSck m p0 p1) k
  have GL' := GL
  obtain ⟨GCS, GCP, GA16, GHI, GLO, GFF, GVF⟩ := GL'
  obtain ⟨T1, X1, e1, st1⟩ := getS2 X0 hx hZ hown (host := "") (Or.inl (Wd hw 181 rfl)) Via.refl e0 (GFF.ext O0.2) (g := mkF m 2 #[vi p0, vi p1] [(.int p1), (.int p0)]) rfl (dG hby D33 2 rfl)
  obtain ⟨_, _, ⟨T2, L2, k2, n2⟩, -, X2, ⟨Lc2, hQ2, l2, y2, z2⟩, st2⟩ := Jvm.LawKit.callS X1 hx (y := MN_3) hown (mvT hZ (Wd hw 183 rfl)) (mvT hZ (Wd hw 184 rfl)) (mvT hZ (Wd hw 182 rfl)) (mvT hZ (Wd hw 185 rfl)) (by decide) (backOf (W := 0) (rmCk l Z a0 hw [] cS vF p0 p1 h0 n0 O0 GL hp hq) hZ (Wd hw 185 rfl) (Wd hw 182 rfl) (by decide) (by decide)) (g := mkF m 5 #[vi p0, vi p1] [vF, (.int p1), (.int p0)]) rfl (by rw [hml]; rfl) (argsL := [(.int p0), (.int p1), vF]) (rest := []) (lenOf pdv1 rfl) rfl (by show 2 * 0 + _ ≤ _; exact lEq rfl) (dG hby D33 3 rfl) (fun _ _ => ⟨rfl, e1, (by decide : 0 + 0 ≤ _), (by decide : 0 + 0 ≤ _)⟩)
  dsimp only [Pt.U, Pt.locs, Pt.cells, Pt.slots] at X2 l2 y2 z2 st2 hQ2
  subst l2 y2 z2
  obtain ⟨rfl, N2q, e2⟩ := hQ2
  have N2 := Fr.app N0 N2q
  obtain ⟨fs, hr, hrun, hended, hW, hsame⟩ := X2.leave (v := none) (fun _ => rfl)
  refine ⟨_, _, pre0 _ ?_, hrun, hended, _, _, rfl, ?_, ⟨_, rfl⟩, hW, hsame.mono (by decide) (by decide)⟩
  · show SP p e below s₁ m 0 #[vi p0, vi p1] [] _
    refine XS.iloadN X0.here hx rfl (dG hby D33 0 rfl) rfl ?_
    refine XS.iloadN X0.here hx rfl (dG hby D33 1 rfl) rfl ?_
    show SP p e below s₁ m 2 #[vi p0, vi p1] [(.int p1), (.int p0)] _
    refine st1 _ ?_
    show SP p e below T1 m 5 #[vi p0, vi p1] [vF, (.int p1), (.int p0)] _
    refine st2 _ ?_
    show SP p e below T2 m 8 #[vi p0, vi p1] [(.int p0)] _
    refine XS.pop X2.here hx rfl (dG hby D33 4 rfl) rfl rfl ?_
    show SP p e below T2 m 9 #[vi p0, vi p1] [] _
    exact X2.returnOut hx Bd.returns (dG hby D33 5 rfl) hr
  · show Q_rmSck n0 Z cS vF p0 p1 h0 _ T2.heap _
    rw [e2]
    exact ⟨rfl, N2, rfl⟩
theorem D47 : dL jdk_52_method_6_code [(0, .aload_n 0, 1), (1, .arraylength, 1), (2, .iconst 1, 1), (3, .ishr, 1), (4, .ireturn, 1)] = true := by decide +kernel
theorem pnv2 : plainName "java/lang/StringUTF16" = true := by first | (simp [plainName, overriddenIn]; done) | decide +kernel
abbrev MN_5 : MethodName := ⟨"java/lang/StringUTF16", "length", "([B)I"⟩
theorem ef_rmUl0 (m : MethodId) (a0b : Addr) : entryFrame m #[(.ref a0b)] 1 = mkF m 0 #[vr a0b] [] := by first | (simp [entryFrame, mkF, argsToLocals, Value.category]; done) | rfl
def Q_rmUl0 (n0 : Nat) (Z : State) (cS : Int32) (vF : Value) (a0b : Addr) (k0 : ClassId) (ds : List Value) (h0 : Heap) (v : Option Value) (h : Heap) (L : List Loc) : Prop := v = some (.int 16) ∧ Fr n0 L ∧ h = h0
theorem rmUl0 (l : Launch) (Z : State) (a0 : Array Value) (hw : ∀ d ∈ tables_1, d.before a0 Z = true) (ws : List Jvm.Cond) (cS : Int32) (vF : Value) (a0b : Addr) (k0 : ClassId) (ds : List Value) (h0 : Heap) (n0 : Nat) (O0 : Old Z n0 h0) (GL : GF Z cS vF) (V_a0b : Arv Z h0 a0b k0 .byte (32 : Int32) ds (.int 0)) :
    MF l MN_5 jdk_52_method_6_code 1 (some .int) ws (Rm 0 0 0 0) #[(.ref a0b)] Z h0 (Q_rmUl0 n0 Z cS vF a0b k0 ds h0) := by
  refine MetFree.of_bodySF (plainFor_of_name pnv2) hisR ?_
  intro p e s m args below meth c s₁ Bd hml0 hP hK
  obtain ⟨rfl, hZ, hh⟩ := hP
  have hx := Bd.exec
  have hby := Bd.bytes
  have hml : c.maxLocals = 1 := hml0
  have hown : s.vm.findClass "java/lang/StringUTF16" = some m.cls := findClass_of_methodNamed Bd.named
  have hnm := (name_of_methodNamed Bd.named Bd.method).1
  have X0 : Stand p l e (Rm 0 0 0 0) s m #[(.ref a0b)] below meth c s₁ [] 0 0 := Stand.of_body Bd
  have e0 : s₁.heap = h0 := by rw [← hh, Bd.state]; rfl
  have N0 := Fr.nil n0
  have pre0 : ∀ t, SP p e below s₁ m 0 #[vr a0b] [] t → Steps p.tables e below (s₁.setTop (entryFrame m #[(.ref a0b)] 1)) t := fun t k => castTop (ef_rmUl0 m a0b) k
  have GL' := GL
  obtain ⟨GCS, GCP, GA16, GHI, GLO, GFF, GVF⟩ := GL'
  obtain ⟨cl1, Ar1, -, S1, N1_, -, -⟩ := id (V_a0b)
  obtain ⟨fs, hr, hrun, hended, hW, hsame⟩ := X0.leave (v := some (.int 16)) (fun h => by rw [Bd.returns] at h; cases h)
  refine ⟨_, _, pre0 _ ?_, hrun, hended, _, _, rfl, ?_, ⟨_, rfl⟩, hW, hsame.mono (by decide) (by decide)⟩
  · show SP p e below s₁ m 0 #[vr a0b] [] _
    refine XS.aloadN X0.here hx rfl (dG hby D47 0 rfl) rfl rfl ?_
    show SP p e below s₁ m 1 #[vr a0b] [(.ref a0b)] _
    refine X0.arraylength hx (by rw [e0]; exact Ar1.1) (State.isArrayOf_alike hZ.alike Ar1.2.1) (g := mkF m 1 #[vr a0b] [(.ref a0b)]) rfl rfl (dG hby D47 1 rfl) _ ?_
    rw [len_of S1 N1_]
    show SP p e below s₁ m 2 #[vr a0b] [(.int 32)] _
    refine XS.iconst X0.here hx rfl (dG hby D47 2 rfl) ?_
    refine XS.ishr X0.here hx rfl (dG hby D47 3 rfl) rfl ?_
    show SP p e below s₁ m 4 #[vr a0b] [(.int 16)] _
    exact retI X0 hx Bd.returns (dG hby D47 4 rfl) hr
  · show Q_rmUl0 n0 Z cS vF a0b k0 ds h0 _ s₁.heap _
    rw [e0]
    exact ⟨rfl, N0, rfl⟩
def Q_rmUl1 (n0 : Nat) (Z : State) (cS : Int32) (vF : Value) (a0b : Addr) (k0 : ClassId) (ds : List Value) (un : Nat) (h0 : Heap) (v : Option Value) (h : Heap) (L : List Loc) : Prop := v = some (.int (own_n un)) ∧ Fr n0 L ∧ h = h0
theorem rmUl1 (l : Launch) (Z : State) (a0 : Array Value) (hw : ∀ d ∈ tables_1, d.before a0 Z = true) (ws : List Jvm.Cond) (cS : Int32) (vF : Value) (a0b : Addr) (k0 : ClassId) (ds : List Value) (un : Nat) (h0 : Heap) (n0 : Nat) (O0 : Old Z n0 h0) (GL : GF Z cS vF) (V_a0b : Arv Z h0 a0b k0 .byte (own_n (2 * un)) ds (.int 0)) (h8 : un ≤ 8) :
    MF l MN_5 jdk_52_method_6_code 1 (some .int) ws (Rm 0 0 0 0) #[(.ref a0b)] Z h0 (Q_rmUl1 n0 Z cS vF a0b k0 ds un h0) := by
  refine MetFree.of_bodySF (plainFor_of_name pnv2) hisR ?_
  intro p e s m args below meth c s₁ Bd hml0 hP hK
  obtain ⟨rfl, hZ, hh⟩ := hP
  have hx := Bd.exec
  have hby := Bd.bytes
  have hml : c.maxLocals = 1 := hml0
  have hown : s.vm.findClass "java/lang/StringUTF16" = some m.cls := findClass_of_methodNamed Bd.named
  have hnm := (name_of_methodNamed Bd.named Bd.method).1
  have X0 : Stand p l e (Rm 0 0 0 0) s m #[(.ref a0b)] below meth c s₁ [] 0 0 := Stand.of_body Bd
  have e0 : s₁.heap = h0 := by rw [← hh, Bd.state]; rfl
  have N0 := Fr.nil n0
  have pre0 : ∀ t, SP p e below s₁ m 0 #[vr a0b] [] t → Steps p.tables e below (s₁.setTop (entryFrame m #[(.ref a0b)] 1)) t := fun t k => castTop (ef_rmUl0 m a0b) k
  have GL' := GL
  obtain ⟨GCS, GCP, GA16, GHI, GLO, GFF, GVF⟩ := GL'
  obtain ⟨cl1, Ar1, -, S1, N1_, -, -⟩ := id (V_a0b)
  obtain ⟨fs, hr, hrun, hended, hW, hsame⟩ := X0.leave (v := some (.int (own_n un))) (fun h => by rw [Bd.returns] at h; cases h)
  refine ⟨_, _, pre0 _ ?_, hrun, hended, _, _, rfl, ?_, ⟨_, rfl⟩, hW, hsame.mono (by decide) (by decide)⟩
  · show SP p e below s₁ m 0 #[vr a0b] [] _
    refine XS.aloadN X0.here hx rfl (dG hby D47 0 rfl) rfl rfl ?_
    show SP p e below s₁ m 1 #[vr a0b] [(.ref a0b)] _
    refine X0.arraylength hx (by rw [e0]; exact Ar1.1) (State.isArrayOf_alike hZ.alike Ar1.2.1) (g := mkF m 1 #[vr a0b] [(.ref a0b)]) rfl rfl (dG hby D47 1 rfl) _ ?_
    rw [len_of S1 N1_]
    show SP p e below s₁ m 2 #[vr a0b] [(.int (own_n (2 * un)))] _
    refine XS.iconst X0.here hx rfl (dG hby D47 2 rfl) ?_
    show SP p e below s₁ m 3 #[vr a0b] [(.int 1), (.int (own_n (2 * un)))] _
    refine XS.ishr X0.here hx rfl (dG hby D47 3 rfl) rfl ?_
    rw [own_n_shr (Nat.lt_of_le_of_lt h8 (by decide))]
    show SP p e below s₁ m 4 #[vr a0b] [(.int (own_n un))] _
    exact retI X0 hx Bd.returns (dG hby D47 4 rfl) hr
  · show Q_rmUl1 n0 Z cS vF a0b k0 ds un h0 _ s₁.heap _
    rw [e0]
    exact ⟨rfl, N0, rfl⟩
theorem D51 : dL jdk_52_method_91_code [(0, .iload_n 0, 1), (1, .aload_n 1, 1), (2, .invokestatic 48, 3), (5, .invokestatic 414, 3), (8, .return_, 1)] = true := by decide +kernel
theorem pdv2 : parseMethodDescriptor "([B)I" = some ⟨[(.array .byte)], some .int⟩ := by decide +kernel
theorem pdv3 : parseMethodDescriptor "(II)V" = some ⟨[.int, .int], none⟩ := by decide +kernel
abbrev MN_6 : MethodName := ⟨"java/lang/StringUTF16", "checkIndex", "(I[B)V"⟩
theorem ef_rmUck (m : MethodId) (p0 : Int32) (a1b : Addr) : entryFrame m #[(.int p0), (.ref a1b)] 2 = mkF m 0 #[vi p0, vr a1b] [] := by first | (simp [entryFrame, mkF, argsToLocals, Value.category]; done) | rfl
def Q_rmUck (n0 : Nat) (Z : State) (cS : Int32) (vF : Value) (p0 : Int32) (a1b : Addr) (k0 : ClassId) (ds : List Value) (un : Nat) (h0 : Heap) (v : Option Value) (h : Heap) (L : List Loc) : Prop := v = none ∧ Fr n0 L ∧ h = h0
theorem rmUck (l : Launch) (Z : State) (a0 : Array Value) (hw : ∀ d ∈ tables_1, d.before a0 Z = true) (ws : List Jvm.Cond) (cS : Int32) (vF : Value) (p0 : Int32) (a1b : Addr) (k0 : ClassId) (ds : List Value) (un : Nat) (h0 : Heap) (n0 : Nat) (O0 : Old Z n0 h0) (GL : GF Z cS vF) (V_a1b : Arv Z h0 a1b k0 .byte (own_n (2 * un)) ds (.int 0)) (h8 : un ≤ 8) (hp : ¬ (p0 < (0 : Int32))) (hq : p0 < (own_n un)) :
    MF l MN_6 jdk_52_method_91_code 2 none ws (Rm 2 0 0 27) #[(.int p0), (.ref a1b)] Z h0 (Q_rmUck n0 Z cS vF p0 a1b k0 ds un h0) := by
  refine MetFree.of_bodySF (plainFor_of_name pnv2) hisR ?_
  intro p e s m args below meth c s₁ Bd hml0 hP hK
  obtain ⟨rfl, hZ, hh⟩ := hP
  have hx := Bd.exec
  have hby := Bd.bytes
  have hml : c.maxLocals = 2 := hml0
  have hown : s.vm.findClass "java/lang/StringUTF16" = some m.cls := findClass_of_methodNamed Bd.named
  have hnm := (name_of_methodNamed Bd.named Bd.method).1
  have X0 : Stand p l e (Rm 2 0 0 27) s m #[(.int p0), (.ref a1b)] below meth c s₁ [] 0 0 := Stand.of_body Bd
  have e0 : s₁.heap = h0 := by rw [← hh, Bd.state]; rfl
  have N0 := Fr.nil n0
  have pre0 : ∀ t, SP p e below s₁ m 0 #[vi p0, vr a1b] [] t → Steps p.tables e below (s₁.setTop (entryFrame m #[(.int p0), (.ref a1b)] 2)) t := fun t k => castTop (ef_rmUck m p0 a1b) k
  have GL' := GL
  obtain ⟨GCS, GCP, GA16, GHI, GLO, GFF, GVF⟩ := GL'
  obtain ⟨_, _, ⟨T1, L1, k1, n1⟩, -, X1, ⟨Lc1, hQ1, l1, y1, z1⟩, st1⟩ := Jvm.LawKit.callS X0 hx (y := MN_5) hown (mvT hZ (Wd hw 231 rfl)) (mvT hZ (Wd hw 232 rfl)) (mvT hZ (Wd hw 188 rfl)) (mvT hZ (Wd hw 233 rfl)) (by decide) (backOf (W := 1) (rmUl1 l Z a0 hw [] cS vF a1b k0 ds un h0 n0 O0 GL V_a1b h8) hZ (Wd hw 233 rfl) (Wd hw 188 rfl) (by decide) (by decide)) (g := mkF m 2 #[vi p0, vr a1b] [(.ref a1b), (.int p0)]) rfl (by rw [hml]; rfl) (argsL := [(.ref a1b)]) (rest := [(.int p0)]) (lenOf pdv2 rfl) rfl (by show 2 * 0 + _ ≤ _; exact lEq rfl) (dG hby D51 2 rfl) (fun _ _ => ⟨rfl, e0, (by decide : 0 + 0 ≤ _), (by decide : 0 + 0 ≤ _)⟩)
  dsimp only [Pt.U, Pt.locs, Pt.cells, Pt.slots] at X1 l1 y1 z1 st1 hQ1
  subst l1 y1 z1
  obtain ⟨rfl, N1q, e1⟩ := hQ1
  have N1 := Fr.app N0 N1q
  obtain ⟨_, _, ⟨T2, L2, k2, n2⟩, -, X2, ⟨Lc2, hQ2, l2, y2, z2⟩, st2⟩ := Jvm.LawKit.callS X1 hx (y := MN_4) hown (mvT hZ (Wd hw 249 rfl)) (mvT hZ (Wd hw 179 rfl)) (mvT hZ (Wd hw 11 rfl)) (mvT hZ (Wd hw 180 rfl)) (by decide) (backOf (W := 0) (rmSck l Z a0 hw [] cS vF p0 ((own_n un)) h0 n0 O0 GL hp hq) hZ (Wd hw 180 rfl) (Wd hw 11 rfl) (by decide) (by decide)) (g := mkF m 5 #[vi p0, vr a1b] [(.int (own_n un)), (.int p0)]) rfl (by rw [hml]; rfl) (argsL := [(.int p0), (.int (own_n un))]) (rest := []) (lenOf pdv3 rfl) rfl (by show 2 * 0 + _ ≤ _; exact lEq rfl) (dG hby D51 3 rfl) (fun _ _ => ⟨rfl, e1, (by decide : 0 + 0 ≤ _), (by decide : 0 + 0 ≤ _)⟩)
  dsimp only [Pt.U, Pt.locs, Pt.cells, Pt.slots] at X2 l2 y2 z2 st2 hQ2
  subst l2 y2 z2
  obtain ⟨rfl, N2q, e2⟩ := hQ2
  have N2 := Fr.app N1 N2q
  obtain ⟨fs, hr, hrun, hended, hW, hsame⟩ := X2.leave (v := none) (fun _ => rfl)
  refine ⟨_, _, pre0 _ ?_, hrun, hended, _, _, rfl, ?_, ⟨_, rfl⟩, hW, hsame.mono (by decide) (by decide)⟩
  · show SP p e below s₁ m 0 #[vi p0, vr a1b] [] _
    refine XS.iloadN X0.here hx rfl (dG hby D51 0 rfl) rfl ?_
    refine XS.aloadN X0.here hx rfl (dG hby D51 1 rfl) rfl rfl ?_
    show SP p e below s₁ m 2 #[vi p0, vr a1b] [(.ref a1b), (.int p0)] _
    refine st1 _ ?_
    show SP p e below T1 m 5 #[vi p0, vr a1b] [(.int (own_n un)), (.int p0)] _
    refine st2 _ ?_
    show SP p e below T2 m 8 #[vi p0, vr a1b] [] _
    exact X2.returnOut hx Bd.returns (dG hby D51 4 rfl) hr
  · show Q_rmUck n0 Z cS vF p0 a1b k0 ds un h0 _ T2.heap _
    rw [e2]
    exact ⟨rfl, N2, rfl⟩
theorem D32 : dL jdk_43_method_2_code [(0, .iload_n 1, 1), (1, .aload_n 0, 1), (2, .arraylength, 1), (3, .invokestatic 9, 3), (6, .aload_n 0, 1), (7, .iload_n 1, 1), (8, .baload, 1), (9, .sipush 255, 3), (12, .iand, 1), (13, .i2c, 1), (14, .ireturn, 1)] = true := by decide +kernel
theorem pnv3 : plainName "java/lang/StringLatin1" = true := by first | (simp [plainName, overriddenIn]; done) | decide +kernel
abbrev MN_7 : MethodName := ⟨"java/lang/StringLatin1", "charAt", "([BI)C"⟩
theorem ef_rmChL (m : MethodId) (a0b : Addr) {ix : Nat} : entryFrame m #[(.ref a0b), (.int (own_n ix))] 2 = mkF m 0 #[vr a0b, vi (own_n ix)] [] := by first | (simp [entryFrame, mkF, argsToLocals, Value.category]; done) | rfl
def Q_rmChL (n0 : Nat) (Z : State) (cS : Int32) (vF : Value) (a0b : Addr) (k0 : ClassId) (rs : List Value) (rn : Nat) (rf : Nat → Int32) (ix : Nat) (h0 : Heap) (v : Option Value) (h : Heap) (L : List Loc) : Prop := v = some (.int (rf ix)) ∧ Fr n0 L ∧ h = h0
theorem rmChL (l : Launch) (Z : State) (a0 : Array Value) (hw : ∀ d ∈ tables_1, d.before a0 Z = true) (ws : List Jvm.Cond) (cS : Int32) (vF : Value) (a0b : Addr) (k0 : ClassId) (rs : List Value) (rn : Nat) (rf : Nat → Int32) (ix : Nat) (h0 : Heap) (n0 : Nat) (O0 : Old Z n0 h0) (GL : GF Z cS vF) (V_a0b : Arv Z h0 a0b k0 .byte (own_n rn) rs (.int 0)) (hrx : own_L rs rn rf) (hix : ix < rn) (h8 : rn ≤ 8) :
    MF l MN_7 jdk_43_method_2_code 2 (some .char) ws (Rm 2 0 0 27) #[(.ref a0b), (.int (own_n ix))] Z h0 (Q_rmChL n0 Z cS vF a0b k0 rs rn rf ix h0) := by
  refine MetFree.of_bodySF (plainFor_of_name pnv3) hisR ?_
  intro p e s m args below meth c s₁ Bd hml0 hP hK
  obtain ⟨rfl, hZ, hh⟩ := hP
  have hx := Bd.exec
  have hby := Bd.bytes
  have hml : c.maxLocals = 2 := hml0
  have hown : s.vm.findClass "java/lang/StringLatin1" = some m.cls := findClass_of_methodNamed Bd.named
  have hnm := (name_of_methodNamed Bd.named Bd.method).1
  have X0 : Stand p l e (Rm 2 0 0 27) s m #[(.ref a0b), (.int (own_n ix))] below meth c s₁ [] 0 0 := Stand.of_body Bd
  have e0 : s₁.heap = h0 := by rw [← hh, Bd.state]; rfl
  have N0 := Fr.nil n0
  have pre0 : ∀ t, SP p e below s₁ m 0 #[vr a0b, vi (own_n ix)] [] t → Steps p.tables e below (s₁.setTop (entryFrame m #[(.ref a0b), (.int (own_n ix))] 2)) t := fun t k => castTop (ef_rmChL m a0b) k
  have GL' := GL
  obtain ⟨GCS, GCP, GA16, GHI, GLO, GFF, GVF⟩ := GL'
  have hc1 : nar .char (rf ix) = (rf ix) := (hrx ix hix).1
  have hc2 : ¬ ((255 : Int32) < (rf ix)) := (hrx ix hix).2.1
  obtain ⟨cl1, Ar1, -, S1, N1_, -, -⟩ := id (V_a0b)
  obtain ⟨_, _, ⟨T2, L2, k2, n2⟩, -, X2, ⟨Lc2, hQ2, l2, y2, z2⟩, st2⟩ := Jvm.LawKit.callS X0 hx (y := MN_4) hown (mvT hZ (Wd hw 178 rfl)) (mvT hZ (Wd hw 179 rfl)) (mvT hZ (Wd hw 11 rfl)) (mvT hZ (Wd hw 180 rfl)) (by decide) (backOf (W := 0) (rmSck l Z a0 hw [] cS vF ((own_n ix)) ((own_n rn)) h0 n0 O0 GL (own_n_nn (by omega)) ((own_n_lt (by omega) (by omega)).mpr (by omega))) hZ (Wd hw 180 rfl) (Wd hw 11 rfl) (by decide) (by decide)) (g := mkF m 3 #[vr a0b, vi (own_n ix)] [(.int (own_n rn)), (.int (own_n ix))]) rfl (by rw [hml]; rfl) (argsL := [(.int (own_n ix)), (.int (own_n rn))]) (rest := []) (lenOf pdv3 rfl) rfl (by show 2 * 0 + _ ≤ _; exact lEq rfl) (dG hby D32 3 rfl) (fun _ _ => ⟨rfl, e0, (by decide : 0 + 0 ≤ _), (by decide : 0 + 0 ≤ _)⟩)
  dsimp only [Pt.U, Pt.locs, Pt.cells, Pt.slots] at X2 l2 y2 z2 st2 hQ2
  subst l2 y2 z2
  obtain ⟨rfl, N2q, e2⟩ := hQ2
  have N2 := Fr.app N0 N2q
  obtain ⟨cl3, Ar3, -, S3, N3_, H3, G3⟩ := id (V_a0b)
  have hin3 : ¬ ((own_n ix) < 0 ∨ cl3.slots.size ≤ ((own_n ix)).toNatClampNeg) := inb_of S3 ⟨(own_n_nn (by omega)), ((own_n_lt (by omega) (by omega)).mpr (by omega))⟩
  have hat3 : cl3.slots[((own_n ix)).toNatClampNeg]? = some (.int ((rf ix).toInt8.toInt32)) := H3.at hin3 (by rw [own_n_nat (by omega)]; exact (hrx ix hix).2.2)
  obtain ⟨fs, hr, hrun, hended, hW, hsame⟩ := X2.leave (v := some (.int (nar .char (rf ix)))) (fun h => by rw [Bd.returns] at h; cases h)
  refine ⟨_, _, pre0 _ ?_, hrun, hended, _, _, rfl, ?_, ⟨_, rfl⟩, hW, hsame.mono (by decide) (by decide)⟩
  · show SP p e below s₁ m 0 #[vr a0b, vi (own_n ix)] [] _
    refine XS.iloadN X0.here hx rfl (dG hby D32 0 rfl) rfl ?_
    refine XS.aloadN X0.here hx rfl (dG hby D32 1 rfl) rfl rfl ?_
    show SP p e below s₁ m 2 #[vr a0b, vi (own_n ix)] [(.ref a0b), (.int (own_n ix))] _
    refine X0.arraylength hx (by rw [e0]; exact Ar1.1) (State.isArrayOf_alike hZ.alike Ar1.2.1) (g := mkF m 2 #[vr a0b, vi (own_n ix)] [(.ref a0b), (.int (own_n ix))]) rfl rfl (dG hby D32 2 rfl) _ ?_
    rw [len_of S1 N1_]
    show SP p e below s₁ m 3 #[vr a0b, vi (own_n ix)] [(.int (own_n rn)), (.int (own_n ix))] _
    refine st2 _ ?_
    show SP p e below T2 m 6 #[vr a0b, vi (own_n ix)] [] _
    refine XS.aloadN X2.here hx rfl (dG hby D32 4 rfl) rfl rfl ?_
    refine XS.iloadN X2.here hx rfl (dG hby D32 5 rfl) rfl ?_
    show SP p e below T2 m 8 #[vr a0b, vi (own_n ix)] [(.int (own_n ix)), (.ref a0b)] _
    refine X2.baloadBytes hx (j := (own_n ix)) (v := (.int ((rf ix).toInt8.toInt32))) (by rw [e2]; exact Ar3.1) (State.isArrayOf_alike hZ.alike Ar3.2.1) Ar3.2.2 hin3 hat3 (g := mkF m 8 #[vr a0b, vi (own_n ix)] [(.int (own_n ix)), (.ref a0b)]) rfl rfl (dG hby D32 6 rfl) _ ?_
    show SP p e below T2 m 9 #[vr a0b, vi (own_n ix)] [(.int ((rf ix).toInt8.toInt32))] _
    refine XS.sipush X2.here hx rfl (dG hby D32 7 rfl) ?_
    show SP p e below T2 m 12 #[vr a0b, vi (own_n ix)] [(.int 255), (.int ((rf ix).toInt8.toInt32))] _
    refine XS.iand X2.here hx rfl (dG hby D32 8 rfl) rfl ?_
    rw [own_mask hc1 hc2]
    show SP p e below T2 m 13 #[vr a0b, vi (own_n ix)] [(.int (rf ix))] _
    refine XS.i2c X2.here hx rfl (dG hby D32 9 rfl) rfl ?_
    rw [(show (rf ix).toUInt32.toUInt16.toUInt32.toInt32 = (rf ix) from hc1)]
    show SP p e below T2 m 14 #[vr a0b, vi (own_n ix)] [(.int (rf ix))] _
    exact retN X2 hx (t := .char) Bd.returns (by simp) (dG hby D32 10 rfl) hr
  · show Q_rmChL n0 Z cS vF a0b k0 rs rn rf ix h0 _ T2.heap _
    rw [e2]
    exact ⟨(congrArg (fun z => some (Value.int z)) (hrx ix hix).1), N2, rfl⟩
theorem D42 : dL jdk_52_method_5_code [(0, .getstatic 44, 3), (3, .ifCond .ne 25, 3), (28, .iload_n 1, 1), (29, .iconst 1, 1), (30, .ishl, 1), (31, .istore_n 1, 1), (32, .aload_n 0, 1), (33, .iload_n 1, 1), (34, .iinc 1 1, 3), (37, .baload, 1), (38, .sipush 255, 3), (41, .iand, 1), (42, .getstatic 59, 3), (45, .ishl, 1), (46, .aload_n 0, 1), (47, .iload_n 1, 1), (48, .baload, 1), (49, .sipush 255, 3), (52, .iand, 1), (53, .getstatic 63, 3), (56, .ishl, 1), (57, .ior, 1), (58, .i2c, 1), (59, .ireturn, 1)] = true := by decide +kernel
abbrev MN_8 : MethodName := ⟨"java/lang/StringUTF16", "getChar", "([BI)C"⟩
def Q_rmGcU (n0 : Nat) (Z : State) (cS : Int32) (vF : Value) (a0b : Addr) (k0 : ClassId) (rs : List Value) (rn : Nat) (rf : Nat → Int32) (ix : Nat) (h0 : Heap) (v : Option Value) (h : Heap) (L : List Loc) : Prop := v = some (.int (rf ix)) ∧ Fr n0 L ∧ h = h0
theorem rmGcU (l : Launch) (Z : State) (a0 : Array Value) (hw : ∀ d ∈ tables_1, d.before a0 Z = true) (ws : List Jvm.Cond) (cS : Int32) (vF : Value) (a0b : Addr) (k0 : ClassId) (rs : List Value) (rn : Nat) (rf : Nat → Int32) (ix : Nat) (h0 : Heap) (n0 : Nat) (O0 : Old Z n0 h0) (GL : GF Z cS vF) (V_a0b : Arv Z h0 a0b k0 .byte (own_n (2 * rn)) rs (.int 0)) (hrx : own_U rs rn rf) (hix : ix < rn) (h8 : rn ≤ 8) :
    MF l MN_8 jdk_52_method_5_code 2 (some .char) ws (Rm 0 0 0 0) #[(.ref a0b), (.int (own_n ix))] Z h0 (Q_rmGcU n0 Z cS vF a0b k0 rs rn rf ix h0) := by
  refine MetFree.of_bodySF (plainFor_of_name pnv2) hisR ?_
  intro p e s m args below meth c s₁ Bd hml0 hP hK
  obtain ⟨rfl, hZ, hh⟩ := hP
  have hx := Bd.exec
  have hby := Bd.bytes
  have hml : c.maxLocals = 2 := hml0
  have hown : s.vm.findClass "java/lang/StringUTF16" = some m.cls := findClass_of_methodNamed Bd.named
  have hnm := (name_of_methodNamed Bd.named Bd.method).1
  have X0 : Stand p l e (Rm 0 0 0 0) s m #[(.ref a0b), (.int (own_n ix))] below meth c s₁ [] 0 0 := Stand.of_body Bd
  have e0 : s₁.heap = h0 := by rw [← hh, Bd.state]; rfl
  have N0 := Fr.nil n0
  have pre0 : ∀ t, SP p e below s₁ m 0 #[vr a0b, vi (own_n ix)] [] t → Steps p.tables e below (s₁.setTop (entryFrame m #[(.ref a0b), (.int (own_n ix))] 2)) t := fun t k => castTop (ef_rmChL m a0b) k
  have GL' := GL
  obtain ⟨GCS, GCP, GA16, GHI, GLO, GFF, GVF⟩ := GL'
  obtain ⟨T1, X1, e1, st1⟩ := getS2 X0 hx hZ hown (host := "") (Or.inl (Wd hw 209 rfl)) Via.refl e0 (GA16.ext O0.2) (g := mkF m 0 #[vr a0b, vi (own_n ix)] []) rfl (dG hby D42 0 rfl)
  obtain ⟨cl2, Ar2, -, S2, N2_, H2, G2⟩ := id (V_a0b)
  have hin2 : ¬ ((own_n (2 * ix)) < 0 ∨ cl2.slots.size ≤ ((own_n (2 * ix))).toNatClampNeg) := inb_of S2 ⟨(own_n_nn (by omega)), ((own_n_lt (by omega) (by omega)).mpr (by omega))⟩
  have hat2 : cl2.slots[((own_n (2 * ix))).toNatClampNeg]? = some (.int ((rf ix).toInt8.toInt32)) := H2.at hin2 (by rw [own_n_nat (by omega)]; exact (hrx ix hix).2.1)
  obtain ⟨T3, X3, e3, st3⟩ := getS2 X1 hx hZ hown (host := "") (Or.inl (Wd hw 210 rfl)) Via.refl e1 (GHI.ext O0.2) (g := mkF m 42 #[vr a0b, vi (own_n (2 * ix + 1))] [(.int (((rf ix).toInt8.toInt32) &&& (255 : Int32)))]) rfl (dG hby D42 12 rfl)
  obtain ⟨cl4, Ar4, -, S4, N4_, H4, G4⟩ := id (V_a0b)
  have hin4 : ¬ ((own_n (2 * ix + 1)) < 0 ∨ cl4.slots.size ≤ ((own_n (2 * ix + 1))).toNatClampNeg) := inb_of S4 ⟨(own_n_nn (by omega)), ((own_n_lt (by omega) (by omega)).mpr (by omega))⟩
  have hat4 : cl4.slots[((own_n (2 * ix + 1))).toNatClampNeg]? = some (.int (((rf ix) >>> ((8 : Int32) &&& 31)).toInt8.toInt32)) := H4.at hin4 (by rw [own_n_nat (by omega)]; exact (hrx ix hix).2.2)
  obtain ⟨T5, X5, e5, st5⟩ := getS2 X3 hx hZ hown (host := "") (Or.inl (Wd hw 211 rfl)) Via.refl e3 (GLO.ext O0.2) (g := (mkF m 53 #[vr a0b, vi (own_n (2 * ix + 1))] [(.int ((((rf ix) >>> ((8 : Int32) &&& 31)).toInt8.toInt32) &&& (255 : Int32))), (.int (((rf ix).toInt8.toInt32) &&& (255 : Int32)))])) rfl (dG hby D42 19 rfl)
  obtain ⟨fs, hr, hrun, hended, hW, hsame⟩ := X5.leave (v := some (.int (nar .char (((((rf ix).toInt8.toInt32) &&& (255 : Int32)) ||| (((((rf ix) >>> ((8 : Int32) &&& 31)).toInt8.toInt32) &&& (255 : Int32)) <<< ((8 : Int32) &&& 31))).toUInt32.toUInt16.toUInt32.toInt32)))) (fun h => by rw [Bd.returns] at h; cases h)
  refine ⟨_, _, pre0 _ ?_, hrun, hended, _, _, rfl, ?_, ⟨_, rfl⟩, hW, hsame.mono (by decide) (by decide)⟩
  · show SP p e below s₁ m 0 #[vr a0b, vi (own_n ix)] [] _
    refine st1 _ ?_
    show SP p e below T1 m 3 #[vr a0b, vi (own_n ix)] [(.int 1)] _
    refine XS.ifYes X1.here hx rfl (pc0 := 3) (pc' := 28) rfl (dG hby D42 1 rfl) rfl ((if0 _ _).trans (feq (by decide : ¬ ((1 : Int32) = (0 : Int32)))).2) (by decide) (by decide) ?_
    refine XS.iloadN X1.here hx rfl (dG hby D42 2 rfl) rfl ?_
    refine XS.iconst X1.here hx rfl (dG hby D42 3 rfl) ?_
    show SP p e below T1 m 30 #[vr a0b, vi (own_n ix)] [(.int 1), (.int (own_n ix))] _
    refine XS.ishl X1.here hx rfl (dG hby D42 4 rfl) rfl ?_
    rw [own_n_shl ix]
    show SP p e below T1 m 31 #[vr a0b, vi (own_n ix)] [(.int (own_n (2 * ix)))] _
    refine XS.istoreN X1.here hx rfl (dG hby D42 5 rfl) rfl (l' := #[vr a0b, vi (own_n (2 * ix))]) rfl ?_
    refine XS.aloadN X1.here hx rfl (dG hby D42 6 rfl) rfl rfl ?_
    refine XS.iloadN X1.here hx rfl (dG hby D42 7 rfl) rfl ?_
    show SP p e below T1 m 34 #[vr a0b, vi (own_n (2 * ix))] [(.int (own_n (2 * ix))), (.ref a0b)] _
    refine XS.iinc X1.here hx rfl (dG hby D42 8 rfl) rfl (l' := #[vr a0b, vi ((own_n (2 * ix)) + (1 : Int32))]) rfl ?_
    rw [own_n_add1 (2 * ix)]
    show SP p e below T1 m 37 #[vr a0b, vi (own_n (2 * ix + 1))] [(.int (own_n (2 * ix))), (.ref a0b)] _
    refine X1.baloadBytes hx (j := (own_n (2 * ix))) (v := (.int ((rf ix).toInt8.toInt32))) (by rw [e1]; exact Ar2.1) (State.isArrayOf_alike hZ.alike Ar2.2.1) Ar2.2.2 hin2 hat2 (g := mkF m 37 #[vr a0b, vi (own_n (2 * ix + 1))] [(.int (own_n (2 * ix))), (.ref a0b)]) rfl rfl (dG hby D42 9 rfl) _ ?_
    show SP p e below T1 m 38 #[vr a0b, vi (own_n (2 * ix + 1))] [(.int ((rf ix).toInt8.toInt32))] _
    refine XS.sipush X1.here hx rfl (dG hby D42 10 rfl) ?_
    refine XS.iand X1.here hx rfl (dG hby D42 11 rfl) rfl ?_
    show SP p e below T1 m 42 #[vr a0b, vi (own_n (2 * ix + 1))] [(.int (((rf ix).toInt8.toInt32) &&& (255 : Int32)))] _
    refine st3 _ ?_
    show SP p e below T3 m 45 #[vr a0b, vi (own_n (2 * ix + 1))] [(.int 0), (.int (((rf ix).toInt8.toInt32) &&& (255 : Int32)))] _
    refine XS.ishl X3.here hx rfl (dG hby D42 13 rfl) rfl ?_
    rw [own_shl0 (((rf ix).toInt8.toInt32) &&& (255 : Int32))]
    show SP p e below T3 m 46 #[vr a0b, vi (own_n (2 * ix + 1))] [(.int (((rf ix).toInt8.toInt32) &&& (255 : Int32)))] _
    refine XS.aloadN X3.here hx rfl (dG hby D42 14 rfl) rfl rfl ?_
    refine XS.iloadN X3.here hx rfl (dG hby D42 15 rfl) rfl ?_
    show SP p e below T3 m 48 #[vr a0b, vi (own_n (2 * ix + 1))] [(.int (own_n (2 * ix + 1))), (.ref a0b), (.int (((rf ix).toInt8.toInt32) &&& (255 : Int32)))] _
    refine X3.baloadBytes hx (j := (own_n (2 * ix + 1))) (v := (.int (((rf ix) >>> ((8 : Int32) &&& 31)).toInt8.toInt32))) (by rw [e3]; exact Ar4.1) (State.isArrayOf_alike hZ.alike Ar4.2.1) Ar4.2.2 hin4 hat4 (g := mkF m 48 #[vr a0b, vi (own_n (2 * ix + 1))] [(.int (own_n (2 * ix + 1))), (.ref a0b), (.int (((rf ix).toInt8.toInt32) &&& (255 : Int32)))]) rfl rfl (dG hby D42 16 rfl) _ ?_
    show SP p e below T3 m 49 #[vr a0b, vi (own_n (2 * ix + 1))] [(.int (((rf ix) >>> ((8 : Int32) &&& 31)).toInt8.toInt32)), (.int (((rf ix).toInt8.toInt32) &&& (255 : Int32)))] _
    refine XS.sipush X3.here hx rfl (dG hby D42 17 rfl) ?_
    refine XS.iand X3.here hx rfl (dG hby D42 18 rfl) rfl ?_
    show SP p e below T3 m 53 #[vr a0b, vi (own_n (2 * ix + 1))] [(.int ((((rf ix) >>> ((8 : Int32) &&& 31)).toInt8.toInt32) &&& (255 : Int32))), (.int (((rf ix).toInt8.toInt32) &&& (255 : Int32)))] _
    refine st5 _ ?_
    show SP p e below T5 m 56 #[vr a0b, vi (own_n (2 * ix + 1))] [(.int 8), (.int ((((rf ix) >>> ((8 : Int32) &&& 31)).toInt8.toInt32) &&& (255 : Int32))), (.int (((rf ix).toInt8.toInt32) &&& (255 : Int32)))] _
    refine XS.ishl X5.here hx rfl (dG hby D42 20 rfl) rfl ?_
    refine XS.ior X5.here hx rfl (dG hby D42 21 rfl) rfl ?_
    refine XS.i2c X5.here hx rfl (dG hby D42 22 rfl) rfl ?_
    show SP p e below T5 m 59 #[vr a0b, vi (own_n (2 * ix + 1))] [(.int (((((rf ix).toInt8.toInt32) &&& (255 : Int32)) ||| (((((rf ix) >>> ((8 : Int32) &&& 31)).toInt8.toInt32) &&& (255 : Int32)) <<< ((8 : Int32) &&& 31))).toUInt32.toUInt16.toUInt32.toInt32))] _
    exact retN X5 hx (t := .char) Bd.returns (by simp) (dG hby D42 23 rfl) hr
  · show Q_rmGcU n0 Z cS vF a0b k0 rs rn rf ix h0 _ T5.heap _
    rw [e5]
    exact ⟨(congrArg (fun z => some (Value.int z)) (own_utf2 (rf ix) (hrx ix hix).1)), N0, rfl⟩
theorem D50 : dL jdk_52_method_83_code [(0, .iload_n 1, 1), (1, .aload_n 0, 1), (2, .invokestatic 67, 3), (5, .aload_n 0, 1), (6, .iload_n 1, 1), (7, .invokestatic 71, 3), (10, .ireturn, 1)] = true := by decide +kernel
theorem pdv4 : parseMethodDescriptor "(I[B)V" = some ⟨[.int, (.array .byte)], none⟩ := by decide +kernel
theorem pdv5 : parseMethodDescriptor "([BI)C" = some ⟨[(.array .byte), .int], some .char⟩ := by decide +kernel
abbrev MN_9 : MethodName := ⟨"java/lang/StringUTF16", "charAt", "([BI)C"⟩
def Q_rmChU (n0 : Nat) (Z : State) (cS : Int32) (vF : Value) (a0b : Addr) (k0 : ClassId) (rs : List Value) (rn : Nat) (rf : Nat → Int32) (ix : Nat) (h0 : Heap) (v : Option Value) (h : Heap) (L : List Loc) : Prop := v = some (.int (rf ix)) ∧ Fr n0 L ∧ h = h0
theorem rmChU (l : Launch) (Z : State) (a0 : Array Value) (hw : ∀ d ∈ tables_1, d.before a0 Z = true) (ws : List Jvm.Cond) (cS : Int32) (vF : Value) (a0b : Addr) (k0 : ClassId) (rs : List Value) (rn : Nat) (rf : Nat → Int32) (ix : Nat) (h0 : Heap) (n0 : Nat) (O0 : Old Z n0 h0) (GL : GF Z cS vF) (V_a0b : Arv Z h0 a0b k0 .byte (own_n (2 * rn)) rs (.int 0)) (hrx : own_U rs rn rf) (hix : ix < rn) (h8 : rn ≤ 8) :
    MF l MN_9 jdk_52_method_83_code 2 (some .char) ws (Rm 3 0 0 40) #[(.ref a0b), (.int (own_n ix))] Z h0 (Q_rmChU n0 Z cS vF a0b k0 rs rn rf ix h0) := by
  refine MetFree.of_bodySF (plainFor_of_name pnv2) hisR ?_
  intro p e s m args below meth c s₁ Bd hml0 hP hK
  obtain ⟨rfl, hZ, hh⟩ := hP
  have hx := Bd.exec
  have hby := Bd.bytes
  have hml : c.maxLocals = 2 := hml0
  have hown : s.vm.findClass "java/lang/StringUTF16" = some m.cls := findClass_of_methodNamed Bd.named
  have hnm := (name_of_methodNamed Bd.named Bd.method).1
  have X0 : Stand p l e (Rm 3 0 0 40) s m #[(.ref a0b), (.int (own_n ix))] below meth c s₁ [] 0 0 := Stand.of_body Bd
  have e0 : s₁.heap = h0 := by rw [← hh, Bd.state]; rfl
  have N0 := Fr.nil n0
  have pre0 : ∀ t, SP p e below s₁ m 0 #[vr a0b, vi (own_n ix)] [] t → Steps p.tables e below (s₁.setTop (entryFrame m #[(.ref a0b), (.int (own_n ix))] 2)) t := fun t k => castTop (ef_rmChL m a0b) k
  have GL' := GL
  obtain ⟨GCS, GCP, GA16, GHI, GLO, GFF, GVF⟩ := GL'
  obtain ⟨_, _, ⟨T1, L1, k1, n1⟩, -, X1, ⟨Lc1, hQ1, l1, y1, z1⟩, st1⟩ := Jvm.LawKit.callS X0 hx (y := MN_6) hown (mvT hZ (Wd hw 246 rfl)) (mvT hZ (Wd hw 247 rfl)) (mvT hZ (Wd hw 188 rfl)) (mvT hZ (Wd hw 248 rfl)) (by decide) (backOf (W := 0) (rmUck l Z a0 hw [] cS vF ((own_n ix)) a0b k0 rs rn h0 n0 O0 GL V_a0b h8 (own_n_nn (by omega)) ((own_n_lt (by omega) (by omega)).mpr (by omega))) hZ (Wd hw 248 rfl) (Wd hw 188 rfl) (by decide) (by decide)) (g := mkF m 2 #[vr a0b, vi (own_n ix)] [(.ref a0b), (.int (own_n ix))]) rfl (by rw [hml]; rfl) (argsL := [(.int (own_n ix)), (.ref a0b)]) (rest := []) (lenOf pdv4 rfl) rfl (by show 2 * 0 + _ ≤ _; exact lEq rfl) (dG hby D50 2 rfl) (fun _ _ => ⟨rfl, e0, (by decide : 0 + 0 ≤ _), (by decide : 0 + 0 ≤ _)⟩)
  dsimp only [Pt.U, Pt.locs, Pt.cells, Pt.slots] at X1 l1 y1 z1 st1 hQ1
  subst l1 y1 z1
  obtain ⟨rfl, N1q, e1⟩ := hQ1
  have N1 := Fr.app N0 N1q
  obtain ⟨_, _, ⟨T2, L2, k2, n2⟩, -, X2, ⟨Lc2, hQ2, l2, y2, z2⟩, st2⟩ := Jvm.LawKit.callS X1 hx (y := MN_8) hown (mvT hZ (Wd hw 212 rfl)) (mvT hZ (Wd hw 213 rfl)) (mvT hZ (Wd hw 188 rfl)) (mvT hZ (Wd hw 214 rfl)) (by decide) (backOf (W := 0) (rmGcU l Z a0 hw [] cS vF a0b k0 rs rn rf ix h0 n0 O0 GL V_a0b hrx hix h8) hZ (Wd hw 214 rfl) (Wd hw 188 rfl) (by decide) (by decide)) (g := mkF m 7 #[vr a0b, vi (own_n ix)] [(.int (own_n ix)), (.ref a0b)]) rfl (by rw [hml]; rfl) (argsL := [(.ref a0b), (.int (own_n ix))]) (rest := []) (lenOf pdv5 rfl) rfl (by show 2 * 0 + _ ≤ _; exact lEq rfl) (dG hby D50 5 rfl) (fun _ _ => ⟨rfl, e1, (by decide : 0 + 0 ≤ _), (by decide : 0 + 0 ≤ _)⟩)
  dsimp only [Pt.U, Pt.locs, Pt.cells, Pt.slots] at X2 l2 y2 z2 st2 hQ2
  subst l2 y2 z2
  obtain ⟨rfl, N2q, e2⟩ := hQ2
  have N2 := Fr.app N1 N2q
  obtain ⟨fs, hr, hrun, hended, hW, hsame⟩ := X2.leave (v := some (.int (nar .char (rf ix)))) (fun h => by rw [Bd.returns] at h; cases h)
  refine ⟨_, _, pre0 _ ?_, hrun, hended, _, _, rfl, ?_, ⟨_, rfl⟩, hW, hsame.mono (by decide) (by decide)⟩
  · show SP p e below s₁ m 0 #[vr a0b, vi (own_n ix)] [] _
    refine XS.iloadN X0.here hx rfl (dG hby D50 0 rfl) rfl ?_
    refine XS.aloadN X0.here hx rfl (dG hby D50 1 rfl) rfl rfl ?_
    show SP p e below s₁ m 2 #[vr a0b, vi (own_n ix)] [(.ref a0b), (.int (own_n ix))] _
    refine st1 _ ?_
    show SP p e below T1 m 5 #[vr a0b, vi (own_n ix)] [] _
    refine XS.aloadN X1.here hx rfl (dG hby D50 3 rfl) rfl rfl ?_
    refine XS.iloadN X1.here hx rfl (dG hby D50 4 rfl) rfl ?_
    show SP p e below T1 m 7 #[vr a0b, vi (own_n ix)] [(.int (own_n ix)), (.ref a0b)] _
    refine st2 _ ?_
    show SP p e below T2 m 10 #[vr a0b, vi (own_n ix)] [(.int (rf ix))] _
    exact retN X2 hx (t := .char) Bd.returns (by simp) (dG hby D50 6 rfl) hr
  · show Q_rmChU n0 Z cS vF a0b k0 rs rn rf ix h0 _ T2.heap _
    rw [e2]
    exact ⟨(congrArg (fun z => some (Value.int z)) (hrx ix hix).1), N2, rfl⟩
theorem D30 : dL jdk_42_method_56_code [(0, .aload_n 0, 1), (1, .invokevirtual 492, 3), (4, .ifCond .eq 12, 3), (7, .aload_n 0, 1), (8, .getfield 9, 3), (11, .iload_n 1, 1), (12, .invokestatic 495, 3), (15, .ireturn, 1), (16, .aload_n 0, 1), (17, .getfield 9, 3), (20, .iload_n 1, 1), (21, .invokestatic 498, 3), (24, .ireturn, 1)] = true := by decide +kernel
theorem pdv6 : parseMethodDescriptor "()Z" = some ⟨[], some .boolean⟩ := by decide +kernel
abbrev MN_10 : MethodName := ⟨"java/lang/String", "charAt", "(I)C"⟩
theorem ef_rmCh0 (m : MethodId) (a0s : Addr) {ix : Nat} : entryFrame m #[(.ref a0s), (.int (own_n ix))] 2 = mkF m 0 #[vr a0s, vi (own_n ix)] [] := by first | (simp [entryFrame, mkF, argsToLocals, Value.category]; done) | rfl
def Q_rmCh0 (n0 : Nat) (Z : State) (cS : Int32) (vF : Value) (a0s : Addr) (rv : Addr) (rk : ClassId) (rs : List Value) (rn : Nat) (rf : Nat → Int32) (ix : Nat) (h0 : Heap) (v : Option Value) (h : Heap) (L : List Loc) : Prop := v = some (.int (rf ix)) ∧ Fr n0 L ∧ h = h0
theorem rmCh0 (l : Launch) (Z : State) (a0 : Array Value) (hw : ∀ d ∈ tables_1, d.before a0 Z = true) (ws : List Jvm.Cond) (cS : Int32) (vF : Value) (a0s : Addr) (rv : Addr) (rk : ClassId) (rs : List Value) (rn : Nat) (rf : Nat → Int32) (ix : Nat) (h0 : Heap) (n0 : Nat) (O0 : Old Z n0 h0) (GL : GF Z cS vF) (E_a0s : Exa Z h0 a0s "java/lang/String") (F_value_a0s : Fld Z h0 a0s "java/lang/String" "value" "[B" (.ref rv)) (F_coder_a0s : Fld Z h0 a0s "java/lang/String" "coder" "B" (.int 0)) (V_rv : Arv Z h0 rv rk .byte (own_n rn) rs (.int 0)) (hrx : own_L rs rn rf) (hix : ix < rn) (h8 : rn ≤ 8) :
    MF l MN_10 jdk_42_method_56_code 2 (some .char) ws (Rm 3 0 0 40) #[(.ref a0s), (.int (own_n ix))] Z h0 (Q_rmCh0 n0 Z cS vF a0s rv rk rs rn rf ix h0) := by
  refine MetFree.of_bodySF (plainFor_of_name pn) hisR ?_
  intro p e s m args below meth c s₁ Bd hml0 hP hK
  obtain ⟨rfl, hZ, hh⟩ := hP
  have hx := Bd.exec
  have hby := Bd.bytes
  have hml : c.maxLocals = 2 := hml0
  have hown : s.vm.findClass "java/lang/String" = some m.cls := findClass_of_methodNamed Bd.named
  have hnm := (name_of_methodNamed Bd.named Bd.method).1
  have X0 : Stand p l e (Rm 3 0 0 40) s m #[(.ref a0s), (.int (own_n ix))] below meth c s₁ [] 0 0 := Stand.of_body Bd
  have e0 : s₁.heap = h0 := by rw [← hh, Bd.state]; rfl
  have N0 := Fr.nil n0
  have pre0 : ∀ t, SP p e below s₁ m 0 #[vr a0s, vi (own_n ix)] [] t → Steps p.tables e below (s₁.setTop (entryFrame m #[(.ref a0s), (.int (own_n ix))] 2)) t := fun t k => castTop (ef_rmCh0 m a0s) k
  have GL' := GL
  obtain ⟨GCS, GCP, GA16, GHI, GLO, GFF, GVF⟩ := GL'
  obtain ⟨cq1, kq1, q1a, q1b, q1c⟩ := isOf hZ e0 E_a0s
  obtain ⟨_, _, ⟨T1, L1, k1, n1⟩, -, X1, ⟨Lc1, hQ1, l1, y1, z1⟩, st1⟩ := X0.virtualBack hx (y := MN_2) (z := MN_2) hown (mvT hZ (Wd hw 169 rfl)) (mvT hZ (Wd hw 170 rfl)) (notFace_of_selects (args := #[]) (mvT hZ (Wd hw 172 rfl))) (mvT hZ (Wd hw 172 rfl)) (mvT hZ (Wd hw 171 rfl)) (by decide) (backOf (W := 0) (rmIl0 l Z a0 hw [] cS vF a0s h0 n0 O0 GL F_coder_a0s) hZ (Wd hw 173 rfl) (Wd hw 11 rfl) (by decide) (by decide)) q1a q1c (g := mkF m 1 #[vr a0s, vi (own_n ix)] [(.ref a0s)]) rfl (by rw [hml]; rfl) (Steps.refl _) (argsL := []) (rest := []) (lenOf pdv6 rfl) rfl (by show 2 * 0 + _ ≤ _; exact lEq rfl) (dG hby D30 1 rfl) (fun _ _ => ⟨rfl, e0, (by decide : 0 + 0 ≤ _), (by decide : 0 + 0 ≤ _)⟩)
  dsimp only [Pt.U, Pt.locs, Pt.cells, Pt.slots] at X1 l1 y1 z1 st1 hQ1
  subst l1 y1 z1
  obtain ⟨rfl, N1q, e1⟩ := hQ1
  have N1 := Fr.app N0 N1q
  obtain ⟨T2, X2, e2, st2⟩ := getF X1 hx hZ hown (host := "") (Or.inl (Wd hw 28 rfl)) Via.refl e1 F_value_a0s (g := mkF m 8 #[vr a0s, vi (own_n ix)] [(.ref a0s)]) rfl rfl (dG hby D30 4 rfl)
  obtain ⟨_, _, ⟨T3, L3, k3, n3⟩, -, X3, ⟨Lc3, hQ3, l3, y3, z3⟩, st3⟩ := Jvm.LawKit.callS X2 hx (y := MN_7) hown (mvT hZ (Wd hw 174 rfl)) (mvT hZ (Wd hw 175 rfl)) (mvT hZ (Wd hw 176 rfl)) (mvT hZ (Wd hw 177 rfl)) (by decide) (backOf (W := 0) (rmChL l Z a0 hw [] cS vF rv rk rs rn rf ix h0 n0 O0 GL V_rv hrx hix h8) hZ (Wd hw 177 rfl) (Wd hw 176 rfl) (by decide) (by decide)) (g := mkF m 12 #[vr a0s, vi (own_n ix)] [(.int (own_n ix)), (.ref rv)]) rfl (by rw [hml]; rfl) (argsL := [(.ref rv), (.int (own_n ix))]) (rest := []) (lenOf pdv5 rfl) rfl (by show 2 * 0 + _ ≤ _; exact lEq rfl) (dG hby D30 6 rfl) (fun _ _ => ⟨rfl, e2, (by decide : 0 + 0 ≤ _), (by decide : 0 + 0 ≤ _)⟩)
  dsimp only [Pt.U, Pt.locs, Pt.cells, Pt.slots] at X3 l3 y3 z3 st3 hQ3
  subst l3 y3 z3
  obtain ⟨rfl, N3q, e3⟩ := hQ3
  have N3 := Fr.app N1 N3q
  obtain ⟨fs, hr, hrun, hended, hW, hsame⟩ := X3.leave (v := some (.int (nar .char (rf ix)))) (fun h => by rw [Bd.returns] at h; cases h)
  refine ⟨_, _, pre0 _ ?_, hrun, hended, _, _, rfl, ?_, ⟨_, rfl⟩, hW, hsame.mono (by decide) (by decide)⟩
  · show SP p e below s₁ m 0 #[vr a0s, vi (own_n ix)] [] _
    refine XS.aloadN X0.here hx rfl (dG hby D30 0 rfl) rfl rfl ?_
    show SP p e below s₁ m 1 #[vr a0s, vi (own_n ix)] [(.ref a0s)] _
    refine st1.trans ?_
    show SP p e below T1 m 4 #[vr a0s, vi (own_n ix)] [(.int 1)] _
    refine XS.ifNo X1.here hx rfl (dG hby D30 2 rfl) rfl ((if0 _ _).trans (feq (by decide : ¬ ((1 : Int32) = (0 : Int32)))).1) ?_
    refine XS.aloadN X1.here hx rfl (dG hby D30 3 rfl) rfl rfl ?_
    show SP p e below T1 m 8 #[vr a0s, vi (own_n ix)] [(.ref a0s)] _
    refine st2 _ ?_
    show SP p e below T2 m 11 #[vr a0s, vi (own_n ix)] [(.ref rv)] _
    refine XS.iloadN X2.here hx rfl (dG hby D30 5 rfl) rfl ?_
    show SP p e below T2 m 12 #[vr a0s, vi (own_n ix)] [(.int (own_n ix)), (.ref rv)] _
    refine st3 _ ?_
    show SP p e below T3 m 15 #[vr a0s, vi (own_n ix)] [(.int (rf ix))] _
    exact retN X3 hx (t := .char) Bd.returns (by simp) (dG hby D30 7 rfl) hr
  · show Q_rmCh0 n0 Z cS vF a0s rv rk rs rn rf ix h0 _ T3.heap _
    rw [e3]
    exact ⟨(congrArg (fun z => some (Value.int z)) (hrx ix hix).1), N3, rfl⟩
def Q_rmCh1 (n0 : Nat) (Z : State) (cS : Int32) (vF : Value) (a0s : Addr) (rv : Addr) (rk : ClassId) (rs : List Value) (rn : Nat) (rf : Nat → Int32) (ix : Nat) (h0 : Heap) (v : Option Value) (h : Heap) (L : List Loc) : Prop := v = some (.int (rf ix)) ∧ Fr n0 L ∧ h = h0
theorem rmCh1 (l : Launch) (Z : State) (a0 : Array Value) (hw : ∀ d ∈ tables_1, d.before a0 Z = true) (ws : List Jvm.Cond) (cS : Int32) (vF : Value) (a0s : Addr) (rv : Addr) (rk : ClassId) (rs : List Value) (rn : Nat) (rf : Nat → Int32) (ix : Nat) (h0 : Heap) (n0 : Nat) (O0 : Old Z n0 h0) (GL : GF Z cS vF) (E_a0s : Exa Z h0 a0s "java/lang/String") (F_value_a0s : Fld Z h0 a0s "java/lang/String" "value" "[B" (.ref rv)) (F_coder_a0s : Fld Z h0 a0s "java/lang/String" "coder" "B" (.int 1)) (V_rv : Arv Z h0 rv rk .byte (own_n (2 * rn)) rs (.int 0)) (hrx : own_U rs rn rf) (hix : ix < rn) (h8 : rn ≤ 8) :
    MF l MN_10 jdk_42_method_56_code 2 (some .char) ws (Rm 4 0 0 53) #[(.ref a0s), (.int (own_n ix))] Z h0 (Q_rmCh1 n0 Z cS vF a0s rv rk rs rn rf ix h0) := by
  refine MetFree.of_bodySF (plainFor_of_name pn) hisR ?_
  intro p e s m args below meth c s₁ Bd hml0 hP hK
  obtain ⟨rfl, hZ, hh⟩ := hP
  have hx := Bd.exec
  have hby := Bd.bytes
  have hml : c.maxLocals = 2 := hml0
  have hown : s.vm.findClass "java/lang/String" = some m.cls := findClass_of_methodNamed Bd.named
  have hnm := (name_of_methodNamed Bd.named Bd.method).1
  have X0 : Stand p l e (Rm 4 0 0 53) s m #[(.ref a0s), (.int (own_n ix))] below meth c s₁ [] 0 0 := Stand.of_body Bd
  have e0 : s₁.heap = h0 := by rw [← hh, Bd.state]; rfl
  have N0 := Fr.nil n0
  have pre0 : ∀ t, SP p e below s₁ m 0 #[vr a0s, vi (own_n ix)] [] t → Steps p.tables e below (s₁.setTop (entryFrame m #[(.ref a0s), (.int (own_n ix))] 2)) t := fun t k => castTop (ef_rmCh0 m a0s) k
  have GL' := GL
  obtain ⟨GCS, GCP, GA16, GHI, GLO, GFF, GVF⟩ := GL'
  obtain ⟨cq1, kq1, q1a, q1b, q1c⟩ := isOf hZ e0 E_a0s
  obtain ⟨_, _, ⟨T1, L1, k1, n1⟩, -, X1, ⟨Lc1, hQ1, l1, y1, z1⟩, st1⟩ := X0.virtualBack hx (y := MN_2) (z := MN_2) hown (mvT hZ (Wd hw 169 rfl)) (mvT hZ (Wd hw 170 rfl)) (notFace_of_selects (args := #[]) (mvT hZ (Wd hw 172 rfl))) (mvT hZ (Wd hw 172 rfl)) (mvT hZ (Wd hw 171 rfl)) (by decide) (backOf (W := 0) (rmIl1 l Z a0 hw [] cS vF a0s h0 n0 O0 GL F_coder_a0s) hZ (Wd hw 173 rfl) (Wd hw 11 rfl) (by decide) (by decide)) q1a q1c (g := mkF m 1 #[vr a0s, vi (own_n ix)] [(.ref a0s)]) rfl (by rw [hml]; rfl) (Steps.refl _) (argsL := []) (rest := []) (lenOf pdv6 rfl) rfl (by show 2 * 0 + _ ≤ _; exact lEq rfl) (dG hby D30 1 rfl) (fun _ _ => ⟨rfl, e0, (by decide : 0 + 0 ≤ _), (by decide : 0 + 0 ≤ _)⟩)
  dsimp only [Pt.U, Pt.locs, Pt.cells, Pt.slots] at X1 l1 y1 z1 st1 hQ1
  subst l1 y1 z1
  obtain ⟨rfl, N1q, e1⟩ := hQ1
  have N1 := Fr.app N0 N1q
  obtain ⟨T2, X2, e2, st2⟩ := getF X1 hx hZ hown (host := "") (Or.inl (Wd hw 28 rfl)) Via.refl e1 F_value_a0s (g := mkF m 17 #[vr a0s, vi (own_n ix)] [(.ref a0s)]) rfl rfl (dG hby D30 9 rfl)
  obtain ⟨_, _, ⟨T3, L3, k3, n3⟩, -, X3, ⟨Lc3, hQ3, l3, y3, z3⟩, st3⟩ := Jvm.LawKit.callS X2 hx (y := MN_9) hown (mvT hZ (Wd hw 243 rfl)) (mvT hZ (Wd hw 244 rfl)) (mvT hZ (Wd hw 188 rfl)) (mvT hZ (Wd hw 245 rfl)) (by decide) (backOf (W := 0) (rmChU l Z a0 hw [] cS vF rv rk rs rn rf ix h0 n0 O0 GL V_rv hrx hix h8) hZ (Wd hw 245 rfl) (Wd hw 188 rfl) (by decide) (by decide)) (g := mkF m 21 #[vr a0s, vi (own_n ix)] [(.int (own_n ix)), (.ref rv)]) rfl (by rw [hml]; rfl) (argsL := [(.ref rv), (.int (own_n ix))]) (rest := []) (lenOf pdv5 rfl) rfl (by show 2 * 0 + _ ≤ _; exact lEq rfl) (dG hby D30 11 rfl) (fun _ _ => ⟨rfl, e2, (by decide : 0 + 0 ≤ _), (by decide : 0 + 0 ≤ _)⟩)
  dsimp only [Pt.U, Pt.locs, Pt.cells, Pt.slots] at X3 l3 y3 z3 st3 hQ3
  subst l3 y3 z3
  obtain ⟨rfl, N3q, e3⟩ := hQ3
  have N3 := Fr.app N1 N3q
  obtain ⟨fs, hr, hrun, hended, hW, hsame⟩ := X3.leave (v := some (.int (nar .char (rf ix)))) (fun h => by rw [Bd.returns] at h; cases h)
  refine ⟨_, _, pre0 _ ?_, hrun, hended, _, _, rfl, ?_, ⟨_, rfl⟩, hW, hsame.mono (by decide) (by decide)⟩
  · show SP p e below s₁ m 0 #[vr a0s, vi (own_n ix)] [] _
    refine XS.aloadN X0.here hx rfl (dG hby D30 0 rfl) rfl rfl ?_
    show SP p e below s₁ m 1 #[vr a0s, vi (own_n ix)] [(.ref a0s)] _
    refine st1.trans ?_
    show SP p e below T1 m 4 #[vr a0s, vi (own_n ix)] [(.int 0)] _
    refine XS.ifYes X1.here hx rfl (pc0 := 4) (pc' := 16) rfl (dG hby D30 2 rfl) rfl ((if0 _ _).trans (teq (by decide : (0 : Int32) = (0 : Int32))).1) (by decide) (by decide) ?_
    refine XS.aloadN X1.here hx rfl (dG hby D30 8 rfl) rfl rfl ?_
    show SP p e below T1 m 17 #[vr a0s, vi (own_n ix)] [(.ref a0s)] _
    refine st2 _ ?_
    show SP p e below T2 m 20 #[vr a0s, vi (own_n ix)] [(.ref rv)] _
    refine XS.iloadN X2.here hx rfl (dG hby D30 10 rfl) rfl ?_
    show SP p e below T2 m 21 #[vr a0s, vi (own_n ix)] [(.int (own_n ix)), (.ref rv)] _
    refine st3 _ ?_
    show SP p e below T3 m 24 #[vr a0s, vi (own_n ix)] [(.int (rf ix))] _
    exact retN X3 hx (t := .char) Bd.returns (by simp) (dG hby D30 12 rfl) hr
  · show Q_rmCh1 n0 Z cS vF a0s rv rk rs rn rf ix h0 _ T3.heap _
    rw [e3]
    exact ⟨(congrArg (fun z => some (Value.int z)) (hrx ix hix).1), N3, rfl⟩
theorem D41 : dL jdk_52_method_4_code [(0, .getstatic 44, 3), (3, .ifCond .ne 25, 3), (28, .iload_n 1, 1), (29, .iconst 1, 1), (30, .ishl, 1), (31, .istore_n 1, 1), (32, .aload_n 0, 1), (33, .iload_n 1, 1), (34, .iinc 1 1, 3), (37, .iload_n 2, 1), (38, .getstatic 59, 3), (41, .ishr, 1), (42, .i2b, 1), (43, .bastore, 1), (44, .aload_n 0, 1), (45, .iload_n 1, 1), (46, .iload_n 2, 1), (47, .getstatic 63, 3), (50, .ishr, 1), (51, .i2b, 1), (52, .bastore, 1), (53, .return_, 1)] = true := by decide +kernel
abbrev MN_11 : MethodName := ⟨"java/lang/StringUTF16", "putChar", "([BII)V"⟩
theorem ef_rmPcU (m : MethodId) (a0b : Addr) (c0 : Int32) {px : Nat} : entryFrame m #[(.ref a0b), (.int (own_n px)), (.int c0)] 3 = mkF m 0 #[vr a0b, vi (own_n px), vi c0] [] := by first | (simp [entryFrame, mkF, argsToLocals, Value.category]; done) | rfl
def Q_rmPcU (n0 : Nat) (Z : State) (cS : Int32) (vF : Value) (a0b : Addr) (c0 : Int32) (k0 : ClassId) (ds : List Value) (px : Nat) (dc : Nat) (h0 : Heap) (v : Option Value) (h : Heap) (L : List Loc) : Prop := v = none ∧ Fr n0 L ∧ Keep h0 h [a0b] ∧ (Arv Z h a0b k0 .byte (own_n dc) (own_put ds px c0) (.int 0))
theorem rmPcU (l : Launch) (Z : State) (a0 : Array Value) (hw : ∀ d ∈ tables_1, d.before a0 Z = true) (ws : List Jvm.Cond) (cS : Int32) (vF : Value) (a0b : Addr) (c0 : Int32) (k0 : ClassId) (ds : List Value) (px : Nat) (dc : Nat) (h0 : Heap) (n0 : Nat) (O0 : Old Z n0 h0) (GL : GF Z cS vF) (V_a0b : Arv Z h0 a0b k0 .byte (own_n dc) ds (.int 0)) (hdl : ds.length = dc) (hpx : 2 * px + 2 ≤ dc) (hdc : dc ≤ 64) (g_a0b : n0 ≤ a0b) :
    MF l MN_11 jdk_52_method_4_code 3 none ws (Rm 0 0 0 0) #[(.ref a0b), (.int (own_n px)), (.int c0)] Z h0 (Q_rmPcU n0 Z cS vF a0b c0 k0 ds px dc h0) := by
  refine MetFree.of_bodySF (plainFor_of_name pnv2) hisR ?_
  intro p e s m args below meth c s₁ Bd hml0 hP hK
  obtain ⟨rfl, hZ, hh⟩ := hP
  have hx := Bd.exec
  have hby := Bd.bytes
  have hml : c.maxLocals = 3 := hml0
  have hown : s.vm.findClass "java/lang/StringUTF16" = some m.cls := findClass_of_methodNamed Bd.named
  have hnm := (name_of_methodNamed Bd.named Bd.method).1
  have X0 : Stand p l e (Rm 0 0 0 0) s m #[(.ref a0b), (.int (own_n px)), (.int c0)] below meth c s₁ [] 0 0 := Stand.of_body Bd
  have e0 : s₁.heap = h0 := by rw [← hh, Bd.state]; rfl
  have N0 := Fr.nil n0
  have pre0 : ∀ t, SP p e below s₁ m 0 #[vr a0b, vi (own_n px), vi c0] [] t → Steps p.tables e below (s₁.setTop (entryFrame m #[(.ref a0b), (.int (own_n px)), (.int c0)] 3)) t := fun t k => castTop (ef_rmPcU m a0b c0) k
  have GL' := GL
  obtain ⟨GCS, GCP, GA16, GHI, GLO, GFF, GVF⟩ := GL'
  obtain ⟨T1, X1, e1, st1⟩ := getS2 X0 hx hZ hown (host := "") (Or.inl (Wd hw 209 rfl)) Via.refl e0 (GA16.ext O0.2) (g := mkF m 0 #[vr a0b, vi (own_n px), vi c0] []) rfl (dG hby D41 0 rfl)
  obtain ⟨T2, X2, e2, st2⟩ := getS2 X1 hx hZ hown (host := "") (Or.inl (Wd hw 210 rfl)) Via.refl e1 (GHI.ext O0.2) (g := mkF m 38 #[vr a0b, vi (own_n (2 * px + 1)), vi c0] [(.int c0), (.int (own_n (2 * px))), (.ref a0b)]) rfl (dG hby D41 10 rfl)
  obtain ⟨cl3, Ar3, q3, S3, N3_, H3, G3⟩ := id (V_a0b)
  have hin3 : ¬ ((own_n (2 * px)) < 0 ∨ cl3.slots.size ≤ ((own_n (2 * px))).toNatClampNeg) := inb_of S3 ⟨(own_n_nn (by omega)), ((own_n_lt (by omega) (by omega)).mpr (by omega))⟩
  obtain ⟨T3, h3, X3, e3, W3, st3⟩ := stB X2 hx hZ e2 Ar3 (j := (own_n (2 * px))) hin3 (g := mkF m 43 #[vr a0b, vi (own_n (2 * px + 1)), vi c0] [(.int (c0.toInt8.toInt32)), (.int (own_n (2 * px))), (.ref a0b)]) rfl rfl (dG hby D41 13 rfl)
  have K3 : Keep h0 h3 [a0b] := (Keep.refl h0 [a0b]).wr W3 (Or.inl (List.mem_of_getElem? (i := 0) rfl))
  have O3 := O0.wr W3 g_a0b
  have N3 := Fr.snoc X3 N0 g_a0b
  have V3' : Arv Z h3 a0b k0 .byte (own_n dc) (List.set ds (2 * px) (.int ((c0.toInt8.toInt32)).toInt8.toInt32)) (.int 0) := Arv.set Ar3 q3 S3 N3_ H3 G3 (fits_nar_byte _) W3 (2 * px) (own_n_nat (by omega)) (by first | omega | (simp only [List.length_set]; omega))
  have V3 : Arv Z h3 a0b k0 .byte (own_n dc) (List.set ds (2 * px) (.int (c0.toInt8.toInt32))) (.int 0) := by
    rw [own_b2 c0] at V3'
    exact V3'
  obtain ⟨T4, X4, e4, st4⟩ := getS2 X3 hx hZ hown (host := "") (Or.inl (Wd hw 211 rfl)) Via.refl e3 (GLO.ext O3.2) (g := mkF m 47 #[vr a0b, vi (own_n (2 * px + 1)), vi c0] [(.int c0), (.int (own_n (2 * px + 1))), (.ref a0b)]) rfl (dG hby D41 17 rfl)
  obtain ⟨cl5, Ar5, q5, S5, N5_, H5, G5⟩ := id (V3)
  have hin5 : ¬ ((own_n (2 * px + 1)) < 0 ∨ cl5.slots.size ≤ ((own_n (2 * px + 1))).toNatClampNeg) := inb_of S5 ⟨(own_n_nn (by omega)), ((own_n_lt (by omega) (by omega)).mpr (by omega))⟩
  obtain ⟨T5, h5, X5, e5, W5, st5⟩ := stB X4 hx hZ e4 Ar5 (j := (own_n (2 * px + 1))) hin5 (g := (mkF m 52 #[vr a0b, vi (own_n (2 * px + 1)), vi c0] [(.int ((c0 >>> ((8 : Int32) &&& 31)).toInt8.toInt32)), (.int (own_n (2 * px + 1))), (.ref a0b)])) rfl rfl (dG hby D41 20 rfl)
  have K5 : Keep h0 h5 [a0b] := K3.wr W5 (Or.inl (List.mem_of_getElem? (i := 0) rfl))
  have O5 := O3.wr W5 g_a0b
  have N5 := Fr.snoc X5 N3 g_a0b
  have V5' : Arv Z h5 a0b k0 .byte (own_n dc) (List.set (List.set ds (2 * px) (.int (c0.toInt8.toInt32))) (2 * px + 1) (.int (((c0 >>> ((8 : Int32) &&& 31)).toInt8.toInt32)).toInt8.toInt32)) (.int 0) := Arv.set Ar5 q5 S5 N5_ H5 G5 (fits_nar_byte _) W5 (2 * px + 1) (own_n_nat (by omega)) (by first | omega | (simp only [List.length_set]; omega))
  have V5 : Arv Z h5 a0b k0 .byte (own_n dc) (List.set (List.set ds (2 * px) (.int (c0.toInt8.toInt32))) (2 * px + 1) (.int ((c0 >>> ((8 : Int32) &&& 31)).toInt8.toInt32))) (.int 0) := by
    rw [own_b2 (c0 >>> ((8 : Int32) &&& 31))] at V5'
    exact V5'
  have Vq : Arv Z h5 a0b k0 .byte (own_n dc) (own_put ds px c0) (.int 0) := V5
  obtain ⟨fs, hr, hrun, hended, hW, hsame⟩ := X5.leave (v := none) (fun _ => rfl)
  refine ⟨_, _, pre0 _ ?_, hrun, hended, _, _, rfl, ?_, ⟨_, rfl⟩, hW, hsame.mono (by decide) (by decide)⟩
  · show SP p e below s₁ m 0 #[vr a0b, vi (own_n px), vi c0] [] _
    refine st1 _ ?_
    show SP p e below T1 m 3 #[vr a0b, vi (own_n px), vi c0] [(.int 1)] _
    refine XS.ifYes X1.here hx rfl (pc0 := 3) (pc' := 28) rfl (dG hby D41 1 rfl) rfl ((if0 _ _).trans (feq (by decide : ¬ ((1 : Int32) = (0 : Int32)))).2) (by decide) (by decide) ?_
    refine XS.iloadN X1.here hx rfl (dG hby D41 2 rfl) rfl ?_
    refine XS.iconst X1.here hx rfl (dG hby D41 3 rfl) ?_
    show SP p e below T1 m 30 #[vr a0b, vi (own_n px), vi c0] [(.int 1), (.int (own_n px))] _
    refine XS.ishl X1.here hx rfl (dG hby D41 4 rfl) rfl ?_
    rw [own_n_shl px]
    show SP p e below T1 m 31 #[vr a0b, vi (own_n px), vi c0] [(.int (own_n (2 * px)))] _
    refine XS.istoreN X1.here hx rfl (dG hby D41 5 rfl) rfl (l' := #[vr a0b, vi (own_n (2 * px)), vi c0]) rfl ?_
    refine XS.aloadN X1.here hx rfl (dG hby D41 6 rfl) rfl rfl ?_
    refine XS.iloadN X1.here hx rfl (dG hby D41 7 rfl) rfl ?_
    show SP p e below T1 m 34 #[vr a0b, vi (own_n (2 * px)), vi c0] [(.int (own_n (2 * px))), (.ref a0b)] _
    refine XS.iinc X1.here hx rfl (dG hby D41 8 rfl) rfl (l' := #[vr a0b, vi ((own_n (2 * px)) + (1 : Int32)), vi c0]) rfl ?_
    rw [own_n_add1 (2 * px)]
    show SP p e below T1 m 37 #[vr a0b, vi (own_n (2 * px + 1)), vi c0] [(.int (own_n (2 * px))), (.ref a0b)] _
    refine XS.iloadN X1.here hx rfl (dG hby D41 9 rfl) rfl ?_
    show SP p e below T1 m 38 #[vr a0b, vi (own_n (2 * px + 1)), vi c0] [(.int c0), (.int (own_n (2 * px))), (.ref a0b)] _
    refine st2 _ ?_
    show SP p e below T2 m 41 #[vr a0b, vi (own_n (2 * px + 1)), vi c0] [(.int 0), (.int c0), (.int (own_n (2 * px))), (.ref a0b)] _
    refine XS.ishr X2.here hx rfl (dG hby D41 11 rfl) rfl ?_
    rw [own_shr0 c0]
    show SP p e below T2 m 42 #[vr a0b, vi (own_n (2 * px + 1)), vi c0] [(.int c0), (.int (own_n (2 * px))), (.ref a0b)] _
    refine XS.i2b X2.here hx rfl (dG hby D41 12 rfl) rfl ?_
    show SP p e below T2 m 43 #[vr a0b, vi (own_n (2 * px + 1)), vi c0] [(.int (c0.toInt8.toInt32)), (.int (own_n (2 * px))), (.ref a0b)] _
    refine st3 _ ?_
    show SP p e below T3 m 44 #[vr a0b, vi (own_n (2 * px + 1)), vi c0] [] _
    refine XS.aloadN X3.here hx rfl (dG hby D41 14 rfl) rfl rfl ?_
    refine XS.iloadN X3.here hx rfl (dG hby D41 15 rfl) rfl ?_
    refine XS.iloadN X3.here hx rfl (dG hby D41 16 rfl) rfl ?_
    show SP p e below T3 m 47 #[vr a0b, vi (own_n (2 * px + 1)), vi c0] [(.int c0), (.int (own_n (2 * px + 1))), (.ref a0b)] _
    refine st4 _ ?_
    show SP p e below T4 m 50 #[vr a0b, vi (own_n (2 * px + 1)), vi c0] [(.int 8), (.int c0), (.int (own_n (2 * px + 1))), (.ref a0b)] _
    refine XS.ishr X4.here hx rfl (dG hby D41 18 rfl) rfl ?_
    refine XS.i2b X4.here hx rfl (dG hby D41 19 rfl) rfl ?_
    show SP p e below T4 m 52 #[vr a0b, vi (own_n (2 * px + 1)), vi c0] [(.int ((c0 >>> ((8 : Int32) &&& 31)).toInt8.toInt32)), (.int (own_n (2 * px + 1))), (.ref a0b)] _
    refine st5 _ ?_
    show SP p e below T5 m 53 #[vr a0b, vi (own_n (2 * px + 1)), vi c0] [] _
    exact X5.returnOut hx Bd.returns (dG hby D41 21 rfl) hr
  · show Q_rmPcU n0 Z cS vF a0b c0 k0 ds px dc h0 _ T5.heap _
    rw [e5]
    exact ⟨rfl, N5, K5, Vq⟩
theorem D49 : dL jdk_41_method_13_code [(0, .iload_n 2, 1), (1, .iload_n 0, 1), (2, .ior, 1), (3, .iload_n 1, 1), (4, .ior, 1), (5, .ifCond .lt 10, 3), (8, .iload_n 1, 1), (9, .iload_n 2, 1), (10, .iload_n 0, 1), (11, .isub, 1), (12, .if_icmp .le 11, 3), (23, .iload_n 0, 1), (24, .ireturn, 1)] = true := by decide +kernel
abbrev MN_12 : MethodName := ⟨"jdk/internal/util/Preconditions", "checkFromIndexSize", "(IIILjava/util/function/BiFunction;)I"⟩
theorem ef_rmCf (m : MethodId) (p0 : Int32) (p1 : Int32) {vF : Value} (hv : vF.isRef = true) : entryFrame m #[(.int p0), (.int p1), (.int 16), vF] 4 = mkF m 0 #[vi p0, vi p1, vi (16 : Int32), .val vF] [] := by rcases ref_cases hv with rfl | ⟨z, rfl⟩ <;> first | (simp [entryFrame, mkF, argsToLocals, Value.category]; done) | rfl
def Q_rmCf (n0 : Nat) (Z : State) (cS : Int32) (vF : Value) (p0 : Int32) (p1 : Int32) (h0 : Heap) (v : Option Value) (h : Heap) (L : List Loc) : Prop := v = some (.int p0) ∧ Fr n0 L ∧ h = h0
theorem rmCf (l : Launch) (Z : State) (a0 : Array Value) (hw : ∀ d ∈ tables_1, d.before a0 Z = true) (ws : List Jvm.Cond) (cS : Int32) (vF : Value) (p0 : Int32) (p1 : Int32) (h0 : Heap) (n0 : Nat) (O0 : Old Z n0 h0) (GL : GF Z cS vF) (hor : ¬ ((((16 : Int32) ||| p0) ||| p1) < (0 : Int32))) (hsu : ¬ (((16 : Int32) - p0) < p1)) :
    MF l MN_12 jdk_41_method_13_code 4 (some .int) ws (Rm 0 0 0 0) #[(.int p0), (.int p1), (.int 16), vF] Z h0 (Q_rmCf n0 Z cS vF p0 p1 h0) := by
  refine MetFree.of_bodySF (plainFor_of_name pnv1) hisR ?_
  intro p e s m args below meth c s₁ Bd hml0 hP hK
  obtain ⟨rfl, hZ, hh⟩ := hP
  have hx := Bd.exec
  have hby := Bd.bytes
  have hml : c.maxLocals = 4 := hml0
  have hown : s.vm.findClass "jdk/internal/util/Preconditions" = some m.cls := findClass_of_methodNamed Bd.named
  have hnm := (name_of_methodNamed Bd.named Bd.method).1
  have X0 : Stand p l e (Rm 0 0 0 0) s m #[(.int p0), (.int p1), (.int 16), vF] below meth c s₁ [] 0 0 := Stand.of_body Bd
  have e0 : s₁.heap = h0 := by rw [← hh, Bd.state]; rfl
  have N0 := Fr.nil n0
  have GL' := GL
  obtain ⟨GCS, GCP, GA16, GHI, GLO, GFF, GVF⟩ := GL'
  have pre0 : ∀ t, SP p e below s₁ m 0 #[vi p0, vi p1, vi (16 : Int32), .val vF] [] t → Steps p.tables e below (s₁.setTop (entryFrame m #[(.int p0), (.int p1), (.int 16), vF] 4)) t := fun t k => castTop (ef_rmCf m p0 p1 GVF) k
  obtain ⟨fs, hr, hrun, hended, hW, hsame⟩ := X0.leave (v := some (.int p0)) (fun h => by rw [Bd.returns] at h; cases h)
  refine ⟨_, _, pre0 _ ?_, hrun, hended, _, _, rfl, ?_, ⟨_, rfl⟩, hW, hsame.mono (by decide) (by decide)⟩
  · show SP p e below s₁ m 0 #[vi p0, vi p1, vi (16 : Int32), .val vF] [] _
    refine XS.iloadN X0.here hx rfl (dG hby D49 0 rfl) rfl ?_
    refine XS.iloadN X0.here hx rfl (dG hby D49 1 rfl) rfl ?_
    refine XS.ior X0.here hx rfl (dG hby D49 2 rfl) rfl ?_
    refine XS.iloadN X0.here hx rfl (dG hby D49 3 rfl) rfl ?_
    refine XS.ior X0.here hx rfl (dG hby D49 4 rfl) rfl ?_
    refine XS.ifNo X0.here hx rfl (dG hby D49 5 rfl) rfl ((if0 _ _).trans (flt hor).1) ?_
    refine XS.iloadN X0.here hx rfl (dG hby D49 6 rfl) rfl ?_
    refine XS.iloadN X0.here hx rfl (dG hby D49 7 rfl) rfl ?_
    show SP p e below s₁ m 10 #[vi p0, vi p1, vi (16 : Int32), .val vF] [(.int 16), (.int p1)] _
    refine XS.iloadN X0.here hx rfl (dG hby D49 8 rfl) rfl ?_
    refine XS.isub X0.here hx rfl (dG hby D49 9 rfl) rfl ?_
    refine XS.icmpYes X0.here hx rfl (pc0 := 12) (pc' := 23) rfl (dG hby D49 10 rfl) rfl (flt hsu).2.2.2 (by decide) (by decide) ?_
    refine XS.iloadN X0.here hx rfl (dG hby D49 11 rfl) rfl ?_
    show SP p e below s₁ m 24 #[vi p0, vi p1, vi (16 : Int32), .val vF] [(.int p0)] _
    exact retI X0 hx Bd.returns (dG hby D49 12 rfl) hr
  · show Q_rmCf n0 Z cS vF p0 p1 h0 _ s₁.heap _
    rw [e0]
    exact ⟨rfl, N0, rfl⟩
theorem D48 : dL jdk_42_method_157_code [(0, .iload_n 0, 1), (1, .iload_n 1, 1), (2, .iload_n 2, 1), (3, .getstatic 1053, 3), (6, .invokestatic 1065, 3), (9, .ireturn, 1)] = true := by decide +kernel
theorem pdv7 : parseMethodDescriptor "(IIILjava/util/function/BiFunction;)I" = some ⟨[.int, .int, .int, (.object "java/util/function/BiFunction")], some .int⟩ := by decide +kernel
abbrev MN_13 : MethodName := ⟨"java/lang/String", "checkBoundsOffCount", "(III)I"⟩
theorem ef_rmCb (m : MethodId) (p0 : Int32) (p1 : Int32) : entryFrame m #[(.int p0), (.int p1), (.int 16)] 3 = mkF m 0 #[vi p0, vi p1, vi (16 : Int32)] [] := by first | (simp [entryFrame, mkF, argsToLocals, Value.category]; done) | rfl
def Q_rmCb (n0 : Nat) (Z : State) (cS : Int32) (vF : Value) (p0 : Int32) (p1 : Int32) (h0 : Heap) (v : Option Value) (h : Heap) (L : List Loc) : Prop := v = some (.int p0) ∧ Fr n0 L ∧ h = h0
theorem rmCb (l : Launch) (Z : State) (a0 : Array Value) (hw : ∀ d ∈ tables_1, d.before a0 Z = true) (ws : List Jvm.Cond) (cS : Int32) (vF : Value) (p0 : Int32) (p1 : Int32) (h0 : Heap) (n0 : Nat) (O0 : Old Z n0 h0) (GL : GF Z cS vF) (hor : ¬ ((((16 : Int32) ||| p0) ||| p1) < (0 : Int32))) (hsu : ¬ (((16 : Int32) - p0) < p1)) :
    MF l MN_13 jdk_42_method_157_code 3 (some .int) ws (Rm 1 0 0 15) #[(.int p0), (.int p1), (.int 16)] Z h0 (Q_rmCb n0 Z cS vF p0 p1 h0) := by
  refine MetFree.of_bodySF (plainFor_of_name pn) hisR ?_
  intro p e s m args below meth c s₁ Bd hml0 hP hK
  obtain ⟨rfl, hZ, hh⟩ := hP
  have hx := Bd.exec
  have hby := Bd.bytes
  have hml : c.maxLocals = 3 := hml0
  have hown : s.vm.findClass "java/lang/String" = some m.cls := findClass_of_methodNamed Bd.named
  have hnm := (name_of_methodNamed Bd.named Bd.method).1
  have X0 : Stand p l e (Rm 1 0 0 15) s m #[(.int p0), (.int p1), (.int 16)] below meth c s₁ [] 0 0 := Stand.of_body Bd
  have e0 : s₁.heap = h0 := by rw [← hh, Bd.state]; rfl
  have N0 := Fr.nil n0
  have pre0 : ∀ t, SP p e below s₁ m 0 #[vi p0, vi p1, vi (16 : Int32)] [] t → Steps p.tables e below (s₁.setTop (entryFrame m #[(.int p0), (.int p1), (.int 16)] 3)) t := fun t k => castTop (ef_rmCb m p0 p1) k
  have GL' := GL
  obtain ⟨GCS, GCP, GA16, GHI, GLO, GFF, GVF⟩ := GL'
  obtain ⟨T1, X1, e1, st1⟩ := getS2 X0 hx hZ hown (host := "") (Or.inl (Wd hw 181 rfl)) Via.refl e0 (GFF.ext O0.2) (g := mkF m 3 #[vi p0, vi p1, vi (16 : Int32)] [(.int 16), (.int p1), (.int p0)]) rfl (dG hby D48 3 rfl)
  obtain ⟨_, _, ⟨T2, L2, k2, n2⟩, -, X2, ⟨Lc2, hQ2, l2, y2, z2⟩, st2⟩ := Jvm.LawKit.callS X1 hx (y := MN_12) hown (mvT hZ (Wd hw 237 rfl)) (mvT hZ (Wd hw 238 rfl)) (mvT hZ (Wd hw 182 rfl)) (mvT hZ (Wd hw 239 rfl)) (by decide) (backOf (W := 0) (rmCf l Z a0 hw [] cS vF p0 p1 h0 n0 O0 GL hor hsu) hZ (Wd hw 239 rfl) (Wd hw 182 rfl) (by decide) (by decide)) (g := mkF m 6 #[vi p0, vi p1, vi (16 : Int32)] [vF, (.int 16), (.int p1), (.int p0)]) rfl (by rw [hml]; rfl) (argsL := [(.int p0), (.int p1), (.int 16), vF]) (rest := []) (lenOf pdv7 rfl) rfl (by show 2 * 0 + _ ≤ _; exact lEq rfl) (dG hby D48 4 rfl) (fun _ _ => ⟨rfl, e1, (by decide : 0 + 0 ≤ _), (by decide : 0 + 0 ≤ _)⟩)
  dsimp only [Pt.U, Pt.locs, Pt.cells, Pt.slots] at X2 l2 y2 z2 st2 hQ2
  subst l2 y2 z2
  obtain ⟨rfl, N2q, e2⟩ := hQ2
  have N2 := Fr.app N0 N2q
  obtain ⟨fs, hr, hrun, hended, hW, hsame⟩ := X2.leave (v := some (.int p0)) (fun h => by rw [Bd.returns] at h; cases h)
  refine ⟨_, _, pre0 _ ?_, hrun, hended, _, _, rfl, ?_, ⟨_, rfl⟩, hW, hsame.mono (by decide) (by decide)⟩
  · show SP p e below s₁ m 0 #[vi p0, vi p1, vi (16 : Int32)] [] _
    refine XS.iloadN X0.here hx rfl (dG hby D48 0 rfl) rfl ?_
    refine XS.iloadN X0.here hx rfl (dG hby D48 1 rfl) rfl ?_
    refine XS.iloadN X0.here hx rfl (dG hby D48 2 rfl) rfl ?_
    show SP p e below s₁ m 3 #[vi p0, vi p1, vi (16 : Int32)] [(.int 16), (.int p1), (.int p0)] _
    refine st1 _ ?_
    show SP p e below T1 m 6 #[vi p0, vi p1, vi (16 : Int32)] [vF, (.int 16), (.int p1), (.int p0)] _
    refine st2 _ ?_
    show SP p e below T2 m 9 #[vi p0, vi p1, vi (16 : Int32)] [(.int p0)] _
    exact retI X2 hx Bd.returns (dG hby D48 5 rfl) hr
  · show Q_rmCb n0 Z cS vF p0 p1 h0 _ T2.heap _
    rw [e2]
    exact ⟨rfl, N2, rfl⟩
theorem D46 : dL jdk_52_method_94_code [(0, .iload_n 0, 1), (1, .iload_n 1, 1), (2, .aload_n 2, 1), (3, .invokestatic 48, 3), (6, .invokestatic 419, 3), (9, .pop, 1), (10, .return_, 1)] = true := by decide +kernel
theorem pdv8 : parseMethodDescriptor "(III)I" = some ⟨[.int, .int, .int], some .int⟩ := by decide +kernel
abbrev MN_14 : MethodName := ⟨"java/lang/StringUTF16", "checkBoundsOffCount", "(II[B)V"⟩
theorem ef_rmCu (m : MethodId) (p0 : Int32) (p1 : Int32) (a2b : Addr) : entryFrame m #[(.int p0), (.int p1), (.ref a2b)] 3 = mkF m 0 #[vi p0, vi p1, vr a2b] [] := by first | (simp [entryFrame, mkF, argsToLocals, Value.category]; done) | rfl
def Q_rmCu (n0 : Nat) (Z : State) (cS : Int32) (vF : Value) (p0 : Int32) (p1 : Int32) (a2b : Addr) (k0 : ClassId) (ds : List Value) (h0 : Heap) (v : Option Value) (h : Heap) (L : List Loc) : Prop := v = none ∧ Fr n0 L ∧ h = h0
theorem rmCu (l : Launch) (Z : State) (a0 : Array Value) (hw : ∀ d ∈ tables_1, d.before a0 Z = true) (ws : List Jvm.Cond) (cS : Int32) (vF : Value) (p0 : Int32) (p1 : Int32) (a2b : Addr) (k0 : ClassId) (ds : List Value) (h0 : Heap) (n0 : Nat) (O0 : Old Z n0 h0) (GL : GF Z cS vF) (V_a2b : Arv Z h0 a2b k0 .byte (32 : Int32) ds (.int 0)) (hor : ¬ ((((16 : Int32) ||| p0) ||| p1) < (0 : Int32))) (hsu : ¬ (((16 : Int32) - p0) < p1)) :
    MF l MN_14 jdk_52_method_94_code 3 none ws (Rm 2 0 0 29) #[(.int p0), (.int p1), (.ref a2b)] Z h0 (Q_rmCu n0 Z cS vF p0 p1 a2b k0 ds h0) := by
  refine MetFree.of_bodySF (plainFor_of_name pnv2) hisR ?_
  intro p e s m args below meth c s₁ Bd hml0 hP hK
  obtain ⟨rfl, hZ, hh⟩ := hP
  have hx := Bd.exec
  have hby := Bd.bytes
  have hml : c.maxLocals = 3 := hml0
  have hown : s.vm.findClass "java/lang/StringUTF16" = some m.cls := findClass_of_methodNamed Bd.named
  have hnm := (name_of_methodNamed Bd.named Bd.method).1
  have X0 : Stand p l e (Rm 2 0 0 29) s m #[(.int p0), (.int p1), (.ref a2b)] below meth c s₁ [] 0 0 := Stand.of_body Bd
  have e0 : s₁.heap = h0 := by rw [← hh, Bd.state]; rfl
  have N0 := Fr.nil n0
  have pre0 : ∀ t, SP p e below s₁ m 0 #[vi p0, vi p1, vr a2b] [] t → Steps p.tables e below (s₁.setTop (entryFrame m #[(.int p0), (.int p1), (.ref a2b)] 3)) t := fun t k => castTop (ef_rmCu m p0 p1 a2b) k
  have GL' := GL
  obtain ⟨GCS, GCP, GA16, GHI, GLO, GFF, GVF⟩ := GL'
  obtain ⟨_, _, ⟨T1, L1, k1, n1⟩, -, X1, ⟨Lc1, hQ1, l1, y1, z1⟩, st1⟩ := Jvm.LawKit.callS X0 hx (y := MN_5) hown (mvT hZ (Wd hw 231 rfl)) (mvT hZ (Wd hw 232 rfl)) (mvT hZ (Wd hw 188 rfl)) (mvT hZ (Wd hw 233 rfl)) (by decide) (backOf (W := 2) (rmUl0 l Z a0 hw [] cS vF a2b k0 ds h0 n0 O0 GL V_a2b) hZ (Wd hw 233 rfl) (Wd hw 188 rfl) (by decide) (by decide)) (g := mkF m 3 #[vi p0, vi p1, vr a2b] [(.ref a2b), (.int p1), (.int p0)]) rfl (by rw [hml]; rfl) (argsL := [(.ref a2b)]) (rest := [(.int p1), (.int p0)]) (lenOf pdv2 rfl) rfl (by show 2 * 0 + _ ≤ _; exact lEq rfl) (dG hby D46 3 rfl) (fun _ _ => ⟨rfl, e0, (by decide : 0 + 0 ≤ _), (by decide : 0 + 0 ≤ _)⟩)
  dsimp only [Pt.U, Pt.locs, Pt.cells, Pt.slots] at X1 l1 y1 z1 st1 hQ1
  subst l1 y1 z1
  obtain ⟨rfl, N1q, e1⟩ := hQ1
  have N1 := Fr.app N0 N1q
  obtain ⟨_, _, ⟨T2, L2, k2, n2⟩, -, X2, ⟨Lc2, hQ2, l2, y2, z2⟩, st2⟩ := Jvm.LawKit.callS X1 hx (y := MN_13) hown (mvT hZ (Wd hw 234 rfl)) (mvT hZ (Wd hw 235 rfl)) (mvT hZ (Wd hw 11 rfl)) (mvT hZ (Wd hw 236 rfl)) (by decide) (backOf (W := 0) (rmCb l Z a0 hw [] cS vF p0 p1 h0 n0 O0 GL hor hsu) hZ (Wd hw 236 rfl) (Wd hw 11 rfl) (by decide) (by decide)) (g := mkF m 6 #[vi p0, vi p1, vr a2b] [(.int 16), (.int p1), (.int p0)]) rfl (by rw [hml]; rfl) (argsL := [(.int p0), (.int p1), (.int 16)]) (rest := []) (lenOf pdv8 rfl) rfl (by show 2 * 0 + _ ≤ _; exact lEq rfl) (dG hby D46 4 rfl) (fun _ _ => ⟨rfl, e1, (by decide : 0 + 0 ≤ _), (by decide : 0 + 0 ≤ _)⟩)
  dsimp only [Pt.U, Pt.locs, Pt.cells, Pt.slots] at X2 l2 y2 z2 st2 hQ2
  subst l2 y2 z2
  obtain ⟨rfl, N2q, e2⟩ := hQ2
  have N2 := Fr.app N1 N2q
  obtain ⟨fs, hr, hrun, hended, hW, hsame⟩ := X2.leave (v := none) (fun _ => rfl)
  refine ⟨_, _, pre0 _ ?_, hrun, hended, _, _, rfl, ?_, ⟨_, rfl⟩, hW, hsame.mono (by decide) (by decide)⟩
  · show SP p e below s₁ m 0 #[vi p0, vi p1, vr a2b] [] _
    refine XS.iloadN X0.here hx rfl (dG hby D46 0 rfl) rfl ?_
    refine XS.iloadN X0.here hx rfl (dG hby D46 1 rfl) rfl ?_
    refine XS.aloadN X0.here hx rfl (dG hby D46 2 rfl) rfl rfl ?_
    show SP p e below s₁ m 3 #[vi p0, vi p1, vr a2b] [(.ref a2b), (.int p1), (.int p0)] _
    refine st1 _ ?_
    show SP p e below T1 m 6 #[vi p0, vi p1, vr a2b] [(.int 16), (.int p1), (.int p0)] _
    refine st2 _ ?_
    show SP p e below T2 m 9 #[vi p0, vi p1, vr a2b] [(.int p0)] _
    refine XS.pop X2.here hx rfl (dG hby D46 5 rfl) rfl rfl ?_
    show SP p e below T2 m 10 #[vi p0, vi p1, vr a2b] [] _
    exact X2.returnOut hx Bd.returns (dG hby D46 6 rfl) hr
  · show Q_rmCu n0 Z cS vF p0 p1 a2b k0 ds h0 _ T2.heap _
    rw [e2]
    exact ⟨rfl, N2, rfl⟩
theorem D45 : dL jdk_52_method_86_code [(0, .iload_n 3, 1), (1, .iload 4, 2), (3, .aload_n 2, 1), (4, .invokestatic 173, 3), (7, .iconst 0, 1), (8, .istore 5, 2), (10, .iload 5, 2), (12, .iload 4, 2), (14, .if_icmp .ge 27, 3), (17, .aload_n 2, 1), (18, .iload_n 3, 1), (19, .iinc 3 1, 3), (22, .aload_n 0, 1), (23, .iload_n 1, 1), (24, .iinc 1 1, 3), (27, .baload, 1), (28, .sipush 255, 3), (31, .iand, 1), (32, .invokestatic 111, 3), (35, .iinc 5 1, 3), (38, .goto (-28), 3), (41, .return_, 1)] = true := by decide +kernel
theorem pdv9 : parseMethodDescriptor "(II[B)V" = some ⟨[.int, .int, (.array .byte)], none⟩ := by decide +kernel
theorem pdv10 : parseMethodDescriptor "([BII)V" = some ⟨[(.array .byte), .int, .int], none⟩ := by decide +kernel
abbrev MN_15 : MethodName := ⟨"java/lang/StringUTF16", "inflate", "([BI[BII)V"⟩
theorem ef_rmInU (m : MethodId) (a0b : Addr) (a2b : Addr) {dn : Nat} {mm : Nat} : entryFrame m #[(.ref a0b), (.int 0), (.ref a2b), (.int (own_n dn)), (.int (own_n mm))] 6 = mkF m 0 #[vr a0b, vi (0 : Int32), vr a2b, vi (own_n dn), vi (own_n mm), .unset] [] := by first | (simp [entryFrame, mkF, argsToLocals, Value.category]; done) | rfl
def Q_rmInU (n0 : Nat) (Z : State) (cS : Int32) (vF : Value) (a0b : Addr) (a2b : Addr) (sk : ClassId) (sl : Int32) (ss : List Value) (sf : Nat → Int32) (k0 : ClassId) (ds : List Value) (dn : Nat) (mm : Nat) (h0 : Heap) (v : Option Value) (h : Heap) (L : List Loc) : Prop := v = none ∧ Fr n0 L ∧ Keep h0 h [a2b] ∧ (Arv Z h a2b k0 .byte (32 : Int32) (own_inf ds dn sf mm) (.int 0))
theorem rmInU (l : Launch) (Z : State) (a0 : Array Value) (hw : ∀ d ∈ tables_1, d.before a0 Z = true) (ws : List Jvm.Cond) (cS : Int32) (vF : Value) (a0b : Addr) (a2b : Addr) (sk : ClassId) (sl : Int32) (ss : List Value) (sf : Nat → Int32) (k0 : ClassId) (ds : List Value) (dn : Nat) (mm : Nat) (h0 : Heap) (n0 : Nat) (O0 : Old Z n0 h0) (GL : GF Z cS vF) (V_a0b : Arv Z h0 a0b sk .byte sl ss (.int 0)) (V_a2b : Arv Z h0 a2b k0 .byte (32 : Int32) ds (.int 0)) (hdl : ds.length = 32) (g_a2b : n0 ≤ a2b) (ne_a0b_a2b : a0b ≠ a2b) (hsx : own_L ss mm sf) (hm5 : mm ≤ 5) (hsum : dn + mm ≤ 8) (hsl : mm ≤ sl.toNatClampNeg) (hs0 : ¬ (sl < (0 : Int32))) :
    MF l MN_15 jdk_52_method_86_code 6 none ws (Rm 3 0 0 43) #[(.ref a0b), (.int 0), (.ref a2b), (.int (own_n dn)), (.int (own_n mm))] Z h0 (Q_rmInU n0 Z cS vF a0b a2b sk sl ss sf k0 ds dn mm h0) := by
  refine MetFree.of_bodySF (plainFor_of_name pnv2) hisR ?_
  intro p e s m args below meth c s₁ Bd hml0 hP hK
  obtain ⟨rfl, hZ, hh⟩ := hP
  have hx := Bd.exec
  have hby := Bd.bytes
  have hml : c.maxLocals = 6 := hml0
  have hown : s.vm.findClass "java/lang/StringUTF16" = some m.cls := findClass_of_methodNamed Bd.named
  have hnm := (name_of_methodNamed Bd.named Bd.method).1
  have X0 : Stand p l e (Rm 3 0 0 43) s m #[(.ref a0b), (.int 0), (.ref a2b), (.int (own_n dn)), (.int (own_n mm))] below meth c s₁ [] 0 0 := Stand.of_body Bd
  have e0 : s₁.heap = h0 := by rw [← hh, Bd.state]; rfl
  have N0 := Fr.nil n0
  have pre0 : ∀ t, SP p e below s₁ m 0 #[vr a0b, vi (0 : Int32), vr a2b, vi (own_n dn), vi (own_n mm), .unset] [] t → Steps p.tables e below (s₁.setTop (entryFrame m #[(.ref a0b), (.int 0), (.ref a2b), (.int (own_n dn)), (.int (own_n mm))] 6)) t := fun t k => castTop (ef_rmInU m a0b a2b) k
  have GL' := GL
  obtain ⟨GCS, GCP, GA16, GHI, GLO, GFF, GVF⟩ := GL'
  obtain ⟨_, _, ⟨T1, L1, k1, n1⟩, -, X1, ⟨Lc1, hQ1, l1, y1, z1⟩, st1⟩ := Jvm.LawKit.callS X0 hx (y := MN_14) hown (mvT hZ (Wd hw 228 rfl)) (mvT hZ (Wd hw 229 rfl)) (mvT hZ (Wd hw 188 rfl)) (mvT hZ (Wd hw 230 rfl)) (by decide) (backOf (W := 0) (rmCu l Z a0 hw [] cS vF ((own_n dn)) ((own_n mm)) a2b k0 ds h0 n0 O0 GL V_a2b (own_or_nn (a := 16) (b := dn) (c := mm) (by omega) (by omega) (by omega)) (own_sub_lt (a := 16) (b := dn) (by omega) (by omega))) hZ (Wd hw 230 rfl) (Wd hw 188 rfl) (by decide) (by decide)) (g := mkF m 4 #[vr a0b, vi (0 : Int32), vr a2b, vi (own_n dn), vi (own_n mm), .unset] [(.ref a2b), (.int (own_n mm)), (.int (own_n dn))]) rfl (by rw [hml]; rfl) (argsL := [(.int (own_n dn)), (.int (own_n mm)), (.ref a2b)]) (rest := []) (lenOf pdv9 rfl) rfl (by show 2 * 0 + _ ≤ _; exact lEq rfl) (dG hby D45 3 rfl) (fun _ _ => ⟨rfl, e0, (by decide : 0 + 0 ≤ _), (by decide : 0 + 0 ≤ _)⟩)
  dsimp only [Pt.U, Pt.locs, Pt.cells, Pt.slots] at X1 l1 y1 z1 st1 hQ1
  subst l1 y1 z1
  obtain ⟨rfl, N1q, e1⟩ := hQ1
  have N1 := Fr.app N0 N1q
  have pre3 : ∀ t, SP p e below T1 m 14 #[vr a0b, vi (0 : Int32), vr a2b, vi (own_n dn), vi (own_n mm), vi (0 : Int32)] [(.int (own_n mm)), (.int 0)] t → Steps p.tables e below (s₁.setTop (entryFrame m #[(.ref a0b), (.int 0), (.ref a2b), (.int (own_n dn)), (.int (own_n mm))] 6)) t := fun t kt => by
    refine pre0 t ?_
    show SP p e below s₁ m 0 #[vr a0b, vi (0 : Int32), vr a2b, vi (own_n dn), vi (own_n mm), .unset] [] _
    refine XS.iloadN X0.here hx rfl (dG hby D45 0 rfl) rfl ?_
    refine XS.iload X0.here hx rfl (dG hby D45 1 rfl) rfl ?_
    refine XS.aloadN X0.here hx rfl (dG hby D45 2 rfl) rfl rfl ?_
    show SP p e below s₁ m 4 #[vr a0b, vi (0 : Int32), vr a2b, vi (own_n dn), vi (own_n mm), .unset] [(.ref a2b), (.int (own_n mm)), (.int (own_n dn))] _
    refine st1 _ ?_
    show SP p e below T1 m 7 #[vr a0b, vi (0 : Int32), vr a2b, vi (own_n dn), vi (own_n mm), .unset] [] _
    refine XS.iconst X1.here hx rfl (dG hby D45 4 rfl) ?_
    refine XS.istore X1.here hx rfl (dG hby D45 5 rfl) rfl (l' := #[vr a0b, vi (0 : Int32), vr a2b, vi (own_n dn), vi (own_n mm), vi (0 : Int32)]) rfl ?_
    refine XS.iload X1.here hx rfl (dG hby D45 6 rfl) rfl ?_
    refine XS.iload X1.here hx rfl (dG hby D45 7 rfl) rfl ?_
    exact kt
  by_cases hc14_2 : (0 : Int32) < (own_n mm)
  · have hk0 : 0 < mm := own_ml (k := 0) (by decide) (by omega) hc14_2
    have hn0 : nar .char (sf 0) = (sf 0) := (hsx 0 hk0).1
    have hl0 : ¬ ((255 : Int32) < (sf 0)) := (hsx 0 hk0).2.1
    have hi0 : (0 : Int32) < sl := (own_ltsl (k := 0) hk0 hm5 hsl hs0)
    obtain ⟨cl4, Ar4, -, S4, N4_, H4, G4⟩ := id (V_a0b)
    have hin4 : ¬ ((0 : Int32) < 0 ∨ cl4.slots.size ≤ ((0 : Int32)).toNatClampNeg) := inb_of S4 ⟨(by decide), hi0⟩
    have hat4 : cl4.slots[((0 : Int32)).toNatClampNeg]? = some (.int ((sf 0).toInt8.toInt32)) := H4.at hin4 (hsx 0 hk0).2.2
    obtain ⟨_, _, ⟨T5, L5, k5, n5⟩, -, X5, ⟨Lc5, hQ5, l5, y5, z5⟩, st5⟩ := Jvm.LawKit.callS X1 hx (y := MN_11) hown (mvT hZ (Wd hw 206 rfl)) (mvT hZ (Wd hw 207 rfl)) (mvT hZ (Wd hw 188 rfl)) (mvT hZ (Wd hw 208 rfl)) (by decide) (backOf (W := 0) (rmPcU l Z a0 hw [] cS vF a2b ((sf 0)) k0 ds dn 32 h0 n0 O0 GL V_a2b hdl (by omega) (by decide) g_a2b) hZ (Wd hw 208 rfl) (Wd hw 188 rfl) (by decide) (by decide)) (g := mkF m 32 #[vr a0b, vi (1 : Int32), vr a2b, vi (own_n (dn + 1)), vi (own_n mm), vi (0 : Int32)] [(.int (sf 0)), (.int (own_n dn)), (.ref a2b)]) rfl (by rw [hml]; rfl) (argsL := [(.ref a2b), (.int (own_n dn)), (.int (sf 0))]) (rest := []) (lenOf pdv10 rfl) rfl (by show 2 * 0 + _ ≤ _; exact lEq rfl) (dG hby D45 18 rfl) (fun _ _ => ⟨rfl, e1, (by decide : 0 + 0 ≤ _), (by decide : 0 + 0 ≤ _)⟩)
    dsimp only [Pt.U, Pt.locs, Pt.cells, Pt.slots] at X5 l5 y5 z5 st5 hQ5
    subst l5 y5 z5
    obtain ⟨rfl, N5q, Kc5, P5_0⟩ := hQ5
    have K5 : Keep h0 T5.heap [a2b] := (Keep.refl h0 [a2b]).trans Kc5 (allS (Or.inl (List.mem_of_getElem? (i := 0) rfl)) all0)
    have O5 := O0.keep Kc5 (allS g_a2b all0)
    have N5 := Fr.app N1 N5q
    have pre7 : ∀ t, SP p e below T5 m 14 #[vr a0b, vi (1 : Int32), vr a2b, vi (own_n (dn + 1)), vi (own_n mm), vi (1 : Int32)] [(.int (own_n mm)), (.int 1)] t → Steps p.tables e below (s₁.setTop (entryFrame m #[(.ref a0b), (.int 0), (.ref a2b), (.int (own_n dn)), (.int (own_n mm))] 6)) t := fun t kt => by
      refine pre3 t ?_
      show SP p e below T1 m 14 #[vr a0b, vi (0 : Int32), vr a2b, vi (own_n dn), vi (own_n mm), vi (0 : Int32)] [(.int (own_n mm)), (.int 0)] _
      refine XS.icmpNo X1.here hx rfl (dG hby D45 8 rfl) rfl (tlt hc14_2).2.1 ?_
      refine XS.aloadN X1.here hx rfl (dG hby D45 9 rfl) rfl rfl ?_
      refine XS.iloadN X1.here hx rfl (dG hby D45 10 rfl) rfl ?_
      show SP p e below T1 m 19 #[vr a0b, vi (0 : Int32), vr a2b, vi (own_n dn), vi (own_n mm), vi (0 : Int32)] [(.int (own_n dn)), (.ref a2b)] _
      refine XS.iinc X1.here hx rfl (dG hby D45 11 rfl) rfl (l' := #[vr a0b, vi (0 : Int32), vr a2b, vi ((own_n dn) + (1 : Int32)), vi (own_n mm), vi (0 : Int32)]) rfl ?_
      rw [own_n_add1 dn]
      show SP p e below T1 m 22 #[vr a0b, vi (0 : Int32), vr a2b, vi (own_n (dn + 1)), vi (own_n mm), vi (0 : Int32)] [(.int (own_n dn)), (.ref a2b)] _
      refine XS.aloadN X1.here hx rfl (dG hby D45 12 rfl) rfl rfl ?_
      refine XS.iloadN X1.here hx rfl (dG hby D45 13 rfl) rfl ?_
      refine XS.iinc X1.here hx rfl (dG hby D45 14 rfl) rfl (l' := #[vr a0b, vi (1 : Int32), vr a2b, vi (own_n (dn + 1)), vi (own_n mm), vi (0 : Int32)]) rfl ?_
      show SP p e below T1 m 27 #[vr a0b, vi (1 : Int32), vr a2b, vi (own_n (dn + 1)), vi (own_n mm), vi (0 : Int32)] [(.int 0), (.ref a0b), (.int (own_n dn)), (.ref a2b)] _
      refine X1.baloadBytes hx (j := (0 : Int32)) (v := (.int ((sf 0).toInt8.toInt32))) (by rw [e1]; exact Ar4.1) (State.isArrayOf_alike hZ.alike Ar4.2.1) Ar4.2.2 hin4 hat4 (g := mkF m 27 #[vr a0b, vi (1 : Int32), vr a2b, vi (own_n (dn + 1)), vi (own_n mm), vi (0 : Int32)] [(.int 0), (.ref a0b), (.int (own_n dn)), (.ref a2b)]) rfl rfl (dG hby D45 15 rfl) _ ?_
      show SP p e below T1 m 28 #[vr a0b, vi (1 : Int32), vr a2b, vi (own_n (dn + 1)), vi (own_n mm), vi (0 : Int32)] [(.int ((sf 0).toInt8.toInt32)), (.int (own_n dn)), (.ref a2b)] _
      refine XS.sipush X1.here hx rfl (dG hby D45 16 rfl) ?_
      show SP p e below T1 m 31 #[vr a0b, vi (1 : Int32), vr a2b, vi (own_n (dn + 1)), vi (own_n mm), vi (0 : Int32)] [(.int 255), (.int ((sf 0).toInt8.toInt32)), (.int (own_n dn)), (.ref a2b)] _
      refine XS.iand X1.here hx rfl (dG hby D45 17 rfl) rfl ?_
      rw [own_mask hn0 hl0]
      show SP p e below T1 m 32 #[vr a0b, vi (1 : Int32), vr a2b, vi (own_n (dn + 1)), vi (own_n mm), vi (0 : Int32)] [(.int (sf 0)), (.int (own_n dn)), (.ref a2b)] _
      refine st5 _ ?_
      show SP p e below T5 m 35 #[vr a0b, vi (1 : Int32), vr a2b, vi (own_n (dn + 1)), vi (own_n mm), vi (0 : Int32)] [] _
      refine XS.iinc X5.here hx rfl (dG hby D45 19 rfl) rfl (l' := #[vr a0b, vi (1 : Int32), vr a2b, vi (own_n (dn + 1)), vi (own_n mm), vi (1 : Int32)]) rfl ?_
      refine XS.goto X5.here hx rfl (pc0 := 38) (pc' := 10) rfl (dG hby D45 20 rfl) (by decide) (by decide) ?_
      refine XS.iload X5.here hx rfl (dG hby D45 6 rfl) rfl ?_
      refine XS.iload X5.here hx rfl (dG hby D45 7 rfl) rfl ?_
      exact kt
    by_cases hc14_6 : (1 : Int32) < (own_n mm)
    · have hk1 : 1 < mm := own_ml (k := 1) (by decide) (by omega) hc14_6
      have hn1 : nar .char (sf 1) = (sf 1) := (hsx 1 hk1).1
      have hl1 : ¬ ((255 : Int32) < (sf 1)) := (hsx 1 hk1).2.1
      have hi1 : (1 : Int32) < sl := (own_ltsl (k := 1) hk1 hm5 hsl hs0)
      obtain ⟨cl8, Ar8, -, S8, N8_, H8, G8⟩ := id ((V_a0b.keep Kc5 (ninS ne_a0b_a2b nin0)))
      have hin8 : ¬ ((1 : Int32) < 0 ∨ cl8.slots.size ≤ ((1 : Int32)).toNatClampNeg) := inb_of S8 ⟨(by decide), hi1⟩
      have hat8 : cl8.slots[((1 : Int32)).toNatClampNeg]? = some (.int ((sf 1).toInt8.toInt32)) := H8.at hin8 (hsx 1 hk1).2.2
      obtain ⟨_, _, ⟨T9, L9, k9, n9⟩, -, X9, ⟨Lc9, hQ9, l9, y9, z9⟩, st9⟩ := Jvm.LawKit.callS X5 hx (y := MN_11) hown (mvT hZ (Wd hw 206 rfl)) (mvT hZ (Wd hw 207 rfl)) (mvT hZ (Wd hw 188 rfl)) (mvT hZ (Wd hw 208 rfl)) (by decide) (backOf (W := 0) (rmPcU l Z a0 hw [] cS vF a2b ((sf 1)) k0 ((own_put ds dn (sf 0))) ((dn + 1)) 32 (T5.heap) n0 O5 GL P5_0 (by simp only [own_put_len]; exact hdl) (by omega) (by decide) g_a2b) hZ (Wd hw 208 rfl) (Wd hw 188 rfl) (by decide) (by decide)) (g := mkF m 32 #[vr a0b, vi (2 : Int32), vr a2b, vi (own_n (dn + 1 + 1)), vi (own_n mm), vi (1 : Int32)] [(.int (sf 1)), (.int (own_n (dn + 1))), (.ref a2b)]) rfl (by rw [hml]; rfl) (argsL := [(.ref a2b), (.int (own_n (dn + 1))), (.int (sf 1))]) (rest := []) (lenOf pdv10 rfl) rfl (by show 2 * 0 + _ ≤ _; exact lEq rfl) (dG hby D45 18 rfl) (fun _ _ => ⟨rfl, rfl, (by decide : 0 + 0 ≤ _), (by decide : 0 + 0 ≤ _)⟩)
      dsimp only [Pt.U, Pt.locs, Pt.cells, Pt.slots] at X9 l9 y9 z9 st9 hQ9
      subst l9 y9 z9
      obtain ⟨rfl, N9q, Kc9, P9_0⟩ := hQ9
      have K9 : Keep h0 T9.heap [a2b] := K5.trans Kc9 (allS (Or.inl (List.mem_of_getElem? (i := 0) rfl)) all0)
      have O9 := O5.keep Kc9 (allS g_a2b all0)
      have N9 := Fr.app N5 N9q
      have pre11 : ∀ t, SP p e below T9 m 14 #[vr a0b, vi (2 : Int32), vr a2b, vi (own_n (dn + 1 + 1)), vi (own_n mm), vi (2 : Int32)] [(.int (own_n mm)), (.int 2)] t → Steps p.tables e below (s₁.setTop (entryFrame m #[(.ref a0b), (.int 0), (.ref a2b), (.int (own_n dn)), (.int (own_n mm))] 6)) t := fun t kt => by
        refine pre7 t ?_
        show SP p e below T5 m 14 #[vr a0b, vi (1 : Int32), vr a2b, vi (own_n (dn + 1)), vi (own_n mm), vi (1 : Int32)] [(.int (own_n mm)), (.int 1)] _
        refine XS.icmpNo X5.here hx rfl (dG hby D45 8 rfl) rfl (tlt hc14_6).2.1 ?_
        refine XS.aloadN X5.here hx rfl (dG hby D45 9 rfl) rfl rfl ?_
        refine XS.iloadN X5.here hx rfl (dG hby D45 10 rfl) rfl ?_
        show SP p e below T5 m 19 #[vr a0b, vi (1 : Int32), vr a2b, vi (own_n (dn + 1)), vi (own_n mm), vi (1 : Int32)] [(.int (own_n (dn + 1))), (.ref a2b)] _
        refine XS.iinc X5.here hx rfl (dG hby D45 11 rfl) rfl (l' := #[vr a0b, vi (1 : Int32), vr a2b, vi ((own_n (dn + 1)) + (1 : Int32)), vi (own_n mm), vi (1 : Int32)]) rfl ?_
        rw [own_n_add1 (dn + 1)]
        show SP p e below T5 m 22 #[vr a0b, vi (1 : Int32), vr a2b, vi (own_n (dn + 1 + 1)), vi (own_n mm), vi (1 : Int32)] [(.int (own_n (dn + 1))), (.ref a2b)] _
        refine XS.aloadN X5.here hx rfl (dG hby D45 12 rfl) rfl rfl ?_
        refine XS.iloadN X5.here hx rfl (dG hby D45 13 rfl) rfl ?_
        refine XS.iinc X5.here hx rfl (dG hby D45 14 rfl) rfl (l' := #[vr a0b, vi (2 : Int32), vr a2b, vi (own_n (dn + 1 + 1)), vi (own_n mm), vi (1 : Int32)]) rfl ?_
        show SP p e below T5 m 27 #[vr a0b, vi (2 : Int32), vr a2b, vi (own_n (dn + 1 + 1)), vi (own_n mm), vi (1 : Int32)] [(.int 1), (.ref a0b), (.int (own_n (dn + 1))), (.ref a2b)] _
        refine X5.baloadBytes hx (j := (1 : Int32)) (v := (.int ((sf 1).toInt8.toInt32))) Ar8.1 (State.isArrayOf_alike hZ.alike Ar8.2.1) Ar8.2.2 hin8 hat8 (g := mkF m 27 #[vr a0b, vi (2 : Int32), vr a2b, vi (own_n (dn + 1 + 1)), vi (own_n mm), vi (1 : Int32)] [(.int 1), (.ref a0b), (.int (own_n (dn + 1))), (.ref a2b)]) rfl rfl (dG hby D45 15 rfl) _ ?_
        show SP p e below T5 m 28 #[vr a0b, vi (2 : Int32), vr a2b, vi (own_n (dn + 1 + 1)), vi (own_n mm), vi (1 : Int32)] [(.int ((sf 1).toInt8.toInt32)), (.int (own_n (dn + 1))), (.ref a2b)] _
        refine XS.sipush X5.here hx rfl (dG hby D45 16 rfl) ?_
        show SP p e below T5 m 31 #[vr a0b, vi (2 : Int32), vr a2b, vi (own_n (dn + 1 + 1)), vi (own_n mm), vi (1 : Int32)] [(.int 255), (.int ((sf 1).toInt8.toInt32)), (.int (own_n (dn + 1))), (.ref a2b)] _
        refine XS.iand X5.here hx rfl (dG hby D45 17 rfl) rfl ?_
        rw [own_mask hn1 hl1]
        show SP p e below T5 m 32 #[vr a0b, vi (2 : Int32), vr a2b, vi (own_n (dn + 1 + 1)), vi (own_n mm), vi (1 : Int32)] [(.int (sf 1)), (.int (own_n (dn + 1))), (.ref a2b)] _
        refine st9 _ ?_
        show SP p e below T9 m 35 #[vr a0b, vi (2 : Int32), vr a2b, vi (own_n (dn + 1 + 1)), vi (own_n mm), vi (1 : Int32)] [] _
        refine XS.iinc X9.here hx rfl (dG hby D45 19 rfl) rfl (l' := #[vr a0b, vi (2 : Int32), vr a2b, vi (own_n (dn + 1 + 1)), vi (own_n mm), vi (2 : Int32)]) rfl ?_
        refine XS.goto X9.here hx rfl (pc0 := 38) (pc' := 10) rfl (dG hby D45 20 rfl) (by decide) (by decide) ?_
        refine XS.iload X9.here hx rfl (dG hby D45 6 rfl) rfl ?_
        refine XS.iload X9.here hx rfl (dG hby D45 7 rfl) rfl ?_
        exact kt
      by_cases hc14_10 : (2 : Int32) < (own_n mm)
      · have hk2 : 2 < mm := own_ml (k := 2) (by decide) (by omega) hc14_10
        have hn2 : nar .char (sf 2) = (sf 2) := (hsx 2 hk2).1
        have hl2 : ¬ ((255 : Int32) < (sf 2)) := (hsx 2 hk2).2.1
        have hi2 : (2 : Int32) < sl := (own_ltsl (k := 2) hk2 hm5 hsl hs0)
        obtain ⟨cl12, Ar12, -, S12, N12_, H12, G12⟩ := id (((V_a0b.keep Kc5 (ninS ne_a0b_a2b nin0)).keep Kc9 (ninS ne_a0b_a2b nin0)))
        have hin12 : ¬ ((2 : Int32) < 0 ∨ cl12.slots.size ≤ ((2 : Int32)).toNatClampNeg) := inb_of S12 ⟨(by decide), hi2⟩
        have hat12 : cl12.slots[((2 : Int32)).toNatClampNeg]? = some (.int ((sf 2).toInt8.toInt32)) := H12.at hin12 (hsx 2 hk2).2.2
        obtain ⟨_, _, ⟨T13, L13, k13, n13⟩, -, X13, ⟨Lc13, hQ13, l13, y13, z13⟩, st13⟩ := Jvm.LawKit.callS X9 hx (y := MN_11) hown (mvT hZ (Wd hw 206 rfl)) (mvT hZ (Wd hw 207 rfl)) (mvT hZ (Wd hw 188 rfl)) (mvT hZ (Wd hw 208 rfl)) (by decide) (backOf (W := 0) (rmPcU l Z a0 hw [] cS vF a2b ((sf 2)) k0 ((own_put (own_put ds dn (sf 0)) (dn + 1) (sf 1))) ((dn + 1 + 1)) 32 (T9.heap) n0 O9 GL P9_0 (by simp only [own_put_len]; exact hdl) (by omega) (by decide) g_a2b) hZ (Wd hw 208 rfl) (Wd hw 188 rfl) (by decide) (by decide)) (g := mkF m 32 #[vr a0b, vi (3 : Int32), vr a2b, vi (own_n (dn + 1 + 1 + 1)), vi (own_n mm), vi (2 : Int32)] [(.int (sf 2)), (.int (own_n (dn + 1 + 1))), (.ref a2b)]) rfl (by rw [hml]; rfl) (argsL := [(.ref a2b), (.int (own_n (dn + 1 + 1))), (.int (sf 2))]) (rest := []) (lenOf pdv10 rfl) rfl (by show 2 * 0 + _ ≤ _; exact lEq rfl) (dG hby D45 18 rfl) (fun _ _ => ⟨rfl, rfl, (by decide : 0 + 0 ≤ _), (by decide : 0 + 0 ≤ _)⟩)
        dsimp only [Pt.U, Pt.locs, Pt.cells, Pt.slots] at X13 l13 y13 z13 st13 hQ13
        subst l13 y13 z13
        obtain ⟨rfl, N13q, Kc13, P13_0⟩ := hQ13
        have K13 : Keep h0 T13.heap [a2b] := K9.trans Kc13 (allS (Or.inl (List.mem_of_getElem? (i := 0) rfl)) all0)
        have O13 := O9.keep Kc13 (allS g_a2b all0)
        have N13 := Fr.app N9 N13q
        have pre15 : ∀ t, SP p e below T13 m 14 #[vr a0b, vi (3 : Int32), vr a2b, vi (own_n (dn + 1 + 1 + 1)), vi (own_n mm), vi (3 : Int32)] [(.int (own_n mm)), (.int 3)] t → Steps p.tables e below (s₁.setTop (entryFrame m #[(.ref a0b), (.int 0), (.ref a2b), (.int (own_n dn)), (.int (own_n mm))] 6)) t := fun t kt => by
          refine pre11 t ?_
          show SP p e below T9 m 14 #[vr a0b, vi (2 : Int32), vr a2b, vi (own_n (dn + 1 + 1)), vi (own_n mm), vi (2 : Int32)] [(.int (own_n mm)), (.int 2)] _
          refine XS.icmpNo X9.here hx rfl (dG hby D45 8 rfl) rfl (tlt hc14_10).2.1 ?_
          refine XS.aloadN X9.here hx rfl (dG hby D45 9 rfl) rfl rfl ?_
          refine XS.iloadN X9.here hx rfl (dG hby D45 10 rfl) rfl ?_
          show SP p e below T9 m 19 #[vr a0b, vi (2 : Int32), vr a2b, vi (own_n (dn + 1 + 1)), vi (own_n mm), vi (2 : Int32)] [(.int (own_n (dn + 1 + 1))), (.ref a2b)] _
          refine XS.iinc X9.here hx rfl (dG hby D45 11 rfl) rfl (l' := #[vr a0b, vi (2 : Int32), vr a2b, vi ((own_n (dn + 1 + 1)) + (1 : Int32)), vi (own_n mm), vi (2 : Int32)]) rfl ?_
          rw [own_n_add1 (dn + 1 + 1)]
          show SP p e below T9 m 22 #[vr a0b, vi (2 : Int32), vr a2b, vi (own_n (dn + 1 + 1 + 1)), vi (own_n mm), vi (2 : Int32)] [(.int (own_n (dn + 1 + 1))), (.ref a2b)] _
          refine XS.aloadN X9.here hx rfl (dG hby D45 12 rfl) rfl rfl ?_
          refine XS.iloadN X9.here hx rfl (dG hby D45 13 rfl) rfl ?_
          refine XS.iinc X9.here hx rfl (dG hby D45 14 rfl) rfl (l' := #[vr a0b, vi (3 : Int32), vr a2b, vi (own_n (dn + 1 + 1 + 1)), vi (own_n mm), vi (2 : Int32)]) rfl ?_
          show SP p e below T9 m 27 #[vr a0b, vi (3 : Int32), vr a2b, vi (own_n (dn + 1 + 1 + 1)), vi (own_n mm), vi (2 : Int32)] [(.int 2), (.ref a0b), (.int (own_n (dn + 1 + 1))), (.ref a2b)] _
          refine X9.baloadBytes hx (j := (2 : Int32)) (v := (.int ((sf 2).toInt8.toInt32))) Ar12.1 (State.isArrayOf_alike hZ.alike Ar12.2.1) Ar12.2.2 hin12 hat12 (g := mkF m 27 #[vr a0b, vi (3 : Int32), vr a2b, vi (own_n (dn + 1 + 1 + 1)), vi (own_n mm), vi (2 : Int32)] [(.int 2), (.ref a0b), (.int (own_n (dn + 1 + 1))), (.ref a2b)]) rfl rfl (dG hby D45 15 rfl) _ ?_
          show SP p e below T9 m 28 #[vr a0b, vi (3 : Int32), vr a2b, vi (own_n (dn + 1 + 1 + 1)), vi (own_n mm), vi (2 : Int32)] [(.int ((sf 2).toInt8.toInt32)), (.int (own_n (dn + 1 + 1))), (.ref a2b)] _
          refine XS.sipush X9.here hx rfl (dG hby D45 16 rfl) ?_
          show SP p e below T9 m 31 #[vr a0b, vi (3 : Int32), vr a2b, vi (own_n (dn + 1 + 1 + 1)), vi (own_n mm), vi (2 : Int32)] [(.int 255), (.int ((sf 2).toInt8.toInt32)), (.int (own_n (dn + 1 + 1))), (.ref a2b)] _
          refine XS.iand X9.here hx rfl (dG hby D45 17 rfl) rfl ?_
          rw [own_mask hn2 hl2]
          show SP p e below T9 m 32 #[vr a0b, vi (3 : Int32), vr a2b, vi (own_n (dn + 1 + 1 + 1)), vi (own_n mm), vi (2 : Int32)] [(.int (sf 2)), (.int (own_n (dn + 1 + 1))), (.ref a2b)] _
          refine st13 _ ?_
          show SP p e below T13 m 35 #[vr a0b, vi (3 : Int32), vr a2b, vi (own_n (dn + 1 + 1 + 1)), vi (own_n mm), vi (2 : Int32)] [] _
          refine XS.iinc X13.here hx rfl (dG hby D45 19 rfl) rfl (l' := #[vr a0b, vi (3 : Int32), vr a2b, vi (own_n (dn + 1 + 1 + 1)), vi (own_n mm), vi (3 : Int32)]) rfl ?_
          refine XS.goto X13.here hx rfl (pc0 := 38) (pc' := 10) rfl (dG hby D45 20 rfl) (by decide) (by decide) ?_
          refine XS.iload X13.here hx rfl (dG hby D45 6 rfl) rfl ?_
          refine XS.iload X13.here hx rfl (dG hby D45 7 rfl) rfl ?_
          exact kt
        by_cases hc14_14 : (3 : Int32) < (own_n mm)
        · have hk3 : 3 < mm := own_ml (k := 3) (by decide) (by omega) hc14_14
          have hn3 : nar .char (sf 3) = (sf 3) := (hsx 3 hk3).1
          have hl3 : ¬ ((255 : Int32) < (sf 3)) := (hsx 3 hk3).2.1
          have hi3 : (3 : Int32) < sl := (own_ltsl (k := 3) hk3 hm5 hsl hs0)
          obtain ⟨cl16, Ar16, -, S16, N16_, H16, G16⟩ := id ((((V_a0b.keep Kc5 (ninS ne_a0b_a2b nin0)).keep Kc9 (ninS ne_a0b_a2b nin0)).keep Kc13 (ninS ne_a0b_a2b nin0)))
          have hin16 : ¬ ((3 : Int32) < 0 ∨ cl16.slots.size ≤ ((3 : Int32)).toNatClampNeg) := inb_of S16 ⟨(by decide), hi3⟩
          have hat16 : cl16.slots[((3 : Int32)).toNatClampNeg]? = some (.int ((sf 3).toInt8.toInt32)) := H16.at hin16 (hsx 3 hk3).2.2
          obtain ⟨_, _, ⟨T17, L17, k17, n17⟩, -, X17, ⟨Lc17, hQ17, l17, y17, z17⟩, st17⟩ := Jvm.LawKit.callS X13 hx (y := MN_11) hown (mvT hZ (Wd hw 206 rfl)) (mvT hZ (Wd hw 207 rfl)) (mvT hZ (Wd hw 188 rfl)) (mvT hZ (Wd hw 208 rfl)) (by decide) (backOf (W := 0) (rmPcU l Z a0 hw [] cS vF a2b ((sf 3)) k0 ((own_put (own_put (own_put ds dn (sf 0)) (dn + 1) (sf 1)) (dn + 1 + 1) (sf 2))) ((dn + 1 + 1 + 1)) 32 (T13.heap) n0 O13 GL P13_0 (by simp only [own_put_len]; exact hdl) (by omega) (by decide) g_a2b) hZ (Wd hw 208 rfl) (Wd hw 188 rfl) (by decide) (by decide)) (g := mkF m 32 #[vr a0b, vi (4 : Int32), vr a2b, vi (own_n (dn + 1 + 1 + 1 + 1)), vi (own_n mm), vi (3 : Int32)] [(.int (sf 3)), (.int (own_n (dn + 1 + 1 + 1))), (.ref a2b)]) rfl (by rw [hml]; rfl) (argsL := [(.ref a2b), (.int (own_n (dn + 1 + 1 + 1))), (.int (sf 3))]) (rest := []) (lenOf pdv10 rfl) rfl (by show 2 * 0 + _ ≤ _; exact lEq rfl) (dG hby D45 18 rfl) (fun _ _ => ⟨rfl, rfl, (by decide : 0 + 0 ≤ _), (by decide : 0 + 0 ≤ _)⟩)
          dsimp only [Pt.U, Pt.locs, Pt.cells, Pt.slots] at X17 l17 y17 z17 st17 hQ17
          subst l17 y17 z17
          obtain ⟨rfl, N17q, Kc17, P17_0⟩ := hQ17
          have K17 : Keep h0 T17.heap [a2b] := K13.trans Kc17 (allS (Or.inl (List.mem_of_getElem? (i := 0) rfl)) all0)
          have O17 := O13.keep Kc17 (allS g_a2b all0)
          have N17 := Fr.app N13 N17q
          have pre19 : ∀ t, SP p e below T17 m 14 #[vr a0b, vi (4 : Int32), vr a2b, vi (own_n (dn + 1 + 1 + 1 + 1)), vi (own_n mm), vi (4 : Int32)] [(.int (own_n mm)), (.int 4)] t → Steps p.tables e below (s₁.setTop (entryFrame m #[(.ref a0b), (.int 0), (.ref a2b), (.int (own_n dn)), (.int (own_n mm))] 6)) t := fun t kt => by
            refine pre15 t ?_
            show SP p e below T13 m 14 #[vr a0b, vi (3 : Int32), vr a2b, vi (own_n (dn + 1 + 1 + 1)), vi (own_n mm), vi (3 : Int32)] [(.int (own_n mm)), (.int 3)] _
            refine XS.icmpNo X13.here hx rfl (dG hby D45 8 rfl) rfl (tlt hc14_14).2.1 ?_
            refine XS.aloadN X13.here hx rfl (dG hby D45 9 rfl) rfl rfl ?_
            refine XS.iloadN X13.here hx rfl (dG hby D45 10 rfl) rfl ?_
            show SP p e below T13 m 19 #[vr a0b, vi (3 : Int32), vr a2b, vi (own_n (dn + 1 + 1 + 1)), vi (own_n mm), vi (3 : Int32)] [(.int (own_n (dn + 1 + 1 + 1))), (.ref a2b)] _
            refine XS.iinc X13.here hx rfl (dG hby D45 11 rfl) rfl (l' := #[vr a0b, vi (3 : Int32), vr a2b, vi ((own_n (dn + 1 + 1 + 1)) + (1 : Int32)), vi (own_n mm), vi (3 : Int32)]) rfl ?_
            rw [own_n_add1 (dn + 1 + 1 + 1)]
            show SP p e below T13 m 22 #[vr a0b, vi (3 : Int32), vr a2b, vi (own_n (dn + 1 + 1 + 1 + 1)), vi (own_n mm), vi (3 : Int32)] [(.int (own_n (dn + 1 + 1 + 1))), (.ref a2b)] _
            refine XS.aloadN X13.here hx rfl (dG hby D45 12 rfl) rfl rfl ?_
            refine XS.iloadN X13.here hx rfl (dG hby D45 13 rfl) rfl ?_
            refine XS.iinc X13.here hx rfl (dG hby D45 14 rfl) rfl (l' := #[vr a0b, vi (4 : Int32), vr a2b, vi (own_n (dn + 1 + 1 + 1 + 1)), vi (own_n mm), vi (3 : Int32)]) rfl ?_
            show SP p e below T13 m 27 #[vr a0b, vi (4 : Int32), vr a2b, vi (own_n (dn + 1 + 1 + 1 + 1)), vi (own_n mm), vi (3 : Int32)] [(.int 3), (.ref a0b), (.int (own_n (dn + 1 + 1 + 1))), (.ref a2b)] _
            refine X13.baloadBytes hx (j := (3 : Int32)) (v := (.int ((sf 3).toInt8.toInt32))) Ar16.1 (State.isArrayOf_alike hZ.alike Ar16.2.1) Ar16.2.2 hin16 hat16 (g := mkF m 27 #[vr a0b, vi (4 : Int32), vr a2b, vi (own_n (dn + 1 + 1 + 1 + 1)), vi (own_n mm), vi (3 : Int32)] [(.int 3), (.ref a0b), (.int (own_n (dn + 1 + 1 + 1))), (.ref a2b)]) rfl rfl (dG hby D45 15 rfl) _ ?_
            show SP p e below T13 m 28 #[vr a0b, vi (4 : Int32), vr a2b, vi (own_n (dn + 1 + 1 + 1 + 1)), vi (own_n mm), vi (3 : Int32)] [(.int ((sf 3).toInt8.toInt32)), (.int (own_n (dn + 1 + 1 + 1))), (.ref a2b)] _
            refine XS.sipush X13.here hx rfl (dG hby D45 16 rfl) ?_
            show SP p e below T13 m 31 #[vr a0b, vi (4 : Int32), vr a2b, vi (own_n (dn + 1 + 1 + 1 + 1)), vi (own_n mm), vi (3 : Int32)] [(.int 255), (.int ((sf 3).toInt8.toInt32)), (.int (own_n (dn + 1 + 1 + 1))), (.ref a2b)] _
            refine XS.iand X13.here hx rfl (dG hby D45 17 rfl) rfl ?_
            rw [own_mask hn3 hl3]
            show SP p e below T13 m 32 #[vr a0b, vi (4 : Int32), vr a2b, vi (own_n (dn + 1 + 1 + 1 + 1)), vi (own_n mm), vi (3 : Int32)] [(.int (sf 3)), (.int (own_n (dn + 1 + 1 + 1))), (.ref a2b)] _
            refine st17 _ ?_
            show SP p e below T17 m 35 #[vr a0b, vi (4 : Int32), vr a2b, vi (own_n (dn + 1 + 1 + 1 + 1)), vi (own_n mm), vi (3 : Int32)] [] _
            refine XS.iinc X17.here hx rfl (dG hby D45 19 rfl) rfl (l' := #[vr a0b, vi (4 : Int32), vr a2b, vi (own_n (dn + 1 + 1 + 1 + 1)), vi (own_n mm), vi (4 : Int32)]) rfl ?_
            refine XS.goto X17.here hx rfl (pc0 := 38) (pc' := 10) rfl (dG hby D45 20 rfl) (by decide) (by decide) ?_
            refine XS.iload X17.here hx rfl (dG hby D45 6 rfl) rfl ?_
            refine XS.iload X17.here hx rfl (dG hby D45 7 rfl) rfl ?_
            exact kt
          by_cases hc14_18 : (4 : Int32) < (own_n mm)
          · have hk4 : 4 < mm := own_ml (k := 4) (by decide) (by omega) hc14_18
            have hn4 : nar .char (sf 4) = (sf 4) := (hsx 4 hk4).1
            have hl4 : ¬ ((255 : Int32) < (sf 4)) := (hsx 4 hk4).2.1
            have hi4 : (4 : Int32) < sl := (own_ltsl (k := 4) hk4 hm5 hsl hs0)
            obtain ⟨cl20, Ar20, -, S20, N20_, H20, G20⟩ := id (((((V_a0b.keep Kc5 (ninS ne_a0b_a2b nin0)).keep Kc9 (ninS ne_a0b_a2b nin0)).keep Kc13 (ninS ne_a0b_a2b nin0)).keep Kc17 (ninS ne_a0b_a2b nin0)))
            have hin20 : ¬ ((4 : Int32) < 0 ∨ cl20.slots.size ≤ ((4 : Int32)).toNatClampNeg) := inb_of S20 ⟨(by decide), hi4⟩
            have hat20 : cl20.slots[((4 : Int32)).toNatClampNeg]? = some (.int ((sf 4).toInt8.toInt32)) := H20.at hin20 (hsx 4 hk4).2.2
            obtain ⟨_, _, ⟨T21, L21, k21, n21⟩, -, X21, ⟨Lc21, hQ21, l21, y21, z21⟩, st21⟩ := Jvm.LawKit.callS X17 hx (y := MN_11) hown (mvT hZ (Wd hw 206 rfl)) (mvT hZ (Wd hw 207 rfl)) (mvT hZ (Wd hw 188 rfl)) (mvT hZ (Wd hw 208 rfl)) (by decide) (backOf (W := 0) (rmPcU l Z a0 hw [] cS vF a2b ((sf 4)) k0 ((own_put (own_put (own_put (own_put ds dn (sf 0)) (dn + 1) (sf 1)) (dn + 1 + 1) (sf 2)) (dn + 1 + 1 + 1) (sf 3))) ((dn + 1 + 1 + 1 + 1)) 32 (T17.heap) n0 O17 GL P17_0 (by simp only [own_put_len]; exact hdl) (by omega) (by decide) g_a2b) hZ (Wd hw 208 rfl) (Wd hw 188 rfl) (by decide) (by decide)) (g := mkF m 32 #[vr a0b, vi (5 : Int32), vr a2b, vi (own_n (dn + 1 + 1 + 1 + 1 + 1)), vi (own_n mm), vi (4 : Int32)] [(.int (sf 4)), (.int (own_n (dn + 1 + 1 + 1 + 1))), (.ref a2b)]) rfl (by rw [hml]; rfl) (argsL := [(.ref a2b), (.int (own_n (dn + 1 + 1 + 1 + 1))), (.int (sf 4))]) (rest := []) (lenOf pdv10 rfl) rfl (by show 2 * 0 + _ ≤ _; exact lEq rfl) (dG hby D45 18 rfl) (fun _ _ => ⟨rfl, rfl, (by decide : 0 + 0 ≤ _), (by decide : 0 + 0 ≤ _)⟩)
            dsimp only [Pt.U, Pt.locs, Pt.cells, Pt.slots] at X21 l21 y21 z21 st21 hQ21
            subst l21 y21 z21
            obtain ⟨rfl, N21q, Kc21, P21_0⟩ := hQ21
            have K21 : Keep h0 T21.heap [a2b] := K17.trans Kc21 (allS (Or.inl (List.mem_of_getElem? (i := 0) rfl)) all0)
            have O21 := O17.keep Kc21 (allS g_a2b all0)
            have N21 := Fr.app N17 N21q
            have hend : ¬ ((5 : Int32) < (own_n mm)) := (fun z => absurd (own_ml (k := 5) (by decide) (by omega) z) (by omega))
            have hmk : mm = 5 := Nat.le_antisymm (own_mm (k := 5) (by decide) (by omega) hend) hk4
            have Vq : Arv Z T21.heap a2b k0 .byte (32 : Int32) (own_inf ds dn sf mm) (.int 0) := by
              rw [hmk]
              exact P21_0
            obtain ⟨fs, hr, hrun, hended, hW, hsame⟩ := X21.leave (v := none) (fun _ => rfl)
            refine ⟨_, _, pre19 _ ?_, hrun, hended, _, _, rfl, ?_, ⟨_, rfl⟩, hW, hsame.mono (by decide) (by decide)⟩
            · show SP p e below T17 m 14 #[vr a0b, vi (4 : Int32), vr a2b, vi (own_n (dn + 1 + 1 + 1 + 1)), vi (own_n mm), vi (4 : Int32)] [(.int (own_n mm)), (.int 4)] _
              refine XS.icmpNo X17.here hx rfl (dG hby D45 8 rfl) rfl (tlt hc14_18).2.1 ?_
              refine XS.aloadN X17.here hx rfl (dG hby D45 9 rfl) rfl rfl ?_
              refine XS.iloadN X17.here hx rfl (dG hby D45 10 rfl) rfl ?_
              show SP p e below T17 m 19 #[vr a0b, vi (4 : Int32), vr a2b, vi (own_n (dn + 1 + 1 + 1 + 1)), vi (own_n mm), vi (4 : Int32)] [(.int (own_n (dn + 1 + 1 + 1 + 1))), (.ref a2b)] _
              refine XS.iinc X17.here hx rfl (dG hby D45 11 rfl) rfl (l' := #[vr a0b, vi (4 : Int32), vr a2b, vi ((own_n (dn + 1 + 1 + 1 + 1)) + (1 : Int32)), vi (own_n mm), vi (4 : Int32)]) rfl ?_
              rw [own_n_add1 (dn + 1 + 1 + 1 + 1)]
              show SP p e below T17 m 22 #[vr a0b, vi (4 : Int32), vr a2b, vi (own_n (dn + 1 + 1 + 1 + 1 + 1)), vi (own_n mm), vi (4 : Int32)] [(.int (own_n (dn + 1 + 1 + 1 + 1))), (.ref a2b)] _
              refine XS.aloadN X17.here hx rfl (dG hby D45 12 rfl) rfl rfl ?_
              refine XS.iloadN X17.here hx rfl (dG hby D45 13 rfl) rfl ?_
              refine XS.iinc X17.here hx rfl (dG hby D45 14 rfl) rfl (l' := #[vr a0b, vi (5 : Int32), vr a2b, vi (own_n (dn + 1 + 1 + 1 + 1 + 1)), vi (own_n mm), vi (4 : Int32)]) rfl ?_
              show SP p e below T17 m 27 #[vr a0b, vi (5 : Int32), vr a2b, vi (own_n (dn + 1 + 1 + 1 + 1 + 1)), vi (own_n mm), vi (4 : Int32)] [(.int 4), (.ref a0b), (.int (own_n (dn + 1 + 1 + 1 + 1))), (.ref a2b)] _
              refine X17.baloadBytes hx (j := (4 : Int32)) (v := (.int ((sf 4).toInt8.toInt32))) Ar20.1 (State.isArrayOf_alike hZ.alike Ar20.2.1) Ar20.2.2 hin20 hat20 (g := mkF m 27 #[vr a0b, vi (5 : Int32), vr a2b, vi (own_n (dn + 1 + 1 + 1 + 1 + 1)), vi (own_n mm), vi (4 : Int32)] [(.int 4), (.ref a0b), (.int (own_n (dn + 1 + 1 + 1 + 1))), (.ref a2b)]) rfl rfl (dG hby D45 15 rfl) _ ?_
              show SP p e below T17 m 28 #[vr a0b, vi (5 : Int32), vr a2b, vi (own_n (dn + 1 + 1 + 1 + 1 + 1)), vi (own_n mm), vi (4 : Int32)] [(.int ((sf 4).toInt8.toInt32)), (.int (own_n (dn + 1 + 1 + 1 + 1))), (.ref a2b)] _
              refine XS.sipush X17.here hx rfl (dG hby D45 16 rfl) ?_
              show SP p e below T17 m 31 #[vr a0b, vi (5 : Int32), vr a2b, vi (own_n (dn + 1 + 1 + 1 + 1 + 1)), vi (own_n mm), vi (4 : Int32)] [(.int 255), (.int ((sf 4).toInt8.toInt32)), (.int (own_n (dn + 1 + 1 + 1 + 1))), (.ref a2b)] _
              refine XS.iand X17.here hx rfl (dG hby D45 17 rfl) rfl ?_
              rw [own_mask hn4 hl4]
              show SP p e below T17 m 32 #[vr a0b, vi (5 : Int32), vr a2b, vi (own_n (dn + 1 + 1 + 1 + 1 + 1)), vi (own_n mm), vi (4 : Int32)] [(.int (sf 4)), (.int (own_n (dn + 1 + 1 + 1 + 1))), (.ref a2b)] _
              refine st21 _ ?_
              show SP p e below T21 m 35 #[vr a0b, vi (5 : Int32), vr a2b, vi (own_n (dn + 1 + 1 + 1 + 1 + 1)), vi (own_n mm), vi (4 : Int32)] [] _
              refine XS.iinc X21.here hx rfl (dG hby D45 19 rfl) rfl (l' := #[vr a0b, vi (5 : Int32), vr a2b, vi (own_n (dn + 1 + 1 + 1 + 1 + 1)), vi (own_n mm), vi (5 : Int32)]) rfl ?_
              refine XS.goto X21.here hx rfl (pc0 := 38) (pc' := 10) rfl (dG hby D45 20 rfl) (by decide) (by decide) ?_
              refine XS.iload X21.here hx rfl (dG hby D45 6 rfl) rfl ?_
              refine XS.iload X21.here hx rfl (dG hby D45 7 rfl) rfl ?_
              refine XS.icmpYes X21.here hx rfl (pc0 := 14) (pc' := 41) rfl (dG hby D45 8 rfl) rfl (flt hend).2.1 (by decide) (by decide) ?_
              show SP p e below T21 m 41 #[vr a0b, vi (5 : Int32), vr a2b, vi (own_n (dn + 1 + 1 + 1 + 1 + 1)), vi (own_n mm), vi (5 : Int32)] [] _
              exact X21.returnOut hx Bd.returns (dG hby D45 21 rfl) hr
            · show Q_rmInU n0 Z cS vF a0b a2b sk sl ss sf k0 ds dn mm h0 _ T21.heap _
              exact ⟨rfl, N21, K21, Vq⟩
          · have hmk : mm = 4 := Nat.le_antisymm (own_mm (k := 4) (by decide) (by omega) hc14_18) hk3
            have Vq : Arv Z T17.heap a2b k0 .byte (32 : Int32) (own_inf ds dn sf mm) (.int 0) := by
              rw [hmk]
              exact P17_0
            obtain ⟨fs, hr, hrun, hended, hW, hsame⟩ := X17.leave (v := none) (fun _ => rfl)
            refine ⟨_, _, pre19 _ ?_, hrun, hended, _, _, rfl, ?_, ⟨_, rfl⟩, hW, hsame.mono (by decide) (by decide)⟩
            · show SP p e below T17 m 14 #[vr a0b, vi (4 : Int32), vr a2b, vi (own_n (dn + 1 + 1 + 1 + 1)), vi (own_n mm), vi (4 : Int32)] [(.int (own_n mm)), (.int 4)] _
              refine XS.icmpYes X17.here hx rfl (pc0 := 14) (pc' := 41) rfl (dG hby D45 8 rfl) rfl (flt hc14_18).2.1 (by decide) (by decide) ?_
              show SP p e below T17 m 41 #[vr a0b, vi (4 : Int32), vr a2b, vi (own_n (dn + 1 + 1 + 1 + 1)), vi (own_n mm), vi (4 : Int32)] [] _
              exact X17.returnOut hx Bd.returns (dG hby D45 21 rfl) hr
            · show Q_rmInU n0 Z cS vF a0b a2b sk sl ss sf k0 ds dn mm h0 _ T17.heap _
              exact ⟨rfl, N17, K17, Vq⟩
        · have hmk : mm = 3 := Nat.le_antisymm (own_mm (k := 3) (by decide) (by omega) hc14_14) hk2
          have Vq : Arv Z T13.heap a2b k0 .byte (32 : Int32) (own_inf ds dn sf mm) (.int 0) := by
            rw [hmk]
            exact P13_0
          obtain ⟨fs, hr, hrun, hended, hW, hsame⟩ := X13.leave (v := none) (fun _ => rfl)
          refine ⟨_, _, pre15 _ ?_, hrun, hended, _, _, rfl, ?_, ⟨_, rfl⟩, hW, hsame.mono (by decide) (by decide)⟩
          · show SP p e below T13 m 14 #[vr a0b, vi (3 : Int32), vr a2b, vi (own_n (dn + 1 + 1 + 1)), vi (own_n mm), vi (3 : Int32)] [(.int (own_n mm)), (.int 3)] _
            refine XS.icmpYes X13.here hx rfl (pc0 := 14) (pc' := 41) rfl (dG hby D45 8 rfl) rfl (flt hc14_14).2.1 (by decide) (by decide) ?_
            show SP p e below T13 m 41 #[vr a0b, vi (3 : Int32), vr a2b, vi (own_n (dn + 1 + 1 + 1)), vi (own_n mm), vi (3 : Int32)] [] _
            exact X13.returnOut hx Bd.returns (dG hby D45 21 rfl) hr
          · show Q_rmInU n0 Z cS vF a0b a2b sk sl ss sf k0 ds dn mm h0 _ T13.heap _
            exact ⟨rfl, N13, K13, Vq⟩
      · have hmk : mm = 2 := Nat.le_antisymm (own_mm (k := 2) (by decide) (by omega) hc14_10) hk1
        have Vq : Arv Z T9.heap a2b k0 .byte (32 : Int32) (own_inf ds dn sf mm) (.int 0) := by
          rw [hmk]
          exact P9_0
        obtain ⟨fs, hr, hrun, hended, hW, hsame⟩ := X9.leave (v := none) (fun _ => rfl)
        refine ⟨_, _, pre11 _ ?_, hrun, hended, _, _, rfl, ?_, ⟨_, rfl⟩, hW, hsame.mono (by decide) (by decide)⟩
        · show SP p e below T9 m 14 #[vr a0b, vi (2 : Int32), vr a2b, vi (own_n (dn + 1 + 1)), vi (own_n mm), vi (2 : Int32)] [(.int (own_n mm)), (.int 2)] _
          refine XS.icmpYes X9.here hx rfl (pc0 := 14) (pc' := 41) rfl (dG hby D45 8 rfl) rfl (flt hc14_10).2.1 (by decide) (by decide) ?_
          show SP p e below T9 m 41 #[vr a0b, vi (2 : Int32), vr a2b, vi (own_n (dn + 1 + 1)), vi (own_n mm), vi (2 : Int32)] [] _
          exact X9.returnOut hx Bd.returns (dG hby D45 21 rfl) hr
        · show Q_rmInU n0 Z cS vF a0b a2b sk sl ss sf k0 ds dn mm h0 _ T9.heap _
          exact ⟨rfl, N9, K9, Vq⟩
    · have hmk : mm = 1 := Nat.le_antisymm (own_mm (k := 1) (by decide) (by omega) hc14_6) hk0
      have Vq : Arv Z T5.heap a2b k0 .byte (32 : Int32) (own_inf ds dn sf mm) (.int 0) := by
        rw [hmk]
        exact P5_0
      obtain ⟨fs, hr, hrun, hended, hW, hsame⟩ := X5.leave (v := none) (fun _ => rfl)
      refine ⟨_, _, pre7 _ ?_, hrun, hended, _, _, rfl, ?_, ⟨_, rfl⟩, hW, hsame.mono (by decide) (by decide)⟩
      · show SP p e below T5 m 14 #[vr a0b, vi (1 : Int32), vr a2b, vi (own_n (dn + 1)), vi (own_n mm), vi (1 : Int32)] [(.int (own_n mm)), (.int 1)] _
        refine XS.icmpYes X5.here hx rfl (pc0 := 14) (pc' := 41) rfl (dG hby D45 8 rfl) rfl (flt hc14_6).2.1 (by decide) (by decide) ?_
        show SP p e below T5 m 41 #[vr a0b, vi (1 : Int32), vr a2b, vi (own_n (dn + 1)), vi (own_n mm), vi (1 : Int32)] [] _
        exact X5.returnOut hx Bd.returns (dG hby D45 21 rfl) hr
      · show Q_rmInU n0 Z cS vF a0b a2b sk sl ss sf k0 ds dn mm h0 _ T5.heap _
        exact ⟨rfl, N5, K5, Vq⟩
  · have hmk : mm = 0 := Nat.le_antisymm (own_mm (k := 0) (by decide) (by omega) hc14_2) (Nat.zero_le _)
    have Vq : Arv Z h0 a2b k0 .byte (32 : Int32) (own_inf ds dn sf mm) (.int 0) := by
      rw [hmk]
      exact V_a2b
    obtain ⟨fs, hr, hrun, hended, hW, hsame⟩ := X1.leave (v := none) (fun _ => rfl)
    refine ⟨_, _, pre3 _ ?_, hrun, hended, _, _, rfl, ?_, ⟨_, rfl⟩, hW, hsame.mono (by decide) (by decide)⟩
    · show SP p e below T1 m 14 #[vr a0b, vi (0 : Int32), vr a2b, vi (own_n dn), vi (own_n mm), vi (0 : Int32)] [(.int (own_n mm)), (.int 0)] _
      refine XS.icmpYes X1.here hx rfl (pc0 := 14) (pc' := 41) rfl (dG hby D45 8 rfl) rfl (flt hc14_2).2.1 (by decide) (by decide) ?_
      show SP p e below T1 m 41 #[vr a0b, vi (0 : Int32), vr a2b, vi (own_n dn), vi (own_n mm), vi (0 : Int32)] [] _
      exact X1.returnOut hx Bd.returns (dG hby D45 21 rfl) hr
    · show Q_rmInU n0 Z cS vF a0b a2b sk sl ss sf k0 ds dn mm h0 _ T1.heap _
      rw [e1]
      exact ⟨rfl, N1, (Keep.refl h0 [a2b]), Vq⟩
theorem D44 : dL jdk_43_method_50_code [(0, .aload_n 0, 1), (1, .iload_n 1, 1), (2, .aload_n 2, 1), (3, .iload_n 3, 1), (4, .iload 4, 2), (6, .invokestatic 240, 3), (9, .return_, 1)] = true := by decide +kernel
theorem pdv11 : parseMethodDescriptor "([BI[BII)V" = some ⟨[(.array .byte), .int, (.array .byte), .int, .int], none⟩ := by decide +kernel
abbrev MN_16 : MethodName := ⟨"java/lang/StringLatin1", "inflate", "([BI[BII)V"⟩
theorem ef_rmInL (m : MethodId) (a0b : Addr) (a2b : Addr) {dn : Nat} {mm : Nat} : entryFrame m #[(.ref a0b), (.int 0), (.ref a2b), (.int (own_n dn)), (.int (own_n mm))] 5 = mkF m 0 #[vr a0b, vi (0 : Int32), vr a2b, vi (own_n dn), vi (own_n mm)] [] := by first | (simp [entryFrame, mkF, argsToLocals, Value.category]; done) | rfl
def Q_rmInL (n0 : Nat) (Z : State) (cS : Int32) (vF : Value) (a0b : Addr) (a2b : Addr) (sk : ClassId) (sl : Int32) (ss : List Value) (sf : Nat → Int32) (k0 : ClassId) (ds : List Value) (dn : Nat) (mm : Nat) (h0 : Heap) (v : Option Value) (h : Heap) (L : List Loc) : Prop := v = none ∧ Fr n0 L ∧ Keep h0 h [a2b] ∧ (Arv Z h a2b k0 .byte (32 : Int32) (own_inf ds dn sf mm) (.int 0))
theorem rmInL (l : Launch) (Z : State) (a0 : Array Value) (hw : ∀ d ∈ tables_1, d.before a0 Z = true) (ws : List Jvm.Cond) (cS : Int32) (vF : Value) (a0b : Addr) (a2b : Addr) (sk : ClassId) (sl : Int32) (ss : List Value) (sf : Nat → Int32) (k0 : ClassId) (ds : List Value) (dn : Nat) (mm : Nat) (h0 : Heap) (n0 : Nat) (O0 : Old Z n0 h0) (GL : GF Z cS vF) (V_a0b : Arv Z h0 a0b sk .byte sl ss (.int 0)) (V_a2b : Arv Z h0 a2b k0 .byte (32 : Int32) ds (.int 0)) (hdl : ds.length = 32) (g_a2b : n0 ≤ a2b) (ne_a0b_a2b : a0b ≠ a2b) (hsx : own_L ss mm sf) (hm5 : mm ≤ 5) (hsum : dn + mm ≤ 8) (hsl : mm ≤ sl.toNatClampNeg) (hs0 : ¬ (sl < (0 : Int32))) :
    MF l MN_16 jdk_43_method_50_code 5 none ws (Rm 4 0 0 60) #[(.ref a0b), (.int 0), (.ref a2b), (.int (own_n dn)), (.int (own_n mm))] Z h0 (Q_rmInL n0 Z cS vF a0b a2b sk sl ss sf k0 ds dn mm h0) := by
  refine MetFree.of_bodySF (plainFor_of_name pnv3) hisR ?_
  intro p e s m args below meth c s₁ Bd hml0 hP hK
  obtain ⟨rfl, hZ, hh⟩ := hP
  have hx := Bd.exec
  have hby := Bd.bytes
  have hml : c.maxLocals = 5 := hml0
  have hown : s.vm.findClass "java/lang/StringLatin1" = some m.cls := findClass_of_methodNamed Bd.named
  have hnm := (name_of_methodNamed Bd.named Bd.method).1
  have X0 : Stand p l e (Rm 4 0 0 60) s m #[(.ref a0b), (.int 0), (.ref a2b), (.int (own_n dn)), (.int (own_n mm))] below meth c s₁ [] 0 0 := Stand.of_body Bd
  have e0 : s₁.heap = h0 := by rw [← hh, Bd.state]; rfl
  have N0 := Fr.nil n0
  have pre0 : ∀ t, SP p e below s₁ m 0 #[vr a0b, vi (0 : Int32), vr a2b, vi (own_n dn), vi (own_n mm)] [] t → Steps p.tables e below (s₁.setTop (entryFrame m #[(.ref a0b), (.int 0), (.ref a2b), (.int (own_n dn)), (.int (own_n mm))] 5)) t := fun t k => castTop (ef_rmInL m a0b a2b) k
  have GL' := GL
  obtain ⟨GCS, GCP, GA16, GHI, GLO, GFF, GVF⟩ := GL'
  obtain ⟨_, _, ⟨T1, L1, k1, n1⟩, -, X1, ⟨Lc1, hQ1, l1, y1, z1⟩, st1⟩ := Jvm.LawKit.callS X0 hx (y := MN_15) hown (mvT hZ (Wd hw 225 rfl)) (mvT hZ (Wd hw 226 rfl)) (mvT hZ (Wd hw 188 rfl)) (mvT hZ (Wd hw 227 rfl)) (by decide) (backOf (W := 0) (rmInU l Z a0 hw [] cS vF a0b a2b sk sl ss sf k0 ds dn mm h0 n0 O0 GL V_a0b V_a2b hdl g_a2b ne_a0b_a2b hsx hm5 hsum hsl hs0) hZ (Wd hw 227 rfl) (Wd hw 188 rfl) (by decide) (by decide)) (g := mkF m 6 #[vr a0b, vi (0 : Int32), vr a2b, vi (own_n dn), vi (own_n mm)] [(.int (own_n mm)), (.int (own_n dn)), (.ref a2b), (.int 0), (.ref a0b)]) rfl (by rw [hml]; rfl) (argsL := [(.ref a0b), (.int 0), (.ref a2b), (.int (own_n dn)), (.int (own_n mm))]) (rest := []) (lenOf pdv11 rfl) rfl (by show 2 * 0 + _ ≤ _; exact lEq rfl) (dG hby D44 5 rfl) (fun _ _ => ⟨rfl, e0, (by decide : 0 + 0 ≤ _), (by decide : 0 + 0 ≤ _)⟩)
  dsimp only [Pt.U, Pt.locs, Pt.cells, Pt.slots] at X1 l1 y1 z1 st1 hQ1
  subst l1 y1 z1
  obtain ⟨rfl, N1q, Kc1, P1_0⟩ := hQ1
  have K1 : Keep h0 T1.heap [a2b] := (Keep.refl h0 [a2b]).trans Kc1 (allS (Or.inl (List.mem_of_getElem? (i := 0) rfl)) all0)
  have O1 := O0.keep Kc1 (allS g_a2b all0)
  have N1 := Fr.app N0 N1q
  obtain ⟨fs, hr, hrun, hended, hW, hsame⟩ := X1.leave (v := none) (fun _ => rfl)
  refine ⟨_, _, pre0 _ ?_, hrun, hended, _, _, rfl, ?_, ⟨_, rfl⟩, hW, hsame.mono (by decide) (by decide)⟩
  · show SP p e below s₁ m 0 #[vr a0b, vi (0 : Int32), vr a2b, vi (own_n dn), vi (own_n mm)] [] _
    refine XS.aloadN X0.here hx rfl (dG hby D44 0 rfl) rfl rfl ?_
    refine XS.iloadN X0.here hx rfl (dG hby D44 1 rfl) rfl ?_
    refine XS.aloadN X0.here hx rfl (dG hby D44 2 rfl) rfl rfl ?_
    refine XS.iloadN X0.here hx rfl (dG hby D44 3 rfl) rfl ?_
    refine XS.iload X0.here hx rfl (dG hby D44 4 rfl) rfl ?_
    show SP p e below s₁ m 6 #[vr a0b, vi (0 : Int32), vr a2b, vi (own_n dn), vi (own_n mm)] [(.int (own_n mm)), (.int (own_n dn)), (.ref a2b), (.int 0), (.ref a0b)] _
    refine st1 _ ?_
    show SP p e below T1 m 9 #[vr a0b, vi (0 : Int32), vr a2b, vi (own_n dn), vi (own_n mm)] [] _
    exact X1.returnOut hx Bd.returns (dG hby D44 6 rfl) hr
  · show Q_rmInL n0 Z cS vF a0b a2b sk sl ss sf k0 ds dn mm h0 _ T1.heap _
    exact ⟨rfl, N1, K1, P1_0⟩
theorem D40 : dL jdk_52_method_3_code [(0, .iload_n 0, 1), (1, .ifCond .ge 11, 3), (12, .iload_n 0, 1), (13, .ldc 20, 2), (15, .if_icmp .lt 40, 3), (55, .iload_n 0, 1), (56, .iconst 1, 1), (57, .ishl, 1), (58, .ireturn, 1)] = true := by decide +kernel
abbrev MN_17 : MethodName := ⟨"java/lang/StringUTF16", "newBytesLength", "(I)I"⟩
theorem ef_rmNbl (m : MethodId)  {nm : Nat} : entryFrame m #[(.int (own_n nm))] 1 = mkF m 0 #[vi (own_n nm)] [] := by first | (simp [entryFrame, mkF, argsToLocals, Value.category]; done) | rfl
def Q_rmNbl (n0 : Nat) (Z : State) (cS : Int32) (vF : Value) (nm : Nat) (h0 : Heap) (v : Option Value) (h : Heap) (L : List Loc) : Prop := v = some (.int (own_n (2 * nm))) ∧ Fr n0 L ∧ h = h0
theorem rmNbl (l : Launch) (Z : State) (a0 : Array Value) (hw : ∀ d ∈ tables_1, d.before a0 Z = true) (ws : List Jvm.Cond) (cS : Int32) (vF : Value) (nm : Nat) (h0 : Heap) (n0 : Nat) (O0 : Old Z n0 h0) (GL : GF Z cS vF) (hnm_ : nm ≤ 16) :
    MF l MN_17 jdk_52_method_3_code 1 (some .int) ws (Rm 0 0 0 0) #[(.int (own_n nm))] Z h0 (Q_rmNbl n0 Z cS vF nm h0) := by
  refine MetFree.of_bodySF (plainFor_of_name pnv2) hisR ?_
  intro p e s m args below meth c s₁ Bd hml0 hP hK
  obtain ⟨rfl, hZ, hh⟩ := hP
  have hx := Bd.exec
  have hby := Bd.bytes
  have hml : c.maxLocals = 1 := hml0
  have hown : s.vm.findClass "java/lang/StringUTF16" = some m.cls := findClass_of_methodNamed Bd.named
  have hnm := (name_of_methodNamed Bd.named Bd.method).1
  have X0 : Stand p l e (Rm 0 0 0 0) s m #[(.int (own_n nm))] below meth c s₁ [] 0 0 := Stand.of_body Bd
  have e0 : s₁.heap = h0 := by rw [← hh, Bd.state]; rfl
  have N0 := Fr.nil n0
  have pre0 : ∀ t, SP p e below s₁ m 0 #[vi (own_n nm)] [] t → Steps p.tables e below (s₁.setTop (entryFrame m #[(.int (own_n nm))] 1)) t := fun t k => castTop (ef_rmNbl m ) k
  have GL' := GL
  obtain ⟨GCS, GCP, GA16, GHI, GLO, GFF, GVF⟩ := GL'
  have hn0 : ¬ ((own_n nm) < (0 : Int32)) := (own_n_nn (by omega))
  have hn1 : (own_n nm) < (1073741823 : Int32) := ((own_n_lt (b := 1073741823) (by omega) (by decide)).mpr (by omega))
  obtain ⟨fs, hr, hrun, hended, hW, hsame⟩ := X0.leave (v := some (.int (own_n (2 * nm)))) (fun h => by rw [Bd.returns] at h; cases h)
  refine ⟨_, _, pre0 _ ?_, hrun, hended, _, _, rfl, ?_, ⟨_, rfl⟩, hW, hsame.mono (by decide) (by decide)⟩
  · show SP p e below s₁ m 0 #[vi (own_n nm)] [] _
    refine XS.iloadN X0.here hx rfl (dG hby D40 0 rfl) rfl ?_
    refine XS.ifYes X0.here hx rfl (pc0 := 1) (pc' := 12) rfl (dG hby D40 1 rfl) rfl ((if0 _ _).trans (flt hn0).2.1) (by decide) (by decide) ?_
    refine XS.iloadN X0.here hx rfl (dG hby D40 2 rfl) rfl ?_
    show SP p e below s₁ m 13 #[vi (own_n nm)] [(.int (own_n nm))] _
    refine X0.ldcInt hx hown (mvT hZ (Wd hw 205 rfl)) (g := mkF m 13 #[vi (own_n nm)] [(.int (own_n nm))]) rfl (dG hby D40 3 rfl) _ ?_
    show SP p e below s₁ m 15 #[vi (own_n nm)] [(.int 1073741823), (.int (own_n nm))] _
    refine XS.icmpYes X0.here hx rfl (pc0 := 15) (pc' := 55) rfl (dG hby D40 4 rfl) rfl (tlt hn1).1 (by decide) (by decide) ?_
    refine XS.iloadN X0.here hx rfl (dG hby D40 5 rfl) rfl ?_
    refine XS.iconst X0.here hx rfl (dG hby D40 6 rfl) ?_
    show SP p e below s₁ m 57 #[vi (own_n nm)] [(.int 1), (.int (own_n nm))] _
    refine XS.ishl X0.here hx rfl (dG hby D40 7 rfl) rfl ?_
    rw [own_n_shl nm]
    show SP p e below s₁ m 58 #[vi (own_n nm)] [(.int (own_n (2 * nm)))] _
    exact retI X0 hx Bd.returns (dG hby D40 8 rfl) hr
  · show Q_rmNbl n0 Z cS vF nm h0 _ s₁.heap _
    rw [e0]
    exact ⟨rfl, N0, rfl⟩
theorem D39 : dL jdk_52_method_2_code [(0, .iload_n 0, 1), (1, .invokestatic 11, 3), (4, .newarray .byte, 2), (6, .areturn, 1)] = true := by decide +kernel
theorem pdv12 : parseMethodDescriptor "(I)I" = some ⟨[.int], some .int⟩ := by decide +kernel
abbrev MN_18 : MethodName := ⟨"java/lang/StringUTF16", "newBytesFor", "(I)[B"⟩
def Q_rmNbf (n0 : Nat) (Z : State) (cS : Int32) (vF : Value) (nm : Nat) (h0 : Heap) (v : Option Value) (h : Heap) (L : List Loc) : Prop := ∃ b : Addr, ∃ kb : ClassId, ∃ zs : List Value, v = some (.ref b) ∧ Fr n0 L ∧ Keep h0 h [] ∧ (h0.size ≤ b) ∧ (Exa Z h b "[B") ∧ (Arv Z h b kb .byte (own_n (2 * nm)) zs (.int 0)) ∧ (zs.length = (2 * nm))
theorem rmNbf (l : Launch) (Z : State) (a0 : Array Value) (hw : ∀ d ∈ tables_1, d.before a0 Z = true) (ws : List Jvm.Cond) (cS : Int32) (vF : Value) (nm : Nat) (h0 : Heap) (n0 : Nat) (O0 : Old Z n0 h0) (GL : GF Z cS vF) (hnm_ : nm ≤ 16) :
    MF l MN_18 jdk_52_method_2_code 1 (some (.array .byte)) ws (Rm 1 1 32 12) #[(.int (own_n nm))] Z h0 (Q_rmNbf n0 Z cS vF nm h0) := by
  refine MetFree.of_bodySF (plainFor_of_name pnv2) hisR ?_
  intro p e s m args below meth c s₁ Bd hml0 hP hK
  obtain ⟨rfl, hZ, hh⟩ := hP
  have hx := Bd.exec
  have hby := Bd.bytes
  have hml : c.maxLocals = 1 := hml0
  have hown : s.vm.findClass "java/lang/StringUTF16" = some m.cls := findClass_of_methodNamed Bd.named
  have hnm := (name_of_methodNamed Bd.named Bd.method).1
  have X0 : Stand p l e (Rm 1 1 32 12) s m #[(.int (own_n nm))] below meth c s₁ [] 0 0 := Stand.of_body Bd
  have e0 : s₁.heap = h0 := by rw [← hh, Bd.state]; rfl
  have N0 := Fr.nil n0
  have pre0 : ∀ t, SP p e below s₁ m 0 #[vi (own_n nm)] [] t → Steps p.tables e below (s₁.setTop (entryFrame m #[(.int (own_n nm))] 1)) t := fun t k => castTop (ef_rmNbl m ) k
  have GL' := GL
  obtain ⟨GCS, GCP, GA16, GHI, GLO, GFF, GVF⟩ := GL'
  obtain ⟨_, _, ⟨T1, L1, k1, n1⟩, -, X1, ⟨Lc1, hQ1, l1, y1, z1⟩, st1⟩ := Jvm.LawKit.callS X0 hx (y := MN_17) hown (mvT hZ (Wd hw 202 rfl)) (mvT hZ (Wd hw 203 rfl)) (mvT hZ (Wd hw 188 rfl)) (mvT hZ (Wd hw 204 rfl)) (by decide) (backOf (W := 0) (rmNbl l Z a0 hw [] cS vF nm h0 n0 O0 GL hnm_) hZ (Wd hw 204 rfl) (Wd hw 188 rfl) (by decide) (by decide)) (g := mkF m 1 #[vi (own_n nm)] [(.int (own_n nm))]) rfl (by rw [hml]; rfl) (argsL := [(.int (own_n nm))]) (rest := []) (lenOf pdv12 rfl) rfl (by show 2 * 0 + _ ≤ _; exact lEq rfl) (dG hby D39 1 rfl) (fun _ _ => ⟨rfl, e0, (by decide : 0 + 0 ≤ _), (by decide : 0 + 0 ≤ _)⟩)
  dsimp only [Pt.U, Pt.locs, Pt.cells, Pt.slots] at X1 l1 y1 z1 st1 hQ1
  subst l1 y1 z1
  obtain ⟨rfl, N1q, e1⟩ := hQ1
  have N1 := Fr.app N0 N1q
  obtain ⟨T2, h2, k2, X2, e2, E2, A2, A2', st2⟩ := newPE X1 hx hZ (Wd hw 23 rfl) e1 (g := mkF m 4 #[vi (own_n nm)] [(.int (own_n (2 * nm)))]) rfl (dG hby D39 2 rfl) rfl (own_n_nn (by omega)) (cap := 32) (own_h8 (by omega)) (by decide) (by decide) (by decide) (ad := "[B") rfl
  obtain ⟨b2, g2⟩ : ∃ z, z = h0.size := ⟨_, rfl⟩
  rw [← g2] at A2 A2' st2
  have g_b2 : n0 ≤ b2 := lTr (own_sz O0) (lEq g2.symm)
  have sz_b2 : h0.size ≤ b2 := lTr (Keep.refl h0 []).1 (lEq g2.symm)
  have K2 : Keep h0 h2 [] := (Keep.refl h0 []).ext E2
  have O2 := O0.ext E2
  have V_b2 : Arv Z h2 b2 k2 .byte (own_n (2 * nm)) (List.replicate ((own_n (2 * nm))).toNatClampNeg (.int 0)) (.int 0) := (Arv.new A2 (own_n_nn (by omega))).pad (pad_rep [] (.int 0) ((own_n (2 * nm))).toNatClampNeg)
  have hzl : (List.replicate ((own_n (2 * nm))).toNatClampNeg (Value.int (0 : Int32))).length = (2 * nm) := (by rw [List.length_replicate, own_n_nat (by omega)])
  obtain ⟨fs, hr, hrun, hended, hW, hsame⟩ := X2.leave (v := some (.ref b2)) (fun h => by rw [Bd.returns] at h; cases h)
  refine ⟨_, _, pre0 _ ?_, hrun, hended, _, _, rfl, ?_, ⟨_, rfl⟩, hW, hsame.mono (by decide) (by decide)⟩
  · show SP p e below s₁ m 0 #[vi (own_n nm)] [] _
    refine XS.iloadN X0.here hx rfl (dG hby D39 0 rfl) rfl ?_
    show SP p e below s₁ m 1 #[vi (own_n nm)] [(.int (own_n nm))] _
    refine st1 _ ?_
    show SP p e below T1 m 4 #[vi (own_n nm)] [(.int (own_n (2 * nm)))] _
    refine st2 _ ?_
    show SP p e below T2 m 6 #[vi (own_n nm)] [(.ref b2)] _
    exact retA X2 hx Bd.returns rfl (dG hby D39 3 rfl) hr
  · show Q_rmNbf n0 Z cS vF nm h0 _ T2.heap _
    rw [e2]
    exact ⟨b2, k2, (List.replicate ((own_n (2 * nm))).toNatClampNeg (.int 0)), rfl, N1, K2, sz_b2, A2', V_b2, hzl⟩
theorem D38 : dL jdk_52_method_14_code [(0, .iload_n 2, 1), (1, .invokestatic 107, 3), (4, .astore_n 3, 1), (5, .iconst 0, 1), (6, .istore 4, 2), (8, .iload 4, 2), (10, .iload_n 2, 1), (11, .if_icmp .ge 21, 3), (14, .aload_n 3, 1), (15, .iload 4, 2), (17, .aload_n 0, 1), (18, .iload_n 1, 1), (19, .caload, 1), (20, .invokestatic 111, 3), (23, .iinc 1 1, 3), (26, .iinc 4 1, 3), (29, .goto (-21), 3), (32, .aload_n 3, 1), (33, .areturn, 1)] = true := by decide +kernel
theorem pdv13 : parseMethodDescriptor "(I)[B" = some ⟨[.int], some (.array .byte)⟩ := by decide +kernel
abbrev MN_19 : MethodName := ⟨"java/lang/StringUTF16", "toBytes", "([CII)[B"⟩
theorem ef_rmTb (m : MethodId) (a0c : Addr) {cn : Nat} : entryFrame m #[(.ref a0c), (.int 0), (.int (own_n cn))] 5 = mkF m 0 #[vr a0c, vi (0 : Int32), vi (own_n cn), .unset, .unset] [] := by first | (simp [entryFrame, mkF, argsToLocals, Value.category]; done) | rfl
def Q_rmTb (n0 : Nat) (Z : State) (cS : Int32) (vF : Value) (a0c : Addr) (kc : ClassId) (cs : List Value) (cn : Nat) (cf : Nat → Int32) (h0 : Heap) (v : Option Value) (h : Heap) (L : List Loc) : Prop := ∃ b : Addr, ∃ kb : ClassId, ∃ bs : List Value, v = some (.ref b) ∧ Fr n0 L ∧ Keep h0 h [] ∧ (h0.size ≤ b) ∧ (Exa Z h b "[B") ∧ (Arv Z h b kb .byte (own_n (2 * cn)) bs (.int 0)) ∧ (own_U bs cn cf)
theorem rmTb (l : Launch) (Z : State) (a0 : Array Value) (hw : ∀ d ∈ tables_1, d.before a0 Z = true) (ws : List Jvm.Cond) (cS : Int32) (vF : Value) (a0c : Addr) (kc : ClassId) (cs : List Value) (cn : Nat) (cf : Nat → Int32) (h0 : Heap) (n0 : Nat) (O0 : Old Z n0 h0) (GL : GF Z cS vF) (V_a0c : Arv Z h0 a0c kc .char (own_n cn) cs (.int 0)) (hcx : own_C cs cn cf) (hc3 : cn ≤ 3) :
    MF l MN_19 jdk_52_method_14_code 5 (some (.array .byte)) ws (Rm 2 1 32 24) #[(.ref a0c), (.int 0), (.int (own_n cn))] Z h0 (Q_rmTb n0 Z cS vF a0c kc cs cn cf h0) := by
  refine MetFree.of_bodySF (plainFor_of_name pnv2) hisR ?_
  intro p e s m args below meth c s₁ Bd hml0 hP hK
  obtain ⟨rfl, hZ, hh⟩ := hP
  have hx := Bd.exec
  have hby := Bd.bytes
  have hml : c.maxLocals = 5 := hml0
  have hown : s.vm.findClass "java/lang/StringUTF16" = some m.cls := findClass_of_methodNamed Bd.named
  have hnm := (name_of_methodNamed Bd.named Bd.method).1
  have X0 : Stand p l e (Rm 2 1 32 24) s m #[(.ref a0c), (.int 0), (.int (own_n cn))] below meth c s₁ [] 0 0 := Stand.of_body Bd
  have e0 : s₁.heap = h0 := by rw [← hh, Bd.state]; rfl
  have N0 := Fr.nil n0
  have pre0 : ∀ t, SP p e below s₁ m 0 #[vr a0c, vi (0 : Int32), vi (own_n cn), .unset, .unset] [] t → Steps p.tables e below (s₁.setTop (entryFrame m #[(.ref a0c), (.int 0), (.int (own_n cn))] 5)) t := fun t k => castTop (ef_rmTb m a0c) k
  have GL' := GL
  obtain ⟨GCS, GCP, GA16, GHI, GLO, GFF, GVF⟩ := GL'
  obtain ⟨_, _, ⟨T1, L1, k1, n1⟩, -, X1, ⟨Lc1, hQ1, l1, y1, z1⟩, st1⟩ := Jvm.LawKit.callS X0 hx (y := MN_18) hown (mvT hZ (Wd hw 199 rfl)) (mvT hZ (Wd hw 200 rfl)) (mvT hZ (Wd hw 188 rfl)) (mvT hZ (Wd hw 201 rfl)) (by decide) (backOf (W := 0) (rmNbf l Z a0 hw [] cS vF cn h0 n0 O0 GL (by omega)) hZ (Wd hw 201 rfl) (Wd hw 188 rfl) (by decide) (by decide)) (g := mkF m 1 #[vr a0c, vi (0 : Int32), vi (own_n cn), .unset, .unset] [(.int (own_n cn))]) rfl (by rw [hml]; rfl) (argsL := [(.int (own_n cn))]) (rest := []) (lenOf pdv13 rfl) rfl (by show 2 * 0 + _ ≤ _; exact lEq rfl) (dG hby D38 1 rfl) (fun _ _ => ⟨rfl, e0, (by decide : 0 + 1 ≤ _), (by decide : 0 + 32 ≤ _)⟩)
  dsimp only [Pt.U, Pt.locs, Pt.cells, Pt.slots] at X1 l1 y1 z1 st1 hQ1
  subst l1 y1 z1
  obtain ⟨b_1, kb_1, zs_1, rfl, N1q, Kc1, P1_0, P1_1, P1_2, P1_3⟩ := hQ1
  have K1 : Keep h0 T1.heap [] := (Keep.refl h0 []).trans Kc1 all0
  have O1 := O0.keep Kc1 all0
  have g_b_1 : n0 ≤ b_1 := lTr (own_sz O0) P1_0
  have sz_b_1 : h0.size ≤ b_1 := lTr (Keep.refl h0 []).1 P1_0
  have N1 := Fr.app N0 N1q
  have pre3 : ∀ t, SP p e below T1 m 11 #[vr a0c, vi (0 : Int32), vi (own_n cn), vr b_1, vi (0 : Int32)] [(.int (own_n cn)), (.int 0)] t → Steps p.tables e below (s₁.setTop (entryFrame m #[(.ref a0c), (.int 0), (.int (own_n cn))] 5)) t := fun t kt => by
    refine pre0 t ?_
    show SP p e below s₁ m 0 #[vr a0c, vi (0 : Int32), vi (own_n cn), .unset, .unset] [] _
    refine XS.iloadN X0.here hx rfl (dG hby D38 0 rfl) rfl ?_
    show SP p e below s₁ m 1 #[vr a0c, vi (0 : Int32), vi (own_n cn), .unset, .unset] [(.int (own_n cn))] _
    refine st1 _ ?_
    show SP p e below T1 m 4 #[vr a0c, vi (0 : Int32), vi (own_n cn), .unset, .unset] [(.ref b_1)] _
    refine XS.astoreN X1.here hx rfl (dG hby D38 2 rfl) rfl rfl (l' := #[vr a0c, vi (0 : Int32), vi (own_n cn), vr b_1, .unset]) rfl ?_
    refine XS.iconst X1.here hx rfl (dG hby D38 3 rfl) ?_
    refine XS.istore X1.here hx rfl (dG hby D38 4 rfl) rfl (l' := #[vr a0c, vi (0 : Int32), vi (own_n cn), vr b_1, vi (0 : Int32)]) rfl ?_
    refine XS.iload X1.here hx rfl (dG hby D38 5 rfl) rfl ?_
    refine XS.iloadN X1.here hx rfl (dG hby D38 6 rfl) rfl ?_
    exact kt
  by_cases hc11_2 : (0 : Int32) < (own_n cn)
  · have hk0 : 0 < cn := own_ml (k := 0) (by decide) (by omega) hc11_2
    have hn0 : nar .char (cf 0) = (cf 0) := (hcx 0 hk0).1
    obtain ⟨cl4, Ar4, -, S4, N4_, H4, G4⟩ := id ((V_a0c.keep Kc1 nin0))
    have hin4 : ¬ ((0 : Int32) < 0 ∨ cl4.slots.size ≤ ((0 : Int32)).toNatClampNeg) := inb_of S4 ⟨(by decide), hc11_2⟩
    have hat4 : cl4.slots[((0 : Int32)).toNatClampNeg]? = some (.int (cf 0)) := H4.at hin4 (hcx 0 hk0).2
    obtain ⟨_, _, ⟨T5, L5, k5, n5⟩, -, X5, ⟨Lc5, hQ5, l5, y5, z5⟩, st5⟩ := Jvm.LawKit.callS X1 hx (y := MN_11) hown (mvT hZ (Wd hw 206 rfl)) (mvT hZ (Wd hw 207 rfl)) (mvT hZ (Wd hw 188 rfl)) (mvT hZ (Wd hw 208 rfl)) (by decide) (backOf (W := 0) (rmPcU l Z a0 hw [] cS vF b_1 ((cf 0)) kb_1 zs_1 0 ((2 * cn)) (T1.heap) n0 O1 GL P1_2 P1_3 (by omega) (by omega) g_b_1) hZ (Wd hw 208 rfl) (Wd hw 188 rfl) (by decide) (by decide)) (g := mkF m 20 #[vr a0c, vi (0 : Int32), vi (own_n cn), vr b_1, vi (0 : Int32)] [(.int (cf 0)), (.int 0), (.ref b_1)]) rfl (by rw [hml]; rfl) (argsL := [(.ref b_1), (.int 0), (.int (cf 0))]) (rest := []) (lenOf pdv10 rfl) rfl (by show 2 * 0 + _ ≤ _; exact lEq rfl) (dG hby D38 13 rfl) (fun _ _ => ⟨rfl, rfl, (by decide : 1 + 0 ≤ _), (by decide : 32 + 0 ≤ _)⟩)
    dsimp only [Pt.U, Pt.locs, Pt.cells, Pt.slots] at X5 l5 y5 z5 st5 hQ5
    subst l5 y5 z5
    obtain ⟨rfl, N5q, Kc5, P5_0⟩ := hQ5
    have K5 : Keep h0 T5.heap [] := K1.trans Kc5 (allS (Or.inr sz_b_1) all0)
    have O5 := O1.keep Kc5 (allS g_b_1 all0)
    have N5 := Fr.app N1 N5q
    have pre7 : ∀ t, SP p e below T5 m 11 #[vr a0c, vi (1 : Int32), vi (own_n cn), vr b_1, vi (1 : Int32)] [(.int (own_n cn)), (.int 1)] t → Steps p.tables e below (s₁.setTop (entryFrame m #[(.ref a0c), (.int 0), (.int (own_n cn))] 5)) t := fun t kt => by
      refine pre3 t ?_
      show SP p e below T1 m 11 #[vr a0c, vi (0 : Int32), vi (own_n cn), vr b_1, vi (0 : Int32)] [(.int (own_n cn)), (.int 0)] _
      refine XS.icmpNo X1.here hx rfl (dG hby D38 7 rfl) rfl (tlt hc11_2).2.1 ?_
      refine XS.aloadN X1.here hx rfl (dG hby D38 8 rfl) rfl rfl ?_
      refine XS.iload X1.here hx rfl (dG hby D38 9 rfl) rfl ?_
      refine XS.aloadN X1.here hx rfl (dG hby D38 10 rfl) rfl rfl ?_
      refine XS.iloadN X1.here hx rfl (dG hby D38 11 rfl) rfl ?_
      show SP p e below T1 m 19 #[vr a0c, vi (0 : Int32), vi (own_n cn), vr b_1, vi (0 : Int32)] [(.int 0), (.ref a0c), (.int 0), (.ref b_1)] _
      refine X1.caload hx (j := (0 : Int32)) (v := (.int (cf 0))) Ar4.1 (State.isArrayOf_alike hZ.alike Ar4.2.1) Ar4.2.2 hin4 hat4 (g := mkF m 19 #[vr a0c, vi (0 : Int32), vi (own_n cn), vr b_1, vi (0 : Int32)] [(.int 0), (.ref a0c), (.int 0), (.ref b_1)]) rfl rfl (dG hby D38 12 rfl) _ ?_
      show SP p e below T1 m 20 #[vr a0c, vi (0 : Int32), vi (own_n cn), vr b_1, vi (0 : Int32)] [(.int (cf 0)), (.int 0), (.ref b_1)] _
      refine st5 _ ?_
      show SP p e below T5 m 23 #[vr a0c, vi (0 : Int32), vi (own_n cn), vr b_1, vi (0 : Int32)] [] _
      refine XS.iinc X5.here hx rfl (dG hby D38 14 rfl) rfl (l' := #[vr a0c, vi (1 : Int32), vi (own_n cn), vr b_1, vi (0 : Int32)]) rfl ?_
      refine XS.iinc X5.here hx rfl (dG hby D38 15 rfl) rfl (l' := #[vr a0c, vi (1 : Int32), vi (own_n cn), vr b_1, vi (1 : Int32)]) rfl ?_
      refine XS.goto X5.here hx rfl (pc0 := 29) (pc' := 8) rfl (dG hby D38 16 rfl) (by decide) (by decide) ?_
      refine XS.iload X5.here hx rfl (dG hby D38 5 rfl) rfl ?_
      refine XS.iloadN X5.here hx rfl (dG hby D38 6 rfl) rfl ?_
      exact kt
    by_cases hc11_6 : (1 : Int32) < (own_n cn)
    · have hk1 : 1 < cn := own_ml (k := 1) (by decide) (by omega) hc11_6
      have hn1 : nar .char (cf 1) = (cf 1) := (hcx 1 hk1).1
      obtain ⟨cl8, Ar8, -, S8, N8_, H8, G8⟩ := id (((V_a0c.keep Kc1 nin0).keep Kc5 (ninS (nLt (lLt V_a0c.lt P1_0)) nin0)))
      have hin8 : ¬ ((1 : Int32) < 0 ∨ cl8.slots.size ≤ ((1 : Int32)).toNatClampNeg) := inb_of S8 ⟨(by decide), hc11_6⟩
      have hat8 : cl8.slots[((1 : Int32)).toNatClampNeg]? = some (.int (cf 1)) := H8.at hin8 (hcx 1 hk1).2
      obtain ⟨_, _, ⟨T9, L9, k9, n9⟩, -, X9, ⟨Lc9, hQ9, l9, y9, z9⟩, st9⟩ := Jvm.LawKit.callS X5 hx (y := MN_11) hown (mvT hZ (Wd hw 206 rfl)) (mvT hZ (Wd hw 207 rfl)) (mvT hZ (Wd hw 188 rfl)) (mvT hZ (Wd hw 208 rfl)) (by decide) (backOf (W := 0) (rmPcU l Z a0 hw [] cS vF b_1 ((cf 1)) kb_1 ((own_put zs_1 0 (cf 0))) 1 ((2 * cn)) (T5.heap) n0 O5 GL P5_0 (by simp only [own_put_len]; exact P1_3) (by omega) (by omega) g_b_1) hZ (Wd hw 208 rfl) (Wd hw 188 rfl) (by decide) (by decide)) (g := mkF m 20 #[vr a0c, vi (1 : Int32), vi (own_n cn), vr b_1, vi (1 : Int32)] [(.int (cf 1)), (.int 1), (.ref b_1)]) rfl (by rw [hml]; rfl) (argsL := [(.ref b_1), (.int 1), (.int (cf 1))]) (rest := []) (lenOf pdv10 rfl) rfl (by show 2 * 0 + _ ≤ _; exact lEq rfl) (dG hby D38 13 rfl) (fun _ _ => ⟨rfl, rfl, (by decide : 1 + 0 ≤ _), (by decide : 32 + 0 ≤ _)⟩)
      dsimp only [Pt.U, Pt.locs, Pt.cells, Pt.slots] at X9 l9 y9 z9 st9 hQ9
      subst l9 y9 z9
      obtain ⟨rfl, N9q, Kc9, P9_0⟩ := hQ9
      have K9 : Keep h0 T9.heap [] := K5.trans Kc9 (allS (Or.inr sz_b_1) all0)
      have O9 := O5.keep Kc9 (allS g_b_1 all0)
      have N9 := Fr.app N5 N9q
      have pre11 : ∀ t, SP p e below T9 m 11 #[vr a0c, vi (2 : Int32), vi (own_n cn), vr b_1, vi (2 : Int32)] [(.int (own_n cn)), (.int 2)] t → Steps p.tables e below (s₁.setTop (entryFrame m #[(.ref a0c), (.int 0), (.int (own_n cn))] 5)) t := fun t kt => by
        refine pre7 t ?_
        show SP p e below T5 m 11 #[vr a0c, vi (1 : Int32), vi (own_n cn), vr b_1, vi (1 : Int32)] [(.int (own_n cn)), (.int 1)] _
        refine XS.icmpNo X5.here hx rfl (dG hby D38 7 rfl) rfl (tlt hc11_6).2.1 ?_
        refine XS.aloadN X5.here hx rfl (dG hby D38 8 rfl) rfl rfl ?_
        refine XS.iload X5.here hx rfl (dG hby D38 9 rfl) rfl ?_
        refine XS.aloadN X5.here hx rfl (dG hby D38 10 rfl) rfl rfl ?_
        refine XS.iloadN X5.here hx rfl (dG hby D38 11 rfl) rfl ?_
        show SP p e below T5 m 19 #[vr a0c, vi (1 : Int32), vi (own_n cn), vr b_1, vi (1 : Int32)] [(.int 1), (.ref a0c), (.int 1), (.ref b_1)] _
        refine X5.caload hx (j := (1 : Int32)) (v := (.int (cf 1))) Ar8.1 (State.isArrayOf_alike hZ.alike Ar8.2.1) Ar8.2.2 hin8 hat8 (g := mkF m 19 #[vr a0c, vi (1 : Int32), vi (own_n cn), vr b_1, vi (1 : Int32)] [(.int 1), (.ref a0c), (.int 1), (.ref b_1)]) rfl rfl (dG hby D38 12 rfl) _ ?_
        show SP p e below T5 m 20 #[vr a0c, vi (1 : Int32), vi (own_n cn), vr b_1, vi (1 : Int32)] [(.int (cf 1)), (.int 1), (.ref b_1)] _
        refine st9 _ ?_
        show SP p e below T9 m 23 #[vr a0c, vi (1 : Int32), vi (own_n cn), vr b_1, vi (1 : Int32)] [] _
        refine XS.iinc X9.here hx rfl (dG hby D38 14 rfl) rfl (l' := #[vr a0c, vi (2 : Int32), vi (own_n cn), vr b_1, vi (1 : Int32)]) rfl ?_
        refine XS.iinc X9.here hx rfl (dG hby D38 15 rfl) rfl (l' := #[vr a0c, vi (2 : Int32), vi (own_n cn), vr b_1, vi (2 : Int32)]) rfl ?_
        refine XS.goto X9.here hx rfl (pc0 := 29) (pc' := 8) rfl (dG hby D38 16 rfl) (by decide) (by decide) ?_
        refine XS.iload X9.here hx rfl (dG hby D38 5 rfl) rfl ?_
        refine XS.iloadN X9.here hx rfl (dG hby D38 6 rfl) rfl ?_
        exact kt
      by_cases hc11_10 : (2 : Int32) < (own_n cn)
      · have hk2 : 2 < cn := own_ml (k := 2) (by decide) (by omega) hc11_10
        have hn2 : nar .char (cf 2) = (cf 2) := (hcx 2 hk2).1
        obtain ⟨cl12, Ar12, -, S12, N12_, H12, G12⟩ := id ((((V_a0c.keep Kc1 nin0).keep Kc5 (ninS (nLt (lLt V_a0c.lt P1_0)) nin0)).keep Kc9 (ninS (nLt (lLt V_a0c.lt P1_0)) nin0)))
        have hin12 : ¬ ((2 : Int32) < 0 ∨ cl12.slots.size ≤ ((2 : Int32)).toNatClampNeg) := inb_of S12 ⟨(by decide), hc11_10⟩
        have hat12 : cl12.slots[((2 : Int32)).toNatClampNeg]? = some (.int (cf 2)) := H12.at hin12 (hcx 2 hk2).2
        obtain ⟨_, _, ⟨T13, L13, k13, n13⟩, -, X13, ⟨Lc13, hQ13, l13, y13, z13⟩, st13⟩ := Jvm.LawKit.callS X9 hx (y := MN_11) hown (mvT hZ (Wd hw 206 rfl)) (mvT hZ (Wd hw 207 rfl)) (mvT hZ (Wd hw 188 rfl)) (mvT hZ (Wd hw 208 rfl)) (by decide) (backOf (W := 0) (rmPcU l Z a0 hw [] cS vF b_1 ((cf 2)) kb_1 ((own_put (own_put zs_1 0 (cf 0)) 1 (cf 1))) 2 ((2 * cn)) (T9.heap) n0 O9 GL P9_0 (by simp only [own_put_len]; exact P1_3) (by omega) (by omega) g_b_1) hZ (Wd hw 208 rfl) (Wd hw 188 rfl) (by decide) (by decide)) (g := mkF m 20 #[vr a0c, vi (2 : Int32), vi (own_n cn), vr b_1, vi (2 : Int32)] [(.int (cf 2)), (.int 2), (.ref b_1)]) rfl (by rw [hml]; rfl) (argsL := [(.ref b_1), (.int 2), (.int (cf 2))]) (rest := []) (lenOf pdv10 rfl) rfl (by show 2 * 0 + _ ≤ _; exact lEq rfl) (dG hby D38 13 rfl) (fun _ _ => ⟨rfl, rfl, (by decide : 1 + 0 ≤ _), (by decide : 32 + 0 ≤ _)⟩)
        dsimp only [Pt.U, Pt.locs, Pt.cells, Pt.slots] at X13 l13 y13 z13 st13 hQ13
        subst l13 y13 z13
        obtain ⟨rfl, N13q, Kc13, P13_0⟩ := hQ13
        have K13 : Keep h0 T13.heap [] := K9.trans Kc13 (allS (Or.inr sz_b_1) all0)
        have O13 := O9.keep Kc13 (allS g_b_1 all0)
        have N13 := Fr.app N9 N13q
        have hend : ¬ ((3 : Int32) < (own_n cn)) := (fun z => absurd (own_ml (k := 3) (by decide) (by omega) z) (by omega))
        have hmk : cn = 3 := Nat.le_antisymm (own_mm (k := 3) (by decide) (by omega) hend) hk2
        have Vq : Arv Z T13.heap b_1 kb_1 .byte (own_n (2 * cn)) (own_inf zs_1 0 cf cn) (.int 0) := by
          have q := P13_0
          rw [hmk] at q ⊢
          exact q
        have hT : own_U (own_inf zs_1 0 cf cn) cn cf := own_U_newC hcx (by omega)
        obtain ⟨fs, hr, hrun, hended, hW, hsame⟩ := X13.leave (v := some (.ref b_1)) (fun h => by rw [Bd.returns] at h; cases h)
        refine ⟨_, _, pre11 _ ?_, hrun, hended, _, _, rfl, ?_, ⟨_, rfl⟩, hW, hsame.mono (by decide) (by decide)⟩
        · show SP p e below T9 m 11 #[vr a0c, vi (2 : Int32), vi (own_n cn), vr b_1, vi (2 : Int32)] [(.int (own_n cn)), (.int 2)] _
          refine XS.icmpNo X9.here hx rfl (dG hby D38 7 rfl) rfl (tlt hc11_10).2.1 ?_
          refine XS.aloadN X9.here hx rfl (dG hby D38 8 rfl) rfl rfl ?_
          refine XS.iload X9.here hx rfl (dG hby D38 9 rfl) rfl ?_
          refine XS.aloadN X9.here hx rfl (dG hby D38 10 rfl) rfl rfl ?_
          refine XS.iloadN X9.here hx rfl (dG hby D38 11 rfl) rfl ?_
          show SP p e below T9 m 19 #[vr a0c, vi (2 : Int32), vi (own_n cn), vr b_1, vi (2 : Int32)] [(.int 2), (.ref a0c), (.int 2), (.ref b_1)] _
          refine X9.caload hx (j := (2 : Int32)) (v := (.int (cf 2))) Ar12.1 (State.isArrayOf_alike hZ.alike Ar12.2.1) Ar12.2.2 hin12 hat12 (g := mkF m 19 #[vr a0c, vi (2 : Int32), vi (own_n cn), vr b_1, vi (2 : Int32)] [(.int 2), (.ref a0c), (.int 2), (.ref b_1)]) rfl rfl (dG hby D38 12 rfl) _ ?_
          show SP p e below T9 m 20 #[vr a0c, vi (2 : Int32), vi (own_n cn), vr b_1, vi (2 : Int32)] [(.int (cf 2)), (.int 2), (.ref b_1)] _
          refine st13 _ ?_
          show SP p e below T13 m 23 #[vr a0c, vi (2 : Int32), vi (own_n cn), vr b_1, vi (2 : Int32)] [] _
          refine XS.iinc X13.here hx rfl (dG hby D38 14 rfl) rfl (l' := #[vr a0c, vi (3 : Int32), vi (own_n cn), vr b_1, vi (2 : Int32)]) rfl ?_
          refine XS.iinc X13.here hx rfl (dG hby D38 15 rfl) rfl (l' := #[vr a0c, vi (3 : Int32), vi (own_n cn), vr b_1, vi (3 : Int32)]) rfl ?_
          refine XS.goto X13.here hx rfl (pc0 := 29) (pc' := 8) rfl (dG hby D38 16 rfl) (by decide) (by decide) ?_
          refine XS.iload X13.here hx rfl (dG hby D38 5 rfl) rfl ?_
          refine XS.iloadN X13.here hx rfl (dG hby D38 6 rfl) rfl ?_
          refine XS.icmpYes X13.here hx rfl (pc0 := 11) (pc' := 32) rfl (dG hby D38 7 rfl) rfl (flt hend).2.1 (by decide) (by decide) ?_
          refine XS.aloadN X13.here hx rfl (dG hby D38 17 rfl) rfl rfl ?_
          show SP p e below T13 m 33 #[vr a0c, vi (3 : Int32), vi (own_n cn), vr b_1, vi (3 : Int32)] [(.ref b_1)] _
          exact retA X13 hx Bd.returns rfl (dG hby D38 18 rfl) hr
        · show Q_rmTb n0 Z cS vF a0c kc cs cn cf h0 _ T13.heap _
          exact ⟨b_1, kb_1, (own_inf zs_1 0 cf cn), rfl, N13, K13, sz_b_1, (((P1_1.keep Kc5).keep Kc9).keep Kc13), Vq, hT⟩
      · have hmk : cn = 2 := Nat.le_antisymm (own_mm (k := 2) (by decide) (by omega) hc11_10) hk1
        have Vq : Arv Z T9.heap b_1 kb_1 .byte (own_n (2 * cn)) (own_inf zs_1 0 cf cn) (.int 0) := by
          have q := P9_0
          rw [hmk] at q ⊢
          exact q
        have hT : own_U (own_inf zs_1 0 cf cn) cn cf := own_U_newC hcx (by omega)
        obtain ⟨fs, hr, hrun, hended, hW, hsame⟩ := X9.leave (v := some (.ref b_1)) (fun h => by rw [Bd.returns] at h; cases h)
        refine ⟨_, _, pre11 _ ?_, hrun, hended, _, _, rfl, ?_, ⟨_, rfl⟩, hW, hsame.mono (by decide) (by decide)⟩
        · show SP p e below T9 m 11 #[vr a0c, vi (2 : Int32), vi (own_n cn), vr b_1, vi (2 : Int32)] [(.int (own_n cn)), (.int 2)] _
          refine XS.icmpYes X9.here hx rfl (pc0 := 11) (pc' := 32) rfl (dG hby D38 7 rfl) rfl (flt hc11_10).2.1 (by decide) (by decide) ?_
          refine XS.aloadN X9.here hx rfl (dG hby D38 17 rfl) rfl rfl ?_
          show SP p e below T9 m 33 #[vr a0c, vi (2 : Int32), vi (own_n cn), vr b_1, vi (2 : Int32)] [(.ref b_1)] _
          exact retA X9 hx Bd.returns rfl (dG hby D38 18 rfl) hr
        · show Q_rmTb n0 Z cS vF a0c kc cs cn cf h0 _ T9.heap _
          exact ⟨b_1, kb_1, (own_inf zs_1 0 cf cn), rfl, N9, K9, sz_b_1, ((P1_1.keep Kc5).keep Kc9), Vq, hT⟩
    · have hmk : cn = 1 := Nat.le_antisymm (own_mm (k := 1) (by decide) (by omega) hc11_6) hk0
      have Vq : Arv Z T5.heap b_1 kb_1 .byte (own_n (2 * cn)) (own_inf zs_1 0 cf cn) (.int 0) := by
        have q := P5_0
        rw [hmk] at q ⊢
        exact q
      have hT : own_U (own_inf zs_1 0 cf cn) cn cf := own_U_newC hcx (by omega)
      obtain ⟨fs, hr, hrun, hended, hW, hsame⟩ := X5.leave (v := some (.ref b_1)) (fun h => by rw [Bd.returns] at h; cases h)
      refine ⟨_, _, pre7 _ ?_, hrun, hended, _, _, rfl, ?_, ⟨_, rfl⟩, hW, hsame.mono (by decide) (by decide)⟩
      · show SP p e below T5 m 11 #[vr a0c, vi (1 : Int32), vi (own_n cn), vr b_1, vi (1 : Int32)] [(.int (own_n cn)), (.int 1)] _
        refine XS.icmpYes X5.here hx rfl (pc0 := 11) (pc' := 32) rfl (dG hby D38 7 rfl) rfl (flt hc11_6).2.1 (by decide) (by decide) ?_
        refine XS.aloadN X5.here hx rfl (dG hby D38 17 rfl) rfl rfl ?_
        show SP p e below T5 m 33 #[vr a0c, vi (1 : Int32), vi (own_n cn), vr b_1, vi (1 : Int32)] [(.ref b_1)] _
        exact retA X5 hx Bd.returns rfl (dG hby D38 18 rfl) hr
      · show Q_rmTb n0 Z cS vF a0c kc cs cn cf h0 _ T5.heap _
        exact ⟨b_1, kb_1, (own_inf zs_1 0 cf cn), rfl, N5, K5, sz_b_1, (P1_1.keep Kc5), Vq, hT⟩
  · have hmk : cn = 0 := Nat.le_antisymm (own_mm (k := 0) (by decide) (by omega) hc11_2) (Nat.zero_le _)
    have Vq : Arv Z T1.heap b_1 kb_1 .byte (own_n (2 * cn)) (own_inf zs_1 0 cf cn) (.int 0) := by
      have q := P1_2
      rw [hmk] at q ⊢
      exact q
    have hT : own_U (own_inf zs_1 0 cf cn) cn cf := own_U_newC hcx (by omega)
    obtain ⟨fs, hr, hrun, hended, hW, hsame⟩ := X1.leave (v := some (.ref b_1)) (fun h => by rw [Bd.returns] at h; cases h)
    refine ⟨_, _, pre3 _ ?_, hrun, hended, _, _, rfl, ?_, ⟨_, rfl⟩, hW, hsame.mono (by decide) (by decide)⟩
    · show SP p e below T1 m 11 #[vr a0c, vi (0 : Int32), vi (own_n cn), vr b_1, vi (0 : Int32)] [(.int (own_n cn)), (.int 0)] _
      refine XS.icmpYes X1.here hx rfl (pc0 := 11) (pc' := 32) rfl (dG hby D38 7 rfl) rfl (flt hc11_2).2.1 (by decide) (by decide) ?_
      refine XS.aloadN X1.here hx rfl (dG hby D38 17 rfl) rfl rfl ?_
      show SP p e below T1 m 33 #[vr a0c, vi (0 : Int32), vi (own_n cn), vr b_1, vi (0 : Int32)] [(.ref b_1)] _
      exact retA X1 hx Bd.returns rfl (dG hby D38 18 rfl) hr
    · show Q_rmTb n0 Z cS vF a0c kc cs cn cf h0 _ T1.heap _
      exact ⟨b_1, kb_1, (own_inf zs_1 0 cf cn), rfl, N1, K1, sz_b_1, P1_1, Vq, hT⟩
theorem D36 : dL jdk_52_method_21_code [(0, .iconst 0, 1), (1, .istore 5, 2), (3, .iload 5, 2), (5, .iload 4, 2), (7, .if_icmp .ge 37, 3), (10, .aload_n 0, 1), (11, .iload_n 1, 1), (12, .caload, 1), (13, .istore 6, 2), (15, .iload 6, 2), (17, .sipush 255, 3), (20, .if_icmp .le 6, 3), (23, .iload 5, 2), (25, .ireturn, 1), (26, .aload_n 2, 1), (27, .iload_n 3, 1), (28, .iload 6, 2), (30, .i2b, 1), (31, .bastore, 1), (32, .iinc 1 1, 3), (35, .iinc 3 1, 3), (38, .iinc 5 1, 3), (41, .goto (-38), 3), (44, .iload 4, 2), (46, .ireturn, 1)] = true := by decide +kernel
abbrev MN_20 : MethodName := ⟨"java/lang/StringUTF16", "compress", "([CI[BII)I"⟩
theorem ef_rmC2 (m : MethodId) (a0c : Addr) (a2b : Addr) {cn : Nat} : entryFrame m #[(.ref a0c), (.int 0), (.ref a2b), (.int 0), (.int (own_n cn))] 7 = mkF m 0 #[vr a0c, vi (0 : Int32), vr a2b, vi (0 : Int32), vi (own_n cn), .unset, .unset] [] := by first | (simp [entryFrame, mkF, argsToLocals, Value.category]; done) | rfl
def Q_rmC2 (n0 : Nat) (Z : State) (cS : Int32) (vF : Value) (a0c : Addr) (a2b : Addr) (kc : ClassId) (cs : List Value) (cn : Nat) (cf : Nat → Int32) (k2 : ClassId) (zs : List Value) (h0 : Heap) (v : Option Value) (h : Heap) (L : List Loc) : Prop := ∃ rm : Nat, ∃ bs : List Value, v = some (.int (own_n rm)) ∧ Fr n0 L ∧ Keep h0 h [a2b] ∧ (Arv Z h a2b k2 .byte (own_n cn) bs (.int 0)) ∧ (own_cz rm cn bs cf)
theorem rmC2 (l : Launch) (Z : State) (a0 : Array Value) (hw : ∀ d ∈ tables_1, d.before a0 Z = true) (ws : List Jvm.Cond) (cS : Int32) (vF : Value) (a0c : Addr) (a2b : Addr) (kc : ClassId) (cs : List Value) (cn : Nat) (cf : Nat → Int32) (k2 : ClassId) (zs : List Value) (h0 : Heap) (n0 : Nat) (O0 : Old Z n0 h0) (GL : GF Z cS vF) (V_a0c : Arv Z h0 a0c kc .char (own_n cn) cs (.int 0)) (hcx : own_C cs cn cf) (hc3 : cn ≤ 3) (V_a2b : Arv Z h0 a2b k2 .byte (own_n cn) zs (.int 0)) (hzl : zs.length = cn) (g_a2b : n0 ≤ a2b) :
    MF l MN_20 jdk_52_method_21_code 7 (some .int) ws (Rm 0 0 0 0) #[(.ref a0c), (.int 0), (.ref a2b), (.int 0), (.int (own_n cn))] Z h0 (Q_rmC2 n0 Z cS vF a0c a2b kc cs cn cf k2 zs h0) := by
  refine MetFree.of_bodySF (plainFor_of_name pnv2) hisR ?_
  intro p e s m args below meth c s₁ Bd hml0 hP hK
  obtain ⟨rfl, hZ, hh⟩ := hP
  have hx := Bd.exec
  have hby := Bd.bytes
  have hml : c.maxLocals = 7 := hml0
  have hown : s.vm.findClass "java/lang/StringUTF16" = some m.cls := findClass_of_methodNamed Bd.named
  have hnm := (name_of_methodNamed Bd.named Bd.method).1
  have X0 : Stand p l e (Rm 0 0 0 0) s m #[(.ref a0c), (.int 0), (.ref a2b), (.int 0), (.int (own_n cn))] below meth c s₁ [] 0 0 := Stand.of_body Bd
  have e0 : s₁.heap = h0 := by rw [← hh, Bd.state]; rfl
  have N0 := Fr.nil n0
  have pre0 : ∀ t, SP p e below s₁ m 0 #[vr a0c, vi (0 : Int32), vr a2b, vi (0 : Int32), vi (own_n cn), .unset, .unset] [] t → Steps p.tables e below (s₁.setTop (entryFrame m #[(.ref a0c), (.int 0), (.ref a2b), (.int 0), (.int (own_n cn))] 7)) t := fun t k => castTop (ef_rmC2 m a0c a2b) k
  have GL' := GL
  obtain ⟨GCS, GCP, GA16, GHI, GLO, GFF, GVF⟩ := GL'
  have pre2 : ∀ t, SP p e below s₁ m 7 #[vr a0c, vi (0 : Int32), vr a2b, vi (0 : Int32), vi (own_n cn), vi (0 : Int32), .unset] [(.int (own_n cn)), (.int 0)] t → Steps p.tables e below (s₁.setTop (entryFrame m #[(.ref a0c), (.int 0), (.ref a2b), (.int 0), (.int (own_n cn))] 7)) t := fun t kt => by
    refine pre0 t ?_
    show SP p e below s₁ m 0 #[vr a0c, vi (0 : Int32), vr a2b, vi (0 : Int32), vi (own_n cn), .unset, .unset] [] _
    refine XS.iconst X0.here hx rfl (dG hby D36 0 rfl) ?_
    refine XS.istore X0.here hx rfl (dG hby D36 1 rfl) rfl (l' := #[vr a0c, vi (0 : Int32), vr a2b, vi (0 : Int32), vi (own_n cn), vi (0 : Int32), .unset]) rfl ?_
    refine XS.iload X0.here hx rfl (dG hby D36 2 rfl) rfl ?_
    refine XS.iload X0.here hx rfl (dG hby D36 3 rfl) rfl ?_
    exact kt
  by_cases hc7_1 : (0 : Int32) < (own_n cn)
  · have hk0 : 0 < cn := own_ml (k := 0) (by decide) (by omega) hc7_1
    have hn0 : nar .char (cf 0) = (cf 0) := (hcx 0 hk0).1
    obtain ⟨cl3, Ar3, -, S3, N3_, H3, G3⟩ := id (V_a0c)
    have hin3 : ¬ ((0 : Int32) < 0 ∨ cl3.slots.size ≤ ((0 : Int32)).toNatClampNeg) := inb_of S3 ⟨(by decide), hc7_1⟩
    have hat3 : cl3.slots[((0 : Int32)).toNatClampNeg]? = some (.int (cf 0)) := H3.at hin3 (hcx 0 hk0).2
    have pre5 : ∀ t, SP p e below s₁ m 20 #[vr a0c, vi (0 : Int32), vr a2b, vi (0 : Int32), vi (own_n cn), vi (0 : Int32), vi (cf 0)] [(.int 255), (.int (cf 0))] t → Steps p.tables e below (s₁.setTop (entryFrame m #[(.ref a0c), (.int 0), (.ref a2b), (.int 0), (.int (own_n cn))] 7)) t := fun t kt => by
      refine pre2 t ?_
      show SP p e below s₁ m 7 #[vr a0c, vi (0 : Int32), vr a2b, vi (0 : Int32), vi (own_n cn), vi (0 : Int32), .unset] [(.int (own_n cn)), (.int 0)] _
      refine XS.icmpNo X0.here hx rfl (dG hby D36 4 rfl) rfl (tlt hc7_1).2.1 ?_
      refine XS.aloadN X0.here hx rfl (dG hby D36 5 rfl) rfl rfl ?_
      refine XS.iloadN X0.here hx rfl (dG hby D36 6 rfl) rfl ?_
      show SP p e below s₁ m 12 #[vr a0c, vi (0 : Int32), vr a2b, vi (0 : Int32), vi (own_n cn), vi (0 : Int32), .unset] [(.int 0), (.ref a0c)] _
      refine X0.caload hx (j := (0 : Int32)) (v := (.int (cf 0))) (by rw [e0]; exact Ar3.1) (State.isArrayOf_alike hZ.alike Ar3.2.1) Ar3.2.2 hin3 hat3 (g := mkF m 12 #[vr a0c, vi (0 : Int32), vr a2b, vi (0 : Int32), vi (own_n cn), vi (0 : Int32), .unset] [(.int 0), (.ref a0c)]) rfl rfl (dG hby D36 7 rfl) _ ?_
      show SP p e below s₁ m 13 #[vr a0c, vi (0 : Int32), vr a2b, vi (0 : Int32), vi (own_n cn), vi (0 : Int32), .unset] [(.int (cf 0))] _
      refine XS.istore X0.here hx rfl (dG hby D36 8 rfl) rfl (l' := #[vr a0c, vi (0 : Int32), vr a2b, vi (0 : Int32), vi (own_n cn), vi (0 : Int32), vi (cf 0)]) rfl ?_
      refine XS.iload X0.here hx rfl (dG hby D36 9 rfl) rfl ?_
      refine XS.sipush X0.here hx rfl (dG hby D36 10 rfl) ?_
      exact kt
    by_cases hc20_4 : (255 : Int32) < (cf 0)
    · have hT : own_cz 0 cn zs cf := (Or.inr ⟨hk0, hc20_4⟩)
      obtain ⟨fs, hr, hrun, hended, hW, hsame⟩ := X0.leave (v := some (.int 0)) (fun h => by rw [Bd.returns] at h; cases h)
      refine ⟨_, _, pre5 _ ?_, hrun, hended, _, _, rfl, ?_, ⟨_, rfl⟩, hW, hsame.mono (by decide) (by decide)⟩
      · show SP p e below s₁ m 20 #[vr a0c, vi (0 : Int32), vr a2b, vi (0 : Int32), vi (own_n cn), vi (0 : Int32), vi (cf 0)] [(.int 255), (.int (cf 0))] _
        refine XS.icmpNo X0.here hx rfl (dG hby D36 11 rfl) rfl (tlt hc20_4).2.2.2 ?_
        refine XS.iload X0.here hx rfl (dG hby D36 12 rfl) rfl ?_
        show SP p e below s₁ m 25 #[vr a0c, vi (0 : Int32), vr a2b, vi (0 : Int32), vi (own_n cn), vi (0 : Int32), vi (cf 0)] [(.int 0)] _
        exact retI X0 hx Bd.returns (dG hby D36 13 rfl) hr
      · show Q_rmC2 n0 Z cS vF a0c a2b kc cs cn cf k2 zs h0 _ s₁.heap _
        rw [e0]
        exact ⟨0, zs, rfl, N0, (Keep.refl h0 [a2b]), V_a2b, hT⟩
    · obtain ⟨cl6, Ar6, q6, S6, N6_, H6, G6⟩ := id (V_a2b)
      have hin6 : ¬ ((0 : Int32) < 0 ∨ cl6.slots.size ≤ ((0 : Int32)).toNatClampNeg) := inb_of S6 ⟨(by decide), hc7_1⟩
      obtain ⟨T6, h6, X6, e6, W6, st6⟩ := stB X0 hx hZ e0 Ar6 (j := (0 : Int32)) hin6 (g := mkF m 31 #[vr a0c, vi (0 : Int32), vr a2b, vi (0 : Int32), vi (own_n cn), vi (0 : Int32), vi (cf 0)] [(.int ((cf 0).toInt8.toInt32)), (.int 0), (.ref a2b)]) rfl rfl (dG hby D36 18 rfl)
      have K6 : Keep h0 h6 [a2b] := (Keep.refl h0 [a2b]).wr W6 (Or.inl (List.mem_of_getElem? (i := 0) rfl))
      have O6 := O0.wr W6 g_a2b
      have N6 := Fr.snoc X6 N0 g_a2b
      have V6' : Arv Z h6 a2b k2 .byte (own_n cn) (List.set zs 0 (.int (((cf 0).toInt8.toInt32)).toInt8.toInt32)) (.int 0) := Arv.set Ar6 q6 S6 N6_ H6 G6 (fits_nar_byte _) W6 0 rfl (by first | omega | (simp only [List.length_set]; omega))
      have V6 : Arv Z h6 a2b k2 .byte (own_n cn) (List.set zs 0 (.int ((cf 0).toInt8.toInt32))) (.int 0) := by
        rw [own_b2 (cf 0)] at V6'
        exact V6'
      have pre8 : ∀ t, SP p e below T6 m 7 #[vr a0c, vi (1 : Int32), vr a2b, vi (1 : Int32), vi (own_n cn), vi (1 : Int32), vi (cf 0)] [(.int (own_n cn)), (.int 1)] t → Steps p.tables e below (s₁.setTop (entryFrame m #[(.ref a0c), (.int 0), (.ref a2b), (.int 0), (.int (own_n cn))] 7)) t := fun t kt => by
        refine pre5 t ?_
        show SP p e below s₁ m 20 #[vr a0c, vi (0 : Int32), vr a2b, vi (0 : Int32), vi (own_n cn), vi (0 : Int32), vi (cf 0)] [(.int 255), (.int (cf 0))] _
        refine XS.icmpYes X0.here hx rfl (pc0 := 20) (pc' := 26) rfl (dG hby D36 11 rfl) rfl (flt hc20_4).2.2.2 (by decide) (by decide) ?_
        refine XS.aloadN X0.here hx rfl (dG hby D36 14 rfl) rfl rfl ?_
        refine XS.iloadN X0.here hx rfl (dG hby D36 15 rfl) rfl ?_
        refine XS.iload X0.here hx rfl (dG hby D36 16 rfl) rfl ?_
        refine XS.i2b X0.here hx rfl (dG hby D36 17 rfl) rfl ?_
        show SP p e below s₁ m 31 #[vr a0c, vi (0 : Int32), vr a2b, vi (0 : Int32), vi (own_n cn), vi (0 : Int32), vi (cf 0)] [(.int ((cf 0).toInt8.toInt32)), (.int 0), (.ref a2b)] _
        refine st6 _ ?_
        show SP p e below T6 m 32 #[vr a0c, vi (0 : Int32), vr a2b, vi (0 : Int32), vi (own_n cn), vi (0 : Int32), vi (cf 0)] [] _
        refine XS.iinc X6.here hx rfl (dG hby D36 19 rfl) rfl (l' := #[vr a0c, vi (1 : Int32), vr a2b, vi (0 : Int32), vi (own_n cn), vi (0 : Int32), vi (cf 0)]) rfl ?_
        refine XS.iinc X6.here hx rfl (dG hby D36 20 rfl) rfl (l' := #[vr a0c, vi (1 : Int32), vr a2b, vi (1 : Int32), vi (own_n cn), vi (0 : Int32), vi (cf 0)]) rfl ?_
        refine XS.iinc X6.here hx rfl (dG hby D36 21 rfl) rfl (l' := #[vr a0c, vi (1 : Int32), vr a2b, vi (1 : Int32), vi (own_n cn), vi (1 : Int32), vi (cf 0)]) rfl ?_
        refine XS.goto X6.here hx rfl (pc0 := 41) (pc' := 3) rfl (dG hby D36 22 rfl) (by decide) (by decide) ?_
        refine XS.iload X6.here hx rfl (dG hby D36 2 rfl) rfl ?_
        refine XS.iload X6.here hx rfl (dG hby D36 3 rfl) rfl ?_
        exact kt
      by_cases hc7_7 : (1 : Int32) < (own_n cn)
      · have hk1 : 1 < cn := own_ml (k := 1) (by decide) (by omega) hc7_7
        have hn1 : nar .char (cf 1) = (cf 1) := (hcx 1 hk1).1
        obtain ⟨cl9, Ar9, -, S9, N9_, H9, G9⟩ := id ((V_a0c.other W6 (own_neArv V_a0c V_a2b (by decide))))
        have hin9 : ¬ ((1 : Int32) < 0 ∨ cl9.slots.size ≤ ((1 : Int32)).toNatClampNeg) := inb_of S9 ⟨(by decide), hc7_7⟩
        have hat9 : cl9.slots[((1 : Int32)).toNatClampNeg]? = some (.int (cf 1)) := H9.at hin9 (hcx 1 hk1).2
        have pre11 : ∀ t, SP p e below T6 m 20 #[vr a0c, vi (1 : Int32), vr a2b, vi (1 : Int32), vi (own_n cn), vi (1 : Int32), vi (cf 1)] [(.int 255), (.int (cf 1))] t → Steps p.tables e below (s₁.setTop (entryFrame m #[(.ref a0c), (.int 0), (.ref a2b), (.int 0), (.int (own_n cn))] 7)) t := fun t kt => by
          refine pre8 t ?_
          show SP p e below T6 m 7 #[vr a0c, vi (1 : Int32), vr a2b, vi (1 : Int32), vi (own_n cn), vi (1 : Int32), vi (cf 0)] [(.int (own_n cn)), (.int 1)] _
          refine XS.icmpNo X6.here hx rfl (dG hby D36 4 rfl) rfl (tlt hc7_7).2.1 ?_
          refine XS.aloadN X6.here hx rfl (dG hby D36 5 rfl) rfl rfl ?_
          refine XS.iloadN X6.here hx rfl (dG hby D36 6 rfl) rfl ?_
          show SP p e below T6 m 12 #[vr a0c, vi (1 : Int32), vr a2b, vi (1 : Int32), vi (own_n cn), vi (1 : Int32), vi (cf 0)] [(.int 1), (.ref a0c)] _
          refine X6.caload hx (j := (1 : Int32)) (v := (.int (cf 1))) (by rw [e6]; exact Ar9.1) (State.isArrayOf_alike hZ.alike Ar9.2.1) Ar9.2.2 hin9 hat9 (g := mkF m 12 #[vr a0c, vi (1 : Int32), vr a2b, vi (1 : Int32), vi (own_n cn), vi (1 : Int32), vi (cf 0)] [(.int 1), (.ref a0c)]) rfl rfl (dG hby D36 7 rfl) _ ?_
          show SP p e below T6 m 13 #[vr a0c, vi (1 : Int32), vr a2b, vi (1 : Int32), vi (own_n cn), vi (1 : Int32), vi (cf 0)] [(.int (cf 1))] _
          refine XS.istore X6.here hx rfl (dG hby D36 8 rfl) rfl (l' := #[vr a0c, vi (1 : Int32), vr a2b, vi (1 : Int32), vi (own_n cn), vi (1 : Int32), vi (cf 1)]) rfl ?_
          refine XS.iload X6.here hx rfl (dG hby D36 9 rfl) rfl ?_
          refine XS.sipush X6.here hx rfl (dG hby D36 10 rfl) ?_
          exact kt
        by_cases hc20_10 : (255 : Int32) < (cf 1)
        · have hT : own_cz 1 cn (List.set zs 0 (.int ((cf 0).toInt8.toInt32))) cf := (Or.inr ⟨hk1, hc20_10⟩)
          obtain ⟨fs, hr, hrun, hended, hW, hsame⟩ := X6.leave (v := some (.int 1)) (fun h => by rw [Bd.returns] at h; cases h)
          refine ⟨_, _, pre11 _ ?_, hrun, hended, _, _, rfl, ?_, ⟨_, rfl⟩, hW, hsame.mono (by decide) (by decide)⟩
          · show SP p e below T6 m 20 #[vr a0c, vi (1 : Int32), vr a2b, vi (1 : Int32), vi (own_n cn), vi (1 : Int32), vi (cf 1)] [(.int 255), (.int (cf 1))] _
            refine XS.icmpNo X6.here hx rfl (dG hby D36 11 rfl) rfl (tlt hc20_10).2.2.2 ?_
            refine XS.iload X6.here hx rfl (dG hby D36 12 rfl) rfl ?_
            show SP p e below T6 m 25 #[vr a0c, vi (1 : Int32), vr a2b, vi (1 : Int32), vi (own_n cn), vi (1 : Int32), vi (cf 1)] [(.int 1)] _
            exact retI X6 hx Bd.returns (dG hby D36 13 rfl) hr
          · show Q_rmC2 n0 Z cS vF a0c a2b kc cs cn cf k2 zs h0 _ T6.heap _
            rw [e6]
            exact ⟨1, (List.set zs 0 (.int ((cf 0).toInt8.toInt32))), rfl, N6, K6, V6, hT⟩
        · obtain ⟨cl12, Ar12, q12, S12, N12_, H12, G12⟩ := id (V6)
          have hin12 : ¬ ((1 : Int32) < 0 ∨ cl12.slots.size ≤ ((1 : Int32)).toNatClampNeg) := inb_of S12 ⟨(by decide), hc7_7⟩
          obtain ⟨T12, h12, X12, e12, W12, st12⟩ := stB X6 hx hZ e6 Ar12 (j := (1 : Int32)) hin12 (g := mkF m 31 #[vr a0c, vi (1 : Int32), vr a2b, vi (1 : Int32), vi (own_n cn), vi (1 : Int32), vi (cf 1)] [(.int ((cf 1).toInt8.toInt32)), (.int 1), (.ref a2b)]) rfl rfl (dG hby D36 18 rfl)
          have K12 : Keep h0 h12 [a2b] := K6.wr W12 (Or.inl (List.mem_of_getElem? (i := 0) rfl))
          have O12 := O6.wr W12 g_a2b
          have N12 := Fr.snoc X12 N6 g_a2b
          have V12' : Arv Z h12 a2b k2 .byte (own_n cn) (List.set (List.set zs 0 (.int ((cf 0).toInt8.toInt32))) 1 (.int (((cf 1).toInt8.toInt32)).toInt8.toInt32)) (.int 0) := Arv.set Ar12 q12 S12 N12_ H12 G12 (fits_nar_byte _) W12 1 rfl (by first | omega | (simp only [List.length_set]; omega))
          have V12 : Arv Z h12 a2b k2 .byte (own_n cn) (List.set (List.set zs 0 (.int ((cf 0).toInt8.toInt32))) 1 (.int ((cf 1).toInt8.toInt32))) (.int 0) := by
            rw [own_b2 (cf 1)] at V12'
            exact V12'
          have pre14 : ∀ t, SP p e below T12 m 7 #[vr a0c, vi (2 : Int32), vr a2b, vi (2 : Int32), vi (own_n cn), vi (2 : Int32), vi (cf 1)] [(.int (own_n cn)), (.int 2)] t → Steps p.tables e below (s₁.setTop (entryFrame m #[(.ref a0c), (.int 0), (.ref a2b), (.int 0), (.int (own_n cn))] 7)) t := fun t kt => by
            refine pre11 t ?_
            show SP p e below T6 m 20 #[vr a0c, vi (1 : Int32), vr a2b, vi (1 : Int32), vi (own_n cn), vi (1 : Int32), vi (cf 1)] [(.int 255), (.int (cf 1))] _
            refine XS.icmpYes X6.here hx rfl (pc0 := 20) (pc' := 26) rfl (dG hby D36 11 rfl) rfl (flt hc20_10).2.2.2 (by decide) (by decide) ?_
            refine XS.aloadN X6.here hx rfl (dG hby D36 14 rfl) rfl rfl ?_
            refine XS.iloadN X6.here hx rfl (dG hby D36 15 rfl) rfl ?_
            refine XS.iload X6.here hx rfl (dG hby D36 16 rfl) rfl ?_
            refine XS.i2b X6.here hx rfl (dG hby D36 17 rfl) rfl ?_
            show SP p e below T6 m 31 #[vr a0c, vi (1 : Int32), vr a2b, vi (1 : Int32), vi (own_n cn), vi (1 : Int32), vi (cf 1)] [(.int ((cf 1).toInt8.toInt32)), (.int 1), (.ref a2b)] _
            refine st12 _ ?_
            show SP p e below T12 m 32 #[vr a0c, vi (1 : Int32), vr a2b, vi (1 : Int32), vi (own_n cn), vi (1 : Int32), vi (cf 1)] [] _
            refine XS.iinc X12.here hx rfl (dG hby D36 19 rfl) rfl (l' := #[vr a0c, vi (2 : Int32), vr a2b, vi (1 : Int32), vi (own_n cn), vi (1 : Int32), vi (cf 1)]) rfl ?_
            refine XS.iinc X12.here hx rfl (dG hby D36 20 rfl) rfl (l' := #[vr a0c, vi (2 : Int32), vr a2b, vi (2 : Int32), vi (own_n cn), vi (1 : Int32), vi (cf 1)]) rfl ?_
            refine XS.iinc X12.here hx rfl (dG hby D36 21 rfl) rfl (l' := #[vr a0c, vi (2 : Int32), vr a2b, vi (2 : Int32), vi (own_n cn), vi (2 : Int32), vi (cf 1)]) rfl ?_
            refine XS.goto X12.here hx rfl (pc0 := 41) (pc' := 3) rfl (dG hby D36 22 rfl) (by decide) (by decide) ?_
            refine XS.iload X12.here hx rfl (dG hby D36 2 rfl) rfl ?_
            refine XS.iload X12.here hx rfl (dG hby D36 3 rfl) rfl ?_
            exact kt
          by_cases hc7_13 : (2 : Int32) < (own_n cn)
          · have hk2 : 2 < cn := own_ml (k := 2) (by decide) (by omega) hc7_13
            have hn2 : nar .char (cf 2) = (cf 2) := (hcx 2 hk2).1
            obtain ⟨cl15, Ar15, -, S15, N15_, H15, G15⟩ := id (((V_a0c.other W6 (own_neArv V_a0c V_a2b (by decide))).other W12 (own_neArv V_a0c V_a2b (by decide))))
            have hin15 : ¬ ((2 : Int32) < 0 ∨ cl15.slots.size ≤ ((2 : Int32)).toNatClampNeg) := inb_of S15 ⟨(by decide), hc7_13⟩
            have hat15 : cl15.slots[((2 : Int32)).toNatClampNeg]? = some (.int (cf 2)) := H15.at hin15 (hcx 2 hk2).2
            have pre17 : ∀ t, SP p e below T12 m 20 #[vr a0c, vi (2 : Int32), vr a2b, vi (2 : Int32), vi (own_n cn), vi (2 : Int32), vi (cf 2)] [(.int 255), (.int (cf 2))] t → Steps p.tables e below (s₁.setTop (entryFrame m #[(.ref a0c), (.int 0), (.ref a2b), (.int 0), (.int (own_n cn))] 7)) t := fun t kt => by
              refine pre14 t ?_
              show SP p e below T12 m 7 #[vr a0c, vi (2 : Int32), vr a2b, vi (2 : Int32), vi (own_n cn), vi (2 : Int32), vi (cf 1)] [(.int (own_n cn)), (.int 2)] _
              refine XS.icmpNo X12.here hx rfl (dG hby D36 4 rfl) rfl (tlt hc7_13).2.1 ?_
              refine XS.aloadN X12.here hx rfl (dG hby D36 5 rfl) rfl rfl ?_
              refine XS.iloadN X12.here hx rfl (dG hby D36 6 rfl) rfl ?_
              show SP p e below T12 m 12 #[vr a0c, vi (2 : Int32), vr a2b, vi (2 : Int32), vi (own_n cn), vi (2 : Int32), vi (cf 1)] [(.int 2), (.ref a0c)] _
              refine X12.caload hx (j := (2 : Int32)) (v := (.int (cf 2))) (by rw [e12]; exact Ar15.1) (State.isArrayOf_alike hZ.alike Ar15.2.1) Ar15.2.2 hin15 hat15 (g := mkF m 12 #[vr a0c, vi (2 : Int32), vr a2b, vi (2 : Int32), vi (own_n cn), vi (2 : Int32), vi (cf 1)] [(.int 2), (.ref a0c)]) rfl rfl (dG hby D36 7 rfl) _ ?_
              show SP p e below T12 m 13 #[vr a0c, vi (2 : Int32), vr a2b, vi (2 : Int32), vi (own_n cn), vi (2 : Int32), vi (cf 1)] [(.int (cf 2))] _
              refine XS.istore X12.here hx rfl (dG hby D36 8 rfl) rfl (l' := #[vr a0c, vi (2 : Int32), vr a2b, vi (2 : Int32), vi (own_n cn), vi (2 : Int32), vi (cf 2)]) rfl ?_
              refine XS.iload X12.here hx rfl (dG hby D36 9 rfl) rfl ?_
              refine XS.sipush X12.here hx rfl (dG hby D36 10 rfl) ?_
              exact kt
            by_cases hc20_16 : (255 : Int32) < (cf 2)
            · have hT : own_cz 2 cn (List.set (List.set zs 0 (.int ((cf 0).toInt8.toInt32))) 1 (.int ((cf 1).toInt8.toInt32))) cf := (Or.inr ⟨hk2, hc20_16⟩)
              obtain ⟨fs, hr, hrun, hended, hW, hsame⟩ := X12.leave (v := some (.int 2)) (fun h => by rw [Bd.returns] at h; cases h)
              refine ⟨_, _, pre17 _ ?_, hrun, hended, _, _, rfl, ?_, ⟨_, rfl⟩, hW, hsame.mono (by decide) (by decide)⟩
              · show SP p e below T12 m 20 #[vr a0c, vi (2 : Int32), vr a2b, vi (2 : Int32), vi (own_n cn), vi (2 : Int32), vi (cf 2)] [(.int 255), (.int (cf 2))] _
                refine XS.icmpNo X12.here hx rfl (dG hby D36 11 rfl) rfl (tlt hc20_16).2.2.2 ?_
                refine XS.iload X12.here hx rfl (dG hby D36 12 rfl) rfl ?_
                show SP p e below T12 m 25 #[vr a0c, vi (2 : Int32), vr a2b, vi (2 : Int32), vi (own_n cn), vi (2 : Int32), vi (cf 2)] [(.int 2)] _
                exact retI X12 hx Bd.returns (dG hby D36 13 rfl) hr
              · show Q_rmC2 n0 Z cS vF a0c a2b kc cs cn cf k2 zs h0 _ T12.heap _
                rw [e12]
                exact ⟨2, (List.set (List.set zs 0 (.int ((cf 0).toInt8.toInt32))) 1 (.int ((cf 1).toInt8.toInt32))), rfl, N12, K12, V12, hT⟩
            · obtain ⟨cl18, Ar18, q18, S18, N18_, H18, G18⟩ := id (V12)
              have hin18 : ¬ ((2 : Int32) < 0 ∨ cl18.slots.size ≤ ((2 : Int32)).toNatClampNeg) := inb_of S18 ⟨(by decide), hc7_13⟩
              obtain ⟨T18, h18, X18, e18, W18, st18⟩ := stB X12 hx hZ e12 Ar18 (j := (2 : Int32)) hin18 (g := mkF m 31 #[vr a0c, vi (2 : Int32), vr a2b, vi (2 : Int32), vi (own_n cn), vi (2 : Int32), vi (cf 2)] [(.int ((cf 2).toInt8.toInt32)), (.int 2), (.ref a2b)]) rfl rfl (dG hby D36 18 rfl)
              have K18 : Keep h0 h18 [a2b] := K12.wr W18 (Or.inl (List.mem_of_getElem? (i := 0) rfl))
              have O18 := O12.wr W18 g_a2b
              have N18 := Fr.snoc X18 N12 g_a2b
              have V18' : Arv Z h18 a2b k2 .byte (own_n cn) (List.set (List.set (List.set zs 0 (.int ((cf 0).toInt8.toInt32))) 1 (.int ((cf 1).toInt8.toInt32))) 2 (.int (((cf 2).toInt8.toInt32)).toInt8.toInt32)) (.int 0) := Arv.set Ar18 q18 S18 N18_ H18 G18 (fits_nar_byte _) W18 2 rfl (by first | omega | (simp only [List.length_set]; omega))
              have V18 : Arv Z h18 a2b k2 .byte (own_n cn) (List.set (List.set (List.set zs 0 (.int ((cf 0).toInt8.toInt32))) 1 (.int ((cf 1).toInt8.toInt32))) 2 (.int ((cf 2).toInt8.toInt32))) (.int 0) := by
                rw [own_b2 (cf 2)] at V18'
                exact V18'
              have hend : ¬ ((3 : Int32) < (own_n cn)) := (fun z => absurd (own_ml (k := 3) (by decide) (by omega) z) (by omega))
              have hmk : cn = 3 := Nat.le_antisymm (own_mm (k := 3) (by decide) (by omega) hend) hk2
              have hT : own_cz cn cn (List.set (List.set (List.set zs 0 (.int ((cf 0).toInt8.toInt32))) 1 (.int ((cf 1).toInt8.toInt32))) 2 (.int ((cf 2).toInt8.toInt32))) cf := (Or.inl ⟨rfl, fun i hi => ⟨(hcx i hi).1, own_le3 hmk ⟨hc20_4, hc20_10, hc20_16, trivial⟩ i hi, (by rw [hmk] at hi; exact own_lat_at (vs := zs) (f := cf) (k := 3) (by omega) i hi)⟩⟩)
              obtain ⟨fs, hr, hrun, hended, hW, hsame⟩ := X18.leave (v := some (.int (own_n cn))) (fun h => by rw [Bd.returns] at h; cases h)
              refine ⟨_, _, pre17 _ ?_, hrun, hended, _, _, rfl, ?_, ⟨_, rfl⟩, hW, hsame.mono (by decide) (by decide)⟩
              · show SP p e below T12 m 20 #[vr a0c, vi (2 : Int32), vr a2b, vi (2 : Int32), vi (own_n cn), vi (2 : Int32), vi (cf 2)] [(.int 255), (.int (cf 2))] _
                refine XS.icmpYes X12.here hx rfl (pc0 := 20) (pc' := 26) rfl (dG hby D36 11 rfl) rfl (flt hc20_16).2.2.2 (by decide) (by decide) ?_
                refine XS.aloadN X12.here hx rfl (dG hby D36 14 rfl) rfl rfl ?_
                refine XS.iloadN X12.here hx rfl (dG hby D36 15 rfl) rfl ?_
                refine XS.iload X12.here hx rfl (dG hby D36 16 rfl) rfl ?_
                refine XS.i2b X12.here hx rfl (dG hby D36 17 rfl) rfl ?_
                show SP p e below T12 m 31 #[vr a0c, vi (2 : Int32), vr a2b, vi (2 : Int32), vi (own_n cn), vi (2 : Int32), vi (cf 2)] [(.int ((cf 2).toInt8.toInt32)), (.int 2), (.ref a2b)] _
                refine st18 _ ?_
                show SP p e below T18 m 32 #[vr a0c, vi (2 : Int32), vr a2b, vi (2 : Int32), vi (own_n cn), vi (2 : Int32), vi (cf 2)] [] _
                refine XS.iinc X18.here hx rfl (dG hby D36 19 rfl) rfl (l' := #[vr a0c, vi (3 : Int32), vr a2b, vi (2 : Int32), vi (own_n cn), vi (2 : Int32), vi (cf 2)]) rfl ?_
                refine XS.iinc X18.here hx rfl (dG hby D36 20 rfl) rfl (l' := #[vr a0c, vi (3 : Int32), vr a2b, vi (3 : Int32), vi (own_n cn), vi (2 : Int32), vi (cf 2)]) rfl ?_
                refine XS.iinc X18.here hx rfl (dG hby D36 21 rfl) rfl (l' := #[vr a0c, vi (3 : Int32), vr a2b, vi (3 : Int32), vi (own_n cn), vi (3 : Int32), vi (cf 2)]) rfl ?_
                refine XS.goto X18.here hx rfl (pc0 := 41) (pc' := 3) rfl (dG hby D36 22 rfl) (by decide) (by decide) ?_
                refine XS.iload X18.here hx rfl (dG hby D36 2 rfl) rfl ?_
                refine XS.iload X18.here hx rfl (dG hby D36 3 rfl) rfl ?_
                refine XS.icmpYes X18.here hx rfl (pc0 := 7) (pc' := 44) rfl (dG hby D36 4 rfl) rfl (flt hend).2.1 (by decide) (by decide) ?_
                refine XS.iload X18.here hx rfl (dG hby D36 23 rfl) rfl ?_
                show SP p e below T18 m 46 #[vr a0c, vi (3 : Int32), vr a2b, vi (3 : Int32), vi (own_n cn), vi (3 : Int32), vi (cf 2)] [(.int (own_n cn))] _
                exact retI X18 hx Bd.returns (dG hby D36 24 rfl) hr
              · show Q_rmC2 n0 Z cS vF a0c a2b kc cs cn cf k2 zs h0 _ T18.heap _
                rw [e18]
                exact ⟨cn, (List.set (List.set (List.set zs 0 (.int ((cf 0).toInt8.toInt32))) 1 (.int ((cf 1).toInt8.toInt32))) 2 (.int ((cf 2).toInt8.toInt32))), rfl, N18, K18, V18, hT⟩
          · have hmk : cn = 2 := Nat.le_antisymm (own_mm (k := 2) (by decide) (by omega) hc7_13) hk1
            have hT : own_cz cn cn (List.set (List.set zs 0 (.int ((cf 0).toInt8.toInt32))) 1 (.int ((cf 1).toInt8.toInt32))) cf := (Or.inl ⟨rfl, fun i hi => ⟨(hcx i hi).1, own_le3 hmk ⟨hc20_4, hc20_10, trivial⟩ i hi, (by rw [hmk] at hi; exact own_lat_at (vs := zs) (f := cf) (k := 2) (by omega) i hi)⟩⟩)
            obtain ⟨fs, hr, hrun, hended, hW, hsame⟩ := X12.leave (v := some (.int (own_n cn))) (fun h => by rw [Bd.returns] at h; cases h)
            refine ⟨_, _, pre14 _ ?_, hrun, hended, _, _, rfl, ?_, ⟨_, rfl⟩, hW, hsame.mono (by decide) (by decide)⟩
            · show SP p e below T12 m 7 #[vr a0c, vi (2 : Int32), vr a2b, vi (2 : Int32), vi (own_n cn), vi (2 : Int32), vi (cf 1)] [(.int (own_n cn)), (.int 2)] _
              refine XS.icmpYes X12.here hx rfl (pc0 := 7) (pc' := 44) rfl (dG hby D36 4 rfl) rfl (flt hc7_13).2.1 (by decide) (by decide) ?_
              refine XS.iload X12.here hx rfl (dG hby D36 23 rfl) rfl ?_
              show SP p e below T12 m 46 #[vr a0c, vi (2 : Int32), vr a2b, vi (2 : Int32), vi (own_n cn), vi (2 : Int32), vi (cf 1)] [(.int (own_n cn))] _
              exact retI X12 hx Bd.returns (dG hby D36 24 rfl) hr
            · show Q_rmC2 n0 Z cS vF a0c a2b kc cs cn cf k2 zs h0 _ T12.heap _
              rw [e12]
              exact ⟨cn, (List.set (List.set zs 0 (.int ((cf 0).toInt8.toInt32))) 1 (.int ((cf 1).toInt8.toInt32))), rfl, N12, K12, V12, hT⟩
      · have hmk : cn = 1 := Nat.le_antisymm (own_mm (k := 1) (by decide) (by omega) hc7_7) hk0
        have hT : own_cz cn cn (List.set zs 0 (.int ((cf 0).toInt8.toInt32))) cf := (Or.inl ⟨rfl, fun i hi => ⟨(hcx i hi).1, own_le3 hmk ⟨hc20_4, trivial⟩ i hi, (by rw [hmk] at hi; exact own_lat_at (vs := zs) (f := cf) (k := 1) (by omega) i hi)⟩⟩)
        obtain ⟨fs, hr, hrun, hended, hW, hsame⟩ := X6.leave (v := some (.int (own_n cn))) (fun h => by rw [Bd.returns] at h; cases h)
        refine ⟨_, _, pre8 _ ?_, hrun, hended, _, _, rfl, ?_, ⟨_, rfl⟩, hW, hsame.mono (by decide) (by decide)⟩
        · show SP p e below T6 m 7 #[vr a0c, vi (1 : Int32), vr a2b, vi (1 : Int32), vi (own_n cn), vi (1 : Int32), vi (cf 0)] [(.int (own_n cn)), (.int 1)] _
          refine XS.icmpYes X6.here hx rfl (pc0 := 7) (pc' := 44) rfl (dG hby D36 4 rfl) rfl (flt hc7_7).2.1 (by decide) (by decide) ?_
          refine XS.iload X6.here hx rfl (dG hby D36 23 rfl) rfl ?_
          show SP p e below T6 m 46 #[vr a0c, vi (1 : Int32), vr a2b, vi (1 : Int32), vi (own_n cn), vi (1 : Int32), vi (cf 0)] [(.int (own_n cn))] _
          exact retI X6 hx Bd.returns (dG hby D36 24 rfl) hr
        · show Q_rmC2 n0 Z cS vF a0c a2b kc cs cn cf k2 zs h0 _ T6.heap _
          rw [e6]
          exact ⟨cn, (List.set zs 0 (.int ((cf 0).toInt8.toInt32))), rfl, N6, K6, V6, hT⟩
  · have hmk : cn = 0 := Nat.le_antisymm (own_mm (k := 0) (by decide) (by omega) hc7_1) (Nat.zero_le _)
    have hT : own_cz cn cn zs cf := (Or.inl ⟨rfl, fun i hi => ⟨(hcx i hi).1, own_le3 hmk trivial i hi, (by rw [hmk] at hi; exact own_lat_at (vs := zs) (f := cf) (k := 0) (by omega) i hi)⟩⟩)
    obtain ⟨fs, hr, hrun, hended, hW, hsame⟩ := X0.leave (v := some (.int (own_n cn))) (fun h => by rw [Bd.returns] at h; cases h)
    refine ⟨_, _, pre2 _ ?_, hrun, hended, _, _, rfl, ?_, ⟨_, rfl⟩, hW, hsame.mono (by decide) (by decide)⟩
    · show SP p e below s₁ m 7 #[vr a0c, vi (0 : Int32), vr a2b, vi (0 : Int32), vi (own_n cn), vi (0 : Int32), .unset] [(.int (own_n cn)), (.int 0)] _
      refine XS.icmpYes X0.here hx rfl (pc0 := 7) (pc' := 44) rfl (dG hby D36 4 rfl) rfl (flt hc7_1).2.1 (by decide) (by decide) ?_
      refine XS.iload X0.here hx rfl (dG hby D36 23 rfl) rfl ?_
      show SP p e below s₁ m 46 #[vr a0c, vi (0 : Int32), vr a2b, vi (0 : Int32), vi (own_n cn), vi (0 : Int32), .unset] [(.int (own_n cn))] _
      exact retI X0 hx Bd.returns (dG hby D36 24 rfl) hr
    · show Q_rmC2 n0 Z cS vF a0c a2b kc cs cn cf k2 zs h0 _ s₁.heap _
      rw [e0]
      exact ⟨cn, zs, rfl, N0, (Keep.refl h0 [a2b]), V_a2b, hT⟩
theorem D35 : dL jdk_52_method_16_code [(0, .iload_n 2, 1), (1, .newarray .byte, 2), (3, .astore_n 3, 1), (4, .aload_n 0, 1), (5, .iload_n 1, 1), (6, .aload_n 3, 1), (7, .iconst 0, 1), (8, .iload_n 2, 1), (9, .invokestatic 115, 3), (12, .istore 4, 2), (14, .iload 4, 2), (16, .iload_n 2, 1), (17, .if_icmp .eq 40, 3), (57, .aload_n 3, 1), (58, .areturn, 1), (20, .aload_n 0, 1), (21, .iload_n 1, 1), (22, .iload_n 2, 1), (23, .invokestatic 119, 3), (26, .astore 5, 2), (28, .aload 5, 2), (30, .iload 4, 2), (32, .invokestatic 71, 3), (35, .sipush 255, 3), (38, .if_icmp .gt 16, 3), (54, .aload 5, 2), (56, .areturn, 1)] = true := by decide +kernel
theorem pdv14 : parseMethodDescriptor "([CI[BII)I" = some ⟨[(.array .char), .int, (.array .byte), .int, .int], some .int⟩ := by decide +kernel
theorem pdv15 : parseMethodDescriptor "([CII)[B" = some ⟨[(.array .char), .int, .int], some (.array .byte)⟩ := by decide +kernel
abbrev MN_21 : MethodName := ⟨"java/lang/StringUTF16", "compress", "([CII)[B"⟩
theorem ef_rmC1 (m : MethodId) (a0c : Addr) {cn : Nat} : entryFrame m #[(.ref a0c), (.int 0), (.int (own_n cn))] 6 = mkF m 0 #[vr a0c, vi (0 : Int32), vi (own_n cn), .unset, .unset, .unset] [] := by first | (simp [entryFrame, mkF, argsToLocals, Value.category]; done) | rfl
def Q_rmC1 (n0 : Nat) (Z : State) (cS : Int32) (vF : Value) (a0c : Addr) (kc : ClassId) (cs : List Value) (cn : Nat) (cf : Nat → Int32) (h0 : Heap) (v : Option Value) (h : Heap) (L : List Loc) : Prop := ∃ b : Addr, ∃ kb : ClassId, ∃ bs : List Value, ∃ bl : Int32, v = some (.ref b) ∧ Fr n0 L ∧ Keep h0 h [] ∧ (h0.size ≤ b) ∧ (Exa Z h b "[B") ∧ (Arv Z h b kb .byte bl bs (.int 0)) ∧ (own_sz2 bl bs cn cf)
theorem rmC1 (l : Launch) (Z : State) (a0 : Array Value) (hw : ∀ d ∈ tables_1, d.before a0 Z = true) (ws : List Jvm.Cond) (cS : Int32) (vF : Value) (a0c : Addr) (kc : ClassId) (cs : List Value) (cn : Nat) (cf : Nat → Int32) (h0 : Heap) (n0 : Nat) (O0 : Old Z n0 h0) (GL : GF Z cS vF) (V_a0c : Arv Z h0 a0c kc .char (own_n cn) cs (.int 0)) (hcx : own_C cs cn cf) (hc3 : cn ≤ 3) :
    MF l MN_21 jdk_52_method_16_code 6 (some (.array .byte)) ws (Rm 3 2 40 40) #[(.ref a0c), (.int 0), (.int (own_n cn))] Z h0 (Q_rmC1 n0 Z cS vF a0c kc cs cn cf h0) := by
  refine MetFree.of_bodySF (plainFor_of_name pnv2) hisR ?_
  intro p e s m args below meth c s₁ Bd hml0 hP hK
  obtain ⟨rfl, hZ, hh⟩ := hP
  have hx := Bd.exec
  have hby := Bd.bytes
  have hml : c.maxLocals = 6 := hml0
  have hown : s.vm.findClass "java/lang/StringUTF16" = some m.cls := findClass_of_methodNamed Bd.named
  have hnm := (name_of_methodNamed Bd.named Bd.method).1
  have X0 : Stand p l e (Rm 3 2 40 40) s m #[(.ref a0c), (.int 0), (.int (own_n cn))] below meth c s₁ [] 0 0 := Stand.of_body Bd
  have e0 : s₁.heap = h0 := by rw [← hh, Bd.state]; rfl
  have N0 := Fr.nil n0
  have pre0 : ∀ t, SP p e below s₁ m 0 #[vr a0c, vi (0 : Int32), vi (own_n cn), .unset, .unset, .unset] [] t → Steps p.tables e below (s₁.setTop (entryFrame m #[(.ref a0c), (.int 0), (.int (own_n cn))] 6)) t := fun t k => castTop (ef_rmC1 m a0c) k
  have GL' := GL
  obtain ⟨GCS, GCP, GA16, GHI, GLO, GFF, GVF⟩ := GL'
  obtain ⟨T1, h1, k1, X1, e1, E1, A1, A1', st1⟩ := newPE X0 hx hZ (Wd hw 23 rfl) e0 (g := mkF m 1 #[vr a0c, vi (0 : Int32), vi (own_n cn), .unset, .unset, .unset] [(.int (own_n cn))]) rfl (dG hby D35 1 rfl) rfl (own_n_nn (by omega)) (cap := 8) (own_h8 (by omega)) (by decide) (by decide) (by decide) (ad := "[B") rfl
  obtain ⟨b1, g1⟩ : ∃ z, z = h0.size := ⟨_, rfl⟩
  rw [← g1] at A1 A1' st1
  have g_b1 : n0 ≤ b1 := lTr (own_sz O0) (lEq g1.symm)
  have sz_b1 : h0.size ≤ b1 := lTr (Keep.refl h0 []).1 (lEq g1.symm)
  have K1 : Keep h0 h1 [] := (Keep.refl h0 []).ext E1
  have O1 := O0.ext E1
  have V_b1 : Arv Z h1 b1 k1 .byte (own_n cn) (List.replicate ((own_n cn)).toNatClampNeg (.int 0)) (.int 0) := (Arv.new A1 (own_n_nn (by omega))).pad (pad_rep [] (.int 0) ((own_n cn)).toNatClampNeg)
  have hzl9 : (List.replicate ((own_n cn)).toNatClampNeg (Value.int (0 : Int32))).length = cn := (by rw [List.length_replicate, own_n_nat (by omega)])
  obtain ⟨_, _, ⟨T2, L2, k2, n2⟩, -, X2, ⟨Lc2, hQ2, l2, y2, z2⟩, st2⟩ := Jvm.LawKit.callS X1 hx (y := MN_20) hown (mvT hZ (Wd hw 190 rfl)) (mvT hZ (Wd hw 191 rfl)) (mvT hZ (Wd hw 188 rfl)) (mvT hZ (Wd hw 192 rfl)) (by decide) (backOf (W := 0) (rmC2 l Z a0 hw [] cS vF a0c b1 kc cs cn cf k1 ((List.replicate ((own_n cn)).toNatClampNeg (.int 0))) h1 n0 O1 GL (V_a0c.ext E1) hcx hc3 V_b1 hzl9 g_b1) hZ (Wd hw 192 rfl) (Wd hw 188 rfl) (by decide) (by decide)) (g := mkF m 9 #[vr a0c, vi (0 : Int32), vi (own_n cn), vr b1, .unset, .unset] [(.int (own_n cn)), (.int 0), (.ref b1), (.int 0), (.ref a0c)]) rfl (by rw [hml]; rfl) (argsL := [(.ref a0c), (.int 0), (.ref b1), (.int 0), (.int (own_n cn))]) (rest := []) (lenOf pdv14 rfl) rfl (by show 2 * 0 + _ ≤ _; exact lEq rfl) (dG hby D35 8 rfl) (fun _ _ => ⟨rfl, e1, (by decide : 1 + 0 ≤ _), (by decide : 8 + 0 ≤ _)⟩)
  dsimp only [Pt.U, Pt.locs, Pt.cells, Pt.slots] at X2 l2 y2 z2 st2 hQ2
  subst l2 y2 z2
  obtain ⟨rm_2, bs_2, rfl, N2q, Kc2, P2_0, P2_1⟩ := hQ2
  have K2 : Keep h0 T2.heap [] := K1.trans Kc2 (allS (Or.inr sz_b1) all0)
  have O2 := O1.keep Kc2 (allS g_b1 all0)
  have N2 := Fr.app N0 N2q
  have pre3 : ∀ t, SP p e below T2 m 12 #[vr a0c, vi (0 : Int32), vi (own_n cn), vr b1, .unset, .unset] [(.int (own_n rm_2))] t → Steps p.tables e below (s₁.setTop (entryFrame m #[(.ref a0c), (.int 0), (.int (own_n cn))] 6)) t := fun t kt => by
    refine pre0 t ?_
    show SP p e below s₁ m 0 #[vr a0c, vi (0 : Int32), vi (own_n cn), .unset, .unset, .unset] [] _
    refine XS.iloadN X0.here hx rfl (dG hby D35 0 rfl) rfl ?_
    show SP p e below s₁ m 1 #[vr a0c, vi (0 : Int32), vi (own_n cn), .unset, .unset, .unset] [(.int (own_n cn))] _
    refine st1 _ ?_
    show SP p e below T1 m 3 #[vr a0c, vi (0 : Int32), vi (own_n cn), .unset, .unset, .unset] [(.ref b1)] _
    refine XS.astoreN X1.here hx rfl (dG hby D35 2 rfl) rfl rfl (l' := #[vr a0c, vi (0 : Int32), vi (own_n cn), vr b1, .unset, .unset]) rfl ?_
    refine XS.aloadN X1.here hx rfl (dG hby D35 3 rfl) rfl rfl ?_
    refine XS.iloadN X1.here hx rfl (dG hby D35 4 rfl) rfl ?_
    refine XS.aloadN X1.here hx rfl (dG hby D35 5 rfl) rfl rfl ?_
    refine XS.iconst X1.here hx rfl (dG hby D35 6 rfl) ?_
    refine XS.iloadN X1.here hx rfl (dG hby D35 7 rfl) rfl ?_
    show SP p e below T1 m 9 #[vr a0c, vi (0 : Int32), vi (own_n cn), vr b1, .unset, .unset] [(.int (own_n cn)), (.int 0), (.ref b1), (.int 0), (.ref a0c)] _
    refine st2 _ ?_
    exact kt
  rcases P2_1 with ⟨hr, hL⟩ | ⟨hr, hG⟩
  · have hr' := hr.symm
    subst hr'
    have hT : own_sz2 (own_n cn) bs_2 cn cf := (Or.inl ⟨rfl, hL⟩)
    obtain ⟨fs, hr, hrun, hended, hW, hsame⟩ := X2.leave (v := some (.ref b1)) (fun h => by rw [Bd.returns] at h; cases h)
    refine ⟨_, _, pre3 _ ?_, hrun, hended, _, _, rfl, ?_, ⟨_, rfl⟩, hW, hsame.mono (by decide) (by decide)⟩
    · show SP p e below T2 m 12 #[vr a0c, vi (0 : Int32), vi (own_n cn), vr b1, .unset, .unset] [(.int (own_n cn))] _
      refine XS.istore X2.here hx rfl (dG hby D35 9 rfl) rfl (l' := #[vr a0c, vi (0 : Int32), vi (own_n cn), vr b1, vi (own_n cn), .unset]) rfl ?_
      refine XS.iload X2.here hx rfl (dG hby D35 10 rfl) rfl ?_
      refine XS.iloadN X2.here hx rfl (dG hby D35 11 rfl) rfl ?_
      refine XS.icmpYes X2.here hx rfl (pc0 := 17) (pc' := 57) rfl (dG hby D35 12 rfl) rfl (teq (rfl : (own_n cn) = (own_n cn))).1 (by decide) (by decide) ?_
      refine XS.aloadN X2.here hx rfl (dG hby D35 13 rfl) rfl rfl ?_
      show SP p e below T2 m 58 #[vr a0c, vi (0 : Int32), vi (own_n cn), vr b1, vi (own_n cn), .unset] [(.ref b1)] _
      exact retA X2 hx Bd.returns rfl (dG hby D35 14 rfl) hr
    · show Q_rmC1 n0 Z cS vF a0c kc cs cn cf h0 _ T2.heap _
      exact ⟨b1, k1, bs_2, (own_n cn), rfl, N2, K2, sz_b1, (A1'.keep Kc2), P2_0, hT⟩
  · have hrn : ¬ ((own_n rm_2) = (own_n cn)) := (fun z => absurd ((own_n_eq (by omega) (by omega)).mp z) (by omega))
    have hG_ : (255 : Int32) < (cf rm_2) := hG
    have hr_ : rm_2 < cn := hr
    have hc8 : cn ≤ 8 := (by omega)
    obtain ⟨_, _, ⟨T4, L4, k4, n4⟩, -, X4, ⟨Lc4, hQ4, l4, y4, z4⟩, st4⟩ := Jvm.LawKit.callS X2 hx (y := MN_19) hown (mvT hZ (Wd hw 196 rfl)) (mvT hZ (Wd hw 197 rfl)) (mvT hZ (Wd hw 188 rfl)) (mvT hZ (Wd hw 198 rfl)) (by decide) (backOf (W := 0) (rmTb l Z a0 hw [] cS vF a0c kc cs cn cf (T2.heap) n0 O2 GL ((V_a0c.ext E1).keep Kc2 (ninS (nLt (lLt V_a0c.lt (lEq g1.symm))) nin0)) hcx hc3) hZ (Wd hw 198 rfl) (Wd hw 188 rfl) (by decide) (by decide)) (g := mkF m 23 #[vr a0c, vi (0 : Int32), vi (own_n cn), vr b1, vi (own_n rm_2), .unset] [(.int (own_n cn)), (.int 0), (.ref a0c)]) rfl (by rw [hml]; rfl) (argsL := [(.ref a0c), (.int 0), (.int (own_n cn))]) (rest := []) (lenOf pdv15 rfl) rfl (by show 2 * 0 + _ ≤ _; exact lEq rfl) (dG hby D35 18 rfl) (fun _ _ => ⟨rfl, rfl, (by decide : 1 + 1 ≤ _), (by decide : 8 + 32 ≤ _)⟩)
    dsimp only [Pt.U, Pt.locs, Pt.cells, Pt.slots] at X4 l4 y4 z4 st4 hQ4
    subst l4 y4 z4
    obtain ⟨b_4, kb_4, bs_4, rfl, N4q, Kc4, P4_0, P4_1, P4_2, P4_3⟩ := hQ4
    have K4 : Keep h0 T4.heap [] := K2.trans Kc4 all0
    have O4 := O2.keep Kc4 all0
    have g_b_4 : n0 ≤ b_4 := lTr (own_sz O2) P4_0
    have sz_b_4 : h0.size ≤ b_4 := lTr K2.1 P4_0
    have N4 := Fr.app N2 N4q
    obtain ⟨_, _, ⟨T5, L5, k5, n5⟩, -, X5, ⟨Lc5, hQ5, l5, y5, z5⟩, st5⟩ := Jvm.LawKit.callS X4 hx (y := MN_8) hown (mvT hZ (Wd hw 212 rfl)) (mvT hZ (Wd hw 213 rfl)) (mvT hZ (Wd hw 188 rfl)) (mvT hZ (Wd hw 214 rfl)) (by decide) (backOf (W := 0) (rmGcU l Z a0 hw [] cS vF b_4 kb_4 bs_4 cn cf rm_2 (T4.heap) n0 O4 GL P4_2 P4_3 hr_ hc8) hZ (Wd hw 214 rfl) (Wd hw 188 rfl) (by decide) (by decide)) (g := mkF m 32 #[vr a0c, vi (0 : Int32), vi (own_n cn), vr b1, vi (own_n rm_2), vr b_4] [(.int (own_n rm_2)), (.ref b_4)]) rfl (by rw [hml]; rfl) (argsL := [(.ref b_4), (.int (own_n rm_2))]) (rest := []) (lenOf pdv5 rfl) rfl (by show 2 * 0 + _ ≤ _; exact lEq rfl) (dG hby D35 22 rfl) (fun _ _ => ⟨rfl, rfl, (by decide : 2 + 0 ≤ _), (by decide : 40 + 0 ≤ _)⟩)
    dsimp only [Pt.U, Pt.locs, Pt.cells, Pt.slots] at X5 l5 y5 z5 st5 hQ5
    subst l5 y5 z5
    obtain ⟨rfl, N5q, e5⟩ := hQ5
    have N5 := Fr.app N4 N5q
    have hT : own_sz2 (own_n (2 * cn)) bs_4 cn cf := (Or.inr ⟨rfl, P4_3⟩)
    obtain ⟨fs, hr, hrun, hended, hW, hsame⟩ := X5.leave (v := some (.ref b_4)) (fun h => by rw [Bd.returns] at h; cases h)
    refine ⟨_, _, pre3 _ ?_, hrun, hended, _, _, rfl, ?_, ⟨_, rfl⟩, hW, hsame.mono (by decide) (by decide)⟩
    · show SP p e below T2 m 12 #[vr a0c, vi (0 : Int32), vi (own_n cn), vr b1, .unset, .unset] [(.int (own_n rm_2))] _
      refine XS.istore X2.here hx rfl (dG hby D35 9 rfl) rfl (l' := #[vr a0c, vi (0 : Int32), vi (own_n cn), vr b1, vi (own_n rm_2), .unset]) rfl ?_
      refine XS.iload X2.here hx rfl (dG hby D35 10 rfl) rfl ?_
      refine XS.iloadN X2.here hx rfl (dG hby D35 11 rfl) rfl ?_
      refine XS.icmpNo X2.here hx rfl (dG hby D35 12 rfl) rfl (feq hrn).1 ?_
      refine XS.aloadN X2.here hx rfl (dG hby D35 15 rfl) rfl rfl ?_
      refine XS.iloadN X2.here hx rfl (dG hby D35 16 rfl) rfl ?_
      refine XS.iloadN X2.here hx rfl (dG hby D35 17 rfl) rfl ?_
      show SP p e below T2 m 23 #[vr a0c, vi (0 : Int32), vi (own_n cn), vr b1, vi (own_n rm_2), .unset] [(.int (own_n cn)), (.int 0), (.ref a0c)] _
      refine st4 _ ?_
      show SP p e below T4 m 26 #[vr a0c, vi (0 : Int32), vi (own_n cn), vr b1, vi (own_n rm_2), .unset] [(.ref b_4)] _
      refine XS.astore X4.here hx rfl (dG hby D35 19 rfl) rfl rfl (l' := #[vr a0c, vi (0 : Int32), vi (own_n cn), vr b1, vi (own_n rm_2), vr b_4]) rfl ?_
      refine XS.aload X4.here hx rfl (dG hby D35 20 rfl) rfl rfl ?_
      refine XS.iload X4.here hx rfl (dG hby D35 21 rfl) rfl ?_
      show SP p e below T4 m 32 #[vr a0c, vi (0 : Int32), vi (own_n cn), vr b1, vi (own_n rm_2), vr b_4] [(.int (own_n rm_2)), (.ref b_4)] _
      refine st5 _ ?_
      show SP p e below T5 m 35 #[vr a0c, vi (0 : Int32), vi (own_n cn), vr b1, vi (own_n rm_2), vr b_4] [(.int (cf rm_2))] _
      refine XS.sipush X5.here hx rfl (dG hby D35 23 rfl) ?_
      refine XS.icmpYes X5.here hx rfl (pc0 := 38) (pc' := 54) rfl (dG hby D35 24 rfl) rfl (tlt hG_).2.2.1 (by decide) (by decide) ?_
      refine XS.aload X5.here hx rfl (dG hby D35 25 rfl) rfl rfl ?_
      show SP p e below T5 m 56 #[vr a0c, vi (0 : Int32), vi (own_n cn), vr b1, vi (own_n rm_2), vr b_4] [(.ref b_4)] _
      exact retA X5 hx Bd.returns rfl (dG hby D35 26 rfl) hr
    · show Q_rmC1 n0 Z cS vF a0c kc cs cn cf h0 _ T5.heap _
      rw [e5]
      exact ⟨b_4, kb_4, bs_4, (own_n (2 * cn)), rfl, N5, K4, sz_b_4, P4_1, P4_2, hT⟩
theorem D37 : dL jdk_52_method_15_code [(0, .iload_n 1, 1), (1, .aload_n 0, 1), (2, .arraylength, 1), (3, .isub, 1), (4, .bipush 31, 2), (6, .iushr, 1), (7, .i2b, 1), (8, .ireturn, 1)] = true := by decide +kernel
abbrev MN_22 : MethodName := ⟨"java/lang/StringUTF16", "coderFromArrayLen", "([BI)B"⟩
theorem ef_rmCfa0 (m : MethodId) (a0b : Addr) {cn : Nat} : entryFrame m #[(.ref a0b), (.int (own_n cn))] 2 = mkF m 0 #[vr a0b, vi (own_n cn)] [] := by first | (simp [entryFrame, mkF, argsToLocals, Value.category]; done) | rfl
def Q_rmCfa0 (n0 : Nat) (Z : State) (cS : Int32) (vF : Value) (a0b : Addr) (k0 : ClassId) (ds : List Value) (cn : Nat) (h0 : Heap) (v : Option Value) (h : Heap) (L : List Loc) : Prop := v = some (.int 0) ∧ Fr n0 L ∧ h = h0
theorem rmCfa0 (l : Launch) (Z : State) (a0 : Array Value) (hw : ∀ d ∈ tables_1, d.before a0 Z = true) (ws : List Jvm.Cond) (cS : Int32) (vF : Value) (a0b : Addr) (k0 : ClassId) (ds : List Value) (cn : Nat) (h0 : Heap) (n0 : Nat) (O0 : Old Z n0 h0) (GL : GF Z cS vF) (V_a0b : Arv Z h0 a0b k0 .byte (own_n cn) ds (.int 0)) (h8 : cn ≤ 8) (h0_ : ¬ ((own_n cn) = (0 : Int32))) :
    MF l MN_22 jdk_52_method_15_code 2 (some .byte) ws (Rm 0 0 0 0) #[(.ref a0b), (.int (own_n cn))] Z h0 (Q_rmCfa0 n0 Z cS vF a0b k0 ds cn h0) := by
  refine MetFree.of_bodySF (plainFor_of_name pnv2) hisR ?_
  intro p e s m args below meth c s₁ Bd hml0 hP hK
  obtain ⟨rfl, hZ, hh⟩ := hP
  have hx := Bd.exec
  have hby := Bd.bytes
  have hml : c.maxLocals = 2 := hml0
  have hown : s.vm.findClass "java/lang/StringUTF16" = some m.cls := findClass_of_methodNamed Bd.named
  have hnm := (name_of_methodNamed Bd.named Bd.method).1
  have X0 : Stand p l e (Rm 0 0 0 0) s m #[(.ref a0b), (.int (own_n cn))] below meth c s₁ [] 0 0 := Stand.of_body Bd
  have e0 : s₁.heap = h0 := by rw [← hh, Bd.state]; rfl
  have N0 := Fr.nil n0
  have pre0 : ∀ t, SP p e below s₁ m 0 #[vr a0b, vi (own_n cn)] [] t → Steps p.tables e below (s₁.setTop (entryFrame m #[(.ref a0b), (.int (own_n cn))] 2)) t := fun t k => castTop (ef_rmCfa0 m a0b) k
  have GL' := GL
  obtain ⟨GCS, GCP, GA16, GHI, GLO, GFF, GVF⟩ := GL'
  obtain ⟨cl1, Ar1, -, S1, N1_, -, -⟩ := id (V_a0b)
  obtain ⟨fs, hr, hrun, hended, hW, hsame⟩ := X0.leave (v := some (.int 0)) (fun h => by rw [Bd.returns] at h; cases h)
  refine ⟨_, _, pre0 _ ?_, hrun, hended, _, _, rfl, ?_, ⟨_, rfl⟩, hW, hsame.mono (by decide) (by decide)⟩
  · show SP p e below s₁ m 0 #[vr a0b, vi (own_n cn)] [] _
    refine XS.iloadN X0.here hx rfl (dG hby D37 0 rfl) rfl ?_
    refine XS.aloadN X0.here hx rfl (dG hby D37 1 rfl) rfl rfl ?_
    show SP p e below s₁ m 2 #[vr a0b, vi (own_n cn)] [(.ref a0b), (.int (own_n cn))] _
    refine X0.arraylength hx (by rw [e0]; exact Ar1.1) (State.isArrayOf_alike hZ.alike Ar1.2.1) (g := mkF m 2 #[vr a0b, vi (own_n cn)] [(.ref a0b), (.int (own_n cn))]) rfl rfl (dG hby D37 2 rfl) _ ?_
    rw [len_of S1 N1_]
    show SP p e below s₁ m 3 #[vr a0b, vi (own_n cn)] [(.int (own_n cn)), (.int (own_n cn))] _
    refine XS.isub X0.here hx rfl (dG hby D37 3 rfl) rfl ?_
    rw [own_subs cn]
    show SP p e below s₁ m 4 #[vr a0b, vi (own_n cn)] [(.int 0)] _
    refine XS.bipush X0.here hx rfl (dG hby D37 4 rfl) ?_
    refine XS.iushr X0.here hx rfl (dG hby D37 5 rfl) rfl ?_
    refine XS.i2b X0.here hx rfl (dG hby D37 6 rfl) rfl ?_
    show SP p e below s₁ m 8 #[vr a0b, vi (own_n cn)] [(.int 0)] _
    exact retN X0 hx (t := .byte) Bd.returns (by simp) (dG hby D37 7 rfl) hr
  · show Q_rmCfa0 n0 Z cS vF a0b k0 ds cn h0 _ s₁.heap _
    rw [e0]
    exact ⟨rfl, N0, rfl⟩
def Q_rmCfa1 (n0 : Nat) (Z : State) (cS : Int32) (vF : Value) (a0b : Addr) (k0 : ClassId) (ds : List Value) (cn : Nat) (h0 : Heap) (v : Option Value) (h : Heap) (L : List Loc) : Prop := v = some (.int 1) ∧ Fr n0 L ∧ h = h0
theorem rmCfa1 (l : Launch) (Z : State) (a0 : Array Value) (hw : ∀ d ∈ tables_1, d.before a0 Z = true) (ws : List Jvm.Cond) (cS : Int32) (vF : Value) (a0b : Addr) (k0 : ClassId) (ds : List Value) (cn : Nat) (h0 : Heap) (n0 : Nat) (O0 : Old Z n0 h0) (GL : GF Z cS vF) (V_a0b : Arv Z h0 a0b k0 .byte (own_n (2 * cn)) ds (.int 0)) (h8 : cn ≤ 8) (h0_ : ¬ ((own_n cn) = (0 : Int32))) :
    MF l MN_22 jdk_52_method_15_code 2 (some .byte) ws (Rm 0 0 0 0) #[(.ref a0b), (.int (own_n cn))] Z h0 (Q_rmCfa1 n0 Z cS vF a0b k0 ds cn h0) := by
  refine MetFree.of_bodySF (plainFor_of_name pnv2) hisR ?_
  intro p e s m args below meth c s₁ Bd hml0 hP hK
  obtain ⟨rfl, hZ, hh⟩ := hP
  have hx := Bd.exec
  have hby := Bd.bytes
  have hml : c.maxLocals = 2 := hml0
  have hown : s.vm.findClass "java/lang/StringUTF16" = some m.cls := findClass_of_methodNamed Bd.named
  have hnm := (name_of_methodNamed Bd.named Bd.method).1
  have X0 : Stand p l e (Rm 0 0 0 0) s m #[(.ref a0b), (.int (own_n cn))] below meth c s₁ [] 0 0 := Stand.of_body Bd
  have e0 : s₁.heap = h0 := by rw [← hh, Bd.state]; rfl
  have N0 := Fr.nil n0
  have pre0 : ∀ t, SP p e below s₁ m 0 #[vr a0b, vi (own_n cn)] [] t → Steps p.tables e below (s₁.setTop (entryFrame m #[(.ref a0b), (.int (own_n cn))] 2)) t := fun t k => castTop (ef_rmCfa0 m a0b) k
  have GL' := GL
  obtain ⟨GCS, GCP, GA16, GHI, GLO, GFF, GVF⟩ := GL'
  obtain ⟨cl1, Ar1, -, S1, N1_, -, -⟩ := id (V_a0b)
  obtain ⟨fs, hr, hrun, hended, hW, hsame⟩ := X0.leave (v := some (.int 1)) (fun h => by rw [Bd.returns] at h; cases h)
  refine ⟨_, _, pre0 _ ?_, hrun, hended, _, _, rfl, ?_, ⟨_, rfl⟩, hW, hsame.mono (by decide) (by decide)⟩
  · show SP p e below s₁ m 0 #[vr a0b, vi (own_n cn)] [] _
    refine XS.iloadN X0.here hx rfl (dG hby D37 0 rfl) rfl ?_
    refine XS.aloadN X0.here hx rfl (dG hby D37 1 rfl) rfl rfl ?_
    show SP p e below s₁ m 2 #[vr a0b, vi (own_n cn)] [(.ref a0b), (.int (own_n cn))] _
    refine X0.arraylength hx (by rw [e0]; exact Ar1.1) (State.isArrayOf_alike hZ.alike Ar1.2.1) (g := mkF m 2 #[vr a0b, vi (own_n cn)] [(.ref a0b), (.int (own_n cn))]) rfl rfl (dG hby D37 2 rfl) _ ?_
    rw [len_of S1 N1_]
    show SP p e below s₁ m 3 #[vr a0b, vi (own_n cn)] [(.int (own_n (2 * cn))), (.int (own_n cn))] _
    refine XS.isub X0.here hx rfl (dG hby D37 3 rfl) rfl ?_
    refine XS.bipush X0.here hx rfl (dG hby D37 4 rfl) ?_
    show SP p e below s₁ m 6 #[vr a0b, vi (own_n cn)] [(.int 31), (.int ((own_n cn) - (own_n (2 * cn))))] _
    refine XS.iushr X0.here hx rfl (dG hby D37 5 rfl) rfl ?_
    rw [own_cfb h8 h0_]
    show SP p e below s₁ m 7 #[vr a0b, vi (own_n cn)] [(.int 1)] _
    refine XS.i2b X0.here hx rfl (dG hby D37 6 rfl) rfl ?_
    show SP p e below s₁ m 8 #[vr a0b, vi (own_n cn)] [(.int 1)] _
    exact retN X0 hx (t := .byte) Bd.returns (by simp) (dG hby D37 7 rfl) hr
  · show Q_rmCfa1 n0 Z cS vF a0b k0 ds cn h0 _ s₁.heap _
    rw [e0]
    exact ⟨rfl, N0, rfl⟩
theorem D3 : dL jdk_42_method_149_code [(0, .aload_n 0, 1), (1, .invokespecial 1, 3), (4, .iload_n 3, 1), (5, .ifCond .ne 22, 3), (8, .aload_n 0, 1), (9, .ldc 7, 2), (11, .getfield 9, 3), (14, .putfield 9, 3), (17, .aload_n 0, 1), (18, .ldc 7, 2), (20, .getfield 15, 3), (23, .putfield 15, 3), (26, .return_, 1), (27, .getstatic 38, 3), (30, .ifCond .eq 28, 3), (33, .aload_n 1, 1), (34, .iload_n 2, 1), (35, .iload_n 3, 1), (36, .invokestatic 177, 3), (39, .astore 5, 2), (41, .aload_n 0, 1), (42, .aload 5, 2), (44, .iload_n 3, 1), (45, .invokestatic 47, 3), (48, .putfield 15, 3), (51, .aload_n 0, 1), (52, .aload 5, 2), (54, .putfield 9, 3), (57, .return_, 1)] = true := by decide +kernel
theorem pdv16 : parseMethodDescriptor "([BI)B" = some ⟨[(.array .byte), .int], some .byte⟩ := by decide +kernel
abbrev MN_23 : MethodName := ⟨"java/lang/String", "<init>", "([CIILjava/lang/Void;)V"⟩
theorem ef_rmIv (m : MethodId) (a0s : Addr) (a1c : Addr) {cn : Nat} : entryFrame m #[(.ref a0s), (.ref a1c), (.int 0), (.int (own_n cn)), .null] 6 = mkF m 0 #[vr a0s, vr a1c, vi (0 : Int32), vi (own_n cn), .val .null, .unset] [] := by first | (simp [entryFrame, mkF, argsToLocals, Value.category]; done) | rfl
def Q_rmIv (n0 : Nat) (Z : State) (cS : Int32) (vF : Value) (a0s : Addr) (a1c : Addr) (kc : ClassId) (cs : List Value) (cn : Nat) (cf : Nat → Int32) (h0 : Heap) (v : Option Value) (h : Heap) (L : List Loc) : Prop := ∃ tv : Addr, ∃ tk : ClassId, ∃ tc : Int32, ∃ tl : Int32, ∃ ts : List Value, v = none ∧ Fr n0 L ∧ Keep h0 h [a0s] ∧ (Exa Z h a0s "java/lang/String") ∧ (Fld Z h a0s "java/lang/String" "value" "[B" (.ref tv)) ∧ (Fld Z h a0s "java/lang/String" "coder" "B" (.int tc)) ∧ (Arv Z h tv tk .byte tl ts (.int 0)) ∧ (own_st tc tl ts cn cf)
theorem rmIv (l : Launch) (Z : State) (a0 : Array Value) (hw : ∀ d ∈ tables_1, d.before a0 Z = true) (ws : List Jvm.Cond) (cS : Int32) (vF : Value) (a0s : Addr) (a1c : Addr) (kc : ClassId) (cs : List Value) (cn : Nat) (cf : Nat → Int32) (h0 : Heap) (n0 : Nat) (O0 : Old Z n0 h0) (GL : GF Z cS vF) (E_a0s : Exa Z h0 a0s "java/lang/String") (F_value_a0s : Fld Z h0 a0s "java/lang/String" "value" "[B" .null) (F_coder_a0s : Fld Z h0 a0s "java/lang/String" "coder" "B" (.int 0)) (g_a0s : n0 ≤ a0s) (V_a1c : Arv Z h0 a1c kc .char (own_n cn) cs (.int 0)) (hcx : own_C cs cn cf) (hc3 : cn ≤ 3) :
    MetFree l MN_23 (head1 (Jvm.Cond.code MN_23 jdk_42_method_149_code 6 none :: ws) (Rm 4 4 40 57)) (fun a U => a = #[(.ref a0s), (.ref a1c), (.int 0), (.int (own_n cn)), .null] ∧ Z.Warmed39 U.vm ∧ U.heap = h0 ∧ CHv Z EL1 U.vm h0) (fun _ _ _ _ _ => True) (fun _ U o U' => ∃ v L, o = .returned v ∧ Q_rmIv n0 Z cS vF a0s a1c kc cs cn cf h0 v U'.heap L ∧ CHr Z EL1 U.vm U.heap U'.vm U'.heap ∧ ReturnedEndW U o U' L (Rm 4 4 40 57).cells (Rm 4 4 40 57).slots) := by
  refine MetFree.of_bodySF (plainFor_of_name pn) hisR ?_
  intro p e s m args below meth c s₁ Bd hml0 hP hK
  obtain ⟨rfl, hZ, hh, H0⟩ := hP
  have hx := Bd.exec
  have hby := Bd.bytes
  have hml : c.maxLocals = 6 := hml0
  have hown : s.vm.findClass "java/lang/String" = some m.cls := findClass_of_methodNamed Bd.named
  have hnm := (name_of_methodNamed Bd.named Bd.method).1
  have X0 : Stand p l e (Rm 4 4 40 57) s m #[(.ref a0s), (.ref a1c), (.int 0), (.int (own_n cn)), .null] below meth c s₁ [] 0 0 := Stand.of_body Bd
  have e0 : s₁.heap = h0 := by rw [← hh, Bd.state]; rfl
  have N0 := Fr.nil n0
  have pre0 : ∀ t, SP p e below s₁ m 0 #[vr a0s, vr a1c, vi (0 : Int32), vi (own_n cn), .val .null, .unset] [] t → Steps p.tables e below (s₁.setTop (entryFrame m #[(.ref a0s), (.ref a1c), (.int 0), (.int (own_n cn)), .null] 6)) t := fun t k => castTop (ef_rmIv m a0s a1c) k
  have X0w : Stand p l e (Rm 4 4 40 57) (s.setVm s.vm) m #[(.ref a0s), (.ref a1c), (.int 0), (.int (own_n cn)), .null] below meth c s₁ [] 0 0 := X0
  have R0 : CHr Z EL1 s.vm h0 s.vm h0 := CHr.refl H0
  have hS0 : s.Since s.vm h0.size := (State.WarmedH.refl s).since _
  have GL' := GL
  obtain ⟨GCS, GCP, GA16, GHI, GLO, GFF, GVF⟩ := GL'
  obtain ⟨T1, X1, e1, st1⟩ := initO X0w hx hZ hown (Wd hw 19 rfl) (Wd hw 20 rfl) (Wd hw 21 rfl) e0 (g := mkF m 1 #[vr a0s, vr a1c, vi (0 : Int32), vi (own_n cn), .val .null, .unset] [(.ref a0s)]) rfl (by rw [hml]; rfl) rfl (dG hby D3 1 rfl) (by decide) (W := 0) (by show 2 * 0 + _ ≤ _; exact lEq rfl) (by decide)
  have pre3 : ∀ t, SP p e below T1 m 5 #[vr a0s, vr a1c, vi (0 : Int32), vi (own_n cn), .val .null, .unset] [(.int (own_n cn))] t → Steps p.tables e below (s₁.setTop (entryFrame m #[(.ref a0s), (.ref a1c), (.int 0), (.int (own_n cn)), .null] 6)) t := fun t kt => by
    refine pre0 t ?_
    show SP p e below s₁ m 0 #[vr a0s, vr a1c, vi (0 : Int32), vi (own_n cn), .val .null, .unset] [] _
    refine XS.aloadN X0w.here hx rfl (dG hby D3 0 rfl) rfl rfl ?_
    show SP p e below s₁ m 1 #[vr a0s, vr a1c, vi (0 : Int32), vi (own_n cn), .val .null, .unset] [(.ref a0s)] _
    refine st1 _ ?_
    show SP p e below T1 m 4 #[vr a0s, vr a1c, vi (0 : Int32), vi (own_n cn), .val .null, .unset] [] _
    refine XS.iloadN X1.here hx rfl (dG hby D3 2 rfl) rfl ?_
    exact kt
  by_cases hc5_2 : (own_n cn) = (0 : Int32)
  · obtain ⟨a4, T4, h4, k14, b4, kc4, X4, e4, E4, hS4, hk4, hZ4, hown4, A4, Fc4, Fv4, V4, la4, lb4, Rs4, Li4, nel4, st4⟩ := ldcCH X1 hx hZ hown (Wd hw 22 rfl) (own_wS hw) e1 hS0 (Nat.le_refl _) (own_EW hw) (List.mem_of_getElem? (i := 1) rfl) H0 (vs := []) (z := (0 : Int32)) ⟨by decide, by decide⟩ (by decide) rfl (g := mkF m 9 #[vr a0s, vr a1c, vi (0 : Int32), vi (own_n cn), .val .null, .unset] [(.ref a0s)]) rfl (dG hby D3 5 rfl) (n := 0) (by decide) (by decide) (by decide) (by decide)
    have H_5 := Rs4.1
    have R_5 := R0.trans Rs4
    have K4 : Keep h0 h4 [a0s] := (Keep.refl h0 [a0s]).ext E4
    have O4 := O0.ext E4
    obtain ⟨T6, X6, e6, st6⟩ := getF X4 hx hZ4 hown4 (host := "") (Or.inl (Wd hw 28 rfl)) Via.refl e4 Fv4 (g := mkF m 11 #[vr a0s, vr a1c, vi (0 : Int32), vi (own_n cn), .val .null, .unset] [(.ref a4), (.ref a0s)]) rfl rfl (dG hby D3 6 rfl)
    obtain ⟨T7, h7, X7, e7, W7, st7⟩ := putF X6 hx hZ4 hown4 (host := "") (Or.inl (Wd hw 28 rfl)) Via.refl e6 (F_value_a0s.ext E4) (E_a0s.ext E4) (Or.inr ⟨(Wd hw 24 rfl), rfl, hnm⟩) (Wd hw 10 rfl) (ty := (.array .byte)) (by decide) rfl rfl (g := mkF m 14 #[vr a0s, vr a1c, vi (0 : Int32), vi (own_n cn), .val .null, .unset] [(.ref b4), (.ref a0s)]) rfl rfl (dG hby D3 7 rfl)
    have Fw7 := (F_value_a0s.ext E4).same W7
    have Sf9 : Safe Z EL1 T4.vm h4 a0s := (CHr.safe Rs4 E_a0s.lt (own_safeS hZ.alike H0 F_value_a0s E_a0s))
    have H_8 := H_5.wr W7 Sf9
    have R_8 := R_5.trans (CHr.wr W7 Sf9 H_5)
    have K7 : Keep h0 h7 [a0s] := K4.wr W7 (Or.inl (List.mem_of_getElem? (i := 0) rfl))
    have O7 := O4.wr W7 g_a0s
    have N7 := Fr.snoc X7 N0 g_a0s
    obtain ⟨a10, T10, h10, k110, b10, kc10, X10, e10, E10, hS10, hk10, hZ10, hown10, A10, Fc10, Fv10, V10, la10, lb10, Rs10, Li10, nel10, st10⟩ := ldcCH X7 hx hZ4 hown4 (Wd hw 22 rfl) (own_wS hw) e7 hS4 (lTr hk4 (Keep.of_wr W7).1) (own_EW hw) (List.mem_of_getElem? (i := 1) rfl) H_8 (vs := []) (z := (0 : Int32)) ⟨by decide, by decide⟩ (by decide) rfl (g := mkF m 18 #[vr a0s, vr a1c, vi (0 : Int32), vi (own_n cn), .val .null, .unset] [(.ref a0s)]) rfl (dG hby D3 9 rfl) (n := 0) (by decide) (by decide) (by decide) (by decide)
    have H_11 := Rs10.1
    have R_11 := R_8.trans Rs10
    have K10 : Keep h0 h10 [a0s] := K7.ext E10
    have O10 := O7.ext E10
    obtain ⟨T12, X12, e12, st12⟩ := getF X10 hx hZ10 hown10 (host := "") (Or.inl (Wd hw 29 rfl)) Via.refl e10 Fc10 (g := mkF m 20 #[vr a0s, vr a1c, vi (0 : Int32), vi (own_n cn), .val .null, .unset] [(.ref a10), (.ref a0s)]) rfl rfl (dG hby D3 10 rfl)
    obtain ⟨T13, h13, X13, e13, W13, st13⟩ := putFN X12 hx hZ10 hown10 (Wd hw 29 rfl) Via.refl e12 (((F_coder_a0s.ext E4).other W7 (Or.inr (slot_ne (a0 := a0) (Or.inr (Wd hw 25 rfl)) (Or.inr (Wd hw 24 rfl)) (by decide) (t := .byte) (t' := (.array .byte)) (by decide) (by decide)))).ext E10) (((E_a0s.ext E4).wr W7).ext E10) (Or.inr ⟨(Wd hw 25 rfl), rfl, hnm⟩) (Wd hw 10 rfl) (ty := .byte) (v' := (.int 0)) (by decide) rfl (by decide) (g := mkF m 23 #[vr a0s, vr a1c, vi (0 : Int32), vi (own_n cn), .val .null, .unset] [(.int 0), (.ref a0s)]) rfl rfl (dG hby D3 11 rfl)
    have Fw13 := (((F_coder_a0s.ext E4).other W7 (Or.inr (slot_ne (a0 := a0) (Or.inr (Wd hw 25 rfl)) (Or.inr (Wd hw 24 rfl)) (by decide) (t := .byte) (t' := (.array .byte)) (by decide) (by decide)))).ext E10).same W13
    have Sf15 : Safe Z EL1 T10.vm h10 a0s := (CHr.safe Rs10 (lLt E_a0s.lt (lTr E4.1 (Keep.of_wr W7).1)) (Safe.wr W7 Sf9 H_5 Sf9))
    have H_14 := H_11.wr W13 Sf15
    have R_14 := R_11.trans (CHr.wr W13 Sf15 H_11)
    have K13 : Keep h0 h13 [a0s] := K10.wr W13 (Or.inl (List.mem_of_getElem? (i := 0) rfl))
    have O13 := O10.wr W13 g_a0s
    have N13 := Fr.snoc X13 N7 g_a0s
    have hq : own_st (0 : Int32) (0 : Int32) [] cn cf := (Or.inl ⟨rfl, by have z := (own_n_eq (b := 0) (by omega) (by decide)).mp hc5_2; subst z; rfl, by have z := (own_n_eq (b := 0) (by omega) (by decide)).mp hc5_2; subst z; exact own_L0⟩)
    obtain ⟨fs, hr, hrun, hended, hRW⟩ := X13.leaveW hS10 (by rw [e13]; exact (lTr hk10 (Keep.of_wr W13).1)) (v := none) (fun _ => rfl)
    have hCR : CHr Z EL1 s.vm s.heap T13.vm T13.heap := by
      rw [hh, e13]
      exact R_14.trans (CHv.at X13 hZ10 (own_EW hw) H_14)
    refine ⟨_, _, pre3 _ ?_, hrun, hended, _, _, rfl, ?_, hCR, hRW.1, hRW.2.1, hRW.2.2.1, hRW.2.2.2.mono (by decide) (by decide)⟩
    · show SP p e below T1 m 5 #[vr a0s, vr a1c, vi (0 : Int32), vi (own_n cn), .val .null, .unset] [(.int (own_n cn))] _
      refine XS.ifNo X1.here hx rfl (dG hby D3 3 rfl) rfl ((if0 _ _).trans (teq hc5_2).2) ?_
      refine XS.aloadN X1.here hx rfl (dG hby D3 4 rfl) rfl rfl ?_
      show SP p e below T1 m 9 #[vr a0s, vr a1c, vi (0 : Int32), vi (own_n cn), .val .null, .unset] [(.ref a0s)] _
      refine st4 _ ?_
      show SP p e below T4 m 11 #[vr a0s, vr a1c, vi (0 : Int32), vi (own_n cn), .val .null, .unset] [(.ref a4), (.ref a0s)] _
      refine st6 _ ?_
      show SP p e below T6 m 14 #[vr a0s, vr a1c, vi (0 : Int32), vi (own_n cn), .val .null, .unset] [(.ref b4), (.ref a0s)] _
      refine st7 _ ?_
      show SP p e below T7 m 17 #[vr a0s, vr a1c, vi (0 : Int32), vi (own_n cn), .val .null, .unset] [] _
      refine XS.aloadN X7.here hx rfl (dG hby D3 8 rfl) rfl rfl ?_
      show SP p e below T7 m 18 #[vr a0s, vr a1c, vi (0 : Int32), vi (own_n cn), .val .null, .unset] [(.ref a0s)] _
      refine st10 _ ?_
      show SP p e below T10 m 20 #[vr a0s, vr a1c, vi (0 : Int32), vi (own_n cn), .val .null, .unset] [(.ref a10), (.ref a0s)] _
      refine st12 _ ?_
      show SP p e below T12 m 23 #[vr a0s, vr a1c, vi (0 : Int32), vi (own_n cn), .val .null, .unset] [(.int 0), (.ref a0s)] _
      refine st13 _ ?_
      show SP p e below T13 m 26 #[vr a0s, vr a1c, vi (0 : Int32), vi (own_n cn), .val .null, .unset] [] _
      exact X13.returnOut hx Bd.returns (dG hby D3 12 rfl) hr
    · show Q_rmIv n0 Z cS vF a0s a1c kc cs cn cf h0 _ T13.heap _
      rw [e13]
      exact ⟨b4, kc4, (0 : Int32), (0 : Int32), [], rfl, N13, K13, ((((E_a0s.ext E4).wr W7).ext E10).wr W13), ((Fw7.ext E10).other W13 (Or.inr (slot_ne (a0 := a0) (Or.inr (Wd hw 24 rfl)) (Or.inr (Wd hw 25 rfl)) (by decide) (t := (.array .byte)) (t' := .byte) (by decide) (by decide)))), Fw13, (((V4.other W7 (Ne.symm (nel4 a0s Sf9).2)).ext E10).other W13 (Ne.symm (nel4 a0s Sf9).2)), hq⟩
  · obtain ⟨T16, X16, e16, st16⟩ := getS2 X1 hx hZ hown (host := "") (Or.inl (Wd hw 86 rfl)) Via.refl e1 (GCS.ext O0.2) (g := mkF m 27 #[vr a0s, vr a1c, vi (0 : Int32), vi (own_n cn), .val .null, .unset] []) rfl (dG hby D3 13 rfl)
    obtain ⟨_, _, ⟨T17, L17, k17, n17⟩, -, X17, ⟨Lc17, hQ17, l17, y17, z17⟩, st17⟩ := Jvm.LawKit.callS X16 hx (y := MN_21) hown (mvT hZ (Wd hw 186 rfl)) (mvT hZ (Wd hw 187 rfl)) (mvT hZ (Wd hw 188 rfl)) (mvT hZ (Wd hw 189 rfl)) (by decide) (backOf (W := 0) (rmC1 l Z a0 hw [] cS vF a1c kc cs cn cf h0 n0 O0 GL V_a1c hcx hc3) hZ (Wd hw 189 rfl) (Wd hw 188 rfl) (by decide) (by decide)) (g := mkF m 36 #[vr a0s, vr a1c, vi (0 : Int32), vi (own_n cn), .val .null, .unset] [(.int (own_n cn)), (.int 0), (.ref a1c)]) rfl (by rw [hml]; rfl) (argsL := [(.ref a1c), (.int 0), (.int (own_n cn))]) (rest := []) (lenOf pdv15 rfl) rfl (by show 2 * 0 + _ ≤ _; exact lEq rfl) (dG hby D3 18 rfl) (fun _ _ => ⟨rfl, e16, (by decide : 0 + 2 ≤ _), (by decide : 0 + 40 ≤ _)⟩)
    dsimp only [Pt.U, Pt.locs, Pt.cells, Pt.slots] at X17 l17 y17 z17 st17 hQ17
    subst l17 y17 z17
    obtain ⟨b_17, kb_17, bs_17, bl_17, rfl, N17q, Kc17, P17_0, P17_1, P17_2, P17_3⟩ := hQ17
    have K17 : Keep h0 T17.heap [a0s] := (Keep.refl h0 [a0s]).trans Kc17 all0
    have O17 := O0.keep Kc17 all0
    have H_18 := H0.keep Kc17 sf0
    have R_18 := R0.trans (CHr.keep Kc17 sf0 H0)
    have g_b_17 : n0 ≤ b_17 := lTr (own_sz O0) P17_0
    have sz_b_17 : h0.size ≤ b_17 := lTr (Keep.refl h0 [a0s]).1 P17_0
    have N17 := Fr.app N0 N17q
    have pre19 : ∀ t, SP p e below T17 m 39 #[vr a0s, vr a1c, vi (0 : Int32), vi (own_n cn), .val .null, .unset] [(.ref b_17)] t → Steps p.tables e below (s₁.setTop (entryFrame m #[(.ref a0s), (.ref a1c), (.int 0), (.int (own_n cn)), .null] 6)) t := fun t kt => by
      refine pre3 t ?_
      show SP p e below T1 m 5 #[vr a0s, vr a1c, vi (0 : Int32), vi (own_n cn), .val .null, .unset] [(.int (own_n cn))] _
      refine XS.ifYes X1.here hx rfl (pc0 := 5) (pc' := 27) rfl (dG hby D3 3 rfl) rfl ((if0 _ _).trans (feq hc5_2).2) (by decide) (by decide) ?_
      show SP p e below T1 m 27 #[vr a0s, vr a1c, vi (0 : Int32), vi (own_n cn), .val .null, .unset] [] _
      refine st16 _ ?_
      show SP p e below T16 m 30 #[vr a0s, vr a1c, vi (0 : Int32), vi (own_n cn), .val .null, .unset] [(.int cS)] _
      refine XS.ifNo X16.here hx rfl (dG hby D3 14 rfl) rfl ((if0 _ _).trans (feq GCP).1) ?_
      refine XS.aloadN X16.here hx rfl (dG hby D3 15 rfl) rfl rfl ?_
      refine XS.iloadN X16.here hx rfl (dG hby D3 16 rfl) rfl ?_
      refine XS.iloadN X16.here hx rfl (dG hby D3 17 rfl) rfl ?_
      show SP p e below T16 m 36 #[vr a0s, vr a1c, vi (0 : Int32), vi (own_n cn), .val .null, .unset] [(.int (own_n cn)), (.int 0), (.ref a1c)] _
      refine st17 _ ?_
      exact kt
    rcases P17_3 with ⟨hb, hT⟩ | ⟨hb, hT⟩
    · subst hb
      have h8_ : cn ≤ 8 := (by omega)
      obtain ⟨_, _, ⟨T20, L20, k20, n20⟩, -, X20, ⟨Lc20, hQ20, l20, y20, z20⟩, st20⟩ := Jvm.LawKit.callS X17 hx (y := MN_22) hown (mvT hZ (Wd hw 193 rfl)) (mvT hZ (Wd hw 194 rfl)) (mvT hZ (Wd hw 188 rfl)) (mvT hZ (Wd hw 195 rfl)) (by decide) (backOf (W := 1) (rmCfa0 l Z a0 hw [] cS vF b_17 kb_17 bs_17 cn (T17.heap) n0 O17 GL P17_2 h8_ hc5_2) hZ (Wd hw 195 rfl) (Wd hw 188 rfl) (by decide) (by decide)) (g := mkF m 45 #[vr a0s, vr a1c, vi (0 : Int32), vi (own_n cn), .val .null, vr b_17] [(.int (own_n cn)), (.ref b_17), (.ref a0s)]) rfl (by rw [hml]; rfl) (argsL := [(.ref b_17), (.int (own_n cn))]) (rest := [(.ref a0s)]) (lenOf pdv16 rfl) rfl (by show 2 * 0 + _ ≤ _; exact lEq rfl) (dG hby D3 23 rfl) (fun _ _ => ⟨rfl, rfl, (by decide : 2 + 0 ≤ _), (by decide : 40 + 0 ≤ _)⟩)
      dsimp only [Pt.U, Pt.locs, Pt.cells, Pt.slots] at X20 l20 y20 z20 st20 hQ20
      subst l20 y20 z20
      obtain ⟨rfl, N20q, e20⟩ := hQ20
      have N20 := Fr.app N17 N20q
      obtain ⟨T21, h21, X21, e21, W21, st21⟩ := putFN X20 hx hZ hown (Wd hw 29 rfl) Via.refl e20 (F_coder_a0s.keep Kc17 nin0) (E_a0s.keep Kc17) (Or.inr ⟨(Wd hw 25 rfl), rfl, hnm⟩) (Wd hw 10 rfl) (ty := .byte) (v' := (.int 0)) (by decide) rfl (by decide) (g := mkF m 48 #[vr a0s, vr a1c, vi (0 : Int32), vi (own_n cn), .val .null, vr b_17] [(.int 0), (.ref a0s)]) rfl rfl (dG hby D3 24 rfl)
      have Fw21 := (F_coder_a0s.keep Kc17 nin0).same W21
      have Sf23 : Safe Z EL1 s.vm T17.heap a0s := (Safe.keep Kc17 sf0 H0 (own_safeS hZ.alike H0 F_value_a0s E_a0s))
      have H_22 := H_18.wr W21 Sf23
      have R_22 := R_18.trans (CHr.wr W21 Sf23 H_18)
      have K21 : Keep h0 h21 [a0s] := K17.wr W21 (Or.inl (List.mem_of_getElem? (i := 0) rfl))
      have O21 := O17.wr W21 g_a0s
      have N21 := Fr.snoc X21 N20 g_a0s
      obtain ⟨T24, h24, X24, e24, W24, st24⟩ := putF X21 hx hZ hown (host := "") (Or.inl (Wd hw 28 rfl)) Via.refl e21 ((F_value_a0s.keep Kc17 nin0).other W21 (Or.inr (slot_ne (a0 := a0) (Or.inr (Wd hw 24 rfl)) (Or.inr (Wd hw 25 rfl)) (by decide) (t := (.array .byte)) (t' := .byte) (by decide) (by decide)))) ((E_a0s.keep Kc17).wr W21) (Or.inr ⟨(Wd hw 24 rfl), rfl, hnm⟩) (Wd hw 10 rfl) (ty := (.array .byte)) (by decide) rfl rfl (g := mkF m 54 #[vr a0s, vr a1c, vi (0 : Int32), vi (own_n cn), .val .null, vr b_17] [(.ref b_17), (.ref a0s)]) rfl rfl (dG hby D3 27 rfl)
      have Fw24 := ((F_value_a0s.keep Kc17 nin0).other W21 (Or.inr (slot_ne (a0 := a0) (Or.inr (Wd hw 24 rfl)) (Or.inr (Wd hw 25 rfl)) (by decide) (t := (.array .byte)) (t' := .byte) (by decide) (by decide)))).same W24
      have Sf26 : Safe Z EL1 s.vm h21 a0s := (Safe.wr W21 Sf23 H_18 Sf23)
      have H_25 := H_22.wr W24 Sf26
      have R_25 := R_22.trans (CHr.wr W24 Sf26 H_22)
      have K24 : Keep h0 h24 [a0s] := K21.wr W24 (Or.inl (List.mem_of_getElem? (i := 0) rfl))
      have O24 := O21.wr W24 g_a0s
      have N24 := Fr.snoc X24 N21 g_a0s
      have hq : own_st (0 : Int32) (own_n cn) bs_17 cn cf := (Or.inl ⟨rfl, rfl, hT⟩)
      obtain ⟨fs, hr, hrun, hended, hRW⟩ := X24.leaveW hS0 (by rw [e24]; exact (lTr (lTr (lTr (Nat.le_refl _) Kc17.1) (Keep.of_wr W21).1) (Keep.of_wr W24).1)) (v := none) (fun _ => rfl)
      have hCR : CHr Z EL1 s.vm s.heap T24.vm T24.heap := by
        rw [hh, e24]
        exact R_25.trans (CHv.at X24 hZ (own_EW hw) H_25)
      refine ⟨_, _, pre19 _ ?_, hrun, hended, _, _, rfl, ?_, hCR, hRW.1, hRW.2.1, hRW.2.2.1, hRW.2.2.2.mono (by decide) (by decide)⟩
      · show SP p e below T17 m 39 #[vr a0s, vr a1c, vi (0 : Int32), vi (own_n cn), .val .null, .unset] [(.ref b_17)] _
        refine XS.astore X17.here hx rfl (dG hby D3 19 rfl) rfl rfl (l' := #[vr a0s, vr a1c, vi (0 : Int32), vi (own_n cn), .val .null, vr b_17]) rfl ?_
        refine XS.aloadN X17.here hx rfl (dG hby D3 20 rfl) rfl rfl ?_
        refine XS.aload X17.here hx rfl (dG hby D3 21 rfl) rfl rfl ?_
        refine XS.iloadN X17.here hx rfl (dG hby D3 22 rfl) rfl ?_
        show SP p e below T17 m 45 #[vr a0s, vr a1c, vi (0 : Int32), vi (own_n cn), .val .null, vr b_17] [(.int (own_n cn)), (.ref b_17), (.ref a0s)] _
        refine st20 _ ?_
        show SP p e below T20 m 48 #[vr a0s, vr a1c, vi (0 : Int32), vi (own_n cn), .val .null, vr b_17] [(.int 0), (.ref a0s)] _
        refine st21 _ ?_
        show SP p e below T21 m 51 #[vr a0s, vr a1c, vi (0 : Int32), vi (own_n cn), .val .null, vr b_17] [] _
        refine XS.aloadN X21.here hx rfl (dG hby D3 25 rfl) rfl rfl ?_
        refine XS.aload X21.here hx rfl (dG hby D3 26 rfl) rfl rfl ?_
        show SP p e below T21 m 54 #[vr a0s, vr a1c, vi (0 : Int32), vi (own_n cn), .val .null, vr b_17] [(.ref b_17), (.ref a0s)] _
        refine st24 _ ?_
        show SP p e below T24 m 57 #[vr a0s, vr a1c, vi (0 : Int32), vi (own_n cn), .val .null, vr b_17] [] _
        exact X24.returnOut hx Bd.returns (dG hby D3 28 rfl) hr
      · show Q_rmIv n0 Z cS vF a0s a1c kc cs cn cf h0 _ T24.heap _
        rw [e24]
        exact ⟨b_17, kb_17, (0 : Int32), (own_n cn), bs_17, rfl, N24, K24, (((E_a0s.keep Kc17).wr W21).wr W24), Fw24, (Fw21.other W24 (Or.inr (slot_ne (a0 := a0) (Or.inr (Wd hw 25 rfl)) (Or.inr (Wd hw 24 rfl)) (by decide) (t := .byte) (t' := (.array .byte)) (by decide) (by decide)))), ((P17_2.other W21 (Ne.symm (nLt (lLt E_a0s.lt P17_0)))).other W24 (Ne.symm (nLt (lLt E_a0s.lt P17_0)))), hq⟩
    · subst hb
      have h8_ : cn ≤ 8 := (by omega)
      obtain ⟨_, _, ⟨T27, L27, k27, n27⟩, -, X27, ⟨Lc27, hQ27, l27, y27, z27⟩, st27⟩ := Jvm.LawKit.callS X17 hx (y := MN_22) hown (mvT hZ (Wd hw 193 rfl)) (mvT hZ (Wd hw 194 rfl)) (mvT hZ (Wd hw 188 rfl)) (mvT hZ (Wd hw 195 rfl)) (by decide) (backOf (W := 1) (rmCfa1 l Z a0 hw [] cS vF b_17 kb_17 bs_17 cn (T17.heap) n0 O17 GL P17_2 h8_ hc5_2) hZ (Wd hw 195 rfl) (Wd hw 188 rfl) (by decide) (by decide)) (g := mkF m 45 #[vr a0s, vr a1c, vi (0 : Int32), vi (own_n cn), .val .null, vr b_17] [(.int (own_n cn)), (.ref b_17), (.ref a0s)]) rfl (by rw [hml]; rfl) (argsL := [(.ref b_17), (.int (own_n cn))]) (rest := [(.ref a0s)]) (lenOf pdv16 rfl) rfl (by show 2 * 0 + _ ≤ _; exact lEq rfl) (dG hby D3 23 rfl) (fun _ _ => ⟨rfl, rfl, (by decide : 2 + 0 ≤ _), (by decide : 40 + 0 ≤ _)⟩)
      dsimp only [Pt.U, Pt.locs, Pt.cells, Pt.slots] at X27 l27 y27 z27 st27 hQ27
      subst l27 y27 z27
      obtain ⟨rfl, N27q, e27⟩ := hQ27
      have N27 := Fr.app N17 N27q
      obtain ⟨T28, h28, X28, e28, W28, st28⟩ := putFN X27 hx hZ hown (Wd hw 29 rfl) Via.refl e27 (F_coder_a0s.keep Kc17 nin0) (E_a0s.keep Kc17) (Or.inr ⟨(Wd hw 25 rfl), rfl, hnm⟩) (Wd hw 10 rfl) (ty := .byte) (v' := (.int 1)) (by decide) rfl (by decide) (g := mkF m 48 #[vr a0s, vr a1c, vi (0 : Int32), vi (own_n cn), .val .null, vr b_17] [(.int 1), (.ref a0s)]) rfl rfl (dG hby D3 24 rfl)
      have Fw28 := (F_coder_a0s.keep Kc17 nin0).same W28
      have Sf30 : Safe Z EL1 s.vm T17.heap a0s := (Safe.keep Kc17 sf0 H0 (own_safeS hZ.alike H0 F_value_a0s E_a0s))
      have H_29 := H_18.wr W28 Sf30
      have R_29 := R_18.trans (CHr.wr W28 Sf30 H_18)
      have K28 : Keep h0 h28 [a0s] := K17.wr W28 (Or.inl (List.mem_of_getElem? (i := 0) rfl))
      have O28 := O17.wr W28 g_a0s
      have N28 := Fr.snoc X28 N27 g_a0s
      obtain ⟨T31, h31, X31, e31, W31, st31⟩ := putF X28 hx hZ hown (host := "") (Or.inl (Wd hw 28 rfl)) Via.refl e28 ((F_value_a0s.keep Kc17 nin0).other W28 (Or.inr (slot_ne (a0 := a0) (Or.inr (Wd hw 24 rfl)) (Or.inr (Wd hw 25 rfl)) (by decide) (t := (.array .byte)) (t' := .byte) (by decide) (by decide)))) ((E_a0s.keep Kc17).wr W28) (Or.inr ⟨(Wd hw 24 rfl), rfl, hnm⟩) (Wd hw 10 rfl) (ty := (.array .byte)) (by decide) rfl rfl (g := mkF m 54 #[vr a0s, vr a1c, vi (0 : Int32), vi (own_n cn), .val .null, vr b_17] [(.ref b_17), (.ref a0s)]) rfl rfl (dG hby D3 27 rfl)
      have Fw31 := ((F_value_a0s.keep Kc17 nin0).other W28 (Or.inr (slot_ne (a0 := a0) (Or.inr (Wd hw 24 rfl)) (Or.inr (Wd hw 25 rfl)) (by decide) (t := (.array .byte)) (t' := .byte) (by decide) (by decide)))).same W31
      have Sf33 : Safe Z EL1 s.vm h28 a0s := (Safe.wr W28 Sf30 H_18 Sf30)
      have H_32 := H_29.wr W31 Sf33
      have R_32 := R_29.trans (CHr.wr W31 Sf33 H_29)
      have K31 : Keep h0 h31 [a0s] := K28.wr W31 (Or.inl (List.mem_of_getElem? (i := 0) rfl))
      have O31 := O28.wr W31 g_a0s
      have N31 := Fr.snoc X31 N28 g_a0s
      have hq : own_st (1 : Int32) (own_n (2 * cn)) bs_17 cn cf := (Or.inr ⟨rfl, rfl, hT⟩)
      obtain ⟨fs, hr, hrun, hended, hRW⟩ := X31.leaveW hS0 (by rw [e31]; exact (lTr (lTr (lTr (Nat.le_refl _) Kc17.1) (Keep.of_wr W28).1) (Keep.of_wr W31).1)) (v := none) (fun _ => rfl)
      have hCR : CHr Z EL1 s.vm s.heap T31.vm T31.heap := by
        rw [hh, e31]
        exact R_32.trans (CHv.at X31 hZ (own_EW hw) H_32)
      refine ⟨_, _, pre19 _ ?_, hrun, hended, _, _, rfl, ?_, hCR, hRW.1, hRW.2.1, hRW.2.2.1, hRW.2.2.2.mono (by decide) (by decide)⟩
      · show SP p e below T17 m 39 #[vr a0s, vr a1c, vi (0 : Int32), vi (own_n cn), .val .null, .unset] [(.ref b_17)] _
        refine XS.astore X17.here hx rfl (dG hby D3 19 rfl) rfl rfl (l' := #[vr a0s, vr a1c, vi (0 : Int32), vi (own_n cn), .val .null, vr b_17]) rfl ?_
        refine XS.aloadN X17.here hx rfl (dG hby D3 20 rfl) rfl rfl ?_
        refine XS.aload X17.here hx rfl (dG hby D3 21 rfl) rfl rfl ?_
        refine XS.iloadN X17.here hx rfl (dG hby D3 22 rfl) rfl ?_
        show SP p e below T17 m 45 #[vr a0s, vr a1c, vi (0 : Int32), vi (own_n cn), .val .null, vr b_17] [(.int (own_n cn)), (.ref b_17), (.ref a0s)] _
        refine st27 _ ?_
        show SP p e below T27 m 48 #[vr a0s, vr a1c, vi (0 : Int32), vi (own_n cn), .val .null, vr b_17] [(.int 1), (.ref a0s)] _
        refine st28 _ ?_
        show SP p e below T28 m 51 #[vr a0s, vr a1c, vi (0 : Int32), vi (own_n cn), .val .null, vr b_17] [] _
        refine XS.aloadN X28.here hx rfl (dG hby D3 25 rfl) rfl rfl ?_
        refine XS.aload X28.here hx rfl (dG hby D3 26 rfl) rfl rfl ?_
        show SP p e below T28 m 54 #[vr a0s, vr a1c, vi (0 : Int32), vi (own_n cn), .val .null, vr b_17] [(.ref b_17), (.ref a0s)] _
        refine st31 _ ?_
        show SP p e below T31 m 57 #[vr a0s, vr a1c, vi (0 : Int32), vi (own_n cn), .val .null, vr b_17] [] _
        exact X31.returnOut hx Bd.returns (dG hby D3 28 rfl) hr
      · show Q_rmIv n0 Z cS vF a0s a1c kc cs cn cf h0 _ T31.heap _
        rw [e31]
        exact ⟨b_17, kb_17, (1 : Int32), (own_n (2 * cn)), bs_17, rfl, N31, K31, (((E_a0s.keep Kc17).wr W28).wr W31), Fw31, (Fw28.other W31 (Or.inr (slot_ne (a0 := a0) (Or.inr (Wd hw 25 rfl)) (Or.inr (Wd hw 24 rfl)) (by decide) (t := .byte) (t' := (.array .byte)) (by decide) (by decide)))), ((P17_2.other W28 (Ne.symm (nLt (lLt E_a0s.lt P17_0)))).other W31 (Ne.symm (nLt (lLt E_a0s.lt P17_0)))), hq⟩
theorem D2 : dL jdk_42_method_3_code [(0, .aload_n 0, 1), (1, .aload_n 1, 1), (2, .iconst 0, 1), (3, .aload_n 1, 1), (4, .arraylength, 1), (5, .aconst_null, 1), (6, .invokespecial 27, 3), (9, .return_, 1)] = true := by decide +kernel
theorem pdv17 : parseMethodDescriptor "([CIILjava/lang/Void;)V" = some ⟨[(.array .char), .int, .int, (.object "java/lang/Void")], none⟩ := by decide +kernel
abbrev MN_24 : MethodName := ⟨"java/lang/String", "<init>", "([C)V"⟩
theorem ef_rmIc (m : MethodId) (a0s : Addr) (a1c : Addr) : entryFrame m #[(.ref a0s), (.ref a1c)] 2 = mkF m 0 #[vr a0s, vr a1c] [] := by first | (simp [entryFrame, mkF, argsToLocals, Value.category]; done) | rfl
def Q_rmIc (n0 : Nat) (Z : State) (cS : Int32) (vF : Value) (a0s : Addr) (a1c : Addr) (kc : ClassId) (cs : List Value) (cn : Nat) (cf : Nat → Int32) (h0 : Heap) (v : Option Value) (h : Heap) (L : List Loc) : Prop := ∃ tv : Addr, ∃ tk : ClassId, ∃ tc : Int32, ∃ tl : Int32, ∃ ts : List Value, v = none ∧ Fr n0 L ∧ Keep h0 h [a0s] ∧ (Exa Z h a0s "java/lang/String") ∧ (Fld Z h a0s "java/lang/String" "value" "[B" (.ref tv)) ∧ (Fld Z h a0s "java/lang/String" "coder" "B" (.int tc)) ∧ (Arv Z h tv tk .byte tl ts (.int 0)) ∧ (own_st tc tl ts cn cf)
theorem rmIc (l : Launch) (Z : State) (a0 : Array Value) (hw : ∀ d ∈ tables_1, d.before a0 Z = true) (ws : List Jvm.Cond) (cS : Int32) (vF : Value) (a0s : Addr) (a1c : Addr) (kc : ClassId) (cs : List Value) (cn : Nat) (cf : Nat → Int32) (h0 : Heap) (n0 : Nat) (O0 : Old Z n0 h0) (GL : GF Z cS vF) (E_a0s : Exa Z h0 a0s "java/lang/String") (F_value_a0s : Fld Z h0 a0s "java/lang/String" "value" "[B" .null) (F_coder_a0s : Fld Z h0 a0s "java/lang/String" "coder" "B" (.int 0)) (g_a0s : n0 ≤ a0s) (V_a1c : Arv Z h0 a1c kc .char (own_n cn) cs (.int 0)) (hcx : own_C cs cn cf) (hc3 : cn ≤ 3) :
    MetFree l MN_24 (head1 (Jvm.Cond.code MN_24 jdk_42_method_3_code 2 none :: ws) (Rm 5 4 40 74)) (fun a U => a = #[(.ref a0s), (.ref a1c)] ∧ Z.Warmed39 U.vm ∧ U.heap = h0 ∧ CHv Z EL1 U.vm h0) (fun _ _ _ _ _ => True) (fun _ U o U' => ∃ v L, o = .returned v ∧ Q_rmIc n0 Z cS vF a0s a1c kc cs cn cf h0 v U'.heap L ∧ CHr Z EL1 U.vm U.heap U'.vm U'.heap ∧ ReturnedEndW U o U' L (Rm 5 4 40 74).cells (Rm 5 4 40 74).slots) := by
  refine MetFree.of_bodySF (plainFor_of_name pn) hisR ?_
  intro p e s m args below meth c s₁ Bd hml0 hP hK
  obtain ⟨rfl, hZ, hh, H0⟩ := hP
  have hx := Bd.exec
  have hby := Bd.bytes
  have hml : c.maxLocals = 2 := hml0
  have hown : s.vm.findClass "java/lang/String" = some m.cls := findClass_of_methodNamed Bd.named
  have hnm := (name_of_methodNamed Bd.named Bd.method).1
  have X0 : Stand p l e (Rm 5 4 40 74) s m #[(.ref a0s), (.ref a1c)] below meth c s₁ [] 0 0 := Stand.of_body Bd
  have e0 : s₁.heap = h0 := by rw [← hh, Bd.state]; rfl
  have N0 := Fr.nil n0
  have pre0 : ∀ t, SP p e below s₁ m 0 #[vr a0s, vr a1c] [] t → Steps p.tables e below (s₁.setTop (entryFrame m #[(.ref a0s), (.ref a1c)] 2)) t := fun t k => castTop (ef_rmIc m a0s a1c) k
  have X0w : Stand p l e (Rm 5 4 40 74) (s.setVm s.vm) m #[(.ref a0s), (.ref a1c)] below meth c s₁ [] 0 0 := X0
  have R0 : CHr Z EL1 s.vm h0 s.vm h0 := CHr.refl H0
  have hS0 : s.Since s.vm h0.size := (State.WarmedH.refl s).since _
  have GL' := GL
  obtain ⟨GCS, GCP, GA16, GHI, GLO, GFF, GVF⟩ := GL'
  obtain ⟨cl1, Ar1, -, S1, N1_, -, -⟩ := id (V_a1c)
  obtain ⟨_, _, ⟨T2, L2, k2, n2⟩, -, X2', hS2', hg2, ⟨Lc2, hQ2, l2, y2, z2, Rs2⟩, st2⟩ := X0w.specialBackS hx (y := MN_23) rfl hown (mvT hZ (Wd hw 15 rfl)) (mvT hZ (Wd hw 16 rfl)) (mvT hZ (Wd hw 18 rfl)) (by decide) (backOfSH (W := 0) (rmIv l Z a0 hw [] cS vF a0s a1c kc cs cn cf h0 n0 O0 GL E_a0s F_value_a0s F_coder_a0s g_a0s V_a1c hcx hc3) hZ (Wd hw 18 rfl) (Wd hw 11 rfl) (by decide) (by decide) (own_EW hw) H0) (g := mkF m 6 #[vr a0s, vr a1c] [.null, (.int (own_n cn)), (.int 0), (.ref a1c), (.ref a0s)]) rfl (by rw [hml]; rfl) (Steps.refl _) (a := a0s) (argsL := [(.ref a1c), (.int 0), (.int (own_n cn)), .null]) (rest := []) (lenOf pdv17 rfl) rfl (by show 2 * 0 + _ ≤ _; exact lEq rfl) (dG hby D2 6 rfl) (fun _ _ => ⟨rfl, e0, (by decide : 0 + 4 ≤ _), (by decide : 0 + 40 ≤ _)⟩)
  dsimp only [Pt.U, Pt.locs, Pt.cells, Pt.slots] at X2' l2 y2 z2 st2 hQ2 hS2' hg2 Rs2
  subst l2 y2 z2
  obtain ⟨X2, hS2, hZ2, hown2⟩ := rebS hS0 (by rw [e0]; exact (Nat.le_refl _)) X2' hS2' hg2 hZ hown
  obtain ⟨tv_2, tk_2, tc_2, tl_2, ts_2, rfl, N2q, Kc2, P2_0, P2_1, P2_2, P2_3, P2_4⟩ := hQ2
  have K2 : Keep h0 T2.heap [a0s] := (Keep.refl h0 [a0s]).trans Kc2 (allS (Or.inl (List.mem_of_getElem? (i := 0) rfl)) all0)
  have O2 := O0.keep Kc2 (allS g_a0s all0)
  have H_3 := Rs2.1
  have R_3 := R0.trans Rs2
  have N2 := Fr.app N0 N2q
  obtain ⟨fs, hr, hrun, hended, hRW⟩ := X2.leaveW hS2 (Nat.le_refl _) (v := none) (fun _ => rfl)
  have hCR : CHr Z EL1 s.vm s.heap T2.vm T2.heap := by
    rw [hh]
    exact R_3.trans (CHv.at X2 hZ2 (own_EW hw) H_3)
  refine ⟨_, _, pre0 _ ?_, hrun, hended, _, _, rfl, ?_, hCR, hRW.1, hRW.2.1, hRW.2.2.1, hRW.2.2.2.mono (by decide) (by decide)⟩
  · show SP p e below s₁ m 0 #[vr a0s, vr a1c] [] _
    refine XS.aloadN X0w.here hx rfl (dG hby D2 0 rfl) rfl rfl ?_
    refine XS.aloadN X0w.here hx rfl (dG hby D2 1 rfl) rfl rfl ?_
    refine XS.iconst X0w.here hx rfl (dG hby D2 2 rfl) ?_
    refine XS.aloadN X0w.here hx rfl (dG hby D2 3 rfl) rfl rfl ?_
    show SP p e below s₁ m 4 #[vr a0s, vr a1c] [(.ref a1c), (.int 0), (.ref a1c), (.ref a0s)] _
    refine X0w.arraylength hx (by rw [e0]; exact Ar1.1) (State.isArrayOf_alike hZ.alike Ar1.2.1) (g := mkF m 4 #[vr a0s, vr a1c] [(.ref a1c), (.int 0), (.ref a1c), (.ref a0s)]) rfl rfl (dG hby D2 4 rfl) _ ?_
    rw [len_of S1 N1_]
    show SP p e below s₁ m 5 #[vr a0s, vr a1c] [(.int (own_n cn)), (.int 0), (.ref a1c), (.ref a0s)] _
    refine XS.aconstNull X0w.here hx rfl (dG hby D2 5 rfl) ?_
    show SP p e below s₁ m 6 #[vr a0s, vr a1c] [.null, (.int (own_n cn)), (.int 0), (.ref a1c), (.ref a0s)] _
    refine st2.trans ?_
    show SP p e below T2 m 9 #[vr a0s, vr a1c] [] _
    exact X2.returnOut hx Bd.returns (dG hby D2 7 rfl) hr
  · show Q_rmIc n0 Z cS vF a0s a1c kc cs cn cf h0 _ T2.heap _
    exact ⟨tv_2, tk_2, tc_2, tl_2, ts_2, rfl, N2, K2, P2_0, P2_1, P2_2, P2_3, P2_4⟩
def Q_rmLenG (n0 : Nat) (Z : State) (cS : Int32) (vF : Value) (a0s : Addr) (rv : Addr) (rk : ClassId) (rc : Int32) (rl : Int32) (rs : List Value) (rn : Nat) (rf : Nat → Int32) (h0 : Heap) (v : Option Value) (h : Heap) (L : List Loc) : Prop := v = some (.int (own_n rn)) ∧ Fr n0 L ∧ h = h0
theorem rmLenG (l : Launch) (Z : State) (a0 : Array Value) (hw : ∀ d ∈ tables_1, d.before a0 Z = true) (ws : List Jvm.Cond) (cS : Int32) (vF : Value) (a0s : Addr) (rv : Addr) (rk : ClassId) (rc : Int32) (rl : Int32) (rs : List Value) (rn : Nat) (rf : Nat → Int32) (h0 : Heap) (n0 : Nat) (O0 : Old Z n0 h0) (GL : GF Z cS vF) (E_a0s : Exa Z h0 a0s "java/lang/String") (F_value_a0s : Fld Z h0 a0s "java/lang/String" "value" "[B" (.ref rv)) (F_coder_a0s : Fld Z h0 a0s "java/lang/String" "coder" "B" (.int rc)) (V_rv : Arv Z h0 rv rk .byte rl rs (.int 0)) (hrx : own_st rc rl rs rn rf) (h8 : rn ≤ 8) :
    MF l MN_1 jdk_42_method_54_code 1 (some .int) ws (Rm 1 0 0 13) #[(.ref a0s)] Z h0 (Q_rmLenG n0 Z cS vF a0s rv rk rc rl rs rn rf h0) := by
  refine MetFree.of_bodySF (plainFor_of_name pn) hisR ?_
  intro p e s m args below meth c s₁ Bd hml0 hP hK
  obtain ⟨rfl, hZ, hh⟩ := hP
  have hx := Bd.exec
  have hby := Bd.bytes
  have hml : c.maxLocals = 1 := hml0
  have hown : s.vm.findClass "java/lang/String" = some m.cls := findClass_of_methodNamed Bd.named
  have hnm := (name_of_methodNamed Bd.named Bd.method).1
  have X0 : Stand p l e (Rm 1 0 0 13) s m #[(.ref a0s)] below meth c s₁ [] 0 0 := Stand.of_body Bd
  have e0 : s₁.heap = h0 := by rw [← hh, Bd.state]; rfl
  have N0 := Fr.nil n0
  have pre0 : ∀ t, SP p e below s₁ m 0 #[vr a0s] [] t → Steps p.tables e below (s₁.setTop (entryFrame m #[(.ref a0s)] 1)) t := fun t k => castTop (ef_rmCod0 m a0s) k
  have GL' := GL
  obtain ⟨GCS, GCP, GA16, GHI, GLO, GFF, GVF⟩ := GL'
  rcases hrx with ⟨hc_r, hl_r, hT_r⟩ | ⟨hc_r, hl_r, hT_r⟩
  · subst hc_r hl_r
    obtain ⟨T1, X1, e1, st1⟩ := getF X0 hx hZ hown (host := "") (Or.inl (Wd hw 28 rfl)) Via.refl e0 F_value_a0s (g := mkF m 1 #[vr a0s] [(.ref a0s)]) rfl rfl (dG hby D12 1 rfl)
    obtain ⟨cl2, Ar2, -, S2, N2_, -, -⟩ := id (V_rv)
    obtain ⟨cq3, kq3, q3a, q3b, q3c⟩ := isOf hZ e1 E_a0s
    obtain ⟨_, _, ⟨T3, L3, k3, n3⟩, -, X3, ⟨Lc3, hQ3, l3, y3, z3⟩, st3⟩ := X1.virtualBack hx (y := MN_0) (z := MN_0) hown (mvT hZ (Wd hw 81 rfl)) (mvT hZ (Wd hw 82 rfl)) (notFace_of_selects (args := #[]) (mvT hZ (Wd hw 84 rfl))) (mvT hZ (Wd hw 84 rfl)) (mvT hZ (Wd hw 83 rfl)) (by decide) (backOf (W := 1) (rmCod0 l Z a0 hw [] cS vF a0s h0 n0 O0 GL F_coder_a0s) hZ (Wd hw 85 rfl) (Wd hw 11 rfl) (by decide) (by decide)) q3a q3c (g := mkF m 6 #[vr a0s] [(.ref a0s), (.int (own_n rn))]) rfl (by rw [hml]; rfl) (Steps.refl _) (argsL := []) (rest := [(.int (own_n rn))]) (lenOf pd rfl) rfl (by show 2 * 0 + _ ≤ _; exact lEq rfl) (dG hby D12 4 rfl) (fun _ _ => ⟨rfl, e1, (by decide : 0 + 0 ≤ _), (by decide : 0 + 0 ≤ _)⟩)
    dsimp only [Pt.U, Pt.locs, Pt.cells, Pt.slots] at X3 l3 y3 z3 st3 hQ3
    subst l3 y3 z3
    obtain ⟨rfl, N3q, e3⟩ := hQ3
    have N3 := Fr.app N0 N3q
    obtain ⟨fs, hr, hrun, hended, hW, hsame⟩ := X3.leave (v := some (.int (own_n rn))) (fun h => by rw [Bd.returns] at h; cases h)
    refine ⟨_, _, pre0 _ ?_, hrun, hended, _, _, rfl, ?_, ⟨_, rfl⟩, hW, hsame.mono (by decide) (by decide)⟩
    · show SP p e below s₁ m 0 #[vr a0s] [] _
      refine XS.aloadN X0.here hx rfl (dG hby D12 0 rfl) rfl rfl ?_
      show SP p e below s₁ m 1 #[vr a0s] [(.ref a0s)] _
      refine st1 _ ?_
      show SP p e below T1 m 4 #[vr a0s] [(.ref rv)] _
      refine X1.arraylength hx (by rw [e1]; exact Ar2.1) (State.isArrayOf_alike hZ.alike Ar2.2.1) (g := mkF m 4 #[vr a0s] [(.ref rv)]) rfl rfl (dG hby D12 2 rfl) _ ?_
      rw [len_of S2 N2_]
      show SP p e below T1 m 5 #[vr a0s] [(.int (own_n rn))] _
      refine XS.aloadN X1.here hx rfl (dG hby D12 3 rfl) rfl rfl ?_
      show SP p e below T1 m 6 #[vr a0s] [(.ref a0s), (.int (own_n rn))] _
      refine st3.trans ?_
      show SP p e below T3 m 9 #[vr a0s] [(.int 0), (.int (own_n rn))] _
      refine XS.ishr X3.here hx rfl (dG hby D12 5 rfl) rfl ?_
      rw [own_shr0 (own_n rn)]
      show SP p e below T3 m 10 #[vr a0s] [(.int (own_n rn))] _
      exact retI X3 hx Bd.returns (dG hby D12 6 rfl) hr
    · show Q_rmLenG n0 Z cS vF a0s rv rk (0 : Int32) (own_n rn) rs rn rf h0 _ T3.heap _
      rw [e3]
      exact ⟨rfl, N3, rfl⟩
  · subst hc_r hl_r
    obtain ⟨T1, X1, e1, st1⟩ := getF X0 hx hZ hown (host := "") (Or.inl (Wd hw 28 rfl)) Via.refl e0 F_value_a0s (g := mkF m 1 #[vr a0s] [(.ref a0s)]) rfl rfl (dG hby D12 1 rfl)
    obtain ⟨cl2, Ar2, -, S2, N2_, -, -⟩ := id (V_rv)
    obtain ⟨cq3, kq3, q3a, q3b, q3c⟩ := isOf hZ e1 E_a0s
    obtain ⟨_, _, ⟨T3, L3, k3, n3⟩, -, X3, ⟨Lc3, hQ3, l3, y3, z3⟩, st3⟩ := X1.virtualBack hx (y := MN_0) (z := MN_0) hown (mvT hZ (Wd hw 81 rfl)) (mvT hZ (Wd hw 82 rfl)) (notFace_of_selects (args := #[]) (mvT hZ (Wd hw 84 rfl))) (mvT hZ (Wd hw 84 rfl)) (mvT hZ (Wd hw 83 rfl)) (by decide) (backOf (W := 1) (rmCod1 l Z a0 hw [] cS vF a0s h0 n0 O0 GL F_coder_a0s) hZ (Wd hw 85 rfl) (Wd hw 11 rfl) (by decide) (by decide)) q3a q3c (g := mkF m 6 #[vr a0s] [(.ref a0s), (.int (own_n (2 * rn)))]) rfl (by rw [hml]; rfl) (Steps.refl _) (argsL := []) (rest := [(.int (own_n (2 * rn)))]) (lenOf pd rfl) rfl (by show 2 * 0 + _ ≤ _; exact lEq rfl) (dG hby D12 4 rfl) (fun _ _ => ⟨rfl, e1, (by decide : 0 + 0 ≤ _), (by decide : 0 + 0 ≤ _)⟩)
    dsimp only [Pt.U, Pt.locs, Pt.cells, Pt.slots] at X3 l3 y3 z3 st3 hQ3
    subst l3 y3 z3
    obtain ⟨rfl, N3q, e3⟩ := hQ3
    have N3 := Fr.app N0 N3q
    obtain ⟨fs, hr, hrun, hended, hW, hsame⟩ := X3.leave (v := some (.int (own_n rn))) (fun h => by rw [Bd.returns] at h; cases h)
    refine ⟨_, _, pre0 _ ?_, hrun, hended, _, _, rfl, ?_, ⟨_, rfl⟩, hW, hsame.mono (by decide) (by decide)⟩
    · show SP p e below s₁ m 0 #[vr a0s] [] _
      refine XS.aloadN X0.here hx rfl (dG hby D12 0 rfl) rfl rfl ?_
      show SP p e below s₁ m 1 #[vr a0s] [(.ref a0s)] _
      refine st1 _ ?_
      show SP p e below T1 m 4 #[vr a0s] [(.ref rv)] _
      refine X1.arraylength hx (by rw [e1]; exact Ar2.1) (State.isArrayOf_alike hZ.alike Ar2.2.1) (g := mkF m 4 #[vr a0s] [(.ref rv)]) rfl rfl (dG hby D12 2 rfl) _ ?_
      rw [len_of S2 N2_]
      show SP p e below T1 m 5 #[vr a0s] [(.int (own_n (2 * rn)))] _
      refine XS.aloadN X1.here hx rfl (dG hby D12 3 rfl) rfl rfl ?_
      show SP p e below T1 m 6 #[vr a0s] [(.ref a0s), (.int (own_n (2 * rn)))] _
      refine st3.trans ?_
      show SP p e below T3 m 9 #[vr a0s] [(.int 1), (.int (own_n (2 * rn)))] _
      refine XS.ishr X3.here hx rfl (dG hby D12 5 rfl) rfl ?_
      rw [own_n_shr (Nat.lt_of_le_of_lt h8 (by decide))]
      show SP p e below T3 m 10 #[vr a0s] [(.int (own_n rn))] _
      exact retI X3 hx Bd.returns (dG hby D12 6 rfl) hr
    · show Q_rmLenG n0 Z cS vF a0s rv rk (1 : Int32) (own_n (2 * rn)) rs rn rf h0 _ T3.heap _
      rw [e3]
      exact ⟨rfl, N3, rfl⟩
def Q_rmChG (n0 : Nat) (Z : State) (cS : Int32) (vF : Value) (a0s : Addr) (rv : Addr) (rk : ClassId) (rc : Int32) (rl : Int32) (rs : List Value) (rn : Nat) (rf : Nat → Int32) (ix : Nat) (h0 : Heap) (v : Option Value) (h : Heap) (L : List Loc) : Prop := v = some (.int (rf ix)) ∧ Fr n0 L ∧ h = h0
theorem rmChG (l : Launch) (Z : State) (a0 : Array Value) (hw : ∀ d ∈ tables_1, d.before a0 Z = true) (ws : List Jvm.Cond) (cS : Int32) (vF : Value) (a0s : Addr) (rv : Addr) (rk : ClassId) (rc : Int32) (rl : Int32) (rs : List Value) (rn : Nat) (rf : Nat → Int32) (ix : Nat) (h0 : Heap) (n0 : Nat) (O0 : Old Z n0 h0) (GL : GF Z cS vF) (E_a0s : Exa Z h0 a0s "java/lang/String") (F_value_a0s : Fld Z h0 a0s "java/lang/String" "value" "[B" (.ref rv)) (F_coder_a0s : Fld Z h0 a0s "java/lang/String" "coder" "B" (.int rc)) (V_rv : Arv Z h0 rv rk .byte rl rs (.int 0)) (hrx : own_st rc rl rs rn rf) (hix : ix < rn) (h8 : rn ≤ 8) :
    MF l MN_10 jdk_42_method_56_code 2 (some .char) ws (Rm 4 0 0 53) #[(.ref a0s), (.int (own_n ix))] Z h0 (Q_rmChG n0 Z cS vF a0s rv rk rc rl rs rn rf ix h0) := by
  refine MetFree.of_bodySF (plainFor_of_name pn) hisR ?_
  intro p e s m args below meth c s₁ Bd hml0 hP hK
  obtain ⟨rfl, hZ, hh⟩ := hP
  have hx := Bd.exec
  have hby := Bd.bytes
  have hml : c.maxLocals = 2 := hml0
  have hown : s.vm.findClass "java/lang/String" = some m.cls := findClass_of_methodNamed Bd.named
  have hnm := (name_of_methodNamed Bd.named Bd.method).1
  have X0 : Stand p l e (Rm 4 0 0 53) s m #[(.ref a0s), (.int (own_n ix))] below meth c s₁ [] 0 0 := Stand.of_body Bd
  have e0 : s₁.heap = h0 := by rw [← hh, Bd.state]; rfl
  have N0 := Fr.nil n0
  have pre0 : ∀ t, SP p e below s₁ m 0 #[vr a0s, vi (own_n ix)] [] t → Steps p.tables e below (s₁.setTop (entryFrame m #[(.ref a0s), (.int (own_n ix))] 2)) t := fun t k => castTop (ef_rmCh0 m a0s) k
  have GL' := GL
  obtain ⟨GCS, GCP, GA16, GHI, GLO, GFF, GVF⟩ := GL'
  rcases hrx with ⟨hc_r, hl_r, hT_r⟩ | ⟨hc_r, hl_r, hT_r⟩
  · subst hc_r hl_r
    obtain ⟨cq1, kq1, q1a, q1b, q1c⟩ := isOf hZ e0 E_a0s
    obtain ⟨_, _, ⟨T1, L1, k1, n1⟩, -, X1, ⟨Lc1, hQ1, l1, y1, z1⟩, st1⟩ := X0.virtualBack hx (y := MN_2) (z := MN_2) hown (mvT hZ (Wd hw 169 rfl)) (mvT hZ (Wd hw 170 rfl)) (notFace_of_selects (args := #[]) (mvT hZ (Wd hw 172 rfl))) (mvT hZ (Wd hw 172 rfl)) (mvT hZ (Wd hw 171 rfl)) (by decide) (backOf (W := 0) (rmIl0 l Z a0 hw [] cS vF a0s h0 n0 O0 GL F_coder_a0s) hZ (Wd hw 173 rfl) (Wd hw 11 rfl) (by decide) (by decide)) q1a q1c (g := mkF m 1 #[vr a0s, vi (own_n ix)] [(.ref a0s)]) rfl (by rw [hml]; rfl) (Steps.refl _) (argsL := []) (rest := []) (lenOf pdv6 rfl) rfl (by show 2 * 0 + _ ≤ _; exact lEq rfl) (dG hby D30 1 rfl) (fun _ _ => ⟨rfl, e0, (by decide : 0 + 0 ≤ _), (by decide : 0 + 0 ≤ _)⟩)
    dsimp only [Pt.U, Pt.locs, Pt.cells, Pt.slots] at X1 l1 y1 z1 st1 hQ1
    subst l1 y1 z1
    obtain ⟨rfl, N1q, e1⟩ := hQ1
    have N1 := Fr.app N0 N1q
    obtain ⟨T2, X2, e2, st2⟩ := getF X1 hx hZ hown (host := "") (Or.inl (Wd hw 28 rfl)) Via.refl e1 F_value_a0s (g := mkF m 8 #[vr a0s, vi (own_n ix)] [(.ref a0s)]) rfl rfl (dG hby D30 4 rfl)
    obtain ⟨_, _, ⟨T3, L3, k3, n3⟩, -, X3, ⟨Lc3, hQ3, l3, y3, z3⟩, st3⟩ := Jvm.LawKit.callS X2 hx (y := MN_7) hown (mvT hZ (Wd hw 174 rfl)) (mvT hZ (Wd hw 175 rfl)) (mvT hZ (Wd hw 176 rfl)) (mvT hZ (Wd hw 177 rfl)) (by decide) (backOf (W := 0) (rmChL l Z a0 hw [] cS vF rv rk rs rn rf ix h0 n0 O0 GL V_rv hT_r hix h8) hZ (Wd hw 177 rfl) (Wd hw 176 rfl) (by decide) (by decide)) (g := mkF m 12 #[vr a0s, vi (own_n ix)] [(.int (own_n ix)), (.ref rv)]) rfl (by rw [hml]; rfl) (argsL := [(.ref rv), (.int (own_n ix))]) (rest := []) (lenOf pdv5 rfl) rfl (by show 2 * 0 + _ ≤ _; exact lEq rfl) (dG hby D30 6 rfl) (fun _ _ => ⟨rfl, e2, (by decide : 0 + 0 ≤ _), (by decide : 0 + 0 ≤ _)⟩)
    dsimp only [Pt.U, Pt.locs, Pt.cells, Pt.slots] at X3 l3 y3 z3 st3 hQ3
    subst l3 y3 z3
    obtain ⟨rfl, N3q, e3⟩ := hQ3
    have N3 := Fr.app N1 N3q
    obtain ⟨fs, hr, hrun, hended, hW, hsame⟩ := X3.leave (v := some (.int (nar .char (rf ix)))) (fun h => by rw [Bd.returns] at h; cases h)
    refine ⟨_, _, pre0 _ ?_, hrun, hended, _, _, rfl, ?_, ⟨_, rfl⟩, hW, hsame.mono (by decide) (by decide)⟩
    · show SP p e below s₁ m 0 #[vr a0s, vi (own_n ix)] [] _
      refine XS.aloadN X0.here hx rfl (dG hby D30 0 rfl) rfl rfl ?_
      show SP p e below s₁ m 1 #[vr a0s, vi (own_n ix)] [(.ref a0s)] _
      refine st1.trans ?_
      show SP p e below T1 m 4 #[vr a0s, vi (own_n ix)] [(.int 1)] _
      refine XS.ifNo X1.here hx rfl (dG hby D30 2 rfl) rfl ((if0 _ _).trans (feq (by decide : ¬ ((1 : Int32) = (0 : Int32)))).1) ?_
      refine XS.aloadN X1.here hx rfl (dG hby D30 3 rfl) rfl rfl ?_
      show SP p e below T1 m 8 #[vr a0s, vi (own_n ix)] [(.ref a0s)] _
      refine st2 _ ?_
      show SP p e below T2 m 11 #[vr a0s, vi (own_n ix)] [(.ref rv)] _
      refine XS.iloadN X2.here hx rfl (dG hby D30 5 rfl) rfl ?_
      show SP p e below T2 m 12 #[vr a0s, vi (own_n ix)] [(.int (own_n ix)), (.ref rv)] _
      refine st3 _ ?_
      show SP p e below T3 m 15 #[vr a0s, vi (own_n ix)] [(.int (rf ix))] _
      exact retN X3 hx (t := .char) Bd.returns (by simp) (dG hby D30 7 rfl) hr
    · show Q_rmChG n0 Z cS vF a0s rv rk (0 : Int32) (own_n rn) rs rn rf ix h0 _ T3.heap _
      rw [e3]
      exact ⟨(congrArg (fun z => some (Value.int z)) (hT_r ix hix).1), N3, rfl⟩
  · subst hc_r hl_r
    obtain ⟨cq1, kq1, q1a, q1b, q1c⟩ := isOf hZ e0 E_a0s
    obtain ⟨_, _, ⟨T1, L1, k1, n1⟩, -, X1, ⟨Lc1, hQ1, l1, y1, z1⟩, st1⟩ := X0.virtualBack hx (y := MN_2) (z := MN_2) hown (mvT hZ (Wd hw 169 rfl)) (mvT hZ (Wd hw 170 rfl)) (notFace_of_selects (args := #[]) (mvT hZ (Wd hw 172 rfl))) (mvT hZ (Wd hw 172 rfl)) (mvT hZ (Wd hw 171 rfl)) (by decide) (backOf (W := 0) (rmIl1 l Z a0 hw [] cS vF a0s h0 n0 O0 GL F_coder_a0s) hZ (Wd hw 173 rfl) (Wd hw 11 rfl) (by decide) (by decide)) q1a q1c (g := mkF m 1 #[vr a0s, vi (own_n ix)] [(.ref a0s)]) rfl (by rw [hml]; rfl) (Steps.refl _) (argsL := []) (rest := []) (lenOf pdv6 rfl) rfl (by show 2 * 0 + _ ≤ _; exact lEq rfl) (dG hby D30 1 rfl) (fun _ _ => ⟨rfl, e0, (by decide : 0 + 0 ≤ _), (by decide : 0 + 0 ≤ _)⟩)
    dsimp only [Pt.U, Pt.locs, Pt.cells, Pt.slots] at X1 l1 y1 z1 st1 hQ1
    subst l1 y1 z1
    obtain ⟨rfl, N1q, e1⟩ := hQ1
    have N1 := Fr.app N0 N1q
    obtain ⟨T2, X2, e2, st2⟩ := getF X1 hx hZ hown (host := "") (Or.inl (Wd hw 28 rfl)) Via.refl e1 F_value_a0s (g := mkF m 17 #[vr a0s, vi (own_n ix)] [(.ref a0s)]) rfl rfl (dG hby D30 9 rfl)
    obtain ⟨_, _, ⟨T3, L3, k3, n3⟩, -, X3, ⟨Lc3, hQ3, l3, y3, z3⟩, st3⟩ := Jvm.LawKit.callS X2 hx (y := MN_9) hown (mvT hZ (Wd hw 243 rfl)) (mvT hZ (Wd hw 244 rfl)) (mvT hZ (Wd hw 188 rfl)) (mvT hZ (Wd hw 245 rfl)) (by decide) (backOf (W := 0) (rmChU l Z a0 hw [] cS vF rv rk rs rn rf ix h0 n0 O0 GL V_rv hT_r hix h8) hZ (Wd hw 245 rfl) (Wd hw 188 rfl) (by decide) (by decide)) (g := mkF m 21 #[vr a0s, vi (own_n ix)] [(.int (own_n ix)), (.ref rv)]) rfl (by rw [hml]; rfl) (argsL := [(.ref rv), (.int (own_n ix))]) (rest := []) (lenOf pdv5 rfl) rfl (by show 2 * 0 + _ ≤ _; exact lEq rfl) (dG hby D30 11 rfl) (fun _ _ => ⟨rfl, e2, (by decide : 0 + 0 ≤ _), (by decide : 0 + 0 ≤ _)⟩)
    dsimp only [Pt.U, Pt.locs, Pt.cells, Pt.slots] at X3 l3 y3 z3 st3 hQ3
    subst l3 y3 z3
    obtain ⟨rfl, N3q, e3⟩ := hQ3
    have N3 := Fr.app N1 N3q
    obtain ⟨fs, hr, hrun, hended, hW, hsame⟩ := X3.leave (v := some (.int (nar .char (rf ix)))) (fun h => by rw [Bd.returns] at h; cases h)
    refine ⟨_, _, pre0 _ ?_, hrun, hended, _, _, rfl, ?_, ⟨_, rfl⟩, hW, hsame.mono (by decide) (by decide)⟩
    · show SP p e below s₁ m 0 #[vr a0s, vi (own_n ix)] [] _
      refine XS.aloadN X0.here hx rfl (dG hby D30 0 rfl) rfl rfl ?_
      show SP p e below s₁ m 1 #[vr a0s, vi (own_n ix)] [(.ref a0s)] _
      refine st1.trans ?_
      show SP p e below T1 m 4 #[vr a0s, vi (own_n ix)] [(.int 0)] _
      refine XS.ifYes X1.here hx rfl (pc0 := 4) (pc' := 16) rfl (dG hby D30 2 rfl) rfl ((if0 _ _).trans (teq (by decide : (0 : Int32) = (0 : Int32))).1) (by decide) (by decide) ?_
      refine XS.aloadN X1.here hx rfl (dG hby D30 8 rfl) rfl rfl ?_
      show SP p e below T1 m 17 #[vr a0s, vi (own_n ix)] [(.ref a0s)] _
      refine st2 _ ?_
      show SP p e below T2 m 20 #[vr a0s, vi (own_n ix)] [(.ref rv)] _
      refine XS.iloadN X2.here hx rfl (dG hby D30 10 rfl) rfl ?_
      show SP p e below T2 m 21 #[vr a0s, vi (own_n ix)] [(.int (own_n ix)), (.ref rv)] _
      refine st3 _ ?_
      show SP p e below T3 m 24 #[vr a0s, vi (own_n ix)] [(.int (rf ix))] _
      exact retN X3 hx (t := .char) Bd.returns (by simp) (dG hby D30 12 rfl) hr
    · show Q_rmChG n0 Z cS vF a0s rv rk (1 : Int32) (own_n (2 * rn)) rs rn rf ix h0 _ T3.heap _
      rw [e3]
      exact ⟨(congrArg (fun z => some (Value.int z)) (hT_r ix hix).1), N3, rfl⟩
theorem D28 : dL jdk_29_method_69_code [(0, .iload_n 0, 1), (1, .iload_n 1, 1), (2, .if_icmp .gt 7, 3), (9, .iload_n 1, 1), (10, .ireturn, 1)] = true := by decide +kernel
abbrev MN_25 : MethodName := ⟨"java/lang/Math", "min", "(II)I"⟩
def Q_rmMin (n0 : Nat) (Z : State) (cS : Int32) (vF : Value) (p0 : Int32) (p1 : Int32) (h0 : Heap) (v : Option Value) (h : Heap) (L : List Loc) : Prop := v = some (.int p1) ∧ Fr n0 L ∧ h = h0
theorem rmMin (l : Launch) (Z : State) (a0 : Array Value) (hw : ∀ d ∈ tables_1, d.before a0 Z = true) (ws : List Jvm.Cond) (cS : Int32) (vF : Value) (p0 : Int32) (p1 : Int32) (h0 : Heap) (n0 : Nat) (O0 : Old Z n0 h0) (GL : GF Z cS vF) (hm : p1 < p0) :
    MF l MN_25 jdk_29_method_69_code 2 (some .int) ws (Rm 0 0 0 0) #[(.int p0), (.int p1)] Z h0 (Q_rmMin n0 Z cS vF p0 p1 h0) := by
  refine MetFree.of_bodySF (Jvm.Free.JP.mathPlain rfl (by decide +kernel)) hisR ?_
  intro p e s m args below meth c s₁ Bd hml0 hP hK
  obtain ⟨rfl, hZ, hh⟩ := hP
  have hx := Bd.exec
  have hby := Bd.bytes
  have hml : c.maxLocals = 2 := hml0
  have hown : s.vm.findClass "java/lang/Math" = some m.cls := findClass_of_methodNamed Bd.named
  have hnm := (name_of_methodNamed Bd.named Bd.method).1
  have X0 : Stand p l e (Rm 0 0 0 0) s m #[(.int p0), (.int p1)] below meth c s₁ [] 0 0 := Stand.of_body Bd
  have e0 : s₁.heap = h0 := by rw [← hh, Bd.state]; rfl
  have N0 := Fr.nil n0
  have pre0 : ∀ t, SP p e below s₁ m 0 #[vi p0, vi p1] [] t → Steps p.tables e below (s₁.setTop (entryFrame m #[(.int p0), (.int p1)] 2)) t := fun t k => castTop (ef_rmSck m p0 p1) k
  have GL' := GL
  obtain ⟨GCS, GCP, GA16, GHI, GLO, GFF, GVF⟩ := GL'
  obtain ⟨fs, hr, hrun, hended, hW, hsame⟩ := X0.leave (v := some (.int p1)) (fun h => by rw [Bd.returns] at h; cases h)
  refine ⟨_, _, pre0 _ ?_, hrun, hended, _, _, rfl, ?_, ⟨_, rfl⟩, hW, hsame.mono (by decide) (by decide)⟩
  · show SP p e below s₁ m 0 #[vi p0, vi p1] [] _
    refine XS.iloadN X0.here hx rfl (dG hby D28 0 rfl) rfl ?_
    refine XS.iloadN X0.here hx rfl (dG hby D28 1 rfl) rfl ?_
    refine XS.icmpYes X0.here hx rfl (pc0 := 2) (pc' := 9) rfl (dG hby D28 2 rfl) rfl (tlt hm).2.2.1 (by decide) (by decide) ?_
    refine XS.iloadN X0.here hx rfl (dG hby D28 3 rfl) rfl ?_
    show SP p e below s₁ m 10 #[vi p0, vi p1] [(.int p1)] _
    exact retI X0 hx Bd.returns (dG hby D28 4 rfl) hr
  · show Q_rmMin n0 Z cS vF p0 p1 h0 _ s₁.heap _
    rw [e0]
    exact ⟨rfl, N0, rfl⟩
theorem D9 : dL jdk_68_method_2_code [(0, .aload_n 0, 1), (1, .invokespecial 3, 3), (4, .getstatic 18, 3), (7, .ifCond .eq 18, 3), (10, .aload_n 0, 1), (11, .iload_n 1, 1), (12, .newarray .byte, 2), (14, .putfield 15, 3), (17, .aload_n 0, 1), (18, .iconst 0, 1), (19, .putfield 22, 3), (22, .goto 16, 3), (38, .return_, 1)] = true := by decide +kernel
theorem pnv4 : plainName "java/lang/AbstractStringBuilder" = true := by first | (simp [plainName, overriddenIn]; done) | decide +kernel
abbrev MN_26 : MethodName := ⟨"java/lang/AbstractStringBuilder", "<init>", "(I)V"⟩
theorem ef_rmAsb (m : MethodId) (a0b : Addr) : entryFrame m #[(.ref a0b), (.int 16)] 2 = mkF m 0 #[vr a0b, vi (16 : Int32)] [] := by first | (simp [entryFrame, mkF, argsToLocals, Value.category]; done) | rfl
def Q_rmAsb (n0 : Nat) (Z : State) (cS : Int32) (vF : Value) (a0b : Addr) (h0 : Heap) (v : Option Value) (h : Heap) (L : List Loc) : Prop := ∃ y : Addr, ∃ ky : ClassId, v = none ∧ Fr n0 L ∧ Keep h0 h [a0b] ∧ (h0.size ≤ y) ∧ (Exa Z h y "[B") ∧ (Exa Z h a0b "java/lang/StringBuilder") ∧ (Fld Z h a0b "java/lang/AbstractStringBuilder" "value" "[B" (.ref y)) ∧ (Fld Z h a0b "java/lang/AbstractStringBuilder" "coder" "B" (.int 0)) ∧ (Fld Z h a0b "java/lang/AbstractStringBuilder" "count" "I" (.int 0)) ∧ (Fld Z h a0b "java/lang/AbstractStringBuilder" "maybeLatin1" "Z" (.int 0)) ∧ (Arv Z h y ky .byte (16 : Int32) [(.int 0), (.int 0), (.int 0), (.int 0), (.int 0), (.int 0), (.int 0), (.int 0), (.int 0), (.int 0), (.int 0), (.int 0), (.int 0), (.int 0), (.int 0), (.int 0)] (.int 0))
theorem rmAsb (l : Launch) (Z : State) (a0 : Array Value) (hw : ∀ d ∈ tables_1, d.before a0 Z = true) (ws : List Jvm.Cond) (cS : Int32) (vF : Value) (a0b : Addr) (h0 : Heap) (n0 : Nat) (O0 : Old Z n0 h0) (GL : GF Z cS vF) (E_a0b : Exa Z h0 a0b "java/lang/StringBuilder") (F_value_a0b : Fld Z h0 a0b "java/lang/AbstractStringBuilder" "value" "[B" .null) (F_coder_a0b : Fld Z h0 a0b "java/lang/AbstractStringBuilder" "coder" "B" (.int 0)) (F_count_a0b : Fld Z h0 a0b "java/lang/AbstractStringBuilder" "count" "I" (.int 0)) (F_maybeLatin1_a0b : Fld Z h0 a0b "java/lang/AbstractStringBuilder" "maybeLatin1" "Z" (.int 0)) (g_a0b : n0 ≤ a0b) :
    MF l MN_26 jdk_68_method_2_code 2 none ws (Rm 1 1 16 12) #[(.ref a0b), (.int 16)] Z h0 (Q_rmAsb n0 Z cS vF a0b h0) := by
  refine MetFree.of_bodySF (plainFor_of_name pnv4) hisR ?_
  intro p e s m args below meth c s₁ Bd hml0 hP hK
  obtain ⟨rfl, hZ, hh⟩ := hP
  have hx := Bd.exec
  have hby := Bd.bytes
  have hml : c.maxLocals = 2 := hml0
  have hown : s.vm.findClass "java/lang/AbstractStringBuilder" = some m.cls := findClass_of_methodNamed Bd.named
  have hnm := (name_of_methodNamed Bd.named Bd.method).1
  have X0 : Stand p l e (Rm 1 1 16 12) s m #[(.ref a0b), (.int 16)] below meth c s₁ [] 0 0 := Stand.of_body Bd
  have e0 : s₁.heap = h0 := by rw [← hh, Bd.state]; rfl
  have N0 := Fr.nil n0
  have pre0 : ∀ t, SP p e below s₁ m 0 #[vr a0b, vi (16 : Int32)] [] t → Steps p.tables e below (s₁.setTop (entryFrame m #[(.ref a0b), (.int 16)] 2)) t := fun t k => castTop (ef_rmAsb m a0b) k
  have GL' := GL
  obtain ⟨GCS, GCP, GA16, GHI, GLO, GFF, GVF⟩ := GL'
  obtain ⟨T1, X1, e1, st1⟩ := initO X0 hx hZ hown (Wd hw 60 rfl) (Wd hw 20 rfl) (Wd hw 21 rfl) e0 (g := mkF m 1 #[vr a0b, vi (16 : Int32)] [(.ref a0b)]) rfl (by rw [hml]; rfl) rfl (dG hby D9 1 rfl) (by decide) (W := 0) (by show 2 * 0 + _ ≤ _; exact lEq rfl) (by decide)
  obtain ⟨T2, X2, e2, st2⟩ := getS2 X1 hx hZ hown (host := "") (Or.inl (Wd hw 61 rfl)) Via.refl e1 (GCS.ext O0.2) (g := mkF m 4 #[vr a0b, vi (16 : Int32)] []) rfl (dG hby D9 2 rfl)
  obtain ⟨T3, h3, k3, X3, e3, E3, A3, A3', st3⟩ := newPE X2 hx hZ (Wd hw 23 rfl) e2 (g := mkF m 12 #[vr a0b, vi (16 : Int32)] [(.int 16), (.ref a0b)]) rfl (dG hby D9 6 rfl) rfl (by decide) (cap := 16) (by decide) (by decide) (by decide) (by decide) (ad := "[B") rfl
  obtain ⟨b3, g3⟩ : ∃ z, z = h0.size := ⟨_, rfl⟩
  rw [← g3] at A3 A3' st3
  have g_b3 : n0 ≤ b3 := lTr (own_sz O0) (lEq g3.symm)
  have sz_b3 : h0.size ≤ b3 := lTr (Keep.refl h0 [a0b]).1 (lEq g3.symm)
  have K3 : Keep h0 h3 [a0b] := (Keep.refl h0 [a0b]).ext E3
  have O3 := O0.ext E3
  have V_b3 : Arv Z h3 b3 k3 .byte (16 : Int32) [(.int 0), (.int 0), (.int 0), (.int 0), (.int 0), (.int 0), (.int 0), (.int 0), (.int 0), (.int 0), (.int 0), (.int 0), (.int 0), (.int 0), (.int 0), (.int 0)] (.int 0) := (Arv.new A3 (by decide)).pad (pad_rep [] (.int 0) 16)
  obtain ⟨T4, h4, X4, e4, W4, st4⟩ := putF X3 hx hZ hown (host := "") (Or.inl (Wd hw 62 rfl)) Via.refl e3 (F_value_a0b.ext E3) (E_a0b.ext E3) (Or.inl (Wd hw 63 rfl)) (Wd hw 49 rfl) (ty := (.array .byte)) (by decide) rfl rfl (g := mkF m 14 #[vr a0b, vi (16 : Int32)] [(.ref b3), (.ref a0b)]) rfl rfl (dG hby D9 7 rfl)
  have Fw4 := (F_value_a0b.ext E3).same W4
  have K4 : Keep h0 h4 [a0b] := K3.wr W4 (Or.inl (List.mem_of_getElem? (i := 0) rfl))
  have O4 := O3.wr W4 g_a0b
  have N4 := Fr.snoc X4 N0 g_a0b
  obtain ⟨T5, h5, X5, e5, W5, st5⟩ := putFN X4 hx hZ hown (Wd hw 64 rfl) Via.refl e4 ((F_coder_a0b.ext E3).other W4 (Or.inr (slot_ne (a0 := a0) (Or.inl (Wd hw 65 rfl)) (Or.inl (Wd hw 63 rfl)) (by decide) (t := .byte) (t' := (.array .byte)) (by decide) (by decide)))) ((E_a0b.ext E3).wr W4) (Or.inl (Wd hw 65 rfl)) (Wd hw 49 rfl) (ty := .byte) (v' := (.int 0)) (by decide) rfl (by decide) (g := mkF m 19 #[vr a0b, vi (16 : Int32)] [(.int 0), (.ref a0b)]) rfl rfl (dG hby D9 10 rfl)
  have Fw5 := ((F_coder_a0b.ext E3).other W4 (Or.inr (slot_ne (a0 := a0) (Or.inl (Wd hw 65 rfl)) (Or.inl (Wd hw 63 rfl)) (by decide) (t := .byte) (t' := (.array .byte)) (by decide) (by decide)))).same W5
  have K5 : Keep h0 h5 [a0b] := K4.wr W5 (Or.inl (List.mem_of_getElem? (i := 0) rfl))
  have O5 := O4.wr W5 g_a0b
  have N5 := Fr.snoc X5 N4 g_a0b
  obtain ⟨fs, hr, hrun, hended, hW, hsame⟩ := X5.leave (v := none) (fun _ => rfl)
  refine ⟨_, _, pre0 _ ?_, hrun, hended, _, _, rfl, ?_, ⟨_, rfl⟩, hW, hsame.mono (by decide) (by decide)⟩
  · show SP p e below s₁ m 0 #[vr a0b, vi (16 : Int32)] [] _
    refine XS.aloadN X0.here hx rfl (dG hby D9 0 rfl) rfl rfl ?_
    show SP p e below s₁ m 1 #[vr a0b, vi (16 : Int32)] [(.ref a0b)] _
    refine st1 _ ?_
    show SP p e below T1 m 4 #[vr a0b, vi (16 : Int32)] [] _
    refine st2 _ ?_
    show SP p e below T2 m 7 #[vr a0b, vi (16 : Int32)] [(.int cS)] _
    refine XS.ifNo X2.here hx rfl (dG hby D9 3 rfl) rfl ((if0 _ _).trans (feq GCP).1) ?_
    refine XS.aloadN X2.here hx rfl (dG hby D9 4 rfl) rfl rfl ?_
    refine XS.iloadN X2.here hx rfl (dG hby D9 5 rfl) rfl ?_
    show SP p e below T2 m 12 #[vr a0b, vi (16 : Int32)] [(.int 16), (.ref a0b)] _
    refine st3 _ ?_
    show SP p e below T3 m 14 #[vr a0b, vi (16 : Int32)] [(.ref b3), (.ref a0b)] _
    refine st4 _ ?_
    show SP p e below T4 m 17 #[vr a0b, vi (16 : Int32)] [] _
    refine XS.aloadN X4.here hx rfl (dG hby D9 8 rfl) rfl rfl ?_
    refine XS.iconst X4.here hx rfl (dG hby D9 9 rfl) ?_
    show SP p e below T4 m 19 #[vr a0b, vi (16 : Int32)] [(.int 0), (.ref a0b)] _
    refine st5 _ ?_
    show SP p e below T5 m 22 #[vr a0b, vi (16 : Int32)] [] _
    refine XS.goto X5.here hx rfl (pc0 := 22) (pc' := 38) rfl (dG hby D9 11 rfl) (by decide) (by decide) ?_
    show SP p e below T5 m 38 #[vr a0b, vi (16 : Int32)] [] _
    exact X5.returnOut hx Bd.returns (dG hby D9 12 rfl) hr
  · show Q_rmAsb n0 Z cS vF a0b h0 _ T5.heap _
    rw [e5]
    exact ⟨b3, k3, rfl, N5, K5, sz_b3, ((A3'.wr W4).wr W5), (((E_a0b.ext E3).wr W4).wr W5), (Fw4.other W5 (Or.inr (slot_ne (a0 := a0) (Or.inl (Wd hw 63 rfl)) (Or.inl (Wd hw 65 rfl)) (by decide) (t := (.array .byte)) (t' := .byte) (by decide) (by decide)))), Fw5, (((F_count_a0b.ext E3).other W4 (Or.inr (slot_ne (a0 := a0) (Or.inl (Wd hw 88 rfl)) (Or.inl (Wd hw 63 rfl)) (by decide) (t := .int) (t' := (.array .byte)) (by decide) (by decide)))).other W5 (Or.inr (slot_ne (a0 := a0) (Or.inl (Wd hw 88 rfl)) (Or.inl (Wd hw 65 rfl)) (by decide) (t := .int) (t' := .byte) (by decide) (by decide)))), (((F_maybeLatin1_a0b.ext E3).other W4 (Or.inr (slot_ne (a0 := a0) (Or.inl (Wd hw 242 rfl)) (Or.inl (Wd hw 63 rfl)) (by decide) (t := .boolean) (t' := (.array .byte)) (by decide) (by decide)))).other W5 (Or.inr (slot_ne (a0 := a0) (Or.inl (Wd hw 242 rfl)) (Or.inl (Wd hw 65 rfl)) (by decide) (t := .boolean) (t' := .byte) (by decide) (by decide)))), ((V_b3.other W4 (Ne.symm (nLt (lLt E_a0b.lt (lEq g3.symm))))).other W5 (Ne.symm (nLt (lLt E_a0b.lt (lEq g3.symm)))))⟩
theorem D8 : dL jdk_67_method_1_code [(0, .aload_n 0, 1), (1, .bipush 16, 2), (3, .invokespecial 1, 3), (6, .return_, 1)] = true := by decide +kernel
theorem pdv18 : parseMethodDescriptor "(I)V" = some ⟨[.int], none⟩ := by decide +kernel
theorem pnv5 : plainName "java/lang/StringBuilder" = true := by first | (simp [plainName, overriddenIn]; done) | decide +kernel
abbrev MN_27 : MethodName := ⟨"java/lang/StringBuilder", "<init>", "()V"⟩
def Q_rmSb (n0 : Nat) (Z : State) (cS : Int32) (vF : Value) (a0b : Addr) (h0 : Heap) (v : Option Value) (h : Heap) (L : List Loc) : Prop := ∃ y : Addr, ∃ ky : ClassId, v = none ∧ Fr n0 L ∧ Keep h0 h [a0b] ∧ (h0.size ≤ y) ∧ (Exa Z h y "[B") ∧ (Exa Z h a0b "java/lang/StringBuilder") ∧ (Fld Z h a0b "java/lang/AbstractStringBuilder" "value" "[B" (.ref y)) ∧ (Fld Z h a0b "java/lang/AbstractStringBuilder" "coder" "B" (.int 0)) ∧ (Fld Z h a0b "java/lang/AbstractStringBuilder" "count" "I" (.int 0)) ∧ (Fld Z h a0b "java/lang/AbstractStringBuilder" "maybeLatin1" "Z" (.int 0)) ∧ (Arv Z h y ky .byte (16 : Int32) [(.int 0), (.int 0), (.int 0), (.int 0), (.int 0), (.int 0), (.int 0), (.int 0), (.int 0), (.int 0), (.int 0), (.int 0), (.int 0), (.int 0), (.int 0), (.int 0)] (.int 0))
theorem rmSb (l : Launch) (Z : State) (a0 : Array Value) (hw : ∀ d ∈ tables_1, d.before a0 Z = true) (ws : List Jvm.Cond) (cS : Int32) (vF : Value) (a0b : Addr) (h0 : Heap) (n0 : Nat) (O0 : Old Z n0 h0) (GL : GF Z cS vF) (E_a0b : Exa Z h0 a0b "java/lang/StringBuilder") (F_value_a0b : Fld Z h0 a0b "java/lang/AbstractStringBuilder" "value" "[B" .null) (F_coder_a0b : Fld Z h0 a0b "java/lang/AbstractStringBuilder" "coder" "B" (.int 0)) (F_count_a0b : Fld Z h0 a0b "java/lang/AbstractStringBuilder" "count" "I" (.int 0)) (F_maybeLatin1_a0b : Fld Z h0 a0b "java/lang/AbstractStringBuilder" "maybeLatin1" "Z" (.int 0)) (g_a0b : n0 ≤ a0b) :
    MF l MN_27 jdk_67_method_1_code 1 none ws (Rm 2 1 16 25) #[(.ref a0b)] Z h0 (Q_rmSb n0 Z cS vF a0b h0) := by
  refine MetFree.of_bodySF (plainFor_of_name pnv5) hisR ?_
  intro p e s m args below meth c s₁ Bd hml0 hP hK
  obtain ⟨rfl, hZ, hh⟩ := hP
  have hx := Bd.exec
  have hby := Bd.bytes
  have hml : c.maxLocals = 1 := hml0
  have hown : s.vm.findClass "java/lang/StringBuilder" = some m.cls := findClass_of_methodNamed Bd.named
  have hnm := (name_of_methodNamed Bd.named Bd.method).1
  have X0 : Stand p l e (Rm 2 1 16 25) s m #[(.ref a0b)] below meth c s₁ [] 0 0 := Stand.of_body Bd
  have e0 : s₁.heap = h0 := by rw [← hh, Bd.state]; rfl
  have N0 := Fr.nil n0
  have pre0 : ∀ t, SP p e below s₁ m 0 #[vr a0b] [] t → Steps p.tables e below (s₁.setTop (entryFrame m #[(.ref a0b)] 1)) t := fun t k => castTop (ef_rmUl0 m a0b) k
  have GL' := GL
  obtain ⟨GCS, GCP, GA16, GHI, GLO, GFF, GVF⟩ := GL'
  obtain ⟨_, _, ⟨T1, L1, k1, n1⟩, -, X1, ⟨Lc1, hQ1, l1, y1, z1⟩, st1⟩ := X0.specialBack hx (y := MN_26) rfl hown (mvT hZ (Wd hw 54 rfl)) (mvT hZ (Wd hw 55 rfl)) (mvT hZ (Wd hw 59 rfl)) (by decide) (backOf (W := 0) (rmAsb l Z a0 hw [] cS vF a0b h0 n0 O0 GL E_a0b F_value_a0b F_coder_a0b F_count_a0b F_maybeLatin1_a0b g_a0b) hZ (Wd hw 59 rfl) (Wd hw 58 rfl) (by decide) (by decide)) (g := mkF m 3 #[vr a0b] [(.int 16), (.ref a0b)]) rfl (by rw [hml]; rfl) (Steps.refl _) (a := a0b) (argsL := [(.int 16)]) (rest := []) (lenOf pdv18 rfl) rfl (by show 2 * 0 + _ ≤ _; exact lEq rfl) (dG hby D8 2 rfl) (fun _ _ => ⟨rfl, e0, (by decide : 0 + 1 ≤ _), (by decide : 0 + 16 ≤ _)⟩)
  dsimp only [Pt.U, Pt.locs, Pt.cells, Pt.slots] at X1 l1 y1 z1 st1 hQ1
  subst l1 y1 z1
  obtain ⟨y_1, ky_1, rfl, N1q, Kc1, P1_0, P1_1, P1_2, P1_3, P1_4, P1_5, P1_6, P1_7⟩ := hQ1
  have K1 : Keep h0 T1.heap [a0b] := (Keep.refl h0 [a0b]).trans Kc1 (allS (Or.inl (List.mem_of_getElem? (i := 0) rfl)) all0)
  have O1 := O0.keep Kc1 (allS g_a0b all0)
  have g_y_1 : n0 ≤ y_1 := lTr (own_sz O0) P1_0
  have sz_y_1 : h0.size ≤ y_1 := lTr (Keep.refl h0 [a0b]).1 P1_0
  have N1 := Fr.app N0 N1q
  obtain ⟨fs, hr, hrun, hended, hW, hsame⟩ := X1.leave (v := none) (fun _ => rfl)
  refine ⟨_, _, pre0 _ ?_, hrun, hended, _, _, rfl, ?_, ⟨_, rfl⟩, hW, hsame.mono (by decide) (by decide)⟩
  · show SP p e below s₁ m 0 #[vr a0b] [] _
    refine XS.aloadN X0.here hx rfl (dG hby D8 0 rfl) rfl rfl ?_
    refine XS.bipush X0.here hx rfl (dG hby D8 1 rfl) ?_
    show SP p e below s₁ m 3 #[vr a0b] [(.int 16), (.ref a0b)] _
    refine st1.trans ?_
    show SP p e below T1 m 6 #[vr a0b] [] _
    exact X1.returnOut hx Bd.returns (dG hby D8 3 rfl) hr
  · show Q_rmSb n0 Z cS vF a0b h0 _ T1.heap _
    exact ⟨y_1, ky_1, rfl, N1, K1, sz_y_1, P1_1, P1_2, P1_3, P1_4, P1_5, P1_6, P1_7⟩
theorem D14 : dL jdk_68_method_9_code [(0, .aload_n 0, 1), (1, .getfield 15, 3), (4, .arraylength, 1), (5, .aload_n 0, 1), (6, .getfield 22, 3), (9, .ishr, 1), (10, .istore_n 2, 1), (11, .iload_n 1, 1), (12, .iload_n 2, 1), (13, .isub, 1), (14, .ifCond .le 24, 3), (38, .return_, 1)] = true := by decide +kernel
abbrev MN_28 : MethodName := ⟨"java/lang/AbstractStringBuilder", "ensureCapacityInternal", "(I)V"⟩
theorem ef_rmEns0 (m : MethodId) (a0b : Addr) {em : Nat} : entryFrame m #[(.ref a0b), (.int (own_n em))] 3 = mkF m 0 #[vr a0b, vi (own_n em), .unset] [] := by first | (simp [entryFrame, mkF, argsToLocals, Value.category]; done) | rfl
def Q_rmEns0 (n0 : Nat) (Z : State) (cS : Int32) (vF : Value) (a0b : Addr) (em : Nat) (y : Addr) (ky : ClassId) (bs : List Value) (h0 : Heap) (v : Option Value) (h : Heap) (L : List Loc) : Prop := v = none ∧ Fr n0 L ∧ h = h0
theorem rmEns0 (l : Launch) (Z : State) (a0 : Array Value) (hw : ∀ d ∈ tables_1, d.before a0 Z = true) (ws : List Jvm.Cond) (cS : Int32) (vF : Value) (a0b : Addr) (em : Nat) (y : Addr) (ky : ClassId) (bs : List Value) (h0 : Heap) (n0 : Nat) (O0 : Old Z n0 h0) (GL : GF Z cS vF) (E_a0b : Exa Z h0 a0b "java/lang/StringBuilder") (F_value_a0b : Fld Z h0 a0b "java/lang/AbstractStringBuilder" "value" "[B" (.ref y)) (F_coder_a0b : Fld Z h0 a0b "java/lang/AbstractStringBuilder" "coder" "B" (.int 0)) (V_y : Arv Z h0 y ky .byte (16 : Int32) bs (.int 0)) (he : ¬ ((0 : Int32) < ((own_n em) - (16 : Int32)))) :
    MF l MN_28 jdk_68_method_9_code 3 none ws (Rm 0 0 0 0) #[(.ref a0b), (.int (own_n em))] Z h0 (Q_rmEns0 n0 Z cS vF a0b em y ky bs h0) := by
  refine MetFree.of_bodySF (plainFor_of_name pnv4) hisR ?_
  intro p e s m args below meth c s₁ Bd hml0 hP hK
  obtain ⟨rfl, hZ, hh⟩ := hP
  have hx := Bd.exec
  have hby := Bd.bytes
  have hml : c.maxLocals = 3 := hml0
  have hown : s.vm.findClass "java/lang/AbstractStringBuilder" = some m.cls := findClass_of_methodNamed Bd.named
  have hnm := (name_of_methodNamed Bd.named Bd.method).1
  have X0 : Stand p l e (Rm 0 0 0 0) s m #[(.ref a0b), (.int (own_n em))] below meth c s₁ [] 0 0 := Stand.of_body Bd
  have e0 : s₁.heap = h0 := by rw [← hh, Bd.state]; rfl
  have N0 := Fr.nil n0
  have pre0 : ∀ t, SP p e below s₁ m 0 #[vr a0b, vi (own_n em), .unset] [] t → Steps p.tables e below (s₁.setTop (entryFrame m #[(.ref a0b), (.int (own_n em))] 3)) t := fun t k => castTop (ef_rmEns0 m a0b) k
  have GL' := GL
  obtain ⟨GCS, GCP, GA16, GHI, GLO, GFF, GVF⟩ := GL'
  obtain ⟨T1, X1, e1, st1⟩ := getF X0 hx hZ hown (host := "") (Or.inl (Wd hw 62 rfl)) Via.refl e0 F_value_a0b (g := mkF m 1 #[vr a0b, vi (own_n em), .unset] [(.ref a0b)]) rfl rfl (dG hby D14 1 rfl)
  obtain ⟨cl2, Ar2, -, S2, N2_, -, -⟩ := id (V_y)
  obtain ⟨T3, X3, e3, st3⟩ := getF X1 hx hZ hown (host := "") (Or.inl (Wd hw 64 rfl)) Via.refl e1 F_coder_a0b (g := mkF m 6 #[vr a0b, vi (own_n em), .unset] [(.ref a0b), (.int 16)]) rfl rfl (dG hby D14 4 rfl)
  obtain ⟨fs, hr, hrun, hended, hW, hsame⟩ := X3.leave (v := none) (fun _ => rfl)
  refine ⟨_, _, pre0 _ ?_, hrun, hended, _, _, rfl, ?_, ⟨_, rfl⟩, hW, hsame.mono (by decide) (by decide)⟩
  · show SP p e below s₁ m 0 #[vr a0b, vi (own_n em), .unset] [] _
    refine XS.aloadN X0.here hx rfl (dG hby D14 0 rfl) rfl rfl ?_
    show SP p e below s₁ m 1 #[vr a0b, vi (own_n em), .unset] [(.ref a0b)] _
    refine st1 _ ?_
    show SP p e below T1 m 4 #[vr a0b, vi (own_n em), .unset] [(.ref y)] _
    refine X1.arraylength hx (by rw [e1]; exact Ar2.1) (State.isArrayOf_alike hZ.alike Ar2.2.1) (g := mkF m 4 #[vr a0b, vi (own_n em), .unset] [(.ref y)]) rfl rfl (dG hby D14 2 rfl) _ ?_
    rw [len_of S2 N2_]
    show SP p e below T1 m 5 #[vr a0b, vi (own_n em), .unset] [(.int 16)] _
    refine XS.aloadN X1.here hx rfl (dG hby D14 3 rfl) rfl rfl ?_
    show SP p e below T1 m 6 #[vr a0b, vi (own_n em), .unset] [(.ref a0b), (.int 16)] _
    refine st3 _ ?_
    show SP p e below T3 m 9 #[vr a0b, vi (own_n em), .unset] [(.int 0), (.int 16)] _
    refine XS.ishr X3.here hx rfl (dG hby D14 5 rfl) rfl ?_
    refine XS.istoreN X3.here hx rfl (dG hby D14 6 rfl) rfl (l' := #[vr a0b, vi (own_n em), vi (16 : Int32)]) rfl ?_
    refine XS.iloadN X3.here hx rfl (dG hby D14 7 rfl) rfl ?_
    refine XS.iloadN X3.here hx rfl (dG hby D14 8 rfl) rfl ?_
    refine XS.isub X3.here hx rfl (dG hby D14 9 rfl) rfl ?_
    refine XS.ifYes X3.here hx rfl (pc0 := 14) (pc' := 38) rfl (dG hby D14 10 rfl) rfl ((if0 _ _).trans (flt he).2.2.2) (by decide) (by decide) ?_
    show SP p e below T3 m 38 #[vr a0b, vi (own_n em), vi (16 : Int32)] [] _
    exact X3.returnOut hx Bd.returns (dG hby D14 11 rfl) hr
  · show Q_rmEns0 n0 Z cS vF a0b em y ky bs h0 _ T3.heap _
    rw [e3]
    exact ⟨rfl, N0, rfl⟩
def Q_rmEns1 (n0 : Nat) (Z : State) (cS : Int32) (vF : Value) (a0b : Addr) (em : Nat) (y : Addr) (ky : ClassId) (bs : List Value) (h0 : Heap) (v : Option Value) (h : Heap) (L : List Loc) : Prop := v = none ∧ Fr n0 L ∧ h = h0
theorem rmEns1 (l : Launch) (Z : State) (a0 : Array Value) (hw : ∀ d ∈ tables_1, d.before a0 Z = true) (ws : List Jvm.Cond) (cS : Int32) (vF : Value) (a0b : Addr) (em : Nat) (y : Addr) (ky : ClassId) (bs : List Value) (h0 : Heap) (n0 : Nat) (O0 : Old Z n0 h0) (GL : GF Z cS vF) (E_a0b : Exa Z h0 a0b "java/lang/StringBuilder") (F_value_a0b : Fld Z h0 a0b "java/lang/AbstractStringBuilder" "value" "[B" (.ref y)) (F_coder_a0b : Fld Z h0 a0b "java/lang/AbstractStringBuilder" "coder" "B" (.int 1)) (V_y : Arv Z h0 y ky .byte (32 : Int32) bs (.int 0)) (he : ¬ ((0 : Int32) < ((own_n em) - (16 : Int32)))) :
    MF l MN_28 jdk_68_method_9_code 3 none ws (Rm 0 0 0 0) #[(.ref a0b), (.int (own_n em))] Z h0 (Q_rmEns1 n0 Z cS vF a0b em y ky bs h0) := by
  refine MetFree.of_bodySF (plainFor_of_name pnv4) hisR ?_
  intro p e s m args below meth c s₁ Bd hml0 hP hK
  obtain ⟨rfl, hZ, hh⟩ := hP
  have hx := Bd.exec
  have hby := Bd.bytes
  have hml : c.maxLocals = 3 := hml0
  have hown : s.vm.findClass "java/lang/AbstractStringBuilder" = some m.cls := findClass_of_methodNamed Bd.named
  have hnm := (name_of_methodNamed Bd.named Bd.method).1
  have X0 : Stand p l e (Rm 0 0 0 0) s m #[(.ref a0b), (.int (own_n em))] below meth c s₁ [] 0 0 := Stand.of_body Bd
  have e0 : s₁.heap = h0 := by rw [← hh, Bd.state]; rfl
  have N0 := Fr.nil n0
  have pre0 : ∀ t, SP p e below s₁ m 0 #[vr a0b, vi (own_n em), .unset] [] t → Steps p.tables e below (s₁.setTop (entryFrame m #[(.ref a0b), (.int (own_n em))] 3)) t := fun t k => castTop (ef_rmEns0 m a0b) k
  have GL' := GL
  obtain ⟨GCS, GCP, GA16, GHI, GLO, GFF, GVF⟩ := GL'
  obtain ⟨T1, X1, e1, st1⟩ := getF X0 hx hZ hown (host := "") (Or.inl (Wd hw 62 rfl)) Via.refl e0 F_value_a0b (g := mkF m 1 #[vr a0b, vi (own_n em), .unset] [(.ref a0b)]) rfl rfl (dG hby D14 1 rfl)
  obtain ⟨cl2, Ar2, -, S2, N2_, -, -⟩ := id (V_y)
  obtain ⟨T3, X3, e3, st3⟩ := getF X1 hx hZ hown (host := "") (Or.inl (Wd hw 64 rfl)) Via.refl e1 F_coder_a0b (g := mkF m 6 #[vr a0b, vi (own_n em), .unset] [(.ref a0b), (.int 32)]) rfl rfl (dG hby D14 4 rfl)
  obtain ⟨fs, hr, hrun, hended, hW, hsame⟩ := X3.leave (v := none) (fun _ => rfl)
  refine ⟨_, _, pre0 _ ?_, hrun, hended, _, _, rfl, ?_, ⟨_, rfl⟩, hW, hsame.mono (by decide) (by decide)⟩
  · show SP p e below s₁ m 0 #[vr a0b, vi (own_n em), .unset] [] _
    refine XS.aloadN X0.here hx rfl (dG hby D14 0 rfl) rfl rfl ?_
    show SP p e below s₁ m 1 #[vr a0b, vi (own_n em), .unset] [(.ref a0b)] _
    refine st1 _ ?_
    show SP p e below T1 m 4 #[vr a0b, vi (own_n em), .unset] [(.ref y)] _
    refine X1.arraylength hx (by rw [e1]; exact Ar2.1) (State.isArrayOf_alike hZ.alike Ar2.2.1) (g := mkF m 4 #[vr a0b, vi (own_n em), .unset] [(.ref y)]) rfl rfl (dG hby D14 2 rfl) _ ?_
    rw [len_of S2 N2_]
    show SP p e below T1 m 5 #[vr a0b, vi (own_n em), .unset] [(.int 32)] _
    refine XS.aloadN X1.here hx rfl (dG hby D14 3 rfl) rfl rfl ?_
    show SP p e below T1 m 6 #[vr a0b, vi (own_n em), .unset] [(.ref a0b), (.int 32)] _
    refine st3 _ ?_
    show SP p e below T3 m 9 #[vr a0b, vi (own_n em), .unset] [(.int 1), (.int 32)] _
    refine XS.ishr X3.here hx rfl (dG hby D14 5 rfl) rfl ?_
    refine XS.istoreN X3.here hx rfl (dG hby D14 6 rfl) rfl (l' := #[vr a0b, vi (own_n em), vi (16 : Int32)]) rfl ?_
    refine XS.iloadN X3.here hx rfl (dG hby D14 7 rfl) rfl ?_
    refine XS.iloadN X3.here hx rfl (dG hby D14 8 rfl) rfl ?_
    refine XS.isub X3.here hx rfl (dG hby D14 9 rfl) rfl ?_
    refine XS.ifYes X3.here hx rfl (pc0 := 14) (pc' := 38) rfl (dG hby D14 10 rfl) rfl ((if0 _ _).trans (flt he).2.2.2) (by decide) (by decide) ?_
    show SP p e below T3 m 38 #[vr a0b, vi (own_n em), vi (16 : Int32)] [] _
    exact X3.returnOut hx Bd.returns (dG hby D14 11 rfl) hr
  · show Q_rmEns1 n0 Z cS vF a0b em y ky bs h0 _ T3.heap _
    rw [e3]
    exact ⟨rfl, N0, rfl⟩
theorem D24 : dL jdk_68_method_68_code [(0, .getstatic 18, 3), (3, .ifCond .eq 14, 3), (6, .aload_n 0, 1), (7, .getfield 22, 3), (10, .ifCond .ne 7, 3), (13, .iconst 1, 1), (14, .goto 4, 3), (18, .ireturn, 1), (17, .iconst 0, 1)] = true := by decide +kernel
abbrev MN_29 : MethodName := ⟨"java/lang/AbstractStringBuilder", "isLatin1", "()Z"⟩
def Q_rmBl0 (n0 : Nat) (Z : State) (cS : Int32) (vF : Value) (a0b : Addr) (h0 : Heap) (v : Option Value) (h : Heap) (L : List Loc) : Prop := v = some (.int 1) ∧ Fr n0 L ∧ h = h0
theorem rmBl0 (l : Launch) (Z : State) (a0 : Array Value) (hw : ∀ d ∈ tables_1, d.before a0 Z = true) (ws : List Jvm.Cond) (cS : Int32) (vF : Value) (a0b : Addr) (h0 : Heap) (n0 : Nat) (O0 : Old Z n0 h0) (GL : GF Z cS vF) (E_a0b : Exa Z h0 a0b "java/lang/StringBuilder") (F_coder_a0b : Fld Z h0 a0b "java/lang/AbstractStringBuilder" "coder" "B" (.int 0)) :
    MF l MN_29 jdk_68_method_68_code 1 (some .boolean) ws (Rm 0 0 0 0) #[(.ref a0b)] Z h0 (Q_rmBl0 n0 Z cS vF a0b h0) := by
  refine MetFree.of_bodySF (plainFor_of_name pnv4) hisR ?_
  intro p e s m args below meth c s₁ Bd hml0 hP hK
  obtain ⟨rfl, hZ, hh⟩ := hP
  have hx := Bd.exec
  have hby := Bd.bytes
  have hml : c.maxLocals = 1 := hml0
  have hown : s.vm.findClass "java/lang/AbstractStringBuilder" = some m.cls := findClass_of_methodNamed Bd.named
  have hnm := (name_of_methodNamed Bd.named Bd.method).1
  have X0 : Stand p l e (Rm 0 0 0 0) s m #[(.ref a0b)] below meth c s₁ [] 0 0 := Stand.of_body Bd
  have e0 : s₁.heap = h0 := by rw [← hh, Bd.state]; rfl
  have N0 := Fr.nil n0
  have pre0 : ∀ t, SP p e below s₁ m 0 #[vr a0b] [] t → Steps p.tables e below (s₁.setTop (entryFrame m #[(.ref a0b)] 1)) t := fun t k => castTop (ef_rmUl0 m a0b) k
  have GL' := GL
  obtain ⟨GCS, GCP, GA16, GHI, GLO, GFF, GVF⟩ := GL'
  obtain ⟨T1, X1, e1, st1⟩ := getS2 X0 hx hZ hown (host := "") (Or.inl (Wd hw 61 rfl)) Via.refl e0 (GCS.ext O0.2) (g := mkF m 0 #[vr a0b] []) rfl (dG hby D24 0 rfl)
  obtain ⟨T2, X2, e2, st2⟩ := getF X1 hx hZ hown (host := "") (Or.inl (Wd hw 64 rfl)) Via.refl e1 F_coder_a0b (g := mkF m 7 #[vr a0b] [(.ref a0b)]) rfl rfl (dG hby D24 3 rfl)
  obtain ⟨fs, hr, hrun, hended, hW, hsame⟩ := X2.leave (v := some (.int 1)) (fun h => by rw [Bd.returns] at h; cases h)
  refine ⟨_, _, pre0 _ ?_, hrun, hended, _, _, rfl, ?_, ⟨_, rfl⟩, hW, hsame.mono (by decide) (by decide)⟩
  · show SP p e below s₁ m 0 #[vr a0b] [] _
    refine st1 _ ?_
    show SP p e below T1 m 3 #[vr a0b] [(.int cS)] _
    refine XS.ifNo X1.here hx rfl (dG hby D24 1 rfl) rfl ((if0 _ _).trans (feq GCP).1) ?_
    refine XS.aloadN X1.here hx rfl (dG hby D24 2 rfl) rfl rfl ?_
    show SP p e below T1 m 7 #[vr a0b] [(.ref a0b)] _
    refine st2 _ ?_
    show SP p e below T2 m 10 #[vr a0b] [(.int 0)] _
    refine XS.ifNo X2.here hx rfl (dG hby D24 4 rfl) rfl ((if0 _ _).trans (teq (by decide : (0 : Int32) = (0 : Int32))).2) ?_
    refine XS.iconst X2.here hx rfl (dG hby D24 5 rfl) ?_
    refine XS.goto X2.here hx rfl (pc0 := 14) (pc' := 18) rfl (dG hby D24 6 rfl) (by decide) (by decide) ?_
    show SP p e below T2 m 18 #[vr a0b] [(.int 1)] _
    exact retN X2 hx (t := .boolean) Bd.returns (by simp) (dG hby D24 7 rfl) hr
  · show Q_rmBl0 n0 Z cS vF a0b h0 _ T2.heap _
    rw [e2]
    exact ⟨rfl, N0, rfl⟩
def Q_rmBl1 (n0 : Nat) (Z : State) (cS : Int32) (vF : Value) (a0b : Addr) (h0 : Heap) (v : Option Value) (h : Heap) (L : List Loc) : Prop := v = some (.int 0) ∧ Fr n0 L ∧ h = h0
theorem rmBl1 (l : Launch) (Z : State) (a0 : Array Value) (hw : ∀ d ∈ tables_1, d.before a0 Z = true) (ws : List Jvm.Cond) (cS : Int32) (vF : Value) (a0b : Addr) (h0 : Heap) (n0 : Nat) (O0 : Old Z n0 h0) (GL : GF Z cS vF) (E_a0b : Exa Z h0 a0b "java/lang/StringBuilder") (F_coder_a0b : Fld Z h0 a0b "java/lang/AbstractStringBuilder" "coder" "B" (.int 1)) :
    MF l MN_29 jdk_68_method_68_code 1 (some .boolean) ws (Rm 0 0 0 0) #[(.ref a0b)] Z h0 (Q_rmBl1 n0 Z cS vF a0b h0) := by
  refine MetFree.of_bodySF (plainFor_of_name pnv4) hisR ?_
  intro p e s m args below meth c s₁ Bd hml0 hP hK
  obtain ⟨rfl, hZ, hh⟩ := hP
  have hx := Bd.exec
  have hby := Bd.bytes
  have hml : c.maxLocals = 1 := hml0
  have hown : s.vm.findClass "java/lang/AbstractStringBuilder" = some m.cls := findClass_of_methodNamed Bd.named
  have hnm := (name_of_methodNamed Bd.named Bd.method).1
  have X0 : Stand p l e (Rm 0 0 0 0) s m #[(.ref a0b)] below meth c s₁ [] 0 0 := Stand.of_body Bd
  have e0 : s₁.heap = h0 := by rw [← hh, Bd.state]; rfl
  have N0 := Fr.nil n0
  have pre0 : ∀ t, SP p e below s₁ m 0 #[vr a0b] [] t → Steps p.tables e below (s₁.setTop (entryFrame m #[(.ref a0b)] 1)) t := fun t k => castTop (ef_rmUl0 m a0b) k
  have GL' := GL
  obtain ⟨GCS, GCP, GA16, GHI, GLO, GFF, GVF⟩ := GL'
  obtain ⟨T1, X1, e1, st1⟩ := getS2 X0 hx hZ hown (host := "") (Or.inl (Wd hw 61 rfl)) Via.refl e0 (GCS.ext O0.2) (g := mkF m 0 #[vr a0b] []) rfl (dG hby D24 0 rfl)
  obtain ⟨T2, X2, e2, st2⟩ := getF X1 hx hZ hown (host := "") (Or.inl (Wd hw 64 rfl)) Via.refl e1 F_coder_a0b (g := mkF m 7 #[vr a0b] [(.ref a0b)]) rfl rfl (dG hby D24 3 rfl)
  obtain ⟨fs, hr, hrun, hended, hW, hsame⟩ := X2.leave (v := some (.int 0)) (fun h => by rw [Bd.returns] at h; cases h)
  refine ⟨_, _, pre0 _ ?_, hrun, hended, _, _, rfl, ?_, ⟨_, rfl⟩, hW, hsame.mono (by decide) (by decide)⟩
  · show SP p e below s₁ m 0 #[vr a0b] [] _
    refine st1 _ ?_
    show SP p e below T1 m 3 #[vr a0b] [(.int cS)] _
    refine XS.ifNo X1.here hx rfl (dG hby D24 1 rfl) rfl ((if0 _ _).trans (feq GCP).1) ?_
    refine XS.aloadN X1.here hx rfl (dG hby D24 2 rfl) rfl rfl ?_
    show SP p e below T1 m 7 #[vr a0b] [(.ref a0b)] _
    refine st2 _ ?_
    show SP p e below T2 m 10 #[vr a0b] [(.int 1)] _
    refine XS.ifYes X2.here hx rfl (pc0 := 10) (pc' := 17) rfl (dG hby D24 4 rfl) rfl ((if0 _ _).trans (feq (by decide : ¬ ((1 : Int32) = (0 : Int32)))).2) (by decide) (by decide) ?_
    refine XS.iconst X2.here hx rfl (dG hby D24 8 rfl) ?_
    show SP p e below T2 m 18 #[vr a0b] [(.int 0)] _
    exact retN X2 hx (t := .boolean) Bd.returns (by simp) (dG hby D24 7 rfl) hr
  · show Q_rmBl1 n0 Z cS vF a0b h0 _ T2.heap _
    rw [e2]
    exact ⟨rfl, N0, rfl⟩
theorem D43 : dL jdk_68_method_11_code [(0, .aload_n 0, 1), (1, .invokevirtual 83, 3), (4, .ifCond .ne 4, 3), (7, .return_, 1), (8, .aload_n 0, 1), (9, .getfield 15, 3), (12, .arraylength, 1), (13, .invokestatic 26, 3), (16, .astore_n 1, 1), (17, .aload_n 0, 1), (18, .getfield 15, 3), (21, .iconst 0, 1), (22, .aload_n 1, 1), (23, .iconst 0, 1), (24, .aload_n 0, 1), (25, .getfield 79, 3), (28, .invokestatic 125, 3), (31, .aload_n 0, 1), (32, .aload_n 1, 1), (33, .putfield 15, 3), (36, .aload_n 0, 1), (37, .iconst 1, 1), (38, .putfield 22, 3), (41, .return_, 1)] = true := by decide +kernel
abbrev MN_30 : MethodName := ⟨"java/lang/AbstractStringBuilder", "inflate", "()V"⟩
theorem ef_rmFl1 (m : MethodId) (a0b : Addr) : entryFrame m #[(.ref a0b)] 2 = mkF m 0 #[vr a0b, .unset] [] := by first | (simp [entryFrame, mkF, argsToLocals, Value.category]; done) | rfl
def Q_rmFl1 (n0 : Nat) (Z : State) (cS : Int32) (vF : Value) (a0b : Addr) (h0 : Heap) (v : Option Value) (h : Heap) (L : List Loc) : Prop := v = none ∧ Fr n0 L ∧ h = h0
theorem rmFl1 (l : Launch) (Z : State) (a0 : Array Value) (hw : ∀ d ∈ tables_1, d.before a0 Z = true) (ws : List Jvm.Cond) (cS : Int32) (vF : Value) (a0b : Addr) (h0 : Heap) (n0 : Nat) (O0 : Old Z n0 h0) (GL : GF Z cS vF) (E_a0b : Exa Z h0 a0b "java/lang/StringBuilder") (F_coder_a0b : Fld Z h0 a0b "java/lang/AbstractStringBuilder" "coder" "B" (.int 1)) :
    MF l MN_30 jdk_68_method_11_code 2 none ws (Rm 1 0 0 12) #[(.ref a0b)] Z h0 (Q_rmFl1 n0 Z cS vF a0b h0) := by
  refine MetFree.of_bodySF (plainFor_of_name pnv4) hisR ?_
  intro p e s m args below meth c s₁ Bd hml0 hP hK
  obtain ⟨rfl, hZ, hh⟩ := hP
  have hx := Bd.exec
  have hby := Bd.bytes
  have hml : c.maxLocals = 2 := hml0
  have hown : s.vm.findClass "java/lang/AbstractStringBuilder" = some m.cls := findClass_of_methodNamed Bd.named
  have hnm := (name_of_methodNamed Bd.named Bd.method).1
  have X0 : Stand p l e (Rm 1 0 0 12) s m #[(.ref a0b)] below meth c s₁ [] 0 0 := Stand.of_body Bd
  have e0 : s₁.heap = h0 := by rw [← hh, Bd.state]; rfl
  have N0 := Fr.nil n0
  have pre0 : ∀ t, SP p e below s₁ m 0 #[vr a0b, .unset] [] t → Steps p.tables e below (s₁.setTop (entryFrame m #[(.ref a0b)] 2)) t := fun t k => castTop (ef_rmFl1 m a0b) k
  have GL' := GL
  obtain ⟨GCS, GCP, GA16, GHI, GLO, GFF, GVF⟩ := GL'
  obtain ⟨cq1, kq1, q1a, q1b, q1c⟩ := isOf hZ e0 E_a0b
  obtain ⟨_, _, ⟨T1, L1, k1, n1⟩, -, X1, ⟨Lc1, hQ1, l1, y1, z1⟩, st1⟩ := X0.virtualBack hx (y := MN_29) (z := MN_29) hown (mvT hZ (Wd hw 220 rfl)) (mvT hZ (Wd hw 141 rfl)) (notFace_of_selects (args := #[]) (mvT hZ (Wd hw 143 rfl))) (mvT hZ (Wd hw 143 rfl)) (mvT hZ (Wd hw 142 rfl)) (by decide) (backOf (W := 0) (rmBl1 l Z a0 hw [] cS vF a0b h0 n0 O0 GL E_a0b F_coder_a0b) hZ (Wd hw 144 rfl) (Wd hw 58 rfl) (by decide) (by decide)) q1a q1c (g := mkF m 1 #[vr a0b, .unset] [(.ref a0b)]) rfl (by rw [hml]; rfl) (Steps.refl _) (argsL := []) (rest := []) (lenOf pdv6 rfl) rfl (by show 2 * 0 + _ ≤ _; exact lEq rfl) (dG hby D43 1 rfl) (fun _ _ => ⟨rfl, e0, (by decide : 0 + 0 ≤ _), (by decide : 0 + 0 ≤ _)⟩)
  dsimp only [Pt.U, Pt.locs, Pt.cells, Pt.slots] at X1 l1 y1 z1 st1 hQ1
  subst l1 y1 z1
  obtain ⟨rfl, N1q, e1⟩ := hQ1
  have N1 := Fr.app N0 N1q
  obtain ⟨fs, hr, hrun, hended, hW, hsame⟩ := X1.leave (v := none) (fun _ => rfl)
  refine ⟨_, _, pre0 _ ?_, hrun, hended, _, _, rfl, ?_, ⟨_, rfl⟩, hW, hsame.mono (by decide) (by decide)⟩
  · show SP p e below s₁ m 0 #[vr a0b, .unset] [] _
    refine XS.aloadN X0.here hx rfl (dG hby D43 0 rfl) rfl rfl ?_
    show SP p e below s₁ m 1 #[vr a0b, .unset] [(.ref a0b)] _
    refine st1.trans ?_
    show SP p e below T1 m 4 #[vr a0b, .unset] [(.int 0)] _
    refine XS.ifNo X1.here hx rfl (dG hby D43 2 rfl) rfl ((if0 _ _).trans (teq (by decide : (0 : Int32) = (0 : Int32))).2) ?_
    show SP p e below T1 m 7 #[vr a0b, .unset] [] _
    exact X1.returnOut hx Bd.returns (dG hby D43 3 rfl) hr
  · show Q_rmFl1 n0 Z cS vF a0b h0 _ T1.heap _
    rw [e1]
    exact ⟨rfl, N1, rfl⟩
def Q_rmFl0 (n0 : Nat) (Z : State) (cS : Int32) (vF : Value) (a0b : Addr) (y : Addr) (ky : ClassId) (bs : List Value) (bn : Nat) (bf : Nat → Int32) (h0 : Heap) (v : Option Value) (h : Heap) (L : List Loc) : Prop := ∃ yw : Addr, ∃ kw : ClassId, ∃ zs : List Value, v = none ∧ Fr n0 L ∧ Keep h0 h [a0b] ∧ (h0.size ≤ yw) ∧ (Exa Z h yw "[B") ∧ (Exa Z h a0b "java/lang/StringBuilder") ∧ (Fld Z h a0b "java/lang/AbstractStringBuilder" "value" "[B" (.ref yw)) ∧ (Fld Z h a0b "java/lang/AbstractStringBuilder" "coder" "B" (.int 1)) ∧ (Fld Z h a0b "java/lang/AbstractStringBuilder" "count" "I" (.int (own_n bn))) ∧ (Fld Z h a0b "java/lang/AbstractStringBuilder" "maybeLatin1" "Z" (.int 0)) ∧ (Arv Z h yw kw .byte (32 : Int32) (own_inf zs 0 bf bn) (.int 0)) ∧ (zs.length = 32)
theorem rmFl0 (l : Launch) (Z : State) (a0 : Array Value) (hw : ∀ d ∈ tables_1, d.before a0 Z = true) (ws : List Jvm.Cond) (cS : Int32) (vF : Value) (a0b : Addr) (y : Addr) (ky : ClassId) (bs : List Value) (bn : Nat) (bf : Nat → Int32) (h0 : Heap) (n0 : Nat) (O0 : Old Z n0 h0) (GL : GF Z cS vF) (E_a0b : Exa Z h0 a0b "java/lang/StringBuilder") (F_value_a0b : Fld Z h0 a0b "java/lang/AbstractStringBuilder" "value" "[B" (.ref y)) (F_coder_a0b : Fld Z h0 a0b "java/lang/AbstractStringBuilder" "coder" "B" (.int 0)) (F_count_a0b : Fld Z h0 a0b "java/lang/AbstractStringBuilder" "count" "I" (.int (own_n bn))) (F_maybeLatin1_a0b : Fld Z h0 a0b "java/lang/AbstractStringBuilder" "maybeLatin1" "Z" (.int 0)) (V_y : Arv Z h0 y ky .byte (16 : Int32) bs (.int 0)) (hbx : own_L bs bn bf) (hbl : bs.length = 16) (hb5 : bn ≤ 5) (g_a0b : n0 ≤ a0b) :
    MF l MN_30 jdk_68_method_11_code 2 none ws (Rm 5 1 32 76) #[(.ref a0b)] Z h0 (Q_rmFl0 n0 Z cS vF a0b y ky bs bn bf h0) := by
  refine MetFree.of_bodySF (plainFor_of_name pnv4) hisR ?_
  intro p e s m args below meth c s₁ Bd hml0 hP hK
  obtain ⟨rfl, hZ, hh⟩ := hP
  have hx := Bd.exec
  have hby := Bd.bytes
  have hml : c.maxLocals = 2 := hml0
  have hown : s.vm.findClass "java/lang/AbstractStringBuilder" = some m.cls := findClass_of_methodNamed Bd.named
  have hnm := (name_of_methodNamed Bd.named Bd.method).1
  have X0 : Stand p l e (Rm 5 1 32 76) s m #[(.ref a0b)] below meth c s₁ [] 0 0 := Stand.of_body Bd
  have e0 : s₁.heap = h0 := by rw [← hh, Bd.state]; rfl
  have N0 := Fr.nil n0
  have pre0 : ∀ t, SP p e below s₁ m 0 #[vr a0b, .unset] [] t → Steps p.tables e below (s₁.setTop (entryFrame m #[(.ref a0b)] 2)) t := fun t k => castTop (ef_rmFl1 m a0b) k
  have GL' := GL
  obtain ⟨GCS, GCP, GA16, GHI, GLO, GFF, GVF⟩ := GL'
  obtain ⟨cq1, kq1, q1a, q1b, q1c⟩ := isOf hZ e0 E_a0b
  obtain ⟨_, _, ⟨T1, L1, k1, n1⟩, -, X1, ⟨Lc1, hQ1, l1, y1, z1⟩, st1⟩ := X0.virtualBack hx (y := MN_29) (z := MN_29) hown (mvT hZ (Wd hw 220 rfl)) (mvT hZ (Wd hw 141 rfl)) (notFace_of_selects (args := #[]) (mvT hZ (Wd hw 143 rfl))) (mvT hZ (Wd hw 143 rfl)) (mvT hZ (Wd hw 142 rfl)) (by decide) (backOf (W := 0) (rmBl0 l Z a0 hw [] cS vF a0b h0 n0 O0 GL E_a0b F_coder_a0b) hZ (Wd hw 144 rfl) (Wd hw 58 rfl) (by decide) (by decide)) q1a q1c (g := mkF m 1 #[vr a0b, .unset] [(.ref a0b)]) rfl (by rw [hml]; rfl) (Steps.refl _) (argsL := []) (rest := []) (lenOf pdv6 rfl) rfl (by show 2 * 0 + _ ≤ _; exact lEq rfl) (dG hby D43 1 rfl) (fun _ _ => ⟨rfl, e0, (by decide : 0 + 0 ≤ _), (by decide : 0 + 0 ≤ _)⟩)
  dsimp only [Pt.U, Pt.locs, Pt.cells, Pt.slots] at X1 l1 y1 z1 st1 hQ1
  subst l1 y1 z1
  obtain ⟨rfl, N1q, e1⟩ := hQ1
  have N1 := Fr.app N0 N1q
  obtain ⟨T2, X2, e2, st2⟩ := getF X1 hx hZ hown (host := "") (Or.inl (Wd hw 62 rfl)) Via.refl e1 F_value_a0b (g := mkF m 9 #[vr a0b, .unset] [(.ref a0b)]) rfl rfl (dG hby D43 5 rfl)
  obtain ⟨cl3, Ar3, -, S3, N3_, -, -⟩ := id (V_y)
  obtain ⟨_, _, ⟨T4, L4, k4, n4⟩, -, X4, ⟨Lc4, hQ4, l4, y4, z4⟩, st4⟩ := Jvm.LawKit.callS X2 hx (y := MN_18) hown (mvT hZ (Wd hw 221 rfl)) (mvT hZ (Wd hw 200 rfl)) (mvT hZ (Wd hw 188 rfl)) (mvT hZ (Wd hw 201 rfl)) (by decide) (backOf (W := 0) (rmNbf l Z a0 hw [] cS vF 16 h0 n0 O0 GL (by decide)) hZ (Wd hw 201 rfl) (Wd hw 188 rfl) (by decide) (by decide)) (g := mkF m 13 #[vr a0b, .unset] [(.int 16)]) rfl (by rw [hml]; rfl) (argsL := [(.int 16)]) (rest := []) (lenOf pdv13 rfl) rfl (by show 2 * 0 + _ ≤ _; exact lEq rfl) (dG hby D43 7 rfl) (fun _ _ => ⟨rfl, e2, (by decide : 0 + 1 ≤ _), (by decide : 0 + 32 ≤ _)⟩)
  dsimp only [Pt.U, Pt.locs, Pt.cells, Pt.slots] at X4 l4 y4 z4 st4 hQ4
  subst l4 y4 z4
  obtain ⟨b_4, kb_4, zs_4, rfl, N4q, Kc4, P4_0, P4_1, P4_2, P4_3⟩ := hQ4
  have K4 : Keep h0 T4.heap [a0b] := (Keep.refl h0 [a0b]).trans Kc4 all0
  have O4 := O0.keep Kc4 all0
  have g_b_4 : n0 ≤ b_4 := lTr (own_sz O0) P4_0
  have sz_b_4 : h0.size ≤ b_4 := lTr (Keep.refl h0 [a0b]).1 P4_0
  have N4 := Fr.app N1 N4q
  obtain ⟨T5, X5, e5, st5⟩ := getF X4 hx hZ hown (host := "") (Or.inl (Wd hw 62 rfl)) Via.refl rfl (F_value_a0b.keep Kc4 nin0) (g := mkF m 18 #[vr a0b, vr b_4] [(.ref a0b)]) rfl rfl (dG hby D43 10 rfl)
  obtain ⟨T6, X6, e6, st6⟩ := getF X5 hx hZ hown (host := "") (Or.inl (Wd hw 87 rfl)) Via.refl e5 (F_count_a0b.keep Kc4 nin0) (g := mkF m 25 #[vr a0b, vr b_4] [(.ref a0b), (.int 0), (.ref b_4), (.int 0), (.ref y)]) rfl rfl (dG hby D43 15 rfl)
  obtain ⟨_, _, ⟨T7, L7, k7, n7⟩, -, X7, ⟨Lc7, hQ7, l7, y7, z7⟩, st7⟩ := Jvm.LawKit.callS X6 hx (y := MN_16) hown (mvT hZ (Wd hw 222 rfl)) (mvT hZ (Wd hw 223 rfl)) (mvT hZ (Wd hw 176 rfl)) (mvT hZ (Wd hw 224 rfl)) (by decide) (backOf (W := 0) (rmInL l Z a0 hw [] cS vF y b_4 ky ((16 : Int32)) bs bf kb_4 zs_4 0 bn (T4.heap) n0 O4 GL (V_y.keep Kc4 nin0) P4_2 P4_3 g_b_4 (nLt (lLt V_y.lt P4_0)) hbx hb5 (by omega) (by show bn ≤ 16; omega) (by decide)) hZ (Wd hw 224 rfl) (Wd hw 176 rfl) (by decide) (by decide)) (g := mkF m 28 #[vr a0b, vr b_4] [(.int (own_n bn)), (.int 0), (.ref b_4), (.int 0), (.ref y)]) rfl (by rw [hml]; rfl) (argsL := [(.ref y), (.int 0), (.ref b_4), (.int 0), (.int (own_n bn))]) (rest := []) (lenOf pdv11 rfl) rfl (by show 2 * 0 + _ ≤ _; exact lEq rfl) (dG hby D43 16 rfl) (fun _ _ => ⟨rfl, e6, (by decide : 1 + 0 ≤ _), (by decide : 32 + 0 ≤ _)⟩)
  dsimp only [Pt.U, Pt.locs, Pt.cells, Pt.slots] at X7 l7 y7 z7 st7 hQ7
  subst l7 y7 z7
  obtain ⟨rfl, N7q, Kc7, P7_0⟩ := hQ7
  have K7 : Keep h0 T7.heap [a0b] := K4.trans Kc7 (allS (Or.inr sz_b_4) all0)
  have O7 := O4.keep Kc7 (allS g_b_4 all0)
  have N7 := Fr.app N4 N7q
  obtain ⟨T8, h8, X8, e8, W8, st8⟩ := putF X7 hx hZ hown (host := "") (Or.inl (Wd hw 62 rfl)) Via.refl rfl ((F_value_a0b.keep Kc4 nin0).keep Kc7 (ninS (nLt (lLt E_a0b.lt P4_0)) nin0)) ((E_a0b.keep Kc4).keep Kc7) (Or.inl (Wd hw 63 rfl)) (Wd hw 49 rfl) (ty := (.array .byte)) (by decide) rfl rfl (g := mkF m 33 #[vr a0b, vr b_4] [(.ref b_4), (.ref a0b)]) rfl rfl (dG hby D43 19 rfl)
  have Fw8 := ((F_value_a0b.keep Kc4 nin0).keep Kc7 (ninS (nLt (lLt E_a0b.lt P4_0)) nin0)).same W8
  have K8 : Keep h0 h8 [a0b] := K7.wr W8 (Or.inl (List.mem_of_getElem? (i := 0) rfl))
  have O8 := O7.wr W8 g_a0b
  have N8 := Fr.snoc X8 N7 g_a0b
  obtain ⟨T9, h9, X9, e9, W9, st9⟩ := putFN X8 hx hZ hown (Wd hw 64 rfl) Via.refl e8 (((F_coder_a0b.keep Kc4 nin0).keep Kc7 (ninS (nLt (lLt E_a0b.lt P4_0)) nin0)).other W8 (Or.inr (slot_ne (a0 := a0) (Or.inl (Wd hw 65 rfl)) (Or.inl (Wd hw 63 rfl)) (by decide) (t := .byte) (t' := (.array .byte)) (by decide) (by decide)))) (((E_a0b.keep Kc4).keep Kc7).wr W8) (Or.inl (Wd hw 65 rfl)) (Wd hw 49 rfl) (ty := .byte) (v' := (.int 1)) (by decide) rfl (by decide) (g := mkF m 38 #[vr a0b, vr b_4] [(.int 1), (.ref a0b)]) rfl rfl (dG hby D43 22 rfl)
  have Fw9 := (((F_coder_a0b.keep Kc4 nin0).keep Kc7 (ninS (nLt (lLt E_a0b.lt P4_0)) nin0)).other W8 (Or.inr (slot_ne (a0 := a0) (Or.inl (Wd hw 65 rfl)) (Or.inl (Wd hw 63 rfl)) (by decide) (t := .byte) (t' := (.array .byte)) (by decide) (by decide)))).same W9
  have K9 : Keep h0 h9 [a0b] := K8.wr W9 (Or.inl (List.mem_of_getElem? (i := 0) rfl))
  have O9 := O8.wr W9 g_a0b
  have N9 := Fr.snoc X9 N8 g_a0b
  obtain ⟨fs, hr, hrun, hended, hW, hsame⟩ := X9.leave (v := none) (fun _ => rfl)
  refine ⟨_, _, pre0 _ ?_, hrun, hended, _, _, rfl, ?_, ⟨_, rfl⟩, hW, hsame.mono (by decide) (by decide)⟩
  · show SP p e below s₁ m 0 #[vr a0b, .unset] [] _
    refine XS.aloadN X0.here hx rfl (dG hby D43 0 rfl) rfl rfl ?_
    show SP p e below s₁ m 1 #[vr a0b, .unset] [(.ref a0b)] _
    refine st1.trans ?_
    show SP p e below T1 m 4 #[vr a0b, .unset] [(.int 1)] _
    refine XS.ifYes X1.here hx rfl (pc0 := 4) (pc' := 8) rfl (dG hby D43 2 rfl) rfl ((if0 _ _).trans (feq (by decide : ¬ ((1 : Int32) = (0 : Int32)))).2) (by decide) (by decide) ?_
    refine XS.aloadN X1.here hx rfl (dG hby D43 4 rfl) rfl rfl ?_
    show SP p e below T1 m 9 #[vr a0b, .unset] [(.ref a0b)] _
    refine st2 _ ?_
    show SP p e below T2 m 12 #[vr a0b, .unset] [(.ref y)] _
    refine X2.arraylength hx (by rw [e2]; exact Ar3.1) (State.isArrayOf_alike hZ.alike Ar3.2.1) (g := mkF m 12 #[vr a0b, .unset] [(.ref y)]) rfl rfl (dG hby D43 6 rfl) _ ?_
    rw [len_of S3 N3_]
    show SP p e below T2 m 13 #[vr a0b, .unset] [(.int 16)] _
    refine st4 _ ?_
    show SP p e below T4 m 16 #[vr a0b, .unset] [(.ref b_4)] _
    refine XS.astoreN X4.here hx rfl (dG hby D43 8 rfl) rfl rfl (l' := #[vr a0b, vr b_4]) rfl ?_
    refine XS.aloadN X4.here hx rfl (dG hby D43 9 rfl) rfl rfl ?_
    show SP p e below T4 m 18 #[vr a0b, vr b_4] [(.ref a0b)] _
    refine st5 _ ?_
    show SP p e below T5 m 21 #[vr a0b, vr b_4] [(.ref y)] _
    refine XS.iconst X5.here hx rfl (dG hby D43 11 rfl) ?_
    refine XS.aloadN X5.here hx rfl (dG hby D43 12 rfl) rfl rfl ?_
    refine XS.iconst X5.here hx rfl (dG hby D43 13 rfl) ?_
    refine XS.aloadN X5.here hx rfl (dG hby D43 14 rfl) rfl rfl ?_
    show SP p e below T5 m 25 #[vr a0b, vr b_4] [(.ref a0b), (.int 0), (.ref b_4), (.int 0), (.ref y)] _
    refine st6 _ ?_
    show SP p e below T6 m 28 #[vr a0b, vr b_4] [(.int (own_n bn)), (.int 0), (.ref b_4), (.int 0), (.ref y)] _
    refine st7 _ ?_
    show SP p e below T7 m 31 #[vr a0b, vr b_4] [] _
    refine XS.aloadN X7.here hx rfl (dG hby D43 17 rfl) rfl rfl ?_
    refine XS.aloadN X7.here hx rfl (dG hby D43 18 rfl) rfl rfl ?_
    show SP p e below T7 m 33 #[vr a0b, vr b_4] [(.ref b_4), (.ref a0b)] _
    refine st8 _ ?_
    show SP p e below T8 m 36 #[vr a0b, vr b_4] [] _
    refine XS.aloadN X8.here hx rfl (dG hby D43 20 rfl) rfl rfl ?_
    refine XS.iconst X8.here hx rfl (dG hby D43 21 rfl) ?_
    show SP p e below T8 m 38 #[vr a0b, vr b_4] [(.int 1), (.ref a0b)] _
    refine st9 _ ?_
    show SP p e below T9 m 41 #[vr a0b, vr b_4] [] _
    exact X9.returnOut hx Bd.returns (dG hby D43 23 rfl) hr
  · show Q_rmFl0 n0 Z cS vF a0b y ky bs bn bf h0 _ T9.heap _
    rw [e9]
    exact ⟨b_4, kb_4, zs_4, rfl, N9, K9, sz_b_4, (((P4_1.keep Kc7).wr W8).wr W9), ((((E_a0b.keep Kc4).keep Kc7).wr W8).wr W9), (Fw8.other W9 (Or.inr (slot_ne (a0 := a0) (Or.inl (Wd hw 63 rfl)) (Or.inl (Wd hw 65 rfl)) (by decide) (t := (.array .byte)) (t' := .byte) (by decide) (by decide)))), Fw9, ((((F_count_a0b.keep Kc4 nin0).keep Kc7 (ninS (nLt (lLt E_a0b.lt P4_0)) nin0)).other W8 (Or.inr (slot_ne (a0 := a0) (Or.inl (Wd hw 88 rfl)) (Or.inl (Wd hw 63 rfl)) (by decide) (t := .int) (t' := (.array .byte)) (by decide) (by decide)))).other W9 (Or.inr (slot_ne (a0 := a0) (Or.inl (Wd hw 88 rfl)) (Or.inl (Wd hw 65 rfl)) (by decide) (t := .int) (t' := .byte) (by decide) (by decide)))), ((((F_maybeLatin1_a0b.keep Kc4 nin0).keep Kc7 (ninS (nLt (lLt E_a0b.lt P4_0)) nin0)).other W8 (Or.inr (slot_ne (a0 := a0) (Or.inl (Wd hw 242 rfl)) (Or.inl (Wd hw 63 rfl)) (by decide) (t := .boolean) (t' := (.array .byte)) (by decide) (by decide)))).other W9 (Or.inr (slot_ne (a0 := a0) (Or.inl (Wd hw 242 rfl)) (Or.inl (Wd hw 65 rfl)) (by decide) (t := .boolean) (t' := .byte) (by decide) (by decide)))), ((P7_0.other W8 (Ne.symm (nLt (lLt E_a0b.lt P4_0)))).other W9 (Ne.symm (nLt (lLt E_a0b.lt P4_0)))), P4_3⟩
theorem D16 : dL jdk_68_method_71_code [(0, .getstatic 18, 3), (3, .ifCond .eq 18, 3), (6, .aload_n 0, 1), (7, .getfield 22, 3), (10, .aload_n 1, 1), (11, .invokevirtual 40, 3), (14, .if_icmp .eq 7, 3), (21, .return_, 1), (17, .aload_n 0, 1), (18, .invokevirtual 195, 3)] = true := by decide +kernel
abbrev MN_31 : MethodName := ⟨"java/lang/AbstractStringBuilder", "inflateIfNeededFor", "(Ljava/lang/String;)V"⟩
theorem ef_rmIf00 (m : MethodId) (a0b : Addr) (a1s : Addr) : entryFrame m #[(.ref a0b), (.ref a1s)] 2 = mkF m 0 #[vr a0b, vr a1s] [] := by first | (simp [entryFrame, mkF, argsToLocals, Value.category]; done) | rfl
def Q_rmIf00 (n0 : Nat) (Z : State) (cS : Int32) (vF : Value) (a0b : Addr) (a1s : Addr) (h0 : Heap) (v : Option Value) (h : Heap) (L : List Loc) : Prop := v = none ∧ Fr n0 L ∧ h = h0
theorem rmIf00 (l : Launch) (Z : State) (a0 : Array Value) (hw : ∀ d ∈ tables_1, d.before a0 Z = true) (ws : List Jvm.Cond) (cS : Int32) (vF : Value) (a0b : Addr) (a1s : Addr) (h0 : Heap) (n0 : Nat) (O0 : Old Z n0 h0) (GL : GF Z cS vF) (E_a0b : Exa Z h0 a0b "java/lang/StringBuilder") (F_coder_a0b : Fld Z h0 a0b "java/lang/AbstractStringBuilder" "coder" "B" (.int 0)) (F_coder_a1s : Fld Z h0 a1s "java/lang/String" "coder" "B" (.int 0)) (E_a1s : Exa Z h0 a1s "java/lang/String") :
    MF l MN_31 jdk_68_method_71_code 2 none ws (Rm 1 0 0 13) #[(.ref a0b), (.ref a1s)] Z h0 (Q_rmIf00 n0 Z cS vF a0b a1s h0) := by
  refine MetFree.of_bodySF (plainFor_of_name pnv4) hisR ?_
  intro p e s m args below meth c s₁ Bd hml0 hP hK
  obtain ⟨rfl, hZ, hh⟩ := hP
  have hx := Bd.exec
  have hby := Bd.bytes
  have hml : c.maxLocals = 2 := hml0
  have hown : s.vm.findClass "java/lang/AbstractStringBuilder" = some m.cls := findClass_of_methodNamed Bd.named
  have hnm := (name_of_methodNamed Bd.named Bd.method).1
  have X0 : Stand p l e (Rm 1 0 0 13) s m #[(.ref a0b), (.ref a1s)] below meth c s₁ [] 0 0 := Stand.of_body Bd
  have e0 : s₁.heap = h0 := by rw [← hh, Bd.state]; rfl
  have N0 := Fr.nil n0
  have pre0 : ∀ t, SP p e below s₁ m 0 #[vr a0b, vr a1s] [] t → Steps p.tables e below (s₁.setTop (entryFrame m #[(.ref a0b), (.ref a1s)] 2)) t := fun t k => castTop (ef_rmIf00 m a0b a1s) k
  have GL' := GL
  obtain ⟨GCS, GCP, GA16, GHI, GLO, GFF, GVF⟩ := GL'
  obtain ⟨T1, X1, e1, st1⟩ := getS2 X0 hx hZ hown (host := "") (Or.inl (Wd hw 61 rfl)) Via.refl e0 (GCS.ext O0.2) (g := mkF m 0 #[vr a0b, vr a1s] []) rfl (dG hby D16 0 rfl)
  obtain ⟨T2, X2, e2, st2⟩ := getF X1 hx hZ hown (host := "") (Or.inl (Wd hw 64 rfl)) Via.refl e1 F_coder_a0b (g := mkF m 7 #[vr a0b, vr a1s] [(.ref a0b)]) rfl rfl (dG hby D16 3 rfl)
  obtain ⟨cq3, kq3, q3a, q3b, q3c⟩ := isOf hZ e2 E_a1s
  obtain ⟨_, _, ⟨T3, L3, k3, n3⟩, -, X3, ⟨Lc3, hQ3, l3, y3, z3⟩, st3⟩ := X2.virtualBack hx (y := MN_0) (z := MN_0) hown (mvT hZ (Wd hw 104 rfl)) (mvT hZ (Wd hw 82 rfl)) (notFace_of_selects (args := #[]) (mvT hZ (Wd hw 84 rfl))) (mvT hZ (Wd hw 84 rfl)) (mvT hZ (Wd hw 83 rfl)) (by decide) (backOf (W := 1) (rmCod0 l Z a0 hw [] cS vF a1s h0 n0 O0 GL F_coder_a1s) hZ (Wd hw 85 rfl) (Wd hw 11 rfl) (by decide) (by decide)) q3a q3c (g := mkF m 11 #[vr a0b, vr a1s] [(.ref a1s), (.int 0)]) rfl (by rw [hml]; rfl) (Steps.refl _) (argsL := []) (rest := [(.int 0)]) (lenOf pd rfl) rfl (by show 2 * 0 + _ ≤ _; exact lEq rfl) (dG hby D16 5 rfl) (fun _ _ => ⟨rfl, e2, (by decide : 0 + 0 ≤ _), (by decide : 0 + 0 ≤ _)⟩)
  dsimp only [Pt.U, Pt.locs, Pt.cells, Pt.slots] at X3 l3 y3 z3 st3 hQ3
  subst l3 y3 z3
  obtain ⟨rfl, N3q, e3⟩ := hQ3
  have N3 := Fr.app N0 N3q
  obtain ⟨fs, hr, hrun, hended, hW, hsame⟩ := X3.leave (v := none) (fun _ => rfl)
  refine ⟨_, _, pre0 _ ?_, hrun, hended, _, _, rfl, ?_, ⟨_, rfl⟩, hW, hsame.mono (by decide) (by decide)⟩
  · show SP p e below s₁ m 0 #[vr a0b, vr a1s] [] _
    refine st1 _ ?_
    show SP p e below T1 m 3 #[vr a0b, vr a1s] [(.int cS)] _
    refine XS.ifNo X1.here hx rfl (dG hby D16 1 rfl) rfl ((if0 _ _).trans (feq GCP).1) ?_
    refine XS.aloadN X1.here hx rfl (dG hby D16 2 rfl) rfl rfl ?_
    show SP p e below T1 m 7 #[vr a0b, vr a1s] [(.ref a0b)] _
    refine st2 _ ?_
    show SP p e below T2 m 10 #[vr a0b, vr a1s] [(.int 0)] _
    refine XS.aloadN X2.here hx rfl (dG hby D16 4 rfl) rfl rfl ?_
    show SP p e below T2 m 11 #[vr a0b, vr a1s] [(.ref a1s), (.int 0)] _
    refine st3.trans ?_
    show SP p e below T3 m 14 #[vr a0b, vr a1s] [(.int 0), (.int 0)] _
    refine XS.icmpYes X3.here hx rfl (pc0 := 14) (pc' := 21) rfl (dG hby D16 6 rfl) rfl (teq (by decide : (0 : Int32) = (0 : Int32))).1 (by decide) (by decide) ?_
    show SP p e below T3 m 21 #[vr a0b, vr a1s] [] _
    exact X3.returnOut hx Bd.returns (dG hby D16 7 rfl) hr
  · show Q_rmIf00 n0 Z cS vF a0b a1s h0 _ T3.heap _
    rw [e3]
    exact ⟨rfl, N3, rfl⟩
theorem pdv19 : parseMethodDescriptor "()V" = some ⟨[], none⟩ := by decide +kernel
def Q_rmIf01 (n0 : Nat) (Z : State) (cS : Int32) (vF : Value) (a0b : Addr) (a1s : Addr) (y : Addr) (ky : ClassId) (bs : List Value) (bn : Nat) (bf : Nat → Int32) (h0 : Heap) (v : Option Value) (h : Heap) (L : List Loc) : Prop := ∃ yw : Addr, ∃ kw : ClassId, ∃ zs : List Value, v = none ∧ Fr n0 L ∧ Keep h0 h [a0b] ∧ (h0.size ≤ yw) ∧ (Exa Z h yw "[B") ∧ (Exa Z h a0b "java/lang/StringBuilder") ∧ (Fld Z h a0b "java/lang/AbstractStringBuilder" "value" "[B" (.ref yw)) ∧ (Fld Z h a0b "java/lang/AbstractStringBuilder" "coder" "B" (.int 1)) ∧ (Fld Z h a0b "java/lang/AbstractStringBuilder" "count" "I" (.int (own_n bn))) ∧ (Fld Z h a0b "java/lang/AbstractStringBuilder" "maybeLatin1" "Z" (.int 0)) ∧ (Arv Z h yw kw .byte (32 : Int32) (own_inf zs 0 bf bn) (.int 0)) ∧ (zs.length = 32)
theorem rmIf01 (l : Launch) (Z : State) (a0 : Array Value) (hw : ∀ d ∈ tables_1, d.before a0 Z = true) (ws : List Jvm.Cond) (cS : Int32) (vF : Value) (a0b : Addr) (a1s : Addr) (y : Addr) (ky : ClassId) (bs : List Value) (bn : Nat) (bf : Nat → Int32) (h0 : Heap) (n0 : Nat) (O0 : Old Z n0 h0) (GL : GF Z cS vF) (E_a0b : Exa Z h0 a0b "java/lang/StringBuilder") (F_value_a0b : Fld Z h0 a0b "java/lang/AbstractStringBuilder" "value" "[B" (.ref y)) (F_coder_a0b : Fld Z h0 a0b "java/lang/AbstractStringBuilder" "coder" "B" (.int 0)) (F_count_a0b : Fld Z h0 a0b "java/lang/AbstractStringBuilder" "count" "I" (.int (own_n bn))) (F_maybeLatin1_a0b : Fld Z h0 a0b "java/lang/AbstractStringBuilder" "maybeLatin1" "Z" (.int 0)) (V_y : Arv Z h0 y ky .byte (16 : Int32) bs (.int 0)) (hbx : own_L bs bn bf) (hbl : bs.length = 16) (hb5 : bn ≤ 5) (g_a0b : n0 ≤ a0b) (F_coder_a1s : Fld Z h0 a1s "java/lang/String" "coder" "B" (.int 1)) (E_a1s : Exa Z h0 a1s "java/lang/String") :
    MF l MN_31 jdk_68_method_71_code 2 none ws (Rm 6 1 32 89) #[(.ref a0b), (.ref a1s)] Z h0 (Q_rmIf01 n0 Z cS vF a0b a1s y ky bs bn bf h0) := by
  refine MetFree.of_bodySF (plainFor_of_name pnv4) hisR ?_
  intro p e s m args below meth c s₁ Bd hml0 hP hK
  obtain ⟨rfl, hZ, hh⟩ := hP
  have hx := Bd.exec
  have hby := Bd.bytes
  have hml : c.maxLocals = 2 := hml0
  have hown : s.vm.findClass "java/lang/AbstractStringBuilder" = some m.cls := findClass_of_methodNamed Bd.named
  have hnm := (name_of_methodNamed Bd.named Bd.method).1
  have X0 : Stand p l e (Rm 6 1 32 89) s m #[(.ref a0b), (.ref a1s)] below meth c s₁ [] 0 0 := Stand.of_body Bd
  have e0 : s₁.heap = h0 := by rw [← hh, Bd.state]; rfl
  have N0 := Fr.nil n0
  have pre0 : ∀ t, SP p e below s₁ m 0 #[vr a0b, vr a1s] [] t → Steps p.tables e below (s₁.setTop (entryFrame m #[(.ref a0b), (.ref a1s)] 2)) t := fun t k => castTop (ef_rmIf00 m a0b a1s) k
  have GL' := GL
  obtain ⟨GCS, GCP, GA16, GHI, GLO, GFF, GVF⟩ := GL'
  obtain ⟨T1, X1, e1, st1⟩ := getS2 X0 hx hZ hown (host := "") (Or.inl (Wd hw 61 rfl)) Via.refl e0 (GCS.ext O0.2) (g := mkF m 0 #[vr a0b, vr a1s] []) rfl (dG hby D16 0 rfl)
  obtain ⟨T2, X2, e2, st2⟩ := getF X1 hx hZ hown (host := "") (Or.inl (Wd hw 64 rfl)) Via.refl e1 F_coder_a0b (g := mkF m 7 #[vr a0b, vr a1s] [(.ref a0b)]) rfl rfl (dG hby D16 3 rfl)
  obtain ⟨cq3, kq3, q3a, q3b, q3c⟩ := isOf hZ e2 E_a1s
  obtain ⟨_, _, ⟨T3, L3, k3, n3⟩, -, X3, ⟨Lc3, hQ3, l3, y3, z3⟩, st3⟩ := X2.virtualBack hx (y := MN_0) (z := MN_0) hown (mvT hZ (Wd hw 104 rfl)) (mvT hZ (Wd hw 82 rfl)) (notFace_of_selects (args := #[]) (mvT hZ (Wd hw 84 rfl))) (mvT hZ (Wd hw 84 rfl)) (mvT hZ (Wd hw 83 rfl)) (by decide) (backOf (W := 1) (rmCod1 l Z a0 hw [] cS vF a1s h0 n0 O0 GL F_coder_a1s) hZ (Wd hw 85 rfl) (Wd hw 11 rfl) (by decide) (by decide)) q3a q3c (g := mkF m 11 #[vr a0b, vr a1s] [(.ref a1s), (.int 0)]) rfl (by rw [hml]; rfl) (Steps.refl _) (argsL := []) (rest := [(.int 0)]) (lenOf pd rfl) rfl (by show 2 * 0 + _ ≤ _; exact lEq rfl) (dG hby D16 5 rfl) (fun _ _ => ⟨rfl, e2, (by decide : 0 + 0 ≤ _), (by decide : 0 + 0 ≤ _)⟩)
  dsimp only [Pt.U, Pt.locs, Pt.cells, Pt.slots] at X3 l3 y3 z3 st3 hQ3
  subst l3 y3 z3
  obtain ⟨rfl, N3q, e3⟩ := hQ3
  have N3 := Fr.app N0 N3q
  obtain ⟨cq4, kq4, q4a, q4b, q4c⟩ := isOf hZ e3 E_a0b
  obtain ⟨_, _, ⟨T4, L4, k4, n4⟩, -, X4, ⟨Lc4, hQ4, l4, y4, z4⟩, st4⟩ := X3.virtualBack hx (y := MN_30) (z := MN_30) hown (mvT hZ (Wd hw 215 rfl)) (mvT hZ (own_decl (Wd hw 216 rfl) (Wd hw 219 rfl))) (own_nf (args := #[]) (mvT hZ (Wd hw 92 rfl)) rfl) (mvT hZ (Wd hw 218 rfl)) (mvT hZ (Wd hw 216 rfl)) (by decide) (backOf (W := 0) (rmFl0 l Z a0 hw [] cS vF a0b y ky bs bn bf h0 n0 O0 GL E_a0b F_value_a0b F_coder_a0b F_count_a0b F_maybeLatin1_a0b V_y hbx hbl hb5 g_a0b) hZ (Wd hw 219 rfl) (Wd hw 58 rfl) (by decide) (by decide)) q4a q4c (g := mkF m 18 #[vr a0b, vr a1s] [(.ref a0b)]) rfl (by rw [hml]; rfl) (Steps.refl _) (argsL := []) (rest := []) (lenOf pdv19 rfl) rfl (by show 2 * 0 + _ ≤ _; exact lEq rfl) (dG hby D16 9 rfl) (fun _ _ => ⟨rfl, e3, (by decide : 0 + 1 ≤ _), (by decide : 0 + 32 ≤ _)⟩)
  dsimp only [Pt.U, Pt.locs, Pt.cells, Pt.slots] at X4 l4 y4 z4 st4 hQ4
  subst l4 y4 z4
  obtain ⟨yw_4, kw_4, zs_4, rfl, N4q, Kc4, P4_0, P4_1, P4_2, P4_3, P4_4, P4_5, P4_6, P4_7, P4_8⟩ := hQ4
  have K4 : Keep h0 T4.heap [a0b] := (Keep.refl h0 [a0b]).trans Kc4 (allS (Or.inl (List.mem_of_getElem? (i := 0) rfl)) all0)
  have O4 := O0.keep Kc4 (allS g_a0b all0)
  have g_yw_4 : n0 ≤ yw_4 := lTr (own_sz O0) P4_0
  have sz_yw_4 : h0.size ≤ yw_4 := lTr (Keep.refl h0 [a0b]).1 P4_0
  have N4 := Fr.app N3 N4q
  obtain ⟨fs, hr, hrun, hended, hW, hsame⟩ := X4.leave (v := none) (fun _ => rfl)
  refine ⟨_, _, pre0 _ ?_, hrun, hended, _, _, rfl, ?_, ⟨_, rfl⟩, hW, hsame.mono (by decide) (by decide)⟩
  · show SP p e below s₁ m 0 #[vr a0b, vr a1s] [] _
    refine st1 _ ?_
    show SP p e below T1 m 3 #[vr a0b, vr a1s] [(.int cS)] _
    refine XS.ifNo X1.here hx rfl (dG hby D16 1 rfl) rfl ((if0 _ _).trans (feq GCP).1) ?_
    refine XS.aloadN X1.here hx rfl (dG hby D16 2 rfl) rfl rfl ?_
    show SP p e below T1 m 7 #[vr a0b, vr a1s] [(.ref a0b)] _
    refine st2 _ ?_
    show SP p e below T2 m 10 #[vr a0b, vr a1s] [(.int 0)] _
    refine XS.aloadN X2.here hx rfl (dG hby D16 4 rfl) rfl rfl ?_
    show SP p e below T2 m 11 #[vr a0b, vr a1s] [(.ref a1s), (.int 0)] _
    refine st3.trans ?_
    show SP p e below T3 m 14 #[vr a0b, vr a1s] [(.int 1), (.int 0)] _
    refine XS.icmpNo X3.here hx rfl (dG hby D16 6 rfl) rfl (feq (by decide : ¬ ((0 : Int32) = (1 : Int32)))).1 ?_
    refine XS.aloadN X3.here hx rfl (dG hby D16 8 rfl) rfl rfl ?_
    show SP p e below T3 m 18 #[vr a0b, vr a1s] [(.ref a0b)] _
    refine st4.trans ?_
    show SP p e below T4 m 21 #[vr a0b, vr a1s] [] _
    exact X4.returnOut hx Bd.returns (dG hby D16 7 rfl) hr
  · show Q_rmIf01 n0 Z cS vF a0b a1s y ky bs bn bf h0 _ T4.heap _
    exact ⟨yw_4, kw_4, zs_4, rfl, N4, K4, sz_yw_4, P4_1, P4_2, P4_3, P4_4, P4_5, P4_6, P4_7, P4_8⟩
def Q_rmIf10 (n0 : Nat) (Z : State) (cS : Int32) (vF : Value) (a0b : Addr) (a1s : Addr) (h0 : Heap) (v : Option Value) (h : Heap) (L : List Loc) : Prop := v = none ∧ Fr n0 L ∧ h = h0
theorem rmIf10 (l : Launch) (Z : State) (a0 : Array Value) (hw : ∀ d ∈ tables_1, d.before a0 Z = true) (ws : List Jvm.Cond) (cS : Int32) (vF : Value) (a0b : Addr) (a1s : Addr) (h0 : Heap) (n0 : Nat) (O0 : Old Z n0 h0) (GL : GF Z cS vF) (E_a0b : Exa Z h0 a0b "java/lang/StringBuilder") (F_coder_a0b : Fld Z h0 a0b "java/lang/AbstractStringBuilder" "coder" "B" (.int 1)) (F_coder_a1s : Fld Z h0 a1s "java/lang/String" "coder" "B" (.int 0)) (E_a1s : Exa Z h0 a1s "java/lang/String") :
    MF l MN_31 jdk_68_method_71_code 2 none ws (Rm 2 0 0 25) #[(.ref a0b), (.ref a1s)] Z h0 (Q_rmIf10 n0 Z cS vF a0b a1s h0) := by
  refine MetFree.of_bodySF (plainFor_of_name pnv4) hisR ?_
  intro p e s m args below meth c s₁ Bd hml0 hP hK
  obtain ⟨rfl, hZ, hh⟩ := hP
  have hx := Bd.exec
  have hby := Bd.bytes
  have hml : c.maxLocals = 2 := hml0
  have hown : s.vm.findClass "java/lang/AbstractStringBuilder" = some m.cls := findClass_of_methodNamed Bd.named
  have hnm := (name_of_methodNamed Bd.named Bd.method).1
  have X0 : Stand p l e (Rm 2 0 0 25) s m #[(.ref a0b), (.ref a1s)] below meth c s₁ [] 0 0 := Stand.of_body Bd
  have e0 : s₁.heap = h0 := by rw [← hh, Bd.state]; rfl
  have N0 := Fr.nil n0
  have pre0 : ∀ t, SP p e below s₁ m 0 #[vr a0b, vr a1s] [] t → Steps p.tables e below (s₁.setTop (entryFrame m #[(.ref a0b), (.ref a1s)] 2)) t := fun t k => castTop (ef_rmIf00 m a0b a1s) k
  have GL' := GL
  obtain ⟨GCS, GCP, GA16, GHI, GLO, GFF, GVF⟩ := GL'
  obtain ⟨T1, X1, e1, st1⟩ := getS2 X0 hx hZ hown (host := "") (Or.inl (Wd hw 61 rfl)) Via.refl e0 (GCS.ext O0.2) (g := mkF m 0 #[vr a0b, vr a1s] []) rfl (dG hby D16 0 rfl)
  obtain ⟨T2, X2, e2, st2⟩ := getF X1 hx hZ hown (host := "") (Or.inl (Wd hw 64 rfl)) Via.refl e1 F_coder_a0b (g := mkF m 7 #[vr a0b, vr a1s] [(.ref a0b)]) rfl rfl (dG hby D16 3 rfl)
  obtain ⟨cq3, kq3, q3a, q3b, q3c⟩ := isOf hZ e2 E_a1s
  obtain ⟨_, _, ⟨T3, L3, k3, n3⟩, -, X3, ⟨Lc3, hQ3, l3, y3, z3⟩, st3⟩ := X2.virtualBack hx (y := MN_0) (z := MN_0) hown (mvT hZ (Wd hw 104 rfl)) (mvT hZ (Wd hw 82 rfl)) (notFace_of_selects (args := #[]) (mvT hZ (Wd hw 84 rfl))) (mvT hZ (Wd hw 84 rfl)) (mvT hZ (Wd hw 83 rfl)) (by decide) (backOf (W := 1) (rmCod0 l Z a0 hw [] cS vF a1s h0 n0 O0 GL F_coder_a1s) hZ (Wd hw 85 rfl) (Wd hw 11 rfl) (by decide) (by decide)) q3a q3c (g := mkF m 11 #[vr a0b, vr a1s] [(.ref a1s), (.int 1)]) rfl (by rw [hml]; rfl) (Steps.refl _) (argsL := []) (rest := [(.int 1)]) (lenOf pd rfl) rfl (by show 2 * 0 + _ ≤ _; exact lEq rfl) (dG hby D16 5 rfl) (fun _ _ => ⟨rfl, e2, (by decide : 0 + 0 ≤ _), (by decide : 0 + 0 ≤ _)⟩)
  dsimp only [Pt.U, Pt.locs, Pt.cells, Pt.slots] at X3 l3 y3 z3 st3 hQ3
  subst l3 y3 z3
  obtain ⟨rfl, N3q, e3⟩ := hQ3
  have N3 := Fr.app N0 N3q
  obtain ⟨cq4, kq4, q4a, q4b, q4c⟩ := isOf hZ e3 E_a0b
  obtain ⟨_, _, ⟨T4, L4, k4, n4⟩, -, X4, ⟨Lc4, hQ4, l4, y4, z4⟩, st4⟩ := X3.virtualBack hx (y := MN_30) (z := MN_30) hown (mvT hZ (Wd hw 215 rfl)) (mvT hZ (own_decl (Wd hw 216 rfl) (Wd hw 219 rfl))) (own_nf (args := #[]) (mvT hZ (Wd hw 92 rfl)) rfl) (mvT hZ (Wd hw 218 rfl)) (mvT hZ (Wd hw 216 rfl)) (by decide) (backOf (W := 0) (rmFl1 l Z a0 hw [] cS vF a0b h0 n0 O0 GL E_a0b F_coder_a0b) hZ (Wd hw 219 rfl) (Wd hw 58 rfl) (by decide) (by decide)) q4a q4c (g := mkF m 18 #[vr a0b, vr a1s] [(.ref a0b)]) rfl (by rw [hml]; rfl) (Steps.refl _) (argsL := []) (rest := []) (lenOf pdv19 rfl) rfl (by show 2 * 0 + _ ≤ _; exact lEq rfl) (dG hby D16 9 rfl) (fun _ _ => ⟨rfl, e3, (by decide : 0 + 0 ≤ _), (by decide : 0 + 0 ≤ _)⟩)
  dsimp only [Pt.U, Pt.locs, Pt.cells, Pt.slots] at X4 l4 y4 z4 st4 hQ4
  subst l4 y4 z4
  obtain ⟨rfl, N4q, e4⟩ := hQ4
  have N4 := Fr.app N3 N4q
  obtain ⟨fs, hr, hrun, hended, hW, hsame⟩ := X4.leave (v := none) (fun _ => rfl)
  refine ⟨_, _, pre0 _ ?_, hrun, hended, _, _, rfl, ?_, ⟨_, rfl⟩, hW, hsame.mono (by decide) (by decide)⟩
  · show SP p e below s₁ m 0 #[vr a0b, vr a1s] [] _
    refine st1 _ ?_
    show SP p e below T1 m 3 #[vr a0b, vr a1s] [(.int cS)] _
    refine XS.ifNo X1.here hx rfl (dG hby D16 1 rfl) rfl ((if0 _ _).trans (feq GCP).1) ?_
    refine XS.aloadN X1.here hx rfl (dG hby D16 2 rfl) rfl rfl ?_
    show SP p e below T1 m 7 #[vr a0b, vr a1s] [(.ref a0b)] _
    refine st2 _ ?_
    show SP p e below T2 m 10 #[vr a0b, vr a1s] [(.int 1)] _
    refine XS.aloadN X2.here hx rfl (dG hby D16 4 rfl) rfl rfl ?_
    show SP p e below T2 m 11 #[vr a0b, vr a1s] [(.ref a1s), (.int 1)] _
    refine st3.trans ?_
    show SP p e below T3 m 14 #[vr a0b, vr a1s] [(.int 0), (.int 1)] _
    refine XS.icmpNo X3.here hx rfl (dG hby D16 6 rfl) rfl (feq (by decide : ¬ ((1 : Int32) = (0 : Int32)))).1 ?_
    refine XS.aloadN X3.here hx rfl (dG hby D16 8 rfl) rfl rfl ?_
    show SP p e below T3 m 18 #[vr a0b, vr a1s] [(.ref a0b)] _
    refine st4.trans ?_
    show SP p e below T4 m 21 #[vr a0b, vr a1s] [] _
    exact X4.returnOut hx Bd.returns (dG hby D16 7 rfl) hr
  · show Q_rmIf10 n0 Z cS vF a0b a1s h0 _ T4.heap _
    rw [e4]
    exact ⟨rfl, N4, rfl⟩
def Q_rmIf11 (n0 : Nat) (Z : State) (cS : Int32) (vF : Value) (a0b : Addr) (a1s : Addr) (h0 : Heap) (v : Option Value) (h : Heap) (L : List Loc) : Prop := v = none ∧ Fr n0 L ∧ h = h0
theorem rmIf11 (l : Launch) (Z : State) (a0 : Array Value) (hw : ∀ d ∈ tables_1, d.before a0 Z = true) (ws : List Jvm.Cond) (cS : Int32) (vF : Value) (a0b : Addr) (a1s : Addr) (h0 : Heap) (n0 : Nat) (O0 : Old Z n0 h0) (GL : GF Z cS vF) (E_a0b : Exa Z h0 a0b "java/lang/StringBuilder") (F_coder_a0b : Fld Z h0 a0b "java/lang/AbstractStringBuilder" "coder" "B" (.int 1)) (F_coder_a1s : Fld Z h0 a1s "java/lang/String" "coder" "B" (.int 1)) (E_a1s : Exa Z h0 a1s "java/lang/String") :
    MF l MN_31 jdk_68_method_71_code 2 none ws (Rm 1 0 0 13) #[(.ref a0b), (.ref a1s)] Z h0 (Q_rmIf11 n0 Z cS vF a0b a1s h0) := by
  refine MetFree.of_bodySF (plainFor_of_name pnv4) hisR ?_
  intro p e s m args below meth c s₁ Bd hml0 hP hK
  obtain ⟨rfl, hZ, hh⟩ := hP
  have hx := Bd.exec
  have hby := Bd.bytes
  have hml : c.maxLocals = 2 := hml0
  have hown : s.vm.findClass "java/lang/AbstractStringBuilder" = some m.cls := findClass_of_methodNamed Bd.named
  have hnm := (name_of_methodNamed Bd.named Bd.method).1
  have X0 : Stand p l e (Rm 1 0 0 13) s m #[(.ref a0b), (.ref a1s)] below meth c s₁ [] 0 0 := Stand.of_body Bd
  have e0 : s₁.heap = h0 := by rw [← hh, Bd.state]; rfl
  have N0 := Fr.nil n0
  have pre0 : ∀ t, SP p e below s₁ m 0 #[vr a0b, vr a1s] [] t → Steps p.tables e below (s₁.setTop (entryFrame m #[(.ref a0b), (.ref a1s)] 2)) t := fun t k => castTop (ef_rmIf00 m a0b a1s) k
  have GL' := GL
  obtain ⟨GCS, GCP, GA16, GHI, GLO, GFF, GVF⟩ := GL'
  obtain ⟨T1, X1, e1, st1⟩ := getS2 X0 hx hZ hown (host := "") (Or.inl (Wd hw 61 rfl)) Via.refl e0 (GCS.ext O0.2) (g := mkF m 0 #[vr a0b, vr a1s] []) rfl (dG hby D16 0 rfl)
  obtain ⟨T2, X2, e2, st2⟩ := getF X1 hx hZ hown (host := "") (Or.inl (Wd hw 64 rfl)) Via.refl e1 F_coder_a0b (g := mkF m 7 #[vr a0b, vr a1s] [(.ref a0b)]) rfl rfl (dG hby D16 3 rfl)
  obtain ⟨cq3, kq3, q3a, q3b, q3c⟩ := isOf hZ e2 E_a1s
  obtain ⟨_, _, ⟨T3, L3, k3, n3⟩, -, X3, ⟨Lc3, hQ3, l3, y3, z3⟩, st3⟩ := X2.virtualBack hx (y := MN_0) (z := MN_0) hown (mvT hZ (Wd hw 104 rfl)) (mvT hZ (Wd hw 82 rfl)) (notFace_of_selects (args := #[]) (mvT hZ (Wd hw 84 rfl))) (mvT hZ (Wd hw 84 rfl)) (mvT hZ (Wd hw 83 rfl)) (by decide) (backOf (W := 1) (rmCod1 l Z a0 hw [] cS vF a1s h0 n0 O0 GL F_coder_a1s) hZ (Wd hw 85 rfl) (Wd hw 11 rfl) (by decide) (by decide)) q3a q3c (g := mkF m 11 #[vr a0b, vr a1s] [(.ref a1s), (.int 1)]) rfl (by rw [hml]; rfl) (Steps.refl _) (argsL := []) (rest := [(.int 1)]) (lenOf pd rfl) rfl (by show 2 * 0 + _ ≤ _; exact lEq rfl) (dG hby D16 5 rfl) (fun _ _ => ⟨rfl, e2, (by decide : 0 + 0 ≤ _), (by decide : 0 + 0 ≤ _)⟩)
  dsimp only [Pt.U, Pt.locs, Pt.cells, Pt.slots] at X3 l3 y3 z3 st3 hQ3
  subst l3 y3 z3
  obtain ⟨rfl, N3q, e3⟩ := hQ3
  have N3 := Fr.app N0 N3q
  obtain ⟨fs, hr, hrun, hended, hW, hsame⟩ := X3.leave (v := none) (fun _ => rfl)
  refine ⟨_, _, pre0 _ ?_, hrun, hended, _, _, rfl, ?_, ⟨_, rfl⟩, hW, hsame.mono (by decide) (by decide)⟩
  · show SP p e below s₁ m 0 #[vr a0b, vr a1s] [] _
    refine st1 _ ?_
    show SP p e below T1 m 3 #[vr a0b, vr a1s] [(.int cS)] _
    refine XS.ifNo X1.here hx rfl (dG hby D16 1 rfl) rfl ((if0 _ _).trans (feq GCP).1) ?_
    refine XS.aloadN X1.here hx rfl (dG hby D16 2 rfl) rfl rfl ?_
    show SP p e below T1 m 7 #[vr a0b, vr a1s] [(.ref a0b)] _
    refine st2 _ ?_
    show SP p e below T2 m 10 #[vr a0b, vr a1s] [(.int 1)] _
    refine XS.aloadN X2.here hx rfl (dG hby D16 4 rfl) rfl rfl ?_
    show SP p e below T2 m 11 #[vr a0b, vr a1s] [(.ref a1s), (.int 1)] _
    refine st3.trans ?_
    show SP p e below T3 m 14 #[vr a0b, vr a1s] [(.int 1), (.int 1)] _
    refine XS.icmpYes X3.here hx rfl (pc0 := 14) (pc' := 21) rfl (dG hby D16 6 rfl) rfl (teq (by decide : (1 : Int32) = (1 : Int32))).1 (by decide) (by decide) ?_
    show SP p e below T3 m 21 #[vr a0b, vr a1s] [] _
    exact X3.returnOut hx Bd.returns (dG hby D16 7 rfl) hr
  · show Q_rmIf11 n0 Z cS vF a0b a1s h0 _ T3.heap _
    rw [e3]
    exact ⟨rfl, N3, rfl⟩
theorem D17 : dL jdk_42_method_147_code [(0, .aload_n 0, 1), (1, .invokevirtual 335, 3), (4, .iload_n 3, 1), (5, .if_icmp .ne 23, 3), (8, .aload_n 0, 1), (9, .getfield 9, 3), (12, .iconst 0, 1), (13, .aload_n 1, 1), (14, .iload_n 2, 1), (15, .iload_n 3, 1), (16, .ishl, 1), (17, .aload_n 0, 1), (18, .getfield 9, 3), (21, .arraylength, 1), (22, .invokestatic 212, 3), (25, .goto 18, 3), (43, .return_, 1), (28, .aload_n 0, 1), (29, .getfield 9, 3), (32, .iconst 0, 1), (33, .aload_n 1, 1), (34, .iload_n 2, 1), (35, .aload_n 0, 1), (36, .getfield 9, 3), (39, .arraylength, 1), (40, .invokestatic 106, 3)] = true := by decide +kernel
abbrev MN_32 : MethodName := ⟨"java/lang/String", "getBytes", "([BIB)V"⟩
theorem ef_rmGb00 (m : MethodId) (a0s : Addr) (a1b : Addr) {bn : Nat} : entryFrame m #[(.ref a0s), (.ref a1b), (.int (own_n bn)), (.int 0)] 4 = mkF m 0 #[vr a0s, vr a1b, vi (own_n bn), vi (0 : Int32)] [] := by first | (simp [entryFrame, mkF, argsToLocals, Value.category]; done) | rfl
def Q_rmGb00 (n0 : Nat) (Z : State) (cS : Int32) (vF : Value) (a0s : Addr) (a1b : Addr) (ky : ClassId) (bs : List Value) (bn : Nat) (sv : Addr) (sk : ClassId) (ss : List Value) (sn : Nat) (h0 : Heap) (v : Option Value) (h : Heap) (L : List Loc) : Prop := ∃ bw : List Value, v = none ∧ Fr n0 L ∧ Keep h0 h [a1b] ∧ (Arv Z h a1b ky .byte (16 : Int32) bw (.int 0)) ∧ (own_cp bs ss bn sn bw)
theorem rmGb00 (l : Launch) (Z : State) (a0 : Array Value) (hw : ∀ d ∈ tables_1, d.before a0 Z = true) (ws : List Jvm.Cond) (cS : Int32) (vF : Value) (a0s : Addr) (a1b : Addr) (ky : ClassId) (bs : List Value) (bn : Nat) (sv : Addr) (sk : ClassId) (ss : List Value) (sn : Nat) (h0 : Heap) (n0 : Nat) (O0 : Old Z n0 h0) (GL : GF Z cS vF) (E_a0s : Exa Z h0 a0s "java/lang/String") (F_value_a0s : Fld Z h0 a0s "java/lang/String" "value" "[B" (.ref sv)) (F_coder_a0s : Fld Z h0 a0s "java/lang/String" "coder" "B" (.int 0)) (V_sv : Arv Z h0 sv sk .byte (own_n sn) ss (.int 0)) (V_a1b : Arv Z h0 a1b ky .byte (16 : Int32) bs (.int 0)) (hbl : bs.length = 16) (g_a1b : n0 ≤ a1b) (hsum : bn + sn ≤ 8) :
    MF l MN_32 jdk_42_method_147_code 4 none ws (Rm 1 0 0 18) #[(.ref a0s), (.ref a1b), (.int (own_n bn)), (.int 0)] Z h0 (Q_rmGb00 n0 Z cS vF a0s a1b ky bs bn sv sk ss sn h0) := by
  refine MetFree.of_bodySF (plainFor_of_name pn) hisR ?_
  intro p e s m args below meth c s₁ Bd hml0 hP hK
  obtain ⟨rfl, hZ, hh⟩ := hP
  have hx := Bd.exec
  have hby := Bd.bytes
  have hml : c.maxLocals = 4 := hml0
  have hown : s.vm.findClass "java/lang/String" = some m.cls := findClass_of_methodNamed Bd.named
  have hnm := (name_of_methodNamed Bd.named Bd.method).1
  have X0 : Stand p l e (Rm 1 0 0 18) s m #[(.ref a0s), (.ref a1b), (.int (own_n bn)), (.int 0)] below meth c s₁ [] 0 0 := Stand.of_body Bd
  have e0 : s₁.heap = h0 := by rw [← hh, Bd.state]; rfl
  have N0 := Fr.nil n0
  have pre0 : ∀ t, SP p e below s₁ m 0 #[vr a0s, vr a1b, vi (own_n bn), vi (0 : Int32)] [] t → Steps p.tables e below (s₁.setTop (entryFrame m #[(.ref a0s), (.ref a1b), (.int (own_n bn)), (.int 0)] 4)) t := fun t k => castTop (ef_rmGb00 m a0s a1b) k
  have GL' := GL
  obtain ⟨GCS, GCP, GA16, GHI, GLO, GFF, GVF⟩ := GL'
  obtain ⟨cq1, kq1, q1a, q1b, q1c⟩ := isOf hZ e0 E_a0s
  obtain ⟨_, _, ⟨T1, L1, k1, n1⟩, -, X1, ⟨Lc1, hQ1, l1, y1, z1⟩, st1⟩ := X0.virtualBack hx (y := MN_0) (z := MN_0) hown (mvT hZ (Wd hw 81 rfl)) (mvT hZ (Wd hw 82 rfl)) (notFace_of_selects (args := #[]) (mvT hZ (Wd hw 84 rfl))) (mvT hZ (Wd hw 84 rfl)) (mvT hZ (Wd hw 83 rfl)) (by decide) (backOf (W := 0) (rmCod0 l Z a0 hw [] cS vF a0s h0 n0 O0 GL F_coder_a0s) hZ (Wd hw 85 rfl) (Wd hw 11 rfl) (by decide) (by decide)) q1a q1c (g := mkF m 1 #[vr a0s, vr a1b, vi (own_n bn), vi (0 : Int32)] [(.ref a0s)]) rfl (by rw [hml]; rfl) (Steps.refl _) (argsL := []) (rest := []) (lenOf pd rfl) rfl (by show 2 * 0 + _ ≤ _; exact lEq rfl) (dG hby D17 1 rfl) (fun _ _ => ⟨rfl, e0, (by decide : 0 + 0 ≤ _), (by decide : 0 + 0 ≤ _)⟩)
  dsimp only [Pt.U, Pt.locs, Pt.cells, Pt.slots] at X1 l1 y1 z1 st1 hQ1
  subst l1 y1 z1
  obtain ⟨rfl, N1q, e1⟩ := hQ1
  have N1 := Fr.app N0 N1q
  obtain ⟨T2, X2, e2, st2⟩ := getF X1 hx hZ hown (host := "") (Or.inl (Wd hw 28 rfl)) Via.refl e1 F_value_a0s (g := mkF m 9 #[vr a0s, vr a1b, vi (own_n bn), vi (0 : Int32)] [(.ref a0s)]) rfl rfl (dG hby D17 5 rfl)
  obtain ⟨T3, X3, e3, st3⟩ := getF X2 hx hZ hown (host := "") (Or.inl (Wd hw 28 rfl)) Via.refl e2 F_value_a0s (g := mkF m 18 #[vr a0s, vr a1b, vi (own_n bn), vi (0 : Int32)] [(.ref a0s), (.int (own_n bn)), (.ref a1b), (.int 0), (.ref sv)]) rfl rfl (dG hby D17 12 rfl)
  obtain ⟨cl4, Ar4, -, S4, N4_, -, -⟩ := id (V_sv)
  obtain ⟨T5, h5, L5, X5, e5, N5, Kc5, V5, st5⟩ := cpA X3 hx hZ hown (Wd hw 110 rfl) (Wd hw 113 rfl) (Wd hw 111 rfl) (Wd hw 112 rfl) e3 V_sv V_a1b (us := ((List.range ((own_n sn)).toNatClampNeg).map fun i => (ss).getD (((0 : Int32)).toNatClampNeg + i) (.int 0))) (Or.inl ⟨rfl, rfl⟩) (by decide) (own_n_nn (by omega)) (own_n_nn (by omega)) (lEq (Nat.zero_add _)) (own_h5 (z := 16) (by omega) (by decide)) rfl (by rw [hbl]; exact own_h6 (by omega) (by decide)) N1 g_a1b (g := mkF m 22 #[vr a0s, vr a1b, vi (own_n bn), vi (0 : Int32)] [(.int (own_n sn)), (.int (own_n bn)), (.ref a1b), (.int 0), (.ref sv)]) rfl (by rw [hml]; rfl) rfl (dG hby D17 14 rfl) (by decide) (W := 0) (by show 2 * 0 + _ ≤ _; exact lEq rfl) (by decide)
  have V5' : Arv Z h5 a1b ky .byte (16 : Int32) (List.take ((own_n bn)).toNatClampNeg bs ++ ((List.range ((own_n sn)).toNatClampNeg).map fun i => (ss).getD (((0 : Int32)).toNatClampNeg + i) (.int 0)) ++ List.drop (((own_n bn)).toNatClampNeg + ((own_n sn)).toNatClampNeg) bs) (.int 0) := V5
  have K5 : Keep h0 h5 [a1b] := (Keep.refl h0 [a1b]).trans Kc5 (allS (Or.inl (List.mem_of_getElem? (i := 0) rfl)) all0)
  have O5 := O0.keep Kc5 (allS g_a1b all0)
  have hq5 : own_cp bs ss bn sn (List.take ((own_n bn)).toNatClampNeg bs ++ ((List.range ((own_n sn)).toNatClampNeg).map fun i => (ss).getD (((0 : Int32)).toNatClampNeg + i) (.int 0)) ++ List.drop (((own_n bn)).toNatClampNeg + ((own_n sn)).toNatClampNeg) bs) := own_cp_ac (by omega) (by omega) (by rw [hbl]; omega)
  obtain ⟨fs, hr, hrun, hended, hW, hsame⟩ := X5.leave (v := none) (fun _ => rfl)
  refine ⟨_, _, pre0 _ ?_, hrun, hended, _, _, rfl, ?_, ⟨_, rfl⟩, hW, hsame.mono (by decide) (by decide)⟩
  · show SP p e below s₁ m 0 #[vr a0s, vr a1b, vi (own_n bn), vi (0 : Int32)] [] _
    refine XS.aloadN X0.here hx rfl (dG hby D17 0 rfl) rfl rfl ?_
    show SP p e below s₁ m 1 #[vr a0s, vr a1b, vi (own_n bn), vi (0 : Int32)] [(.ref a0s)] _
    refine st1.trans ?_
    show SP p e below T1 m 4 #[vr a0s, vr a1b, vi (own_n bn), vi (0 : Int32)] [(.int 0)] _
    refine XS.iloadN X1.here hx rfl (dG hby D17 2 rfl) rfl ?_
    refine XS.icmpNo X1.here hx rfl (dG hby D17 3 rfl) rfl (teq (by decide : (0 : Int32) = (0 : Int32))).2 ?_
    refine XS.aloadN X1.here hx rfl (dG hby D17 4 rfl) rfl rfl ?_
    show SP p e below T1 m 9 #[vr a0s, vr a1b, vi (own_n bn), vi (0 : Int32)] [(.ref a0s)] _
    refine st2 _ ?_
    show SP p e below T2 m 12 #[vr a0s, vr a1b, vi (own_n bn), vi (0 : Int32)] [(.ref sv)] _
    refine XS.iconst X2.here hx rfl (dG hby D17 6 rfl) ?_
    refine XS.aloadN X2.here hx rfl (dG hby D17 7 rfl) rfl rfl ?_
    refine XS.iloadN X2.here hx rfl (dG hby D17 8 rfl) rfl ?_
    refine XS.iloadN X2.here hx rfl (dG hby D17 9 rfl) rfl ?_
    show SP p e below T2 m 16 #[vr a0s, vr a1b, vi (own_n bn), vi (0 : Int32)] [(.int 0), (.int (own_n bn)), (.ref a1b), (.int 0), (.ref sv)] _
    refine XS.ishl X2.here hx rfl (dG hby D17 10 rfl) rfl ?_
    rw [own_shl0 (own_n bn)]
    show SP p e below T2 m 17 #[vr a0s, vr a1b, vi (own_n bn), vi (0 : Int32)] [(.int (own_n bn)), (.ref a1b), (.int 0), (.ref sv)] _
    refine XS.aloadN X2.here hx rfl (dG hby D17 11 rfl) rfl rfl ?_
    show SP p e below T2 m 18 #[vr a0s, vr a1b, vi (own_n bn), vi (0 : Int32)] [(.ref a0s), (.int (own_n bn)), (.ref a1b), (.int 0), (.ref sv)] _
    refine st3 _ ?_
    show SP p e below T3 m 21 #[vr a0s, vr a1b, vi (own_n bn), vi (0 : Int32)] [(.ref sv), (.int (own_n bn)), (.ref a1b), (.int 0), (.ref sv)] _
    refine X3.arraylength hx (by rw [e3]; exact Ar4.1) (State.isArrayOf_alike hZ.alike Ar4.2.1) (g := mkF m 21 #[vr a0s, vr a1b, vi (own_n bn), vi (0 : Int32)] [(.ref sv), (.int (own_n bn)), (.ref a1b), (.int 0), (.ref sv)]) rfl rfl (dG hby D17 13 rfl) _ ?_
    rw [len_of S4 N4_]
    show SP p e below T3 m 22 #[vr a0s, vr a1b, vi (own_n bn), vi (0 : Int32)] [(.int (own_n sn)), (.int (own_n bn)), (.ref a1b), (.int 0), (.ref sv)] _
    refine st5 _ ?_
    show SP p e below T5 m 25 #[vr a0s, vr a1b, vi (own_n bn), vi (0 : Int32)] [] _
    refine XS.goto X5.here hx rfl (pc0 := 25) (pc' := 43) rfl (dG hby D17 15 rfl) (by decide) (by decide) ?_
    show SP p e below T5 m 43 #[vr a0s, vr a1b, vi (own_n bn), vi (0 : Int32)] [] _
    exact X5.returnOut hx Bd.returns (dG hby D17 16 rfl) hr
  · show Q_rmGb00 n0 Z cS vF a0s a1b ky bs bn sv sk ss sn h0 _ T5.heap _
    rw [e5]
    exact ⟨(List.take ((own_n bn)).toNatClampNeg bs ++ ((List.range ((own_n sn)).toNatClampNeg).map fun i => (ss).getD (((0 : Int32)).toNatClampNeg + i) (.int 0)) ++ List.drop (((own_n bn)).toNatClampNeg + ((own_n sn)).toNatClampNeg) bs), rfl, N5, K5, V5', hq5⟩
theorem ef_rmGb11 (m : MethodId) (a0s : Addr) (a1b : Addr) {bn : Nat} : entryFrame m #[(.ref a0s), (.ref a1b), (.int (own_n bn)), (.int 1)] 4 = mkF m 0 #[vr a0s, vr a1b, vi (own_n bn), vi (1 : Int32)] [] := by first | (simp [entryFrame, mkF, argsToLocals, Value.category]; done) | rfl
def Q_rmGb11 (n0 : Nat) (Z : State) (cS : Int32) (vF : Value) (a0s : Addr) (a1b : Addr) (ky : ClassId) (bs : List Value) (bn : Nat) (sv : Addr) (sk : ClassId) (ss : List Value) (sn : Nat) (h0 : Heap) (v : Option Value) (h : Heap) (L : List Loc) : Prop := ∃ bw : List Value, v = none ∧ Fr n0 L ∧ Keep h0 h [a1b] ∧ (Arv Z h a1b ky .byte (32 : Int32) bw (.int 0)) ∧ (own_cp bs ss (2 * bn) (2 * sn) bw)
theorem rmGb11 (l : Launch) (Z : State) (a0 : Array Value) (hw : ∀ d ∈ tables_1, d.before a0 Z = true) (ws : List Jvm.Cond) (cS : Int32) (vF : Value) (a0s : Addr) (a1b : Addr) (ky : ClassId) (bs : List Value) (bn : Nat) (sv : Addr) (sk : ClassId) (ss : List Value) (sn : Nat) (h0 : Heap) (n0 : Nat) (O0 : Old Z n0 h0) (GL : GF Z cS vF) (E_a0s : Exa Z h0 a0s "java/lang/String") (F_value_a0s : Fld Z h0 a0s "java/lang/String" "value" "[B" (.ref sv)) (F_coder_a0s : Fld Z h0 a0s "java/lang/String" "coder" "B" (.int 1)) (V_sv : Arv Z h0 sv sk .byte (own_n (2 * sn)) ss (.int 0)) (V_a1b : Arv Z h0 a1b ky .byte (32 : Int32) bs (.int 0)) (hbl : bs.length = 32) (g_a1b : n0 ≤ a1b) (hsum : bn + sn ≤ 8) :
    MF l MN_32 jdk_42_method_147_code 4 none ws (Rm 1 0 0 18) #[(.ref a0s), (.ref a1b), (.int (own_n bn)), (.int 1)] Z h0 (Q_rmGb11 n0 Z cS vF a0s a1b ky bs bn sv sk ss sn h0) := by
  refine MetFree.of_bodySF (plainFor_of_name pn) hisR ?_
  intro p e s m args below meth c s₁ Bd hml0 hP hK
  obtain ⟨rfl, hZ, hh⟩ := hP
  have hx := Bd.exec
  have hby := Bd.bytes
  have hml : c.maxLocals = 4 := hml0
  have hown : s.vm.findClass "java/lang/String" = some m.cls := findClass_of_methodNamed Bd.named
  have hnm := (name_of_methodNamed Bd.named Bd.method).1
  have X0 : Stand p l e (Rm 1 0 0 18) s m #[(.ref a0s), (.ref a1b), (.int (own_n bn)), (.int 1)] below meth c s₁ [] 0 0 := Stand.of_body Bd
  have e0 : s₁.heap = h0 := by rw [← hh, Bd.state]; rfl
  have N0 := Fr.nil n0
  have pre0 : ∀ t, SP p e below s₁ m 0 #[vr a0s, vr a1b, vi (own_n bn), vi (1 : Int32)] [] t → Steps p.tables e below (s₁.setTop (entryFrame m #[(.ref a0s), (.ref a1b), (.int (own_n bn)), (.int 1)] 4)) t := fun t k => castTop (ef_rmGb11 m a0s a1b) k
  have GL' := GL
  obtain ⟨GCS, GCP, GA16, GHI, GLO, GFF, GVF⟩ := GL'
  obtain ⟨cq1, kq1, q1a, q1b, q1c⟩ := isOf hZ e0 E_a0s
  obtain ⟨_, _, ⟨T1, L1, k1, n1⟩, -, X1, ⟨Lc1, hQ1, l1, y1, z1⟩, st1⟩ := X0.virtualBack hx (y := MN_0) (z := MN_0) hown (mvT hZ (Wd hw 81 rfl)) (mvT hZ (Wd hw 82 rfl)) (notFace_of_selects (args := #[]) (mvT hZ (Wd hw 84 rfl))) (mvT hZ (Wd hw 84 rfl)) (mvT hZ (Wd hw 83 rfl)) (by decide) (backOf (W := 0) (rmCod1 l Z a0 hw [] cS vF a0s h0 n0 O0 GL F_coder_a0s) hZ (Wd hw 85 rfl) (Wd hw 11 rfl) (by decide) (by decide)) q1a q1c (g := mkF m 1 #[vr a0s, vr a1b, vi (own_n bn), vi (1 : Int32)] [(.ref a0s)]) rfl (by rw [hml]; rfl) (Steps.refl _) (argsL := []) (rest := []) (lenOf pd rfl) rfl (by show 2 * 0 + _ ≤ _; exact lEq rfl) (dG hby D17 1 rfl) (fun _ _ => ⟨rfl, e0, (by decide : 0 + 0 ≤ _), (by decide : 0 + 0 ≤ _)⟩)
  dsimp only [Pt.U, Pt.locs, Pt.cells, Pt.slots] at X1 l1 y1 z1 st1 hQ1
  subst l1 y1 z1
  obtain ⟨rfl, N1q, e1⟩ := hQ1
  have N1 := Fr.app N0 N1q
  obtain ⟨T2, X2, e2, st2⟩ := getF X1 hx hZ hown (host := "") (Or.inl (Wd hw 28 rfl)) Via.refl e1 F_value_a0s (g := mkF m 9 #[vr a0s, vr a1b, vi (own_n bn), vi (1 : Int32)] [(.ref a0s)]) rfl rfl (dG hby D17 5 rfl)
  obtain ⟨T3, X3, e3, st3⟩ := getF X2 hx hZ hown (host := "") (Or.inl (Wd hw 28 rfl)) Via.refl e2 F_value_a0s (g := mkF m 18 #[vr a0s, vr a1b, vi (own_n bn), vi (1 : Int32)] [(.ref a0s), (.int (own_n (2 * bn))), (.ref a1b), (.int 0), (.ref sv)]) rfl rfl (dG hby D17 12 rfl)
  obtain ⟨cl4, Ar4, -, S4, N4_, -, -⟩ := id (V_sv)
  obtain ⟨T5, h5, L5, X5, e5, N5, Kc5, V5, st5⟩ := cpA X3 hx hZ hown (Wd hw 110 rfl) (Wd hw 113 rfl) (Wd hw 111 rfl) (Wd hw 112 rfl) e3 V_sv V_a1b (us := ((List.range ((own_n (2 * sn))).toNatClampNeg).map fun i => (ss).getD (((0 : Int32)).toNatClampNeg + i) (.int 0))) (Or.inl ⟨rfl, rfl⟩) (by decide) (own_n_nn (by omega)) (own_n_nn (by omega)) (lEq (Nat.zero_add _)) (own_h5 (z := 32) (by omega) (by decide)) rfl (by rw [hbl]; exact own_h6 (by omega) (by decide)) N1 g_a1b (g := mkF m 22 #[vr a0s, vr a1b, vi (own_n bn), vi (1 : Int32)] [(.int (own_n (2 * sn))), (.int (own_n (2 * bn))), (.ref a1b), (.int 0), (.ref sv)]) rfl (by rw [hml]; rfl) rfl (dG hby D17 14 rfl) (by decide) (W := 0) (by show 2 * 0 + _ ≤ _; exact lEq rfl) (by decide)
  have V5' : Arv Z h5 a1b ky .byte (32 : Int32) (List.take ((own_n (2 * bn))).toNatClampNeg bs ++ ((List.range ((own_n (2 * sn))).toNatClampNeg).map fun i => (ss).getD (((0 : Int32)).toNatClampNeg + i) (.int 0)) ++ List.drop (((own_n (2 * bn))).toNatClampNeg + ((own_n (2 * sn))).toNatClampNeg) bs) (.int 0) := V5
  have K5 : Keep h0 h5 [a1b] := (Keep.refl h0 [a1b]).trans Kc5 (allS (Or.inl (List.mem_of_getElem? (i := 0) rfl)) all0)
  have O5 := O0.keep Kc5 (allS g_a1b all0)
  have hq5 : own_cp bs ss (2 * bn) (2 * sn) (List.take ((own_n (2 * bn))).toNatClampNeg bs ++ ((List.range ((own_n (2 * sn))).toNatClampNeg).map fun i => (ss).getD (((0 : Int32)).toNatClampNeg + i) (.int 0)) ++ List.drop (((own_n (2 * bn))).toNatClampNeg + ((own_n (2 * sn))).toNatClampNeg) bs) := own_cp_ac (by omega) (by omega) (by rw [hbl]; omega)
  obtain ⟨fs, hr, hrun, hended, hW, hsame⟩ := X5.leave (v := none) (fun _ => rfl)
  refine ⟨_, _, pre0 _ ?_, hrun, hended, _, _, rfl, ?_, ⟨_, rfl⟩, hW, hsame.mono (by decide) (by decide)⟩
  · show SP p e below s₁ m 0 #[vr a0s, vr a1b, vi (own_n bn), vi (1 : Int32)] [] _
    refine XS.aloadN X0.here hx rfl (dG hby D17 0 rfl) rfl rfl ?_
    show SP p e below s₁ m 1 #[vr a0s, vr a1b, vi (own_n bn), vi (1 : Int32)] [(.ref a0s)] _
    refine st1.trans ?_
    show SP p e below T1 m 4 #[vr a0s, vr a1b, vi (own_n bn), vi (1 : Int32)] [(.int 1)] _
    refine XS.iloadN X1.here hx rfl (dG hby D17 2 rfl) rfl ?_
    refine XS.icmpNo X1.here hx rfl (dG hby D17 3 rfl) rfl (teq (by decide : (1 : Int32) = (1 : Int32))).2 ?_
    refine XS.aloadN X1.here hx rfl (dG hby D17 4 rfl) rfl rfl ?_
    show SP p e below T1 m 9 #[vr a0s, vr a1b, vi (own_n bn), vi (1 : Int32)] [(.ref a0s)] _
    refine st2 _ ?_
    show SP p e below T2 m 12 #[vr a0s, vr a1b, vi (own_n bn), vi (1 : Int32)] [(.ref sv)] _
    refine XS.iconst X2.here hx rfl (dG hby D17 6 rfl) ?_
    refine XS.aloadN X2.here hx rfl (dG hby D17 7 rfl) rfl rfl ?_
    refine XS.iloadN X2.here hx rfl (dG hby D17 8 rfl) rfl ?_
    refine XS.iloadN X2.here hx rfl (dG hby D17 9 rfl) rfl ?_
    show SP p e below T2 m 16 #[vr a0s, vr a1b, vi (own_n bn), vi (1 : Int32)] [(.int 1), (.int (own_n bn)), (.ref a1b), (.int 0), (.ref sv)] _
    refine XS.ishl X2.here hx rfl (dG hby D17 10 rfl) rfl ?_
    rw [own_n_shl bn]
    show SP p e below T2 m 17 #[vr a0s, vr a1b, vi (own_n bn), vi (1 : Int32)] [(.int (own_n (2 * bn))), (.ref a1b), (.int 0), (.ref sv)] _
    refine XS.aloadN X2.here hx rfl (dG hby D17 11 rfl) rfl rfl ?_
    show SP p e below T2 m 18 #[vr a0s, vr a1b, vi (own_n bn), vi (1 : Int32)] [(.ref a0s), (.int (own_n (2 * bn))), (.ref a1b), (.int 0), (.ref sv)] _
    refine st3 _ ?_
    show SP p e below T3 m 21 #[vr a0s, vr a1b, vi (own_n bn), vi (1 : Int32)] [(.ref sv), (.int (own_n (2 * bn))), (.ref a1b), (.int 0), (.ref sv)] _
    refine X3.arraylength hx (by rw [e3]; exact Ar4.1) (State.isArrayOf_alike hZ.alike Ar4.2.1) (g := mkF m 21 #[vr a0s, vr a1b, vi (own_n bn), vi (1 : Int32)] [(.ref sv), (.int (own_n (2 * bn))), (.ref a1b), (.int 0), (.ref sv)]) rfl rfl (dG hby D17 13 rfl) _ ?_
    rw [len_of S4 N4_]
    show SP p e below T3 m 22 #[vr a0s, vr a1b, vi (own_n bn), vi (1 : Int32)] [(.int (own_n (2 * sn))), (.int (own_n (2 * bn))), (.ref a1b), (.int 0), (.ref sv)] _
    refine st5 _ ?_
    show SP p e below T5 m 25 #[vr a0s, vr a1b, vi (own_n bn), vi (1 : Int32)] [] _
    refine XS.goto X5.here hx rfl (pc0 := 25) (pc' := 43) rfl (dG hby D17 15 rfl) (by decide) (by decide) ?_
    show SP p e below T5 m 43 #[vr a0s, vr a1b, vi (own_n bn), vi (1 : Int32)] [] _
    exact X5.returnOut hx Bd.returns (dG hby D17 16 rfl) hr
  · show Q_rmGb11 n0 Z cS vF a0s a1b ky bs bn sv sk ss sn h0 _ T5.heap _
    rw [e5]
    exact ⟨(List.take ((own_n (2 * bn))).toNatClampNeg bs ++ ((List.range ((own_n (2 * sn))).toNatClampNeg).map fun i => (ss).getD (((0 : Int32)).toNatClampNeg + i) (.int 0)) ++ List.drop (((own_n (2 * bn))).toNatClampNeg + ((own_n (2 * sn))).toNatClampNeg) bs), rfl, N5, K5, V5', hq5⟩
def Q_rmGb10 (n0 : Nat) (Z : State) (cS : Int32) (vF : Value) (a0s : Addr) (a1b : Addr) (ky : ClassId) (bs : List Value) (bn : Nat) (sv : Addr) (sk : ClassId) (ss : List Value) (sn : Nat) (sf : Nat → Int32) (h0 : Heap) (v : Option Value) (h : Heap) (L : List Loc) : Prop := v = none ∧ Fr n0 L ∧ Keep h0 h [a1b] ∧ (Arv Z h a1b ky .byte (32 : Int32) (own_inf bs bn sf sn) (.int 0))
theorem rmGb10 (l : Launch) (Z : State) (a0 : Array Value) (hw : ∀ d ∈ tables_1, d.before a0 Z = true) (ws : List Jvm.Cond) (cS : Int32) (vF : Value) (a0s : Addr) (a1b : Addr) (ky : ClassId) (bs : List Value) (bn : Nat) (sv : Addr) (sk : ClassId) (ss : List Value) (sn : Nat) (sf : Nat → Int32) (h0 : Heap) (n0 : Nat) (O0 : Old Z n0 h0) (GL : GF Z cS vF) (E_a0s : Exa Z h0 a0s "java/lang/String") (F_value_a0s : Fld Z h0 a0s "java/lang/String" "value" "[B" (.ref sv)) (F_coder_a0s : Fld Z h0 a0s "java/lang/String" "coder" "B" (.int 0)) (V_sv : Arv Z h0 sv sk .byte (own_n sn) ss (.int 0)) (V_a1b : Arv Z h0 a1b ky .byte (32 : Int32) bs (.int 0)) (hbl : bs.length = 32) (g_a1b : n0 ≤ a1b) (hsum : bn + sn ≤ 8) (hsx : own_L ss sn sf) (ne_sv_a1b : sv ≠ a1b) (hs5 : sn ≤ 5) :
    MF l MN_32 jdk_42_method_147_code 4 none ws (Rm 5 0 0 76) #[(.ref a0s), (.ref a1b), (.int (own_n bn)), (.int 1)] Z h0 (Q_rmGb10 n0 Z cS vF a0s a1b ky bs bn sv sk ss sn sf h0) := by
  refine MetFree.of_bodySF (plainFor_of_name pn) hisR ?_
  intro p e s m args below meth c s₁ Bd hml0 hP hK
  obtain ⟨rfl, hZ, hh⟩ := hP
  have hx := Bd.exec
  have hby := Bd.bytes
  have hml : c.maxLocals = 4 := hml0
  have hown : s.vm.findClass "java/lang/String" = some m.cls := findClass_of_methodNamed Bd.named
  have hnm := (name_of_methodNamed Bd.named Bd.method).1
  have X0 : Stand p l e (Rm 5 0 0 76) s m #[(.ref a0s), (.ref a1b), (.int (own_n bn)), (.int 1)] below meth c s₁ [] 0 0 := Stand.of_body Bd
  have e0 : s₁.heap = h0 := by rw [← hh, Bd.state]; rfl
  have N0 := Fr.nil n0
  have pre0 : ∀ t, SP p e below s₁ m 0 #[vr a0s, vr a1b, vi (own_n bn), vi (1 : Int32)] [] t → Steps p.tables e below (s₁.setTop (entryFrame m #[(.ref a0s), (.ref a1b), (.int (own_n bn)), (.int 1)] 4)) t := fun t k => castTop (ef_rmGb11 m a0s a1b) k
  have GL' := GL
  obtain ⟨GCS, GCP, GA16, GHI, GLO, GFF, GVF⟩ := GL'
  obtain ⟨cq1, kq1, q1a, q1b, q1c⟩ := isOf hZ e0 E_a0s
  obtain ⟨_, _, ⟨T1, L1, k1, n1⟩, -, X1, ⟨Lc1, hQ1, l1, y1, z1⟩, st1⟩ := X0.virtualBack hx (y := MN_0) (z := MN_0) hown (mvT hZ (Wd hw 81 rfl)) (mvT hZ (Wd hw 82 rfl)) (notFace_of_selects (args := #[]) (mvT hZ (Wd hw 84 rfl))) (mvT hZ (Wd hw 84 rfl)) (mvT hZ (Wd hw 83 rfl)) (by decide) (backOf (W := 0) (rmCod0 l Z a0 hw [] cS vF a0s h0 n0 O0 GL F_coder_a0s) hZ (Wd hw 85 rfl) (Wd hw 11 rfl) (by decide) (by decide)) q1a q1c (g := mkF m 1 #[vr a0s, vr a1b, vi (own_n bn), vi (1 : Int32)] [(.ref a0s)]) rfl (by rw [hml]; rfl) (Steps.refl _) (argsL := []) (rest := []) (lenOf pd rfl) rfl (by show 2 * 0 + _ ≤ _; exact lEq rfl) (dG hby D17 1 rfl) (fun _ _ => ⟨rfl, e0, (by decide : 0 + 0 ≤ _), (by decide : 0 + 0 ≤ _)⟩)
  dsimp only [Pt.U, Pt.locs, Pt.cells, Pt.slots] at X1 l1 y1 z1 st1 hQ1
  subst l1 y1 z1
  obtain ⟨rfl, N1q, e1⟩ := hQ1
  have N1 := Fr.app N0 N1q
  obtain ⟨T2, X2, e2, st2⟩ := getF X1 hx hZ hown (host := "") (Or.inl (Wd hw 28 rfl)) Via.refl e1 F_value_a0s (g := mkF m 29 #[vr a0s, vr a1b, vi (own_n bn), vi (1 : Int32)] [(.ref a0s)]) rfl rfl (dG hby D17 18 rfl)
  obtain ⟨T3, X3, e3, st3⟩ := getF X2 hx hZ hown (host := "") (Or.inl (Wd hw 28 rfl)) Via.refl e2 F_value_a0s (g := mkF m 36 #[vr a0s, vr a1b, vi (own_n bn), vi (1 : Int32)] [(.ref a0s), (.int (own_n bn)), (.ref a1b), (.int 0), (.ref sv)]) rfl rfl (dG hby D17 23 rfl)
  obtain ⟨cl4, Ar4, -, S4, N4_, -, -⟩ := id (V_sv)
  obtain ⟨_, _, ⟨T5, L5, k5, n5⟩, -, X5, ⟨Lc5, hQ5, l5, y5, z5⟩, st5⟩ := Jvm.LawKit.callS X3 hx (y := MN_16) hown (mvT hZ (Wd hw 240 rfl)) (mvT hZ (Wd hw 223 rfl)) (mvT hZ (Wd hw 176 rfl)) (mvT hZ (Wd hw 224 rfl)) (by decide) (backOf (W := 0) (rmInL l Z a0 hw [] cS vF sv a1b sk ((own_n sn)) ss sf ky bs bn sn h0 n0 O0 GL V_sv V_a1b hbl g_a1b ne_sv_a1b hsx hs5 hsum (by rw [own_n_nat (by omega)]; omega) (own_n_nn (by omega))) hZ (Wd hw 224 rfl) (Wd hw 176 rfl) (by decide) (by decide)) (g := mkF m 40 #[vr a0s, vr a1b, vi (own_n bn), vi (1 : Int32)] [(.int (own_n sn)), (.int (own_n bn)), (.ref a1b), (.int 0), (.ref sv)]) rfl (by rw [hml]; rfl) (argsL := [(.ref sv), (.int 0), (.ref a1b), (.int (own_n bn)), (.int (own_n sn))]) (rest := []) (lenOf pdv11 rfl) rfl (by show 2 * 0 + _ ≤ _; exact lEq rfl) (dG hby D17 25 rfl) (fun _ _ => ⟨rfl, e3, (by decide : 0 + 0 ≤ _), (by decide : 0 + 0 ≤ _)⟩)
  dsimp only [Pt.U, Pt.locs, Pt.cells, Pt.slots] at X5 l5 y5 z5 st5 hQ5
  subst l5 y5 z5
  obtain ⟨rfl, N5q, Kc5, P5_0⟩ := hQ5
  have K5 : Keep h0 T5.heap [a1b] := (Keep.refl h0 [a1b]).trans Kc5 (allS (Or.inl (List.mem_of_getElem? (i := 0) rfl)) all0)
  have O5 := O0.keep Kc5 (allS g_a1b all0)
  have N5 := Fr.app N1 N5q
  obtain ⟨fs, hr, hrun, hended, hW, hsame⟩ := X5.leave (v := none) (fun _ => rfl)
  refine ⟨_, _, pre0 _ ?_, hrun, hended, _, _, rfl, ?_, ⟨_, rfl⟩, hW, hsame.mono (by decide) (by decide)⟩
  · show SP p e below s₁ m 0 #[vr a0s, vr a1b, vi (own_n bn), vi (1 : Int32)] [] _
    refine XS.aloadN X0.here hx rfl (dG hby D17 0 rfl) rfl rfl ?_
    show SP p e below s₁ m 1 #[vr a0s, vr a1b, vi (own_n bn), vi (1 : Int32)] [(.ref a0s)] _
    refine st1.trans ?_
    show SP p e below T1 m 4 #[vr a0s, vr a1b, vi (own_n bn), vi (1 : Int32)] [(.int 0)] _
    refine XS.iloadN X1.here hx rfl (dG hby D17 2 rfl) rfl ?_
    refine XS.icmpYes X1.here hx rfl (pc0 := 5) (pc' := 28) rfl (dG hby D17 3 rfl) rfl (feq (by decide : ¬ ((0 : Int32) = (1 : Int32)))).2 (by decide) (by decide) ?_
    refine XS.aloadN X1.here hx rfl (dG hby D17 17 rfl) rfl rfl ?_
    show SP p e below T1 m 29 #[vr a0s, vr a1b, vi (own_n bn), vi (1 : Int32)] [(.ref a0s)] _
    refine st2 _ ?_
    show SP p e below T2 m 32 #[vr a0s, vr a1b, vi (own_n bn), vi (1 : Int32)] [(.ref sv)] _
    refine XS.iconst X2.here hx rfl (dG hby D17 19 rfl) ?_
    refine XS.aloadN X2.here hx rfl (dG hby D17 20 rfl) rfl rfl ?_
    refine XS.iloadN X2.here hx rfl (dG hby D17 21 rfl) rfl ?_
    refine XS.aloadN X2.here hx rfl (dG hby D17 22 rfl) rfl rfl ?_
    show SP p e below T2 m 36 #[vr a0s, vr a1b, vi (own_n bn), vi (1 : Int32)] [(.ref a0s), (.int (own_n bn)), (.ref a1b), (.int 0), (.ref sv)] _
    refine st3 _ ?_
    show SP p e below T3 m 39 #[vr a0s, vr a1b, vi (own_n bn), vi (1 : Int32)] [(.ref sv), (.int (own_n bn)), (.ref a1b), (.int 0), (.ref sv)] _
    refine X3.arraylength hx (by rw [e3]; exact Ar4.1) (State.isArrayOf_alike hZ.alike Ar4.2.1) (g := mkF m 39 #[vr a0s, vr a1b, vi (own_n bn), vi (1 : Int32)] [(.ref sv), (.int (own_n bn)), (.ref a1b), (.int 0), (.ref sv)]) rfl rfl (dG hby D17 24 rfl) _ ?_
    rw [len_of S4 N4_]
    show SP p e below T3 m 40 #[vr a0s, vr a1b, vi (own_n bn), vi (1 : Int32)] [(.int (own_n sn)), (.int (own_n bn)), (.ref a1b), (.int 0), (.ref sv)] _
    refine st5 _ ?_
    show SP p e below T5 m 43 #[vr a0s, vr a1b, vi (own_n bn), vi (1 : Int32)] [] _
    exact X5.returnOut hx Bd.returns (dG hby D17 16 rfl) hr
  · show Q_rmGb10 n0 Z cS vF a0s a1b ky bs bn sv sk ss sn sf h0 _ T5.heap _
    exact ⟨rfl, N5, K5, P5_0⟩
theorem D15 : dL jdk_68_method_73_code [(0, .aload_n 0, 1), (1, .aload_n 2, 1), (2, .invokevirtual 397, 3), (5, .aload_n 2, 1), (6, .aload_n 0, 1), (7, .getfield 15, 3), (10, .iload_n 1, 1), (11, .aload_n 0, 1), (12, .getfield 22, 3), (15, .invokevirtual 399, 3), (18, .return_, 1)] = true := by decide +kernel
theorem pdv20 : parseMethodDescriptor "(Ljava/lang/String;)V" = some ⟨[(.object "java/lang/String")], none⟩ := by decide +kernel
theorem pdv21 : parseMethodDescriptor "([BIB)V" = some ⟨[(.array .byte), .int, .byte], none⟩ := by decide +kernel
abbrev MN_33 : MethodName := ⟨"java/lang/AbstractStringBuilder", "putStringAt", "(ILjava/lang/String;)V"⟩
theorem ef_rmPut00 (m : MethodId) (a0b : Addr) (a2s : Addr) {bn : Nat} : entryFrame m #[(.ref a0b), (.int (own_n bn)), (.ref a2s)] 3 = mkF m 0 #[vr a0b, vi (own_n bn), vr a2s] [] := by first | (simp [entryFrame, mkF, argsToLocals, Value.category]; done) | rfl
def Q_rmPut00 (n0 : Nat) (Z : State) (cS : Int32) (vF : Value) (a0b : Addr) (a2s : Addr) (y : Addr) (ky : ClassId) (bs : List Value) (bn : Nat) (bf : Nat → Int32) (sv : Addr) (sk : ClassId) (ss : List Value) (sn : Nat) (sf : Nat → Int32) (h0 : Heap) (v : Option Value) (h : Heap) (L : List Loc) : Prop := ∃ bw : List Value, v = none ∧ Fr n0 L ∧ Keep h0 h [y] ∧ (Exa Z h a0b "java/lang/StringBuilder") ∧ (Fld Z h a0b "java/lang/AbstractStringBuilder" "value" "[B" (.ref y)) ∧ (Fld Z h a0b "java/lang/AbstractStringBuilder" "coder" "B" (.int 0)) ∧ (Fld Z h a0b "java/lang/AbstractStringBuilder" "count" "I" (.int (own_n bn))) ∧ (Fld Z h a0b "java/lang/AbstractStringBuilder" "maybeLatin1" "Z" (.int 0)) ∧ (Arv Z h y ky .byte (16 : Int32) bw (.int 0)) ∧ (own_L bw (bn + sn) (own_cat bn bf sf)) ∧ (bw.length = 16)
theorem rmPut00 (l : Launch) (Z : State) (a0 : Array Value) (hw : ∀ d ∈ tables_1, d.before a0 Z = true) (ws : List Jvm.Cond) (cS : Int32) (vF : Value) (a0b : Addr) (a2s : Addr) (y : Addr) (ky : ClassId) (bs : List Value) (bn : Nat) (bf : Nat → Int32) (sv : Addr) (sk : ClassId) (ss : List Value) (sn : Nat) (sf : Nat → Int32) (h0 : Heap) (n0 : Nat) (O0 : Old Z n0 h0) (GL : GF Z cS vF) (E_a0b : Exa Z h0 a0b "java/lang/StringBuilder") (F_value_a0b : Fld Z h0 a0b "java/lang/AbstractStringBuilder" "value" "[B" (.ref y)) (F_coder_a0b : Fld Z h0 a0b "java/lang/AbstractStringBuilder" "coder" "B" (.int 0)) (F_count_a0b : Fld Z h0 a0b "java/lang/AbstractStringBuilder" "count" "I" (.int (own_n bn))) (F_maybeLatin1_a0b : Fld Z h0 a0b "java/lang/AbstractStringBuilder" "maybeLatin1" "Z" (.int 0)) (V_y : Arv Z h0 y ky .byte (16 : Int32) bs (.int 0)) (hbx : own_L bs bn bf) (hbl : bs.length = 16) (g_a0b : n0 ≤ a0b) (g_y : n0 ≤ y) (E_a2s : Exa Z h0 a2s "java/lang/String") (F_value_a2s : Fld Z h0 a2s "java/lang/String" "value" "[B" (.ref sv)) (F_coder_a2s : Fld Z h0 a2s "java/lang/String" "coder" "B" (.int 0)) (V_sv : Arv Z h0 sv sk .byte (own_n sn) ss (.int 0)) (hsx : own_L ss sn sf) (hsum : bn + sn ≤ 8) (hb5 : bn ≤ 5) (hs5 : sn ≤ 5) :
    MF l MN_33 jdk_68_method_73_code 3 none ws (Rm 2 0 0 33) #[(.ref a0b), (.int (own_n bn)), (.ref a2s)] Z h0 (Q_rmPut00 n0 Z cS vF a0b a2s y ky bs bn bf sv sk ss sn sf h0) := by
  refine MetFree.of_bodySF (plainFor_of_name pnv4) hisR ?_
  intro p e s m args below meth c s₁ Bd hml0 hP hK
  obtain ⟨rfl, hZ, hh⟩ := hP
  have hx := Bd.exec
  have hby := Bd.bytes
  have hml : c.maxLocals = 3 := hml0
  have hown : s.vm.findClass "java/lang/AbstractStringBuilder" = some m.cls := findClass_of_methodNamed Bd.named
  have hnm := (name_of_methodNamed Bd.named Bd.method).1
  have X0 : Stand p l e (Rm 2 0 0 33) s m #[(.ref a0b), (.int (own_n bn)), (.ref a2s)] below meth c s₁ [] 0 0 := Stand.of_body Bd
  have e0 : s₁.heap = h0 := by rw [← hh, Bd.state]; rfl
  have N0 := Fr.nil n0
  have pre0 : ∀ t, SP p e below s₁ m 0 #[vr a0b, vi (own_n bn), vr a2s] [] t → Steps p.tables e below (s₁.setTop (entryFrame m #[(.ref a0b), (.int (own_n bn)), (.ref a2s)] 3)) t := fun t k => castTop (ef_rmPut00 m a0b a2s) k
  have GL' := GL
  obtain ⟨GCS, GCP, GA16, GHI, GLO, GFF, GVF⟩ := GL'
  obtain ⟨cq1, kq1, q1a, q1b, q1c⟩ := isOf hZ e0 E_a0b
  obtain ⟨_, _, ⟨T1, L1, k1, n1⟩, -, X1, ⟨Lc1, hQ1, l1, y1, z1⟩, st1⟩ := X0.virtualBack hx (y := MN_31) (z := MN_31) hown (mvT hZ (Wd hw 99 rfl)) (mvT hZ (own_decl (Wd hw 100 rfl) (Wd hw 103 rfl))) (own_nf (args := #[]) (mvT hZ (Wd hw 92 rfl)) rfl) (mvT hZ (Wd hw 102 rfl)) (mvT hZ (Wd hw 100 rfl)) (by decide) (backOf (W := 0) (rmIf00 l Z a0 hw [] cS vF a0b a2s h0 n0 O0 GL E_a0b F_coder_a0b F_coder_a2s E_a2s) hZ (Wd hw 103 rfl) (Wd hw 58 rfl) (by decide) (by decide)) q1a q1c (g := mkF m 2 #[vr a0b, vi (own_n bn), vr a2s] [(.ref a2s), (.ref a0b)]) rfl (by rw [hml]; rfl) (Steps.refl _) (argsL := [(.ref a2s)]) (rest := []) (lenOf pdv20 rfl) rfl (by show 2 * 0 + _ ≤ _; exact lEq rfl) (dG hby D15 2 rfl) (fun _ _ => ⟨rfl, e0, (by decide : 0 + 0 ≤ _), (by decide : 0 + 0 ≤ _)⟩)
  dsimp only [Pt.U, Pt.locs, Pt.cells, Pt.slots] at X1 l1 y1 z1 st1 hQ1
  subst l1 y1 z1
  obtain ⟨rfl, N1q, e1⟩ := hQ1
  have N1 := Fr.app N0 N1q
  obtain ⟨T2, X2, e2, st2⟩ := getF X1 hx hZ hown (host := "") (Or.inl (Wd hw 62 rfl)) Via.refl e1 F_value_a0b (g := mkF m 7 #[vr a0b, vi (own_n bn), vr a2s] [(.ref a0b), (.ref a2s)]) rfl rfl (dG hby D15 5 rfl)
  obtain ⟨T3, X3, e3, st3⟩ := getF X2 hx hZ hown (host := "") (Or.inl (Wd hw 64 rfl)) Via.refl e2 F_coder_a0b (g := mkF m 12 #[vr a0b, vi (own_n bn), vr a2s] [(.ref a0b), (.int (own_n bn)), (.ref y), (.ref a2s)]) rfl rfl (dG hby D15 8 rfl)
  obtain ⟨cq4, kq4, q4a, q4b, q4c⟩ := isOf hZ e3 E_a2s
  obtain ⟨_, _, ⟨T4, L4, k4, n4⟩, -, X4, ⟨Lc4, hQ4, l4, y4, z4⟩, st4⟩ := X3.virtualBack hx (y := MN_32) (z := MN_32) hown (mvT hZ (Wd hw 105 rfl)) (mvT hZ (Wd hw 106 rfl)) (notFace_of_selects (args := #[]) (mvT hZ (Wd hw 108 rfl))) (mvT hZ (Wd hw 108 rfl)) (mvT hZ (Wd hw 107 rfl)) (by decide) (backOf (W := 0) (rmGb00 l Z a0 hw [] cS vF a2s y ky bs bn sv sk ss sn h0 n0 O0 GL E_a2s F_value_a2s F_coder_a2s V_sv V_y hbl g_y hsum) hZ (Wd hw 109 rfl) (Wd hw 11 rfl) (by decide) (by decide)) q4a q4c (g := mkF m 15 #[vr a0b, vi (own_n bn), vr a2s] [(.int 0), (.int (own_n bn)), (.ref y), (.ref a2s)]) rfl (by rw [hml]; rfl) (Steps.refl _) (argsL := [(.ref y), (.int (own_n bn)), (.int 0)]) (rest := []) (lenOf pdv21 rfl) rfl (by show 2 * 0 + _ ≤ _; exact lEq rfl) (dG hby D15 9 rfl) (fun _ _ => ⟨rfl, e3, (by decide : 0 + 0 ≤ _), (by decide : 0 + 0 ≤ _)⟩)
  dsimp only [Pt.U, Pt.locs, Pt.cells, Pt.slots] at X4 l4 y4 z4 st4 hQ4
  subst l4 y4 z4
  obtain ⟨bw_4, rfl, N4q, Kc4, P4_0, P4_1⟩ := hQ4
  have K4 : Keep h0 T4.heap [y] := (Keep.refl h0 [y]).trans Kc4 (allS (Or.inl (List.mem_of_getElem? (i := 0) rfl)) all0)
  have O4 := O0.keep Kc4 (allS g_y all0)
  have N4 := Fr.app N1 N4q
  have hT : own_L bw_4 (bn + sn) (own_cat bn bf sf) := own_L_app hbx hsx P4_1
  have hTl : bw_4.length = 16 := P4_1.1.trans hbl
  obtain ⟨fs, hr, hrun, hended, hW, hsame⟩ := X4.leave (v := none) (fun _ => rfl)
  refine ⟨_, _, pre0 _ ?_, hrun, hended, _, _, rfl, ?_, ⟨_, rfl⟩, hW, hsame.mono (by decide) (by decide)⟩
  · show SP p e below s₁ m 0 #[vr a0b, vi (own_n bn), vr a2s] [] _
    refine XS.aloadN X0.here hx rfl (dG hby D15 0 rfl) rfl rfl ?_
    refine XS.aloadN X0.here hx rfl (dG hby D15 1 rfl) rfl rfl ?_
    show SP p e below s₁ m 2 #[vr a0b, vi (own_n bn), vr a2s] [(.ref a2s), (.ref a0b)] _
    refine st1.trans ?_
    show SP p e below T1 m 5 #[vr a0b, vi (own_n bn), vr a2s] [] _
    refine XS.aloadN X1.here hx rfl (dG hby D15 3 rfl) rfl rfl ?_
    refine XS.aloadN X1.here hx rfl (dG hby D15 4 rfl) rfl rfl ?_
    show SP p e below T1 m 7 #[vr a0b, vi (own_n bn), vr a2s] [(.ref a0b), (.ref a2s)] _
    refine st2 _ ?_
    show SP p e below T2 m 10 #[vr a0b, vi (own_n bn), vr a2s] [(.ref y), (.ref a2s)] _
    refine XS.iloadN X2.here hx rfl (dG hby D15 6 rfl) rfl ?_
    refine XS.aloadN X2.here hx rfl (dG hby D15 7 rfl) rfl rfl ?_
    show SP p e below T2 m 12 #[vr a0b, vi (own_n bn), vr a2s] [(.ref a0b), (.int (own_n bn)), (.ref y), (.ref a2s)] _
    refine st3 _ ?_
    show SP p e below T3 m 15 #[vr a0b, vi (own_n bn), vr a2s] [(.int 0), (.int (own_n bn)), (.ref y), (.ref a2s)] _
    refine st4.trans ?_
    show SP p e below T4 m 18 #[vr a0b, vi (own_n bn), vr a2s] [] _
    exact X4.returnOut hx Bd.returns (dG hby D15 10 rfl) hr
  · show Q_rmPut00 n0 Z cS vF a0b a2s y ky bs bn bf sv sk ss sn sf h0 _ T4.heap _
    exact ⟨bw_4, rfl, N4, K4, (E_a0b.keep Kc4), (F_value_a0b.keep Kc4 (ninS (Exa.neArv (a0 := a0) E_a0b V_y (Wd hw 49 rfl)) nin0)), (F_coder_a0b.keep Kc4 (ninS (Exa.neArv (a0 := a0) E_a0b V_y (Wd hw 49 rfl)) nin0)), (F_count_a0b.keep Kc4 (ninS (Exa.neArv (a0 := a0) E_a0b V_y (Wd hw 49 rfl)) nin0)), (F_maybeLatin1_a0b.keep Kc4 (ninS (Exa.neArv (a0 := a0) E_a0b V_y (Wd hw 49 rfl)) nin0)), P4_0, hT, hTl⟩
theorem D11 : dL jdk_68_method_22_code [(0, .aload_n 1, 1), (1, .ifnonnull 8, 3), (9, .aload_n 1, 1), (10, .invokevirtual 32, 3), (13, .istore_n 2, 1), (14, .aload_n 0, 1), (15, .aload_n 0, 1), (16, .getfield 79, 3), (19, .iload_n 2, 1), (20, .iadd, 1), (21, .invokevirtual 100, 3), (24, .aload_n 0, 1), (25, .aload_n 0, 1), (26, .getfield 79, 3), (29, .aload_n 1, 1), (30, .invokevirtual 208, 3), (33, .aload_n 0, 1), (34, .dup, 1), (35, .getfield 79, 3), (38, .iload_n 2, 1), (39, .iadd, 1), (40, .putfield 79, 3), (43, .aload_n 0, 1), (44, .areturn, 1)] = true := by decide +kernel
theorem pdv22 : parseMethodDescriptor "()I" = some ⟨[], some .int⟩ := by decide +kernel
theorem pdv23 : parseMethodDescriptor "(ILjava/lang/String;)V" = some ⟨[.int, (.object "java/lang/String")], none⟩ := by decide +kernel
abbrev MN_34 : MethodName := ⟨"java/lang/AbstractStringBuilder", "append", "(Ljava/lang/String;)Ljava/lang/AbstractStringBuilder;"⟩
theorem ef_rmAp00 (m : MethodId) (a0b : Addr) (a1s : Addr) : entryFrame m #[(.ref a0b), (.ref a1s)] 3 = mkF m 0 #[vr a0b, vr a1s, .unset] [] := by first | (simp [entryFrame, mkF, argsToLocals, Value.category]; done) | rfl
def Q_rmAp00 (n0 : Nat) (Z : State) (cS : Int32) (vF : Value) (a0b : Addr) (a1s : Addr) (y : Addr) (ky : ClassId) (bs : List Value) (bn : Nat) (bf : Nat → Int32) (sv : Addr) (sk : ClassId) (ss : List Value) (sn : Nat) (sf : Nat → Int32) (h0 : Heap) (v : Option Value) (h : Heap) (L : List Loc) : Prop := ∃ bw : List Value, v = some (.ref a0b) ∧ Fr n0 L ∧ Keep h0 h [a0b, y] ∧ (Exa Z h a0b "java/lang/StringBuilder") ∧ (Fld Z h a0b "java/lang/AbstractStringBuilder" "value" "[B" (.ref y)) ∧ (Fld Z h a0b "java/lang/AbstractStringBuilder" "coder" "B" (.int 0)) ∧ (Fld Z h a0b "java/lang/AbstractStringBuilder" "count" "I" (.int (own_n (bn + sn)))) ∧ (Fld Z h a0b "java/lang/AbstractStringBuilder" "maybeLatin1" "Z" (.int 0)) ∧ (Arv Z h y ky .byte (16 : Int32) bw (.int 0)) ∧ (own_L bw (bn + sn) (own_cat bn bf sf)) ∧ (bw.length = 16)
theorem rmAp00 (l : Launch) (Z : State) (a0 : Array Value) (hw : ∀ d ∈ tables_1, d.before a0 Z = true) (ws : List Jvm.Cond) (cS : Int32) (vF : Value) (a0b : Addr) (a1s : Addr) (y : Addr) (ky : ClassId) (bs : List Value) (bn : Nat) (bf : Nat → Int32) (sv : Addr) (sk : ClassId) (ss : List Value) (sn : Nat) (sf : Nat → Int32) (h0 : Heap) (n0 : Nat) (O0 : Old Z n0 h0) (GL : GF Z cS vF) (E_a0b : Exa Z h0 a0b "java/lang/StringBuilder") (F_value_a0b : Fld Z h0 a0b "java/lang/AbstractStringBuilder" "value" "[B" (.ref y)) (F_coder_a0b : Fld Z h0 a0b "java/lang/AbstractStringBuilder" "coder" "B" (.int 0)) (F_count_a0b : Fld Z h0 a0b "java/lang/AbstractStringBuilder" "count" "I" (.int (own_n bn))) (F_maybeLatin1_a0b : Fld Z h0 a0b "java/lang/AbstractStringBuilder" "maybeLatin1" "Z" (.int 0)) (V_y : Arv Z h0 y ky .byte (16 : Int32) bs (.int 0)) (hbx : own_L bs bn bf) (hbl : bs.length = 16) (g_a0b : n0 ≤ a0b) (g_y : n0 ≤ y) (E_a1s : Exa Z h0 a1s "java/lang/String") (F_value_a1s : Fld Z h0 a1s "java/lang/String" "value" "[B" (.ref sv)) (F_coder_a1s : Fld Z h0 a1s "java/lang/String" "coder" "B" (.int 0)) (V_sv : Arv Z h0 sv sk .byte (own_n sn) ss (.int 0)) (hsx : own_L ss sn sf) (hsum : bn + sn ≤ 8) (hb5 : bn ≤ 5) (hs5 : sn ≤ 5) :
    MF l MN_34 jdk_68_method_22_code 3 (some (.object "java/lang/AbstractStringBuilder")) ws (Rm 3 0 0 47) #[(.ref a0b), (.ref a1s)] Z h0 (Q_rmAp00 n0 Z cS vF a0b a1s y ky bs bn bf sv sk ss sn sf h0) := by
  refine MetFree.of_bodySF (plainFor_of_name pnv4) hisR ?_
  intro p e s m args below meth c s₁ Bd hml0 hP hK
  obtain ⟨rfl, hZ, hh⟩ := hP
  have hx := Bd.exec
  have hby := Bd.bytes
  have hml : c.maxLocals = 3 := hml0
  have hown : s.vm.findClass "java/lang/AbstractStringBuilder" = some m.cls := findClass_of_methodNamed Bd.named
  have hnm := (name_of_methodNamed Bd.named Bd.method).1
  have X0 : Stand p l e (Rm 3 0 0 47) s m #[(.ref a0b), (.ref a1s)] below meth c s₁ [] 0 0 := Stand.of_body Bd
  have e0 : s₁.heap = h0 := by rw [← hh, Bd.state]; rfl
  have N0 := Fr.nil n0
  have pre0 : ∀ t, SP p e below s₁ m 0 #[vr a0b, vr a1s, .unset] [] t → Steps p.tables e below (s₁.setTop (entryFrame m #[(.ref a0b), (.ref a1s)] 3)) t := fun t k => castTop (ef_rmAp00 m a0b a1s) k
  have GL' := GL
  obtain ⟨GCS, GCP, GA16, GHI, GLO, GFF, GVF⟩ := GL'
  have h88 : sn ≤ 8 := (by omega)
  obtain ⟨cq1, kq1, q1a, q1b, q1c⟩ := isOf hZ e0 E_a1s
  obtain ⟨_, _, ⟨T1, L1, k1, n1⟩, -, X1, ⟨Lc1, hQ1, l1, y1, z1⟩, st1⟩ := X0.virtualBack hx (y := MN_1) (z := MN_1) hown (mvT hZ (Wd hw 76 rfl)) (mvT hZ (Wd hw 77 rfl)) (notFace_of_selects (args := #[]) (mvT hZ (Wd hw 79 rfl))) (mvT hZ (Wd hw 79 rfl)) (mvT hZ (Wd hw 78 rfl)) (by decide) (backOf (W := 0) (rmLen0 l Z a0 hw [] cS vF a1s sv sk ss sn h0 n0 O0 GL E_a1s F_value_a1s F_coder_a1s V_sv h88) hZ (Wd hw 80 rfl) (Wd hw 11 rfl) (by decide) (by decide)) q1a q1c (g := mkF m 10 #[vr a0b, vr a1s, .unset] [(.ref a1s)]) rfl (by rw [hml]; rfl) (Steps.refl _) (argsL := []) (rest := []) (lenOf pdv22 rfl) rfl (by show 2 * 0 + _ ≤ _; exact lEq rfl) (dG hby D11 3 rfl) (fun _ _ => ⟨rfl, e0, (by decide : 0 + 0 ≤ _), (by decide : 0 + 0 ≤ _)⟩)
  dsimp only [Pt.U, Pt.locs, Pt.cells, Pt.slots] at X1 l1 y1 z1 st1 hQ1
  subst l1 y1 z1
  obtain ⟨rfl, N1q, e1⟩ := hQ1
  have N1 := Fr.app N0 N1q
  obtain ⟨T2, X2, e2, st2⟩ := getF X1 hx hZ hown (host := "") (Or.inl (Wd hw 87 rfl)) Via.refl e1 F_count_a0b (g := mkF m 16 #[vr a0b, vr a1s, vi (own_n sn)] [(.ref a0b), (.ref a0b)]) rfl rfl (dG hby D11 7 rfl)
  obtain ⟨cq3, kq3, q3a, q3b, q3c⟩ := isOf hZ e2 E_a0b
  obtain ⟨_, _, ⟨T3, L3, k3, n3⟩, -, X3, ⟨Lc3, hQ3, l3, y3, z3⟩, st3⟩ := X2.virtualBack hx (y := MN_28) (z := MN_28) hown (mvT hZ (Wd hw 89 rfl)) (mvT hZ (own_decl (Wd hw 90 rfl) (Wd hw 93 rfl))) (own_nf (args := #[]) (mvT hZ (Wd hw 92 rfl)) rfl) (mvT hZ (Wd hw 92 rfl)) (mvT hZ (Wd hw 90 rfl)) (by decide) (backOf (W := 0) (rmEns0 l Z a0 hw [] cS vF a0b ((bn + sn)) y ky bs h0 n0 O0 GL E_a0b F_value_a0b F_coder_a0b V_y (own_sub_le (b := 16) (by omega) (by omega))) hZ (Wd hw 93 rfl) (Wd hw 58 rfl) (by decide) (by decide)) q3a q3c (g := mkF m 21 #[vr a0b, vr a1s, vi (own_n sn)] [(.int (own_n (bn + sn))), (.ref a0b)]) rfl (by rw [hml]; rfl) (Steps.refl _) (argsL := [(.int (own_n (bn + sn)))]) (rest := []) (lenOf pdv18 rfl) rfl (by show 2 * 0 + _ ≤ _; exact lEq rfl) (dG hby D11 10 rfl) (fun _ _ => ⟨rfl, e2, (by decide : 0 + 0 ≤ _), (by decide : 0 + 0 ≤ _)⟩)
  dsimp only [Pt.U, Pt.locs, Pt.cells, Pt.slots] at X3 l3 y3 z3 st3 hQ3
  subst l3 y3 z3
  obtain ⟨rfl, N3q, e3⟩ := hQ3
  have N3 := Fr.app N1 N3q
  obtain ⟨T4, X4, e4, st4⟩ := getF X3 hx hZ hown (host := "") (Or.inl (Wd hw 87 rfl)) Via.refl e3 F_count_a0b (g := mkF m 26 #[vr a0b, vr a1s, vi (own_n sn)] [(.ref a0b), (.ref a0b)]) rfl rfl (dG hby D11 13 rfl)
  obtain ⟨cq5, kq5, q5a, q5b, q5c⟩ := isOf hZ e4 E_a0b
  obtain ⟨_, _, ⟨T5, L5, k5, n5⟩, -, X5, ⟨Lc5, hQ5, l5, y5, z5⟩, st5⟩ := X4.virtualBack hx (y := MN_33) (z := MN_33) hown (mvT hZ (Wd hw 94 rfl)) (mvT hZ (own_decl (Wd hw 95 rfl) (Wd hw 98 rfl))) (own_nf (args := #[]) (mvT hZ (Wd hw 92 rfl)) rfl) (mvT hZ (Wd hw 97 rfl)) (mvT hZ (Wd hw 95 rfl)) (by decide) (backOf (W := 0) (rmPut00 l Z a0 hw [] cS vF a0b a1s y ky bs bn bf sv sk ss sn sf h0 n0 O0 GL E_a0b F_value_a0b F_coder_a0b F_count_a0b F_maybeLatin1_a0b V_y hbx hbl g_a0b g_y E_a1s F_value_a1s F_coder_a1s V_sv hsx hsum hb5 hs5) hZ (Wd hw 98 rfl) (Wd hw 58 rfl) (by decide) (by decide)) q5a q5c (g := mkF m 30 #[vr a0b, vr a1s, vi (own_n sn)] [(.ref a1s), (.int (own_n bn)), (.ref a0b)]) rfl (by rw [hml]; rfl) (Steps.refl _) (argsL := [(.int (own_n bn)), (.ref a1s)]) (rest := []) (lenOf pdv23 rfl) rfl (by show 2 * 0 + _ ≤ _; exact lEq rfl) (dG hby D11 15 rfl) (fun _ _ => ⟨rfl, e4, (by decide : 0 + 0 ≤ _), (by decide : 0 + 0 ≤ _)⟩)
  dsimp only [Pt.U, Pt.locs, Pt.cells, Pt.slots] at X5 l5 y5 z5 st5 hQ5
  subst l5 y5 z5
  obtain ⟨bw_5, rfl, N5q, Kc5, P5_0, P5_1, P5_2, P5_3, P5_4, P5_5, P5_6, P5_7⟩ := hQ5
  have K5 : Keep h0 T5.heap [a0b, y] := (Keep.refl h0 [a0b, y]).trans Kc5 (allS (Or.inl (List.mem_of_getElem? (i := 1) rfl)) all0)
  have O5 := O0.keep Kc5 (allS g_y all0)
  have N5 := Fr.app N3 N5q
  obtain ⟨T6, X6, e6, st6⟩ := getF X5 hx hZ hown (host := "") (Or.inl (Wd hw 87 rfl)) Via.refl rfl P5_3 (g := mkF m 35 #[vr a0b, vr a1s, vi (own_n sn)] [(.ref a0b), (.ref a0b)]) rfl rfl (dG hby D11 18 rfl)
  obtain ⟨T7, h7, X7, e7, W7, st7⟩ := putF X6 hx hZ hown (host := "") (Or.inl (Wd hw 87 rfl)) Via.refl e6 P5_3 P5_0 (Or.inl (Wd hw 88 rfl)) (Wd hw 49 rfl) (ty := .int) (by decide) rfl rfl (g := mkF m 40 #[vr a0b, vr a1s, vi (own_n sn)] [(.int (own_n (bn + sn))), (.ref a0b)]) rfl rfl (dG hby D11 21 rfl)
  have Fw7 := P5_3.same W7
  have K7 : Keep h0 h7 [a0b, y] := K5.wr W7 (Or.inl (List.mem_of_getElem? (i := 0) rfl))
  have O7 := O5.wr W7 g_a0b
  have N7 := Fr.snoc X7 N5 g_a0b
  obtain ⟨fs, hr, hrun, hended, hW, hsame⟩ := X7.leave (v := some (.ref a0b)) (fun h => by rw [Bd.returns] at h; cases h)
  refine ⟨_, _, pre0 _ ?_, hrun, hended, _, _, rfl, ?_, ⟨_, rfl⟩, hW, hsame.mono (by decide) (by decide)⟩
  · show SP p e below s₁ m 0 #[vr a0b, vr a1s, .unset] [] _
    refine XS.aloadN X0.here hx rfl (dG hby D11 0 rfl) rfl rfl ?_
    refine XS.ifnonnullYes X0.here hx rfl (pc0 := 1) (pc' := 9) rfl (dG hby D11 1 rfl) rfl (by decide) (by decide) ?_
    refine XS.aloadN X0.here hx rfl (dG hby D11 2 rfl) rfl rfl ?_
    show SP p e below s₁ m 10 #[vr a0b, vr a1s, .unset] [(.ref a1s)] _
    refine st1.trans ?_
    show SP p e below T1 m 13 #[vr a0b, vr a1s, .unset] [(.int (own_n sn))] _
    refine XS.istoreN X1.here hx rfl (dG hby D11 4 rfl) rfl (l' := #[vr a0b, vr a1s, vi (own_n sn)]) rfl ?_
    refine XS.aloadN X1.here hx rfl (dG hby D11 5 rfl) rfl rfl ?_
    refine XS.aloadN X1.here hx rfl (dG hby D11 6 rfl) rfl rfl ?_
    show SP p e below T1 m 16 #[vr a0b, vr a1s, vi (own_n sn)] [(.ref a0b), (.ref a0b)] _
    refine st2 _ ?_
    show SP p e below T2 m 19 #[vr a0b, vr a1s, vi (own_n sn)] [(.int (own_n bn)), (.ref a0b)] _
    refine XS.iloadN X2.here hx rfl (dG hby D11 8 rfl) rfl ?_
    show SP p e below T2 m 20 #[vr a0b, vr a1s, vi (own_n sn)] [(.int (own_n sn)), (.int (own_n bn)), (.ref a0b)] _
    refine XS.iadd X2.here hx rfl (dG hby D11 9 rfl) rfl ?_
    rw [own_n_add bn sn]
    show SP p e below T2 m 21 #[vr a0b, vr a1s, vi (own_n sn)] [(.int (own_n (bn + sn))), (.ref a0b)] _
    refine st3.trans ?_
    show SP p e below T3 m 24 #[vr a0b, vr a1s, vi (own_n sn)] [] _
    refine XS.aloadN X3.here hx rfl (dG hby D11 11 rfl) rfl rfl ?_
    refine XS.aloadN X3.here hx rfl (dG hby D11 12 rfl) rfl rfl ?_
    show SP p e below T3 m 26 #[vr a0b, vr a1s, vi (own_n sn)] [(.ref a0b), (.ref a0b)] _
    refine st4 _ ?_
    show SP p e below T4 m 29 #[vr a0b, vr a1s, vi (own_n sn)] [(.int (own_n bn)), (.ref a0b)] _
    refine XS.aloadN X4.here hx rfl (dG hby D11 14 rfl) rfl rfl ?_
    show SP p e below T4 m 30 #[vr a0b, vr a1s, vi (own_n sn)] [(.ref a1s), (.int (own_n bn)), (.ref a0b)] _
    refine st5.trans ?_
    show SP p e below T5 m 33 #[vr a0b, vr a1s, vi (own_n sn)] [] _
    refine XS.aloadN X5.here hx rfl (dG hby D11 16 rfl) rfl rfl ?_
    refine XS.dup X5.here hx rfl (dG hby D11 17 rfl) rfl rfl ?_
    show SP p e below T5 m 35 #[vr a0b, vr a1s, vi (own_n sn)] [(.ref a0b), (.ref a0b)] _
    refine st6 _ ?_
    show SP p e below T6 m 38 #[vr a0b, vr a1s, vi (own_n sn)] [(.int (own_n bn)), (.ref a0b)] _
    refine XS.iloadN X6.here hx rfl (dG hby D11 19 rfl) rfl ?_
    show SP p e below T6 m 39 #[vr a0b, vr a1s, vi (own_n sn)] [(.int (own_n sn)), (.int (own_n bn)), (.ref a0b)] _
    refine XS.iadd X6.here hx rfl (dG hby D11 20 rfl) rfl ?_
    rw [own_n_add bn sn]
    show SP p e below T6 m 40 #[vr a0b, vr a1s, vi (own_n sn)] [(.int (own_n (bn + sn))), (.ref a0b)] _
    refine st7 _ ?_
    show SP p e below T7 m 43 #[vr a0b, vr a1s, vi (own_n sn)] [] _
    refine XS.aloadN X7.here hx rfl (dG hby D11 22 rfl) rfl rfl ?_
    show SP p e below T7 m 44 #[vr a0b, vr a1s, vi (own_n sn)] [(.ref a0b)] _
    exact retA X7 hx Bd.returns rfl (dG hby D11 23 rfl) hr
  · show Q_rmAp00 n0 Z cS vF a0b a1s y ky bs bn bf sv sk ss sn sf h0 _ T7.heap _
    rw [e7]
    exact ⟨bw_5, rfl, N7, K7, (P5_0.wr W7), (P5_1.other W7 (Or.inr (slot_ne (a0 := a0) (Or.inl (Wd hw 63 rfl)) (Or.inl (Wd hw 88 rfl)) (by decide) (t := (.array .byte)) (t' := .int) (by decide) (by decide)))), (P5_2.other W7 (Or.inr (slot_ne (a0 := a0) (Or.inl (Wd hw 65 rfl)) (Or.inl (Wd hw 88 rfl)) (by decide) (t := .byte) (t' := .int) (by decide) (by decide)))), Fw7, (P5_4.other W7 (Or.inr (slot_ne (a0 := a0) (Or.inl (Wd hw 242 rfl)) (Or.inl (Wd hw 88 rfl)) (by decide) (t := .boolean) (t' := .int) (by decide) (by decide)))), (P5_5.other W7 (Ne.symm (Exa.neArv (a0 := a0) E_a0b V_y (Wd hw 49 rfl)))), P5_6, P5_7⟩
theorem D10 : dL jdk_67_method_7_code [(0, .aload_n 0, 1), (1, .aload_n 1, 1), (2, .invokespecial 29, 3), (5, .pop, 1), (6, .aload_n 0, 1), (7, .areturn, 1)] = true := by decide +kernel
theorem pdv24 : parseMethodDescriptor "(Ljava/lang/String;)Ljava/lang/AbstractStringBuilder;" = some ⟨[(.object "java/lang/String")], some (.object "java/lang/AbstractStringBuilder")⟩ := by decide +kernel
abbrev MN_35 : MethodName := ⟨"java/lang/StringBuilder", "append", "(Ljava/lang/String;)Ljava/lang/StringBuilder;"⟩
def Q_rmAq00 (n0 : Nat) (Z : State) (cS : Int32) (vF : Value) (a0b : Addr) (a1s : Addr) (y : Addr) (ky : ClassId) (bs : List Value) (bn : Nat) (bf : Nat → Int32) (sv : Addr) (sk : ClassId) (ss : List Value) (sn : Nat) (sf : Nat → Int32) (h0 : Heap) (v : Option Value) (h : Heap) (L : List Loc) : Prop := ∃ bw : List Value, v = some (.ref a0b) ∧ Fr n0 L ∧ Keep h0 h [a0b, y] ∧ (Exa Z h a0b "java/lang/StringBuilder") ∧ (Fld Z h a0b "java/lang/AbstractStringBuilder" "value" "[B" (.ref y)) ∧ (Fld Z h a0b "java/lang/AbstractStringBuilder" "coder" "B" (.int 0)) ∧ (Fld Z h a0b "java/lang/AbstractStringBuilder" "count" "I" (.int (own_n (bn + sn)))) ∧ (Fld Z h a0b "java/lang/AbstractStringBuilder" "maybeLatin1" "Z" (.int 0)) ∧ (Arv Z h y ky .byte (16 : Int32) bw (.int 0)) ∧ (own_L bw (bn + sn) (own_cat bn bf sf)) ∧ (bw.length = 16)
theorem rmAq00 (l : Launch) (Z : State) (a0 : Array Value) (hw : ∀ d ∈ tables_1, d.before a0 Z = true) (ws : List Jvm.Cond) (cS : Int32) (vF : Value) (a0b : Addr) (a1s : Addr) (y : Addr) (ky : ClassId) (bs : List Value) (bn : Nat) (bf : Nat → Int32) (sv : Addr) (sk : ClassId) (ss : List Value) (sn : Nat) (sf : Nat → Int32) (h0 : Heap) (n0 : Nat) (O0 : Old Z n0 h0) (GL : GF Z cS vF) (E_a0b : Exa Z h0 a0b "java/lang/StringBuilder") (F_value_a0b : Fld Z h0 a0b "java/lang/AbstractStringBuilder" "value" "[B" (.ref y)) (F_coder_a0b : Fld Z h0 a0b "java/lang/AbstractStringBuilder" "coder" "B" (.int 0)) (F_count_a0b : Fld Z h0 a0b "java/lang/AbstractStringBuilder" "count" "I" (.int (own_n bn))) (F_maybeLatin1_a0b : Fld Z h0 a0b "java/lang/AbstractStringBuilder" "maybeLatin1" "Z" (.int 0)) (V_y : Arv Z h0 y ky .byte (16 : Int32) bs (.int 0)) (hbx : own_L bs bn bf) (hbl : bs.length = 16) (g_a0b : n0 ≤ a0b) (g_y : n0 ≤ y) (E_a1s : Exa Z h0 a1s "java/lang/String") (F_value_a1s : Fld Z h0 a1s "java/lang/String" "value" "[B" (.ref sv)) (F_coder_a1s : Fld Z h0 a1s "java/lang/String" "coder" "B" (.int 0)) (V_sv : Arv Z h0 sv sk .byte (own_n sn) ss (.int 0)) (hsx : own_L ss sn sf) (hsum : bn + sn ≤ 8) (hb5 : bn ≤ 5) (hs5 : sn ≤ 5) :
    MF l MN_35 jdk_67_method_7_code 2 (some (.object "java/lang/StringBuilder")) ws (Rm 4 0 0 61) #[(.ref a0b), (.ref a1s)] Z h0 (Q_rmAq00 n0 Z cS vF a0b a1s y ky bs bn bf sv sk ss sn sf h0) := by
  refine MetFree.of_bodySF (plainFor_of_name pnv5) hisR ?_
  intro p e s m args below meth c s₁ Bd hml0 hP hK
  obtain ⟨rfl, hZ, hh⟩ := hP
  have hx := Bd.exec
  have hby := Bd.bytes
  have hml : c.maxLocals = 2 := hml0
  have hown : s.vm.findClass "java/lang/StringBuilder" = some m.cls := findClass_of_methodNamed Bd.named
  have hnm := (name_of_methodNamed Bd.named Bd.method).1
  have X0 : Stand p l e (Rm 4 0 0 61) s m #[(.ref a0b), (.ref a1s)] below meth c s₁ [] 0 0 := Stand.of_body Bd
  have e0 : s₁.heap = h0 := by rw [← hh, Bd.state]; rfl
  have N0 := Fr.nil n0
  have pre0 : ∀ t, SP p e below s₁ m 0 #[vr a0b, vr a1s] [] t → Steps p.tables e below (s₁.setTop (entryFrame m #[(.ref a0b), (.ref a1s)] 2)) t := fun t k => castTop (ef_rmIf00 m a0b a1s) k
  have GL' := GL
  obtain ⟨GCS, GCP, GA16, GHI, GLO, GFF, GVF⟩ := GL'
  obtain ⟨_, _, ⟨T1, L1, k1, n1⟩, -, X1, ⟨Lc1, hQ1, l1, y1, z1⟩, st1⟩ := superBack X0 hx hZ (y := MN_34) hown (Wd hw 71 rfl) (own_same (Wd hw 72 rfl) (Wd hw 92 rfl) rfl (by decide)) (Wd hw 72 rfl) (Wd hw 73 rfl) (by decide) (backOf (W := 0) (rmAp00 l Z a0 hw [] cS vF a0b a1s y ky bs bn bf sv sk ss sn sf h0 n0 O0 GL E_a0b F_value_a0b F_coder_a0b F_count_a0b F_maybeLatin1_a0b V_y hbx hbl g_a0b g_y E_a1s F_value_a1s F_coder_a1s V_sv hsx hsum hb5 hs5) hZ (Wd hw 75 rfl) (Wd hw 58 rfl) (by decide) (by decide)) e0 (Ins.self E_a0b) (g := mkF m 2 #[vr a0b, vr a1s] [(.ref a1s), (.ref a0b)]) rfl (by rw [hml]; rfl) (Wd hw 75 rfl) (argsL := [(.ref a1s)]) (rest := []) (lenOf pdv24 rfl) rfl (by show 2 * 0 + _ ≤ _; exact lEq rfl) (dG hby D10 2 rfl) (fun _ _ => ⟨rfl, e0, (by decide : 0 + 0 ≤ _), (by decide : 0 + 0 ≤ _)⟩)
  dsimp only [Pt.U, Pt.locs, Pt.cells, Pt.slots] at X1 l1 y1 z1 st1 hQ1
  subst l1 y1 z1
  obtain ⟨bw_1, rfl, N1q, Kc1, P1_0, P1_1, P1_2, P1_3, P1_4, P1_5, P1_6, P1_7⟩ := hQ1
  have K1 : Keep h0 T1.heap [a0b, y] := (Keep.refl h0 [a0b, y]).trans Kc1 (allS (Or.inl (List.mem_of_getElem? (i := 0) rfl)) (allS (Or.inl (List.mem_of_getElem? (i := 1) rfl)) all0))
  have O1 := O0.keep Kc1 (allS g_a0b (allS g_y all0))
  have N1 := Fr.app N0 N1q
  obtain ⟨fs, hr, hrun, hended, hW, hsame⟩ := X1.leave (v := some (.ref a0b)) (fun h => by rw [Bd.returns] at h; cases h)
  refine ⟨_, _, pre0 _ ?_, hrun, hended, _, _, rfl, ?_, ⟨_, rfl⟩, hW, hsame.mono (by decide) (by decide)⟩
  · show SP p e below s₁ m 0 #[vr a0b, vr a1s] [] _
    refine XS.aloadN X0.here hx rfl (dG hby D10 0 rfl) rfl rfl ?_
    refine XS.aloadN X0.here hx rfl (dG hby D10 1 rfl) rfl rfl ?_
    show SP p e below s₁ m 2 #[vr a0b, vr a1s] [(.ref a1s), (.ref a0b)] _
    refine st1.trans ?_
    show SP p e below T1 m 5 #[vr a0b, vr a1s] [(.ref a0b)] _
    refine XS.pop X1.here hx rfl (dG hby D10 3 rfl) rfl rfl ?_
    refine XS.aloadN X1.here hx rfl (dG hby D10 4 rfl) rfl rfl ?_
    show SP p e below T1 m 7 #[vr a0b, vr a1s] [(.ref a0b)] _
    exact retA X1 hx Bd.returns rfl (dG hby D10 5 rfl) hr
  · show Q_rmAq00 n0 Z cS vF a0b a1s y ky bs bn bf sv sk ss sn sf h0 _ T1.heap _
    exact ⟨bw_1, rfl, N1, K1, P1_0, P1_1, P1_2, P1_3, P1_4, P1_5, P1_6, P1_7⟩
def Q_rmPut11 (n0 : Nat) (Z : State) (cS : Int32) (vF : Value) (a0b : Addr) (a2s : Addr) (y : Addr) (ky : ClassId) (bs : List Value) (bn : Nat) (bf : Nat → Int32) (sv : Addr) (sk : ClassId) (ss : List Value) (sn : Nat) (sf : Nat → Int32) (h0 : Heap) (v : Option Value) (h : Heap) (L : List Loc) : Prop := ∃ bw : List Value, v = none ∧ Fr n0 L ∧ Keep h0 h [y] ∧ (Exa Z h a0b "java/lang/StringBuilder") ∧ (Fld Z h a0b "java/lang/AbstractStringBuilder" "value" "[B" (.ref y)) ∧ (Fld Z h a0b "java/lang/AbstractStringBuilder" "coder" "B" (.int 1)) ∧ (Fld Z h a0b "java/lang/AbstractStringBuilder" "count" "I" (.int (own_n bn))) ∧ (Fld Z h a0b "java/lang/AbstractStringBuilder" "maybeLatin1" "Z" (.int 0)) ∧ (Arv Z h y ky .byte (32 : Int32) bw (.int 0)) ∧ (own_U bw (bn + sn) (own_cat bn bf sf)) ∧ (bw.length = 32)
theorem rmPut11 (l : Launch) (Z : State) (a0 : Array Value) (hw : ∀ d ∈ tables_1, d.before a0 Z = true) (ws : List Jvm.Cond) (cS : Int32) (vF : Value) (a0b : Addr) (a2s : Addr) (y : Addr) (ky : ClassId) (bs : List Value) (bn : Nat) (bf : Nat → Int32) (sv : Addr) (sk : ClassId) (ss : List Value) (sn : Nat) (sf : Nat → Int32) (h0 : Heap) (n0 : Nat) (O0 : Old Z n0 h0) (GL : GF Z cS vF) (E_a0b : Exa Z h0 a0b "java/lang/StringBuilder") (F_value_a0b : Fld Z h0 a0b "java/lang/AbstractStringBuilder" "value" "[B" (.ref y)) (F_coder_a0b : Fld Z h0 a0b "java/lang/AbstractStringBuilder" "coder" "B" (.int 1)) (F_count_a0b : Fld Z h0 a0b "java/lang/AbstractStringBuilder" "count" "I" (.int (own_n bn))) (F_maybeLatin1_a0b : Fld Z h0 a0b "java/lang/AbstractStringBuilder" "maybeLatin1" "Z" (.int 0)) (V_y : Arv Z h0 y ky .byte (32 : Int32) bs (.int 0)) (hbx : own_U bs bn bf) (hbl : bs.length = 32) (g_a0b : n0 ≤ a0b) (g_y : n0 ≤ y) (E_a2s : Exa Z h0 a2s "java/lang/String") (F_value_a2s : Fld Z h0 a2s "java/lang/String" "value" "[B" (.ref sv)) (F_coder_a2s : Fld Z h0 a2s "java/lang/String" "coder" "B" (.int 1)) (V_sv : Arv Z h0 sv sk .byte (own_n (2 * sn)) ss (.int 0)) (hsx : own_U ss sn sf) (hsum : bn + sn ≤ 8) (hb5 : bn ≤ 5) (hs5 : sn ≤ 5) :
    MF l MN_33 jdk_68_method_73_code 3 none ws (Rm 2 0 0 33) #[(.ref a0b), (.int (own_n bn)), (.ref a2s)] Z h0 (Q_rmPut11 n0 Z cS vF a0b a2s y ky bs bn bf sv sk ss sn sf h0) := by
  refine MetFree.of_bodySF (plainFor_of_name pnv4) hisR ?_
  intro p e s m args below meth c s₁ Bd hml0 hP hK
  obtain ⟨rfl, hZ, hh⟩ := hP
  have hx := Bd.exec
  have hby := Bd.bytes
  have hml : c.maxLocals = 3 := hml0
  have hown : s.vm.findClass "java/lang/AbstractStringBuilder" = some m.cls := findClass_of_methodNamed Bd.named
  have hnm := (name_of_methodNamed Bd.named Bd.method).1
  have X0 : Stand p l e (Rm 2 0 0 33) s m #[(.ref a0b), (.int (own_n bn)), (.ref a2s)] below meth c s₁ [] 0 0 := Stand.of_body Bd
  have e0 : s₁.heap = h0 := by rw [← hh, Bd.state]; rfl
  have N0 := Fr.nil n0
  have pre0 : ∀ t, SP p e below s₁ m 0 #[vr a0b, vi (own_n bn), vr a2s] [] t → Steps p.tables e below (s₁.setTop (entryFrame m #[(.ref a0b), (.int (own_n bn)), (.ref a2s)] 3)) t := fun t k => castTop (ef_rmPut00 m a0b a2s) k
  have GL' := GL
  obtain ⟨GCS, GCP, GA16, GHI, GLO, GFF, GVF⟩ := GL'
  obtain ⟨cq1, kq1, q1a, q1b, q1c⟩ := isOf hZ e0 E_a0b
  obtain ⟨_, _, ⟨T1, L1, k1, n1⟩, -, X1, ⟨Lc1, hQ1, l1, y1, z1⟩, st1⟩ := X0.virtualBack hx (y := MN_31) (z := MN_31) hown (mvT hZ (Wd hw 99 rfl)) (mvT hZ (own_decl (Wd hw 100 rfl) (Wd hw 103 rfl))) (own_nf (args := #[]) (mvT hZ (Wd hw 92 rfl)) rfl) (mvT hZ (Wd hw 102 rfl)) (mvT hZ (Wd hw 100 rfl)) (by decide) (backOf (W := 0) (rmIf11 l Z a0 hw [] cS vF a0b a2s h0 n0 O0 GL E_a0b F_coder_a0b F_coder_a2s E_a2s) hZ (Wd hw 103 rfl) (Wd hw 58 rfl) (by decide) (by decide)) q1a q1c (g := mkF m 2 #[vr a0b, vi (own_n bn), vr a2s] [(.ref a2s), (.ref a0b)]) rfl (by rw [hml]; rfl) (Steps.refl _) (argsL := [(.ref a2s)]) (rest := []) (lenOf pdv20 rfl) rfl (by show 2 * 0 + _ ≤ _; exact lEq rfl) (dG hby D15 2 rfl) (fun _ _ => ⟨rfl, e0, (by decide : 0 + 0 ≤ _), (by decide : 0 + 0 ≤ _)⟩)
  dsimp only [Pt.U, Pt.locs, Pt.cells, Pt.slots] at X1 l1 y1 z1 st1 hQ1
  subst l1 y1 z1
  obtain ⟨rfl, N1q, e1⟩ := hQ1
  have N1 := Fr.app N0 N1q
  obtain ⟨T2, X2, e2, st2⟩ := getF X1 hx hZ hown (host := "") (Or.inl (Wd hw 62 rfl)) Via.refl e1 F_value_a0b (g := mkF m 7 #[vr a0b, vi (own_n bn), vr a2s] [(.ref a0b), (.ref a2s)]) rfl rfl (dG hby D15 5 rfl)
  obtain ⟨T3, X3, e3, st3⟩ := getF X2 hx hZ hown (host := "") (Or.inl (Wd hw 64 rfl)) Via.refl e2 F_coder_a0b (g := mkF m 12 #[vr a0b, vi (own_n bn), vr a2s] [(.ref a0b), (.int (own_n bn)), (.ref y), (.ref a2s)]) rfl rfl (dG hby D15 8 rfl)
  obtain ⟨cq4, kq4, q4a, q4b, q4c⟩ := isOf hZ e3 E_a2s
  obtain ⟨_, _, ⟨T4, L4, k4, n4⟩, -, X4, ⟨Lc4, hQ4, l4, y4, z4⟩, st4⟩ := X3.virtualBack hx (y := MN_32) (z := MN_32) hown (mvT hZ (Wd hw 105 rfl)) (mvT hZ (Wd hw 106 rfl)) (notFace_of_selects (args := #[]) (mvT hZ (Wd hw 108 rfl))) (mvT hZ (Wd hw 108 rfl)) (mvT hZ (Wd hw 107 rfl)) (by decide) (backOf (W := 0) (rmGb11 l Z a0 hw [] cS vF a2s y ky bs bn sv sk ss sn h0 n0 O0 GL E_a2s F_value_a2s F_coder_a2s V_sv V_y hbl g_y hsum) hZ (Wd hw 109 rfl) (Wd hw 11 rfl) (by decide) (by decide)) q4a q4c (g := mkF m 15 #[vr a0b, vi (own_n bn), vr a2s] [(.int 1), (.int (own_n bn)), (.ref y), (.ref a2s)]) rfl (by rw [hml]; rfl) (Steps.refl _) (argsL := [(.ref y), (.int (own_n bn)), (.int 1)]) (rest := []) (lenOf pdv21 rfl) rfl (by show 2 * 0 + _ ≤ _; exact lEq rfl) (dG hby D15 9 rfl) (fun _ _ => ⟨rfl, e3, (by decide : 0 + 0 ≤ _), (by decide : 0 + 0 ≤ _)⟩)
  dsimp only [Pt.U, Pt.locs, Pt.cells, Pt.slots] at X4 l4 y4 z4 st4 hQ4
  subst l4 y4 z4
  obtain ⟨bw_4, rfl, N4q, Kc4, P4_0, P4_1⟩ := hQ4
  have K4 : Keep h0 T4.heap [y] := (Keep.refl h0 [y]).trans Kc4 (allS (Or.inl (List.mem_of_getElem? (i := 0) rfl)) all0)
  have O4 := O0.keep Kc4 (allS g_y all0)
  have N4 := Fr.app N1 N4q
  have hT : own_U bw_4 (bn + sn) (own_cat bn bf sf) := own_U_app hbx hsx P4_1
  have hTl : bw_4.length = 32 := P4_1.1.trans hbl
  obtain ⟨fs, hr, hrun, hended, hW, hsame⟩ := X4.leave (v := none) (fun _ => rfl)
  refine ⟨_, _, pre0 _ ?_, hrun, hended, _, _, rfl, ?_, ⟨_, rfl⟩, hW, hsame.mono (by decide) (by decide)⟩
  · show SP p e below s₁ m 0 #[vr a0b, vi (own_n bn), vr a2s] [] _
    refine XS.aloadN X0.here hx rfl (dG hby D15 0 rfl) rfl rfl ?_
    refine XS.aloadN X0.here hx rfl (dG hby D15 1 rfl) rfl rfl ?_
    show SP p e below s₁ m 2 #[vr a0b, vi (own_n bn), vr a2s] [(.ref a2s), (.ref a0b)] _
    refine st1.trans ?_
    show SP p e below T1 m 5 #[vr a0b, vi (own_n bn), vr a2s] [] _
    refine XS.aloadN X1.here hx rfl (dG hby D15 3 rfl) rfl rfl ?_
    refine XS.aloadN X1.here hx rfl (dG hby D15 4 rfl) rfl rfl ?_
    show SP p e below T1 m 7 #[vr a0b, vi (own_n bn), vr a2s] [(.ref a0b), (.ref a2s)] _
    refine st2 _ ?_
    show SP p e below T2 m 10 #[vr a0b, vi (own_n bn), vr a2s] [(.ref y), (.ref a2s)] _
    refine XS.iloadN X2.here hx rfl (dG hby D15 6 rfl) rfl ?_
    refine XS.aloadN X2.here hx rfl (dG hby D15 7 rfl) rfl rfl ?_
    show SP p e below T2 m 12 #[vr a0b, vi (own_n bn), vr a2s] [(.ref a0b), (.int (own_n bn)), (.ref y), (.ref a2s)] _
    refine st3 _ ?_
    show SP p e below T3 m 15 #[vr a0b, vi (own_n bn), vr a2s] [(.int 1), (.int (own_n bn)), (.ref y), (.ref a2s)] _
    refine st4.trans ?_
    show SP p e below T4 m 18 #[vr a0b, vi (own_n bn), vr a2s] [] _
    exact X4.returnOut hx Bd.returns (dG hby D15 10 rfl) hr
  · show Q_rmPut11 n0 Z cS vF a0b a2s y ky bs bn bf sv sk ss sn sf h0 _ T4.heap _
    exact ⟨bw_4, rfl, N4, K4, (E_a0b.keep Kc4), (F_value_a0b.keep Kc4 (ninS (Exa.neArv (a0 := a0) E_a0b V_y (Wd hw 49 rfl)) nin0)), (F_coder_a0b.keep Kc4 (ninS (Exa.neArv (a0 := a0) E_a0b V_y (Wd hw 49 rfl)) nin0)), (F_count_a0b.keep Kc4 (ninS (Exa.neArv (a0 := a0) E_a0b V_y (Wd hw 49 rfl)) nin0)), (F_maybeLatin1_a0b.keep Kc4 (ninS (Exa.neArv (a0 := a0) E_a0b V_y (Wd hw 49 rfl)) nin0)), P4_0, hT, hTl⟩
def Q_rmAp11 (n0 : Nat) (Z : State) (cS : Int32) (vF : Value) (a0b : Addr) (a1s : Addr) (y : Addr) (ky : ClassId) (bs : List Value) (bn : Nat) (bf : Nat → Int32) (sv : Addr) (sk : ClassId) (ss : List Value) (sn : Nat) (sf : Nat → Int32) (h0 : Heap) (v : Option Value) (h : Heap) (L : List Loc) : Prop := ∃ bw : List Value, v = some (.ref a0b) ∧ Fr n0 L ∧ Keep h0 h [a0b, y] ∧ (Exa Z h a0b "java/lang/StringBuilder") ∧ (Fld Z h a0b "java/lang/AbstractStringBuilder" "value" "[B" (.ref y)) ∧ (Fld Z h a0b "java/lang/AbstractStringBuilder" "coder" "B" (.int 1)) ∧ (Fld Z h a0b "java/lang/AbstractStringBuilder" "count" "I" (.int (own_n (bn + sn)))) ∧ (Fld Z h a0b "java/lang/AbstractStringBuilder" "maybeLatin1" "Z" (.int 0)) ∧ (Arv Z h y ky .byte (32 : Int32) bw (.int 0)) ∧ (own_U bw (bn + sn) (own_cat bn bf sf)) ∧ (bw.length = 32)
theorem rmAp11 (l : Launch) (Z : State) (a0 : Array Value) (hw : ∀ d ∈ tables_1, d.before a0 Z = true) (ws : List Jvm.Cond) (cS : Int32) (vF : Value) (a0b : Addr) (a1s : Addr) (y : Addr) (ky : ClassId) (bs : List Value) (bn : Nat) (bf : Nat → Int32) (sv : Addr) (sk : ClassId) (ss : List Value) (sn : Nat) (sf : Nat → Int32) (h0 : Heap) (n0 : Nat) (O0 : Old Z n0 h0) (GL : GF Z cS vF) (E_a0b : Exa Z h0 a0b "java/lang/StringBuilder") (F_value_a0b : Fld Z h0 a0b "java/lang/AbstractStringBuilder" "value" "[B" (.ref y)) (F_coder_a0b : Fld Z h0 a0b "java/lang/AbstractStringBuilder" "coder" "B" (.int 1)) (F_count_a0b : Fld Z h0 a0b "java/lang/AbstractStringBuilder" "count" "I" (.int (own_n bn))) (F_maybeLatin1_a0b : Fld Z h0 a0b "java/lang/AbstractStringBuilder" "maybeLatin1" "Z" (.int 0)) (V_y : Arv Z h0 y ky .byte (32 : Int32) bs (.int 0)) (hbx : own_U bs bn bf) (hbl : bs.length = 32) (g_a0b : n0 ≤ a0b) (g_y : n0 ≤ y) (E_a1s : Exa Z h0 a1s "java/lang/String") (F_value_a1s : Fld Z h0 a1s "java/lang/String" "value" "[B" (.ref sv)) (F_coder_a1s : Fld Z h0 a1s "java/lang/String" "coder" "B" (.int 1)) (V_sv : Arv Z h0 sv sk .byte (own_n (2 * sn)) ss (.int 0)) (hsx : own_U ss sn sf) (hsum : bn + sn ≤ 8) (hb5 : bn ≤ 5) (hs5 : sn ≤ 5) :
    MF l MN_34 jdk_68_method_22_code 3 (some (.object "java/lang/AbstractStringBuilder")) ws (Rm 3 0 0 47) #[(.ref a0b), (.ref a1s)] Z h0 (Q_rmAp11 n0 Z cS vF a0b a1s y ky bs bn bf sv sk ss sn sf h0) := by
  refine MetFree.of_bodySF (plainFor_of_name pnv4) hisR ?_
  intro p e s m args below meth c s₁ Bd hml0 hP hK
  obtain ⟨rfl, hZ, hh⟩ := hP
  have hx := Bd.exec
  have hby := Bd.bytes
  have hml : c.maxLocals = 3 := hml0
  have hown : s.vm.findClass "java/lang/AbstractStringBuilder" = some m.cls := findClass_of_methodNamed Bd.named
  have hnm := (name_of_methodNamed Bd.named Bd.method).1
  have X0 : Stand p l e (Rm 3 0 0 47) s m #[(.ref a0b), (.ref a1s)] below meth c s₁ [] 0 0 := Stand.of_body Bd
  have e0 : s₁.heap = h0 := by rw [← hh, Bd.state]; rfl
  have N0 := Fr.nil n0
  have pre0 : ∀ t, SP p e below s₁ m 0 #[vr a0b, vr a1s, .unset] [] t → Steps p.tables e below (s₁.setTop (entryFrame m #[(.ref a0b), (.ref a1s)] 3)) t := fun t k => castTop (ef_rmAp00 m a0b a1s) k
  have GL' := GL
  obtain ⟨GCS, GCP, GA16, GHI, GLO, GFF, GVF⟩ := GL'
  have h88 : sn ≤ 8 := (by omega)
  obtain ⟨cq1, kq1, q1a, q1b, q1c⟩ := isOf hZ e0 E_a1s
  obtain ⟨_, _, ⟨T1, L1, k1, n1⟩, -, X1, ⟨Lc1, hQ1, l1, y1, z1⟩, st1⟩ := X0.virtualBack hx (y := MN_1) (z := MN_1) hown (mvT hZ (Wd hw 76 rfl)) (mvT hZ (Wd hw 77 rfl)) (notFace_of_selects (args := #[]) (mvT hZ (Wd hw 79 rfl))) (mvT hZ (Wd hw 79 rfl)) (mvT hZ (Wd hw 78 rfl)) (by decide) (backOf (W := 0) (rmLen1 l Z a0 hw [] cS vF a1s sv sk ss sn h0 n0 O0 GL E_a1s F_value_a1s F_coder_a1s V_sv h88) hZ (Wd hw 80 rfl) (Wd hw 11 rfl) (by decide) (by decide)) q1a q1c (g := mkF m 10 #[vr a0b, vr a1s, .unset] [(.ref a1s)]) rfl (by rw [hml]; rfl) (Steps.refl _) (argsL := []) (rest := []) (lenOf pdv22 rfl) rfl (by show 2 * 0 + _ ≤ _; exact lEq rfl) (dG hby D11 3 rfl) (fun _ _ => ⟨rfl, e0, (by decide : 0 + 0 ≤ _), (by decide : 0 + 0 ≤ _)⟩)
  dsimp only [Pt.U, Pt.locs, Pt.cells, Pt.slots] at X1 l1 y1 z1 st1 hQ1
  subst l1 y1 z1
  obtain ⟨rfl, N1q, e1⟩ := hQ1
  have N1 := Fr.app N0 N1q
  obtain ⟨T2, X2, e2, st2⟩ := getF X1 hx hZ hown (host := "") (Or.inl (Wd hw 87 rfl)) Via.refl e1 F_count_a0b (g := mkF m 16 #[vr a0b, vr a1s, vi (own_n sn)] [(.ref a0b), (.ref a0b)]) rfl rfl (dG hby D11 7 rfl)
  obtain ⟨cq3, kq3, q3a, q3b, q3c⟩ := isOf hZ e2 E_a0b
  obtain ⟨_, _, ⟨T3, L3, k3, n3⟩, -, X3, ⟨Lc3, hQ3, l3, y3, z3⟩, st3⟩ := X2.virtualBack hx (y := MN_28) (z := MN_28) hown (mvT hZ (Wd hw 89 rfl)) (mvT hZ (own_decl (Wd hw 90 rfl) (Wd hw 93 rfl))) (own_nf (args := #[]) (mvT hZ (Wd hw 92 rfl)) rfl) (mvT hZ (Wd hw 92 rfl)) (mvT hZ (Wd hw 90 rfl)) (by decide) (backOf (W := 0) (rmEns1 l Z a0 hw [] cS vF a0b ((bn + sn)) y ky bs h0 n0 O0 GL E_a0b F_value_a0b F_coder_a0b V_y (own_sub_le (b := 16) (by omega) (by omega))) hZ (Wd hw 93 rfl) (Wd hw 58 rfl) (by decide) (by decide)) q3a q3c (g := mkF m 21 #[vr a0b, vr a1s, vi (own_n sn)] [(.int (own_n (bn + sn))), (.ref a0b)]) rfl (by rw [hml]; rfl) (Steps.refl _) (argsL := [(.int (own_n (bn + sn)))]) (rest := []) (lenOf pdv18 rfl) rfl (by show 2 * 0 + _ ≤ _; exact lEq rfl) (dG hby D11 10 rfl) (fun _ _ => ⟨rfl, e2, (by decide : 0 + 0 ≤ _), (by decide : 0 + 0 ≤ _)⟩)
  dsimp only [Pt.U, Pt.locs, Pt.cells, Pt.slots] at X3 l3 y3 z3 st3 hQ3
  subst l3 y3 z3
  obtain ⟨rfl, N3q, e3⟩ := hQ3
  have N3 := Fr.app N1 N3q
  obtain ⟨T4, X4, e4, st4⟩ := getF X3 hx hZ hown (host := "") (Or.inl (Wd hw 87 rfl)) Via.refl e3 F_count_a0b (g := mkF m 26 #[vr a0b, vr a1s, vi (own_n sn)] [(.ref a0b), (.ref a0b)]) rfl rfl (dG hby D11 13 rfl)
  obtain ⟨cq5, kq5, q5a, q5b, q5c⟩ := isOf hZ e4 E_a0b
  obtain ⟨_, _, ⟨T5, L5, k5, n5⟩, -, X5, ⟨Lc5, hQ5, l5, y5, z5⟩, st5⟩ := X4.virtualBack hx (y := MN_33) (z := MN_33) hown (mvT hZ (Wd hw 94 rfl)) (mvT hZ (own_decl (Wd hw 95 rfl) (Wd hw 98 rfl))) (own_nf (args := #[]) (mvT hZ (Wd hw 92 rfl)) rfl) (mvT hZ (Wd hw 97 rfl)) (mvT hZ (Wd hw 95 rfl)) (by decide) (backOf (W := 0) (rmPut11 l Z a0 hw [] cS vF a0b a1s y ky bs bn bf sv sk ss sn sf h0 n0 O0 GL E_a0b F_value_a0b F_coder_a0b F_count_a0b F_maybeLatin1_a0b V_y hbx hbl g_a0b g_y E_a1s F_value_a1s F_coder_a1s V_sv hsx hsum hb5 hs5) hZ (Wd hw 98 rfl) (Wd hw 58 rfl) (by decide) (by decide)) q5a q5c (g := mkF m 30 #[vr a0b, vr a1s, vi (own_n sn)] [(.ref a1s), (.int (own_n bn)), (.ref a0b)]) rfl (by rw [hml]; rfl) (Steps.refl _) (argsL := [(.int (own_n bn)), (.ref a1s)]) (rest := []) (lenOf pdv23 rfl) rfl (by show 2 * 0 + _ ≤ _; exact lEq rfl) (dG hby D11 15 rfl) (fun _ _ => ⟨rfl, e4, (by decide : 0 + 0 ≤ _), (by decide : 0 + 0 ≤ _)⟩)
  dsimp only [Pt.U, Pt.locs, Pt.cells, Pt.slots] at X5 l5 y5 z5 st5 hQ5
  subst l5 y5 z5
  obtain ⟨bw_5, rfl, N5q, Kc5, P5_0, P5_1, P5_2, P5_3, P5_4, P5_5, P5_6, P5_7⟩ := hQ5
  have K5 : Keep h0 T5.heap [a0b, y] := (Keep.refl h0 [a0b, y]).trans Kc5 (allS (Or.inl (List.mem_of_getElem? (i := 1) rfl)) all0)
  have O5 := O0.keep Kc5 (allS g_y all0)
  have N5 := Fr.app N3 N5q
  obtain ⟨T6, X6, e6, st6⟩ := getF X5 hx hZ hown (host := "") (Or.inl (Wd hw 87 rfl)) Via.refl rfl P5_3 (g := mkF m 35 #[vr a0b, vr a1s, vi (own_n sn)] [(.ref a0b), (.ref a0b)]) rfl rfl (dG hby D11 18 rfl)
  obtain ⟨T7, h7, X7, e7, W7, st7⟩ := putF X6 hx hZ hown (host := "") (Or.inl (Wd hw 87 rfl)) Via.refl e6 P5_3 P5_0 (Or.inl (Wd hw 88 rfl)) (Wd hw 49 rfl) (ty := .int) (by decide) rfl rfl (g := mkF m 40 #[vr a0b, vr a1s, vi (own_n sn)] [(.int (own_n (bn + sn))), (.ref a0b)]) rfl rfl (dG hby D11 21 rfl)
  have Fw7 := P5_3.same W7
  have K7 : Keep h0 h7 [a0b, y] := K5.wr W7 (Or.inl (List.mem_of_getElem? (i := 0) rfl))
  have O7 := O5.wr W7 g_a0b
  have N7 := Fr.snoc X7 N5 g_a0b
  obtain ⟨fs, hr, hrun, hended, hW, hsame⟩ := X7.leave (v := some (.ref a0b)) (fun h => by rw [Bd.returns] at h; cases h)
  refine ⟨_, _, pre0 _ ?_, hrun, hended, _, _, rfl, ?_, ⟨_, rfl⟩, hW, hsame.mono (by decide) (by decide)⟩
  · show SP p e below s₁ m 0 #[vr a0b, vr a1s, .unset] [] _
    refine XS.aloadN X0.here hx rfl (dG hby D11 0 rfl) rfl rfl ?_
    refine XS.ifnonnullYes X0.here hx rfl (pc0 := 1) (pc' := 9) rfl (dG hby D11 1 rfl) rfl (by decide) (by decide) ?_
    refine XS.aloadN X0.here hx rfl (dG hby D11 2 rfl) rfl rfl ?_
    show SP p e below s₁ m 10 #[vr a0b, vr a1s, .unset] [(.ref a1s)] _
    refine st1.trans ?_
    show SP p e below T1 m 13 #[vr a0b, vr a1s, .unset] [(.int (own_n sn))] _
    refine XS.istoreN X1.here hx rfl (dG hby D11 4 rfl) rfl (l' := #[vr a0b, vr a1s, vi (own_n sn)]) rfl ?_
    refine XS.aloadN X1.here hx rfl (dG hby D11 5 rfl) rfl rfl ?_
    refine XS.aloadN X1.here hx rfl (dG hby D11 6 rfl) rfl rfl ?_
    show SP p e below T1 m 16 #[vr a0b, vr a1s, vi (own_n sn)] [(.ref a0b), (.ref a0b)] _
    refine st2 _ ?_
    show SP p e below T2 m 19 #[vr a0b, vr a1s, vi (own_n sn)] [(.int (own_n bn)), (.ref a0b)] _
    refine XS.iloadN X2.here hx rfl (dG hby D11 8 rfl) rfl ?_
    show SP p e below T2 m 20 #[vr a0b, vr a1s, vi (own_n sn)] [(.int (own_n sn)), (.int (own_n bn)), (.ref a0b)] _
    refine XS.iadd X2.here hx rfl (dG hby D11 9 rfl) rfl ?_
    rw [own_n_add bn sn]
    show SP p e below T2 m 21 #[vr a0b, vr a1s, vi (own_n sn)] [(.int (own_n (bn + sn))), (.ref a0b)] _
    refine st3.trans ?_
    show SP p e below T3 m 24 #[vr a0b, vr a1s, vi (own_n sn)] [] _
    refine XS.aloadN X3.here hx rfl (dG hby D11 11 rfl) rfl rfl ?_
    refine XS.aloadN X3.here hx rfl (dG hby D11 12 rfl) rfl rfl ?_
    show SP p e below T3 m 26 #[vr a0b, vr a1s, vi (own_n sn)] [(.ref a0b), (.ref a0b)] _
    refine st4 _ ?_
    show SP p e below T4 m 29 #[vr a0b, vr a1s, vi (own_n sn)] [(.int (own_n bn)), (.ref a0b)] _
    refine XS.aloadN X4.here hx rfl (dG hby D11 14 rfl) rfl rfl ?_
    show SP p e below T4 m 30 #[vr a0b, vr a1s, vi (own_n sn)] [(.ref a1s), (.int (own_n bn)), (.ref a0b)] _
    refine st5.trans ?_
    show SP p e below T5 m 33 #[vr a0b, vr a1s, vi (own_n sn)] [] _
    refine XS.aloadN X5.here hx rfl (dG hby D11 16 rfl) rfl rfl ?_
    refine XS.dup X5.here hx rfl (dG hby D11 17 rfl) rfl rfl ?_
    show SP p e below T5 m 35 #[vr a0b, vr a1s, vi (own_n sn)] [(.ref a0b), (.ref a0b)] _
    refine st6 _ ?_
    show SP p e below T6 m 38 #[vr a0b, vr a1s, vi (own_n sn)] [(.int (own_n bn)), (.ref a0b)] _
    refine XS.iloadN X6.here hx rfl (dG hby D11 19 rfl) rfl ?_
    show SP p e below T6 m 39 #[vr a0b, vr a1s, vi (own_n sn)] [(.int (own_n sn)), (.int (own_n bn)), (.ref a0b)] _
    refine XS.iadd X6.here hx rfl (dG hby D11 20 rfl) rfl ?_
    rw [own_n_add bn sn]
    show SP p e below T6 m 40 #[vr a0b, vr a1s, vi (own_n sn)] [(.int (own_n (bn + sn))), (.ref a0b)] _
    refine st7 _ ?_
    show SP p e below T7 m 43 #[vr a0b, vr a1s, vi (own_n sn)] [] _
    refine XS.aloadN X7.here hx rfl (dG hby D11 22 rfl) rfl rfl ?_
    show SP p e below T7 m 44 #[vr a0b, vr a1s, vi (own_n sn)] [(.ref a0b)] _
    exact retA X7 hx Bd.returns rfl (dG hby D11 23 rfl) hr
  · show Q_rmAp11 n0 Z cS vF a0b a1s y ky bs bn bf sv sk ss sn sf h0 _ T7.heap _
    rw [e7]
    exact ⟨bw_5, rfl, N7, K7, (P5_0.wr W7), (P5_1.other W7 (Or.inr (slot_ne (a0 := a0) (Or.inl (Wd hw 63 rfl)) (Or.inl (Wd hw 88 rfl)) (by decide) (t := (.array .byte)) (t' := .int) (by decide) (by decide)))), (P5_2.other W7 (Or.inr (slot_ne (a0 := a0) (Or.inl (Wd hw 65 rfl)) (Or.inl (Wd hw 88 rfl)) (by decide) (t := .byte) (t' := .int) (by decide) (by decide)))), Fw7, (P5_4.other W7 (Or.inr (slot_ne (a0 := a0) (Or.inl (Wd hw 242 rfl)) (Or.inl (Wd hw 88 rfl)) (by decide) (t := .boolean) (t' := .int) (by decide) (by decide)))), (P5_5.other W7 (Ne.symm (Exa.neArv (a0 := a0) E_a0b V_y (Wd hw 49 rfl)))), P5_6, P5_7⟩
def Q_rmAq11 (n0 : Nat) (Z : State) (cS : Int32) (vF : Value) (a0b : Addr) (a1s : Addr) (y : Addr) (ky : ClassId) (bs : List Value) (bn : Nat) (bf : Nat → Int32) (sv : Addr) (sk : ClassId) (ss : List Value) (sn : Nat) (sf : Nat → Int32) (h0 : Heap) (v : Option Value) (h : Heap) (L : List Loc) : Prop := ∃ bw : List Value, v = some (.ref a0b) ∧ Fr n0 L ∧ Keep h0 h [a0b, y] ∧ (Exa Z h a0b "java/lang/StringBuilder") ∧ (Fld Z h a0b "java/lang/AbstractStringBuilder" "value" "[B" (.ref y)) ∧ (Fld Z h a0b "java/lang/AbstractStringBuilder" "coder" "B" (.int 1)) ∧ (Fld Z h a0b "java/lang/AbstractStringBuilder" "count" "I" (.int (own_n (bn + sn)))) ∧ (Fld Z h a0b "java/lang/AbstractStringBuilder" "maybeLatin1" "Z" (.int 0)) ∧ (Arv Z h y ky .byte (32 : Int32) bw (.int 0)) ∧ (own_U bw (bn + sn) (own_cat bn bf sf)) ∧ (bw.length = 32)
theorem rmAq11 (l : Launch) (Z : State) (a0 : Array Value) (hw : ∀ d ∈ tables_1, d.before a0 Z = true) (ws : List Jvm.Cond) (cS : Int32) (vF : Value) (a0b : Addr) (a1s : Addr) (y : Addr) (ky : ClassId) (bs : List Value) (bn : Nat) (bf : Nat → Int32) (sv : Addr) (sk : ClassId) (ss : List Value) (sn : Nat) (sf : Nat → Int32) (h0 : Heap) (n0 : Nat) (O0 : Old Z n0 h0) (GL : GF Z cS vF) (E_a0b : Exa Z h0 a0b "java/lang/StringBuilder") (F_value_a0b : Fld Z h0 a0b "java/lang/AbstractStringBuilder" "value" "[B" (.ref y)) (F_coder_a0b : Fld Z h0 a0b "java/lang/AbstractStringBuilder" "coder" "B" (.int 1)) (F_count_a0b : Fld Z h0 a0b "java/lang/AbstractStringBuilder" "count" "I" (.int (own_n bn))) (F_maybeLatin1_a0b : Fld Z h0 a0b "java/lang/AbstractStringBuilder" "maybeLatin1" "Z" (.int 0)) (V_y : Arv Z h0 y ky .byte (32 : Int32) bs (.int 0)) (hbx : own_U bs bn bf) (hbl : bs.length = 32) (g_a0b : n0 ≤ a0b) (g_y : n0 ≤ y) (E_a1s : Exa Z h0 a1s "java/lang/String") (F_value_a1s : Fld Z h0 a1s "java/lang/String" "value" "[B" (.ref sv)) (F_coder_a1s : Fld Z h0 a1s "java/lang/String" "coder" "B" (.int 1)) (V_sv : Arv Z h0 sv sk .byte (own_n (2 * sn)) ss (.int 0)) (hsx : own_U ss sn sf) (hsum : bn + sn ≤ 8) (hb5 : bn ≤ 5) (hs5 : sn ≤ 5) :
    MF l MN_35 jdk_67_method_7_code 2 (some (.object "java/lang/StringBuilder")) ws (Rm 4 0 0 61) #[(.ref a0b), (.ref a1s)] Z h0 (Q_rmAq11 n0 Z cS vF a0b a1s y ky bs bn bf sv sk ss sn sf h0) := by
  refine MetFree.of_bodySF (plainFor_of_name pnv5) hisR ?_
  intro p e s m args below meth c s₁ Bd hml0 hP hK
  obtain ⟨rfl, hZ, hh⟩ := hP
  have hx := Bd.exec
  have hby := Bd.bytes
  have hml : c.maxLocals = 2 := hml0
  have hown : s.vm.findClass "java/lang/StringBuilder" = some m.cls := findClass_of_methodNamed Bd.named
  have hnm := (name_of_methodNamed Bd.named Bd.method).1
  have X0 : Stand p l e (Rm 4 0 0 61) s m #[(.ref a0b), (.ref a1s)] below meth c s₁ [] 0 0 := Stand.of_body Bd
  have e0 : s₁.heap = h0 := by rw [← hh, Bd.state]; rfl
  have N0 := Fr.nil n0
  have pre0 : ∀ t, SP p e below s₁ m 0 #[vr a0b, vr a1s] [] t → Steps p.tables e below (s₁.setTop (entryFrame m #[(.ref a0b), (.ref a1s)] 2)) t := fun t k => castTop (ef_rmIf00 m a0b a1s) k
  have GL' := GL
  obtain ⟨GCS, GCP, GA16, GHI, GLO, GFF, GVF⟩ := GL'
  obtain ⟨_, _, ⟨T1, L1, k1, n1⟩, -, X1, ⟨Lc1, hQ1, l1, y1, z1⟩, st1⟩ := superBack X0 hx hZ (y := MN_34) hown (Wd hw 71 rfl) (own_same (Wd hw 72 rfl) (Wd hw 92 rfl) rfl (by decide)) (Wd hw 72 rfl) (Wd hw 73 rfl) (by decide) (backOf (W := 0) (rmAp11 l Z a0 hw [] cS vF a0b a1s y ky bs bn bf sv sk ss sn sf h0 n0 O0 GL E_a0b F_value_a0b F_coder_a0b F_count_a0b F_maybeLatin1_a0b V_y hbx hbl g_a0b g_y E_a1s F_value_a1s F_coder_a1s V_sv hsx hsum hb5 hs5) hZ (Wd hw 75 rfl) (Wd hw 58 rfl) (by decide) (by decide)) e0 (Ins.self E_a0b) (g := mkF m 2 #[vr a0b, vr a1s] [(.ref a1s), (.ref a0b)]) rfl (by rw [hml]; rfl) (Wd hw 75 rfl) (argsL := [(.ref a1s)]) (rest := []) (lenOf pdv24 rfl) rfl (by show 2 * 0 + _ ≤ _; exact lEq rfl) (dG hby D10 2 rfl) (fun _ _ => ⟨rfl, e0, (by decide : 0 + 0 ≤ _), (by decide : 0 + 0 ≤ _)⟩)
  dsimp only [Pt.U, Pt.locs, Pt.cells, Pt.slots] at X1 l1 y1 z1 st1 hQ1
  subst l1 y1 z1
  obtain ⟨bw_1, rfl, N1q, Kc1, P1_0, P1_1, P1_2, P1_3, P1_4, P1_5, P1_6, P1_7⟩ := hQ1
  have K1 : Keep h0 T1.heap [a0b, y] := (Keep.refl h0 [a0b, y]).trans Kc1 (allS (Or.inl (List.mem_of_getElem? (i := 0) rfl)) (allS (Or.inl (List.mem_of_getElem? (i := 1) rfl)) all0))
  have O1 := O0.keep Kc1 (allS g_a0b (allS g_y all0))
  have N1 := Fr.app N0 N1q
  obtain ⟨fs, hr, hrun, hended, hW, hsame⟩ := X1.leave (v := some (.ref a0b)) (fun h => by rw [Bd.returns] at h; cases h)
  refine ⟨_, _, pre0 _ ?_, hrun, hended, _, _, rfl, ?_, ⟨_, rfl⟩, hW, hsame.mono (by decide) (by decide)⟩
  · show SP p e below s₁ m 0 #[vr a0b, vr a1s] [] _
    refine XS.aloadN X0.here hx rfl (dG hby D10 0 rfl) rfl rfl ?_
    refine XS.aloadN X0.here hx rfl (dG hby D10 1 rfl) rfl rfl ?_
    show SP p e below s₁ m 2 #[vr a0b, vr a1s] [(.ref a1s), (.ref a0b)] _
    refine st1.trans ?_
    show SP p e below T1 m 5 #[vr a0b, vr a1s] [(.ref a0b)] _
    refine XS.pop X1.here hx rfl (dG hby D10 3 rfl) rfl rfl ?_
    refine XS.aloadN X1.here hx rfl (dG hby D10 4 rfl) rfl rfl ?_
    show SP p e below T1 m 7 #[vr a0b, vr a1s] [(.ref a0b)] _
    exact retA X1 hx Bd.returns rfl (dG hby D10 5 rfl) hr
  · show Q_rmAq11 n0 Z cS vF a0b a1s y ky bs bn bf sv sk ss sn sf h0 _ T1.heap _
    exact ⟨bw_1, rfl, N1, K1, P1_0, P1_1, P1_2, P1_3, P1_4, P1_5, P1_6, P1_7⟩
def Q_rmPut10 (n0 : Nat) (Z : State) (cS : Int32) (vF : Value) (a0b : Addr) (a2s : Addr) (y : Addr) (ky : ClassId) (bs : List Value) (bn : Nat) (bf : Nat → Int32) (sv : Addr) (sk : ClassId) (ss : List Value) (sn : Nat) (sf : Nat → Int32) (h0 : Heap) (v : Option Value) (h : Heap) (L : List Loc) : Prop := ∃ bw : List Value, v = none ∧ Fr n0 L ∧ Keep h0 h [y] ∧ (Exa Z h a0b "java/lang/StringBuilder") ∧ (Fld Z h a0b "java/lang/AbstractStringBuilder" "value" "[B" (.ref y)) ∧ (Fld Z h a0b "java/lang/AbstractStringBuilder" "coder" "B" (.int 1)) ∧ (Fld Z h a0b "java/lang/AbstractStringBuilder" "count" "I" (.int (own_n bn))) ∧ (Fld Z h a0b "java/lang/AbstractStringBuilder" "maybeLatin1" "Z" (.int 0)) ∧ (Arv Z h y ky .byte (32 : Int32) bw (.int 0)) ∧ (own_U bw (bn + sn) (own_cat bn bf sf)) ∧ (bw.length = 32)
theorem rmPut10 (l : Launch) (Z : State) (a0 : Array Value) (hw : ∀ d ∈ tables_1, d.before a0 Z = true) (ws : List Jvm.Cond) (cS : Int32) (vF : Value) (a0b : Addr) (a2s : Addr) (y : Addr) (ky : ClassId) (bs : List Value) (bn : Nat) (bf : Nat → Int32) (sv : Addr) (sk : ClassId) (ss : List Value) (sn : Nat) (sf : Nat → Int32) (h0 : Heap) (n0 : Nat) (O0 : Old Z n0 h0) (GL : GF Z cS vF) (E_a0b : Exa Z h0 a0b "java/lang/StringBuilder") (F_value_a0b : Fld Z h0 a0b "java/lang/AbstractStringBuilder" "value" "[B" (.ref y)) (F_coder_a0b : Fld Z h0 a0b "java/lang/AbstractStringBuilder" "coder" "B" (.int 1)) (F_count_a0b : Fld Z h0 a0b "java/lang/AbstractStringBuilder" "count" "I" (.int (own_n bn))) (F_maybeLatin1_a0b : Fld Z h0 a0b "java/lang/AbstractStringBuilder" "maybeLatin1" "Z" (.int 0)) (V_y : Arv Z h0 y ky .byte (32 : Int32) bs (.int 0)) (hbx : own_U bs bn bf) (hbl : bs.length = 32) (g_a0b : n0 ≤ a0b) (g_y : n0 ≤ y) (E_a2s : Exa Z h0 a2s "java/lang/String") (F_value_a2s : Fld Z h0 a2s "java/lang/String" "value" "[B" (.ref sv)) (F_coder_a2s : Fld Z h0 a2s "java/lang/String" "coder" "B" (.int 0)) (V_sv : Arv Z h0 sv sk .byte (own_n sn) ss (.int 0)) (hsx : own_L ss sn sf) (hsum : bn + sn ≤ 8) (hb5 : bn ≤ 5) (hs5 : sn ≤ 5) (ne_sv_y : sv ≠ y) :
    MF l MN_33 jdk_68_method_73_code 3 none ws (Rm 6 0 0 91) #[(.ref a0b), (.int (own_n bn)), (.ref a2s)] Z h0 (Q_rmPut10 n0 Z cS vF a0b a2s y ky bs bn bf sv sk ss sn sf h0) := by
  refine MetFree.of_bodySF (plainFor_of_name pnv4) hisR ?_
  intro p e s m args below meth c s₁ Bd hml0 hP hK
  obtain ⟨rfl, hZ, hh⟩ := hP
  have hx := Bd.exec
  have hby := Bd.bytes
  have hml : c.maxLocals = 3 := hml0
  have hown : s.vm.findClass "java/lang/AbstractStringBuilder" = some m.cls := findClass_of_methodNamed Bd.named
  have hnm := (name_of_methodNamed Bd.named Bd.method).1
  have X0 : Stand p l e (Rm 6 0 0 91) s m #[(.ref a0b), (.int (own_n bn)), (.ref a2s)] below meth c s₁ [] 0 0 := Stand.of_body Bd
  have e0 : s₁.heap = h0 := by rw [← hh, Bd.state]; rfl
  have N0 := Fr.nil n0
  have pre0 : ∀ t, SP p e below s₁ m 0 #[vr a0b, vi (own_n bn), vr a2s] [] t → Steps p.tables e below (s₁.setTop (entryFrame m #[(.ref a0b), (.int (own_n bn)), (.ref a2s)] 3)) t := fun t k => castTop (ef_rmPut00 m a0b a2s) k
  have GL' := GL
  obtain ⟨GCS, GCP, GA16, GHI, GLO, GFF, GVF⟩ := GL'
  obtain ⟨cq1, kq1, q1a, q1b, q1c⟩ := isOf hZ e0 E_a0b
  obtain ⟨_, _, ⟨T1, L1, k1, n1⟩, -, X1, ⟨Lc1, hQ1, l1, y1, z1⟩, st1⟩ := X0.virtualBack hx (y := MN_31) (z := MN_31) hown (mvT hZ (Wd hw 99 rfl)) (mvT hZ (own_decl (Wd hw 100 rfl) (Wd hw 103 rfl))) (own_nf (args := #[]) (mvT hZ (Wd hw 92 rfl)) rfl) (mvT hZ (Wd hw 102 rfl)) (mvT hZ (Wd hw 100 rfl)) (by decide) (backOf (W := 0) (rmIf10 l Z a0 hw [] cS vF a0b a2s h0 n0 O0 GL E_a0b F_coder_a0b F_coder_a2s E_a2s) hZ (Wd hw 103 rfl) (Wd hw 58 rfl) (by decide) (by decide)) q1a q1c (g := mkF m 2 #[vr a0b, vi (own_n bn), vr a2s] [(.ref a2s), (.ref a0b)]) rfl (by rw [hml]; rfl) (Steps.refl _) (argsL := [(.ref a2s)]) (rest := []) (lenOf pdv20 rfl) rfl (by show 2 * 0 + _ ≤ _; exact lEq rfl) (dG hby D15 2 rfl) (fun _ _ => ⟨rfl, e0, (by decide : 0 + 0 ≤ _), (by decide : 0 + 0 ≤ _)⟩)
  dsimp only [Pt.U, Pt.locs, Pt.cells, Pt.slots] at X1 l1 y1 z1 st1 hQ1
  subst l1 y1 z1
  obtain ⟨rfl, N1q, e1⟩ := hQ1
  have N1 := Fr.app N0 N1q
  obtain ⟨T2, X2, e2, st2⟩ := getF X1 hx hZ hown (host := "") (Or.inl (Wd hw 62 rfl)) Via.refl e1 F_value_a0b (g := mkF m 7 #[vr a0b, vi (own_n bn), vr a2s] [(.ref a0b), (.ref a2s)]) rfl rfl (dG hby D15 5 rfl)
  obtain ⟨T3, X3, e3, st3⟩ := getF X2 hx hZ hown (host := "") (Or.inl (Wd hw 64 rfl)) Via.refl e2 F_coder_a0b (g := mkF m 12 #[vr a0b, vi (own_n bn), vr a2s] [(.ref a0b), (.int (own_n bn)), (.ref y), (.ref a2s)]) rfl rfl (dG hby D15 8 rfl)
  obtain ⟨cq4, kq4, q4a, q4b, q4c⟩ := isOf hZ e3 E_a2s
  obtain ⟨_, _, ⟨T4, L4, k4, n4⟩, -, X4, ⟨Lc4, hQ4, l4, y4, z4⟩, st4⟩ := X3.virtualBack hx (y := MN_32) (z := MN_32) hown (mvT hZ (Wd hw 105 rfl)) (mvT hZ (Wd hw 106 rfl)) (notFace_of_selects (args := #[]) (mvT hZ (Wd hw 108 rfl))) (mvT hZ (Wd hw 108 rfl)) (mvT hZ (Wd hw 107 rfl)) (by decide) (backOf (W := 0) (rmGb10 l Z a0 hw [] cS vF a2s y ky bs bn sv sk ss sn sf h0 n0 O0 GL E_a2s F_value_a2s F_coder_a2s V_sv V_y hbl g_y hsum hsx ne_sv_y hs5) hZ (Wd hw 109 rfl) (Wd hw 11 rfl) (by decide) (by decide)) q4a q4c (g := mkF m 15 #[vr a0b, vi (own_n bn), vr a2s] [(.int 1), (.int (own_n bn)), (.ref y), (.ref a2s)]) rfl (by rw [hml]; rfl) (Steps.refl _) (argsL := [(.ref y), (.int (own_n bn)), (.int 1)]) (rest := []) (lenOf pdv21 rfl) rfl (by show 2 * 0 + _ ≤ _; exact lEq rfl) (dG hby D15 9 rfl) (fun _ _ => ⟨rfl, e3, (by decide : 0 + 0 ≤ _), (by decide : 0 + 0 ≤ _)⟩)
  dsimp only [Pt.U, Pt.locs, Pt.cells, Pt.slots] at X4 l4 y4 z4 st4 hQ4
  subst l4 y4 z4
  obtain ⟨rfl, N4q, Kc4, P4_0⟩ := hQ4
  have K4 : Keep h0 T4.heap [y] := (Keep.refl h0 [y]).trans Kc4 (allS (Or.inl (List.mem_of_getElem? (i := 0) rfl)) all0)
  have O4 := O0.keep Kc4 (allS g_y all0)
  have N4 := Fr.app N1 N4q
  have hT : own_U (own_inf bs bn sf sn) (bn + sn) (own_cat bn bf sf) := own_U_inf hbx hsx (by rw [hbl]; omega)
  have hTl : (own_inf bs bn sf sn).length = 32 := (own_inf_len _ _ _ _).trans hbl
  obtain ⟨fs, hr, hrun, hended, hW, hsame⟩ := X4.leave (v := none) (fun _ => rfl)
  refine ⟨_, _, pre0 _ ?_, hrun, hended, _, _, rfl, ?_, ⟨_, rfl⟩, hW, hsame.mono (by decide) (by decide)⟩
  · show SP p e below s₁ m 0 #[vr a0b, vi (own_n bn), vr a2s] [] _
    refine XS.aloadN X0.here hx rfl (dG hby D15 0 rfl) rfl rfl ?_
    refine XS.aloadN X0.here hx rfl (dG hby D15 1 rfl) rfl rfl ?_
    show SP p e below s₁ m 2 #[vr a0b, vi (own_n bn), vr a2s] [(.ref a2s), (.ref a0b)] _
    refine st1.trans ?_
    show SP p e below T1 m 5 #[vr a0b, vi (own_n bn), vr a2s] [] _
    refine XS.aloadN X1.here hx rfl (dG hby D15 3 rfl) rfl rfl ?_
    refine XS.aloadN X1.here hx rfl (dG hby D15 4 rfl) rfl rfl ?_
    show SP p e below T1 m 7 #[vr a0b, vi (own_n bn), vr a2s] [(.ref a0b), (.ref a2s)] _
    refine st2 _ ?_
    show SP p e below T2 m 10 #[vr a0b, vi (own_n bn), vr a2s] [(.ref y), (.ref a2s)] _
    refine XS.iloadN X2.here hx rfl (dG hby D15 6 rfl) rfl ?_
    refine XS.aloadN X2.here hx rfl (dG hby D15 7 rfl) rfl rfl ?_
    show SP p e below T2 m 12 #[vr a0b, vi (own_n bn), vr a2s] [(.ref a0b), (.int (own_n bn)), (.ref y), (.ref a2s)] _
    refine st3 _ ?_
    show SP p e below T3 m 15 #[vr a0b, vi (own_n bn), vr a2s] [(.int 1), (.int (own_n bn)), (.ref y), (.ref a2s)] _
    refine st4.trans ?_
    show SP p e below T4 m 18 #[vr a0b, vi (own_n bn), vr a2s] [] _
    exact X4.returnOut hx Bd.returns (dG hby D15 10 rfl) hr
  · show Q_rmPut10 n0 Z cS vF a0b a2s y ky bs bn bf sv sk ss sn sf h0 _ T4.heap _
    exact ⟨(own_inf bs bn sf sn), rfl, N4, K4, (E_a0b.keep Kc4), (F_value_a0b.keep Kc4 (ninS (Exa.neArv (a0 := a0) E_a0b V_y (Wd hw 49 rfl)) nin0)), (F_coder_a0b.keep Kc4 (ninS (Exa.neArv (a0 := a0) E_a0b V_y (Wd hw 49 rfl)) nin0)), (F_count_a0b.keep Kc4 (ninS (Exa.neArv (a0 := a0) E_a0b V_y (Wd hw 49 rfl)) nin0)), (F_maybeLatin1_a0b.keep Kc4 (ninS (Exa.neArv (a0 := a0) E_a0b V_y (Wd hw 49 rfl)) nin0)), P4_0, hT, hTl⟩
def Q_rmAp10 (n0 : Nat) (Z : State) (cS : Int32) (vF : Value) (a0b : Addr) (a1s : Addr) (y : Addr) (ky : ClassId) (bs : List Value) (bn : Nat) (bf : Nat → Int32) (sv : Addr) (sk : ClassId) (ss : List Value) (sn : Nat) (sf : Nat → Int32) (h0 : Heap) (v : Option Value) (h : Heap) (L : List Loc) : Prop := ∃ bw : List Value, v = some (.ref a0b) ∧ Fr n0 L ∧ Keep h0 h [a0b, y] ∧ (Exa Z h a0b "java/lang/StringBuilder") ∧ (Fld Z h a0b "java/lang/AbstractStringBuilder" "value" "[B" (.ref y)) ∧ (Fld Z h a0b "java/lang/AbstractStringBuilder" "coder" "B" (.int 1)) ∧ (Fld Z h a0b "java/lang/AbstractStringBuilder" "count" "I" (.int (own_n (bn + sn)))) ∧ (Fld Z h a0b "java/lang/AbstractStringBuilder" "maybeLatin1" "Z" (.int 0)) ∧ (Arv Z h y ky .byte (32 : Int32) bw (.int 0)) ∧ (own_U bw (bn + sn) (own_cat bn bf sf)) ∧ (bw.length = 32)
theorem rmAp10 (l : Launch) (Z : State) (a0 : Array Value) (hw : ∀ d ∈ tables_1, d.before a0 Z = true) (ws : List Jvm.Cond) (cS : Int32) (vF : Value) (a0b : Addr) (a1s : Addr) (y : Addr) (ky : ClassId) (bs : List Value) (bn : Nat) (bf : Nat → Int32) (sv : Addr) (sk : ClassId) (ss : List Value) (sn : Nat) (sf : Nat → Int32) (h0 : Heap) (n0 : Nat) (O0 : Old Z n0 h0) (GL : GF Z cS vF) (E_a0b : Exa Z h0 a0b "java/lang/StringBuilder") (F_value_a0b : Fld Z h0 a0b "java/lang/AbstractStringBuilder" "value" "[B" (.ref y)) (F_coder_a0b : Fld Z h0 a0b "java/lang/AbstractStringBuilder" "coder" "B" (.int 1)) (F_count_a0b : Fld Z h0 a0b "java/lang/AbstractStringBuilder" "count" "I" (.int (own_n bn))) (F_maybeLatin1_a0b : Fld Z h0 a0b "java/lang/AbstractStringBuilder" "maybeLatin1" "Z" (.int 0)) (V_y : Arv Z h0 y ky .byte (32 : Int32) bs (.int 0)) (hbx : own_U bs bn bf) (hbl : bs.length = 32) (g_a0b : n0 ≤ a0b) (g_y : n0 ≤ y) (E_a1s : Exa Z h0 a1s "java/lang/String") (F_value_a1s : Fld Z h0 a1s "java/lang/String" "value" "[B" (.ref sv)) (F_coder_a1s : Fld Z h0 a1s "java/lang/String" "coder" "B" (.int 0)) (V_sv : Arv Z h0 sv sk .byte (own_n sn) ss (.int 0)) (hsx : own_L ss sn sf) (hsum : bn + sn ≤ 8) (hb5 : bn ≤ 5) (hs5 : sn ≤ 5) (ne_sv_y : sv ≠ y) :
    MF l MN_34 jdk_68_method_22_code 3 (some (.object "java/lang/AbstractStringBuilder")) ws (Rm 7 0 0 105) #[(.ref a0b), (.ref a1s)] Z h0 (Q_rmAp10 n0 Z cS vF a0b a1s y ky bs bn bf sv sk ss sn sf h0) := by
  refine MetFree.of_bodySF (plainFor_of_name pnv4) hisR ?_
  intro p e s m args below meth c s₁ Bd hml0 hP hK
  obtain ⟨rfl, hZ, hh⟩ := hP
  have hx := Bd.exec
  have hby := Bd.bytes
  have hml : c.maxLocals = 3 := hml0
  have hown : s.vm.findClass "java/lang/AbstractStringBuilder" = some m.cls := findClass_of_methodNamed Bd.named
  have hnm := (name_of_methodNamed Bd.named Bd.method).1
  have X0 : Stand p l e (Rm 7 0 0 105) s m #[(.ref a0b), (.ref a1s)] below meth c s₁ [] 0 0 := Stand.of_body Bd
  have e0 : s₁.heap = h0 := by rw [← hh, Bd.state]; rfl
  have N0 := Fr.nil n0
  have pre0 : ∀ t, SP p e below s₁ m 0 #[vr a0b, vr a1s, .unset] [] t → Steps p.tables e below (s₁.setTop (entryFrame m #[(.ref a0b), (.ref a1s)] 3)) t := fun t k => castTop (ef_rmAp00 m a0b a1s) k
  have GL' := GL
  obtain ⟨GCS, GCP, GA16, GHI, GLO, GFF, GVF⟩ := GL'
  have h88 : sn ≤ 8 := (by omega)
  obtain ⟨cq1, kq1, q1a, q1b, q1c⟩ := isOf hZ e0 E_a1s
  obtain ⟨_, _, ⟨T1, L1, k1, n1⟩, -, X1, ⟨Lc1, hQ1, l1, y1, z1⟩, st1⟩ := X0.virtualBack hx (y := MN_1) (z := MN_1) hown (mvT hZ (Wd hw 76 rfl)) (mvT hZ (Wd hw 77 rfl)) (notFace_of_selects (args := #[]) (mvT hZ (Wd hw 79 rfl))) (mvT hZ (Wd hw 79 rfl)) (mvT hZ (Wd hw 78 rfl)) (by decide) (backOf (W := 0) (rmLen0 l Z a0 hw [] cS vF a1s sv sk ss sn h0 n0 O0 GL E_a1s F_value_a1s F_coder_a1s V_sv h88) hZ (Wd hw 80 rfl) (Wd hw 11 rfl) (by decide) (by decide)) q1a q1c (g := mkF m 10 #[vr a0b, vr a1s, .unset] [(.ref a1s)]) rfl (by rw [hml]; rfl) (Steps.refl _) (argsL := []) (rest := []) (lenOf pdv22 rfl) rfl (by show 2 * 0 + _ ≤ _; exact lEq rfl) (dG hby D11 3 rfl) (fun _ _ => ⟨rfl, e0, (by decide : 0 + 0 ≤ _), (by decide : 0 + 0 ≤ _)⟩)
  dsimp only [Pt.U, Pt.locs, Pt.cells, Pt.slots] at X1 l1 y1 z1 st1 hQ1
  subst l1 y1 z1
  obtain ⟨rfl, N1q, e1⟩ := hQ1
  have N1 := Fr.app N0 N1q
  obtain ⟨T2, X2, e2, st2⟩ := getF X1 hx hZ hown (host := "") (Or.inl (Wd hw 87 rfl)) Via.refl e1 F_count_a0b (g := mkF m 16 #[vr a0b, vr a1s, vi (own_n sn)] [(.ref a0b), (.ref a0b)]) rfl rfl (dG hby D11 7 rfl)
  obtain ⟨cq3, kq3, q3a, q3b, q3c⟩ := isOf hZ e2 E_a0b
  obtain ⟨_, _, ⟨T3, L3, k3, n3⟩, -, X3, ⟨Lc3, hQ3, l3, y3, z3⟩, st3⟩ := X2.virtualBack hx (y := MN_28) (z := MN_28) hown (mvT hZ (Wd hw 89 rfl)) (mvT hZ (own_decl (Wd hw 90 rfl) (Wd hw 93 rfl))) (own_nf (args := #[]) (mvT hZ (Wd hw 92 rfl)) rfl) (mvT hZ (Wd hw 92 rfl)) (mvT hZ (Wd hw 90 rfl)) (by decide) (backOf (W := 0) (rmEns1 l Z a0 hw [] cS vF a0b ((bn + sn)) y ky bs h0 n0 O0 GL E_a0b F_value_a0b F_coder_a0b V_y (own_sub_le (b := 16) (by omega) (by omega))) hZ (Wd hw 93 rfl) (Wd hw 58 rfl) (by decide) (by decide)) q3a q3c (g := mkF m 21 #[vr a0b, vr a1s, vi (own_n sn)] [(.int (own_n (bn + sn))), (.ref a0b)]) rfl (by rw [hml]; rfl) (Steps.refl _) (argsL := [(.int (own_n (bn + sn)))]) (rest := []) (lenOf pdv18 rfl) rfl (by show 2 * 0 + _ ≤ _; exact lEq rfl) (dG hby D11 10 rfl) (fun _ _ => ⟨rfl, e2, (by decide : 0 + 0 ≤ _), (by decide : 0 + 0 ≤ _)⟩)
  dsimp only [Pt.U, Pt.locs, Pt.cells, Pt.slots] at X3 l3 y3 z3 st3 hQ3
  subst l3 y3 z3
  obtain ⟨rfl, N3q, e3⟩ := hQ3
  have N3 := Fr.app N1 N3q
  obtain ⟨T4, X4, e4, st4⟩ := getF X3 hx hZ hown (host := "") (Or.inl (Wd hw 87 rfl)) Via.refl e3 F_count_a0b (g := mkF m 26 #[vr a0b, vr a1s, vi (own_n sn)] [(.ref a0b), (.ref a0b)]) rfl rfl (dG hby D11 13 rfl)
  obtain ⟨cq5, kq5, q5a, q5b, q5c⟩ := isOf hZ e4 E_a0b
  obtain ⟨_, _, ⟨T5, L5, k5, n5⟩, -, X5, ⟨Lc5, hQ5, l5, y5, z5⟩, st5⟩ := X4.virtualBack hx (y := MN_33) (z := MN_33) hown (mvT hZ (Wd hw 94 rfl)) (mvT hZ (own_decl (Wd hw 95 rfl) (Wd hw 98 rfl))) (own_nf (args := #[]) (mvT hZ (Wd hw 92 rfl)) rfl) (mvT hZ (Wd hw 97 rfl)) (mvT hZ (Wd hw 95 rfl)) (by decide) (backOf (W := 0) (rmPut10 l Z a0 hw [] cS vF a0b a1s y ky bs bn bf sv sk ss sn sf h0 n0 O0 GL E_a0b F_value_a0b F_coder_a0b F_count_a0b F_maybeLatin1_a0b V_y hbx hbl g_a0b g_y E_a1s F_value_a1s F_coder_a1s V_sv hsx hsum hb5 hs5 ne_sv_y) hZ (Wd hw 98 rfl) (Wd hw 58 rfl) (by decide) (by decide)) q5a q5c (g := mkF m 30 #[vr a0b, vr a1s, vi (own_n sn)] [(.ref a1s), (.int (own_n bn)), (.ref a0b)]) rfl (by rw [hml]; rfl) (Steps.refl _) (argsL := [(.int (own_n bn)), (.ref a1s)]) (rest := []) (lenOf pdv23 rfl) rfl (by show 2 * 0 + _ ≤ _; exact lEq rfl) (dG hby D11 15 rfl) (fun _ _ => ⟨rfl, e4, (by decide : 0 + 0 ≤ _), (by decide : 0 + 0 ≤ _)⟩)
  dsimp only [Pt.U, Pt.locs, Pt.cells, Pt.slots] at X5 l5 y5 z5 st5 hQ5
  subst l5 y5 z5
  obtain ⟨bw_5, rfl, N5q, Kc5, P5_0, P5_1, P5_2, P5_3, P5_4, P5_5, P5_6, P5_7⟩ := hQ5
  have K5 : Keep h0 T5.heap [a0b, y] := (Keep.refl h0 [a0b, y]).trans Kc5 (allS (Or.inl (List.mem_of_getElem? (i := 1) rfl)) all0)
  have O5 := O0.keep Kc5 (allS g_y all0)
  have N5 := Fr.app N3 N5q
  obtain ⟨T6, X6, e6, st6⟩ := getF X5 hx hZ hown (host := "") (Or.inl (Wd hw 87 rfl)) Via.refl rfl P5_3 (g := mkF m 35 #[vr a0b, vr a1s, vi (own_n sn)] [(.ref a0b), (.ref a0b)]) rfl rfl (dG hby D11 18 rfl)
  obtain ⟨T7, h7, X7, e7, W7, st7⟩ := putF X6 hx hZ hown (host := "") (Or.inl (Wd hw 87 rfl)) Via.refl e6 P5_3 P5_0 (Or.inl (Wd hw 88 rfl)) (Wd hw 49 rfl) (ty := .int) (by decide) rfl rfl (g := mkF m 40 #[vr a0b, vr a1s, vi (own_n sn)] [(.int (own_n (bn + sn))), (.ref a0b)]) rfl rfl (dG hby D11 21 rfl)
  have Fw7 := P5_3.same W7
  have K7 : Keep h0 h7 [a0b, y] := K5.wr W7 (Or.inl (List.mem_of_getElem? (i := 0) rfl))
  have O7 := O5.wr W7 g_a0b
  have N7 := Fr.snoc X7 N5 g_a0b
  obtain ⟨fs, hr, hrun, hended, hW, hsame⟩ := X7.leave (v := some (.ref a0b)) (fun h => by rw [Bd.returns] at h; cases h)
  refine ⟨_, _, pre0 _ ?_, hrun, hended, _, _, rfl, ?_, ⟨_, rfl⟩, hW, hsame.mono (by decide) (by decide)⟩
  · show SP p e below s₁ m 0 #[vr a0b, vr a1s, .unset] [] _
    refine XS.aloadN X0.here hx rfl (dG hby D11 0 rfl) rfl rfl ?_
    refine XS.ifnonnullYes X0.here hx rfl (pc0 := 1) (pc' := 9) rfl (dG hby D11 1 rfl) rfl (by decide) (by decide) ?_
    refine XS.aloadN X0.here hx rfl (dG hby D11 2 rfl) rfl rfl ?_
    show SP p e below s₁ m 10 #[vr a0b, vr a1s, .unset] [(.ref a1s)] _
    refine st1.trans ?_
    show SP p e below T1 m 13 #[vr a0b, vr a1s, .unset] [(.int (own_n sn))] _
    refine XS.istoreN X1.here hx rfl (dG hby D11 4 rfl) rfl (l' := #[vr a0b, vr a1s, vi (own_n sn)]) rfl ?_
    refine XS.aloadN X1.here hx rfl (dG hby D11 5 rfl) rfl rfl ?_
    refine XS.aloadN X1.here hx rfl (dG hby D11 6 rfl) rfl rfl ?_
    show SP p e below T1 m 16 #[vr a0b, vr a1s, vi (own_n sn)] [(.ref a0b), (.ref a0b)] _
    refine st2 _ ?_
    show SP p e below T2 m 19 #[vr a0b, vr a1s, vi (own_n sn)] [(.int (own_n bn)), (.ref a0b)] _
    refine XS.iloadN X2.here hx rfl (dG hby D11 8 rfl) rfl ?_
    show SP p e below T2 m 20 #[vr a0b, vr a1s, vi (own_n sn)] [(.int (own_n sn)), (.int (own_n bn)), (.ref a0b)] _
    refine XS.iadd X2.here hx rfl (dG hby D11 9 rfl) rfl ?_
    rw [own_n_add bn sn]
    show SP p e below T2 m 21 #[vr a0b, vr a1s, vi (own_n sn)] [(.int (own_n (bn + sn))), (.ref a0b)] _
    refine st3.trans ?_
    show SP p e below T3 m 24 #[vr a0b, vr a1s, vi (own_n sn)] [] _
    refine XS.aloadN X3.here hx rfl (dG hby D11 11 rfl) rfl rfl ?_
    refine XS.aloadN X3.here hx rfl (dG hby D11 12 rfl) rfl rfl ?_
    show SP p e below T3 m 26 #[vr a0b, vr a1s, vi (own_n sn)] [(.ref a0b), (.ref a0b)] _
    refine st4 _ ?_
    show SP p e below T4 m 29 #[vr a0b, vr a1s, vi (own_n sn)] [(.int (own_n bn)), (.ref a0b)] _
    refine XS.aloadN X4.here hx rfl (dG hby D11 14 rfl) rfl rfl ?_
    show SP p e below T4 m 30 #[vr a0b, vr a1s, vi (own_n sn)] [(.ref a1s), (.int (own_n bn)), (.ref a0b)] _
    refine st5.trans ?_
    show SP p e below T5 m 33 #[vr a0b, vr a1s, vi (own_n sn)] [] _
    refine XS.aloadN X5.here hx rfl (dG hby D11 16 rfl) rfl rfl ?_
    refine XS.dup X5.here hx rfl (dG hby D11 17 rfl) rfl rfl ?_
    show SP p e below T5 m 35 #[vr a0b, vr a1s, vi (own_n sn)] [(.ref a0b), (.ref a0b)] _
    refine st6 _ ?_
    show SP p e below T6 m 38 #[vr a0b, vr a1s, vi (own_n sn)] [(.int (own_n bn)), (.ref a0b)] _
    refine XS.iloadN X6.here hx rfl (dG hby D11 19 rfl) rfl ?_
    show SP p e below T6 m 39 #[vr a0b, vr a1s, vi (own_n sn)] [(.int (own_n sn)), (.int (own_n bn)), (.ref a0b)] _
    refine XS.iadd X6.here hx rfl (dG hby D11 20 rfl) rfl ?_
    rw [own_n_add bn sn]
    show SP p e below T6 m 40 #[vr a0b, vr a1s, vi (own_n sn)] [(.int (own_n (bn + sn))), (.ref a0b)] _
    refine st7 _ ?_
    show SP p e below T7 m 43 #[vr a0b, vr a1s, vi (own_n sn)] [] _
    refine XS.aloadN X7.here hx rfl (dG hby D11 22 rfl) rfl rfl ?_
    show SP p e below T7 m 44 #[vr a0b, vr a1s, vi (own_n sn)] [(.ref a0b)] _
    exact retA X7 hx Bd.returns rfl (dG hby D11 23 rfl) hr
  · show Q_rmAp10 n0 Z cS vF a0b a1s y ky bs bn bf sv sk ss sn sf h0 _ T7.heap _
    rw [e7]
    exact ⟨bw_5, rfl, N7, K7, (P5_0.wr W7), (P5_1.other W7 (Or.inr (slot_ne (a0 := a0) (Or.inl (Wd hw 63 rfl)) (Or.inl (Wd hw 88 rfl)) (by decide) (t := (.array .byte)) (t' := .int) (by decide) (by decide)))), (P5_2.other W7 (Or.inr (slot_ne (a0 := a0) (Or.inl (Wd hw 65 rfl)) (Or.inl (Wd hw 88 rfl)) (by decide) (t := .byte) (t' := .int) (by decide) (by decide)))), Fw7, (P5_4.other W7 (Or.inr (slot_ne (a0 := a0) (Or.inl (Wd hw 242 rfl)) (Or.inl (Wd hw 88 rfl)) (by decide) (t := .boolean) (t' := .int) (by decide) (by decide)))), (P5_5.other W7 (Ne.symm (Exa.neArv (a0 := a0) E_a0b V_y (Wd hw 49 rfl)))), P5_6, P5_7⟩
def Q_rmAq10 (n0 : Nat) (Z : State) (cS : Int32) (vF : Value) (a0b : Addr) (a1s : Addr) (y : Addr) (ky : ClassId) (bs : List Value) (bn : Nat) (bf : Nat → Int32) (sv : Addr) (sk : ClassId) (ss : List Value) (sn : Nat) (sf : Nat → Int32) (h0 : Heap) (v : Option Value) (h : Heap) (L : List Loc) : Prop := ∃ bw : List Value, v = some (.ref a0b) ∧ Fr n0 L ∧ Keep h0 h [a0b, y] ∧ (Exa Z h a0b "java/lang/StringBuilder") ∧ (Fld Z h a0b "java/lang/AbstractStringBuilder" "value" "[B" (.ref y)) ∧ (Fld Z h a0b "java/lang/AbstractStringBuilder" "coder" "B" (.int 1)) ∧ (Fld Z h a0b "java/lang/AbstractStringBuilder" "count" "I" (.int (own_n (bn + sn)))) ∧ (Fld Z h a0b "java/lang/AbstractStringBuilder" "maybeLatin1" "Z" (.int 0)) ∧ (Arv Z h y ky .byte (32 : Int32) bw (.int 0)) ∧ (own_U bw (bn + sn) (own_cat bn bf sf)) ∧ (bw.length = 32)
theorem rmAq10 (l : Launch) (Z : State) (a0 : Array Value) (hw : ∀ d ∈ tables_1, d.before a0 Z = true) (ws : List Jvm.Cond) (cS : Int32) (vF : Value) (a0b : Addr) (a1s : Addr) (y : Addr) (ky : ClassId) (bs : List Value) (bn : Nat) (bf : Nat → Int32) (sv : Addr) (sk : ClassId) (ss : List Value) (sn : Nat) (sf : Nat → Int32) (h0 : Heap) (n0 : Nat) (O0 : Old Z n0 h0) (GL : GF Z cS vF) (E_a0b : Exa Z h0 a0b "java/lang/StringBuilder") (F_value_a0b : Fld Z h0 a0b "java/lang/AbstractStringBuilder" "value" "[B" (.ref y)) (F_coder_a0b : Fld Z h0 a0b "java/lang/AbstractStringBuilder" "coder" "B" (.int 1)) (F_count_a0b : Fld Z h0 a0b "java/lang/AbstractStringBuilder" "count" "I" (.int (own_n bn))) (F_maybeLatin1_a0b : Fld Z h0 a0b "java/lang/AbstractStringBuilder" "maybeLatin1" "Z" (.int 0)) (V_y : Arv Z h0 y ky .byte (32 : Int32) bs (.int 0)) (hbx : own_U bs bn bf) (hbl : bs.length = 32) (g_a0b : n0 ≤ a0b) (g_y : n0 ≤ y) (E_a1s : Exa Z h0 a1s "java/lang/String") (F_value_a1s : Fld Z h0 a1s "java/lang/String" "value" "[B" (.ref sv)) (F_coder_a1s : Fld Z h0 a1s "java/lang/String" "coder" "B" (.int 0)) (V_sv : Arv Z h0 sv sk .byte (own_n sn) ss (.int 0)) (hsx : own_L ss sn sf) (hsum : bn + sn ≤ 8) (hb5 : bn ≤ 5) (hs5 : sn ≤ 5) (ne_sv_y : sv ≠ y) :
    MF l MN_35 jdk_67_method_7_code 2 (some (.object "java/lang/StringBuilder")) ws (Rm 8 0 0 119) #[(.ref a0b), (.ref a1s)] Z h0 (Q_rmAq10 n0 Z cS vF a0b a1s y ky bs bn bf sv sk ss sn sf h0) := by
  refine MetFree.of_bodySF (plainFor_of_name pnv5) hisR ?_
  intro p e s m args below meth c s₁ Bd hml0 hP hK
  obtain ⟨rfl, hZ, hh⟩ := hP
  have hx := Bd.exec
  have hby := Bd.bytes
  have hml : c.maxLocals = 2 := hml0
  have hown : s.vm.findClass "java/lang/StringBuilder" = some m.cls := findClass_of_methodNamed Bd.named
  have hnm := (name_of_methodNamed Bd.named Bd.method).1
  have X0 : Stand p l e (Rm 8 0 0 119) s m #[(.ref a0b), (.ref a1s)] below meth c s₁ [] 0 0 := Stand.of_body Bd
  have e0 : s₁.heap = h0 := by rw [← hh, Bd.state]; rfl
  have N0 := Fr.nil n0
  have pre0 : ∀ t, SP p e below s₁ m 0 #[vr a0b, vr a1s] [] t → Steps p.tables e below (s₁.setTop (entryFrame m #[(.ref a0b), (.ref a1s)] 2)) t := fun t k => castTop (ef_rmIf00 m a0b a1s) k
  have GL' := GL
  obtain ⟨GCS, GCP, GA16, GHI, GLO, GFF, GVF⟩ := GL'
  obtain ⟨_, _, ⟨T1, L1, k1, n1⟩, -, X1, ⟨Lc1, hQ1, l1, y1, z1⟩, st1⟩ := superBack X0 hx hZ (y := MN_34) hown (Wd hw 71 rfl) (own_same (Wd hw 72 rfl) (Wd hw 92 rfl) rfl (by decide)) (Wd hw 72 rfl) (Wd hw 73 rfl) (by decide) (backOf (W := 0) (rmAp10 l Z a0 hw [] cS vF a0b a1s y ky bs bn bf sv sk ss sn sf h0 n0 O0 GL E_a0b F_value_a0b F_coder_a0b F_count_a0b F_maybeLatin1_a0b V_y hbx hbl g_a0b g_y E_a1s F_value_a1s F_coder_a1s V_sv hsx hsum hb5 hs5 ne_sv_y) hZ (Wd hw 75 rfl) (Wd hw 58 rfl) (by decide) (by decide)) e0 (Ins.self E_a0b) (g := mkF m 2 #[vr a0b, vr a1s] [(.ref a1s), (.ref a0b)]) rfl (by rw [hml]; rfl) (Wd hw 75 rfl) (argsL := [(.ref a1s)]) (rest := []) (lenOf pdv24 rfl) rfl (by show 2 * 0 + _ ≤ _; exact lEq rfl) (dG hby D10 2 rfl) (fun _ _ => ⟨rfl, e0, (by decide : 0 + 0 ≤ _), (by decide : 0 + 0 ≤ _)⟩)
  dsimp only [Pt.U, Pt.locs, Pt.cells, Pt.slots] at X1 l1 y1 z1 st1 hQ1
  subst l1 y1 z1
  obtain ⟨bw_1, rfl, N1q, Kc1, P1_0, P1_1, P1_2, P1_3, P1_4, P1_5, P1_6, P1_7⟩ := hQ1
  have K1 : Keep h0 T1.heap [a0b, y] := (Keep.refl h0 [a0b, y]).trans Kc1 (allS (Or.inl (List.mem_of_getElem? (i := 0) rfl)) (allS (Or.inl (List.mem_of_getElem? (i := 1) rfl)) all0))
  have O1 := O0.keep Kc1 (allS g_a0b (allS g_y all0))
  have N1 := Fr.app N0 N1q
  obtain ⟨fs, hr, hrun, hended, hW, hsame⟩ := X1.leave (v := some (.ref a0b)) (fun h => by rw [Bd.returns] at h; cases h)
  refine ⟨_, _, pre0 _ ?_, hrun, hended, _, _, rfl, ?_, ⟨_, rfl⟩, hW, hsame.mono (by decide) (by decide)⟩
  · show SP p e below s₁ m 0 #[vr a0b, vr a1s] [] _
    refine XS.aloadN X0.here hx rfl (dG hby D10 0 rfl) rfl rfl ?_
    refine XS.aloadN X0.here hx rfl (dG hby D10 1 rfl) rfl rfl ?_
    show SP p e below s₁ m 2 #[vr a0b, vr a1s] [(.ref a1s), (.ref a0b)] _
    refine st1.trans ?_
    show SP p e below T1 m 5 #[vr a0b, vr a1s] [(.ref a0b)] _
    refine XS.pop X1.here hx rfl (dG hby D10 3 rfl) rfl rfl ?_
    refine XS.aloadN X1.here hx rfl (dG hby D10 4 rfl) rfl rfl ?_
    show SP p e below T1 m 7 #[vr a0b, vr a1s] [(.ref a0b)] _
    exact retA X1 hx Bd.returns rfl (dG hby D10 5 rfl) hr
  · show Q_rmAq10 n0 Z cS vF a0b a1s y ky bs bn bf sv sk ss sn sf h0 _ T1.heap _
    exact ⟨bw_1, rfl, N1, K1, P1_0, P1_1, P1_2, P1_3, P1_4, P1_5, P1_6, P1_7⟩
def Q_rmPut01 (n0 : Nat) (Z : State) (cS : Int32) (vF : Value) (a0b : Addr) (a2s : Addr) (y : Addr) (ky : ClassId) (bs : List Value) (bn : Nat) (bf : Nat → Int32) (sv : Addr) (sk : ClassId) (ss : List Value) (sn : Nat) (sf : Nat → Int32) (h0 : Heap) (v : Option Value) (h : Heap) (L : List Loc) : Prop := ∃ yw : Addr, ∃ kw : ClassId, ∃ bw : List Value, v = none ∧ Fr n0 L ∧ Keep h0 h [a0b] ∧ (h0.size ≤ yw) ∧ (Exa Z h yw "[B") ∧ (Exa Z h a0b "java/lang/StringBuilder") ∧ (Fld Z h a0b "java/lang/AbstractStringBuilder" "value" "[B" (.ref yw)) ∧ (Fld Z h a0b "java/lang/AbstractStringBuilder" "coder" "B" (.int 1)) ∧ (Fld Z h a0b "java/lang/AbstractStringBuilder" "count" "I" (.int (own_n bn))) ∧ (Fld Z h a0b "java/lang/AbstractStringBuilder" "maybeLatin1" "Z" (.int 0)) ∧ (Arv Z h yw kw .byte (32 : Int32) bw (.int 0)) ∧ (own_U bw (bn + sn) (own_cat bn bf sf)) ∧ (bw.length = 32)
theorem rmPut01 (l : Launch) (Z : State) (a0 : Array Value) (hw : ∀ d ∈ tables_1, d.before a0 Z = true) (ws : List Jvm.Cond) (cS : Int32) (vF : Value) (a0b : Addr) (a2s : Addr) (y : Addr) (ky : ClassId) (bs : List Value) (bn : Nat) (bf : Nat → Int32) (sv : Addr) (sk : ClassId) (ss : List Value) (sn : Nat) (sf : Nat → Int32) (h0 : Heap) (n0 : Nat) (O0 : Old Z n0 h0) (GL : GF Z cS vF) (E_a0b : Exa Z h0 a0b "java/lang/StringBuilder") (F_value_a0b : Fld Z h0 a0b "java/lang/AbstractStringBuilder" "value" "[B" (.ref y)) (F_coder_a0b : Fld Z h0 a0b "java/lang/AbstractStringBuilder" "coder" "B" (.int 0)) (F_count_a0b : Fld Z h0 a0b "java/lang/AbstractStringBuilder" "count" "I" (.int (own_n bn))) (F_maybeLatin1_a0b : Fld Z h0 a0b "java/lang/AbstractStringBuilder" "maybeLatin1" "Z" (.int 0)) (V_y : Arv Z h0 y ky .byte (16 : Int32) bs (.int 0)) (hbx : own_L bs bn bf) (hbl : bs.length = 16) (g_a0b : n0 ≤ a0b) (g_y : n0 ≤ y) (E_a2s : Exa Z h0 a2s "java/lang/String") (F_value_a2s : Fld Z h0 a2s "java/lang/String" "value" "[B" (.ref sv)) (F_coder_a2s : Fld Z h0 a2s "java/lang/String" "coder" "B" (.int 1)) (V_sv : Arv Z h0 sv sk .byte (own_n (2 * sn)) ss (.int 0)) (hsx : own_U ss sn sf) (hsum : bn + sn ≤ 8) (hb5 : bn ≤ 5) (hs5 : sn ≤ 5) :
    MF l MN_33 jdk_68_method_73_code 3 none ws (Rm 7 1 32 102) #[(.ref a0b), (.int (own_n bn)), (.ref a2s)] Z h0 (Q_rmPut01 n0 Z cS vF a0b a2s y ky bs bn bf sv sk ss sn sf h0) := by
  refine MetFree.of_bodySF (plainFor_of_name pnv4) hisR ?_
  intro p e s m args below meth c s₁ Bd hml0 hP hK
  obtain ⟨rfl, hZ, hh⟩ := hP
  have hx := Bd.exec
  have hby := Bd.bytes
  have hml : c.maxLocals = 3 := hml0
  have hown : s.vm.findClass "java/lang/AbstractStringBuilder" = some m.cls := findClass_of_methodNamed Bd.named
  have hnm := (name_of_methodNamed Bd.named Bd.method).1
  have X0 : Stand p l e (Rm 7 1 32 102) s m #[(.ref a0b), (.int (own_n bn)), (.ref a2s)] below meth c s₁ [] 0 0 := Stand.of_body Bd
  have e0 : s₁.heap = h0 := by rw [← hh, Bd.state]; rfl
  have N0 := Fr.nil n0
  have pre0 : ∀ t, SP p e below s₁ m 0 #[vr a0b, vi (own_n bn), vr a2s] [] t → Steps p.tables e below (s₁.setTop (entryFrame m #[(.ref a0b), (.int (own_n bn)), (.ref a2s)] 3)) t := fun t k => castTop (ef_rmPut00 m a0b a2s) k
  have GL' := GL
  obtain ⟨GCS, GCP, GA16, GHI, GLO, GFF, GVF⟩ := GL'
  obtain ⟨cq1, kq1, q1a, q1b, q1c⟩ := isOf hZ e0 E_a0b
  obtain ⟨_, _, ⟨T1, L1, k1, n1⟩, -, X1, ⟨Lc1, hQ1, l1, y1, z1⟩, st1⟩ := X0.virtualBack hx (y := MN_31) (z := MN_31) hown (mvT hZ (Wd hw 99 rfl)) (mvT hZ (own_decl (Wd hw 100 rfl) (Wd hw 103 rfl))) (own_nf (args := #[]) (mvT hZ (Wd hw 92 rfl)) rfl) (mvT hZ (Wd hw 102 rfl)) (mvT hZ (Wd hw 100 rfl)) (by decide) (backOf (W := 0) (rmIf01 l Z a0 hw [] cS vF a0b a2s y ky bs bn bf h0 n0 O0 GL E_a0b F_value_a0b F_coder_a0b F_count_a0b F_maybeLatin1_a0b V_y hbx hbl hb5 g_a0b F_coder_a2s E_a2s) hZ (Wd hw 103 rfl) (Wd hw 58 rfl) (by decide) (by decide)) q1a q1c (g := mkF m 2 #[vr a0b, vi (own_n bn), vr a2s] [(.ref a2s), (.ref a0b)]) rfl (by rw [hml]; rfl) (Steps.refl _) (argsL := [(.ref a2s)]) (rest := []) (lenOf pdv20 rfl) rfl (by show 2 * 0 + _ ≤ _; exact lEq rfl) (dG hby D15 2 rfl) (fun _ _ => ⟨rfl, e0, (by decide : 0 + 1 ≤ _), (by decide : 0 + 32 ≤ _)⟩)
  dsimp only [Pt.U, Pt.locs, Pt.cells, Pt.slots] at X1 l1 y1 z1 st1 hQ1
  subst l1 y1 z1
  obtain ⟨yw_1, kw_1, zs_1, rfl, N1q, Kc1, P1_0, P1_1, P1_2, P1_3, P1_4, P1_5, P1_6, P1_7, P1_8⟩ := hQ1
  have K1 : Keep h0 T1.heap [a0b] := (Keep.refl h0 [a0b]).trans Kc1 (allS (Or.inl (List.mem_of_getElem? (i := 0) rfl)) all0)
  have O1 := O0.keep Kc1 (allS g_a0b all0)
  have g_yw_1 : n0 ≤ yw_1 := lTr (own_sz O0) P1_0
  have sz_yw_1 : h0.size ≤ yw_1 := lTr (Keep.refl h0 [a0b]).1 P1_0
  have N1 := Fr.app N0 N1q
  obtain ⟨T2, X2, e2, st2⟩ := getF X1 hx hZ hown (host := "") (Or.inl (Wd hw 62 rfl)) Via.refl rfl P1_3 (g := mkF m 7 #[vr a0b, vi (own_n bn), vr a2s] [(.ref a0b), (.ref a2s)]) rfl rfl (dG hby D15 5 rfl)
  obtain ⟨T3, X3, e3, st3⟩ := getF X2 hx hZ hown (host := "") (Or.inl (Wd hw 64 rfl)) Via.refl e2 P1_4 (g := mkF m 12 #[vr a0b, vi (own_n bn), vr a2s] [(.ref a0b), (.int (own_n bn)), (.ref yw_1), (.ref a2s)]) rfl rfl (dG hby D15 8 rfl)
  obtain ⟨cq4, kq4, q4a, q4b, q4c⟩ := isOf hZ e3 (E_a2s.keep Kc1)
  obtain ⟨_, _, ⟨T4, L4, k4, n4⟩, -, X4, ⟨Lc4, hQ4, l4, y4, z4⟩, st4⟩ := X3.virtualBack hx (y := MN_32) (z := MN_32) hown (mvT hZ (Wd hw 105 rfl)) (mvT hZ (Wd hw 106 rfl)) (notFace_of_selects (args := #[]) (mvT hZ (Wd hw 108 rfl))) (mvT hZ (Wd hw 108 rfl)) (mvT hZ (Wd hw 107 rfl)) (by decide) (backOf (W := 0) (rmGb11 l Z a0 hw [] cS vF a2s yw_1 kw_1 ((own_inf zs_1 0 bf bn)) bn sv sk ss sn (T1.heap) n0 O1 GL (E_a2s.keep Kc1) (F_value_a2s.keep Kc1 (ninS (Exa.ne E_a2s E_a0b (by decide)) nin0)) (F_coder_a2s.keep Kc1 (ninS (Exa.ne E_a2s E_a0b (by decide)) nin0)) (V_sv.keep Kc1 (ninS (Ne.symm (Exa.neArv (a0 := a0) E_a0b V_sv (Wd hw 49 rfl))) nin0)) P1_7 ((own_inf_len _ _ _ _).trans P1_8) g_yw_1 hsum) hZ (Wd hw 109 rfl) (Wd hw 11 rfl) (by decide) (by decide)) q4a q4c (g := mkF m 15 #[vr a0b, vi (own_n bn), vr a2s] [(.int 1), (.int (own_n bn)), (.ref yw_1), (.ref a2s)]) rfl (by rw [hml]; rfl) (Steps.refl _) (argsL := [(.ref yw_1), (.int (own_n bn)), (.int 1)]) (rest := []) (lenOf pdv21 rfl) rfl (by show 2 * 0 + _ ≤ _; exact lEq rfl) (dG hby D15 9 rfl) (fun _ _ => ⟨rfl, e3, (by decide : 1 + 0 ≤ _), (by decide : 32 + 0 ≤ _)⟩)
  dsimp only [Pt.U, Pt.locs, Pt.cells, Pt.slots] at X4 l4 y4 z4 st4 hQ4
  subst l4 y4 z4
  obtain ⟨bw_4, rfl, N4q, Kc4, P4_0, P4_1⟩ := hQ4
  have K4 : Keep h0 T4.heap [a0b] := K1.trans Kc4 (allS (Or.inr sz_yw_1) all0)
  have O4 := O1.keep Kc4 (allS g_yw_1 all0)
  have N4 := Fr.app N1 N4q
  have hT : own_U bw_4 (bn + sn) (own_cat bn bf sf) := own_U_app (own_U_new hbx (by rw [P1_8]; omega)) hsx P4_1
  have hTl : bw_4.length = 32 := P4_1.1.trans ((own_inf_len _ _ _ _).trans P1_8)
  obtain ⟨fs, hr, hrun, hended, hW, hsame⟩ := X4.leave (v := none) (fun _ => rfl)
  refine ⟨_, _, pre0 _ ?_, hrun, hended, _, _, rfl, ?_, ⟨_, rfl⟩, hW, hsame.mono (by decide) (by decide)⟩
  · show SP p e below s₁ m 0 #[vr a0b, vi (own_n bn), vr a2s] [] _
    refine XS.aloadN X0.here hx rfl (dG hby D15 0 rfl) rfl rfl ?_
    refine XS.aloadN X0.here hx rfl (dG hby D15 1 rfl) rfl rfl ?_
    show SP p e below s₁ m 2 #[vr a0b, vi (own_n bn), vr a2s] [(.ref a2s), (.ref a0b)] _
    refine st1.trans ?_
    show SP p e below T1 m 5 #[vr a0b, vi (own_n bn), vr a2s] [] _
    refine XS.aloadN X1.here hx rfl (dG hby D15 3 rfl) rfl rfl ?_
    refine XS.aloadN X1.here hx rfl (dG hby D15 4 rfl) rfl rfl ?_
    show SP p e below T1 m 7 #[vr a0b, vi (own_n bn), vr a2s] [(.ref a0b), (.ref a2s)] _
    refine st2 _ ?_
    show SP p e below T2 m 10 #[vr a0b, vi (own_n bn), vr a2s] [(.ref yw_1), (.ref a2s)] _
    refine XS.iloadN X2.here hx rfl (dG hby D15 6 rfl) rfl ?_
    refine XS.aloadN X2.here hx rfl (dG hby D15 7 rfl) rfl rfl ?_
    show SP p e below T2 m 12 #[vr a0b, vi (own_n bn), vr a2s] [(.ref a0b), (.int (own_n bn)), (.ref yw_1), (.ref a2s)] _
    refine st3 _ ?_
    show SP p e below T3 m 15 #[vr a0b, vi (own_n bn), vr a2s] [(.int 1), (.int (own_n bn)), (.ref yw_1), (.ref a2s)] _
    refine st4.trans ?_
    show SP p e below T4 m 18 #[vr a0b, vi (own_n bn), vr a2s] [] _
    exact X4.returnOut hx Bd.returns (dG hby D15 10 rfl) hr
  · show Q_rmPut01 n0 Z cS vF a0b a2s y ky bs bn bf sv sk ss sn sf h0 _ T4.heap _
    exact ⟨yw_1, kw_1, bw_4, rfl, N4, K4, sz_yw_1, (P1_1.keep Kc4), (P1_2.keep Kc4), (P1_3.keep Kc4 (ninS (nLt (lLt E_a0b.lt P1_0)) nin0)), (P1_4.keep Kc4 (ninS (nLt (lLt E_a0b.lt P1_0)) nin0)), (P1_5.keep Kc4 (ninS (nLt (lLt E_a0b.lt P1_0)) nin0)), (P1_6.keep Kc4 (ninS (nLt (lLt E_a0b.lt P1_0)) nin0)), P4_0, hT, hTl⟩
def Q_rmAp01 (n0 : Nat) (Z : State) (cS : Int32) (vF : Value) (a0b : Addr) (a1s : Addr) (y : Addr) (ky : ClassId) (bs : List Value) (bn : Nat) (bf : Nat → Int32) (sv : Addr) (sk : ClassId) (ss : List Value) (sn : Nat) (sf : Nat → Int32) (h0 : Heap) (v : Option Value) (h : Heap) (L : List Loc) : Prop := ∃ yw : Addr, ∃ kw : ClassId, ∃ bw : List Value, v = some (.ref a0b) ∧ Fr n0 L ∧ Keep h0 h [a0b] ∧ (h0.size ≤ yw) ∧ (Exa Z h yw "[B") ∧ (Exa Z h a0b "java/lang/StringBuilder") ∧ (Fld Z h a0b "java/lang/AbstractStringBuilder" "value" "[B" (.ref yw)) ∧ (Fld Z h a0b "java/lang/AbstractStringBuilder" "coder" "B" (.int 1)) ∧ (Fld Z h a0b "java/lang/AbstractStringBuilder" "count" "I" (.int (own_n (bn + sn)))) ∧ (Fld Z h a0b "java/lang/AbstractStringBuilder" "maybeLatin1" "Z" (.int 0)) ∧ (Arv Z h yw kw .byte (32 : Int32) bw (.int 0)) ∧ (own_U bw (bn + sn) (own_cat bn bf sf)) ∧ (bw.length = 32)
theorem rmAp01 (l : Launch) (Z : State) (a0 : Array Value) (hw : ∀ d ∈ tables_1, d.before a0 Z = true) (ws : List Jvm.Cond) (cS : Int32) (vF : Value) (a0b : Addr) (a1s : Addr) (y : Addr) (ky : ClassId) (bs : List Value) (bn : Nat) (bf : Nat → Int32) (sv : Addr) (sk : ClassId) (ss : List Value) (sn : Nat) (sf : Nat → Int32) (h0 : Heap) (n0 : Nat) (O0 : Old Z n0 h0) (GL : GF Z cS vF) (E_a0b : Exa Z h0 a0b "java/lang/StringBuilder") (F_value_a0b : Fld Z h0 a0b "java/lang/AbstractStringBuilder" "value" "[B" (.ref y)) (F_coder_a0b : Fld Z h0 a0b "java/lang/AbstractStringBuilder" "coder" "B" (.int 0)) (F_count_a0b : Fld Z h0 a0b "java/lang/AbstractStringBuilder" "count" "I" (.int (own_n bn))) (F_maybeLatin1_a0b : Fld Z h0 a0b "java/lang/AbstractStringBuilder" "maybeLatin1" "Z" (.int 0)) (V_y : Arv Z h0 y ky .byte (16 : Int32) bs (.int 0)) (hbx : own_L bs bn bf) (hbl : bs.length = 16) (g_a0b : n0 ≤ a0b) (g_y : n0 ≤ y) (E_a1s : Exa Z h0 a1s "java/lang/String") (F_value_a1s : Fld Z h0 a1s "java/lang/String" "value" "[B" (.ref sv)) (F_coder_a1s : Fld Z h0 a1s "java/lang/String" "coder" "B" (.int 1)) (V_sv : Arv Z h0 sv sk .byte (own_n (2 * sn)) ss (.int 0)) (hsx : own_U ss sn sf) (hsum : bn + sn ≤ 8) (hb5 : bn ≤ 5) (hs5 : sn ≤ 5) :
    MF l MN_34 jdk_68_method_22_code 3 (some (.object "java/lang/AbstractStringBuilder")) ws (Rm 8 1 32 116) #[(.ref a0b), (.ref a1s)] Z h0 (Q_rmAp01 n0 Z cS vF a0b a1s y ky bs bn bf sv sk ss sn sf h0) := by
  refine MetFree.of_bodySF (plainFor_of_name pnv4) hisR ?_
  intro p e s m args below meth c s₁ Bd hml0 hP hK
  obtain ⟨rfl, hZ, hh⟩ := hP
  have hx := Bd.exec
  have hby := Bd.bytes
  have hml : c.maxLocals = 3 := hml0
  have hown : s.vm.findClass "java/lang/AbstractStringBuilder" = some m.cls := findClass_of_methodNamed Bd.named
  have hnm := (name_of_methodNamed Bd.named Bd.method).1
  have X0 : Stand p l e (Rm 8 1 32 116) s m #[(.ref a0b), (.ref a1s)] below meth c s₁ [] 0 0 := Stand.of_body Bd
  have e0 : s₁.heap = h0 := by rw [← hh, Bd.state]; rfl
  have N0 := Fr.nil n0
  have pre0 : ∀ t, SP p e below s₁ m 0 #[vr a0b, vr a1s, .unset] [] t → Steps p.tables e below (s₁.setTop (entryFrame m #[(.ref a0b), (.ref a1s)] 3)) t := fun t k => castTop (ef_rmAp00 m a0b a1s) k
  have GL' := GL
  obtain ⟨GCS, GCP, GA16, GHI, GLO, GFF, GVF⟩ := GL'
  have h88 : sn ≤ 8 := (by omega)
  obtain ⟨cq1, kq1, q1a, q1b, q1c⟩ := isOf hZ e0 E_a1s
  obtain ⟨_, _, ⟨T1, L1, k1, n1⟩, -, X1, ⟨Lc1, hQ1, l1, y1, z1⟩, st1⟩ := X0.virtualBack hx (y := MN_1) (z := MN_1) hown (mvT hZ (Wd hw 76 rfl)) (mvT hZ (Wd hw 77 rfl)) (notFace_of_selects (args := #[]) (mvT hZ (Wd hw 79 rfl))) (mvT hZ (Wd hw 79 rfl)) (mvT hZ (Wd hw 78 rfl)) (by decide) (backOf (W := 0) (rmLen1 l Z a0 hw [] cS vF a1s sv sk ss sn h0 n0 O0 GL E_a1s F_value_a1s F_coder_a1s V_sv h88) hZ (Wd hw 80 rfl) (Wd hw 11 rfl) (by decide) (by decide)) q1a q1c (g := mkF m 10 #[vr a0b, vr a1s, .unset] [(.ref a1s)]) rfl (by rw [hml]; rfl) (Steps.refl _) (argsL := []) (rest := []) (lenOf pdv22 rfl) rfl (by show 2 * 0 + _ ≤ _; exact lEq rfl) (dG hby D11 3 rfl) (fun _ _ => ⟨rfl, e0, (by decide : 0 + 0 ≤ _), (by decide : 0 + 0 ≤ _)⟩)
  dsimp only [Pt.U, Pt.locs, Pt.cells, Pt.slots] at X1 l1 y1 z1 st1 hQ1
  subst l1 y1 z1
  obtain ⟨rfl, N1q, e1⟩ := hQ1
  have N1 := Fr.app N0 N1q
  obtain ⟨T2, X2, e2, st2⟩ := getF X1 hx hZ hown (host := "") (Or.inl (Wd hw 87 rfl)) Via.refl e1 F_count_a0b (g := mkF m 16 #[vr a0b, vr a1s, vi (own_n sn)] [(.ref a0b), (.ref a0b)]) rfl rfl (dG hby D11 7 rfl)
  obtain ⟨cq3, kq3, q3a, q3b, q3c⟩ := isOf hZ e2 E_a0b
  obtain ⟨_, _, ⟨T3, L3, k3, n3⟩, -, X3, ⟨Lc3, hQ3, l3, y3, z3⟩, st3⟩ := X2.virtualBack hx (y := MN_28) (z := MN_28) hown (mvT hZ (Wd hw 89 rfl)) (mvT hZ (own_decl (Wd hw 90 rfl) (Wd hw 93 rfl))) (own_nf (args := #[]) (mvT hZ (Wd hw 92 rfl)) rfl) (mvT hZ (Wd hw 92 rfl)) (mvT hZ (Wd hw 90 rfl)) (by decide) (backOf (W := 0) (rmEns0 l Z a0 hw [] cS vF a0b ((bn + sn)) y ky bs h0 n0 O0 GL E_a0b F_value_a0b F_coder_a0b V_y (own_sub_le (b := 16) (by omega) (by omega))) hZ (Wd hw 93 rfl) (Wd hw 58 rfl) (by decide) (by decide)) q3a q3c (g := mkF m 21 #[vr a0b, vr a1s, vi (own_n sn)] [(.int (own_n (bn + sn))), (.ref a0b)]) rfl (by rw [hml]; rfl) (Steps.refl _) (argsL := [(.int (own_n (bn + sn)))]) (rest := []) (lenOf pdv18 rfl) rfl (by show 2 * 0 + _ ≤ _; exact lEq rfl) (dG hby D11 10 rfl) (fun _ _ => ⟨rfl, e2, (by decide : 0 + 0 ≤ _), (by decide : 0 + 0 ≤ _)⟩)
  dsimp only [Pt.U, Pt.locs, Pt.cells, Pt.slots] at X3 l3 y3 z3 st3 hQ3
  subst l3 y3 z3
  obtain ⟨rfl, N3q, e3⟩ := hQ3
  have N3 := Fr.app N1 N3q
  obtain ⟨T4, X4, e4, st4⟩ := getF X3 hx hZ hown (host := "") (Or.inl (Wd hw 87 rfl)) Via.refl e3 F_count_a0b (g := mkF m 26 #[vr a0b, vr a1s, vi (own_n sn)] [(.ref a0b), (.ref a0b)]) rfl rfl (dG hby D11 13 rfl)
  obtain ⟨cq5, kq5, q5a, q5b, q5c⟩ := isOf hZ e4 E_a0b
  obtain ⟨_, _, ⟨T5, L5, k5, n5⟩, -, X5, ⟨Lc5, hQ5, l5, y5, z5⟩, st5⟩ := X4.virtualBack hx (y := MN_33) (z := MN_33) hown (mvT hZ (Wd hw 94 rfl)) (mvT hZ (own_decl (Wd hw 95 rfl) (Wd hw 98 rfl))) (own_nf (args := #[]) (mvT hZ (Wd hw 92 rfl)) rfl) (mvT hZ (Wd hw 97 rfl)) (mvT hZ (Wd hw 95 rfl)) (by decide) (backOf (W := 0) (rmPut01 l Z a0 hw [] cS vF a0b a1s y ky bs bn bf sv sk ss sn sf h0 n0 O0 GL E_a0b F_value_a0b F_coder_a0b F_count_a0b F_maybeLatin1_a0b V_y hbx hbl g_a0b g_y E_a1s F_value_a1s F_coder_a1s V_sv hsx hsum hb5 hs5) hZ (Wd hw 98 rfl) (Wd hw 58 rfl) (by decide) (by decide)) q5a q5c (g := mkF m 30 #[vr a0b, vr a1s, vi (own_n sn)] [(.ref a1s), (.int (own_n bn)), (.ref a0b)]) rfl (by rw [hml]; rfl) (Steps.refl _) (argsL := [(.int (own_n bn)), (.ref a1s)]) (rest := []) (lenOf pdv23 rfl) rfl (by show 2 * 0 + _ ≤ _; exact lEq rfl) (dG hby D11 15 rfl) (fun _ _ => ⟨rfl, e4, (by decide : 0 + 1 ≤ _), (by decide : 0 + 32 ≤ _)⟩)
  dsimp only [Pt.U, Pt.locs, Pt.cells, Pt.slots] at X5 l5 y5 z5 st5 hQ5
  subst l5 y5 z5
  obtain ⟨yw_5, kw_5, bw_5, rfl, N5q, Kc5, P5_0, P5_1, P5_2, P5_3, P5_4, P5_5, P5_6, P5_7, P5_8, P5_9⟩ := hQ5
  have K5 : Keep h0 T5.heap [a0b] := (Keep.refl h0 [a0b]).trans Kc5 (allS (Or.inl (List.mem_of_getElem? (i := 0) rfl)) all0)
  have O5 := O0.keep Kc5 (allS g_a0b all0)
  have g_yw_5 : n0 ≤ yw_5 := lTr (own_sz O0) P5_0
  have sz_yw_5 : h0.size ≤ yw_5 := lTr (Keep.refl h0 [a0b]).1 P5_0
  have N5 := Fr.app N3 N5q
  obtain ⟨T6, X6, e6, st6⟩ := getF X5 hx hZ hown (host := "") (Or.inl (Wd hw 87 rfl)) Via.refl rfl P5_5 (g := mkF m 35 #[vr a0b, vr a1s, vi (own_n sn)] [(.ref a0b), (.ref a0b)]) rfl rfl (dG hby D11 18 rfl)
  obtain ⟨T7, h7, X7, e7, W7, st7⟩ := putF X6 hx hZ hown (host := "") (Or.inl (Wd hw 87 rfl)) Via.refl e6 P5_5 P5_2 (Or.inl (Wd hw 88 rfl)) (Wd hw 49 rfl) (ty := .int) (by decide) rfl rfl (g := mkF m 40 #[vr a0b, vr a1s, vi (own_n sn)] [(.int (own_n (bn + sn))), (.ref a0b)]) rfl rfl (dG hby D11 21 rfl)
  have Fw7 := P5_5.same W7
  have K7 : Keep h0 h7 [a0b] := K5.wr W7 (Or.inl (List.mem_of_getElem? (i := 0) rfl))
  have O7 := O5.wr W7 g_a0b
  have N7 := Fr.snoc X7 N5 g_a0b
  obtain ⟨fs, hr, hrun, hended, hW, hsame⟩ := X7.leave (v := some (.ref a0b)) (fun h => by rw [Bd.returns] at h; cases h)
  refine ⟨_, _, pre0 _ ?_, hrun, hended, _, _, rfl, ?_, ⟨_, rfl⟩, hW, hsame.mono (by decide) (by decide)⟩
  · show SP p e below s₁ m 0 #[vr a0b, vr a1s, .unset] [] _
    refine XS.aloadN X0.here hx rfl (dG hby D11 0 rfl) rfl rfl ?_
    refine XS.ifnonnullYes X0.here hx rfl (pc0 := 1) (pc' := 9) rfl (dG hby D11 1 rfl) rfl (by decide) (by decide) ?_
    refine XS.aloadN X0.here hx rfl (dG hby D11 2 rfl) rfl rfl ?_
    show SP p e below s₁ m 10 #[vr a0b, vr a1s, .unset] [(.ref a1s)] _
    refine st1.trans ?_
    show SP p e below T1 m 13 #[vr a0b, vr a1s, .unset] [(.int (own_n sn))] _
    refine XS.istoreN X1.here hx rfl (dG hby D11 4 rfl) rfl (l' := #[vr a0b, vr a1s, vi (own_n sn)]) rfl ?_
    refine XS.aloadN X1.here hx rfl (dG hby D11 5 rfl) rfl rfl ?_
    refine XS.aloadN X1.here hx rfl (dG hby D11 6 rfl) rfl rfl ?_
    show SP p e below T1 m 16 #[vr a0b, vr a1s, vi (own_n sn)] [(.ref a0b), (.ref a0b)] _
    refine st2 _ ?_
    show SP p e below T2 m 19 #[vr a0b, vr a1s, vi (own_n sn)] [(.int (own_n bn)), (.ref a0b)] _
    refine XS.iloadN X2.here hx rfl (dG hby D11 8 rfl) rfl ?_
    show SP p e below T2 m 20 #[vr a0b, vr a1s, vi (own_n sn)] [(.int (own_n sn)), (.int (own_n bn)), (.ref a0b)] _
    refine XS.iadd X2.here hx rfl (dG hby D11 9 rfl) rfl ?_
    rw [own_n_add bn sn]
    show SP p e below T2 m 21 #[vr a0b, vr a1s, vi (own_n sn)] [(.int (own_n (bn + sn))), (.ref a0b)] _
    refine st3.trans ?_
    show SP p e below T3 m 24 #[vr a0b, vr a1s, vi (own_n sn)] [] _
    refine XS.aloadN X3.here hx rfl (dG hby D11 11 rfl) rfl rfl ?_
    refine XS.aloadN X3.here hx rfl (dG hby D11 12 rfl) rfl rfl ?_
    show SP p e below T3 m 26 #[vr a0b, vr a1s, vi (own_n sn)] [(.ref a0b), (.ref a0b)] _
    refine st4 _ ?_
    show SP p e below T4 m 29 #[vr a0b, vr a1s, vi (own_n sn)] [(.int (own_n bn)), (.ref a0b)] _
    refine XS.aloadN X4.here hx rfl (dG hby D11 14 rfl) rfl rfl ?_
    show SP p e below T4 m 30 #[vr a0b, vr a1s, vi (own_n sn)] [(.ref a1s), (.int (own_n bn)), (.ref a0b)] _
    refine st5.trans ?_
    show SP p e below T5 m 33 #[vr a0b, vr a1s, vi (own_n sn)] [] _
    refine XS.aloadN X5.here hx rfl (dG hby D11 16 rfl) rfl rfl ?_
    refine XS.dup X5.here hx rfl (dG hby D11 17 rfl) rfl rfl ?_
    show SP p e below T5 m 35 #[vr a0b, vr a1s, vi (own_n sn)] [(.ref a0b), (.ref a0b)] _
    refine st6 _ ?_
    show SP p e below T6 m 38 #[vr a0b, vr a1s, vi (own_n sn)] [(.int (own_n bn)), (.ref a0b)] _
    refine XS.iloadN X6.here hx rfl (dG hby D11 19 rfl) rfl ?_
    show SP p e below T6 m 39 #[vr a0b, vr a1s, vi (own_n sn)] [(.int (own_n sn)), (.int (own_n bn)), (.ref a0b)] _
    refine XS.iadd X6.here hx rfl (dG hby D11 20 rfl) rfl ?_
    rw [own_n_add bn sn]
    show SP p e below T6 m 40 #[vr a0b, vr a1s, vi (own_n sn)] [(.int (own_n (bn + sn))), (.ref a0b)] _
    refine st7 _ ?_
    show SP p e below T7 m 43 #[vr a0b, vr a1s, vi (own_n sn)] [] _
    refine XS.aloadN X7.here hx rfl (dG hby D11 22 rfl) rfl rfl ?_
    show SP p e below T7 m 44 #[vr a0b, vr a1s, vi (own_n sn)] [(.ref a0b)] _
    exact retA X7 hx Bd.returns rfl (dG hby D11 23 rfl) hr
  · show Q_rmAp01 n0 Z cS vF a0b a1s y ky bs bn bf sv sk ss sn sf h0 _ T7.heap _
    rw [e7]
    exact ⟨yw_5, kw_5, bw_5, rfl, N7, K7, sz_yw_5, (P5_1.wr W7), (P5_2.wr W7), (P5_3.other W7 (Or.inr (slot_ne (a0 := a0) (Or.inl (Wd hw 63 rfl)) (Or.inl (Wd hw 88 rfl)) (by decide) (t := (.array .byte)) (t' := .int) (by decide) (by decide)))), (P5_4.other W7 (Or.inr (slot_ne (a0 := a0) (Or.inl (Wd hw 65 rfl)) (Or.inl (Wd hw 88 rfl)) (by decide) (t := .byte) (t' := .int) (by decide) (by decide)))), Fw7, (P5_6.other W7 (Or.inr (slot_ne (a0 := a0) (Or.inl (Wd hw 242 rfl)) (Or.inl (Wd hw 88 rfl)) (by decide) (t := .boolean) (t' := .int) (by decide) (by decide)))), (P5_7.other W7 (Ne.symm (nLt (lLt E_a0b.lt P5_0)))), P5_8, P5_9⟩
def Q_rmAq01 (n0 : Nat) (Z : State) (cS : Int32) (vF : Value) (a0b : Addr) (a1s : Addr) (y : Addr) (ky : ClassId) (bs : List Value) (bn : Nat) (bf : Nat → Int32) (sv : Addr) (sk : ClassId) (ss : List Value) (sn : Nat) (sf : Nat → Int32) (h0 : Heap) (v : Option Value) (h : Heap) (L : List Loc) : Prop := ∃ yw : Addr, ∃ kw : ClassId, ∃ bw : List Value, v = some (.ref a0b) ∧ Fr n0 L ∧ Keep h0 h [a0b] ∧ (h0.size ≤ yw) ∧ (Exa Z h yw "[B") ∧ (Exa Z h a0b "java/lang/StringBuilder") ∧ (Fld Z h a0b "java/lang/AbstractStringBuilder" "value" "[B" (.ref yw)) ∧ (Fld Z h a0b "java/lang/AbstractStringBuilder" "coder" "B" (.int 1)) ∧ (Fld Z h a0b "java/lang/AbstractStringBuilder" "count" "I" (.int (own_n (bn + sn)))) ∧ (Fld Z h a0b "java/lang/AbstractStringBuilder" "maybeLatin1" "Z" (.int 0)) ∧ (Arv Z h yw kw .byte (32 : Int32) bw (.int 0)) ∧ (own_U bw (bn + sn) (own_cat bn bf sf)) ∧ (bw.length = 32)
theorem rmAq01 (l : Launch) (Z : State) (a0 : Array Value) (hw : ∀ d ∈ tables_1, d.before a0 Z = true) (ws : List Jvm.Cond) (cS : Int32) (vF : Value) (a0b : Addr) (a1s : Addr) (y : Addr) (ky : ClassId) (bs : List Value) (bn : Nat) (bf : Nat → Int32) (sv : Addr) (sk : ClassId) (ss : List Value) (sn : Nat) (sf : Nat → Int32) (h0 : Heap) (n0 : Nat) (O0 : Old Z n0 h0) (GL : GF Z cS vF) (E_a0b : Exa Z h0 a0b "java/lang/StringBuilder") (F_value_a0b : Fld Z h0 a0b "java/lang/AbstractStringBuilder" "value" "[B" (.ref y)) (F_coder_a0b : Fld Z h0 a0b "java/lang/AbstractStringBuilder" "coder" "B" (.int 0)) (F_count_a0b : Fld Z h0 a0b "java/lang/AbstractStringBuilder" "count" "I" (.int (own_n bn))) (F_maybeLatin1_a0b : Fld Z h0 a0b "java/lang/AbstractStringBuilder" "maybeLatin1" "Z" (.int 0)) (V_y : Arv Z h0 y ky .byte (16 : Int32) bs (.int 0)) (hbx : own_L bs bn bf) (hbl : bs.length = 16) (g_a0b : n0 ≤ a0b) (g_y : n0 ≤ y) (E_a1s : Exa Z h0 a1s "java/lang/String") (F_value_a1s : Fld Z h0 a1s "java/lang/String" "value" "[B" (.ref sv)) (F_coder_a1s : Fld Z h0 a1s "java/lang/String" "coder" "B" (.int 1)) (V_sv : Arv Z h0 sv sk .byte (own_n (2 * sn)) ss (.int 0)) (hsx : own_U ss sn sf) (hsum : bn + sn ≤ 8) (hb5 : bn ≤ 5) (hs5 : sn ≤ 5) :
    MF l MN_35 jdk_67_method_7_code 2 (some (.object "java/lang/StringBuilder")) ws (Rm 9 1 32 130) #[(.ref a0b), (.ref a1s)] Z h0 (Q_rmAq01 n0 Z cS vF a0b a1s y ky bs bn bf sv sk ss sn sf h0) := by
  refine MetFree.of_bodySF (plainFor_of_name pnv5) hisR ?_
  intro p e s m args below meth c s₁ Bd hml0 hP hK
  obtain ⟨rfl, hZ, hh⟩ := hP
  have hx := Bd.exec
  have hby := Bd.bytes
  have hml : c.maxLocals = 2 := hml0
  have hown : s.vm.findClass "java/lang/StringBuilder" = some m.cls := findClass_of_methodNamed Bd.named
  have hnm := (name_of_methodNamed Bd.named Bd.method).1
  have X0 : Stand p l e (Rm 9 1 32 130) s m #[(.ref a0b), (.ref a1s)] below meth c s₁ [] 0 0 := Stand.of_body Bd
  have e0 : s₁.heap = h0 := by rw [← hh, Bd.state]; rfl
  have N0 := Fr.nil n0
  have pre0 : ∀ t, SP p e below s₁ m 0 #[vr a0b, vr a1s] [] t → Steps p.tables e below (s₁.setTop (entryFrame m #[(.ref a0b), (.ref a1s)] 2)) t := fun t k => castTop (ef_rmIf00 m a0b a1s) k
  have GL' := GL
  obtain ⟨GCS, GCP, GA16, GHI, GLO, GFF, GVF⟩ := GL'
  obtain ⟨_, _, ⟨T1, L1, k1, n1⟩, -, X1, ⟨Lc1, hQ1, l1, y1, z1⟩, st1⟩ := superBack X0 hx hZ (y := MN_34) hown (Wd hw 71 rfl) (own_same (Wd hw 72 rfl) (Wd hw 92 rfl) rfl (by decide)) (Wd hw 72 rfl) (Wd hw 73 rfl) (by decide) (backOf (W := 0) (rmAp01 l Z a0 hw [] cS vF a0b a1s y ky bs bn bf sv sk ss sn sf h0 n0 O0 GL E_a0b F_value_a0b F_coder_a0b F_count_a0b F_maybeLatin1_a0b V_y hbx hbl g_a0b g_y E_a1s F_value_a1s F_coder_a1s V_sv hsx hsum hb5 hs5) hZ (Wd hw 75 rfl) (Wd hw 58 rfl) (by decide) (by decide)) e0 (Ins.self E_a0b) (g := mkF m 2 #[vr a0b, vr a1s] [(.ref a1s), (.ref a0b)]) rfl (by rw [hml]; rfl) (Wd hw 75 rfl) (argsL := [(.ref a1s)]) (rest := []) (lenOf pdv24 rfl) rfl (by show 2 * 0 + _ ≤ _; exact lEq rfl) (dG hby D10 2 rfl) (fun _ _ => ⟨rfl, e0, (by decide : 0 + 1 ≤ _), (by decide : 0 + 32 ≤ _)⟩)
  dsimp only [Pt.U, Pt.locs, Pt.cells, Pt.slots] at X1 l1 y1 z1 st1 hQ1
  subst l1 y1 z1
  obtain ⟨yw_1, kw_1, bw_1, rfl, N1q, Kc1, P1_0, P1_1, P1_2, P1_3, P1_4, P1_5, P1_6, P1_7, P1_8, P1_9⟩ := hQ1
  have K1 : Keep h0 T1.heap [a0b] := (Keep.refl h0 [a0b]).trans Kc1 (allS (Or.inl (List.mem_of_getElem? (i := 0) rfl)) all0)
  have O1 := O0.keep Kc1 (allS g_a0b all0)
  have g_yw_1 : n0 ≤ yw_1 := lTr (own_sz O0) P1_0
  have sz_yw_1 : h0.size ≤ yw_1 := lTr (Keep.refl h0 [a0b]).1 P1_0
  have N1 := Fr.app N0 N1q
  obtain ⟨fs, hr, hrun, hended, hW, hsame⟩ := X1.leave (v := some (.ref a0b)) (fun h => by rw [Bd.returns] at h; cases h)
  refine ⟨_, _, pre0 _ ?_, hrun, hended, _, _, rfl, ?_, ⟨_, rfl⟩, hW, hsame.mono (by decide) (by decide)⟩
  · show SP p e below s₁ m 0 #[vr a0b, vr a1s] [] _
    refine XS.aloadN X0.here hx rfl (dG hby D10 0 rfl) rfl rfl ?_
    refine XS.aloadN X0.here hx rfl (dG hby D10 1 rfl) rfl rfl ?_
    show SP p e below s₁ m 2 #[vr a0b, vr a1s] [(.ref a1s), (.ref a0b)] _
    refine st1.trans ?_
    show SP p e below T1 m 5 #[vr a0b, vr a1s] [(.ref a0b)] _
    refine XS.pop X1.here hx rfl (dG hby D10 3 rfl) rfl rfl ?_
    refine XS.aloadN X1.here hx rfl (dG hby D10 4 rfl) rfl rfl ?_
    show SP p e below T1 m 7 #[vr a0b, vr a1s] [(.ref a0b)] _
    exact retA X1 hx Bd.returns rfl (dG hby D10 5 rfl) hr
  · show Q_rmAq01 n0 Z cS vF a0b a1s y ky bs bn bf sv sk ss sn sf h0 _ T1.heap _
    exact ⟨yw_1, kw_1, bw_1, rfl, N1, K1, sz_yw_1, P1_1, P1_2, P1_3, P1_4, P1_5, P1_6, P1_7, P1_8, P1_9⟩
theorem D21 : dL jdk_68_method_64_code [(0, .aload_n 0, 1), (1, .getfield 15, 3), (4, .areturn, 1)] = true := by decide +kernel
abbrev MN_36 : MethodName := ⟨"java/lang/AbstractStringBuilder", "getValue", "()[B"⟩
def Q_rmGv (n0 : Nat) (Z : State) (cS : Int32) (vF : Value) (a0b : Addr) (y : Addr) (h0 : Heap) (v : Option Value) (h : Heap) (L : List Loc) : Prop := v = some (.ref y) ∧ Fr n0 L ∧ h = h0
theorem rmGv (l : Launch) (Z : State) (a0 : Array Value) (hw : ∀ d ∈ tables_1, d.before a0 Z = true) (ws : List Jvm.Cond) (cS : Int32) (vF : Value) (a0b : Addr) (y : Addr) (h0 : Heap) (n0 : Nat) (O0 : Old Z n0 h0) (GL : GF Z cS vF) (E_a0b : Exa Z h0 a0b "java/lang/StringBuilder") (F_value_a0b : Fld Z h0 a0b "java/lang/AbstractStringBuilder" "value" "[B" (.ref y)) :
    MF l MN_36 jdk_68_method_64_code 1 (some (.array .byte)) ws (Rm 0 0 0 0) #[(.ref a0b)] Z h0 (Q_rmGv n0 Z cS vF a0b y h0) := by
  refine MetFree.of_bodySF (plainFor_of_name pnv4) hisR ?_
  intro p e s m args below meth c s₁ Bd hml0 hP hK
  obtain ⟨rfl, hZ, hh⟩ := hP
  have hx := Bd.exec
  have hby := Bd.bytes
  have hml : c.maxLocals = 1 := hml0
  have hown : s.vm.findClass "java/lang/AbstractStringBuilder" = some m.cls := findClass_of_methodNamed Bd.named
  have hnm := (name_of_methodNamed Bd.named Bd.method).1
  have X0 : Stand p l e (Rm 0 0 0 0) s m #[(.ref a0b)] below meth c s₁ [] 0 0 := Stand.of_body Bd
  have e0 : s₁.heap = h0 := by rw [← hh, Bd.state]; rfl
  have N0 := Fr.nil n0
  have pre0 : ∀ t, SP p e below s₁ m 0 #[vr a0b] [] t → Steps p.tables e below (s₁.setTop (entryFrame m #[(.ref a0b)] 1)) t := fun t k => castTop (ef_rmUl0 m a0b) k
  have GL' := GL
  obtain ⟨GCS, GCP, GA16, GHI, GLO, GFF, GVF⟩ := GL'
  obtain ⟨T1, X1, e1, st1⟩ := getF X0 hx hZ hown (host := "") (Or.inl (Wd hw 62 rfl)) Via.refl e0 F_value_a0b (g := mkF m 1 #[vr a0b] [(.ref a0b)]) rfl rfl (dG hby D21 1 rfl)
  obtain ⟨fs, hr, hrun, hended, hW, hsame⟩ := X1.leave (v := some (.ref y)) (fun h => by rw [Bd.returns] at h; cases h)
  refine ⟨_, _, pre0 _ ?_, hrun, hended, _, _, rfl, ?_, ⟨_, rfl⟩, hW, hsame.mono (by decide) (by decide)⟩
  · show SP p e below s₁ m 0 #[vr a0b] [] _
    refine XS.aloadN X0.here hx rfl (dG hby D21 0 rfl) rfl rfl ?_
    show SP p e below s₁ m 1 #[vr a0b] [(.ref a0b)] _
    refine st1 _ ?_
    show SP p e below T1 m 4 #[vr a0b] [(.ref y)] _
    exact retA X1 hx Bd.returns rfl (dG hby D21 2 rfl) hr
  · show Q_rmGv n0 Z cS vF a0b y h0 _ T1.heap _
    rw [e1]
    exact ⟨rfl, N0, rfl⟩
theorem D23 : dL jdk_68_method_6_code [(0, .aload_n 0, 1), (1, .getfield 79, 3), (4, .ireturn, 1)] = true := by decide +kernel
abbrev MN_37 : MethodName := ⟨"java/lang/AbstractStringBuilder", "length", "()I"⟩
def Q_rmAl (n0 : Nat) (Z : State) (cS : Int32) (vF : Value) (a0b : Addr) (kc : Int32) (h0 : Heap) (v : Option Value) (h : Heap) (L : List Loc) : Prop := v = some (.int kc) ∧ Fr n0 L ∧ h = h0
theorem rmAl (l : Launch) (Z : State) (a0 : Array Value) (hw : ∀ d ∈ tables_1, d.before a0 Z = true) (ws : List Jvm.Cond) (cS : Int32) (vF : Value) (a0b : Addr) (kc : Int32) (h0 : Heap) (n0 : Nat) (O0 : Old Z n0 h0) (GL : GF Z cS vF) (E_a0b : Exa Z h0 a0b "java/lang/StringBuilder") (F_count_a0b : Fld Z h0 a0b "java/lang/AbstractStringBuilder" "count" "I" (.int kc)) :
    MF l MN_37 jdk_68_method_6_code 1 (some .int) ws (Rm 0 0 0 0) #[(.ref a0b)] Z h0 (Q_rmAl n0 Z cS vF a0b kc h0) := by
  refine MetFree.of_bodySF (plainFor_of_name pnv4) hisR ?_
  intro p e s m args below meth c s₁ Bd hml0 hP hK
  obtain ⟨rfl, hZ, hh⟩ := hP
  have hx := Bd.exec
  have hby := Bd.bytes
  have hml : c.maxLocals = 1 := hml0
  have hown : s.vm.findClass "java/lang/AbstractStringBuilder" = some m.cls := findClass_of_methodNamed Bd.named
  have hnm := (name_of_methodNamed Bd.named Bd.method).1
  have X0 : Stand p l e (Rm 0 0 0 0) s m #[(.ref a0b)] below meth c s₁ [] 0 0 := Stand.of_body Bd
  have e0 : s₁.heap = h0 := by rw [← hh, Bd.state]; rfl
  have N0 := Fr.nil n0
  have pre0 : ∀ t, SP p e below s₁ m 0 #[vr a0b] [] t → Steps p.tables e below (s₁.setTop (entryFrame m #[(.ref a0b)] 1)) t := fun t k => castTop (ef_rmUl0 m a0b) k
  have GL' := GL
  obtain ⟨GCS, GCP, GA16, GHI, GLO, GFF, GVF⟩ := GL'
  obtain ⟨T1, X1, e1, st1⟩ := getF X0 hx hZ hown (host := "") (Or.inl (Wd hw 87 rfl)) Via.refl e0 F_count_a0b (g := mkF m 1 #[vr a0b] [(.ref a0b)]) rfl rfl (dG hby D23 1 rfl)
  obtain ⟨fs, hr, hrun, hended, hW, hsame⟩ := X1.leave (v := some (.int kc)) (fun h => by rw [Bd.returns] at h; cases h)
  refine ⟨_, _, pre0 _ ?_, hrun, hended, _, _, rfl, ?_, ⟨_, rfl⟩, hW, hsame.mono (by decide) (by decide)⟩
  · show SP p e below s₁ m 0 #[vr a0b] [] _
    refine XS.aloadN X0.here hx rfl (dG hby D23 0 rfl) rfl rfl ?_
    show SP p e below s₁ m 1 #[vr a0b] [(.ref a0b)] _
    refine st1 _ ?_
    show SP p e below T1 m 4 #[vr a0b] [(.int kc)] _
    exact retI X1 hx Bd.returns (dG hby D23 2 rfl) hr
  · show Q_rmAl n0 Z cS vF a0b kc h0 _ T1.heap _
    rw [e1]
    exact ⟨rfl, N0, rfl⟩
theorem D22 : dL jdk_67_method_93_code [(0, .aload_n 0, 1), (1, .invokespecial 343, 3), (4, .ireturn, 1)] = true := by decide +kernel
abbrev MN_38 : MethodName := ⟨"java/lang/StringBuilder", "length", "()I"⟩
def Q_rmSl (n0 : Nat) (Z : State) (cS : Int32) (vF : Value) (a0b : Addr) (kc : Int32) (h0 : Heap) (v : Option Value) (h : Heap) (L : List Loc) : Prop := v = some (.int kc) ∧ Fr n0 L ∧ h = h0
theorem rmSl (l : Launch) (Z : State) (a0 : Array Value) (hw : ∀ d ∈ tables_1, d.before a0 Z = true) (ws : List Jvm.Cond) (cS : Int32) (vF : Value) (a0b : Addr) (kc : Int32) (h0 : Heap) (n0 : Nat) (O0 : Old Z n0 h0) (GL : GF Z cS vF) (E_a0b : Exa Z h0 a0b "java/lang/StringBuilder") (F_count_a0b : Fld Z h0 a0b "java/lang/AbstractStringBuilder" "count" "I" (.int kc)) :
    MF l MN_38 jdk_67_method_93_code 1 (some .int) ws (Rm 1 0 0 12) #[(.ref a0b)] Z h0 (Q_rmSl n0 Z cS vF a0b kc h0) := by
  refine MetFree.of_bodySF (plainFor_of_name pnv5) hisR ?_
  intro p e s m args below meth c s₁ Bd hml0 hP hK
  obtain ⟨rfl, hZ, hh⟩ := hP
  have hx := Bd.exec
  have hby := Bd.bytes
  have hml : c.maxLocals = 1 := hml0
  have hown : s.vm.findClass "java/lang/StringBuilder" = some m.cls := findClass_of_methodNamed Bd.named
  have hnm := (name_of_methodNamed Bd.named Bd.method).1
  have X0 : Stand p l e (Rm 1 0 0 12) s m #[(.ref a0b)] below meth c s₁ [] 0 0 := Stand.of_body Bd
  have e0 : s₁.heap = h0 := by rw [← hh, Bd.state]; rfl
  have N0 := Fr.nil n0
  have pre0 : ∀ t, SP p e below s₁ m 0 #[vr a0b] [] t → Steps p.tables e below (s₁.setTop (entryFrame m #[(.ref a0b)] 1)) t := fun t k => castTop (ef_rmUl0 m a0b) k
  have GL' := GL
  obtain ⟨GCS, GCP, GA16, GHI, GLO, GFF, GVF⟩ := GL'
  obtain ⟨_, _, ⟨T1, L1, k1, n1⟩, -, X1, ⟨Lc1, hQ1, l1, y1, z1⟩, st1⟩ := superBack X0 hx hZ (y := MN_37) hown (Wd hw 138 rfl) (own_same (Wd hw 134 rfl) (Wd hw 92 rfl) rfl (by decide)) (Wd hw 134 rfl) (Wd hw 73 rfl) (by decide) (backOf (W := 0) (rmAl l Z a0 hw [] cS vF a0b kc h0 n0 O0 GL E_a0b F_count_a0b) hZ (Wd hw 139 rfl) (Wd hw 58 rfl) (by decide) (by decide)) e0 (Ins.self E_a0b) (g := mkF m 1 #[vr a0b] [(.ref a0b)]) rfl (by rw [hml]; rfl) (Wd hw 139 rfl) (argsL := []) (rest := []) (lenOf pdv22 rfl) rfl (by show 2 * 0 + _ ≤ _; exact lEq rfl) (dG hby D22 1 rfl) (fun _ _ => ⟨rfl, e0, (by decide : 0 + 0 ≤ _), (by decide : 0 + 0 ≤ _)⟩)
  dsimp only [Pt.U, Pt.locs, Pt.cells, Pt.slots] at X1 l1 y1 z1 st1 hQ1
  subst l1 y1 z1
  obtain ⟨rfl, N1q, e1⟩ := hQ1
  have N1 := Fr.app N0 N1q
  obtain ⟨fs, hr, hrun, hended, hW, hsame⟩ := X1.leave (v := some (.int kc)) (fun h => by rw [Bd.returns] at h; cases h)
  refine ⟨_, _, pre0 _ ?_, hrun, hended, _, _, rfl, ?_, ⟨_, rfl⟩, hW, hsame.mono (by decide) (by decide)⟩
  · show SP p e below s₁ m 0 #[vr a0b] [] _
    refine XS.aloadN X0.here hx rfl (dG hby D22 0 rfl) rfl rfl ?_
    show SP p e below s₁ m 1 #[vr a0b] [(.ref a0b)] _
    refine st1.trans ?_
    show SP p e below T1 m 4 #[vr a0b] [(.int kc)] _
    exact retI X1 hx Bd.returns (dG hby D22 2 rfl) hr
  · show Q_rmSl n0 Z cS vF a0b kc h0 _ T1.heap _
    rw [e1]
    exact ⟨rfl, N1, rfl⟩
theorem D27 : dL jdk_65_method_131_code [(0, .iload_n 1, 1), (1, .iload_n 0, 1), (2, .if_icmp .ge 35, 3), (37, .return_, 1)] = true := by decide +kernel
theorem pnv6 : plainName "java/util/Arrays" = true := by first | (simp [plainName, overriddenIn]; done) | decide +kernel
abbrev MN_39 : MethodName := ⟨"java/util/Arrays", "checkLength", "(II)V"⟩
theorem ef_rmCl (m : MethodId) (p1 : Int32) : entryFrame m #[(.int 0), (.int p1)] 2 = mkF m 0 #[vi (0 : Int32), vi p1] [] := by first | (simp [entryFrame, mkF, argsToLocals, Value.category]; done) | rfl
def Q_rmCl (n0 : Nat) (Z : State) (cS : Int32) (vF : Value) (p1 : Int32) (h0 : Heap) (v : Option Value) (h : Heap) (L : List Loc) : Prop := v = none ∧ Fr n0 L ∧ h = h0
theorem rmCl (l : Launch) (Z : State) (a0 : Array Value) (hw : ∀ d ∈ tables_1, d.before a0 Z = true) (ws : List Jvm.Cond) (cS : Int32) (vF : Value) (p1 : Int32) (h0 : Heap) (n0 : Nat) (O0 : Old Z n0 h0) (GL : GF Z cS vF) (hp0 : ¬ (p1 < (0 : Int32))) :
    MF l MN_39 jdk_65_method_131_code 2 none ws (Rm 0 0 0 0) #[(.int 0), (.int p1)] Z h0 (Q_rmCl n0 Z cS vF p1 h0) := by
  refine MetFree.of_bodySF (plainFor_of_name pnv6) hisR ?_
  intro p e s m args below meth c s₁ Bd hml0 hP hK
  obtain ⟨rfl, hZ, hh⟩ := hP
  have hx := Bd.exec
  have hby := Bd.bytes
  have hml : c.maxLocals = 2 := hml0
  have hown : s.vm.findClass "java/util/Arrays" = some m.cls := findClass_of_methodNamed Bd.named
  have hnm := (name_of_methodNamed Bd.named Bd.method).1
  have X0 : Stand p l e (Rm 0 0 0 0) s m #[(.int 0), (.int p1)] below meth c s₁ [] 0 0 := Stand.of_body Bd
  have e0 : s₁.heap = h0 := by rw [← hh, Bd.state]; rfl
  have N0 := Fr.nil n0
  have pre0 : ∀ t, SP p e below s₁ m 0 #[vi (0 : Int32), vi p1] [] t → Steps p.tables e below (s₁.setTop (entryFrame m #[(.int 0), (.int p1)] 2)) t := fun t k => castTop (ef_rmCl m p1) k
  have GL' := GL
  obtain ⟨GCS, GCP, GA16, GHI, GLO, GFF, GVF⟩ := GL'
  obtain ⟨fs, hr, hrun, hended, hW, hsame⟩ := X0.leave (v := none) (fun _ => rfl)
  refine ⟨_, _, pre0 _ ?_, hrun, hended, _, _, rfl, ?_, ⟨_, rfl⟩, hW, hsame.mono (by decide) (by decide)⟩
  · show SP p e below s₁ m 0 #[vi (0 : Int32), vi p1] [] _
    refine XS.iloadN X0.here hx rfl (dG hby D27 0 rfl) rfl ?_
    refine XS.iloadN X0.here hx rfl (dG hby D27 1 rfl) rfl ?_
    refine XS.icmpYes X0.here hx rfl (pc0 := 2) (pc' := 37) rfl (dG hby D27 2 rfl) rfl (flt hp0).2.1 (by decide) (by decide) ?_
    show SP p e below s₁ m 37 #[vi (0 : Int32), vi p1] [] _
    exact X0.returnOut hx Bd.returns (dG hby D27 3 rfl) hr
  · show Q_rmCl n0 Z cS vF p1 h0 _ s₁.heap _
    rw [e0]
    exact ⟨rfl, N0, rfl⟩
theorem D26 : dL jdk_65_method_133_code [(0, .iload_n 1, 1), (1, .iload_n 2, 1), (2, .invokestatic 343, 3), (5, .iload_n 2, 1), (6, .iload_n 1, 1), (7, .isub, 1), (8, .istore_n 3, 1), (9, .iload_n 3, 1), (10, .newarray .byte, 2), (12, .astore 4, 2), (14, .aload_n 0, 1), (15, .iload_n 1, 1), (16, .aload 4, 2), (18, .iconst 0, 1), (19, .aload_n 0, 1), (20, .arraylength, 1), (21, .iload_n 1, 1), (22, .isub, 1), (23, .iload_n 3, 1), (24, .invokestatic 304, 3), (27, .invokestatic 150, 3), (30, .aload 4, 2), (32, .areturn, 1)] = true := by decide +kernel
theorem pdv25 : parseMethodDescriptor "(II)I" = some ⟨[.int, .int], some .int⟩ := by decide +kernel
abbrev MN_40 : MethodName := ⟨"java/util/Arrays", "copyOfRangeByte", "([BII)[B"⟩
theorem ef_rmCrb16 (m : MethodId) (a0d : Addr) {cm : Nat} : entryFrame m #[(.ref a0d), (.int 0), (.int (own_n cm))] 5 = mkF m 0 #[vr a0d, vi (0 : Int32), vi (own_n cm), .unset, .unset] [] := by first | (simp [entryFrame, mkF, argsToLocals, Value.category]; done) | rfl
def Q_rmCrb16 (n0 : Nat) (Z : State) (cS : Int32) (vF : Value) (a0d : Addr) (ky : ClassId) (bs : List Value) (cm : Nat) (h0 : Heap) (v : Option Value) (h : Heap) (L : List Loc) : Prop := ∃ b : Addr, ∃ kb : ClassId, ∃ us : List Value, v = some (.ref b) ∧ Fr n0 L ∧ Keep h0 h [] ∧ (h0.size ≤ b) ∧ (Exa Z h b "[B") ∧ (Arv Z h b kb .byte (own_n cm) us (.int 0)) ∧ (∀ j, j < cm → us.getD j own_z = bs.getD j own_z)
theorem rmCrb16 (l : Launch) (Z : State) (a0 : Array Value) (hw : ∀ d ∈ tables_1, d.before a0 Z = true) (ws : List Jvm.Cond) (cS : Int32) (vF : Value) (a0d : Addr) (ky : ClassId) (bs : List Value) (cm : Nat) (h0 : Heap) (n0 : Nat) (O0 : Old Z n0 h0) (GL : GF Z cS vF) (V_a0d : Arv Z h0 a0d ky .byte (16 : Int32) bs (.int 0)) (hcm : cm ≤ 8) :
    MF l MN_40 jdk_65_method_133_code 5 (some (.array .byte)) ws (Rm 1 1 16 18) #[(.ref a0d), (.int 0), (.int (own_n cm))] Z h0 (Q_rmCrb16 n0 Z cS vF a0d ky bs cm h0) := by
  refine MetFree.of_bodySF (plainFor_of_name pnv6) hisR ?_
  intro p e s m args below meth c s₁ Bd hml0 hP hK
  obtain ⟨rfl, hZ, hh⟩ := hP
  have hx := Bd.exec
  have hby := Bd.bytes
  have hml : c.maxLocals = 5 := hml0
  have hown : s.vm.findClass "java/util/Arrays" = some m.cls := findClass_of_methodNamed Bd.named
  have hnm := (name_of_methodNamed Bd.named Bd.method).1
  have X0 : Stand p l e (Rm 1 1 16 18) s m #[(.ref a0d), (.int 0), (.int (own_n cm))] below meth c s₁ [] 0 0 := Stand.of_body Bd
  have e0 : s₁.heap = h0 := by rw [← hh, Bd.state]; rfl
  have N0 := Fr.nil n0
  have pre0 : ∀ t, SP p e below s₁ m 0 #[vr a0d, vi (0 : Int32), vi (own_n cm), .unset, .unset] [] t → Steps p.tables e below (s₁.setTop (entryFrame m #[(.ref a0d), (.int 0), (.int (own_n cm))] 5)) t := fun t k => castTop (ef_rmCrb16 m a0d) k
  have GL' := GL
  obtain ⟨GCS, GCP, GA16, GHI, GLO, GFF, GVF⟩ := GL'
  obtain ⟨_, _, ⟨T1, L1, k1, n1⟩, -, X1, ⟨Lc1, hQ1, l1, y1, z1⟩, st1⟩ := Jvm.LawKit.callS X0 hx (y := MN_39) hown (mvT hZ (Wd hw 152 rfl)) (mvT hZ (Wd hw 153 rfl)) (mvT hZ (Wd hw 147 rfl)) (mvT hZ (Wd hw 154 rfl)) (by decide) (backOf (W := 0) (rmCl l Z a0 hw [] cS vF ((own_n cm)) h0 n0 O0 GL (own_n_nn (by omega))) hZ (Wd hw 154 rfl) (Wd hw 147 rfl) (by decide) (by decide)) (g := mkF m 2 #[vr a0d, vi (0 : Int32), vi (own_n cm), .unset, .unset] [(.int (own_n cm)), (.int 0)]) rfl (by rw [hml]; rfl) (argsL := [(.int 0), (.int (own_n cm))]) (rest := []) (lenOf pdv3 rfl) rfl (by show 2 * 0 + _ ≤ _; exact lEq rfl) (dG hby D26 2 rfl) (fun _ _ => ⟨rfl, e0, (by decide : 0 + 0 ≤ _), (by decide : 0 + 0 ≤ _)⟩)
  dsimp only [Pt.U, Pt.locs, Pt.cells, Pt.slots] at X1 l1 y1 z1 st1 hQ1
  subst l1 y1 z1
  obtain ⟨rfl, N1q, e1⟩ := hQ1
  have N1 := Fr.app N0 N1q
  obtain ⟨T2, h2, k2, X2, e2, E2, A2, A2', st2⟩ := newPE X1 hx hZ (Wd hw 23 rfl) e1 (g := mkF m 10 #[vr a0d, vi (0 : Int32), vi (own_n cm), vi (own_n cm), .unset] [(.int (own_n cm))]) rfl (dG hby D26 8 rfl) rfl (own_n_nn (by omega)) (cap := 16) (own_h8 (by omega)) (by decide) (by decide) (by decide) (ad := "[B") rfl
  obtain ⟨b2, g2⟩ : ∃ z, z = h0.size := ⟨_, rfl⟩
  rw [← g2] at A2 A2' st2
  have g_b2 : n0 ≤ b2 := lTr (own_sz O0) (lEq g2.symm)
  have sz_b2 : h0.size ≤ b2 := lTr (Keep.refl h0 []).1 (lEq g2.symm)
  have K2 : Keep h0 h2 [] := (Keep.refl h0 []).ext E2
  have O2 := O0.ext E2
  have V_b2 : Arv Z h2 b2 k2 .byte (own_n cm) (List.replicate ((own_n cm)).toNatClampNeg (.int 0)) (.int 0) := (Arv.new A2 (own_n_nn (by omega))).pad (pad_rep [] (.int 0) ((own_n cm)).toNatClampNeg)
  obtain ⟨cl3, Ar3, -, S3, N3_, -, -⟩ := id ((V_a0d.ext E2))
  obtain ⟨_, _, ⟨T4, L4, k4, n4⟩, -, X4, ⟨Lc4, hQ4, l4, y4, z4⟩, st4⟩ := Jvm.LawKit.callS X2 hx (y := MN_25) hown (mvT hZ (Wd hw 155 rfl)) (mvT hZ (Wd hw 156 rfl)) (mvT hZ (Wd hw 157 rfl)) (mvT hZ (Wd hw 158 rfl)) (by decide) (backOf (W := 4) (rmMin l Z a0 hw [] cS vF ((16 : Int32)) ((own_n cm)) h2 n0 O2 GL ((own_n_lt (b := 16) (by omega) (by omega)).mpr (by omega))) hZ (Wd hw 158 rfl) (Wd hw 157 rfl) (by decide) (by decide)) (g := mkF m 24 #[vr a0d, vi (0 : Int32), vi (own_n cm), vi (own_n cm), vr b2] [(.int (own_n cm)), (.int 16), (.int 0), (.ref b2), (.int 0), (.ref a0d)]) rfl (by rw [hml]; rfl) (argsL := [(.int 16), (.int (own_n cm))]) (rest := [(.int 0), (.ref b2), (.int 0), (.ref a0d)]) (lenOf pdv25 rfl) rfl (by show 2 * 0 + _ ≤ _; exact lEq rfl) (dG hby D26 19 rfl) (fun _ _ => ⟨rfl, e2, (by decide : 1 + 0 ≤ _), (by decide : 16 + 0 ≤ _)⟩)
  dsimp only [Pt.U, Pt.locs, Pt.cells, Pt.slots] at X4 l4 y4 z4 st4 hQ4
  subst l4 y4 z4
  obtain ⟨rfl, N4q, e4⟩ := hQ4
  have N4 := Fr.app N1 N4q
  obtain ⟨T5, h5, L5, X5, e5, N5, Kc5, V5, st5⟩ := cpA X4 hx hZ hown (Wd hw 159 rfl) (Wd hw 113 rfl) (Wd hw 111 rfl) (Wd hw 112 rfl) e4 (V_a0d.ext E2) V_b2 (us := ((List.range ((own_n cm)).toNatClampNeg).map fun i => (bs).getD (((0 : Int32)).toNatClampNeg + i) (.int 0))) (Or.inl ⟨rfl, rfl⟩) (by decide) (by decide) (own_n_nn (by omega)) (own_h7 (z := 16) (by omega) (by decide)) (lEq (Nat.zero_add _)) rfl (by simp) N4 g_b2 (g := mkF m 27 #[vr a0d, vi (0 : Int32), vi (own_n cm), vi (own_n cm), vr b2] [(.int (own_n cm)), (.int 0), (.ref b2), (.int 0), (.ref a0d)]) rfl (by rw [hml]; rfl) rfl (dG hby D26 20 rfl) (by decide) (W := 0) (by show 2 * 0 + _ ≤ _; exact lEq rfl) (by decide)
  have V5' : Arv Z h5 b2 k2 .byte (own_n cm) (List.take ((0 : Int32)).toNatClampNeg (List.replicate ((own_n cm)).toNatClampNeg (.int 0)) ++ ((List.range ((own_n cm)).toNatClampNeg).map fun i => (bs).getD (((0 : Int32)).toNatClampNeg + i) (.int 0)) ++ List.drop (((0 : Int32)).toNatClampNeg + ((own_n cm)).toNatClampNeg) (List.replicate ((own_n cm)).toNatClampNeg (.int 0))) (.int 0) := V5
  have K5 : Keep h0 h5 [] := K2.trans Kc5 (allS (Or.inr sz_b2) all0)
  have O5 := O2.keep Kc5 (allS g_b2 all0)
  have hq5 : ∀ j, j < cm → (List.take ((0 : Int32)).toNatClampNeg (List.replicate ((own_n cm)).toNatClampNeg (Value.int (0 : Int32))) ++ ((List.range ((own_n cm)).toNatClampNeg).map fun i => (bs).getD (((0 : Int32)).toNatClampNeg + i) (Value.int (0 : Int32))) ++ List.drop (((0 : Int32)).toNatClampNeg + ((own_n cm)).toNatClampNeg) (List.replicate ((own_n cm)).toNatClampNeg (Value.int (0 : Int32)))).getD j own_z = bs.getD j own_z := own_cr_of (by omega)
  obtain ⟨fs, hr, hrun, hended, hW, hsame⟩ := X5.leave (v := some (.ref b2)) (fun h => by rw [Bd.returns] at h; cases h)
  refine ⟨_, _, pre0 _ ?_, hrun, hended, _, _, rfl, ?_, ⟨_, rfl⟩, hW, hsame.mono (by decide) (by decide)⟩
  · show SP p e below s₁ m 0 #[vr a0d, vi (0 : Int32), vi (own_n cm), .unset, .unset] [] _
    refine XS.iloadN X0.here hx rfl (dG hby D26 0 rfl) rfl ?_
    refine XS.iloadN X0.here hx rfl (dG hby D26 1 rfl) rfl ?_
    show SP p e below s₁ m 2 #[vr a0d, vi (0 : Int32), vi (own_n cm), .unset, .unset] [(.int (own_n cm)), (.int 0)] _
    refine st1 _ ?_
    show SP p e below T1 m 5 #[vr a0d, vi (0 : Int32), vi (own_n cm), .unset, .unset] [] _
    refine XS.iloadN X1.here hx rfl (dG hby D26 3 rfl) rfl ?_
    refine XS.iloadN X1.here hx rfl (dG hby D26 4 rfl) rfl ?_
    show SP p e below T1 m 7 #[vr a0d, vi (0 : Int32), vi (own_n cm), .unset, .unset] [(.int 0), (.int (own_n cm))] _
    refine XS.isub X1.here hx rfl (dG hby D26 5 rfl) rfl ?_
    rw [own_sub0 (own_n cm)]
    show SP p e below T1 m 8 #[vr a0d, vi (0 : Int32), vi (own_n cm), .unset, .unset] [(.int (own_n cm))] _
    refine XS.istoreN X1.here hx rfl (dG hby D26 6 rfl) rfl (l' := #[vr a0d, vi (0 : Int32), vi (own_n cm), vi (own_n cm), .unset]) rfl ?_
    refine XS.iloadN X1.here hx rfl (dG hby D26 7 rfl) rfl ?_
    show SP p e below T1 m 10 #[vr a0d, vi (0 : Int32), vi (own_n cm), vi (own_n cm), .unset] [(.int (own_n cm))] _
    refine st2 _ ?_
    show SP p e below T2 m 12 #[vr a0d, vi (0 : Int32), vi (own_n cm), vi (own_n cm), .unset] [(.ref b2)] _
    refine XS.astore X2.here hx rfl (dG hby D26 9 rfl) rfl rfl (l' := #[vr a0d, vi (0 : Int32), vi (own_n cm), vi (own_n cm), vr b2]) rfl ?_
    refine XS.aloadN X2.here hx rfl (dG hby D26 10 rfl) rfl rfl ?_
    refine XS.iloadN X2.here hx rfl (dG hby D26 11 rfl) rfl ?_
    refine XS.aload X2.here hx rfl (dG hby D26 12 rfl) rfl rfl ?_
    refine XS.iconst X2.here hx rfl (dG hby D26 13 rfl) ?_
    refine XS.aloadN X2.here hx rfl (dG hby D26 14 rfl) rfl rfl ?_
    show SP p e below T2 m 20 #[vr a0d, vi (0 : Int32), vi (own_n cm), vi (own_n cm), vr b2] [(.ref a0d), (.int 0), (.ref b2), (.int 0), (.ref a0d)] _
    refine X2.arraylength hx (by rw [e2]; exact Ar3.1) (State.isArrayOf_alike hZ.alike Ar3.2.1) (g := mkF m 20 #[vr a0d, vi (0 : Int32), vi (own_n cm), vi (own_n cm), vr b2] [(.ref a0d), (.int 0), (.ref b2), (.int 0), (.ref a0d)]) rfl rfl (dG hby D26 15 rfl) _ ?_
    rw [len_of S3 N3_]
    show SP p e below T2 m 21 #[vr a0d, vi (0 : Int32), vi (own_n cm), vi (own_n cm), vr b2] [(.int 16), (.int 0), (.ref b2), (.int 0), (.ref a0d)] _
    refine XS.iloadN X2.here hx rfl (dG hby D26 16 rfl) rfl ?_
    refine XS.isub X2.here hx rfl (dG hby D26 17 rfl) rfl ?_
    refine XS.iloadN X2.here hx rfl (dG hby D26 18 rfl) rfl ?_
    show SP p e below T2 m 24 #[vr a0d, vi (0 : Int32), vi (own_n cm), vi (own_n cm), vr b2] [(.int (own_n cm)), (.int 16), (.int 0), (.ref b2), (.int 0), (.ref a0d)] _
    refine st4 _ ?_
    show SP p e below T4 m 27 #[vr a0d, vi (0 : Int32), vi (own_n cm), vi (own_n cm), vr b2] [(.int (own_n cm)), (.int 0), (.ref b2), (.int 0), (.ref a0d)] _
    refine st5 _ ?_
    show SP p e below T5 m 30 #[vr a0d, vi (0 : Int32), vi (own_n cm), vi (own_n cm), vr b2] [] _
    refine XS.aload X5.here hx rfl (dG hby D26 21 rfl) rfl rfl ?_
    show SP p e below T5 m 32 #[vr a0d, vi (0 : Int32), vi (own_n cm), vi (own_n cm), vr b2] [(.ref b2)] _
    exact retA X5 hx Bd.returns rfl (dG hby D26 22 rfl) hr
  · show Q_rmCrb16 n0 Z cS vF a0d ky bs cm h0 _ T5.heap _
    rw [e5]
    exact ⟨b2, k2, (List.take ((0 : Int32)).toNatClampNeg (List.replicate ((own_n cm)).toNatClampNeg (.int 0)) ++ ((List.range ((own_n cm)).toNatClampNeg).map fun i => (bs).getD (((0 : Int32)).toNatClampNeg + i) (.int 0)) ++ List.drop (((0 : Int32)).toNatClampNeg + ((own_n cm)).toNatClampNeg) (List.replicate ((own_n cm)).toNatClampNeg (.int 0))), rfl, N5, K5, sz_b2, (A2'.keep Kc5), V5', hq5⟩
theorem D25 : dL jdk_65_method_132_code [(0, .iload_n 1, 1), (1, .ifCond .ne 9, 3), (4, .iload_n 2, 1), (5, .aload_n 0, 1), (6, .arraylength, 1), (7, .if_icmp .eq 10, 3), (10, .aload_n 0, 1), (11, .iload_n 1, 1), (12, .iload_n 2, 1), (13, .invokestatic 339, 3), (16, .areturn, 1)] = true := by decide +kernel
theorem pdv26 : parseMethodDescriptor "([BII)[B" = some ⟨[(.array .byte), .int, .int], some (.array .byte)⟩ := by decide +kernel
abbrev MN_41 : MethodName := ⟨"java/util/Arrays", "copyOfRange", "([BII)[B"⟩
theorem ef_rmCr16 (m : MethodId) (a0d : Addr) {cm : Nat} : entryFrame m #[(.ref a0d), (.int 0), (.int (own_n cm))] 3 = mkF m 0 #[vr a0d, vi (0 : Int32), vi (own_n cm)] [] := by first | (simp [entryFrame, mkF, argsToLocals, Value.category]; done) | rfl
def Q_rmCr16 (n0 : Nat) (Z : State) (cS : Int32) (vF : Value) (a0d : Addr) (ky : ClassId) (bs : List Value) (cm : Nat) (h0 : Heap) (v : Option Value) (h : Heap) (L : List Loc) : Prop := ∃ b : Addr, ∃ kb : ClassId, ∃ us : List Value, v = some (.ref b) ∧ Fr n0 L ∧ Keep h0 h [] ∧ (h0.size ≤ b) ∧ (Exa Z h b "[B") ∧ (Arv Z h b kb .byte (own_n cm) us (.int 0)) ∧ (∀ j, j < cm → us.getD j own_z = bs.getD j own_z)
theorem rmCr16 (l : Launch) (Z : State) (a0 : Array Value) (hw : ∀ d ∈ tables_1, d.before a0 Z = true) (ws : List Jvm.Cond) (cS : Int32) (vF : Value) (a0d : Addr) (ky : ClassId) (bs : List Value) (cm : Nat) (h0 : Heap) (n0 : Nat) (O0 : Old Z n0 h0) (GL : GF Z cS vF) (V_a0d : Arv Z h0 a0d ky .byte (16 : Int32) bs (.int 0)) (hcm : cm ≤ 8) :
    MF l MN_41 jdk_65_method_132_code 3 (some (.array .byte)) ws (Rm 2 1 16 34) #[(.ref a0d), (.int 0), (.int (own_n cm))] Z h0 (Q_rmCr16 n0 Z cS vF a0d ky bs cm h0) := by
  refine MetFree.of_bodySF (plainFor_of_name pnv6) hisR ?_
  intro p e s m args below meth c s₁ Bd hml0 hP hK
  obtain ⟨rfl, hZ, hh⟩ := hP
  have hx := Bd.exec
  have hby := Bd.bytes
  have hml : c.maxLocals = 3 := hml0
  have hown : s.vm.findClass "java/util/Arrays" = some m.cls := findClass_of_methodNamed Bd.named
  have hnm := (name_of_methodNamed Bd.named Bd.method).1
  have X0 : Stand p l e (Rm 2 1 16 34) s m #[(.ref a0d), (.int 0), (.int (own_n cm))] below meth c s₁ [] 0 0 := Stand.of_body Bd
  have e0 : s₁.heap = h0 := by rw [← hh, Bd.state]; rfl
  have N0 := Fr.nil n0
  have pre0 : ∀ t, SP p e below s₁ m 0 #[vr a0d, vi (0 : Int32), vi (own_n cm)] [] t → Steps p.tables e below (s₁.setTop (entryFrame m #[(.ref a0d), (.int 0), (.int (own_n cm))] 3)) t := fun t k => castTop (ef_rmCr16 m a0d) k
  have GL' := GL
  obtain ⟨GCS, GCP, GA16, GHI, GLO, GFF, GVF⟩ := GL'
  have hne : ¬ ((own_n cm) = (16 : Int32)) := (fun z => absurd ((own_n_eq (b := 16) (by omega) (by omega)).mp z) (by omega))
  obtain ⟨cl1, Ar1, -, S1, N1_, -, -⟩ := id (V_a0d)
  obtain ⟨_, _, ⟨T2, L2, k2, n2⟩, -, X2, ⟨Lc2, hQ2, l2, y2, z2⟩, st2⟩ := Jvm.LawKit.callS X0 hx (y := MN_40) hown (mvT hZ (Wd hw 149 rfl)) (mvT hZ (Wd hw 150 rfl)) (mvT hZ (Wd hw 147 rfl)) (mvT hZ (Wd hw 151 rfl)) (by decide) (backOf (W := 0) (rmCrb16 l Z a0 hw [] cS vF a0d ky bs cm h0 n0 O0 GL V_a0d hcm) hZ (Wd hw 151 rfl) (Wd hw 147 rfl) (by decide) (by decide)) (g := mkF m 13 #[vr a0d, vi (0 : Int32), vi (own_n cm)] [(.int (own_n cm)), (.int 0), (.ref a0d)]) rfl (by rw [hml]; rfl) (argsL := [(.ref a0d), (.int 0), (.int (own_n cm))]) (rest := []) (lenOf pdv26 rfl) rfl (by show 2 * 0 + _ ≤ _; exact lEq rfl) (dG hby D25 9 rfl) (fun _ _ => ⟨rfl, e0, (by decide : 0 + 1 ≤ _), (by decide : 0 + 16 ≤ _)⟩)
  dsimp only [Pt.U, Pt.locs, Pt.cells, Pt.slots] at X2 l2 y2 z2 st2 hQ2
  subst l2 y2 z2
  obtain ⟨b_2, kb_2, us_2, rfl, N2q, Kc2, P2_0, P2_1, P2_2, P2_3⟩ := hQ2
  have K2 : Keep h0 T2.heap [] := (Keep.refl h0 []).trans Kc2 all0
  have O2 := O0.keep Kc2 all0
  have g_b_2 : n0 ≤ b_2 := lTr (own_sz O0) P2_0
  have sz_b_2 : h0.size ≤ b_2 := lTr (Keep.refl h0 []).1 P2_0
  have N2 := Fr.app N0 N2q
  obtain ⟨fs, hr, hrun, hended, hW, hsame⟩ := X2.leave (v := some (.ref b_2)) (fun h => by rw [Bd.returns] at h; cases h)
  refine ⟨_, _, pre0 _ ?_, hrun, hended, _, _, rfl, ?_, ⟨_, rfl⟩, hW, hsame.mono (by decide) (by decide)⟩
  · show SP p e below s₁ m 0 #[vr a0d, vi (0 : Int32), vi (own_n cm)] [] _
    refine XS.iloadN X0.here hx rfl (dG hby D25 0 rfl) rfl ?_
    refine XS.ifNo X0.here hx rfl (dG hby D25 1 rfl) rfl ((if0 _ _).trans (teq (by decide : (0 : Int32) = (0 : Int32))).2) ?_
    refine XS.iloadN X0.here hx rfl (dG hby D25 2 rfl) rfl ?_
    refine XS.aloadN X0.here hx rfl (dG hby D25 3 rfl) rfl rfl ?_
    show SP p e below s₁ m 6 #[vr a0d, vi (0 : Int32), vi (own_n cm)] [(.ref a0d), (.int (own_n cm))] _
    refine X0.arraylength hx (by rw [e0]; exact Ar1.1) (State.isArrayOf_alike hZ.alike Ar1.2.1) (g := mkF m 6 #[vr a0d, vi (0 : Int32), vi (own_n cm)] [(.ref a0d), (.int (own_n cm))]) rfl rfl (dG hby D25 4 rfl) _ ?_
    rw [len_of S1 N1_]
    show SP p e below s₁ m 7 #[vr a0d, vi (0 : Int32), vi (own_n cm)] [(.int 16), (.int (own_n cm))] _
    refine XS.icmpNo X0.here hx rfl (dG hby D25 5 rfl) rfl (feq hne).1 ?_
    refine XS.aloadN X0.here hx rfl (dG hby D25 6 rfl) rfl rfl ?_
    refine XS.iloadN X0.here hx rfl (dG hby D25 7 rfl) rfl ?_
    refine XS.iloadN X0.here hx rfl (dG hby D25 8 rfl) rfl ?_
    show SP p e below s₁ m 13 #[vr a0d, vi (0 : Int32), vi (own_n cm)] [(.int (own_n cm)), (.int 0), (.ref a0d)] _
    refine st2 _ ?_
    show SP p e below T2 m 16 #[vr a0d, vi (0 : Int32), vi (own_n cm)] [(.ref b_2)] _
    exact retA X2 hx Bd.returns rfl (dG hby D25 10 rfl) hr
  · show Q_rmCr16 n0 Z cS vF a0d ky bs cm h0 _ T2.heap _
    exact ⟨b_2, kb_2, us_2, rfl, N2, K2, sz_b_2, P2_1, P2_2, P2_3⟩
def Q_rmCrb32 (n0 : Nat) (Z : State) (cS : Int32) (vF : Value) (a0d : Addr) (ky : ClassId) (bs : List Value) (cm : Nat) (h0 : Heap) (v : Option Value) (h : Heap) (L : List Loc) : Prop := ∃ b : Addr, ∃ kb : ClassId, ∃ us : List Value, v = some (.ref b) ∧ Fr n0 L ∧ Keep h0 h [] ∧ (h0.size ≤ b) ∧ (Exa Z h b "[B") ∧ (Arv Z h b kb .byte (own_n cm) us (.int 0)) ∧ (∀ j, j < cm → us.getD j own_z = bs.getD j own_z)
theorem rmCrb32 (l : Launch) (Z : State) (a0 : Array Value) (hw : ∀ d ∈ tables_1, d.before a0 Z = true) (ws : List Jvm.Cond) (cS : Int32) (vF : Value) (a0d : Addr) (ky : ClassId) (bs : List Value) (cm : Nat) (h0 : Heap) (n0 : Nat) (O0 : Old Z n0 h0) (GL : GF Z cS vF) (V_a0d : Arv Z h0 a0d ky .byte (32 : Int32) bs (.int 0)) (hcm : cm ≤ 16) :
    MF l MN_40 jdk_65_method_133_code 5 (some (.array .byte)) ws (Rm 1 1 16 18) #[(.ref a0d), (.int 0), (.int (own_n cm))] Z h0 (Q_rmCrb32 n0 Z cS vF a0d ky bs cm h0) := by
  refine MetFree.of_bodySF (plainFor_of_name pnv6) hisR ?_
  intro p e s m args below meth c s₁ Bd hml0 hP hK
  obtain ⟨rfl, hZ, hh⟩ := hP
  have hx := Bd.exec
  have hby := Bd.bytes
  have hml : c.maxLocals = 5 := hml0
  have hown : s.vm.findClass "java/util/Arrays" = some m.cls := findClass_of_methodNamed Bd.named
  have hnm := (name_of_methodNamed Bd.named Bd.method).1
  have X0 : Stand p l e (Rm 1 1 16 18) s m #[(.ref a0d), (.int 0), (.int (own_n cm))] below meth c s₁ [] 0 0 := Stand.of_body Bd
  have e0 : s₁.heap = h0 := by rw [← hh, Bd.state]; rfl
  have N0 := Fr.nil n0
  have pre0 : ∀ t, SP p e below s₁ m 0 #[vr a0d, vi (0 : Int32), vi (own_n cm), .unset, .unset] [] t → Steps p.tables e below (s₁.setTop (entryFrame m #[(.ref a0d), (.int 0), (.int (own_n cm))] 5)) t := fun t k => castTop (ef_rmCrb16 m a0d) k
  have GL' := GL
  obtain ⟨GCS, GCP, GA16, GHI, GLO, GFF, GVF⟩ := GL'
  obtain ⟨_, _, ⟨T1, L1, k1, n1⟩, -, X1, ⟨Lc1, hQ1, l1, y1, z1⟩, st1⟩ := Jvm.LawKit.callS X0 hx (y := MN_39) hown (mvT hZ (Wd hw 152 rfl)) (mvT hZ (Wd hw 153 rfl)) (mvT hZ (Wd hw 147 rfl)) (mvT hZ (Wd hw 154 rfl)) (by decide) (backOf (W := 0) (rmCl l Z a0 hw [] cS vF ((own_n cm)) h0 n0 O0 GL (own_n_nn (by omega))) hZ (Wd hw 154 rfl) (Wd hw 147 rfl) (by decide) (by decide)) (g := mkF m 2 #[vr a0d, vi (0 : Int32), vi (own_n cm), .unset, .unset] [(.int (own_n cm)), (.int 0)]) rfl (by rw [hml]; rfl) (argsL := [(.int 0), (.int (own_n cm))]) (rest := []) (lenOf pdv3 rfl) rfl (by show 2 * 0 + _ ≤ _; exact lEq rfl) (dG hby D26 2 rfl) (fun _ _ => ⟨rfl, e0, (by decide : 0 + 0 ≤ _), (by decide : 0 + 0 ≤ _)⟩)
  dsimp only [Pt.U, Pt.locs, Pt.cells, Pt.slots] at X1 l1 y1 z1 st1 hQ1
  subst l1 y1 z1
  obtain ⟨rfl, N1q, e1⟩ := hQ1
  have N1 := Fr.app N0 N1q
  obtain ⟨T2, h2, k2, X2, e2, E2, A2, A2', st2⟩ := newPE X1 hx hZ (Wd hw 23 rfl) e1 (g := mkF m 10 #[vr a0d, vi (0 : Int32), vi (own_n cm), vi (own_n cm), .unset] [(.int (own_n cm))]) rfl (dG hby D26 8 rfl) rfl (own_n_nn (by omega)) (cap := 16) (own_h8 (by omega)) (by decide) (by decide) (by decide) (ad := "[B") rfl
  obtain ⟨b2, g2⟩ : ∃ z, z = h0.size := ⟨_, rfl⟩
  rw [← g2] at A2 A2' st2
  have g_b2 : n0 ≤ b2 := lTr (own_sz O0) (lEq g2.symm)
  have sz_b2 : h0.size ≤ b2 := lTr (Keep.refl h0 []).1 (lEq g2.symm)
  have K2 : Keep h0 h2 [] := (Keep.refl h0 []).ext E2
  have O2 := O0.ext E2
  have V_b2 : Arv Z h2 b2 k2 .byte (own_n cm) (List.replicate ((own_n cm)).toNatClampNeg (.int 0)) (.int 0) := (Arv.new A2 (own_n_nn (by omega))).pad (pad_rep [] (.int 0) ((own_n cm)).toNatClampNeg)
  obtain ⟨cl3, Ar3, -, S3, N3_, -, -⟩ := id ((V_a0d.ext E2))
  obtain ⟨_, _, ⟨T4, L4, k4, n4⟩, -, X4, ⟨Lc4, hQ4, l4, y4, z4⟩, st4⟩ := Jvm.LawKit.callS X2 hx (y := MN_25) hown (mvT hZ (Wd hw 155 rfl)) (mvT hZ (Wd hw 156 rfl)) (mvT hZ (Wd hw 157 rfl)) (mvT hZ (Wd hw 158 rfl)) (by decide) (backOf (W := 4) (rmMin l Z a0 hw [] cS vF ((32 : Int32)) ((own_n cm)) h2 n0 O2 GL ((own_n_lt (b := 32) (by omega) (by omega)).mpr (by omega))) hZ (Wd hw 158 rfl) (Wd hw 157 rfl) (by decide) (by decide)) (g := mkF m 24 #[vr a0d, vi (0 : Int32), vi (own_n cm), vi (own_n cm), vr b2] [(.int (own_n cm)), (.int 32), (.int 0), (.ref b2), (.int 0), (.ref a0d)]) rfl (by rw [hml]; rfl) (argsL := [(.int 32), (.int (own_n cm))]) (rest := [(.int 0), (.ref b2), (.int 0), (.ref a0d)]) (lenOf pdv25 rfl) rfl (by show 2 * 0 + _ ≤ _; exact lEq rfl) (dG hby D26 19 rfl) (fun _ _ => ⟨rfl, e2, (by decide : 1 + 0 ≤ _), (by decide : 16 + 0 ≤ _)⟩)
  dsimp only [Pt.U, Pt.locs, Pt.cells, Pt.slots] at X4 l4 y4 z4 st4 hQ4
  subst l4 y4 z4
  obtain ⟨rfl, N4q, e4⟩ := hQ4
  have N4 := Fr.app N1 N4q
  obtain ⟨T5, h5, L5, X5, e5, N5, Kc5, V5, st5⟩ := cpA X4 hx hZ hown (Wd hw 159 rfl) (Wd hw 113 rfl) (Wd hw 111 rfl) (Wd hw 112 rfl) e4 (V_a0d.ext E2) V_b2 (us := ((List.range ((own_n cm)).toNatClampNeg).map fun i => (bs).getD (((0 : Int32)).toNatClampNeg + i) (.int 0))) (Or.inl ⟨rfl, rfl⟩) (by decide) (by decide) (own_n_nn (by omega)) (own_h7 (z := 32) (by omega) (by decide)) (lEq (Nat.zero_add _)) rfl (by simp) N4 g_b2 (g := mkF m 27 #[vr a0d, vi (0 : Int32), vi (own_n cm), vi (own_n cm), vr b2] [(.int (own_n cm)), (.int 0), (.ref b2), (.int 0), (.ref a0d)]) rfl (by rw [hml]; rfl) rfl (dG hby D26 20 rfl) (by decide) (W := 0) (by show 2 * 0 + _ ≤ _; exact lEq rfl) (by decide)
  have V5' : Arv Z h5 b2 k2 .byte (own_n cm) (List.take ((0 : Int32)).toNatClampNeg (List.replicate ((own_n cm)).toNatClampNeg (.int 0)) ++ ((List.range ((own_n cm)).toNatClampNeg).map fun i => (bs).getD (((0 : Int32)).toNatClampNeg + i) (.int 0)) ++ List.drop (((0 : Int32)).toNatClampNeg + ((own_n cm)).toNatClampNeg) (List.replicate ((own_n cm)).toNatClampNeg (.int 0))) (.int 0) := V5
  have K5 : Keep h0 h5 [] := K2.trans Kc5 (allS (Or.inr sz_b2) all0)
  have O5 := O2.keep Kc5 (allS g_b2 all0)
  have hq5 : ∀ j, j < cm → (List.take ((0 : Int32)).toNatClampNeg (List.replicate ((own_n cm)).toNatClampNeg (Value.int (0 : Int32))) ++ ((List.range ((own_n cm)).toNatClampNeg).map fun i => (bs).getD (((0 : Int32)).toNatClampNeg + i) (Value.int (0 : Int32))) ++ List.drop (((0 : Int32)).toNatClampNeg + ((own_n cm)).toNatClampNeg) (List.replicate ((own_n cm)).toNatClampNeg (Value.int (0 : Int32)))).getD j own_z = bs.getD j own_z := own_cr_of (by omega)
  obtain ⟨fs, hr, hrun, hended, hW, hsame⟩ := X5.leave (v := some (.ref b2)) (fun h => by rw [Bd.returns] at h; cases h)
  refine ⟨_, _, pre0 _ ?_, hrun, hended, _, _, rfl, ?_, ⟨_, rfl⟩, hW, hsame.mono (by decide) (by decide)⟩
  · show SP p e below s₁ m 0 #[vr a0d, vi (0 : Int32), vi (own_n cm), .unset, .unset] [] _
    refine XS.iloadN X0.here hx rfl (dG hby D26 0 rfl) rfl ?_
    refine XS.iloadN X0.here hx rfl (dG hby D26 1 rfl) rfl ?_
    show SP p e below s₁ m 2 #[vr a0d, vi (0 : Int32), vi (own_n cm), .unset, .unset] [(.int (own_n cm)), (.int 0)] _
    refine st1 _ ?_
    show SP p e below T1 m 5 #[vr a0d, vi (0 : Int32), vi (own_n cm), .unset, .unset] [] _
    refine XS.iloadN X1.here hx rfl (dG hby D26 3 rfl) rfl ?_
    refine XS.iloadN X1.here hx rfl (dG hby D26 4 rfl) rfl ?_
    show SP p e below T1 m 7 #[vr a0d, vi (0 : Int32), vi (own_n cm), .unset, .unset] [(.int 0), (.int (own_n cm))] _
    refine XS.isub X1.here hx rfl (dG hby D26 5 rfl) rfl ?_
    rw [own_sub0 (own_n cm)]
    show SP p e below T1 m 8 #[vr a0d, vi (0 : Int32), vi (own_n cm), .unset, .unset] [(.int (own_n cm))] _
    refine XS.istoreN X1.here hx rfl (dG hby D26 6 rfl) rfl (l' := #[vr a0d, vi (0 : Int32), vi (own_n cm), vi (own_n cm), .unset]) rfl ?_
    refine XS.iloadN X1.here hx rfl (dG hby D26 7 rfl) rfl ?_
    show SP p e below T1 m 10 #[vr a0d, vi (0 : Int32), vi (own_n cm), vi (own_n cm), .unset] [(.int (own_n cm))] _
    refine st2 _ ?_
    show SP p e below T2 m 12 #[vr a0d, vi (0 : Int32), vi (own_n cm), vi (own_n cm), .unset] [(.ref b2)] _
    refine XS.astore X2.here hx rfl (dG hby D26 9 rfl) rfl rfl (l' := #[vr a0d, vi (0 : Int32), vi (own_n cm), vi (own_n cm), vr b2]) rfl ?_
    refine XS.aloadN X2.here hx rfl (dG hby D26 10 rfl) rfl rfl ?_
    refine XS.iloadN X2.here hx rfl (dG hby D26 11 rfl) rfl ?_
    refine XS.aload X2.here hx rfl (dG hby D26 12 rfl) rfl rfl ?_
    refine XS.iconst X2.here hx rfl (dG hby D26 13 rfl) ?_
    refine XS.aloadN X2.here hx rfl (dG hby D26 14 rfl) rfl rfl ?_
    show SP p e below T2 m 20 #[vr a0d, vi (0 : Int32), vi (own_n cm), vi (own_n cm), vr b2] [(.ref a0d), (.int 0), (.ref b2), (.int 0), (.ref a0d)] _
    refine X2.arraylength hx (by rw [e2]; exact Ar3.1) (State.isArrayOf_alike hZ.alike Ar3.2.1) (g := mkF m 20 #[vr a0d, vi (0 : Int32), vi (own_n cm), vi (own_n cm), vr b2] [(.ref a0d), (.int 0), (.ref b2), (.int 0), (.ref a0d)]) rfl rfl (dG hby D26 15 rfl) _ ?_
    rw [len_of S3 N3_]
    show SP p e below T2 m 21 #[vr a0d, vi (0 : Int32), vi (own_n cm), vi (own_n cm), vr b2] [(.int 32), (.int 0), (.ref b2), (.int 0), (.ref a0d)] _
    refine XS.iloadN X2.here hx rfl (dG hby D26 16 rfl) rfl ?_
    refine XS.isub X2.here hx rfl (dG hby D26 17 rfl) rfl ?_
    refine XS.iloadN X2.here hx rfl (dG hby D26 18 rfl) rfl ?_
    show SP p e below T2 m 24 #[vr a0d, vi (0 : Int32), vi (own_n cm), vi (own_n cm), vr b2] [(.int (own_n cm)), (.int 32), (.int 0), (.ref b2), (.int 0), (.ref a0d)] _
    refine st4 _ ?_
    show SP p e below T4 m 27 #[vr a0d, vi (0 : Int32), vi (own_n cm), vi (own_n cm), vr b2] [(.int (own_n cm)), (.int 0), (.ref b2), (.int 0), (.ref a0d)] _
    refine st5 _ ?_
    show SP p e below T5 m 30 #[vr a0d, vi (0 : Int32), vi (own_n cm), vi (own_n cm), vr b2] [] _
    refine XS.aload X5.here hx rfl (dG hby D26 21 rfl) rfl rfl ?_
    show SP p e below T5 m 32 #[vr a0d, vi (0 : Int32), vi (own_n cm), vi (own_n cm), vr b2] [(.ref b2)] _
    exact retA X5 hx Bd.returns rfl (dG hby D26 22 rfl) hr
  · show Q_rmCrb32 n0 Z cS vF a0d ky bs cm h0 _ T5.heap _
    rw [e5]
    exact ⟨b2, k2, (List.take ((0 : Int32)).toNatClampNeg (List.replicate ((own_n cm)).toNatClampNeg (.int 0)) ++ ((List.range ((own_n cm)).toNatClampNeg).map fun i => (bs).getD (((0 : Int32)).toNatClampNeg + i) (.int 0)) ++ List.drop (((0 : Int32)).toNatClampNeg + ((own_n cm)).toNatClampNeg) (List.replicate ((own_n cm)).toNatClampNeg (.int 0))), rfl, N5, K5, sz_b2, (A2'.keep Kc5), V5', hq5⟩
def Q_rmCr32 (n0 : Nat) (Z : State) (cS : Int32) (vF : Value) (a0d : Addr) (ky : ClassId) (bs : List Value) (cm : Nat) (h0 : Heap) (v : Option Value) (h : Heap) (L : List Loc) : Prop := ∃ b : Addr, ∃ kb : ClassId, ∃ us : List Value, v = some (.ref b) ∧ Fr n0 L ∧ Keep h0 h [] ∧ (h0.size ≤ b) ∧ (Exa Z h b "[B") ∧ (Arv Z h b kb .byte (own_n cm) us (.int 0)) ∧ (∀ j, j < cm → us.getD j own_z = bs.getD j own_z)
theorem rmCr32 (l : Launch) (Z : State) (a0 : Array Value) (hw : ∀ d ∈ tables_1, d.before a0 Z = true) (ws : List Jvm.Cond) (cS : Int32) (vF : Value) (a0d : Addr) (ky : ClassId) (bs : List Value) (cm : Nat) (h0 : Heap) (n0 : Nat) (O0 : Old Z n0 h0) (GL : GF Z cS vF) (V_a0d : Arv Z h0 a0d ky .byte (32 : Int32) bs (.int 0)) (hcm : cm ≤ 16) :
    MF l MN_41 jdk_65_method_132_code 3 (some (.array .byte)) ws (Rm 2 1 16 34) #[(.ref a0d), (.int 0), (.int (own_n cm))] Z h0 (Q_rmCr32 n0 Z cS vF a0d ky bs cm h0) := by
  refine MetFree.of_bodySF (plainFor_of_name pnv6) hisR ?_
  intro p e s m args below meth c s₁ Bd hml0 hP hK
  obtain ⟨rfl, hZ, hh⟩ := hP
  have hx := Bd.exec
  have hby := Bd.bytes
  have hml : c.maxLocals = 3 := hml0
  have hown : s.vm.findClass "java/util/Arrays" = some m.cls := findClass_of_methodNamed Bd.named
  have hnm := (name_of_methodNamed Bd.named Bd.method).1
  have X0 : Stand p l e (Rm 2 1 16 34) s m #[(.ref a0d), (.int 0), (.int (own_n cm))] below meth c s₁ [] 0 0 := Stand.of_body Bd
  have e0 : s₁.heap = h0 := by rw [← hh, Bd.state]; rfl
  have N0 := Fr.nil n0
  have pre0 : ∀ t, SP p e below s₁ m 0 #[vr a0d, vi (0 : Int32), vi (own_n cm)] [] t → Steps p.tables e below (s₁.setTop (entryFrame m #[(.ref a0d), (.int 0), (.int (own_n cm))] 3)) t := fun t k => castTop (ef_rmCr16 m a0d) k
  have GL' := GL
  obtain ⟨GCS, GCP, GA16, GHI, GLO, GFF, GVF⟩ := GL'
  have hne : ¬ ((own_n cm) = (32 : Int32)) := (fun z => absurd ((own_n_eq (b := 32) (by omega) (by omega)).mp z) (by omega))
  obtain ⟨cl1, Ar1, -, S1, N1_, -, -⟩ := id (V_a0d)
  obtain ⟨_, _, ⟨T2, L2, k2, n2⟩, -, X2, ⟨Lc2, hQ2, l2, y2, z2⟩, st2⟩ := Jvm.LawKit.callS X0 hx (y := MN_40) hown (mvT hZ (Wd hw 149 rfl)) (mvT hZ (Wd hw 150 rfl)) (mvT hZ (Wd hw 147 rfl)) (mvT hZ (Wd hw 151 rfl)) (by decide) (backOf (W := 0) (rmCrb32 l Z a0 hw [] cS vF a0d ky bs cm h0 n0 O0 GL V_a0d hcm) hZ (Wd hw 151 rfl) (Wd hw 147 rfl) (by decide) (by decide)) (g := mkF m 13 #[vr a0d, vi (0 : Int32), vi (own_n cm)] [(.int (own_n cm)), (.int 0), (.ref a0d)]) rfl (by rw [hml]; rfl) (argsL := [(.ref a0d), (.int 0), (.int (own_n cm))]) (rest := []) (lenOf pdv26 rfl) rfl (by show 2 * 0 + _ ≤ _; exact lEq rfl) (dG hby D25 9 rfl) (fun _ _ => ⟨rfl, e0, (by decide : 0 + 1 ≤ _), (by decide : 0 + 16 ≤ _)⟩)
  dsimp only [Pt.U, Pt.locs, Pt.cells, Pt.slots] at X2 l2 y2 z2 st2 hQ2
  subst l2 y2 z2
  obtain ⟨b_2, kb_2, us_2, rfl, N2q, Kc2, P2_0, P2_1, P2_2, P2_3⟩ := hQ2
  have K2 : Keep h0 T2.heap [] := (Keep.refl h0 []).trans Kc2 all0
  have O2 := O0.keep Kc2 all0
  have g_b_2 : n0 ≤ b_2 := lTr (own_sz O0) P2_0
  have sz_b_2 : h0.size ≤ b_2 := lTr (Keep.refl h0 []).1 P2_0
  have N2 := Fr.app N0 N2q
  obtain ⟨fs, hr, hrun, hended, hW, hsame⟩ := X2.leave (v := some (.ref b_2)) (fun h => by rw [Bd.returns] at h; cases h)
  refine ⟨_, _, pre0 _ ?_, hrun, hended, _, _, rfl, ?_, ⟨_, rfl⟩, hW, hsame.mono (by decide) (by decide)⟩
  · show SP p e below s₁ m 0 #[vr a0d, vi (0 : Int32), vi (own_n cm)] [] _
    refine XS.iloadN X0.here hx rfl (dG hby D25 0 rfl) rfl ?_
    refine XS.ifNo X0.here hx rfl (dG hby D25 1 rfl) rfl ((if0 _ _).trans (teq (by decide : (0 : Int32) = (0 : Int32))).2) ?_
    refine XS.iloadN X0.here hx rfl (dG hby D25 2 rfl) rfl ?_
    refine XS.aloadN X0.here hx rfl (dG hby D25 3 rfl) rfl rfl ?_
    show SP p e below s₁ m 6 #[vr a0d, vi (0 : Int32), vi (own_n cm)] [(.ref a0d), (.int (own_n cm))] _
    refine X0.arraylength hx (by rw [e0]; exact Ar1.1) (State.isArrayOf_alike hZ.alike Ar1.2.1) (g := mkF m 6 #[vr a0d, vi (0 : Int32), vi (own_n cm)] [(.ref a0d), (.int (own_n cm))]) rfl rfl (dG hby D25 4 rfl) _ ?_
    rw [len_of S1 N1_]
    show SP p e below s₁ m 7 #[vr a0d, vi (0 : Int32), vi (own_n cm)] [(.int 32), (.int (own_n cm))] _
    refine XS.icmpNo X0.here hx rfl (dG hby D25 5 rfl) rfl (feq hne).1 ?_
    refine XS.aloadN X0.here hx rfl (dG hby D25 6 rfl) rfl rfl ?_
    refine XS.iloadN X0.here hx rfl (dG hby D25 7 rfl) rfl ?_
    refine XS.iloadN X0.here hx rfl (dG hby D25 8 rfl) rfl ?_
    show SP p e below s₁ m 13 #[vr a0d, vi (0 : Int32), vi (own_n cm)] [(.int (own_n cm)), (.int 0), (.ref a0d)] _
    refine st2 _ ?_
    show SP p e below T2 m 16 #[vr a0d, vi (0 : Int32), vi (own_n cm)] [(.ref b_2)] _
    exact retA X2 hx Bd.returns rfl (dG hby D25 10 rfl) hr
  · show Q_rmCr32 n0 Z cS vF a0d ky bs cm h0 _ T2.heap _
    exact ⟨b_2, kb_2, us_2, rfl, N2, K2, sz_b_2, P2_1, P2_2, P2_3⟩
theorem D20 : dL jdk_42_method_150_code [(0, .aload_n 0, 1), (1, .invokespecial 1, 3), (4, .aload_n 1, 1), (5, .invokevirtual 552, 3), (8, .astore_n 3, 1), (9, .aload_n 1, 1), (10, .invokevirtual 549, 3), (13, .istore 4, 2), (15, .aload_n 1, 1), (16, .invokevirtual 1047, 3), (19, .ifCond .eq 22, 3), (22, .aload_n 0, 1), (23, .iconst 0, 1), (24, .putfield 15, 3), (27, .aload_n 0, 1), (28, .aload_n 3, 1), (29, .iconst 0, 1), (30, .iload 4, 2), (32, .invokestatic 54, 3), (35, .putfield 9, 3), (38, .goto 59, 3), (97, .return_, 1), (41, .getstatic 38, 3), (44, .ifCond .eq 35, 3), (47, .aload_n 1, 1), (48, .getfield 1048, 3), (51, .ifCond .eq 28, 3), (79, .aload_n 0, 1), (80, .iconst 1, 1), (81, .putfield 15, 3), (84, .aload_n 0, 1), (85, .aload_n 3, 1), (86, .iconst 0, 1), (87, .iload 4, 2), (89, .iconst 1, 1), (90, .ishl, 1), (91, .invokestatic 54, 3), (94, .putfield 9, 3)] = true := by decide +kernel
theorem pdv27 : parseMethodDescriptor "()[B" = some ⟨[], some (.array .byte)⟩ := by decide +kernel
abbrev MN_42 : MethodName := ⟨"java/lang/String", "<init>", "(Ljava/lang/AbstractStringBuilder;Ljava/lang/Void;)V"⟩
theorem ef_rmSi0 (m : MethodId) (a0s : Addr) (a1b : Addr) : entryFrame m #[(.ref a0s), (.ref a1b), .null] 5 = mkF m 0 #[vr a0s, vr a1b, .val .null, .unset, .unset] [] := by first | (simp [entryFrame, mkF, argsToLocals, Value.category]; done) | rfl
def Q_rmSi0 (n0 : Nat) (Z : State) (cS : Int32) (vF : Value) (a0s : Addr) (a1b : Addr) (y : Addr) (ky : ClassId) (bs : List Value) (bn : Nat) (bf : Nat → Int32) (h0 : Heap) (v : Option Value) (h : Heap) (L : List Loc) : Prop := ∃ rv : Addr, ∃ rk : ClassId, ∃ rs : List Value, v = none ∧ Fr n0 L ∧ Keep h0 h [a0s] ∧ (h0.size ≤ rv) ∧ (Exa Z h a0s "java/lang/String") ∧ (Fld Z h a0s "java/lang/String" "value" "[B" (.ref rv)) ∧ (Fld Z h a0s "java/lang/String" "coder" "B" (.int 0)) ∧ (Arv Z h rv rk .byte (own_n bn) rs (.int 0)) ∧ (own_L rs bn bf)
theorem rmSi0 (l : Launch) (Z : State) (a0 : Array Value) (hw : ∀ d ∈ tables_1, d.before a0 Z = true) (ws : List Jvm.Cond) (cS : Int32) (vF : Value) (a0s : Addr) (a1b : Addr) (y : Addr) (ky : ClassId) (bs : List Value) (bn : Nat) (bf : Nat → Int32) (h0 : Heap) (n0 : Nat) (O0 : Old Z n0 h0) (GL : GF Z cS vF) (E_a0s : Exa Z h0 a0s "java/lang/String") (F_value_a0s : Fld Z h0 a0s "java/lang/String" "value" "[B" .null) (F_coder_a0s : Fld Z h0 a0s "java/lang/String" "coder" "B" (.int 0)) (g_a0s : n0 ≤ a0s) (E_a1b : Exa Z h0 a1b "java/lang/StringBuilder") (F_value_a1b : Fld Z h0 a1b "java/lang/AbstractStringBuilder" "value" "[B" (.ref y)) (F_coder_a1b : Fld Z h0 a1b "java/lang/AbstractStringBuilder" "coder" "B" (.int 0)) (F_count_a1b : Fld Z h0 a1b "java/lang/AbstractStringBuilder" "count" "I" (.int (own_n bn))) (F_maybeLatin1_a1b : Fld Z h0 a1b "java/lang/AbstractStringBuilder" "maybeLatin1" "Z" (.int 0)) (V_y : Arv Z h0 y ky .byte (16 : Int32) bs (.int 0)) (hbx : own_L bs bn bf) (hb8 : bn ≤ 8) :
    MF l MN_42 jdk_42_method_150_code 5 none ws (Rm 3 1 16 49) #[(.ref a0s), (.ref a1b), .null] Z h0 (Q_rmSi0 n0 Z cS vF a0s a1b y ky bs bn bf h0) := by
  refine MetFree.of_bodySF (plainFor_of_name pn) hisR ?_
  intro p e s m args below meth c s₁ Bd hml0 hP hK
  obtain ⟨rfl, hZ, hh⟩ := hP
  have hx := Bd.exec
  have hby := Bd.bytes
  have hml : c.maxLocals = 5 := hml0
  have hown : s.vm.findClass "java/lang/String" = some m.cls := findClass_of_methodNamed Bd.named
  have hnm := (name_of_methodNamed Bd.named Bd.method).1
  have X0 : Stand p l e (Rm 3 1 16 49) s m #[(.ref a0s), (.ref a1b), .null] below meth c s₁ [] 0 0 := Stand.of_body Bd
  have e0 : s₁.heap = h0 := by rw [← hh, Bd.state]; rfl
  have N0 := Fr.nil n0
  have pre0 : ∀ t, SP p e below s₁ m 0 #[vr a0s, vr a1b, .val .null, .unset, .unset] [] t → Steps p.tables e below (s₁.setTop (entryFrame m #[(.ref a0s), (.ref a1b), .null] 5)) t := fun t k => castTop (ef_rmSi0 m a0s a1b) k
  have GL' := GL
  obtain ⟨GCS, GCP, GA16, GHI, GLO, GFF, GVF⟩ := GL'
  obtain ⟨T1, X1, e1, st1⟩ := initO X0 hx hZ hown (Wd hw 19 rfl) (Wd hw 20 rfl) (Wd hw 21 rfl) e0 (g := mkF m 1 #[vr a0s, vr a1b, .val .null, .unset, .unset] [(.ref a0s)]) rfl (by rw [hml]; rfl) rfl (dG hby D20 1 rfl) (by decide) (W := 0) (by show 2 * 0 + _ ≤ _; exact lEq rfl) (by decide)
  obtain ⟨cq2, kq2, q2a, q2b, q2c⟩ := isOf hZ e1 E_a1b
  obtain ⟨_, _, ⟨T2, L2, k2, n2⟩, -, X2, ⟨Lc2, hQ2, l2, y2, z2⟩, st2⟩ := X1.virtualBack hx (y := MN_36) (z := MN_36) hown (mvT hZ (Wd hw 127 rfl)) (mvT hZ (Wd hw 128 rfl)) (notFace_of_selects (args := #[]) (mvT hZ (Wd hw 130 rfl))) (mvT hZ (Wd hw 130 rfl)) (mvT hZ (Wd hw 129 rfl)) (by decide) (backOf (W := 0) (rmGv l Z a0 hw [] cS vF a1b y h0 n0 O0 GL E_a1b F_value_a1b) hZ (Wd hw 131 rfl) (Wd hw 58 rfl) (by decide) (by decide)) q2a q2c (g := mkF m 5 #[vr a0s, vr a1b, .val .null, .unset, .unset] [(.ref a1b)]) rfl (by rw [hml]; rfl) (Steps.refl _) (argsL := []) (rest := []) (lenOf pdv27 rfl) rfl (by show 2 * 0 + _ ≤ _; exact lEq rfl) (dG hby D20 3 rfl) (fun _ _ => ⟨rfl, e1, (by decide : 0 + 0 ≤ _), (by decide : 0 + 0 ≤ _)⟩)
  dsimp only [Pt.U, Pt.locs, Pt.cells, Pt.slots] at X2 l2 y2 z2 st2 hQ2
  subst l2 y2 z2
  obtain ⟨rfl, N2q, e2⟩ := hQ2
  have N2 := Fr.app N0 N2q
  obtain ⟨cq3, kq3, q3a, q3b, q3c⟩ := isOf hZ e2 E_a1b
  obtain ⟨_, _, ⟨T3, L3, k3, n3⟩, -, X3, ⟨Lc3, hQ3, l3, y3, z3⟩, st3⟩ := X2.virtualBack hx (y := MN_37) (z := MN_38) hown (mvT hZ (Wd hw 132 rfl)) (mvT hZ (Wd hw 133 rfl)) (own_nf (args := #[]) (mvT hZ (Wd hw 92 rfl)) rfl) (mvT hZ (Wd hw 135 rfl)) (mvT hZ (Wd hw 136 rfl)) (by decide) (backOf (W := 0) (rmSl l Z a0 hw [] cS vF a1b ((own_n bn)) h0 n0 O0 GL E_a1b F_count_a1b) hZ (Wd hw 137 rfl) (Wd hw 50 rfl) (by decide) (by decide)) q3a q3c (g := mkF m 10 #[vr a0s, vr a1b, .val .null, vr y, .unset] [(.ref a1b)]) rfl (by rw [hml]; rfl) (Steps.refl _) (argsL := []) (rest := []) (lenOf pdv22 rfl) rfl (by show 2 * 0 + _ ≤ _; exact lEq rfl) (dG hby D20 6 rfl) (fun _ _ => ⟨rfl, e2, (by decide : 0 + 0 ≤ _), (by decide : 0 + 0 ≤ _)⟩)
  dsimp only [Pt.U, Pt.locs, Pt.cells, Pt.slots] at X3 l3 y3 z3 st3 hQ3
  subst l3 y3 z3
  obtain ⟨rfl, N3q, e3⟩ := hQ3
  have N3 := Fr.app N2 N3q
  obtain ⟨cq4, kq4, q4a, q4b, q4c⟩ := isOf hZ e3 E_a1b
  obtain ⟨_, _, ⟨T4, L4, k4, n4⟩, -, X4, ⟨Lc4, hQ4, l4, y4, z4⟩, st4⟩ := X3.virtualBack hx (y := MN_29) (z := MN_29) hown (mvT hZ (Wd hw 140 rfl)) (mvT hZ (Wd hw 141 rfl)) (notFace_of_selects (args := #[]) (mvT hZ (Wd hw 143 rfl))) (mvT hZ (Wd hw 143 rfl)) (mvT hZ (Wd hw 142 rfl)) (by decide) (backOf (W := 0) (rmBl0 l Z a0 hw [] cS vF a1b h0 n0 O0 GL E_a1b F_coder_a1b) hZ (Wd hw 144 rfl) (Wd hw 58 rfl) (by decide) (by decide)) q4a q4c (g := mkF m 16 #[vr a0s, vr a1b, .val .null, vr y, vi (own_n bn)] [(.ref a1b)]) rfl (by rw [hml]; rfl) (Steps.refl _) (argsL := []) (rest := []) (lenOf pdv6 rfl) rfl (by show 2 * 0 + _ ≤ _; exact lEq rfl) (dG hby D20 9 rfl) (fun _ _ => ⟨rfl, e3, (by decide : 0 + 0 ≤ _), (by decide : 0 + 0 ≤ _)⟩)
  dsimp only [Pt.U, Pt.locs, Pt.cells, Pt.slots] at X4 l4 y4 z4 st4 hQ4
  subst l4 y4 z4
  obtain ⟨rfl, N4q, e4⟩ := hQ4
  have N4 := Fr.app N3 N4q
  obtain ⟨T5, h5, X5, e5, W5, st5⟩ := putFN X4 hx hZ hown (Wd hw 29 rfl) Via.refl e4 F_coder_a0s E_a0s (Or.inr ⟨(Wd hw 25 rfl), rfl, hnm⟩) (Wd hw 10 rfl) (ty := .byte) (v' := (.int 0)) (by decide) rfl (by decide) (g := mkF m 24 #[vr a0s, vr a1b, .val .null, vr y, vi (own_n bn)] [(.int 0), (.ref a0s)]) rfl rfl (dG hby D20 13 rfl)
  have Fw5 := F_coder_a0s.same W5
  have K5 : Keep h0 h5 [a0s] := (Keep.refl h0 [a0s]).wr W5 (Or.inl (List.mem_of_getElem? (i := 0) rfl))
  have O5 := O0.wr W5 g_a0s
  have N5 := Fr.snoc X5 N4 g_a0s
  obtain ⟨_, _, ⟨T6, L6, k6, n6⟩, -, X6, ⟨Lc6, hQ6, l6, y6, z6⟩, st6⟩ := Jvm.LawKit.callS X5 hx (y := MN_41) hown (mvT hZ (Wd hw 145 rfl)) (mvT hZ (Wd hw 146 rfl)) (mvT hZ (Wd hw 147 rfl)) (mvT hZ (Wd hw 148 rfl)) (by decide) (backOf (W := 1) (rmCr16 l Z a0 hw [] cS vF y ky bs bn h5 n0 O5 GL (V_y.other W5 (Ne.symm (Exa.neArv (a0 := a0) E_a0s V_y (Wd hw 10 rfl)))) hb8) hZ (Wd hw 148 rfl) (Wd hw 147 rfl) (by decide) (by decide)) (g := mkF m 32 #[vr a0s, vr a1b, .val .null, vr y, vi (own_n bn)] [(.int (own_n bn)), (.int 0), (.ref y), (.ref a0s)]) rfl (by rw [hml]; rfl) (argsL := [(.ref y), (.int 0), (.int (own_n bn))]) (rest := [(.ref a0s)]) (lenOf pdv26 rfl) rfl (by show 2 * 0 + _ ≤ _; exact lEq rfl) (dG hby D20 18 rfl) (fun _ _ => ⟨rfl, e5, (by decide : 0 + 1 ≤ _), (by decide : 0 + 16 ≤ _)⟩)
  dsimp only [Pt.U, Pt.locs, Pt.cells, Pt.slots] at X6 l6 y6 z6 st6 hQ6
  subst l6 y6 z6
  obtain ⟨b_6, kb_6, us_6, rfl, N6q, Kc6, P6_0, P6_1, P6_2, P6_3⟩ := hQ6
  have K6 : Keep h0 T6.heap [a0s] := K5.trans Kc6 all0
  have O6 := O5.keep Kc6 all0
  have g_b_6 : n0 ≤ b_6 := lTr (own_sz O5) P6_0
  have sz_b_6 : h0.size ≤ b_6 := lTr K5.1 P6_0
  have N6 := Fr.app N5 N6q
  obtain ⟨T7, h7, X7, e7, W7, st7⟩ := putF X6 hx hZ hown (host := "") (Or.inl (Wd hw 28 rfl)) Via.refl rfl ((F_value_a0s.other W5 (Or.inr (slot_ne (a0 := a0) (Or.inr (Wd hw 24 rfl)) (Or.inr (Wd hw 25 rfl)) (by decide) (t := (.array .byte)) (t' := .byte) (by decide) (by decide)))).keep Kc6 nin0) ((E_a0s.wr W5).keep Kc6) (Or.inr ⟨(Wd hw 24 rfl), rfl, hnm⟩) (Wd hw 10 rfl) (ty := (.array .byte)) (by decide) rfl rfl (g := mkF m 35 #[vr a0s, vr a1b, .val .null, vr y, vi (own_n bn)] [(.ref b_6), (.ref a0s)]) rfl rfl (dG hby D20 19 rfl)
  have Fw7 := ((F_value_a0s.other W5 (Or.inr (slot_ne (a0 := a0) (Or.inr (Wd hw 24 rfl)) (Or.inr (Wd hw 25 rfl)) (by decide) (t := (.array .byte)) (t' := .byte) (by decide) (by decide)))).keep Kc6 nin0).same W7
  have K7 : Keep h0 h7 [a0s] := K6.wr W7 (Or.inl (List.mem_of_getElem? (i := 0) rfl))
  have O7 := O6.wr W7 g_a0s
  have N7 := Fr.snoc X7 N6 g_a0s
  have hT : own_L us_6 bn bf := own_L_sub hbx P6_3
  obtain ⟨fs, hr, hrun, hended, hW, hsame⟩ := X7.leave (v := none) (fun _ => rfl)
  refine ⟨_, _, pre0 _ ?_, hrun, hended, _, _, rfl, ?_, ⟨_, rfl⟩, hW, hsame.mono (by decide) (by decide)⟩
  · show SP p e below s₁ m 0 #[vr a0s, vr a1b, .val .null, .unset, .unset] [] _
    refine XS.aloadN X0.here hx rfl (dG hby D20 0 rfl) rfl rfl ?_
    show SP p e below s₁ m 1 #[vr a0s, vr a1b, .val .null, .unset, .unset] [(.ref a0s)] _
    refine st1 _ ?_
    show SP p e below T1 m 4 #[vr a0s, vr a1b, .val .null, .unset, .unset] [] _
    refine XS.aloadN X1.here hx rfl (dG hby D20 2 rfl) rfl rfl ?_
    show SP p e below T1 m 5 #[vr a0s, vr a1b, .val .null, .unset, .unset] [(.ref a1b)] _
    refine st2.trans ?_
    show SP p e below T2 m 8 #[vr a0s, vr a1b, .val .null, .unset, .unset] [(.ref y)] _
    refine XS.astoreN X2.here hx rfl (dG hby D20 4 rfl) rfl rfl (l' := #[vr a0s, vr a1b, .val .null, vr y, .unset]) rfl ?_
    refine XS.aloadN X2.here hx rfl (dG hby D20 5 rfl) rfl rfl ?_
    show SP p e below T2 m 10 #[vr a0s, vr a1b, .val .null, vr y, .unset] [(.ref a1b)] _
    refine st3.trans ?_
    show SP p e below T3 m 13 #[vr a0s, vr a1b, .val .null, vr y, .unset] [(.int (own_n bn))] _
    refine XS.istore X3.here hx rfl (dG hby D20 7 rfl) rfl (l' := #[vr a0s, vr a1b, .val .null, vr y, vi (own_n bn)]) rfl ?_
    refine XS.aloadN X3.here hx rfl (dG hby D20 8 rfl) rfl rfl ?_
    show SP p e below T3 m 16 #[vr a0s, vr a1b, .val .null, vr y, vi (own_n bn)] [(.ref a1b)] _
    refine st4.trans ?_
    show SP p e below T4 m 19 #[vr a0s, vr a1b, .val .null, vr y, vi (own_n bn)] [(.int 1)] _
    refine XS.ifNo X4.here hx rfl (dG hby D20 10 rfl) rfl ((if0 _ _).trans (feq (by decide : ¬ ((1 : Int32) = (0 : Int32)))).1) ?_
    refine XS.aloadN X4.here hx rfl (dG hby D20 11 rfl) rfl rfl ?_
    refine XS.iconst X4.here hx rfl (dG hby D20 12 rfl) ?_
    show SP p e below T4 m 24 #[vr a0s, vr a1b, .val .null, vr y, vi (own_n bn)] [(.int 0), (.ref a0s)] _
    refine st5 _ ?_
    show SP p e below T5 m 27 #[vr a0s, vr a1b, .val .null, vr y, vi (own_n bn)] [] _
    refine XS.aloadN X5.here hx rfl (dG hby D20 14 rfl) rfl rfl ?_
    refine XS.aloadN X5.here hx rfl (dG hby D20 15 rfl) rfl rfl ?_
    refine XS.iconst X5.here hx rfl (dG hby D20 16 rfl) ?_
    refine XS.iload X5.here hx rfl (dG hby D20 17 rfl) rfl ?_
    show SP p e below T5 m 32 #[vr a0s, vr a1b, .val .null, vr y, vi (own_n bn)] [(.int (own_n bn)), (.int 0), (.ref y), (.ref a0s)] _
    refine st6 _ ?_
    show SP p e below T6 m 35 #[vr a0s, vr a1b, .val .null, vr y, vi (own_n bn)] [(.ref b_6), (.ref a0s)] _
    refine st7 _ ?_
    show SP p e below T7 m 38 #[vr a0s, vr a1b, .val .null, vr y, vi (own_n bn)] [] _
    refine XS.goto X7.here hx rfl (pc0 := 38) (pc' := 97) rfl (dG hby D20 20 rfl) (by decide) (by decide) ?_
    show SP p e below T7 m 97 #[vr a0s, vr a1b, .val .null, vr y, vi (own_n bn)] [] _
    exact X7.returnOut hx Bd.returns (dG hby D20 21 rfl) hr
  · show Q_rmSi0 n0 Z cS vF a0s a1b y ky bs bn bf h0 _ T7.heap _
    rw [e7]
    exact ⟨b_6, kb_6, us_6, rfl, N7, K7, sz_b_6, (((E_a0s.wr W5).keep Kc6).wr W7), Fw7, ((Fw5.keep Kc6 nin0).other W7 (Or.inr (slot_ne (a0 := a0) (Or.inr (Wd hw 25 rfl)) (Or.inr (Wd hw 24 rfl)) (by decide) (t := .byte) (t' := (.array .byte)) (by decide) (by decide)))), (P6_2.other W7 (Ne.symm (nLt (lLt (lLt E_a0s.lt (Keep.of_wr W5).1) P6_0)))), hT⟩
theorem D19 : dL jdk_42_method_53_code [(0, .aload_n 0, 1), (1, .aload_n 1, 1), (2, .aconst_null, 1), (3, .invokespecial 489, 3), (6, .return_, 1)] = true := by decide +kernel
theorem pdv28 : parseMethodDescriptor "(Ljava/lang/AbstractStringBuilder;Ljava/lang/Void;)V" = some ⟨[(.object "java/lang/AbstractStringBuilder"), (.object "java/lang/Void")], none⟩ := by decide +kernel
abbrev MN_43 : MethodName := ⟨"java/lang/String", "<init>", "(Ljava/lang/StringBuilder;)V"⟩
theorem ef_rmSj0 (m : MethodId) (a0s : Addr) (a1b : Addr) : entryFrame m #[(.ref a0s), (.ref a1b)] 2 = mkF m 0 #[vr a0s, vr a1b] [] := by first | (simp [entryFrame, mkF, argsToLocals, Value.category]; done) | rfl
def Q_rmSj0 (n0 : Nat) (Z : State) (cS : Int32) (vF : Value) (a0s : Addr) (a1b : Addr) (y : Addr) (ky : ClassId) (bs : List Value) (bn : Nat) (bf : Nat → Int32) (h0 : Heap) (v : Option Value) (h : Heap) (L : List Loc) : Prop := ∃ rv : Addr, ∃ rk : ClassId, ∃ rs : List Value, v = none ∧ Fr n0 L ∧ Keep h0 h [a0s] ∧ (h0.size ≤ rv) ∧ (Exa Z h a0s "java/lang/String") ∧ (Fld Z h a0s "java/lang/String" "value" "[B" (.ref rv)) ∧ (Fld Z h a0s "java/lang/String" "coder" "B" (.int 0)) ∧ (Arv Z h rv rk .byte (own_n bn) rs (.int 0)) ∧ (own_L rs bn bf)
theorem rmSj0 (l : Launch) (Z : State) (a0 : Array Value) (hw : ∀ d ∈ tables_1, d.before a0 Z = true) (ws : List Jvm.Cond) (cS : Int32) (vF : Value) (a0s : Addr) (a1b : Addr) (y : Addr) (ky : ClassId) (bs : List Value) (bn : Nat) (bf : Nat → Int32) (h0 : Heap) (n0 : Nat) (O0 : Old Z n0 h0) (GL : GF Z cS vF) (E_a0s : Exa Z h0 a0s "java/lang/String") (F_value_a0s : Fld Z h0 a0s "java/lang/String" "value" "[B" .null) (F_coder_a0s : Fld Z h0 a0s "java/lang/String" "coder" "B" (.int 0)) (g_a0s : n0 ≤ a0s) (E_a1b : Exa Z h0 a1b "java/lang/StringBuilder") (F_value_a1b : Fld Z h0 a1b "java/lang/AbstractStringBuilder" "value" "[B" (.ref y)) (F_coder_a1b : Fld Z h0 a1b "java/lang/AbstractStringBuilder" "coder" "B" (.int 0)) (F_count_a1b : Fld Z h0 a1b "java/lang/AbstractStringBuilder" "count" "I" (.int (own_n bn))) (F_maybeLatin1_a1b : Fld Z h0 a1b "java/lang/AbstractStringBuilder" "maybeLatin1" "Z" (.int 0)) (V_y : Arv Z h0 y ky .byte (16 : Int32) bs (.int 0)) (hbx : own_L bs bn bf) (hb8 : bn ≤ 8) :
    MF l MN_43 jdk_42_method_53_code 2 none ws (Rm 4 1 16 65) #[(.ref a0s), (.ref a1b)] Z h0 (Q_rmSj0 n0 Z cS vF a0s a1b y ky bs bn bf h0) := by
  refine MetFree.of_bodySF (plainFor_of_name pn) hisR ?_
  intro p e s m args below meth c s₁ Bd hml0 hP hK
  obtain ⟨rfl, hZ, hh⟩ := hP
  have hx := Bd.exec
  have hby := Bd.bytes
  have hml : c.maxLocals = 2 := hml0
  have hown : s.vm.findClass "java/lang/String" = some m.cls := findClass_of_methodNamed Bd.named
  have hnm := (name_of_methodNamed Bd.named Bd.method).1
  have X0 : Stand p l e (Rm 4 1 16 65) s m #[(.ref a0s), (.ref a1b)] below meth c s₁ [] 0 0 := Stand.of_body Bd
  have e0 : s₁.heap = h0 := by rw [← hh, Bd.state]; rfl
  have N0 := Fr.nil n0
  have pre0 : ∀ t, SP p e below s₁ m 0 #[vr a0s, vr a1b] [] t → Steps p.tables e below (s₁.setTop (entryFrame m #[(.ref a0s), (.ref a1b)] 2)) t := fun t k => castTop (ef_rmSj0 m a0s a1b) k
  have GL' := GL
  obtain ⟨GCS, GCP, GA16, GHI, GLO, GFF, GVF⟩ := GL'
  obtain ⟨_, _, ⟨T1, L1, k1, n1⟩, -, X1, ⟨Lc1, hQ1, l1, y1, z1⟩, st1⟩ := X0.specialBack hx (y := MN_42) rfl hown (mvT hZ (Wd hw 124 rfl)) (mvT hZ (Wd hw 125 rfl)) (mvT hZ (Wd hw 126 rfl)) (by decide) (backOf (W := 0) (rmSi0 l Z a0 hw [] cS vF a0s a1b y ky bs bn bf h0 n0 O0 GL E_a0s F_value_a0s F_coder_a0s g_a0s E_a1b F_value_a1b F_coder_a1b F_count_a1b F_maybeLatin1_a1b V_y hbx hb8) hZ (Wd hw 126 rfl) (Wd hw 11 rfl) (by decide) (by decide)) (g := mkF m 3 #[vr a0s, vr a1b] [.null, (.ref a1b), (.ref a0s)]) rfl (by rw [hml]; rfl) (Steps.refl _) (a := a0s) (argsL := [(.ref a1b), .null]) (rest := []) (lenOf pdv28 rfl) rfl (by show 2 * 0 + _ ≤ _; exact lEq rfl) (dG hby D19 3 rfl) (fun _ _ => ⟨rfl, e0, (by decide : 0 + 1 ≤ _), (by decide : 0 + 16 ≤ _)⟩)
  dsimp only [Pt.U, Pt.locs, Pt.cells, Pt.slots] at X1 l1 y1 z1 st1 hQ1
  subst l1 y1 z1
  obtain ⟨rv_1, rk_1, rs_1, rfl, N1q, Kc1, P1_0, P1_1, P1_2, P1_3, P1_4, P1_5⟩ := hQ1
  have K1 : Keep h0 T1.heap [a0s] := (Keep.refl h0 [a0s]).trans Kc1 (allS (Or.inl (List.mem_of_getElem? (i := 0) rfl)) all0)
  have O1 := O0.keep Kc1 (allS g_a0s all0)
  have g_rv_1 : n0 ≤ rv_1 := lTr (own_sz O0) P1_0
  have sz_rv_1 : h0.size ≤ rv_1 := lTr (Keep.refl h0 [a0s]).1 P1_0
  have N1 := Fr.app N0 N1q
  obtain ⟨fs, hr, hrun, hended, hW, hsame⟩ := X1.leave (v := none) (fun _ => rfl)
  refine ⟨_, _, pre0 _ ?_, hrun, hended, _, _, rfl, ?_, ⟨_, rfl⟩, hW, hsame.mono (by decide) (by decide)⟩
  · show SP p e below s₁ m 0 #[vr a0s, vr a1b] [] _
    refine XS.aloadN X0.here hx rfl (dG hby D19 0 rfl) rfl rfl ?_
    refine XS.aloadN X0.here hx rfl (dG hby D19 1 rfl) rfl rfl ?_
    refine XS.aconstNull X0.here hx rfl (dG hby D19 2 rfl) ?_
    show SP p e below s₁ m 3 #[vr a0s, vr a1b] [.null, (.ref a1b), (.ref a0s)] _
    refine st1.trans ?_
    show SP p e below T1 m 6 #[vr a0s, vr a1b] [] _
    exact X1.returnOut hx Bd.returns (dG hby D19 4 rfl) hr
  · show Q_rmSj0 n0 Z cS vF a0s a1b y ky bs bn bf h0 _ T1.heap _
    exact ⟨rv_1, rk_1, rs_1, rfl, N1, K1, sz_rv_1, P1_1, P1_2, P1_3, P1_4, P1_5⟩
theorem D18 : dL jdk_67_method_42_code [(0, .new 18, 3), (3, .dup, 1), (4, .aload_n 0, 1), (5, .invokespecial 137, 3), (8, .areturn, 1)] = true := by decide +kernel
theorem pdv29 : parseMethodDescriptor "(Ljava/lang/StringBuilder;)V" = some ⟨[(.object "java/lang/StringBuilder")], none⟩ := by decide +kernel
abbrev MN_44 : MethodName := ⟨"java/lang/StringBuilder", "toString", "()Ljava/lang/String;"⟩
def Q_rmTs0 (n0 : Nat) (Z : State) (cS : Int32) (vF : Value) (a0b : Addr) (y : Addr) (ky : ClassId) (bs : List Value) (bn : Nat) (bf : Nat → Int32) (h0 : Heap) (v : Option Value) (h : Heap) (L : List Loc) : Prop := ∃ rb : Addr, ∃ rv : Addr, ∃ rk : ClassId, ∃ rs : List Value, v = some (.ref rb) ∧ Fr n0 L ∧ Keep h0 h [] ∧ (h0.size ≤ rb) ∧ (h0.size ≤ rv) ∧ (Exa Z h rb "java/lang/String") ∧ (Fld Z h rb "java/lang/String" "value" "[B" (.ref rv)) ∧ (Fld Z h rb "java/lang/String" "coder" "B" (.int 0)) ∧ (Arv Z h rv rk .byte (own_n bn) rs (.int 0)) ∧ (own_L rs bn bf)
theorem rmTs0 (l : Launch) (Z : State) (a0 : Array Value) (hw : ∀ d ∈ tables_1, d.before a0 Z = true) (ws : List Jvm.Cond) (cS : Int32) (vF : Value) (a0b : Addr) (y : Addr) (ky : ClassId) (bs : List Value) (bn : Nat) (bf : Nat → Int32) (h0 : Heap) (n0 : Nat) (O0 : Old Z n0 h0) (GL : GF Z cS vF) (E_a0b : Exa Z h0 a0b "java/lang/StringBuilder") (F_value_a0b : Fld Z h0 a0b "java/lang/AbstractStringBuilder" "value" "[B" (.ref y)) (F_coder_a0b : Fld Z h0 a0b "java/lang/AbstractStringBuilder" "coder" "B" (.int 0)) (F_count_a0b : Fld Z h0 a0b "java/lang/AbstractStringBuilder" "count" "I" (.int (own_n bn))) (F_maybeLatin1_a0b : Fld Z h0 a0b "java/lang/AbstractStringBuilder" "maybeLatin1" "Z" (.int 0)) (V_y : Arv Z h0 y ky .byte (16 : Int32) bs (.int 0)) (hbx : own_L bs bn bf) (hb8 : bn ≤ 8) :
    MF l MN_44 jdk_67_method_42_code 1 (some (.object "java/lang/String")) ws (Rm 5 2 20 79) #[(.ref a0b)] Z h0 (Q_rmTs0 n0 Z cS vF a0b y ky bs bn bf h0) := by
  refine MetFree.of_bodySF (plainFor_of_name pnv5) hisR ?_
  intro p e s m args below meth c s₁ Bd hml0 hP hK
  obtain ⟨rfl, hZ, hh⟩ := hP
  have hx := Bd.exec
  have hby := Bd.bytes
  have hml : c.maxLocals = 1 := hml0
  have hown : s.vm.findClass "java/lang/StringBuilder" = some m.cls := findClass_of_methodNamed Bd.named
  have hnm := (name_of_methodNamed Bd.named Bd.method).1
  have X0 : Stand p l e (Rm 5 2 20 79) s m #[(.ref a0b)] below meth c s₁ [] 0 0 := Stand.of_body Bd
  have e0 : s₁.heap = h0 := by rw [← hh, Bd.state]; rfl
  have N0 := Fr.nil n0
  have pre0 : ∀ t, SP p e below s₁ m 0 #[vr a0b] [] t → Steps p.tables e below (s₁.setTop (entryFrame m #[(.ref a0b)] 1)) t := fun t k => castTop (ef_rmUl0 m a0b) k
  have GL' := GL
  obtain ⟨GCS, GCP, GA16, GHI, GLO, GFF, GVF⟩ := GL'
  obtain ⟨T1, h1, X1, e1, E1, A1, D1, -, st1⟩ := newO X0 hx hZ hown (Wd hw 120 rfl) (Wd hw 10 rfl) (Wd hw 11 rfl) e0 (g := mkF m 0 #[vr a0b] []) rfl (dG hby D18 0 rfl) (by decide) (by decide)
  obtain ⟨b1, g1⟩ : ∃ z, z = h0.size := ⟨_, rfl⟩
  rw [← g1] at A1 D1 st1
  have g_b1 : n0 ≤ b1 := lTr (own_sz O0) (lEq g1.symm)
  have sz_b1 : h0.size ≤ b1 := lTr (Keep.refl h0 []).1 (lEq g1.symm)
  have K1 : Keep h0 h1 [] := (Keep.refl h0 []).ext E1
  have O1 := O0.ext E1
  have F_value_b1 : Fld Z h1 b1 "java/lang/String" "value" "[B" .null := D1 (Or.inr (Wd hw 24 rfl)) (ty := (.array .byte)) (by decide)
  have F_coder_b1 : Fld Z h1 b1 "java/lang/String" "coder" "B" (.int 0) := D1 (Or.inr (Wd hw 25 rfl)) (ty := .byte) (by decide)
  obtain ⟨_, _, ⟨T2, L2, k2, n2⟩, -, X2, ⟨Lc2, hQ2, l2, y2, z2⟩, st2⟩ := X1.specialBack hx (y := MN_43) rfl hown (mvT hZ (Wd hw 121 rfl)) (mvT hZ (Wd hw 122 rfl)) (mvT hZ (Wd hw 123 rfl)) (by decide) (backOf (W := 1) (rmSj0 l Z a0 hw [] cS vF b1 a0b y ky bs bn bf h1 n0 O1 GL A1 F_value_b1 F_coder_b1 g_b1 (E_a0b.ext E1) (F_value_a0b.ext E1) (F_coder_a0b.ext E1) (F_count_a0b.ext E1) (F_maybeLatin1_a0b.ext E1) (V_y.ext E1) hbx hb8) hZ (Wd hw 123 rfl) (Wd hw 11 rfl) (by decide) (by decide)) (g := mkF m 5 #[vr a0b] [(.ref a0b), (.ref b1), (.ref b1)]) rfl (by rw [hml]; rfl) (Steps.refl _) (a := b1) (argsL := [(.ref a0b)]) (rest := [(.ref b1)]) (lenOf pdv29 rfl) rfl (by show 2 * 0 + _ ≤ _; exact lEq rfl) (dG hby D18 3 rfl) (fun _ _ => ⟨rfl, e1, (by decide : 1 + 1 ≤ _), (by decide : 4 + 16 ≤ _)⟩)
  dsimp only [Pt.U, Pt.locs, Pt.cells, Pt.slots] at X2 l2 y2 z2 st2 hQ2
  subst l2 y2 z2
  obtain ⟨rv_2, rk_2, rs_2, rfl, N2q, Kc2, P2_0, P2_1, P2_2, P2_3, P2_4, P2_5⟩ := hQ2
  have K2 : Keep h0 T2.heap [] := K1.trans Kc2 (allS (Or.inr sz_b1) all0)
  have O2 := O1.keep Kc2 (allS g_b1 all0)
  have g_rv_2 : n0 ≤ rv_2 := lTr (own_sz O1) P2_0
  have sz_rv_2 : h0.size ≤ rv_2 := lTr K1.1 P2_0
  have N2 := Fr.app N0 N2q
  obtain ⟨fs, hr, hrun, hended, hW, hsame⟩ := X2.leave (v := some (.ref b1)) (fun h => by rw [Bd.returns] at h; cases h)
  refine ⟨_, _, pre0 _ ?_, hrun, hended, _, _, rfl, ?_, ⟨_, rfl⟩, hW, hsame.mono (by decide) (by decide)⟩
  · show SP p e below s₁ m 0 #[vr a0b] [] _
    refine st1 _ ?_
    show SP p e below T1 m 3 #[vr a0b] [(.ref b1)] _
    refine XS.dup X1.here hx rfl (dG hby D18 1 rfl) rfl rfl ?_
    refine XS.aloadN X1.here hx rfl (dG hby D18 2 rfl) rfl rfl ?_
    show SP p e below T1 m 5 #[vr a0b] [(.ref a0b), (.ref b1), (.ref b1)] _
    refine st2.trans ?_
    show SP p e below T2 m 8 #[vr a0b] [(.ref b1)] _
    exact retA X2 hx Bd.returns rfl (dG hby D18 4 rfl) hr
  · show Q_rmTs0 n0 Z cS vF a0b y ky bs bn bf h0 _ T2.heap _
    exact ⟨b1, rv_2, rk_2, rs_2, rfl, N2, K2, sz_b1, sz_rv_2, P2_1, P2_2, P2_3, P2_4, P2_5⟩
def Q_rmSi1 (n0 : Nat) (Z : State) (cS : Int32) (vF : Value) (a0s : Addr) (a1b : Addr) (y : Addr) (ky : ClassId) (bs : List Value) (bn : Nat) (bf : Nat → Int32) (h0 : Heap) (v : Option Value) (h : Heap) (L : List Loc) : Prop := ∃ rv : Addr, ∃ rk : ClassId, ∃ rs : List Value, v = none ∧ Fr n0 L ∧ Keep h0 h [a0s] ∧ (h0.size ≤ rv) ∧ (Exa Z h a0s "java/lang/String") ∧ (Fld Z h a0s "java/lang/String" "value" "[B" (.ref rv)) ∧ (Fld Z h a0s "java/lang/String" "coder" "B" (.int 1)) ∧ (Arv Z h rv rk .byte (own_n (2 * bn)) rs (.int 0)) ∧ (own_U rs bn bf)
theorem rmSi1 (l : Launch) (Z : State) (a0 : Array Value) (hw : ∀ d ∈ tables_1, d.before a0 Z = true) (ws : List Jvm.Cond) (cS : Int32) (vF : Value) (a0s : Addr) (a1b : Addr) (y : Addr) (ky : ClassId) (bs : List Value) (bn : Nat) (bf : Nat → Int32) (h0 : Heap) (n0 : Nat) (O0 : Old Z n0 h0) (GL : GF Z cS vF) (E_a0s : Exa Z h0 a0s "java/lang/String") (F_value_a0s : Fld Z h0 a0s "java/lang/String" "value" "[B" .null) (F_coder_a0s : Fld Z h0 a0s "java/lang/String" "coder" "B" (.int 0)) (g_a0s : n0 ≤ a0s) (E_a1b : Exa Z h0 a1b "java/lang/StringBuilder") (F_value_a1b : Fld Z h0 a1b "java/lang/AbstractStringBuilder" "value" "[B" (.ref y)) (F_coder_a1b : Fld Z h0 a1b "java/lang/AbstractStringBuilder" "coder" "B" (.int 1)) (F_count_a1b : Fld Z h0 a1b "java/lang/AbstractStringBuilder" "count" "I" (.int (own_n bn))) (F_maybeLatin1_a1b : Fld Z h0 a1b "java/lang/AbstractStringBuilder" "maybeLatin1" "Z" (.int 0)) (V_y : Arv Z h0 y ky .byte (32 : Int32) bs (.int 0)) (hbx : own_U bs bn bf) (hb8 : bn ≤ 8) :
    MF l MN_42 jdk_42_method_150_code 5 none ws (Rm 3 1 16 49) #[(.ref a0s), (.ref a1b), .null] Z h0 (Q_rmSi1 n0 Z cS vF a0s a1b y ky bs bn bf h0) := by
  refine MetFree.of_bodySF (plainFor_of_name pn) hisR ?_
  intro p e s m args below meth c s₁ Bd hml0 hP hK
  obtain ⟨rfl, hZ, hh⟩ := hP
  have hx := Bd.exec
  have hby := Bd.bytes
  have hml : c.maxLocals = 5 := hml0
  have hown : s.vm.findClass "java/lang/String" = some m.cls := findClass_of_methodNamed Bd.named
  have hnm := (name_of_methodNamed Bd.named Bd.method).1
  have X0 : Stand p l e (Rm 3 1 16 49) s m #[(.ref a0s), (.ref a1b), .null] below meth c s₁ [] 0 0 := Stand.of_body Bd
  have e0 : s₁.heap = h0 := by rw [← hh, Bd.state]; rfl
  have N0 := Fr.nil n0
  have pre0 : ∀ t, SP p e below s₁ m 0 #[vr a0s, vr a1b, .val .null, .unset, .unset] [] t → Steps p.tables e below (s₁.setTop (entryFrame m #[(.ref a0s), (.ref a1b), .null] 5)) t := fun t k => castTop (ef_rmSi0 m a0s a1b) k
  have GL' := GL
  obtain ⟨GCS, GCP, GA16, GHI, GLO, GFF, GVF⟩ := GL'
  obtain ⟨T1, X1, e1, st1⟩ := initO X0 hx hZ hown (Wd hw 19 rfl) (Wd hw 20 rfl) (Wd hw 21 rfl) e0 (g := mkF m 1 #[vr a0s, vr a1b, .val .null, .unset, .unset] [(.ref a0s)]) rfl (by rw [hml]; rfl) rfl (dG hby D20 1 rfl) (by decide) (W := 0) (by show 2 * 0 + _ ≤ _; exact lEq rfl) (by decide)
  obtain ⟨cq2, kq2, q2a, q2b, q2c⟩ := isOf hZ e1 E_a1b
  obtain ⟨_, _, ⟨T2, L2, k2, n2⟩, -, X2, ⟨Lc2, hQ2, l2, y2, z2⟩, st2⟩ := X1.virtualBack hx (y := MN_36) (z := MN_36) hown (mvT hZ (Wd hw 127 rfl)) (mvT hZ (Wd hw 128 rfl)) (notFace_of_selects (args := #[]) (mvT hZ (Wd hw 130 rfl))) (mvT hZ (Wd hw 130 rfl)) (mvT hZ (Wd hw 129 rfl)) (by decide) (backOf (W := 0) (rmGv l Z a0 hw [] cS vF a1b y h0 n0 O0 GL E_a1b F_value_a1b) hZ (Wd hw 131 rfl) (Wd hw 58 rfl) (by decide) (by decide)) q2a q2c (g := mkF m 5 #[vr a0s, vr a1b, .val .null, .unset, .unset] [(.ref a1b)]) rfl (by rw [hml]; rfl) (Steps.refl _) (argsL := []) (rest := []) (lenOf pdv27 rfl) rfl (by show 2 * 0 + _ ≤ _; exact lEq rfl) (dG hby D20 3 rfl) (fun _ _ => ⟨rfl, e1, (by decide : 0 + 0 ≤ _), (by decide : 0 + 0 ≤ _)⟩)
  dsimp only [Pt.U, Pt.locs, Pt.cells, Pt.slots] at X2 l2 y2 z2 st2 hQ2
  subst l2 y2 z2
  obtain ⟨rfl, N2q, e2⟩ := hQ2
  have N2 := Fr.app N0 N2q
  obtain ⟨cq3, kq3, q3a, q3b, q3c⟩ := isOf hZ e2 E_a1b
  obtain ⟨_, _, ⟨T3, L3, k3, n3⟩, -, X3, ⟨Lc3, hQ3, l3, y3, z3⟩, st3⟩ := X2.virtualBack hx (y := MN_37) (z := MN_38) hown (mvT hZ (Wd hw 132 rfl)) (mvT hZ (Wd hw 133 rfl)) (own_nf (args := #[]) (mvT hZ (Wd hw 92 rfl)) rfl) (mvT hZ (Wd hw 135 rfl)) (mvT hZ (Wd hw 136 rfl)) (by decide) (backOf (W := 0) (rmSl l Z a0 hw [] cS vF a1b ((own_n bn)) h0 n0 O0 GL E_a1b F_count_a1b) hZ (Wd hw 137 rfl) (Wd hw 50 rfl) (by decide) (by decide)) q3a q3c (g := mkF m 10 #[vr a0s, vr a1b, .val .null, vr y, .unset] [(.ref a1b)]) rfl (by rw [hml]; rfl) (Steps.refl _) (argsL := []) (rest := []) (lenOf pdv22 rfl) rfl (by show 2 * 0 + _ ≤ _; exact lEq rfl) (dG hby D20 6 rfl) (fun _ _ => ⟨rfl, e2, (by decide : 0 + 0 ≤ _), (by decide : 0 + 0 ≤ _)⟩)
  dsimp only [Pt.U, Pt.locs, Pt.cells, Pt.slots] at X3 l3 y3 z3 st3 hQ3
  subst l3 y3 z3
  obtain ⟨rfl, N3q, e3⟩ := hQ3
  have N3 := Fr.app N2 N3q
  obtain ⟨cq4, kq4, q4a, q4b, q4c⟩ := isOf hZ e3 E_a1b
  obtain ⟨_, _, ⟨T4, L4, k4, n4⟩, -, X4, ⟨Lc4, hQ4, l4, y4, z4⟩, st4⟩ := X3.virtualBack hx (y := MN_29) (z := MN_29) hown (mvT hZ (Wd hw 140 rfl)) (mvT hZ (Wd hw 141 rfl)) (notFace_of_selects (args := #[]) (mvT hZ (Wd hw 143 rfl))) (mvT hZ (Wd hw 143 rfl)) (mvT hZ (Wd hw 142 rfl)) (by decide) (backOf (W := 0) (rmBl1 l Z a0 hw [] cS vF a1b h0 n0 O0 GL E_a1b F_coder_a1b) hZ (Wd hw 144 rfl) (Wd hw 58 rfl) (by decide) (by decide)) q4a q4c (g := mkF m 16 #[vr a0s, vr a1b, .val .null, vr y, vi (own_n bn)] [(.ref a1b)]) rfl (by rw [hml]; rfl) (Steps.refl _) (argsL := []) (rest := []) (lenOf pdv6 rfl) rfl (by show 2 * 0 + _ ≤ _; exact lEq rfl) (dG hby D20 9 rfl) (fun _ _ => ⟨rfl, e3, (by decide : 0 + 0 ≤ _), (by decide : 0 + 0 ≤ _)⟩)
  dsimp only [Pt.U, Pt.locs, Pt.cells, Pt.slots] at X4 l4 y4 z4 st4 hQ4
  subst l4 y4 z4
  obtain ⟨rfl, N4q, e4⟩ := hQ4
  have N4 := Fr.app N3 N4q
  obtain ⟨T5, X5, e5, st5⟩ := getS2 X4 hx hZ hown (host := "") (Or.inl (Wd hw 86 rfl)) Via.refl e4 (GCS.ext O0.2) (g := mkF m 41 #[vr a0s, vr a1b, .val .null, vr y, vi (own_n bn)] []) rfl (dG hby D20 22 rfl)
  obtain ⟨T6, X6, e6, st6⟩ := getF X5 hx hZ hown (host := "") (Or.inl (Wd hw 241 rfl)) Via.refl e5 F_maybeLatin1_a1b (g := mkF m 48 #[vr a0s, vr a1b, .val .null, vr y, vi (own_n bn)] [(.ref a1b)]) rfl rfl (dG hby D20 25 rfl)
  obtain ⟨T7, h7, X7, e7, W7, st7⟩ := putFN X6 hx hZ hown (Wd hw 29 rfl) Via.refl e6 F_coder_a0s E_a0s (Or.inr ⟨(Wd hw 25 rfl), rfl, hnm⟩) (Wd hw 10 rfl) (ty := .byte) (v' := (.int 1)) (by decide) rfl (by decide) (g := mkF m 81 #[vr a0s, vr a1b, .val .null, vr y, vi (own_n bn)] [(.int 1), (.ref a0s)]) rfl rfl (dG hby D20 29 rfl)
  have Fw7 := F_coder_a0s.same W7
  have K7 : Keep h0 h7 [a0s] := (Keep.refl h0 [a0s]).wr W7 (Or.inl (List.mem_of_getElem? (i := 0) rfl))
  have O7 := O0.wr W7 g_a0s
  have N7 := Fr.snoc X7 N4 g_a0s
  obtain ⟨_, _, ⟨T8, L8, k8, n8⟩, -, X8, ⟨Lc8, hQ8, l8, y8, z8⟩, st8⟩ := Jvm.LawKit.callS X7 hx (y := MN_41) hown (mvT hZ (Wd hw 145 rfl)) (mvT hZ (Wd hw 146 rfl)) (mvT hZ (Wd hw 147 rfl)) (mvT hZ (Wd hw 148 rfl)) (by decide) (backOf (W := 1) (rmCr32 l Z a0 hw [] cS vF y ky bs ((2 * bn)) h7 n0 O7 GL (V_y.other W7 (Ne.symm (Exa.neArv (a0 := a0) E_a0s V_y (Wd hw 10 rfl)))) (by omega)) hZ (Wd hw 148 rfl) (Wd hw 147 rfl) (by decide) (by decide)) (g := mkF m 91 #[vr a0s, vr a1b, .val .null, vr y, vi (own_n bn)] [(.int (own_n (2 * bn))), (.int 0), (.ref y), (.ref a0s)]) rfl (by rw [hml]; rfl) (argsL := [(.ref y), (.int 0), (.int (own_n (2 * bn)))]) (rest := [(.ref a0s)]) (lenOf pdv26 rfl) rfl (by show 2 * 0 + _ ≤ _; exact lEq rfl) (dG hby D20 36 rfl) (fun _ _ => ⟨rfl, e7, (by decide : 0 + 1 ≤ _), (by decide : 0 + 16 ≤ _)⟩)
  dsimp only [Pt.U, Pt.locs, Pt.cells, Pt.slots] at X8 l8 y8 z8 st8 hQ8
  subst l8 y8 z8
  obtain ⟨b_8, kb_8, us_8, rfl, N8q, Kc8, P8_0, P8_1, P8_2, P8_3⟩ := hQ8
  have K8 : Keep h0 T8.heap [a0s] := K7.trans Kc8 all0
  have O8 := O7.keep Kc8 all0
  have g_b_8 : n0 ≤ b_8 := lTr (own_sz O7) P8_0
  have sz_b_8 : h0.size ≤ b_8 := lTr K7.1 P8_0
  have N8 := Fr.app N7 N8q
  obtain ⟨T9, h9, X9, e9, W9, st9⟩ := putF X8 hx hZ hown (host := "") (Or.inl (Wd hw 28 rfl)) Via.refl rfl ((F_value_a0s.other W7 (Or.inr (slot_ne (a0 := a0) (Or.inr (Wd hw 24 rfl)) (Or.inr (Wd hw 25 rfl)) (by decide) (t := (.array .byte)) (t' := .byte) (by decide) (by decide)))).keep Kc8 nin0) ((E_a0s.wr W7).keep Kc8) (Or.inr ⟨(Wd hw 24 rfl), rfl, hnm⟩) (Wd hw 10 rfl) (ty := (.array .byte)) (by decide) rfl rfl (g := mkF m 94 #[vr a0s, vr a1b, .val .null, vr y, vi (own_n bn)] [(.ref b_8), (.ref a0s)]) rfl rfl (dG hby D20 37 rfl)
  have Fw9 := ((F_value_a0s.other W7 (Or.inr (slot_ne (a0 := a0) (Or.inr (Wd hw 24 rfl)) (Or.inr (Wd hw 25 rfl)) (by decide) (t := (.array .byte)) (t' := .byte) (by decide) (by decide)))).keep Kc8 nin0).same W9
  have K9 : Keep h0 h9 [a0s] := K8.wr W9 (Or.inl (List.mem_of_getElem? (i := 0) rfl))
  have O9 := O8.wr W9 g_a0s
  have N9 := Fr.snoc X9 N8 g_a0s
  have hT : own_U us_8 bn bf := own_U_sub hbx P8_3
  obtain ⟨fs, hr, hrun, hended, hW, hsame⟩ := X9.leave (v := none) (fun _ => rfl)
  refine ⟨_, _, pre0 _ ?_, hrun, hended, _, _, rfl, ?_, ⟨_, rfl⟩, hW, hsame.mono (by decide) (by decide)⟩
  · show SP p e below s₁ m 0 #[vr a0s, vr a1b, .val .null, .unset, .unset] [] _
    refine XS.aloadN X0.here hx rfl (dG hby D20 0 rfl) rfl rfl ?_
    show SP p e below s₁ m 1 #[vr a0s, vr a1b, .val .null, .unset, .unset] [(.ref a0s)] _
    refine st1 _ ?_
    show SP p e below T1 m 4 #[vr a0s, vr a1b, .val .null, .unset, .unset] [] _
    refine XS.aloadN X1.here hx rfl (dG hby D20 2 rfl) rfl rfl ?_
    show SP p e below T1 m 5 #[vr a0s, vr a1b, .val .null, .unset, .unset] [(.ref a1b)] _
    refine st2.trans ?_
    show SP p e below T2 m 8 #[vr a0s, vr a1b, .val .null, .unset, .unset] [(.ref y)] _
    refine XS.astoreN X2.here hx rfl (dG hby D20 4 rfl) rfl rfl (l' := #[vr a0s, vr a1b, .val .null, vr y, .unset]) rfl ?_
    refine XS.aloadN X2.here hx rfl (dG hby D20 5 rfl) rfl rfl ?_
    show SP p e below T2 m 10 #[vr a0s, vr a1b, .val .null, vr y, .unset] [(.ref a1b)] _
    refine st3.trans ?_
    show SP p e below T3 m 13 #[vr a0s, vr a1b, .val .null, vr y, .unset] [(.int (own_n bn))] _
    refine XS.istore X3.here hx rfl (dG hby D20 7 rfl) rfl (l' := #[vr a0s, vr a1b, .val .null, vr y, vi (own_n bn)]) rfl ?_
    refine XS.aloadN X3.here hx rfl (dG hby D20 8 rfl) rfl rfl ?_
    show SP p e below T3 m 16 #[vr a0s, vr a1b, .val .null, vr y, vi (own_n bn)] [(.ref a1b)] _
    refine st4.trans ?_
    show SP p e below T4 m 19 #[vr a0s, vr a1b, .val .null, vr y, vi (own_n bn)] [(.int 0)] _
    refine XS.ifYes X4.here hx rfl (pc0 := 19) (pc' := 41) rfl (dG hby D20 10 rfl) rfl ((if0 _ _).trans (teq (by decide : (0 : Int32) = (0 : Int32))).1) (by decide) (by decide) ?_
    show SP p e below T4 m 41 #[vr a0s, vr a1b, .val .null, vr y, vi (own_n bn)] [] _
    refine st5 _ ?_
    show SP p e below T5 m 44 #[vr a0s, vr a1b, .val .null, vr y, vi (own_n bn)] [(.int cS)] _
    refine XS.ifNo X5.here hx rfl (dG hby D20 23 rfl) rfl ((if0 _ _).trans (feq GCP).1) ?_
    refine XS.aloadN X5.here hx rfl (dG hby D20 24 rfl) rfl rfl ?_
    show SP p e below T5 m 48 #[vr a0s, vr a1b, .val .null, vr y, vi (own_n bn)] [(.ref a1b)] _
    refine st6 _ ?_
    show SP p e below T6 m 51 #[vr a0s, vr a1b, .val .null, vr y, vi (own_n bn)] [(.int 0)] _
    refine XS.ifYes X6.here hx rfl (pc0 := 51) (pc' := 79) rfl (dG hby D20 26 rfl) rfl ((if0 _ _).trans (teq (by decide : (0 : Int32) = (0 : Int32))).1) (by decide) (by decide) ?_
    refine XS.aloadN X6.here hx rfl (dG hby D20 27 rfl) rfl rfl ?_
    refine XS.iconst X6.here hx rfl (dG hby D20 28 rfl) ?_
    show SP p e below T6 m 81 #[vr a0s, vr a1b, .val .null, vr y, vi (own_n bn)] [(.int 1), (.ref a0s)] _
    refine st7 _ ?_
    show SP p e below T7 m 84 #[vr a0s, vr a1b, .val .null, vr y, vi (own_n bn)] [] _
    refine XS.aloadN X7.here hx rfl (dG hby D20 30 rfl) rfl rfl ?_
    refine XS.aloadN X7.here hx rfl (dG hby D20 31 rfl) rfl rfl ?_
    refine XS.iconst X7.here hx rfl (dG hby D20 32 rfl) ?_
    refine XS.iload X7.here hx rfl (dG hby D20 33 rfl) rfl ?_
    refine XS.iconst X7.here hx rfl (dG hby D20 34 rfl) ?_
    show SP p e below T7 m 90 #[vr a0s, vr a1b, .val .null, vr y, vi (own_n bn)] [(.int 1), (.int (own_n bn)), (.int 0), (.ref y), (.ref a0s)] _
    refine XS.ishl X7.here hx rfl (dG hby D20 35 rfl) rfl ?_
    rw [own_n_shl bn]
    show SP p e below T7 m 91 #[vr a0s, vr a1b, .val .null, vr y, vi (own_n bn)] [(.int (own_n (2 * bn))), (.int 0), (.ref y), (.ref a0s)] _
    refine st8 _ ?_
    show SP p e below T8 m 94 #[vr a0s, vr a1b, .val .null, vr y, vi (own_n bn)] [(.ref b_8), (.ref a0s)] _
    refine st9 _ ?_
    show SP p e below T9 m 97 #[vr a0s, vr a1b, .val .null, vr y, vi (own_n bn)] [] _
    exact X9.returnOut hx Bd.returns (dG hby D20 21 rfl) hr
  · show Q_rmSi1 n0 Z cS vF a0s a1b y ky bs bn bf h0 _ T9.heap _
    rw [e9]
    exact ⟨b_8, kb_8, us_8, rfl, N9, K9, sz_b_8, (((E_a0s.wr W7).keep Kc8).wr W9), Fw9, ((Fw7.keep Kc8 nin0).other W9 (Or.inr (slot_ne (a0 := a0) (Or.inr (Wd hw 25 rfl)) (Or.inr (Wd hw 24 rfl)) (by decide) (t := .byte) (t' := (.array .byte)) (by decide) (by decide)))), (P8_2.other W9 (Ne.symm (nLt (lLt (lLt E_a0s.lt (Keep.of_wr W7).1) P8_0)))), hT⟩
def Q_rmSj1 (n0 : Nat) (Z : State) (cS : Int32) (vF : Value) (a0s : Addr) (a1b : Addr) (y : Addr) (ky : ClassId) (bs : List Value) (bn : Nat) (bf : Nat → Int32) (h0 : Heap) (v : Option Value) (h : Heap) (L : List Loc) : Prop := ∃ rv : Addr, ∃ rk : ClassId, ∃ rs : List Value, v = none ∧ Fr n0 L ∧ Keep h0 h [a0s] ∧ (h0.size ≤ rv) ∧ (Exa Z h a0s "java/lang/String") ∧ (Fld Z h a0s "java/lang/String" "value" "[B" (.ref rv)) ∧ (Fld Z h a0s "java/lang/String" "coder" "B" (.int 1)) ∧ (Arv Z h rv rk .byte (own_n (2 * bn)) rs (.int 0)) ∧ (own_U rs bn bf)
theorem rmSj1 (l : Launch) (Z : State) (a0 : Array Value) (hw : ∀ d ∈ tables_1, d.before a0 Z = true) (ws : List Jvm.Cond) (cS : Int32) (vF : Value) (a0s : Addr) (a1b : Addr) (y : Addr) (ky : ClassId) (bs : List Value) (bn : Nat) (bf : Nat → Int32) (h0 : Heap) (n0 : Nat) (O0 : Old Z n0 h0) (GL : GF Z cS vF) (E_a0s : Exa Z h0 a0s "java/lang/String") (F_value_a0s : Fld Z h0 a0s "java/lang/String" "value" "[B" .null) (F_coder_a0s : Fld Z h0 a0s "java/lang/String" "coder" "B" (.int 0)) (g_a0s : n0 ≤ a0s) (E_a1b : Exa Z h0 a1b "java/lang/StringBuilder") (F_value_a1b : Fld Z h0 a1b "java/lang/AbstractStringBuilder" "value" "[B" (.ref y)) (F_coder_a1b : Fld Z h0 a1b "java/lang/AbstractStringBuilder" "coder" "B" (.int 1)) (F_count_a1b : Fld Z h0 a1b "java/lang/AbstractStringBuilder" "count" "I" (.int (own_n bn))) (F_maybeLatin1_a1b : Fld Z h0 a1b "java/lang/AbstractStringBuilder" "maybeLatin1" "Z" (.int 0)) (V_y : Arv Z h0 y ky .byte (32 : Int32) bs (.int 0)) (hbx : own_U bs bn bf) (hb8 : bn ≤ 8) :
    MF l MN_43 jdk_42_method_53_code 2 none ws (Rm 4 1 16 65) #[(.ref a0s), (.ref a1b)] Z h0 (Q_rmSj1 n0 Z cS vF a0s a1b y ky bs bn bf h0) := by
  refine MetFree.of_bodySF (plainFor_of_name pn) hisR ?_
  intro p e s m args below meth c s₁ Bd hml0 hP hK
  obtain ⟨rfl, hZ, hh⟩ := hP
  have hx := Bd.exec
  have hby := Bd.bytes
  have hml : c.maxLocals = 2 := hml0
  have hown : s.vm.findClass "java/lang/String" = some m.cls := findClass_of_methodNamed Bd.named
  have hnm := (name_of_methodNamed Bd.named Bd.method).1
  have X0 : Stand p l e (Rm 4 1 16 65) s m #[(.ref a0s), (.ref a1b)] below meth c s₁ [] 0 0 := Stand.of_body Bd
  have e0 : s₁.heap = h0 := by rw [← hh, Bd.state]; rfl
  have N0 := Fr.nil n0
  have pre0 : ∀ t, SP p e below s₁ m 0 #[vr a0s, vr a1b] [] t → Steps p.tables e below (s₁.setTop (entryFrame m #[(.ref a0s), (.ref a1b)] 2)) t := fun t k => castTop (ef_rmSj0 m a0s a1b) k
  have GL' := GL
  obtain ⟨GCS, GCP, GA16, GHI, GLO, GFF, GVF⟩ := GL'
  obtain ⟨_, _, ⟨T1, L1, k1, n1⟩, -, X1, ⟨Lc1, hQ1, l1, y1, z1⟩, st1⟩ := X0.specialBack hx (y := MN_42) rfl hown (mvT hZ (Wd hw 124 rfl)) (mvT hZ (Wd hw 125 rfl)) (mvT hZ (Wd hw 126 rfl)) (by decide) (backOf (W := 0) (rmSi1 l Z a0 hw [] cS vF a0s a1b y ky bs bn bf h0 n0 O0 GL E_a0s F_value_a0s F_coder_a0s g_a0s E_a1b F_value_a1b F_coder_a1b F_count_a1b F_maybeLatin1_a1b V_y hbx hb8) hZ (Wd hw 126 rfl) (Wd hw 11 rfl) (by decide) (by decide)) (g := mkF m 3 #[vr a0s, vr a1b] [.null, (.ref a1b), (.ref a0s)]) rfl (by rw [hml]; rfl) (Steps.refl _) (a := a0s) (argsL := [(.ref a1b), .null]) (rest := []) (lenOf pdv28 rfl) rfl (by show 2 * 0 + _ ≤ _; exact lEq rfl) (dG hby D19 3 rfl) (fun _ _ => ⟨rfl, e0, (by decide : 0 + 1 ≤ _), (by decide : 0 + 16 ≤ _)⟩)
  dsimp only [Pt.U, Pt.locs, Pt.cells, Pt.slots] at X1 l1 y1 z1 st1 hQ1
  subst l1 y1 z1
  obtain ⟨rv_1, rk_1, rs_1, rfl, N1q, Kc1, P1_0, P1_1, P1_2, P1_3, P1_4, P1_5⟩ := hQ1
  have K1 : Keep h0 T1.heap [a0s] := (Keep.refl h0 [a0s]).trans Kc1 (allS (Or.inl (List.mem_of_getElem? (i := 0) rfl)) all0)
  have O1 := O0.keep Kc1 (allS g_a0s all0)
  have g_rv_1 : n0 ≤ rv_1 := lTr (own_sz O0) P1_0
  have sz_rv_1 : h0.size ≤ rv_1 := lTr (Keep.refl h0 [a0s]).1 P1_0
  have N1 := Fr.app N0 N1q
  obtain ⟨fs, hr, hrun, hended, hW, hsame⟩ := X1.leave (v := none) (fun _ => rfl)
  refine ⟨_, _, pre0 _ ?_, hrun, hended, _, _, rfl, ?_, ⟨_, rfl⟩, hW, hsame.mono (by decide) (by decide)⟩
  · show SP p e below s₁ m 0 #[vr a0s, vr a1b] [] _
    refine XS.aloadN X0.here hx rfl (dG hby D19 0 rfl) rfl rfl ?_
    refine XS.aloadN X0.here hx rfl (dG hby D19 1 rfl) rfl rfl ?_
    refine XS.aconstNull X0.here hx rfl (dG hby D19 2 rfl) ?_
    show SP p e below s₁ m 3 #[vr a0s, vr a1b] [.null, (.ref a1b), (.ref a0s)] _
    refine st1.trans ?_
    show SP p e below T1 m 6 #[vr a0s, vr a1b] [] _
    exact X1.returnOut hx Bd.returns (dG hby D19 4 rfl) hr
  · show Q_rmSj1 n0 Z cS vF a0s a1b y ky bs bn bf h0 _ T1.heap _
    exact ⟨rv_1, rk_1, rs_1, rfl, N1, K1, sz_rv_1, P1_1, P1_2, P1_3, P1_4, P1_5⟩
def Q_rmTs1 (n0 : Nat) (Z : State) (cS : Int32) (vF : Value) (a0b : Addr) (y : Addr) (ky : ClassId) (bs : List Value) (bn : Nat) (bf : Nat → Int32) (h0 : Heap) (v : Option Value) (h : Heap) (L : List Loc) : Prop := ∃ rb : Addr, ∃ rv : Addr, ∃ rk : ClassId, ∃ rs : List Value, v = some (.ref rb) ∧ Fr n0 L ∧ Keep h0 h [] ∧ (h0.size ≤ rb) ∧ (h0.size ≤ rv) ∧ (Exa Z h rb "java/lang/String") ∧ (Fld Z h rb "java/lang/String" "value" "[B" (.ref rv)) ∧ (Fld Z h rb "java/lang/String" "coder" "B" (.int 1)) ∧ (Arv Z h rv rk .byte (own_n (2 * bn)) rs (.int 0)) ∧ (own_U rs bn bf)
theorem rmTs1 (l : Launch) (Z : State) (a0 : Array Value) (hw : ∀ d ∈ tables_1, d.before a0 Z = true) (ws : List Jvm.Cond) (cS : Int32) (vF : Value) (a0b : Addr) (y : Addr) (ky : ClassId) (bs : List Value) (bn : Nat) (bf : Nat → Int32) (h0 : Heap) (n0 : Nat) (O0 : Old Z n0 h0) (GL : GF Z cS vF) (E_a0b : Exa Z h0 a0b "java/lang/StringBuilder") (F_value_a0b : Fld Z h0 a0b "java/lang/AbstractStringBuilder" "value" "[B" (.ref y)) (F_coder_a0b : Fld Z h0 a0b "java/lang/AbstractStringBuilder" "coder" "B" (.int 1)) (F_count_a0b : Fld Z h0 a0b "java/lang/AbstractStringBuilder" "count" "I" (.int (own_n bn))) (F_maybeLatin1_a0b : Fld Z h0 a0b "java/lang/AbstractStringBuilder" "maybeLatin1" "Z" (.int 0)) (V_y : Arv Z h0 y ky .byte (32 : Int32) bs (.int 0)) (hbx : own_U bs bn bf) (hb8 : bn ≤ 8) :
    MF l MN_44 jdk_67_method_42_code 1 (some (.object "java/lang/String")) ws (Rm 5 2 20 79) #[(.ref a0b)] Z h0 (Q_rmTs1 n0 Z cS vF a0b y ky bs bn bf h0) := by
  refine MetFree.of_bodySF (plainFor_of_name pnv5) hisR ?_
  intro p e s m args below meth c s₁ Bd hml0 hP hK
  obtain ⟨rfl, hZ, hh⟩ := hP
  have hx := Bd.exec
  have hby := Bd.bytes
  have hml : c.maxLocals = 1 := hml0
  have hown : s.vm.findClass "java/lang/StringBuilder" = some m.cls := findClass_of_methodNamed Bd.named
  have hnm := (name_of_methodNamed Bd.named Bd.method).1
  have X0 : Stand p l e (Rm 5 2 20 79) s m #[(.ref a0b)] below meth c s₁ [] 0 0 := Stand.of_body Bd
  have e0 : s₁.heap = h0 := by rw [← hh, Bd.state]; rfl
  have N0 := Fr.nil n0
  have pre0 : ∀ t, SP p e below s₁ m 0 #[vr a0b] [] t → Steps p.tables e below (s₁.setTop (entryFrame m #[(.ref a0b)] 1)) t := fun t k => castTop (ef_rmUl0 m a0b) k
  have GL' := GL
  obtain ⟨GCS, GCP, GA16, GHI, GLO, GFF, GVF⟩ := GL'
  obtain ⟨T1, h1, X1, e1, E1, A1, D1, -, st1⟩ := newO X0 hx hZ hown (Wd hw 120 rfl) (Wd hw 10 rfl) (Wd hw 11 rfl) e0 (g := mkF m 0 #[vr a0b] []) rfl (dG hby D18 0 rfl) (by decide) (by decide)
  obtain ⟨b1, g1⟩ : ∃ z, z = h0.size := ⟨_, rfl⟩
  rw [← g1] at A1 D1 st1
  have g_b1 : n0 ≤ b1 := lTr (own_sz O0) (lEq g1.symm)
  have sz_b1 : h0.size ≤ b1 := lTr (Keep.refl h0 []).1 (lEq g1.symm)
  have K1 : Keep h0 h1 [] := (Keep.refl h0 []).ext E1
  have O1 := O0.ext E1
  have F_value_b1 : Fld Z h1 b1 "java/lang/String" "value" "[B" .null := D1 (Or.inr (Wd hw 24 rfl)) (ty := (.array .byte)) (by decide)
  have F_coder_b1 : Fld Z h1 b1 "java/lang/String" "coder" "B" (.int 0) := D1 (Or.inr (Wd hw 25 rfl)) (ty := .byte) (by decide)
  obtain ⟨_, _, ⟨T2, L2, k2, n2⟩, -, X2, ⟨Lc2, hQ2, l2, y2, z2⟩, st2⟩ := X1.specialBack hx (y := MN_43) rfl hown (mvT hZ (Wd hw 121 rfl)) (mvT hZ (Wd hw 122 rfl)) (mvT hZ (Wd hw 123 rfl)) (by decide) (backOf (W := 1) (rmSj1 l Z a0 hw [] cS vF b1 a0b y ky bs bn bf h1 n0 O1 GL A1 F_value_b1 F_coder_b1 g_b1 (E_a0b.ext E1) (F_value_a0b.ext E1) (F_coder_a0b.ext E1) (F_count_a0b.ext E1) (F_maybeLatin1_a0b.ext E1) (V_y.ext E1) hbx hb8) hZ (Wd hw 123 rfl) (Wd hw 11 rfl) (by decide) (by decide)) (g := mkF m 5 #[vr a0b] [(.ref a0b), (.ref b1), (.ref b1)]) rfl (by rw [hml]; rfl) (Steps.refl _) (a := b1) (argsL := [(.ref a0b)]) (rest := [(.ref b1)]) (lenOf pdv29 rfl) rfl (by show 2 * 0 + _ ≤ _; exact lEq rfl) (dG hby D18 3 rfl) (fun _ _ => ⟨rfl, e1, (by decide : 1 + 1 ≤ _), (by decide : 4 + 16 ≤ _)⟩)
  dsimp only [Pt.U, Pt.locs, Pt.cells, Pt.slots] at X2 l2 y2 z2 st2 hQ2
  subst l2 y2 z2
  obtain ⟨rv_2, rk_2, rs_2, rfl, N2q, Kc2, P2_0, P2_1, P2_2, P2_3, P2_4, P2_5⟩ := hQ2
  have K2 : Keep h0 T2.heap [] := K1.trans Kc2 (allS (Or.inr sz_b1) all0)
  have O2 := O1.keep Kc2 (allS g_b1 all0)
  have g_rv_2 : n0 ≤ rv_2 := lTr (own_sz O1) P2_0
  have sz_rv_2 : h0.size ≤ rv_2 := lTr K1.1 P2_0
  have N2 := Fr.app N0 N2q
  obtain ⟨fs, hr, hrun, hended, hW, hsame⟩ := X2.leave (v := some (.ref b1)) (fun h => by rw [Bd.returns] at h; cases h)
  refine ⟨_, _, pre0 _ ?_, hrun, hended, _, _, rfl, ?_, ⟨_, rfl⟩, hW, hsame.mono (by decide) (by decide)⟩
  · show SP p e below s₁ m 0 #[vr a0b] [] _
    refine st1 _ ?_
    show SP p e below T1 m 3 #[vr a0b] [(.ref b1)] _
    refine XS.dup X1.here hx rfl (dG hby D18 1 rfl) rfl rfl ?_
    refine XS.aloadN X1.here hx rfl (dG hby D18 2 rfl) rfl rfl ?_
    show SP p e below T1 m 5 #[vr a0b] [(.ref a0b), (.ref b1), (.ref b1)] _
    refine st2.trans ?_
    show SP p e below T2 m 8 #[vr a0b] [(.ref b1)] _
    exact retA X2 hx Bd.returns rfl (dG hby D18 4 rfl) hr
  · show Q_rmTs1 n0 Z cS vF a0b y ky bs bn bf h0 _ T2.heap _
    exact ⟨b1, rv_2, rk_2, rs_2, rfl, N2, K2, sz_b1, sz_rv_2, P2_1, P2_2, P2_3, P2_4, P2_5⟩
theorem D6 : dL jdk_30_method_1_code [(0, .aload_n 0, 1), (1, .invokespecial 1, 3), (4, .return_, 1)] = true := by decide +kernel
theorem pnv7 : plainName "java/lang/Record" = true := by first | (simp [plainName, overriddenIn]; done) | decide +kernel
abbrev MN_45 : MethodName := ⟨"java/lang/Record", "<init>", "()V"⟩
theorem ef_rmRec (m : MethodId) (a0p : Addr) : entryFrame m #[(.ref a0p)] 1 = mkF m 0 #[vr a0p] [] := by first | (simp [entryFrame, mkF, argsToLocals, Value.category]; done) | rfl
def Q_rmRec (n0 : Nat) (Z : State) (cS : Int32) (vF : Value) (a0p : Addr) (h0 : Heap) (v : Option Value) (h : Heap) (L : List Loc) : Prop := v = none ∧ Fr n0 L ∧ h = h0
theorem rmRec (l : Launch) (Z : State) (a0 : Array Value) (hw : ∀ d ∈ tables_1, d.before a0 Z = true) (ws : List Jvm.Cond) (cS : Int32) (vF : Value) (a0p : Addr) (h0 : Heap) (n0 : Nat) (O0 : Old Z n0 h0) (GL : GF Z cS vF) :
    MF l MN_45 jdk_30_method_1_code 1 none ws (Rm 1 0 0 12) #[(.ref a0p)] Z h0 (Q_rmRec n0 Z cS vF a0p h0) := by
  refine MetFree.of_bodySF (plainFor_of_name pnv7) hisR ?_
  intro p e s m args below meth c s₁ Bd hml0 hP hK
  obtain ⟨rfl, hZ, hh⟩ := hP
  have hx := Bd.exec
  have hby := Bd.bytes
  have hml : c.maxLocals = 1 := hml0
  have hown : s.vm.findClass "java/lang/Record" = some m.cls := findClass_of_methodNamed Bd.named
  have hnm := (name_of_methodNamed Bd.named Bd.method).1
  have X0 : Stand p l e (Rm 1 0 0 12) s m #[(.ref a0p)] below meth c s₁ [] 0 0 := Stand.of_body Bd
  have e0 : s₁.heap = h0 := by rw [← hh, Bd.state]; rfl
  have N0 := Fr.nil n0
  have pre0 : ∀ t, SP p e below s₁ m 0 #[vr a0p] [] t → Steps p.tables e below (s₁.setTop (entryFrame m #[(.ref a0p)] 1)) t := fun t k => castTop (ef_rmRec m a0p) k
  have GL' := GL
  obtain ⟨GCS, GCP, GA16, GHI, GLO, GFF, GVF⟩ := GL'
  obtain ⟨T1, X1, e1, st1⟩ := initO X0 hx hZ hown (Wd hw 38 rfl) (Wd hw 20 rfl) (Wd hw 21 rfl) e0 (g := mkF m 1 #[vr a0p] [(.ref a0p)]) rfl (by rw [hml]; rfl) rfl (dG hby D6 1 rfl) (by decide) (W := 0) (by show 2 * 0 + _ ≤ _; exact lEq rfl) (by decide)
  obtain ⟨fs, hr, hrun, hended, hW, hsame⟩ := X1.leave (v := none) (fun _ => rfl)
  refine ⟨_, _, pre0 _ ?_, hrun, hended, _, _, rfl, ?_, ⟨_, rfl⟩, hW, hsame.mono (by decide) (by decide)⟩
  · show SP p e below s₁ m 0 #[vr a0p] [] _
    refine XS.aloadN X0.here hx rfl (dG hby D6 0 rfl) rfl rfl ?_
    show SP p e below s₁ m 1 #[vr a0p] [(.ref a0p)] _
    refine st1 _ ?_
    show SP p e below T1 m 4 #[vr a0p] [] _
    exact X1.returnOut hx Bd.returns (dG hby D6 2 rfl) hr
  · show Q_rmRec n0 Z cS vF a0p h0 _ T1.heap _
    rw [e1]
    exact ⟨rfl, N0, rfl⟩
theorem D5 : dL prog_16_method_1_code [(0, .aload_n 0, 1), (1, .invokespecial 1, 3), (4, .aload_n 0, 1), (5, .aload_n 1, 1), (6, .putfield 7, 3), (9, .aload_n 0, 1), (10, .aload_n 2, 1), (11, .putfield 13, 3), (14, .return_, 1)] = true := by decide +kernel
theorem pnv8 : plainName "com/example/loomwire/loomwire/manifest/WrittenClause" = true := by first | (simp [plainName, overriddenIn]; done) | decide +kernel
abbrev MN_46 : MethodName := ⟨"com/example/loomwire/loomwire/manifest/WrittenClause", "<init>", "(Ljava/lang/String;Ljava/lang/String;)V"⟩
theorem ef_rmPi (m : MethodId) (a0p : Addr) (a1s : Addr) (a2s : Addr) : entryFrame m #[(.ref a0p), (.ref a1s), (.ref a2s)] 3 = mkF m 0 #[vr a0p, vr a1s, vr a2s] [] := by first | (simp [entryFrame, mkF, argsToLocals, Value.category]; done) | rfl
def Q_rmPi (n0 : Nat) (Z : State) (cS : Int32) (vF : Value) (a0p : Addr) (a1s : Addr) (a2s : Addr) (h0 : Heap) (v : Option Value) (h : Heap) (L : List Loc) : Prop := v = none ∧ Fr n0 L ∧ Keep h0 h [a0p] ∧ (Exa Z h a0p "com/example/loomwire/loomwire/manifest/WrittenClause") ∧ (Fld Z h a0p "com/example/loomwire/loomwire/manifest/WrittenClause" "header" "Ljava/lang/String;" (.ref a1s)) ∧ (Fld Z h a0p "com/example/loomwire/loomwire/manifest/WrittenClause" "text" "Ljava/lang/String;" (.ref a2s))
theorem rmPi (l : Launch) (Z : State) (a0 : Array Value) (hw : ∀ d ∈ tables_1, d.before a0 Z = true) (ws : List Jvm.Cond) (cS : Int32) (vF : Value) (a0p : Addr) (a1s : Addr) (a2s : Addr) (h0 : Heap) (n0 : Nat) (O0 : Old Z n0 h0) (GL : GF Z cS vF) (E_a0p : Exa Z h0 a0p "com/example/loomwire/loomwire/manifest/WrittenClause") (F_header_a0p : Fld Z h0 a0p "com/example/loomwire/loomwire/manifest/WrittenClause" "header" "Ljava/lang/String;" .null) (F_text_a0p : Fld Z h0 a0p "com/example/loomwire/loomwire/manifest/WrittenClause" "text" "Ljava/lang/String;" .null) (g_a0p : n0 ≤ a0p) :
    MF l MN_46 prog_16_method_1_code 3 none ws (Rm 2 0 0 24) #[(.ref a0p), (.ref a1s), (.ref a2s)] Z h0 (Q_rmPi n0 Z cS vF a0p a1s a2s h0) := by
  refine MetFree.of_bodySF (plainFor_of_name pnv8) hisR ?_
  intro p e s m args below meth c s₁ Bd hml0 hP hK
  obtain ⟨rfl, hZ, hh⟩ := hP
  have hx := Bd.exec
  have hby := Bd.bytes
  have hml : c.maxLocals = 3 := hml0
  have hown : s.vm.findClass "com/example/loomwire/loomwire/manifest/WrittenClause" = some m.cls := findClass_of_methodNamed Bd.named
  have hnm := (name_of_methodNamed Bd.named Bd.method).1
  have X0 : Stand p l e (Rm 2 0 0 24) s m #[(.ref a0p), (.ref a1s), (.ref a2s)] below meth c s₁ [] 0 0 := Stand.of_body Bd
  have e0 : s₁.heap = h0 := by rw [← hh, Bd.state]; rfl
  have N0 := Fr.nil n0
  have pre0 : ∀ t, SP p e below s₁ m 0 #[vr a0p, vr a1s, vr a2s] [] t → Steps p.tables e below (s₁.setTop (entryFrame m #[(.ref a0p), (.ref a1s), (.ref a2s)] 3)) t := fun t k => castTop (ef_rmPi m a0p a1s a2s) k
  have GL' := GL
  obtain ⟨GCS, GCP, GA16, GHI, GLO, GFF, GVF⟩ := GL'
  obtain ⟨_, _, ⟨T1, L1, k1, n1⟩, -, X1, ⟨Lc1, hQ1, l1, y1, z1⟩, st1⟩ := X0.specialBack hx (y := MN_45) rfl hown (mvT hZ (Wd hw 33 rfl)) (mvT hZ (Wd hw 34 rfl)) (mvT hZ (Wd hw 37 rfl)) (by decide) (backOf (W := 0) (rmRec l Z a0 hw [] cS vF a0p h0 n0 O0 GL) hZ (Wd hw 37 rfl) (Wd hw 36 rfl) (by decide) (by decide)) (g := mkF m 1 #[vr a0p, vr a1s, vr a2s] [(.ref a0p)]) rfl (by rw [hml]; rfl) (Steps.refl _) (a := a0p) (argsL := []) (rest := []) (lenOf pdv19 rfl) rfl (by show 2 * 0 + _ ≤ _; exact lEq rfl) (dG hby D5 1 rfl) (fun _ _ => ⟨rfl, e0, (by decide : 0 + 0 ≤ _), (by decide : 0 + 0 ≤ _)⟩)
  dsimp only [Pt.U, Pt.locs, Pt.cells, Pt.slots] at X1 l1 y1 z1 st1 hQ1
  subst l1 y1 z1
  obtain ⟨rfl, N1q, e1⟩ := hQ1
  have N1 := Fr.app N0 N1q
  obtain ⟨T2, h2, X2, e2, W2, st2⟩ := putF X1 hx hZ hown (host := "") (Or.inl (Wd hw 39 rfl)) Via.refl e1 F_header_a0p E_a0p (Or.inr ⟨(Wd hw 40 rfl), rfl, hnm⟩) (Wd hw 7 rfl) (ty := (.object "java/lang/String")) (by decide) rfl rfl (g := mkF m 6 #[vr a0p, vr a1s, vr a2s] [(.ref a1s), (.ref a0p)]) rfl rfl (dG hby D5 4 rfl)
  have Fw2 := F_header_a0p.same W2
  have K2 : Keep h0 h2 [a0p] := (Keep.refl h0 [a0p]).wr W2 (Or.inl (List.mem_of_getElem? (i := 0) rfl))
  have O2 := O0.wr W2 g_a0p
  have N2 := Fr.snoc X2 N1 g_a0p
  obtain ⟨T3, h3, X3, e3, W3, st3⟩ := putF X2 hx hZ hown (host := "") (Or.inl (Wd hw 41 rfl)) Via.refl e2 (F_text_a0p.other W2 (Or.inr (slot_ne (a0 := a0) (Or.inr (Wd hw 42 rfl)) (Or.inr (Wd hw 40 rfl)) (by decide) (t := (.object "java/lang/String")) (t' := (.object "java/lang/String")) (by decide) (by decide)))) (E_a0p.wr W2) (Or.inr ⟨(Wd hw 42 rfl), rfl, hnm⟩) (Wd hw 7 rfl) (ty := (.object "java/lang/String")) (by decide) rfl rfl (g := mkF m 11 #[vr a0p, vr a1s, vr a2s] [(.ref a2s), (.ref a0p)]) rfl rfl (dG hby D5 7 rfl)
  have Fw3 := (F_text_a0p.other W2 (Or.inr (slot_ne (a0 := a0) (Or.inr (Wd hw 42 rfl)) (Or.inr (Wd hw 40 rfl)) (by decide) (t := (.object "java/lang/String")) (t' := (.object "java/lang/String")) (by decide) (by decide)))).same W3
  have K3 : Keep h0 h3 [a0p] := K2.wr W3 (Or.inl (List.mem_of_getElem? (i := 0) rfl))
  have O3 := O2.wr W3 g_a0p
  have N3 := Fr.snoc X3 N2 g_a0p
  obtain ⟨fs, hr, hrun, hended, hW, hsame⟩ := X3.leave (v := none) (fun _ => rfl)
  refine ⟨_, _, pre0 _ ?_, hrun, hended, _, _, rfl, ?_, ⟨_, rfl⟩, hW, hsame.mono (by decide) (by decide)⟩
  · show SP p e below s₁ m 0 #[vr a0p, vr a1s, vr a2s] [] _
    refine XS.aloadN X0.here hx rfl (dG hby D5 0 rfl) rfl rfl ?_
    show SP p e below s₁ m 1 #[vr a0p, vr a1s, vr a2s] [(.ref a0p)] _
    refine st1.trans ?_
    show SP p e below T1 m 4 #[vr a0p, vr a1s, vr a2s] [] _
    refine XS.aloadN X1.here hx rfl (dG hby D5 2 rfl) rfl rfl ?_
    refine XS.aloadN X1.here hx rfl (dG hby D5 3 rfl) rfl rfl ?_
    show SP p e below T1 m 6 #[vr a0p, vr a1s, vr a2s] [(.ref a1s), (.ref a0p)] _
    refine st2 _ ?_
    show SP p e below T2 m 9 #[vr a0p, vr a1s, vr a2s] [] _
    refine XS.aloadN X2.here hx rfl (dG hby D5 5 rfl) rfl rfl ?_
    refine XS.aloadN X2.here hx rfl (dG hby D5 6 rfl) rfl rfl ?_
    show SP p e below T2 m 11 #[vr a0p, vr a1s, vr a2s] [(.ref a2s), (.ref a0p)] _
    refine st3 _ ?_
    show SP p e below T3 m 14 #[vr a0p, vr a1s, vr a2s] [] _
    exact X3.returnOut hx Bd.returns (dG hby D5 8 rfl) hr
  · show Q_rmPi n0 Z cS vF a0p a1s a2s h0 _ T3.heap _
    rw [e3]
    exact ⟨rfl, N3, K3, ((E_a0p.wr W2).wr W3), (Fw2.other W3 (Or.inr (slot_ne (a0 := a0) (Or.inr (Wd hw 40 rfl)) (Or.inr (Wd hw 42 rfl)) (by decide) (t := (.object "java/lang/String")) (t' := (.object "java/lang/String")) (by decide) (by decide)))), Fw3⟩
theorem D7 : dL prog_16_method_2_code [(0, .new 16, 3), (3, .dup, 1), (4, .invokespecial 18, 3), (7, .aload_n 0, 1), (8, .getfield 7, 3), (11, .invokevirtual 19, 3), (14, .ldc 23, 2), (16, .invokevirtual 19, 3), (19, .aload_n 0, 1), (20, .getfield 13, 3), (23, .invokevirtual 19, 3), (26, .invokevirtual 25, 3), (29, .areturn, 1)] = true := by decide +kernel
theorem pdv30 : parseMethodDescriptor "(Ljava/lang/String;)Ljava/lang/StringBuilder;" = some ⟨[(.object "java/lang/String")], some (.object "java/lang/StringBuilder")⟩ := by decide +kernel
theorem pdv31 : parseMethodDescriptor "()Ljava/lang/String;" = some ⟨[], some (.object "java/lang/String")⟩ := by decide +kernel
abbrev MN_47 : MethodName := ⟨"com/example/loomwire/loomwire/manifest/WrittenClause", "toString", "()Ljava/lang/String;"⟩
def Q_rmPt (n0 : Nat) (Z : State) (cS : Int32) (vF : Value) (a0p : Addr) (sA : Addr) (sB : Addr) (pv : Addr) (pk : ClassId) (pc : Int32) (pl : Int32) (ps : List Value) (pn : Nat) (pf : Nat → Int32) (dv : Addr) (dk : ClassId) (dc : Int32) (dl : Int32) (ds : List Value) (dn : Nat) (df : Nat → Int32) (h0 : Heap) (v : Option Value) (h : Heap) (L : List Loc) : Prop := ∃ rb : Addr, ∃ rv : Addr, ∃ rk : ClassId, ∃ rc : Int32, ∃ rl : Int32, ∃ rs : List Value, v = some (.ref rb) ∧ Fr n0 L ∧ Keep h0 h [] ∧ (h0.size ≤ rb) ∧ (h0.size ≤ rv) ∧ (Exa Z h rb "java/lang/String") ∧ (Fld Z h rb "java/lang/String" "value" "[B" (.ref rv)) ∧ (Fld Z h rb "java/lang/String" "coder" "B" (.int rc)) ∧ (Arv Z h rv rk .byte rl rs (.int 0)) ∧ (own_st rc rl rs (pn + 2 + dn) (own_all pn pf df))
theorem rmPt (l : Launch) (Z : State) (a0 : Array Value) (hw : ∀ d ∈ tables_1, d.before a0 Z = true) (ws : List Jvm.Cond) (cS : Int32) (vF : Value) (a0p : Addr) (sA : Addr) (sB : Addr) (pv : Addr) (pk : ClassId) (pc : Int32) (pl : Int32) (ps : List Value) (pn : Nat) (pf : Nat → Int32) (dv : Addr) (dk : ClassId) (dc : Int32) (dl : Int32) (ds : List Value) (dn : Nat) (df : Nat → Int32) (h0 : Heap) (n0 : Nat) (O0 : Old Z n0 h0) (GL : GF Z cS vF) (E_a0p : Exa Z h0 a0p "com/example/loomwire/loomwire/manifest/WrittenClause") (F_header_a0p : Fld Z h0 a0p "com/example/loomwire/loomwire/manifest/WrittenClause" "header" "Ljava/lang/String;" (.ref sA)) (F_text_a0p : Fld Z h0 a0p "com/example/loomwire/loomwire/manifest/WrittenClause" "text" "Ljava/lang/String;" (.ref sB)) (E_sA : Exa Z h0 sA "java/lang/String") (F_value_sA : Fld Z h0 sA "java/lang/String" "value" "[B" (.ref pv)) (F_coder_sA : Fld Z h0 sA "java/lang/String" "coder" "B" (.int pc)) (V_pv : Arv Z h0 pv pk .byte pl ps (.int 0)) (hpx : own_st pc pl ps pn pf) (E_sB : Exa Z h0 sB "java/lang/String") (F_value_sB : Fld Z h0 sB "java/lang/String" "value" "[B" (.ref dv)) (F_coder_sB : Fld Z h0 sB "java/lang/String" "coder" "B" (.int dc)) (V_dv : Arv Z h0 dv dk .byte dl ds (.int 0)) (hdx : own_st dc dl ds dn df) (hp3 : pn ≤ 3) (hd3 : dn ≤ 3) :
    MetFree l MN_47 (head1 (Jvm.Cond.code MN_47 prog_16_method_2_code 1 (some (.object "java/lang/String")) :: ws) (Rm 10 7 84 143)) (fun a U => a = #[(.ref a0p)] ∧ Z.Warmed39 U.vm ∧ U.heap = h0 ∧ CHv Z EL1 U.vm h0) (fun _ _ _ _ _ => True) (fun _ U o U' => ∃ v L, o = .returned v ∧ Q_rmPt n0 Z cS vF a0p sA sB pv pk pc pl ps pn pf dv dk dc dl ds dn df h0 v U'.heap L ∧ CHr Z EL1 U.vm U.heap U'.vm U'.heap ∧ ReturnedEndW U o U' L (Rm 10 7 84 143).cells (Rm 10 7 84 143).slots) := by
  refine MetFree.of_bodySF (plainFor_of_name pnv8) hisR ?_
  intro p e s m args below meth c s₁ Bd hml0 hP hK
  obtain ⟨rfl, hZ, hh, H0⟩ := hP
  have hx := Bd.exec
  have hby := Bd.bytes
  have hml : c.maxLocals = 1 := hml0
  have hown : s.vm.findClass "com/example/loomwire/loomwire/manifest/WrittenClause" = some m.cls := findClass_of_methodNamed Bd.named
  have hnm := (name_of_methodNamed Bd.named Bd.method).1
  have X0 : Stand p l e (Rm 10 7 84 143) s m #[(.ref a0p)] below meth c s₁ [] 0 0 := Stand.of_body Bd
  have e0 : s₁.heap = h0 := by rw [← hh, Bd.state]; rfl
  have N0 := Fr.nil n0
  have pre0 : ∀ t, SP p e below s₁ m 0 #[vr a0p] [] t → Steps p.tables e below (s₁.setTop (entryFrame m #[(.ref a0p)] 1)) t := fun t k => castTop (ef_rmRec m a0p) k
  have X0w : Stand p l e (Rm 10 7 84 143) (s.setVm s.vm) m #[(.ref a0p)] below meth c s₁ [] 0 0 := X0
  have R0 : CHr Z EL1 s.vm h0 s.vm h0 := CHr.refl H0
  have hS0 : s.Since s.vm h0.size := (State.WarmedH.refl s).since _
  have GL' := GL
  obtain ⟨GCS, GCP, GA16, GHI, GLO, GFF, GVF⟩ := GL'
  rcases hpx with ⟨hc_p, hl_p, hT_p⟩ | ⟨hc_p, hl_p, hT_p⟩
  · subst hc_p hl_p
    rcases hdx with ⟨hc_d, hl_d, hT_d⟩ | ⟨hc_d, hl_d, hT_d⟩
    · subst hc_d hl_d
      obtain ⟨T1, h1, X1, e1, E1, A1, D1, -, st1⟩ := newO X0w hx hZ hown (Wd hw 48 rfl) (Wd hw 49 rfl) (Wd hw 50 rfl) e0 (g := mkF m 0 #[vr a0p] []) rfl (dG hby D7 0 rfl) (by decide) (by decide)
      obtain ⟨b1, g1⟩ : ∃ z, z = h0.size := ⟨_, rfl⟩
      rw [← g1] at A1 D1 st1
      have g_b1 : n0 ≤ b1 := lTr (own_sz O0) (lEq g1.symm)
      have sz_b1 : h0.size ≤ b1 := lTr (Keep.refl h0 []).1 (lEq g1.symm)
      have H_2 := H0.ext E1
      have R_2 := R0.trans (CHr.ext E1 H0)
      have K1 : Keep h0 h1 [] := (Keep.refl h0 []).ext E1
      have O1 := O0.ext E1
      have F_value_b1 : Fld Z h1 b1 "java/lang/AbstractStringBuilder" "value" "[B" .null := D1 (Or.inl (Wd hw 63 rfl)) (ty := (.array .byte)) (by decide)
      have F_coder_b1 : Fld Z h1 b1 "java/lang/AbstractStringBuilder" "coder" "B" (.int 0) := D1 (Or.inl (Wd hw 65 rfl)) (ty := .byte) (by decide)
      have F_count_b1 : Fld Z h1 b1 "java/lang/AbstractStringBuilder" "count" "I" (.int 0) := D1 (Or.inl (Wd hw 88 rfl)) (ty := .int) (by decide)
      have F_maybeLatin1_b1 : Fld Z h1 b1 "java/lang/AbstractStringBuilder" "maybeLatin1" "Z" (.int 0) := D1 (Or.inl (Wd hw 242 rfl)) (ty := .boolean) (by decide)
      obtain ⟨_, _, ⟨T3, L3, k3, n3⟩, -, X3, ⟨Lc3, hQ3, l3, y3, z3⟩, st3⟩ := X1.specialBack hx (y := MN_27) rfl hown (mvT hZ (Wd hw 51 rfl)) (mvT hZ (Wd hw 52 rfl)) (mvT hZ (Wd hw 53 rfl)) (by decide) (backOf (W := 1) (rmSb l Z a0 hw [] cS vF b1 h1 n0 O1 GL A1 F_value_b1 F_coder_b1 F_count_b1 F_maybeLatin1_b1 g_b1) hZ (Wd hw 53 rfl) (Wd hw 50 rfl) (by decide) (by decide)) (g := mkF m 4 #[vr a0p] [(.ref b1), (.ref b1)]) rfl (by rw [hml]; rfl) (Steps.refl _) (a := b1) (argsL := []) (rest := [(.ref b1)]) (lenOf pdv19 rfl) rfl (by show 2 * 0 + _ ≤ _; exact lEq rfl) (dG hby D7 2 rfl) (fun _ _ => ⟨rfl, e1, (by decide : 1 + 1 ≤ _), (by decide : 4 + 16 ≤ _)⟩)
      dsimp only [Pt.U, Pt.locs, Pt.cells, Pt.slots] at X3 l3 y3 z3 st3 hQ3
      subst l3 y3 z3
      obtain ⟨y_3, ky_3, rfl, N3q, Kc3, P3_0, P3_1, P3_2, P3_3, P3_4, P3_5, P3_6, P3_7⟩ := hQ3
      have K3 : Keep h0 T3.heap [] := K1.trans Kc3 (allS (Or.inr sz_b1) all0)
      have O3 := O1.keep Kc3 (allS g_b1 all0)
      have Sf5 : Safe Z EL1 s.vm h1 b1 := Safe.exa (EL := EL1) hZ.alike A1 (by decide) (by decide)
      have H_4 := H_2.keep Kc3 (sfS Sf5 sf0)
      have R_4 := R_2.trans (CHr.keep Kc3 (sfS Sf5 sf0) H_2)
      have g_y_3 : n0 ≤ y_3 := lTr (own_sz O1) P3_0
      have sz_y_3 : h0.size ≤ y_3 := lTr K1.1 P3_0
      have N3 := Fr.app N0 N3q
      obtain ⟨T6, X6, e6, st6⟩ := getF X3 hx hZ hown (host := "") (Or.inl (Wd hw 39 rfl)) Via.refl rfl ((F_header_a0p.ext E1).keep Kc3 (ninS (nLt (lLt E_a0p.lt (lEq g1.symm))) nin0)) (g := mkF m 8 #[vr a0p] [(.ref a0p), (.ref b1)]) rfl rfl (dG hby D7 4 rfl)
      obtain ⟨cq7, kq7, q7a, q7b, q7c⟩ := isOf hZ e6 P3_2
      obtain ⟨_, _, ⟨T7, L7, k7, n7⟩, -, X7, ⟨Lc7, hQ7, l7, y7, z7⟩, st7⟩ := X6.virtualBack hx (y := MN_35) (z := MN_35) hown (mvT hZ (Wd hw 66 rfl)) (mvT hZ (Wd hw 67 rfl)) (notFace_of_selects (args := #[]) (mvT hZ (Wd hw 69 rfl))) (mvT hZ (Wd hw 69 rfl)) (mvT hZ (Wd hw 68 rfl)) (by decide) (backOf (W := 0) (rmAq00 l Z a0 hw [] cS vF b1 sA y_3 ky_3 ([(.int 0), (.int 0), (.int 0), (.int 0), (.int 0), (.int 0), (.int 0), (.int 0), (.int 0), (.int 0), (.int 0), (.int 0), (.int 0), (.int 0), (.int 0), (.int 0)]) 0 own_f0 pv pk ps pn pf (T3.heap) n0 O3 GL P3_2 P3_3 P3_4 P3_5 P3_6 P3_7 own_L0 rfl g_b1 g_y_3 ((E_sA.ext E1).keep Kc3) ((F_value_sA.ext E1).keep Kc3 (ninS (nLt (lLt E_sA.lt (lEq g1.symm))) nin0)) ((F_coder_sA.ext E1).keep Kc3 (ninS (nLt (lLt E_sA.lt (lEq g1.symm))) nin0)) ((V_pv.ext E1).keep Kc3 (ninS (nLt (lLt V_pv.lt (lEq g1.symm))) nin0)) hT_p (by omega) (by decide) (by omega)) hZ (Wd hw 70 rfl) (Wd hw 50 rfl) (by decide) (by decide)) q7a q7c (g := mkF m 11 #[vr a0p] [(.ref sA), (.ref b1)]) rfl (by rw [hml]; rfl) (Steps.refl _) (argsL := [(.ref sA)]) (rest := []) (lenOf pdv30 rfl) rfl (by show 2 * 0 + _ ≤ _; exact lEq rfl) (dG hby D7 5 rfl) (fun _ _ => ⟨rfl, e6, (by decide : 2 + 0 ≤ _), (by decide : 20 + 0 ≤ _)⟩)
      dsimp only [Pt.U, Pt.locs, Pt.cells, Pt.slots] at X7 l7 y7 z7 st7 hQ7
      subst l7 y7 z7
      obtain ⟨bw_7, rfl, N7q, Kc7, P7_0, P7_1, P7_2, P7_3, P7_4, P7_5, P7_6, P7_7⟩ := hQ7
      have K7 : Keep h0 T7.heap [] := K3.trans Kc7 (allS (Or.inr sz_b1) (allS (Or.inr sz_y_3) all0))
      have O7 := O3.keep Kc7 (allS g_b1 (allS g_y_3 all0))
      have Sf9 : Safe Z EL1 s.vm T3.heap y_3 := (Safe.keep Kc3 (sfS Sf5 sf0) H_2 (Safe.new (Z := Z) (EL := EL1) (vm := s.vm) P3_0))
      have Sf10 : Safe Z EL1 s.vm T3.heap b1 := Safe.exa (EL := EL1) hZ.alike P3_2 (by decide) (by decide)
      have H_8 := H_4.keep Kc7 (sfS Sf10 (sfS Sf9 sf0))
      have R_8 := R_4.trans (CHr.keep Kc7 (sfS Sf10 (sfS Sf9 sf0)) H_4)
      have N7 := Fr.app N3 N7q
      have Fz11 : Fld Z T7.heap b1 "java/lang/AbstractStringBuilder" "count" "I" (.int (own_n pn)) := by
        have q := P7_3
        rw [Nat.zero_add] at q
        exact q
      have hz11 : own_L bw_7 pn pf := own_cat0L P7_6
      obtain ⟨a12, T12, h12, k112, b12, kc12, X12, e12, E12, hS12, hk12, hZ12, hown12, A12, Fc12, Fv12, V12, la12, lb12, Rs12, Li12, nel12, st12⟩ := ldcCH X7 hx hZ hown (Wd hw 114 rfl) (own_wS hw) rfl hS0 (lTr (lTr (lTr (Nat.le_refl _) E1.1) Kc3.1) Kc7.1) (own_EW hw) (List.mem_of_getElem? (i := 0) rfl) H_8 (vs := [(.int 58), (.int 32)]) (z := (2 : Int32)) ⟨by decide, by decide⟩ (by decide) rfl (g := mkF m 14 #[vr a0p] [(.ref b1)]) rfl (dG hby D7 6 rfl) (n := 8) (by decide) (by decide) (by decide) (by decide)
      have H_13 := Rs12.1
      have R_13 := R_8.trans Rs12
      have K12 : Keep h0 h12 [] := K7.ext E12
      have O12 := O7.ext E12
      have hsep : own_L [(.int 58), (.int 32)] 2 own_sep := own_L_sep
      obtain ⟨cq14, kq14, q14a, q14b, q14c⟩ := isOf hZ12 e12 (P7_0.ext E12)
      obtain ⟨_, _, ⟨T14, L14, k14, n14⟩, -, X14, ⟨Lc14, hQ14, l14, y14, z14⟩, st14⟩ := X12.virtualBack hx (y := MN_35) (z := MN_35) hown12 (mvT hZ12 (Wd hw 66 rfl)) (mvT hZ12 (Wd hw 67 rfl)) (notFace_of_selects (args := #[]) (mvT hZ12 (Wd hw 69 rfl))) (mvT hZ12 (Wd hw 69 rfl)) (mvT hZ12 (Wd hw 68 rfl)) (by decide) (backOf (W := 0) (rmAq00 l Z a0 hw [] cS vF b1 a12 y_3 ky_3 bw_7 pn pf b12 kc12 ([(.int 58), (.int 32)]) 2 own_sep h12 n0 O12 GL (P7_0.ext E12) (P7_1.ext E12) (P7_2.ext E12) (Fz11.ext E12) (P7_4.ext E12) (P7_5.ext E12) hz11 P7_7 g_b1 g_y_3 A12 Fv12 Fc12 V12 hsep (by omega) (by omega) (by decide)) hZ12 (Wd hw 70 rfl) (Wd hw 50 rfl) (by decide) (by decide)) q14a q14c (g := mkF m 16 #[vr a0p] [(.ref a12), (.ref b1)]) rfl (by rw [hml]; rfl) (Steps.refl _) (argsL := [(.ref a12)]) (rest := []) (lenOf pdv30 rfl) rfl (by show 2 * 0 + _ ≤ _; exact lEq rfl) (dG hby D7 7 rfl) (fun _ _ => ⟨rfl, e12, (by decide : 4 + 0 ≤ _), (by decide : 32 + 0 ≤ _)⟩)
      dsimp only [Pt.U, Pt.locs, Pt.cells, Pt.slots] at X14 l14 y14 z14 st14 hQ14
      subst l14 y14 z14
      obtain ⟨bw_14, rfl, N14q, Kc14, P14_0, P14_1, P14_2, P14_3, P14_4, P14_5, P14_6, P14_7⟩ := hQ14
      have K14 : Keep h0 T14.heap [] := K12.trans Kc14 (allS (Or.inr sz_b1) (allS (Or.inr sz_y_3) all0))
      have O14 := O12.keep Kc14 (allS g_b1 (allS g_y_3 all0))
      have Sf16 : Safe Z EL1 T12.vm h12 y_3 := (CHr.safe Rs12 (lLt P3_1.lt Kc7.1) (Safe.keep Kc7 (sfS Sf10 (sfS Sf9 sf0)) H_4 Sf9))
      have Sf17 : Safe Z EL1 T12.vm h12 b1 := Safe.exa (EL := EL1) hZ12.alike (P7_0.ext E12) (by decide) (by decide)
      have H_15 := H_13.keep Kc14 (sfS Sf17 (sfS Sf16 sf0))
      have R_15 := R_13.trans (CHr.keep Kc14 (sfS Sf17 (sfS Sf16 sf0)) H_13)
      have N14 := Fr.app N7 N14q
      obtain ⟨T18, X18, e18, st18⟩ := getF X14 hx hZ12 hown12 (host := "") (Or.inl (Wd hw 41 rfl)) Via.refl rfl (((((F_text_a0p.ext E1).keep Kc3 (ninS (nLt (lLt E_a0p.lt (lEq g1.symm))) nin0)).keep Kc7 (ninS (nLt (lLt E_a0p.lt (lEq g1.symm))) (ninS (nLt (lLt (lLt E_a0p.lt E1.1) P3_0)) nin0))).ext E12).keep Kc14 (ninS (nLt (lLt E_a0p.lt (lEq g1.symm))) (ninS (nLt (lLt (lLt E_a0p.lt E1.1) P3_0)) nin0))) (g := mkF m 20 #[vr a0p] [(.ref a0p), (.ref b1)]) rfl rfl (dG hby D7 9 rfl)
      obtain ⟨cq19, kq19, q19a, q19b, q19c⟩ := isOf hZ12 e18 P14_0
      obtain ⟨_, _, ⟨T19, L19, k19, n19⟩, -, X19, ⟨Lc19, hQ19, l19, y19, z19⟩, st19⟩ := X18.virtualBack hx (y := MN_35) (z := MN_35) hown12 (mvT hZ12 (Wd hw 66 rfl)) (mvT hZ12 (Wd hw 67 rfl)) (notFace_of_selects (args := #[]) (mvT hZ12 (Wd hw 69 rfl))) (mvT hZ12 (Wd hw 69 rfl)) (mvT hZ12 (Wd hw 68 rfl)) (by decide) (backOf (W := 0) (rmAq00 l Z a0 hw [] cS vF b1 sB y_3 ky_3 bw_14 ((pn + 2)) ((own_cat pn pf own_sep)) dv dk ds dn df (T14.heap) n0 O14 GL P14_0 P14_1 P14_2 P14_3 P14_4 P14_5 P14_6 P14_7 g_b1 g_y_3 (((((E_sB.ext E1).keep Kc3).keep Kc7).ext E12).keep Kc14) (((((F_value_sB.ext E1).keep Kc3 (ninS (nLt (lLt E_sB.lt (lEq g1.symm))) nin0)).keep Kc7 (ninS (nLt (lLt E_sB.lt (lEq g1.symm))) (ninS (nLt (lLt (lLt E_sB.lt E1.1) P3_0)) nin0))).ext E12).keep Kc14 (ninS (nLt (lLt E_sB.lt (lEq g1.symm))) (ninS (nLt (lLt (lLt E_sB.lt E1.1) P3_0)) nin0))) (((((F_coder_sB.ext E1).keep Kc3 (ninS (nLt (lLt E_sB.lt (lEq g1.symm))) nin0)).keep Kc7 (ninS (nLt (lLt E_sB.lt (lEq g1.symm))) (ninS (nLt (lLt (lLt E_sB.lt E1.1) P3_0)) nin0))).ext E12).keep Kc14 (ninS (nLt (lLt E_sB.lt (lEq g1.symm))) (ninS (nLt (lLt (lLt E_sB.lt E1.1) P3_0)) nin0))) (((((V_dv.ext E1).keep Kc3 (ninS (nLt (lLt V_dv.lt (lEq g1.symm))) nin0)).keep Kc7 (ninS (nLt (lLt V_dv.lt (lEq g1.symm))) (ninS (nLt (lLt (lLt V_dv.lt E1.1) P3_0)) nin0))).ext E12).keep Kc14 (ninS (nLt (lLt V_dv.lt (lEq g1.symm))) (ninS (nLt (lLt (lLt V_dv.lt E1.1) P3_0)) nin0))) hT_d (by omega) (by omega) (by omega)) hZ12 (Wd hw 70 rfl) (Wd hw 50 rfl) (by decide) (by decide)) q19a q19c (g := mkF m 23 #[vr a0p] [(.ref sB), (.ref b1)]) rfl (by rw [hml]; rfl) (Steps.refl _) (argsL := [(.ref sB)]) (rest := []) (lenOf pdv30 rfl) rfl (by show 2 * 0 + _ ≤ _; exact lEq rfl) (dG hby D7 10 rfl) (fun _ _ => ⟨rfl, e18, (by decide : 4 + 0 ≤ _), (by decide : 32 + 0 ≤ _)⟩)
      dsimp only [Pt.U, Pt.locs, Pt.cells, Pt.slots] at X19 l19 y19 z19 st19 hQ19
      subst l19 y19 z19
      obtain ⟨bw_19, rfl, N19q, Kc19, P19_0, P19_1, P19_2, P19_3, P19_4, P19_5, P19_6, P19_7⟩ := hQ19
      have K19 : Keep h0 T19.heap [] := K14.trans Kc19 (allS (Or.inr sz_b1) (allS (Or.inr sz_y_3) all0))
      have O19 := O14.keep Kc19 (allS g_b1 (allS g_y_3 all0))
      have Sf21 : Safe Z EL1 T12.vm T14.heap y_3 := (Safe.keep Kc14 (sfS Sf17 (sfS Sf16 sf0)) H_13 Sf16)
      have Sf22 : Safe Z EL1 T12.vm T14.heap b1 := Safe.exa (EL := EL1) hZ12.alike P14_0 (by decide) (by decide)
      have H_20 := H_15.keep Kc19 (sfS Sf22 (sfS Sf21 sf0))
      have R_20 := R_15.trans (CHr.keep Kc19 (sfS Sf22 (sfS Sf21 sf0)) H_15)
      have N19 := Fr.app N14 N19q
      obtain ⟨cq23, kq23, q23a, q23b, q23c⟩ := isOf hZ12 rfl P19_0
      obtain ⟨_, _, ⟨T23, L23, k23, n23⟩, -, X23, ⟨Lc23, hQ23, l23, y23, z23⟩, st23⟩ := X19.virtualBack hx (y := MN_44) (z := MN_44) hown12 (mvT hZ12 (Wd hw 115 rfl)) (mvT hZ12 (Wd hw 116 rfl)) (notFace_of_selects (args := #[]) (mvT hZ12 (Wd hw 118 rfl))) (mvT hZ12 (Wd hw 118 rfl)) (mvT hZ12 (Wd hw 117 rfl)) (by decide) (backOf (W := 0) (rmTs0 l Z a0 hw [] cS vF b1 y_3 ky_3 bw_19 (((pn + 2) + dn)) ((own_cat (pn + 2) (own_cat pn pf own_sep) df)) (T19.heap) n0 O19 GL P19_0 P19_1 P19_2 P19_3 P19_4 P19_5 P19_6 (by omega)) hZ12 (Wd hw 119 rfl) (Wd hw 50 rfl) (by decide) (by decide)) q23a q23c (g := mkF m 26 #[vr a0p] [(.ref b1)]) rfl (by rw [hml]; rfl) (Steps.refl _) (argsL := []) (rest := []) (lenOf pdv31 rfl) rfl (by show 2 * 0 + _ ≤ _; exact lEq rfl) (dG hby D7 11 rfl) (fun _ _ => ⟨rfl, rfl, (by decide : 4 + 2 ≤ _), (by decide : 32 + 20 ≤ _)⟩)
      dsimp only [Pt.U, Pt.locs, Pt.cells, Pt.slots] at X23 l23 y23 z23 st23 hQ23
      subst l23 y23 z23
      obtain ⟨rb_23, rv_23, rk_23, rs_23, rfl, N23q, Kc23, P23_0, P23_1, P23_2, P23_3, P23_4, P23_5, P23_6⟩ := hQ23
      have K23 : Keep h0 T23.heap [] := K19.trans Kc23 all0
      have O23 := O19.keep Kc23 all0
      have H_24 := H_20.keep Kc23 sf0
      have R_24 := R_20.trans (CHr.keep Kc23 sf0 H_20)
      have g_rb_23 : n0 ≤ rb_23 := lTr (own_sz O19) P23_0
      have sz_rb_23 : h0.size ≤ rb_23 := lTr K19.1 P23_0
      have g_rv_23 : n0 ≤ rv_23 := lTr (own_sz O19) P23_1
      have sz_rv_23 : h0.size ≤ rv_23 := lTr K19.1 P23_1
      have N23 := Fr.app N19 N23q
      have hfin : own_st (0 : Int32) (own_n ((pn + 2) + dn)) rs_23 (pn + 2 + dn) (own_all pn pf df) := (Or.inl ⟨rfl, rfl, P23_6⟩)
      obtain ⟨fs, hr, hrun, hended, hRW⟩ := X23.leaveW hS12 (lTr (lTr (lTr hk12 Kc14.1) Kc19.1) Kc23.1) (v := some (.ref rb_23)) (fun h => by rw [Bd.returns] at h; cases h)
      have hCR : CHr Z EL1 s.vm s.heap T23.vm T23.heap := by
        rw [hh]
        exact R_24.trans (CHv.at X23 hZ12 (own_EW hw) H_24)
      refine ⟨_, _, pre0 _ ?_, hrun, hended, _, _, rfl, ?_, hCR, hRW.1, hRW.2.1, hRW.2.2.1, hRW.2.2.2.mono (by decide) (by decide)⟩
      · show SP p e below s₁ m 0 #[vr a0p] [] _
        refine st1 _ ?_
        show SP p e below T1 m 3 #[vr a0p] [(.ref b1)] _
        refine XS.dup X1.here hx rfl (dG hby D7 1 rfl) rfl rfl ?_
        show SP p e below T1 m 4 #[vr a0p] [(.ref b1), (.ref b1)] _
        refine st3.trans ?_
        show SP p e below T3 m 7 #[vr a0p] [(.ref b1)] _
        refine XS.aloadN X3.here hx rfl (dG hby D7 3 rfl) rfl rfl ?_
        show SP p e below T3 m 8 #[vr a0p] [(.ref a0p), (.ref b1)] _
        refine st6 _ ?_
        show SP p e below T6 m 11 #[vr a0p] [(.ref sA), (.ref b1)] _
        refine st7.trans ?_
        show SP p e below T7 m 14 #[vr a0p] [(.ref b1)] _
        show SP p e below T7 m 14 #[vr a0p] [(.ref b1)] _
        refine st12 _ ?_
        show SP p e below T12 m 16 #[vr a0p] [(.ref a12), (.ref b1)] _
        refine st14.trans ?_
        show SP p e below T14 m 19 #[vr a0p] [(.ref b1)] _
        refine XS.aloadN X14.here hx rfl (dG hby D7 8 rfl) rfl rfl ?_
        show SP p e below T14 m 20 #[vr a0p] [(.ref a0p), (.ref b1)] _
        refine st18 _ ?_
        show SP p e below T18 m 23 #[vr a0p] [(.ref sB), (.ref b1)] _
        refine st19.trans ?_
        show SP p e below T19 m 26 #[vr a0p] [(.ref b1)] _
        refine st23.trans ?_
        show SP p e below T23 m 29 #[vr a0p] [(.ref rb_23)] _
        exact retA X23 hx Bd.returns rfl (dG hby D7 12 rfl) hr
      · show Q_rmPt n0 Z cS vF a0p sA sB pv pk (0 : Int32) (own_n pn) ps pn pf dv dk (0 : Int32) (own_n dn) ds dn df h0 _ T23.heap _
        exact ⟨rb_23, rv_23, rk_23, (0 : Int32), (own_n ((pn + 2) + dn)), rs_23, rfl, N23, K23, sz_rb_23, sz_rv_23, P23_2, P23_3, P23_4, P23_5, hfin⟩
    · subst hc_d hl_d
      obtain ⟨T1, h1, X1, e1, E1, A1, D1, -, st1⟩ := newO X0w hx hZ hown (Wd hw 48 rfl) (Wd hw 49 rfl) (Wd hw 50 rfl) e0 (g := mkF m 0 #[vr a0p] []) rfl (dG hby D7 0 rfl) (by decide) (by decide)
      obtain ⟨b1, g1⟩ : ∃ z, z = h0.size := ⟨_, rfl⟩
      rw [← g1] at A1 D1 st1
      have g_b1 : n0 ≤ b1 := lTr (own_sz O0) (lEq g1.symm)
      have sz_b1 : h0.size ≤ b1 := lTr (Keep.refl h0 []).1 (lEq g1.symm)
      have H_2 := H0.ext E1
      have R_2 := R0.trans (CHr.ext E1 H0)
      have K1 : Keep h0 h1 [] := (Keep.refl h0 []).ext E1
      have O1 := O0.ext E1
      have F_value_b1 : Fld Z h1 b1 "java/lang/AbstractStringBuilder" "value" "[B" .null := D1 (Or.inl (Wd hw 63 rfl)) (ty := (.array .byte)) (by decide)
      have F_coder_b1 : Fld Z h1 b1 "java/lang/AbstractStringBuilder" "coder" "B" (.int 0) := D1 (Or.inl (Wd hw 65 rfl)) (ty := .byte) (by decide)
      have F_count_b1 : Fld Z h1 b1 "java/lang/AbstractStringBuilder" "count" "I" (.int 0) := D1 (Or.inl (Wd hw 88 rfl)) (ty := .int) (by decide)
      have F_maybeLatin1_b1 : Fld Z h1 b1 "java/lang/AbstractStringBuilder" "maybeLatin1" "Z" (.int 0) := D1 (Or.inl (Wd hw 242 rfl)) (ty := .boolean) (by decide)
      obtain ⟨_, _, ⟨T3, L3, k3, n3⟩, -, X3, ⟨Lc3, hQ3, l3, y3, z3⟩, st3⟩ := X1.specialBack hx (y := MN_27) rfl hown (mvT hZ (Wd hw 51 rfl)) (mvT hZ (Wd hw 52 rfl)) (mvT hZ (Wd hw 53 rfl)) (by decide) (backOf (W := 1) (rmSb l Z a0 hw [] cS vF b1 h1 n0 O1 GL A1 F_value_b1 F_coder_b1 F_count_b1 F_maybeLatin1_b1 g_b1) hZ (Wd hw 53 rfl) (Wd hw 50 rfl) (by decide) (by decide)) (g := mkF m 4 #[vr a0p] [(.ref b1), (.ref b1)]) rfl (by rw [hml]; rfl) (Steps.refl _) (a := b1) (argsL := []) (rest := [(.ref b1)]) (lenOf pdv19 rfl) rfl (by show 2 * 0 + _ ≤ _; exact lEq rfl) (dG hby D7 2 rfl) (fun _ _ => ⟨rfl, e1, (by decide : 1 + 1 ≤ _), (by decide : 4 + 16 ≤ _)⟩)
      dsimp only [Pt.U, Pt.locs, Pt.cells, Pt.slots] at X3 l3 y3 z3 st3 hQ3
      subst l3 y3 z3
      obtain ⟨y_3, ky_3, rfl, N3q, Kc3, P3_0, P3_1, P3_2, P3_3, P3_4, P3_5, P3_6, P3_7⟩ := hQ3
      have K3 : Keep h0 T3.heap [] := K1.trans Kc3 (allS (Or.inr sz_b1) all0)
      have O3 := O1.keep Kc3 (allS g_b1 all0)
      have Sf5 : Safe Z EL1 s.vm h1 b1 := Safe.exa (EL := EL1) hZ.alike A1 (by decide) (by decide)
      have H_4 := H_2.keep Kc3 (sfS Sf5 sf0)
      have R_4 := R_2.trans (CHr.keep Kc3 (sfS Sf5 sf0) H_2)
      have g_y_3 : n0 ≤ y_3 := lTr (own_sz O1) P3_0
      have sz_y_3 : h0.size ≤ y_3 := lTr K1.1 P3_0
      have N3 := Fr.app N0 N3q
      obtain ⟨T6, X6, e6, st6⟩ := getF X3 hx hZ hown (host := "") (Or.inl (Wd hw 39 rfl)) Via.refl rfl ((F_header_a0p.ext E1).keep Kc3 (ninS (nLt (lLt E_a0p.lt (lEq g1.symm))) nin0)) (g := mkF m 8 #[vr a0p] [(.ref a0p), (.ref b1)]) rfl rfl (dG hby D7 4 rfl)
      obtain ⟨cq7, kq7, q7a, q7b, q7c⟩ := isOf hZ e6 P3_2
      obtain ⟨_, _, ⟨T7, L7, k7, n7⟩, -, X7, ⟨Lc7, hQ7, l7, y7, z7⟩, st7⟩ := X6.virtualBack hx (y := MN_35) (z := MN_35) hown (mvT hZ (Wd hw 66 rfl)) (mvT hZ (Wd hw 67 rfl)) (notFace_of_selects (args := #[]) (mvT hZ (Wd hw 69 rfl))) (mvT hZ (Wd hw 69 rfl)) (mvT hZ (Wd hw 68 rfl)) (by decide) (backOf (W := 0) (rmAq00 l Z a0 hw [] cS vF b1 sA y_3 ky_3 ([(.int 0), (.int 0), (.int 0), (.int 0), (.int 0), (.int 0), (.int 0), (.int 0), (.int 0), (.int 0), (.int 0), (.int 0), (.int 0), (.int 0), (.int 0), (.int 0)]) 0 own_f0 pv pk ps pn pf (T3.heap) n0 O3 GL P3_2 P3_3 P3_4 P3_5 P3_6 P3_7 own_L0 rfl g_b1 g_y_3 ((E_sA.ext E1).keep Kc3) ((F_value_sA.ext E1).keep Kc3 (ninS (nLt (lLt E_sA.lt (lEq g1.symm))) nin0)) ((F_coder_sA.ext E1).keep Kc3 (ninS (nLt (lLt E_sA.lt (lEq g1.symm))) nin0)) ((V_pv.ext E1).keep Kc3 (ninS (nLt (lLt V_pv.lt (lEq g1.symm))) nin0)) hT_p (by omega) (by decide) (by omega)) hZ (Wd hw 70 rfl) (Wd hw 50 rfl) (by decide) (by decide)) q7a q7c (g := mkF m 11 #[vr a0p] [(.ref sA), (.ref b1)]) rfl (by rw [hml]; rfl) (Steps.refl _) (argsL := [(.ref sA)]) (rest := []) (lenOf pdv30 rfl) rfl (by show 2 * 0 + _ ≤ _; exact lEq rfl) (dG hby D7 5 rfl) (fun _ _ => ⟨rfl, e6, (by decide : 2 + 0 ≤ _), (by decide : 20 + 0 ≤ _)⟩)
      dsimp only [Pt.U, Pt.locs, Pt.cells, Pt.slots] at X7 l7 y7 z7 st7 hQ7
      subst l7 y7 z7
      obtain ⟨bw_7, rfl, N7q, Kc7, P7_0, P7_1, P7_2, P7_3, P7_4, P7_5, P7_6, P7_7⟩ := hQ7
      have K7 : Keep h0 T7.heap [] := K3.trans Kc7 (allS (Or.inr sz_b1) (allS (Or.inr sz_y_3) all0))
      have O7 := O3.keep Kc7 (allS g_b1 (allS g_y_3 all0))
      have Sf9 : Safe Z EL1 s.vm T3.heap y_3 := (Safe.keep Kc3 (sfS Sf5 sf0) H_2 (Safe.new (Z := Z) (EL := EL1) (vm := s.vm) P3_0))
      have Sf10 : Safe Z EL1 s.vm T3.heap b1 := Safe.exa (EL := EL1) hZ.alike P3_2 (by decide) (by decide)
      have H_8 := H_4.keep Kc7 (sfS Sf10 (sfS Sf9 sf0))
      have R_8 := R_4.trans (CHr.keep Kc7 (sfS Sf10 (sfS Sf9 sf0)) H_4)
      have N7 := Fr.app N3 N7q
      have Fz11 : Fld Z T7.heap b1 "java/lang/AbstractStringBuilder" "count" "I" (.int (own_n pn)) := by
        have q := P7_3
        rw [Nat.zero_add] at q
        exact q
      have hz11 : own_L bw_7 pn pf := own_cat0L P7_6
      obtain ⟨a12, T12, h12, k112, b12, kc12, X12, e12, E12, hS12, hk12, hZ12, hown12, A12, Fc12, Fv12, V12, la12, lb12, Rs12, Li12, nel12, st12⟩ := ldcCH X7 hx hZ hown (Wd hw 114 rfl) (own_wS hw) rfl hS0 (lTr (lTr (lTr (Nat.le_refl _) E1.1) Kc3.1) Kc7.1) (own_EW hw) (List.mem_of_getElem? (i := 0) rfl) H_8 (vs := [(.int 58), (.int 32)]) (z := (2 : Int32)) ⟨by decide, by decide⟩ (by decide) rfl (g := mkF m 14 #[vr a0p] [(.ref b1)]) rfl (dG hby D7 6 rfl) (n := 8) (by decide) (by decide) (by decide) (by decide)
      have H_13 := Rs12.1
      have R_13 := R_8.trans Rs12
      have K12 : Keep h0 h12 [] := K7.ext E12
      have O12 := O7.ext E12
      have hsep : own_L [(.int 58), (.int 32)] 2 own_sep := own_L_sep
      obtain ⟨cq14, kq14, q14a, q14b, q14c⟩ := isOf hZ12 e12 (P7_0.ext E12)
      obtain ⟨_, _, ⟨T14, L14, k14, n14⟩, -, X14, ⟨Lc14, hQ14, l14, y14, z14⟩, st14⟩ := X12.virtualBack hx (y := MN_35) (z := MN_35) hown12 (mvT hZ12 (Wd hw 66 rfl)) (mvT hZ12 (Wd hw 67 rfl)) (notFace_of_selects (args := #[]) (mvT hZ12 (Wd hw 69 rfl))) (mvT hZ12 (Wd hw 69 rfl)) (mvT hZ12 (Wd hw 68 rfl)) (by decide) (backOf (W := 0) (rmAq00 l Z a0 hw [] cS vF b1 a12 y_3 ky_3 bw_7 pn pf b12 kc12 ([(.int 58), (.int 32)]) 2 own_sep h12 n0 O12 GL (P7_0.ext E12) (P7_1.ext E12) (P7_2.ext E12) (Fz11.ext E12) (P7_4.ext E12) (P7_5.ext E12) hz11 P7_7 g_b1 g_y_3 A12 Fv12 Fc12 V12 hsep (by omega) (by omega) (by decide)) hZ12 (Wd hw 70 rfl) (Wd hw 50 rfl) (by decide) (by decide)) q14a q14c (g := mkF m 16 #[vr a0p] [(.ref a12), (.ref b1)]) rfl (by rw [hml]; rfl) (Steps.refl _) (argsL := [(.ref a12)]) (rest := []) (lenOf pdv30 rfl) rfl (by show 2 * 0 + _ ≤ _; exact lEq rfl) (dG hby D7 7 rfl) (fun _ _ => ⟨rfl, e12, (by decide : 4 + 0 ≤ _), (by decide : 32 + 0 ≤ _)⟩)
      dsimp only [Pt.U, Pt.locs, Pt.cells, Pt.slots] at X14 l14 y14 z14 st14 hQ14
      subst l14 y14 z14
      obtain ⟨bw_14, rfl, N14q, Kc14, P14_0, P14_1, P14_2, P14_3, P14_4, P14_5, P14_6, P14_7⟩ := hQ14
      have K14 : Keep h0 T14.heap [] := K12.trans Kc14 (allS (Or.inr sz_b1) (allS (Or.inr sz_y_3) all0))
      have O14 := O12.keep Kc14 (allS g_b1 (allS g_y_3 all0))
      have Sf16 : Safe Z EL1 T12.vm h12 y_3 := (CHr.safe Rs12 (lLt P3_1.lt Kc7.1) (Safe.keep Kc7 (sfS Sf10 (sfS Sf9 sf0)) H_4 Sf9))
      have Sf17 : Safe Z EL1 T12.vm h12 b1 := Safe.exa (EL := EL1) hZ12.alike (P7_0.ext E12) (by decide) (by decide)
      have H_15 := H_13.keep Kc14 (sfS Sf17 (sfS Sf16 sf0))
      have R_15 := R_13.trans (CHr.keep Kc14 (sfS Sf17 (sfS Sf16 sf0)) H_13)
      have N14 := Fr.app N7 N14q
      obtain ⟨T18, X18, e18, st18⟩ := getF X14 hx hZ12 hown12 (host := "") (Or.inl (Wd hw 41 rfl)) Via.refl rfl (((((F_text_a0p.ext E1).keep Kc3 (ninS (nLt (lLt E_a0p.lt (lEq g1.symm))) nin0)).keep Kc7 (ninS (nLt (lLt E_a0p.lt (lEq g1.symm))) (ninS (nLt (lLt (lLt E_a0p.lt E1.1) P3_0)) nin0))).ext E12).keep Kc14 (ninS (nLt (lLt E_a0p.lt (lEq g1.symm))) (ninS (nLt (lLt (lLt E_a0p.lt E1.1) P3_0)) nin0))) (g := mkF m 20 #[vr a0p] [(.ref a0p), (.ref b1)]) rfl rfl (dG hby D7 9 rfl)
      obtain ⟨cq19, kq19, q19a, q19b, q19c⟩ := isOf hZ12 e18 P14_0
      obtain ⟨_, _, ⟨T19, L19, k19, n19⟩, -, X19, ⟨Lc19, hQ19, l19, y19, z19⟩, st19⟩ := X18.virtualBack hx (y := MN_35) (z := MN_35) hown12 (mvT hZ12 (Wd hw 66 rfl)) (mvT hZ12 (Wd hw 67 rfl)) (notFace_of_selects (args := #[]) (mvT hZ12 (Wd hw 69 rfl))) (mvT hZ12 (Wd hw 69 rfl)) (mvT hZ12 (Wd hw 68 rfl)) (by decide) (backOf (W := 0) (rmAq01 l Z a0 hw [] cS vF b1 sB y_3 ky_3 bw_14 ((pn + 2)) ((own_cat pn pf own_sep)) dv dk ds dn df (T14.heap) n0 O14 GL P14_0 P14_1 P14_2 P14_3 P14_4 P14_5 P14_6 P14_7 g_b1 g_y_3 (((((E_sB.ext E1).keep Kc3).keep Kc7).ext E12).keep Kc14) (((((F_value_sB.ext E1).keep Kc3 (ninS (nLt (lLt E_sB.lt (lEq g1.symm))) nin0)).keep Kc7 (ninS (nLt (lLt E_sB.lt (lEq g1.symm))) (ninS (nLt (lLt (lLt E_sB.lt E1.1) P3_0)) nin0))).ext E12).keep Kc14 (ninS (nLt (lLt E_sB.lt (lEq g1.symm))) (ninS (nLt (lLt (lLt E_sB.lt E1.1) P3_0)) nin0))) (((((F_coder_sB.ext E1).keep Kc3 (ninS (nLt (lLt E_sB.lt (lEq g1.symm))) nin0)).keep Kc7 (ninS (nLt (lLt E_sB.lt (lEq g1.symm))) (ninS (nLt (lLt (lLt E_sB.lt E1.1) P3_0)) nin0))).ext E12).keep Kc14 (ninS (nLt (lLt E_sB.lt (lEq g1.symm))) (ninS (nLt (lLt (lLt E_sB.lt E1.1) P3_0)) nin0))) (((((V_dv.ext E1).keep Kc3 (ninS (nLt (lLt V_dv.lt (lEq g1.symm))) nin0)).keep Kc7 (ninS (nLt (lLt V_dv.lt (lEq g1.symm))) (ninS (nLt (lLt (lLt V_dv.lt E1.1) P3_0)) nin0))).ext E12).keep Kc14 (ninS (nLt (lLt V_dv.lt (lEq g1.symm))) (ninS (nLt (lLt (lLt V_dv.lt E1.1) P3_0)) nin0))) hT_d (by omega) (by omega) (by omega)) hZ12 (Wd hw 70 rfl) (Wd hw 50 rfl) (by decide) (by decide)) q19a q19c (g := mkF m 23 #[vr a0p] [(.ref sB), (.ref b1)]) rfl (by rw [hml]; rfl) (Steps.refl _) (argsL := [(.ref sB)]) (rest := []) (lenOf pdv30 rfl) rfl (by show 2 * 0 + _ ≤ _; exact lEq rfl) (dG hby D7 10 rfl) (fun _ _ => ⟨rfl, e18, (by decide : 4 + 1 ≤ _), (by decide : 32 + 32 ≤ _)⟩)
      dsimp only [Pt.U, Pt.locs, Pt.cells, Pt.slots] at X19 l19 y19 z19 st19 hQ19
      subst l19 y19 z19
      obtain ⟨yw_19, kw_19, bw_19, rfl, N19q, Kc19, P19_0, P19_1, P19_2, P19_3, P19_4, P19_5, P19_6, P19_7, P19_8, P19_9⟩ := hQ19
      have K19 : Keep h0 T19.heap [] := K14.trans Kc19 (allS (Or.inr sz_b1) all0)
      have O19 := O14.keep Kc19 (allS g_b1 all0)
      have Sf21 : Safe Z EL1 T12.vm T14.heap b1 := Safe.exa (EL := EL1) hZ12.alike P14_0 (by decide) (by decide)
      have H_20 := H_15.keep Kc19 (sfS Sf21 sf0)
      have R_20 := R_15.trans (CHr.keep Kc19 (sfS Sf21 sf0) H_15)
      have g_yw_19 : n0 ≤ yw_19 := lTr (own_sz O14) P19_0
      have sz_yw_19 : h0.size ≤ yw_19 := lTr K14.1 P19_0
      have N19 := Fr.app N14 N19q
      obtain ⟨cq22, kq22, q22a, q22b, q22c⟩ := isOf hZ12 rfl P19_2
      obtain ⟨_, _, ⟨T22, L22, k22, n22⟩, -, X22, ⟨Lc22, hQ22, l22, y22, z22⟩, st22⟩ := X19.virtualBack hx (y := MN_44) (z := MN_44) hown12 (mvT hZ12 (Wd hw 115 rfl)) (mvT hZ12 (Wd hw 116 rfl)) (notFace_of_selects (args := #[]) (mvT hZ12 (Wd hw 118 rfl))) (mvT hZ12 (Wd hw 118 rfl)) (mvT hZ12 (Wd hw 117 rfl)) (by decide) (backOf (W := 0) (rmTs1 l Z a0 hw [] cS vF b1 yw_19 kw_19 bw_19 (((pn + 2) + dn)) ((own_cat (pn + 2) (own_cat pn pf own_sep) df)) (T19.heap) n0 O19 GL P19_2 P19_3 P19_4 P19_5 P19_6 P19_7 P19_8 (by omega)) hZ12 (Wd hw 119 rfl) (Wd hw 50 rfl) (by decide) (by decide)) q22a q22c (g := mkF m 26 #[vr a0p] [(.ref b1)]) rfl (by rw [hml]; rfl) (Steps.refl _) (argsL := []) (rest := []) (lenOf pdv31 rfl) rfl (by show 2 * 0 + _ ≤ _; exact lEq rfl) (dG hby D7 11 rfl) (fun _ _ => ⟨rfl, rfl, (by decide : 5 + 2 ≤ _), (by decide : 64 + 20 ≤ _)⟩)
      dsimp only [Pt.U, Pt.locs, Pt.cells, Pt.slots] at X22 l22 y22 z22 st22 hQ22
      subst l22 y22 z22
      obtain ⟨rb_22, rv_22, rk_22, rs_22, rfl, N22q, Kc22, P22_0, P22_1, P22_2, P22_3, P22_4, P22_5, P22_6⟩ := hQ22
      have K22 : Keep h0 T22.heap [] := K19.trans Kc22 all0
      have O22 := O19.keep Kc22 all0
      have H_23 := H_20.keep Kc22 sf0
      have R_23 := R_20.trans (CHr.keep Kc22 sf0 H_20)
      have g_rb_22 : n0 ≤ rb_22 := lTr (own_sz O19) P22_0
      have sz_rb_22 : h0.size ≤ rb_22 := lTr K19.1 P22_0
      have g_rv_22 : n0 ≤ rv_22 := lTr (own_sz O19) P22_1
      have sz_rv_22 : h0.size ≤ rv_22 := lTr K19.1 P22_1
      have N22 := Fr.app N19 N22q
      have hfin : own_st (1 : Int32) (own_n (2 * ((pn + 2) + dn))) rs_22 (pn + 2 + dn) (own_all pn pf df) := (Or.inr ⟨rfl, rfl, P22_6⟩)
      obtain ⟨fs, hr, hrun, hended, hRW⟩ := X22.leaveW hS12 (lTr (lTr (lTr hk12 Kc14.1) Kc19.1) Kc22.1) (v := some (.ref rb_22)) (fun h => by rw [Bd.returns] at h; cases h)
      have hCR : CHr Z EL1 s.vm s.heap T22.vm T22.heap := by
        rw [hh]
        exact R_23.trans (CHv.at X22 hZ12 (own_EW hw) H_23)
      refine ⟨_, _, pre0 _ ?_, hrun, hended, _, _, rfl, ?_, hCR, hRW.1, hRW.2.1, hRW.2.2.1, hRW.2.2.2.mono (by decide) (by decide)⟩
      · show SP p e below s₁ m 0 #[vr a0p] [] _
        refine st1 _ ?_
        show SP p e below T1 m 3 #[vr a0p] [(.ref b1)] _
        refine XS.dup X1.here hx rfl (dG hby D7 1 rfl) rfl rfl ?_
        show SP p e below T1 m 4 #[vr a0p] [(.ref b1), (.ref b1)] _
        refine st3.trans ?_
        show SP p e below T3 m 7 #[vr a0p] [(.ref b1)] _
        refine XS.aloadN X3.here hx rfl (dG hby D7 3 rfl) rfl rfl ?_
        show SP p e below T3 m 8 #[vr a0p] [(.ref a0p), (.ref b1)] _
        refine st6 _ ?_
        show SP p e below T6 m 11 #[vr a0p] [(.ref sA), (.ref b1)] _
        refine st7.trans ?_
        show SP p e below T7 m 14 #[vr a0p] [(.ref b1)] _
        show SP p e below T7 m 14 #[vr a0p] [(.ref b1)] _
        refine st12 _ ?_
        show SP p e below T12 m 16 #[vr a0p] [(.ref a12), (.ref b1)] _
        refine st14.trans ?_
        show SP p e below T14 m 19 #[vr a0p] [(.ref b1)] _
        refine XS.aloadN X14.here hx rfl (dG hby D7 8 rfl) rfl rfl ?_
        show SP p e below T14 m 20 #[vr a0p] [(.ref a0p), (.ref b1)] _
        refine st18 _ ?_
        show SP p e below T18 m 23 #[vr a0p] [(.ref sB), (.ref b1)] _
        refine st19.trans ?_
        show SP p e below T19 m 26 #[vr a0p] [(.ref b1)] _
        refine st22.trans ?_
        show SP p e below T22 m 29 #[vr a0p] [(.ref rb_22)] _
        exact retA X22 hx Bd.returns rfl (dG hby D7 12 rfl) hr
      · show Q_rmPt n0 Z cS vF a0p sA sB pv pk (0 : Int32) (own_n pn) ps pn pf dv dk (1 : Int32) (own_n (2 * dn)) ds dn df h0 _ T22.heap _
        exact ⟨rb_22, rv_22, rk_22, (1 : Int32), (own_n (2 * ((pn + 2) + dn))), rs_22, rfl, N22, K22, sz_rb_22, sz_rv_22, P22_2, P22_3, P22_4, P22_5, hfin⟩
  · subst hc_p hl_p
    rcases hdx with ⟨hc_d, hl_d, hT_d⟩ | ⟨hc_d, hl_d, hT_d⟩
    · subst hc_d hl_d
      obtain ⟨T1, h1, X1, e1, E1, A1, D1, -, st1⟩ := newO X0w hx hZ hown (Wd hw 48 rfl) (Wd hw 49 rfl) (Wd hw 50 rfl) e0 (g := mkF m 0 #[vr a0p] []) rfl (dG hby D7 0 rfl) (by decide) (by decide)
      obtain ⟨b1, g1⟩ : ∃ z, z = h0.size := ⟨_, rfl⟩
      rw [← g1] at A1 D1 st1
      have g_b1 : n0 ≤ b1 := lTr (own_sz O0) (lEq g1.symm)
      have sz_b1 : h0.size ≤ b1 := lTr (Keep.refl h0 []).1 (lEq g1.symm)
      have H_2 := H0.ext E1
      have R_2 := R0.trans (CHr.ext E1 H0)
      have K1 : Keep h0 h1 [] := (Keep.refl h0 []).ext E1
      have O1 := O0.ext E1
      have F_value_b1 : Fld Z h1 b1 "java/lang/AbstractStringBuilder" "value" "[B" .null := D1 (Or.inl (Wd hw 63 rfl)) (ty := (.array .byte)) (by decide)
      have F_coder_b1 : Fld Z h1 b1 "java/lang/AbstractStringBuilder" "coder" "B" (.int 0) := D1 (Or.inl (Wd hw 65 rfl)) (ty := .byte) (by decide)
      have F_count_b1 : Fld Z h1 b1 "java/lang/AbstractStringBuilder" "count" "I" (.int 0) := D1 (Or.inl (Wd hw 88 rfl)) (ty := .int) (by decide)
      have F_maybeLatin1_b1 : Fld Z h1 b1 "java/lang/AbstractStringBuilder" "maybeLatin1" "Z" (.int 0) := D1 (Or.inl (Wd hw 242 rfl)) (ty := .boolean) (by decide)
      obtain ⟨_, _, ⟨T3, L3, k3, n3⟩, -, X3, ⟨Lc3, hQ3, l3, y3, z3⟩, st3⟩ := X1.specialBack hx (y := MN_27) rfl hown (mvT hZ (Wd hw 51 rfl)) (mvT hZ (Wd hw 52 rfl)) (mvT hZ (Wd hw 53 rfl)) (by decide) (backOf (W := 1) (rmSb l Z a0 hw [] cS vF b1 h1 n0 O1 GL A1 F_value_b1 F_coder_b1 F_count_b1 F_maybeLatin1_b1 g_b1) hZ (Wd hw 53 rfl) (Wd hw 50 rfl) (by decide) (by decide)) (g := mkF m 4 #[vr a0p] [(.ref b1), (.ref b1)]) rfl (by rw [hml]; rfl) (Steps.refl _) (a := b1) (argsL := []) (rest := [(.ref b1)]) (lenOf pdv19 rfl) rfl (by show 2 * 0 + _ ≤ _; exact lEq rfl) (dG hby D7 2 rfl) (fun _ _ => ⟨rfl, e1, (by decide : 1 + 1 ≤ _), (by decide : 4 + 16 ≤ _)⟩)
      dsimp only [Pt.U, Pt.locs, Pt.cells, Pt.slots] at X3 l3 y3 z3 st3 hQ3
      subst l3 y3 z3
      obtain ⟨y_3, ky_3, rfl, N3q, Kc3, P3_0, P3_1, P3_2, P3_3, P3_4, P3_5, P3_6, P3_7⟩ := hQ3
      have K3 : Keep h0 T3.heap [] := K1.trans Kc3 (allS (Or.inr sz_b1) all0)
      have O3 := O1.keep Kc3 (allS g_b1 all0)
      have Sf5 : Safe Z EL1 s.vm h1 b1 := Safe.exa (EL := EL1) hZ.alike A1 (by decide) (by decide)
      have H_4 := H_2.keep Kc3 (sfS Sf5 sf0)
      have R_4 := R_2.trans (CHr.keep Kc3 (sfS Sf5 sf0) H_2)
      have g_y_3 : n0 ≤ y_3 := lTr (own_sz O1) P3_0
      have sz_y_3 : h0.size ≤ y_3 := lTr K1.1 P3_0
      have N3 := Fr.app N0 N3q
      obtain ⟨T6, X6, e6, st6⟩ := getF X3 hx hZ hown (host := "") (Or.inl (Wd hw 39 rfl)) Via.refl rfl ((F_header_a0p.ext E1).keep Kc3 (ninS (nLt (lLt E_a0p.lt (lEq g1.symm))) nin0)) (g := mkF m 8 #[vr a0p] [(.ref a0p), (.ref b1)]) rfl rfl (dG hby D7 4 rfl)
      obtain ⟨cq7, kq7, q7a, q7b, q7c⟩ := isOf hZ e6 P3_2
      obtain ⟨_, _, ⟨T7, L7, k7, n7⟩, -, X7, ⟨Lc7, hQ7, l7, y7, z7⟩, st7⟩ := X6.virtualBack hx (y := MN_35) (z := MN_35) hown (mvT hZ (Wd hw 66 rfl)) (mvT hZ (Wd hw 67 rfl)) (notFace_of_selects (args := #[]) (mvT hZ (Wd hw 69 rfl))) (mvT hZ (Wd hw 69 rfl)) (mvT hZ (Wd hw 68 rfl)) (by decide) (backOf (W := 0) (rmAq01 l Z a0 hw [] cS vF b1 sA y_3 ky_3 ([(.int 0), (.int 0), (.int 0), (.int 0), (.int 0), (.int 0), (.int 0), (.int 0), (.int 0), (.int 0), (.int 0), (.int 0), (.int 0), (.int 0), (.int 0), (.int 0)]) 0 own_f0 pv pk ps pn pf (T3.heap) n0 O3 GL P3_2 P3_3 P3_4 P3_5 P3_6 P3_7 own_L0 rfl g_b1 g_y_3 ((E_sA.ext E1).keep Kc3) ((F_value_sA.ext E1).keep Kc3 (ninS (nLt (lLt E_sA.lt (lEq g1.symm))) nin0)) ((F_coder_sA.ext E1).keep Kc3 (ninS (nLt (lLt E_sA.lt (lEq g1.symm))) nin0)) ((V_pv.ext E1).keep Kc3 (ninS (nLt (lLt V_pv.lt (lEq g1.symm))) nin0)) hT_p (by omega) (by decide) (by omega)) hZ (Wd hw 70 rfl) (Wd hw 50 rfl) (by decide) (by decide)) q7a q7c (g := mkF m 11 #[vr a0p] [(.ref sA), (.ref b1)]) rfl (by rw [hml]; rfl) (Steps.refl _) (argsL := [(.ref sA)]) (rest := []) (lenOf pdv30 rfl) rfl (by show 2 * 0 + _ ≤ _; exact lEq rfl) (dG hby D7 5 rfl) (fun _ _ => ⟨rfl, e6, (by decide : 2 + 1 ≤ _), (by decide : 20 + 32 ≤ _)⟩)
      dsimp only [Pt.U, Pt.locs, Pt.cells, Pt.slots] at X7 l7 y7 z7 st7 hQ7
      subst l7 y7 z7
      obtain ⟨yw_7, kw_7, bw_7, rfl, N7q, Kc7, P7_0, P7_1, P7_2, P7_3, P7_4, P7_5, P7_6, P7_7, P7_8, P7_9⟩ := hQ7
      have K7 : Keep h0 T7.heap [] := K3.trans Kc7 (allS (Or.inr sz_b1) all0)
      have O7 := O3.keep Kc7 (allS g_b1 all0)
      have Sf9 : Safe Z EL1 s.vm T3.heap b1 := Safe.exa (EL := EL1) hZ.alike P3_2 (by decide) (by decide)
      have H_8 := H_4.keep Kc7 (sfS Sf9 sf0)
      have R_8 := R_4.trans (CHr.keep Kc7 (sfS Sf9 sf0) H_4)
      have g_yw_7 : n0 ≤ yw_7 := lTr (own_sz O3) P7_0
      have sz_yw_7 : h0.size ≤ yw_7 := lTr K3.1 P7_0
      have N7 := Fr.app N3 N7q
      have Fz10 : Fld Z T7.heap b1 "java/lang/AbstractStringBuilder" "count" "I" (.int (own_n pn)) := by
        have q := P7_5
        rw [Nat.zero_add] at q
        exact q
      have hz10 : own_U bw_7 pn pf := own_cat0U P7_8
      obtain ⟨a11, T11, h11, k111, b11, kc11, X11, e11, E11, hS11, hk11, hZ11, hown11, A11, Fc11, Fv11, V11, la11, lb11, Rs11, Li11, nel11, st11⟩ := ldcCH X7 hx hZ hown (Wd hw 114 rfl) (own_wS hw) rfl hS0 (lTr (lTr (lTr (Nat.le_refl _) E1.1) Kc3.1) Kc7.1) (own_EW hw) (List.mem_of_getElem? (i := 0) rfl) H_8 (vs := [(.int 58), (.int 32)]) (z := (2 : Int32)) ⟨by decide, by decide⟩ (by decide) rfl (g := mkF m 14 #[vr a0p] [(.ref b1)]) rfl (dG hby D7 6 rfl) (n := 8) (by decide) (by decide) (by decide) (by decide)
      have H_12 := Rs11.1
      have R_12 := R_8.trans Rs11
      have K11 : Keep h0 h11 [] := K7.ext E11
      have O11 := O7.ext E11
      have hsep : own_L [(.int 58), (.int 32)] 2 own_sep := own_L_sep
      have Sf14 : Safe Z EL1 T11.vm h11 yw_7 := (CHr.safe Rs11 P7_1.lt (Safe.keep Kc7 (sfS Sf9 sf0) H_4 (Safe.new (Z := Z) (EL := EL1) (vm := s.vm) P7_0)))
      obtain ⟨cq13, kq13, q13a, q13b, q13c⟩ := isOf hZ11 e11 (P7_2.ext E11)
      obtain ⟨_, _, ⟨T13, L13, k13, n13⟩, -, X13, ⟨Lc13, hQ13, l13, y13, z13⟩, st13⟩ := X11.virtualBack hx (y := MN_35) (z := MN_35) hown11 (mvT hZ11 (Wd hw 66 rfl)) (mvT hZ11 (Wd hw 67 rfl)) (notFace_of_selects (args := #[]) (mvT hZ11 (Wd hw 69 rfl))) (mvT hZ11 (Wd hw 69 rfl)) (mvT hZ11 (Wd hw 68 rfl)) (by decide) (backOf (W := 0) (rmAq10 l Z a0 hw [] cS vF b1 a11 yw_7 kw_7 bw_7 pn pf b11 kc11 ([(.int 58), (.int 32)]) 2 own_sep h11 n0 O11 GL (P7_2.ext E11) (P7_3.ext E11) (P7_4.ext E11) (Fz10.ext E11) (P7_6.ext E11) (P7_7.ext E11) hz10 P7_9 g_b1 g_yw_7 A11 Fv11 Fc11 V11 hsep (by omega) (by omega) (by decide) (Ne.symm (nel11 yw_7 Sf14).2)) hZ11 (Wd hw 70 rfl) (Wd hw 50 rfl) (by decide) (by decide)) q13a q13c (g := mkF m 16 #[vr a0p] [(.ref a11), (.ref b1)]) rfl (by rw [hml]; rfl) (Steps.refl _) (argsL := [(.ref a11)]) (rest := []) (lenOf pdv30 rfl) rfl (by show 2 * 0 + _ ≤ _; exact lEq rfl) (dG hby D7 7 rfl) (fun _ _ => ⟨rfl, e11, (by decide : 5 + 0 ≤ _), (by decide : 64 + 0 ≤ _)⟩)
      dsimp only [Pt.U, Pt.locs, Pt.cells, Pt.slots] at X13 l13 y13 z13 st13 hQ13
      subst l13 y13 z13
      obtain ⟨bw_13, rfl, N13q, Kc13, P13_0, P13_1, P13_2, P13_3, P13_4, P13_5, P13_6, P13_7⟩ := hQ13
      have K13 : Keep h0 T13.heap [] := K11.trans Kc13 (allS (Or.inr sz_b1) (allS (Or.inr sz_yw_7) all0))
      have O13 := O11.keep Kc13 (allS g_b1 (allS g_yw_7 all0))
      have Sf16 : Safe Z EL1 T11.vm h11 b1 := Safe.exa (EL := EL1) hZ11.alike (P7_2.ext E11) (by decide) (by decide)
      have H_15 := H_12.keep Kc13 (sfS Sf16 (sfS Sf14 sf0))
      have R_15 := R_12.trans (CHr.keep Kc13 (sfS Sf16 (sfS Sf14 sf0)) H_12)
      have N13 := Fr.app N7 N13q
      obtain ⟨T17, X17, e17, st17⟩ := getF X13 hx hZ11 hown11 (host := "") (Or.inl (Wd hw 41 rfl)) Via.refl rfl (((((F_text_a0p.ext E1).keep Kc3 (ninS (nLt (lLt E_a0p.lt (lEq g1.symm))) nin0)).keep Kc7 (ninS (nLt (lLt E_a0p.lt (lEq g1.symm))) nin0)).ext E11).keep Kc13 (ninS (nLt (lLt E_a0p.lt (lEq g1.symm))) (ninS (nLt (lLt (lLt E_a0p.lt (lTr E1.1 Kc3.1)) P7_0)) nin0))) (g := mkF m 20 #[vr a0p] [(.ref a0p), (.ref b1)]) rfl rfl (dG hby D7 9 rfl)
      obtain ⟨cq18, kq18, q18a, q18b, q18c⟩ := isOf hZ11 e17 P13_0
      obtain ⟨_, _, ⟨T18, L18, k18, n18⟩, -, X18, ⟨Lc18, hQ18, l18, y18, z18⟩, st18⟩ := X17.virtualBack hx (y := MN_35) (z := MN_35) hown11 (mvT hZ11 (Wd hw 66 rfl)) (mvT hZ11 (Wd hw 67 rfl)) (notFace_of_selects (args := #[]) (mvT hZ11 (Wd hw 69 rfl))) (mvT hZ11 (Wd hw 69 rfl)) (mvT hZ11 (Wd hw 68 rfl)) (by decide) (backOf (W := 0) (rmAq10 l Z a0 hw [] cS vF b1 sB yw_7 kw_7 bw_13 ((pn + 2)) ((own_cat pn pf own_sep)) dv dk ds dn df (T13.heap) n0 O13 GL P13_0 P13_1 P13_2 P13_3 P13_4 P13_5 P13_6 P13_7 g_b1 g_yw_7 (((((E_sB.ext E1).keep Kc3).keep Kc7).ext E11).keep Kc13) (((((F_value_sB.ext E1).keep Kc3 (ninS (nLt (lLt E_sB.lt (lEq g1.symm))) nin0)).keep Kc7 (ninS (nLt (lLt E_sB.lt (lEq g1.symm))) nin0)).ext E11).keep Kc13 (ninS (nLt (lLt E_sB.lt (lEq g1.symm))) (ninS (nLt (lLt (lLt E_sB.lt (lTr E1.1 Kc3.1)) P7_0)) nin0))) (((((F_coder_sB.ext E1).keep Kc3 (ninS (nLt (lLt E_sB.lt (lEq g1.symm))) nin0)).keep Kc7 (ninS (nLt (lLt E_sB.lt (lEq g1.symm))) nin0)).ext E11).keep Kc13 (ninS (nLt (lLt E_sB.lt (lEq g1.symm))) (ninS (nLt (lLt (lLt E_sB.lt (lTr E1.1 Kc3.1)) P7_0)) nin0))) (((((V_dv.ext E1).keep Kc3 (ninS (nLt (lLt V_dv.lt (lEq g1.symm))) nin0)).keep Kc7 (ninS (nLt (lLt V_dv.lt (lEq g1.symm))) nin0)).ext E11).keep Kc13 (ninS (nLt (lLt V_dv.lt (lEq g1.symm))) (ninS (nLt (lLt (lLt V_dv.lt (lTr E1.1 Kc3.1)) P7_0)) nin0))) hT_d (by omega) (by omega) (by omega) (nLt (lLt (lLt V_dv.lt (lTr E1.1 Kc3.1)) P7_0))) hZ11 (Wd hw 70 rfl) (Wd hw 50 rfl) (by decide) (by decide)) q18a q18c (g := mkF m 23 #[vr a0p] [(.ref sB), (.ref b1)]) rfl (by rw [hml]; rfl) (Steps.refl _) (argsL := [(.ref sB)]) (rest := []) (lenOf pdv30 rfl) rfl (by show 2 * 0 + _ ≤ _; exact lEq rfl) (dG hby D7 10 rfl) (fun _ _ => ⟨rfl, e17, (by decide : 5 + 0 ≤ _), (by decide : 64 + 0 ≤ _)⟩)
      dsimp only [Pt.U, Pt.locs, Pt.cells, Pt.slots] at X18 l18 y18 z18 st18 hQ18
      subst l18 y18 z18
      obtain ⟨bw_18, rfl, N18q, Kc18, P18_0, P18_1, P18_2, P18_3, P18_4, P18_5, P18_6, P18_7⟩ := hQ18
      have K18 : Keep h0 T18.heap [] := K13.trans Kc18 (allS (Or.inr sz_b1) (allS (Or.inr sz_yw_7) all0))
      have O18 := O13.keep Kc18 (allS g_b1 (allS g_yw_7 all0))
      have Sf20 : Safe Z EL1 T11.vm T13.heap yw_7 := (Safe.keep Kc13 (sfS Sf16 (sfS Sf14 sf0)) H_12 Sf14)
      have Sf21 : Safe Z EL1 T11.vm T13.heap b1 := Safe.exa (EL := EL1) hZ11.alike P13_0 (by decide) (by decide)
      have H_19 := H_15.keep Kc18 (sfS Sf21 (sfS Sf20 sf0))
      have R_19 := R_15.trans (CHr.keep Kc18 (sfS Sf21 (sfS Sf20 sf0)) H_15)
      have N18 := Fr.app N13 N18q
      obtain ⟨cq22, kq22, q22a, q22b, q22c⟩ := isOf hZ11 rfl P18_0
      obtain ⟨_, _, ⟨T22, L22, k22, n22⟩, -, X22, ⟨Lc22, hQ22, l22, y22, z22⟩, st22⟩ := X18.virtualBack hx (y := MN_44) (z := MN_44) hown11 (mvT hZ11 (Wd hw 115 rfl)) (mvT hZ11 (Wd hw 116 rfl)) (notFace_of_selects (args := #[]) (mvT hZ11 (Wd hw 118 rfl))) (mvT hZ11 (Wd hw 118 rfl)) (mvT hZ11 (Wd hw 117 rfl)) (by decide) (backOf (W := 0) (rmTs1 l Z a0 hw [] cS vF b1 yw_7 kw_7 bw_18 (((pn + 2) + dn)) ((own_cat (pn + 2) (own_cat pn pf own_sep) df)) (T18.heap) n0 O18 GL P18_0 P18_1 P18_2 P18_3 P18_4 P18_5 P18_6 (by omega)) hZ11 (Wd hw 119 rfl) (Wd hw 50 rfl) (by decide) (by decide)) q22a q22c (g := mkF m 26 #[vr a0p] [(.ref b1)]) rfl (by rw [hml]; rfl) (Steps.refl _) (argsL := []) (rest := []) (lenOf pdv31 rfl) rfl (by show 2 * 0 + _ ≤ _; exact lEq rfl) (dG hby D7 11 rfl) (fun _ _ => ⟨rfl, rfl, (by decide : 5 + 2 ≤ _), (by decide : 64 + 20 ≤ _)⟩)
      dsimp only [Pt.U, Pt.locs, Pt.cells, Pt.slots] at X22 l22 y22 z22 st22 hQ22
      subst l22 y22 z22
      obtain ⟨rb_22, rv_22, rk_22, rs_22, rfl, N22q, Kc22, P22_0, P22_1, P22_2, P22_3, P22_4, P22_5, P22_6⟩ := hQ22
      have K22 : Keep h0 T22.heap [] := K18.trans Kc22 all0
      have O22 := O18.keep Kc22 all0
      have H_23 := H_19.keep Kc22 sf0
      have R_23 := R_19.trans (CHr.keep Kc22 sf0 H_19)
      have g_rb_22 : n0 ≤ rb_22 := lTr (own_sz O18) P22_0
      have sz_rb_22 : h0.size ≤ rb_22 := lTr K18.1 P22_0
      have g_rv_22 : n0 ≤ rv_22 := lTr (own_sz O18) P22_1
      have sz_rv_22 : h0.size ≤ rv_22 := lTr K18.1 P22_1
      have N22 := Fr.app N18 N22q
      have hfin : own_st (1 : Int32) (own_n (2 * ((pn + 2) + dn))) rs_22 (pn + 2 + dn) (own_all pn pf df) := (Or.inr ⟨rfl, rfl, P22_6⟩)
      obtain ⟨fs, hr, hrun, hended, hRW⟩ := X22.leaveW hS11 (lTr (lTr (lTr hk11 Kc13.1) Kc18.1) Kc22.1) (v := some (.ref rb_22)) (fun h => by rw [Bd.returns] at h; cases h)
      have hCR : CHr Z EL1 s.vm s.heap T22.vm T22.heap := by
        rw [hh]
        exact R_23.trans (CHv.at X22 hZ11 (own_EW hw) H_23)
      refine ⟨_, _, pre0 _ ?_, hrun, hended, _, _, rfl, ?_, hCR, hRW.1, hRW.2.1, hRW.2.2.1, hRW.2.2.2.mono (by decide) (by decide)⟩
      · show SP p e below s₁ m 0 #[vr a0p] [] _
        refine st1 _ ?_
        show SP p e below T1 m 3 #[vr a0p] [(.ref b1)] _
        refine XS.dup X1.here hx rfl (dG hby D7 1 rfl) rfl rfl ?_
        show SP p e below T1 m 4 #[vr a0p] [(.ref b1), (.ref b1)] _
        refine st3.trans ?_
        show SP p e below T3 m 7 #[vr a0p] [(.ref b1)] _
        refine XS.aloadN X3.here hx rfl (dG hby D7 3 rfl) rfl rfl ?_
        show SP p e below T3 m 8 #[vr a0p] [(.ref a0p), (.ref b1)] _
        refine st6 _ ?_
        show SP p e below T6 m 11 #[vr a0p] [(.ref sA), (.ref b1)] _
        refine st7.trans ?_
        show SP p e below T7 m 14 #[vr a0p] [(.ref b1)] _
        show SP p e below T7 m 14 #[vr a0p] [(.ref b1)] _
        refine st11 _ ?_
        show SP p e below T11 m 16 #[vr a0p] [(.ref a11), (.ref b1)] _
        refine st13.trans ?_
        show SP p e below T13 m 19 #[vr a0p] [(.ref b1)] _
        refine XS.aloadN X13.here hx rfl (dG hby D7 8 rfl) rfl rfl ?_
        show SP p e below T13 m 20 #[vr a0p] [(.ref a0p), (.ref b1)] _
        refine st17 _ ?_
        show SP p e below T17 m 23 #[vr a0p] [(.ref sB), (.ref b1)] _
        refine st18.trans ?_
        show SP p e below T18 m 26 #[vr a0p] [(.ref b1)] _
        refine st22.trans ?_
        show SP p e below T22 m 29 #[vr a0p] [(.ref rb_22)] _
        exact retA X22 hx Bd.returns rfl (dG hby D7 12 rfl) hr
      · show Q_rmPt n0 Z cS vF a0p sA sB pv pk (1 : Int32) (own_n (2 * pn)) ps pn pf dv dk (0 : Int32) (own_n dn) ds dn df h0 _ T22.heap _
        exact ⟨rb_22, rv_22, rk_22, (1 : Int32), (own_n (2 * ((pn + 2) + dn))), rs_22, rfl, N22, K22, sz_rb_22, sz_rv_22, P22_2, P22_3, P22_4, P22_5, hfin⟩
    · subst hc_d hl_d
      obtain ⟨T1, h1, X1, e1, E1, A1, D1, -, st1⟩ := newO X0w hx hZ hown (Wd hw 48 rfl) (Wd hw 49 rfl) (Wd hw 50 rfl) e0 (g := mkF m 0 #[vr a0p] []) rfl (dG hby D7 0 rfl) (by decide) (by decide)
      obtain ⟨b1, g1⟩ : ∃ z, z = h0.size := ⟨_, rfl⟩
      rw [← g1] at A1 D1 st1
      have g_b1 : n0 ≤ b1 := lTr (own_sz O0) (lEq g1.symm)
      have sz_b1 : h0.size ≤ b1 := lTr (Keep.refl h0 []).1 (lEq g1.symm)
      have H_2 := H0.ext E1
      have R_2 := R0.trans (CHr.ext E1 H0)
      have K1 : Keep h0 h1 [] := (Keep.refl h0 []).ext E1
      have O1 := O0.ext E1
      have F_value_b1 : Fld Z h1 b1 "java/lang/AbstractStringBuilder" "value" "[B" .null := D1 (Or.inl (Wd hw 63 rfl)) (ty := (.array .byte)) (by decide)
      have F_coder_b1 : Fld Z h1 b1 "java/lang/AbstractStringBuilder" "coder" "B" (.int 0) := D1 (Or.inl (Wd hw 65 rfl)) (ty := .byte) (by decide)
      have F_count_b1 : Fld Z h1 b1 "java/lang/AbstractStringBuilder" "count" "I" (.int 0) := D1 (Or.inl (Wd hw 88 rfl)) (ty := .int) (by decide)
      have F_maybeLatin1_b1 : Fld Z h1 b1 "java/lang/AbstractStringBuilder" "maybeLatin1" "Z" (.int 0) := D1 (Or.inl (Wd hw 242 rfl)) (ty := .boolean) (by decide)
      obtain ⟨_, _, ⟨T3, L3, k3, n3⟩, -, X3, ⟨Lc3, hQ3, l3, y3, z3⟩, st3⟩ := X1.specialBack hx (y := MN_27) rfl hown (mvT hZ (Wd hw 51 rfl)) (mvT hZ (Wd hw 52 rfl)) (mvT hZ (Wd hw 53 rfl)) (by decide) (backOf (W := 1) (rmSb l Z a0 hw [] cS vF b1 h1 n0 O1 GL A1 F_value_b1 F_coder_b1 F_count_b1 F_maybeLatin1_b1 g_b1) hZ (Wd hw 53 rfl) (Wd hw 50 rfl) (by decide) (by decide)) (g := mkF m 4 #[vr a0p] [(.ref b1), (.ref b1)]) rfl (by rw [hml]; rfl) (Steps.refl _) (a := b1) (argsL := []) (rest := [(.ref b1)]) (lenOf pdv19 rfl) rfl (by show 2 * 0 + _ ≤ _; exact lEq rfl) (dG hby D7 2 rfl) (fun _ _ => ⟨rfl, e1, (by decide : 1 + 1 ≤ _), (by decide : 4 + 16 ≤ _)⟩)
      dsimp only [Pt.U, Pt.locs, Pt.cells, Pt.slots] at X3 l3 y3 z3 st3 hQ3
      subst l3 y3 z3
      obtain ⟨y_3, ky_3, rfl, N3q, Kc3, P3_0, P3_1, P3_2, P3_3, P3_4, P3_5, P3_6, P3_7⟩ := hQ3
      have K3 : Keep h0 T3.heap [] := K1.trans Kc3 (allS (Or.inr sz_b1) all0)
      have O3 := O1.keep Kc3 (allS g_b1 all0)
      have Sf5 : Safe Z EL1 s.vm h1 b1 := Safe.exa (EL := EL1) hZ.alike A1 (by decide) (by decide)
      have H_4 := H_2.keep Kc3 (sfS Sf5 sf0)
      have R_4 := R_2.trans (CHr.keep Kc3 (sfS Sf5 sf0) H_2)
      have g_y_3 : n0 ≤ y_3 := lTr (own_sz O1) P3_0
      have sz_y_3 : h0.size ≤ y_3 := lTr K1.1 P3_0
      have N3 := Fr.app N0 N3q
      obtain ⟨T6, X6, e6, st6⟩ := getF X3 hx hZ hown (host := "") (Or.inl (Wd hw 39 rfl)) Via.refl rfl ((F_header_a0p.ext E1).keep Kc3 (ninS (nLt (lLt E_a0p.lt (lEq g1.symm))) nin0)) (g := mkF m 8 #[vr a0p] [(.ref a0p), (.ref b1)]) rfl rfl (dG hby D7 4 rfl)
      obtain ⟨cq7, kq7, q7a, q7b, q7c⟩ := isOf hZ e6 P3_2
      obtain ⟨_, _, ⟨T7, L7, k7, n7⟩, -, X7, ⟨Lc7, hQ7, l7, y7, z7⟩, st7⟩ := X6.virtualBack hx (y := MN_35) (z := MN_35) hown (mvT hZ (Wd hw 66 rfl)) (mvT hZ (Wd hw 67 rfl)) (notFace_of_selects (args := #[]) (mvT hZ (Wd hw 69 rfl))) (mvT hZ (Wd hw 69 rfl)) (mvT hZ (Wd hw 68 rfl)) (by decide) (backOf (W := 0) (rmAq01 l Z a0 hw [] cS vF b1 sA y_3 ky_3 ([(.int 0), (.int 0), (.int 0), (.int 0), (.int 0), (.int 0), (.int 0), (.int 0), (.int 0), (.int 0), (.int 0), (.int 0), (.int 0), (.int 0), (.int 0), (.int 0)]) 0 own_f0 pv pk ps pn pf (T3.heap) n0 O3 GL P3_2 P3_3 P3_4 P3_5 P3_6 P3_7 own_L0 rfl g_b1 g_y_3 ((E_sA.ext E1).keep Kc3) ((F_value_sA.ext E1).keep Kc3 (ninS (nLt (lLt E_sA.lt (lEq g1.symm))) nin0)) ((F_coder_sA.ext E1).keep Kc3 (ninS (nLt (lLt E_sA.lt (lEq g1.symm))) nin0)) ((V_pv.ext E1).keep Kc3 (ninS (nLt (lLt V_pv.lt (lEq g1.symm))) nin0)) hT_p (by omega) (by decide) (by omega)) hZ (Wd hw 70 rfl) (Wd hw 50 rfl) (by decide) (by decide)) q7a q7c (g := mkF m 11 #[vr a0p] [(.ref sA), (.ref b1)]) rfl (by rw [hml]; rfl) (Steps.refl _) (argsL := [(.ref sA)]) (rest := []) (lenOf pdv30 rfl) rfl (by show 2 * 0 + _ ≤ _; exact lEq rfl) (dG hby D7 5 rfl) (fun _ _ => ⟨rfl, e6, (by decide : 2 + 1 ≤ _), (by decide : 20 + 32 ≤ _)⟩)
      dsimp only [Pt.U, Pt.locs, Pt.cells, Pt.slots] at X7 l7 y7 z7 st7 hQ7
      subst l7 y7 z7
      obtain ⟨yw_7, kw_7, bw_7, rfl, N7q, Kc7, P7_0, P7_1, P7_2, P7_3, P7_4, P7_5, P7_6, P7_7, P7_8, P7_9⟩ := hQ7
      have K7 : Keep h0 T7.heap [] := K3.trans Kc7 (allS (Or.inr sz_b1) all0)
      have O7 := O3.keep Kc7 (allS g_b1 all0)
      have Sf9 : Safe Z EL1 s.vm T3.heap b1 := Safe.exa (EL := EL1) hZ.alike P3_2 (by decide) (by decide)
      have H_8 := H_4.keep Kc7 (sfS Sf9 sf0)
      have R_8 := R_4.trans (CHr.keep Kc7 (sfS Sf9 sf0) H_4)
      have g_yw_7 : n0 ≤ yw_7 := lTr (own_sz O3) P7_0
      have sz_yw_7 : h0.size ≤ yw_7 := lTr K3.1 P7_0
      have N7 := Fr.app N3 N7q
      have Fz10 : Fld Z T7.heap b1 "java/lang/AbstractStringBuilder" "count" "I" (.int (own_n pn)) := by
        have q := P7_5
        rw [Nat.zero_add] at q
        exact q
      have hz10 : own_U bw_7 pn pf := own_cat0U P7_8
      obtain ⟨a11, T11, h11, k111, b11, kc11, X11, e11, E11, hS11, hk11, hZ11, hown11, A11, Fc11, Fv11, V11, la11, lb11, Rs11, Li11, nel11, st11⟩ := ldcCH X7 hx hZ hown (Wd hw 114 rfl) (own_wS hw) rfl hS0 (lTr (lTr (lTr (Nat.le_refl _) E1.1) Kc3.1) Kc7.1) (own_EW hw) (List.mem_of_getElem? (i := 0) rfl) H_8 (vs := [(.int 58), (.int 32)]) (z := (2 : Int32)) ⟨by decide, by decide⟩ (by decide) rfl (g := mkF m 14 #[vr a0p] [(.ref b1)]) rfl (dG hby D7 6 rfl) (n := 8) (by decide) (by decide) (by decide) (by decide)
      have H_12 := Rs11.1
      have R_12 := R_8.trans Rs11
      have K11 : Keep h0 h11 [] := K7.ext E11
      have O11 := O7.ext E11
      have hsep : own_L [(.int 58), (.int 32)] 2 own_sep := own_L_sep
      have Sf14 : Safe Z EL1 T11.vm h11 yw_7 := (CHr.safe Rs11 P7_1.lt (Safe.keep Kc7 (sfS Sf9 sf0) H_4 (Safe.new (Z := Z) (EL := EL1) (vm := s.vm) P7_0)))
      obtain ⟨cq13, kq13, q13a, q13b, q13c⟩ := isOf hZ11 e11 (P7_2.ext E11)
      obtain ⟨_, _, ⟨T13, L13, k13, n13⟩, -, X13, ⟨Lc13, hQ13, l13, y13, z13⟩, st13⟩ := X11.virtualBack hx (y := MN_35) (z := MN_35) hown11 (mvT hZ11 (Wd hw 66 rfl)) (mvT hZ11 (Wd hw 67 rfl)) (notFace_of_selects (args := #[]) (mvT hZ11 (Wd hw 69 rfl))) (mvT hZ11 (Wd hw 69 rfl)) (mvT hZ11 (Wd hw 68 rfl)) (by decide) (backOf (W := 0) (rmAq10 l Z a0 hw [] cS vF b1 a11 yw_7 kw_7 bw_7 pn pf b11 kc11 ([(.int 58), (.int 32)]) 2 own_sep h11 n0 O11 GL (P7_2.ext E11) (P7_3.ext E11) (P7_4.ext E11) (Fz10.ext E11) (P7_6.ext E11) (P7_7.ext E11) hz10 P7_9 g_b1 g_yw_7 A11 Fv11 Fc11 V11 hsep (by omega) (by omega) (by decide) (Ne.symm (nel11 yw_7 Sf14).2)) hZ11 (Wd hw 70 rfl) (Wd hw 50 rfl) (by decide) (by decide)) q13a q13c (g := mkF m 16 #[vr a0p] [(.ref a11), (.ref b1)]) rfl (by rw [hml]; rfl) (Steps.refl _) (argsL := [(.ref a11)]) (rest := []) (lenOf pdv30 rfl) rfl (by show 2 * 0 + _ ≤ _; exact lEq rfl) (dG hby D7 7 rfl) (fun _ _ => ⟨rfl, e11, (by decide : 5 + 0 ≤ _), (by decide : 64 + 0 ≤ _)⟩)
      dsimp only [Pt.U, Pt.locs, Pt.cells, Pt.slots] at X13 l13 y13 z13 st13 hQ13
      subst l13 y13 z13
      obtain ⟨bw_13, rfl, N13q, Kc13, P13_0, P13_1, P13_2, P13_3, P13_4, P13_5, P13_6, P13_7⟩ := hQ13
      have K13 : Keep h0 T13.heap [] := K11.trans Kc13 (allS (Or.inr sz_b1) (allS (Or.inr sz_yw_7) all0))
      have O13 := O11.keep Kc13 (allS g_b1 (allS g_yw_7 all0))
      have Sf16 : Safe Z EL1 T11.vm h11 b1 := Safe.exa (EL := EL1) hZ11.alike (P7_2.ext E11) (by decide) (by decide)
      have H_15 := H_12.keep Kc13 (sfS Sf16 (sfS Sf14 sf0))
      have R_15 := R_12.trans (CHr.keep Kc13 (sfS Sf16 (sfS Sf14 sf0)) H_12)
      have N13 := Fr.app N7 N13q
      obtain ⟨T17, X17, e17, st17⟩ := getF X13 hx hZ11 hown11 (host := "") (Or.inl (Wd hw 41 rfl)) Via.refl rfl (((((F_text_a0p.ext E1).keep Kc3 (ninS (nLt (lLt E_a0p.lt (lEq g1.symm))) nin0)).keep Kc7 (ninS (nLt (lLt E_a0p.lt (lEq g1.symm))) nin0)).ext E11).keep Kc13 (ninS (nLt (lLt E_a0p.lt (lEq g1.symm))) (ninS (nLt (lLt (lLt E_a0p.lt (lTr E1.1 Kc3.1)) P7_0)) nin0))) (g := mkF m 20 #[vr a0p] [(.ref a0p), (.ref b1)]) rfl rfl (dG hby D7 9 rfl)
      obtain ⟨cq18, kq18, q18a, q18b, q18c⟩ := isOf hZ11 e17 P13_0
      obtain ⟨_, _, ⟨T18, L18, k18, n18⟩, -, X18, ⟨Lc18, hQ18, l18, y18, z18⟩, st18⟩ := X17.virtualBack hx (y := MN_35) (z := MN_35) hown11 (mvT hZ11 (Wd hw 66 rfl)) (mvT hZ11 (Wd hw 67 rfl)) (notFace_of_selects (args := #[]) (mvT hZ11 (Wd hw 69 rfl))) (mvT hZ11 (Wd hw 69 rfl)) (mvT hZ11 (Wd hw 68 rfl)) (by decide) (backOf (W := 0) (rmAq11 l Z a0 hw [] cS vF b1 sB yw_7 kw_7 bw_13 ((pn + 2)) ((own_cat pn pf own_sep)) dv dk ds dn df (T13.heap) n0 O13 GL P13_0 P13_1 P13_2 P13_3 P13_4 P13_5 P13_6 P13_7 g_b1 g_yw_7 (((((E_sB.ext E1).keep Kc3).keep Kc7).ext E11).keep Kc13) (((((F_value_sB.ext E1).keep Kc3 (ninS (nLt (lLt E_sB.lt (lEq g1.symm))) nin0)).keep Kc7 (ninS (nLt (lLt E_sB.lt (lEq g1.symm))) nin0)).ext E11).keep Kc13 (ninS (nLt (lLt E_sB.lt (lEq g1.symm))) (ninS (nLt (lLt (lLt E_sB.lt (lTr E1.1 Kc3.1)) P7_0)) nin0))) (((((F_coder_sB.ext E1).keep Kc3 (ninS (nLt (lLt E_sB.lt (lEq g1.symm))) nin0)).keep Kc7 (ninS (nLt (lLt E_sB.lt (lEq g1.symm))) nin0)).ext E11).keep Kc13 (ninS (nLt (lLt E_sB.lt (lEq g1.symm))) (ninS (nLt (lLt (lLt E_sB.lt (lTr E1.1 Kc3.1)) P7_0)) nin0))) (((((V_dv.ext E1).keep Kc3 (ninS (nLt (lLt V_dv.lt (lEq g1.symm))) nin0)).keep Kc7 (ninS (nLt (lLt V_dv.lt (lEq g1.symm))) nin0)).ext E11).keep Kc13 (ninS (nLt (lLt V_dv.lt (lEq g1.symm))) (ninS (nLt (lLt (lLt V_dv.lt (lTr E1.1 Kc3.1)) P7_0)) nin0))) hT_d (by omega) (by omega) (by omega)) hZ11 (Wd hw 70 rfl) (Wd hw 50 rfl) (by decide) (by decide)) q18a q18c (g := mkF m 23 #[vr a0p] [(.ref sB), (.ref b1)]) rfl (by rw [hml]; rfl) (Steps.refl _) (argsL := [(.ref sB)]) (rest := []) (lenOf pdv30 rfl) rfl (by show 2 * 0 + _ ≤ _; exact lEq rfl) (dG hby D7 10 rfl) (fun _ _ => ⟨rfl, e17, (by decide : 5 + 0 ≤ _), (by decide : 64 + 0 ≤ _)⟩)
      dsimp only [Pt.U, Pt.locs, Pt.cells, Pt.slots] at X18 l18 y18 z18 st18 hQ18
      subst l18 y18 z18
      obtain ⟨bw_18, rfl, N18q, Kc18, P18_0, P18_1, P18_2, P18_3, P18_4, P18_5, P18_6, P18_7⟩ := hQ18
      have K18 : Keep h0 T18.heap [] := K13.trans Kc18 (allS (Or.inr sz_b1) (allS (Or.inr sz_yw_7) all0))
      have O18 := O13.keep Kc18 (allS g_b1 (allS g_yw_7 all0))
      have Sf20 : Safe Z EL1 T11.vm T13.heap yw_7 := (Safe.keep Kc13 (sfS Sf16 (sfS Sf14 sf0)) H_12 Sf14)
      have Sf21 : Safe Z EL1 T11.vm T13.heap b1 := Safe.exa (EL := EL1) hZ11.alike P13_0 (by decide) (by decide)
      have H_19 := H_15.keep Kc18 (sfS Sf21 (sfS Sf20 sf0))
      have R_19 := R_15.trans (CHr.keep Kc18 (sfS Sf21 (sfS Sf20 sf0)) H_15)
      have N18 := Fr.app N13 N18q
      obtain ⟨cq22, kq22, q22a, q22b, q22c⟩ := isOf hZ11 rfl P18_0
      obtain ⟨_, _, ⟨T22, L22, k22, n22⟩, -, X22, ⟨Lc22, hQ22, l22, y22, z22⟩, st22⟩ := X18.virtualBack hx (y := MN_44) (z := MN_44) hown11 (mvT hZ11 (Wd hw 115 rfl)) (mvT hZ11 (Wd hw 116 rfl)) (notFace_of_selects (args := #[]) (mvT hZ11 (Wd hw 118 rfl))) (mvT hZ11 (Wd hw 118 rfl)) (mvT hZ11 (Wd hw 117 rfl)) (by decide) (backOf (W := 0) (rmTs1 l Z a0 hw [] cS vF b1 yw_7 kw_7 bw_18 (((pn + 2) + dn)) ((own_cat (pn + 2) (own_cat pn pf own_sep) df)) (T18.heap) n0 O18 GL P18_0 P18_1 P18_2 P18_3 P18_4 P18_5 P18_6 (by omega)) hZ11 (Wd hw 119 rfl) (Wd hw 50 rfl) (by decide) (by decide)) q22a q22c (g := mkF m 26 #[vr a0p] [(.ref b1)]) rfl (by rw [hml]; rfl) (Steps.refl _) (argsL := []) (rest := []) (lenOf pdv31 rfl) rfl (by show 2 * 0 + _ ≤ _; exact lEq rfl) (dG hby D7 11 rfl) (fun _ _ => ⟨rfl, rfl, (by decide : 5 + 2 ≤ _), (by decide : 64 + 20 ≤ _)⟩)
      dsimp only [Pt.U, Pt.locs, Pt.cells, Pt.slots] at X22 l22 y22 z22 st22 hQ22
      subst l22 y22 z22
      obtain ⟨rb_22, rv_22, rk_22, rs_22, rfl, N22q, Kc22, P22_0, P22_1, P22_2, P22_3, P22_4, P22_5, P22_6⟩ := hQ22
      have K22 : Keep h0 T22.heap [] := K18.trans Kc22 all0
      have O22 := O18.keep Kc22 all0
      have H_23 := H_19.keep Kc22 sf0
      have R_23 := R_19.trans (CHr.keep Kc22 sf0 H_19)
      have g_rb_22 : n0 ≤ rb_22 := lTr (own_sz O18) P22_0
      have sz_rb_22 : h0.size ≤ rb_22 := lTr K18.1 P22_0
      have g_rv_22 : n0 ≤ rv_22 := lTr (own_sz O18) P22_1
      have sz_rv_22 : h0.size ≤ rv_22 := lTr K18.1 P22_1
      have N22 := Fr.app N18 N22q
      have hfin : own_st (1 : Int32) (own_n (2 * ((pn + 2) + dn))) rs_22 (pn + 2 + dn) (own_all pn pf df) := (Or.inr ⟨rfl, rfl, P22_6⟩)
      obtain ⟨fs, hr, hrun, hended, hRW⟩ := X22.leaveW hS11 (lTr (lTr (lTr hk11 Kc13.1) Kc18.1) Kc22.1) (v := some (.ref rb_22)) (fun h => by rw [Bd.returns] at h; cases h)
      have hCR : CHr Z EL1 s.vm s.heap T22.vm T22.heap := by
        rw [hh]
        exact R_23.trans (CHv.at X22 hZ11 (own_EW hw) H_23)
      refine ⟨_, _, pre0 _ ?_, hrun, hended, _, _, rfl, ?_, hCR, hRW.1, hRW.2.1, hRW.2.2.1, hRW.2.2.2.mono (by decide) (by decide)⟩
      · show SP p e below s₁ m 0 #[vr a0p] [] _
        refine st1 _ ?_
        show SP p e below T1 m 3 #[vr a0p] [(.ref b1)] _
        refine XS.dup X1.here hx rfl (dG hby D7 1 rfl) rfl rfl ?_
        show SP p e below T1 m 4 #[vr a0p] [(.ref b1), (.ref b1)] _
        refine st3.trans ?_
        show SP p e below T3 m 7 #[vr a0p] [(.ref b1)] _
        refine XS.aloadN X3.here hx rfl (dG hby D7 3 rfl) rfl rfl ?_
        show SP p e below T3 m 8 #[vr a0p] [(.ref a0p), (.ref b1)] _
        refine st6 _ ?_
        show SP p e below T6 m 11 #[vr a0p] [(.ref sA), (.ref b1)] _
        refine st7.trans ?_
        show SP p e below T7 m 14 #[vr a0p] [(.ref b1)] _
        show SP p e below T7 m 14 #[vr a0p] [(.ref b1)] _
        refine st11 _ ?_
        show SP p e below T11 m 16 #[vr a0p] [(.ref a11), (.ref b1)] _
        refine st13.trans ?_
        show SP p e below T13 m 19 #[vr a0p] [(.ref b1)] _
        refine XS.aloadN X13.here hx rfl (dG hby D7 8 rfl) rfl rfl ?_
        show SP p e below T13 m 20 #[vr a0p] [(.ref a0p), (.ref b1)] _
        refine st17 _ ?_
        show SP p e below T17 m 23 #[vr a0p] [(.ref sB), (.ref b1)] _
        refine st18.trans ?_
        show SP p e below T18 m 26 #[vr a0p] [(.ref b1)] _
        refine st22.trans ?_
        show SP p e below T22 m 29 #[vr a0p] [(.ref rb_22)] _
        exact retA X22 hx Bd.returns rfl (dG hby D7 12 rfl) hr
      · show Q_rmPt n0 Z cS vF a0p sA sB pv pk (1 : Int32) (own_n (2 * pn)) ps pn pf dv dk (1 : Int32) (own_n (2 * dn)) ds dn df h0 _ T22.heap _
        exact ⟨rb_22, rv_22, rk_22, (1 : Int32), (own_n (2 * ((pn + 2) + dn))), rs_22, rfl, N22, K22, sz_rb_22, sz_rv_22, P22_2, P22_3, P22_4, P22_5, hfin⟩
theorem D1 : dL method_4_code [(0, .iload_n 0, 1), (1, .ifCond .ne 7, 3), (4, .iconst 0, 1), (5, .newarray .char, 2), (7, .areturn, 1), (8, .iload_n 0, 1), (9, .iconst 1, 1), (10, .if_icmp .ne 11, 3), (13, .iconst 1, 1), (14, .newarray .char, 2), (16, .dup, 1), (17, .iconst 0, 1), (18, .iload_n 1, 1), (19, .castore, 1), (20, .areturn, 1), (21, .iload_n 0, 1), (22, .iconst 2, 1), (23, .if_icmp .ne 15, 3), (26, .iconst 2, 1), (27, .newarray .char, 2), (29, .dup, 1), (30, .iconst 0, 1), (31, .iload_n 1, 1), (32, .castore, 1), (33, .dup, 1), (34, .iconst 1, 1), (35, .iload_n 2, 1), (36, .castore, 1), (37, .areturn, 1), (38, .iconst 3, 1), (39, .newarray .char, 2), (41, .dup, 1), (42, .iconst 0, 1), (43, .iload_n 1, 1), (44, .castore, 1), (45, .dup, 1), (46, .iconst 1, 1), (47, .iload_n 2, 1), (48, .castore, 1), (49, .dup, 1), (50, .iconst 2, 1), (51, .iload_n 3, 1), (52, .castore, 1), (53, .areturn, 1)] = true := by decide +kernel
theorem pnv9 : plainName "com/example/loomwire/loomwire/manifest/WrittenClauseToStringPinLaw" = true := by first | (simp [plainName, overriddenIn]; done) | decide +kernel
abbrev MN_48 : MethodName := ⟨"com/example/loomwire/loomwire/manifest/WrittenClauseToStringPinLaw", "mk", "(ICCC)[C"⟩
theorem ef_rmMk (m : MethodId) (x0 : Int32) (x1 : Int32) (x2 : Int32) {tn : Nat} : entryFrame m #[(.int (own_n tn)), (.int x0), (.int x1), (.int x2)] 4 = mkF m 0 #[vi (own_n tn), vi x0, vi x1, vi x2] [] := by first | (simp [entryFrame, mkF, argsToLocals, Value.category]; done) | rfl
def Q_rmMk (n0 : Nat) (Z : State) (cS : Int32) (vF : Value) (x0 : Int32) (x1 : Int32) (x2 : Int32) (tn : Nat) (h0 : Heap) (v : Option Value) (h : Heap) (L : List Loc) : Prop := ∃ b : Addr, ∃ kb : ClassId, ∃ cs : List Value, v = some (.ref b) ∧ Fr n0 L ∧ Keep h0 h [] ∧ (h0.size ≤ b) ∧ (Exa Z h b "[C") ∧ (Arv Z h b kb .char (own_n tn) cs (.int 0)) ∧ (own_C cs tn (own_f3 x0 x1 x2))
theorem rmMk (l : Launch) (Z : State) (a0 : Array Value) (hw : ∀ d ∈ tables_1, d.before a0 Z = true) (ws : List Jvm.Cond) (cS : Int32) (vF : Value) (x0 : Int32) (x1 : Int32) (x2 : Int32) (tn : Nat) (h0 : Heap) (n0 : Nat) (O0 : Old Z n0 h0) (GL : GF Z cS vF) (ht3 : tn ≤ 3) (hx0 : nar .char x0 = x0) (hx1 : nar .char x1 = x1) (hx2 : nar .char x2 = x2) :
    MF l MN_48 method_4_code 4 (some (.array .char)) ws (Rm 0 1 3 0) #[(.int (own_n tn)), (.int x0), (.int x1), (.int x2)] Z h0 (Q_rmMk n0 Z cS vF x0 x1 x2 tn h0) := by
  refine MetFree.of_bodySF (plainFor_of_name pnv9) hisR ?_
  intro p e s m args below meth c s₁ Bd hml0 hP hK
  obtain ⟨rfl, hZ, hh⟩ := hP
  have hx := Bd.exec
  have hby := Bd.bytes
  have hml : c.maxLocals = 4 := hml0
  have hown : s.vm.findClass "com/example/loomwire/loomwire/manifest/WrittenClauseToStringPinLaw" = some m.cls := findClass_of_methodNamed Bd.named
  have hnm := (name_of_methodNamed Bd.named Bd.method).1
  have X0 : Stand p l e (Rm 0 1 3 0) s m #[(.int (own_n tn)), (.int x0), (.int x1), (.int x2)] below meth c s₁ [] 0 0 := Stand.of_body Bd
  have e0 : s₁.heap = h0 := by rw [← hh, Bd.state]; rfl
  have N0 := Fr.nil n0
  have pre0 : ∀ t, SP p e below s₁ m 0 #[vi (own_n tn), vi x0, vi x1, vi x2] [] t → Steps p.tables e below (s₁.setTop (entryFrame m #[(.int (own_n tn)), (.int x0), (.int x1), (.int x2)] 4)) t := fun t k => castTop (ef_rmMk m x0 x1 x2) k
  have GL' := GL
  obtain ⟨GCS, GCP, GA16, GHI, GLO, GFF, GVF⟩ := GL'
  have pre2 : ∀ t, SP p e below s₁ m 1 #[vi (own_n tn), vi x0, vi x1, vi x2] [(.int (own_n tn))] t → Steps p.tables e below (s₁.setTop (entryFrame m #[(.int (own_n tn)), (.int x0), (.int x1), (.int x2)] 4)) t := fun t kt => by
    refine pre0 t ?_
    show SP p e below s₁ m 0 #[vi (own_n tn), vi x0, vi x1, vi x2] [] _
    refine XS.iloadN X0.here hx rfl (dG hby D1 0 rfl) rfl ?_
    exact kt
  by_cases hc1_1 : (own_n tn) = (0 : Int32)
  · obtain ⟨T3, h3, k3, X3, e3, E3, A3, A3', st3⟩ := newPE X0 hx hZ (Wd hw 5 rfl) e0 (g := mkF m 5 #[vi (own_n tn), vi x0, vi x1, vi x2] [(.int 0)]) rfl (dG hby D1 3 rfl) rfl (by decide) (cap := 0) (by decide) (by decide) (by decide) (by decide) (ad := "[C") rfl
    obtain ⟨b3, g3⟩ : ∃ z, z = h0.size := ⟨_, rfl⟩
    rw [← g3] at A3 A3' st3
    have g_b3 : n0 ≤ b3 := lTr (own_sz O0) (lEq g3.symm)
    have sz_b3 : h0.size ≤ b3 := lTr (Keep.refl h0 []).1 (lEq g3.symm)
    have K3 : Keep h0 h3 [] := (Keep.refl h0 []).ext E3
    have O3 := O0.ext E3
    have V_b3 : Arv Z h3 b3 k3 .char (0 : Int32) [] (.int 0) := Arv.new A3 (by decide)
    have hn0 : tn = 0 := (own_n_eq (b := 0) (by omega) (by decide)).mp hc1_1
    have Vq : Arv Z h3 b3 k3 .char (own_n tn) [] (.int 0) := by
      rw [hn0]
      exact V_b3
    have hC : own_C [] tn (own_f3 x0 x1 x2) := (by rw [hn0]; exact own_C0 )
    obtain ⟨fs, hr, hrun, hended, hW, hsame⟩ := X3.leave (v := some (.ref b3)) (fun h => by rw [Bd.returns] at h; cases h)
    refine ⟨_, _, pre2 _ ?_, hrun, hended, _, _, rfl, ?_, ⟨_, rfl⟩, hW, hsame.mono (by decide) (by decide)⟩
    · show SP p e below s₁ m 1 #[vi (own_n tn), vi x0, vi x1, vi x2] [(.int (own_n tn))] _
      refine XS.ifNo X0.here hx rfl (dG hby D1 1 rfl) rfl ((if0 _ _).trans (teq hc1_1).2) ?_
      refine XS.iconst X0.here hx rfl (dG hby D1 2 rfl) ?_
      show SP p e below s₁ m 5 #[vi (own_n tn), vi x0, vi x1, vi x2] [(.int 0)] _
      refine st3 _ ?_
      show SP p e below T3 m 7 #[vi (own_n tn), vi x0, vi x1, vi x2] [(.ref b3)] _
      exact retA X3 hx Bd.returns rfl (dG hby D1 4 rfl) hr
    · show Q_rmMk n0 Z cS vF x0 x1 x2 tn h0 _ T3.heap _
      rw [e3]
      exact ⟨b3, k3, [], rfl, N0, K3, sz_b3, A3', Vq, hC⟩
  · have pre5 : ∀ t, SP p e below s₁ m 10 #[vi (own_n tn), vi x0, vi x1, vi x2] [(.int 1), (.int (own_n tn))] t → Steps p.tables e below (s₁.setTop (entryFrame m #[(.int (own_n tn)), (.int x0), (.int x1), (.int x2)] 4)) t := fun t kt => by
      refine pre2 t ?_
      show SP p e below s₁ m 1 #[vi (own_n tn), vi x0, vi x1, vi x2] [(.int (own_n tn))] _
      refine XS.ifYes X0.here hx rfl (pc0 := 1) (pc' := 8) rfl (dG hby D1 1 rfl) rfl ((if0 _ _).trans (feq hc1_1).2) (by decide) (by decide) ?_
      refine XS.iloadN X0.here hx rfl (dG hby D1 5 rfl) rfl ?_
      refine XS.iconst X0.here hx rfl (dG hby D1 6 rfl) ?_
      exact kt
    by_cases hc10_4 : (own_n tn) = (1 : Int32)
    · obtain ⟨T6, h6, k6, X6, e6, E6, A6, A6', st6⟩ := newPE X0 hx hZ (Wd hw 5 rfl) e0 (g := mkF m 14 #[vi (own_n tn), vi x0, vi x1, vi x2] [(.int 1)]) rfl (dG hby D1 9 rfl) rfl (by decide) (cap := 1) (by decide) (by decide) (by decide) (by decide) (ad := "[C") rfl
      obtain ⟨b6, g6⟩ : ∃ z, z = h0.size := ⟨_, rfl⟩
      rw [← g6] at A6 A6' st6
      have g_b6 : n0 ≤ b6 := lTr (own_sz O0) (lEq g6.symm)
      have sz_b6 : h0.size ≤ b6 := lTr (Keep.refl h0 []).1 (lEq g6.symm)
      have K6 : Keep h0 h6 [] := (Keep.refl h0 []).ext E6
      have O6 := O0.ext E6
      have V_b6 : Arv Z h6 b6 k6 .char (1 : Int32) [(.int 0)] (.int 0) := (Arv.new A6 (by decide)).pad (pad_rep [] (.int 0) 1)
      obtain ⟨cl7, Ar7, q7, S7, N7_, H7, G7⟩ := id (V_b6)
      have hin7 : ¬ ((0 : Int32) < 0 ∨ cl7.slots.size ≤ ((0 : Int32)).toNatClampNeg) := inb_of S7 ⟨(by decide), (by decide)⟩
      obtain ⟨T7, h7, X7, e7, W7, st7⟩ := stC X6 hx hZ e6 Ar7 (j := (0 : Int32)) hin7 (g := mkF m 19 #[vi (own_n tn), vi x0, vi x1, vi x2] [(.int x0), (.int 0), (.ref b6), (.ref b6)]) rfl rfl (dG hby D1 13 rfl)
      have K7 : Keep h0 h7 [] := K6.wr W7 (Or.inr sz_b6)
      have O7 := O6.wr W7 g_b6
      have N7 := Fr.snoc X7 N0 g_b6
      have V7' : Arv Z h7 b6 k6 .char (1 : Int32) [(.int (nar .char x0))] (.int 0) := Arv.set Ar7 q7 S7 N7_ H7 G7 (fits_nar_char _) W7 0 rfl (Nat.le_of_ble_eq_true rfl)
      have V7 : Arv Z h7 b6 k6 .char (1 : Int32) [(.int x0)] (.int 0) := by
        rw [hx0] at V7'
        exact V7'
      have hn1 : tn = 1 := (own_n_eq (b := 1) (by omega) (by decide)).mp hc10_4
      have Vq : Arv Z h7 b6 k6 .char (own_n tn) [(.int x0)] (.int 0) := by
        rw [hn1]
        exact V7
      have hC : own_C [(.int x0)] tn (own_f3 x0 x1 x2) := (by rw [hn1]; exact own_C1 hx0)
      obtain ⟨fs, hr, hrun, hended, hW, hsame⟩ := X7.leave (v := some (.ref b6)) (fun h => by rw [Bd.returns] at h; cases h)
      refine ⟨_, _, pre5 _ ?_, hrun, hended, _, _, rfl, ?_, ⟨_, rfl⟩, hW, hsame.mono (by decide) (by decide)⟩
      · show SP p e below s₁ m 10 #[vi (own_n tn), vi x0, vi x1, vi x2] [(.int 1), (.int (own_n tn))] _
        refine XS.icmpNo X0.here hx rfl (dG hby D1 7 rfl) rfl (teq hc10_4).2 ?_
        refine XS.iconst X0.here hx rfl (dG hby D1 8 rfl) ?_
        show SP p e below s₁ m 14 #[vi (own_n tn), vi x0, vi x1, vi x2] [(.int 1)] _
        refine st6 _ ?_
        show SP p e below T6 m 16 #[vi (own_n tn), vi x0, vi x1, vi x2] [(.ref b6)] _
        refine XS.dup X6.here hx rfl (dG hby D1 10 rfl) rfl rfl ?_
        refine XS.iconst X6.here hx rfl (dG hby D1 11 rfl) ?_
        refine XS.iloadN X6.here hx rfl (dG hby D1 12 rfl) rfl ?_
        show SP p e below T6 m 19 #[vi (own_n tn), vi x0, vi x1, vi x2] [(.int x0), (.int 0), (.ref b6), (.ref b6)] _
        refine st7 _ ?_
        show SP p e below T7 m 20 #[vi (own_n tn), vi x0, vi x1, vi x2] [(.ref b6)] _
        exact retA X7 hx Bd.returns rfl (dG hby D1 14 rfl) hr
      · show Q_rmMk n0 Z cS vF x0 x1 x2 tn h0 _ T7.heap _
        rw [e7]
        exact ⟨b6, k6, [(.int x0)], rfl, N7, K7, sz_b6, (A6'.wr W7), Vq, hC⟩
    · have pre9 : ∀ t, SP p e below s₁ m 23 #[vi (own_n tn), vi x0, vi x1, vi x2] [(.int 2), (.int (own_n tn))] t → Steps p.tables e below (s₁.setTop (entryFrame m #[(.int (own_n tn)), (.int x0), (.int x1), (.int x2)] 4)) t := fun t kt => by
        refine pre5 t ?_
        show SP p e below s₁ m 10 #[vi (own_n tn), vi x0, vi x1, vi x2] [(.int 1), (.int (own_n tn))] _
        refine XS.icmpYes X0.here hx rfl (pc0 := 10) (pc' := 21) rfl (dG hby D1 7 rfl) rfl (feq hc10_4).2 (by decide) (by decide) ?_
        refine XS.iloadN X0.here hx rfl (dG hby D1 15 rfl) rfl ?_
        refine XS.iconst X0.here hx rfl (dG hby D1 16 rfl) ?_
        exact kt
      by_cases hc23_8 : (own_n tn) = (2 : Int32)
      · obtain ⟨T10, h10, k10, X10, e10, E10, A10, A10', st10⟩ := newPE X0 hx hZ (Wd hw 5 rfl) e0 (g := mkF m 27 #[vi (own_n tn), vi x0, vi x1, vi x2] [(.int 2)]) rfl (dG hby D1 19 rfl) rfl (by decide) (cap := 2) (by decide) (by decide) (by decide) (by decide) (ad := "[C") rfl
        obtain ⟨b10, g10⟩ : ∃ z, z = h0.size := ⟨_, rfl⟩
        rw [← g10] at A10 A10' st10
        have g_b10 : n0 ≤ b10 := lTr (own_sz O0) (lEq g10.symm)
        have sz_b10 : h0.size ≤ b10 := lTr (Keep.refl h0 []).1 (lEq g10.symm)
        have K10 : Keep h0 h10 [] := (Keep.refl h0 []).ext E10
        have O10 := O0.ext E10
        have V_b10 : Arv Z h10 b10 k10 .char (2 : Int32) [(.int 0), (.int 0)] (.int 0) := (Arv.new A10 (by decide)).pad (pad_rep [] (.int 0) 2)
        obtain ⟨cl11, Ar11, q11, S11, N11_, H11, G11⟩ := id (V_b10)
        have hin11 : ¬ ((0 : Int32) < 0 ∨ cl11.slots.size ≤ ((0 : Int32)).toNatClampNeg) := inb_of S11 ⟨(by decide), (by decide)⟩
        obtain ⟨T11, h11, X11, e11, W11, st11⟩ := stC X10 hx hZ e10 Ar11 (j := (0 : Int32)) hin11 (g := mkF m 32 #[vi (own_n tn), vi x0, vi x1, vi x2] [(.int x0), (.int 0), (.ref b10), (.ref b10)]) rfl rfl (dG hby D1 23 rfl)
        have K11 : Keep h0 h11 [] := K10.wr W11 (Or.inr sz_b10)
        have O11 := O10.wr W11 g_b10
        have N11 := Fr.snoc X11 N0 g_b10
        have V11' : Arv Z h11 b10 k10 .char (2 : Int32) [(.int (nar .char x0)), (.int 0)] (.int 0) := Arv.set Ar11 q11 S11 N11_ H11 G11 (fits_nar_char _) W11 0 rfl (Nat.le_of_ble_eq_true rfl)
        have V11 : Arv Z h11 b10 k10 .char (2 : Int32) [(.int x0), (.int 0)] (.int 0) := by
          rw [hx0] at V11'
          exact V11'
        obtain ⟨cl12, Ar12, q12, S12, N12_, H12, G12⟩ := id (V11)
        have hin12 : ¬ ((1 : Int32) < 0 ∨ cl12.slots.size ≤ ((1 : Int32)).toNatClampNeg) := inb_of S12 ⟨(by decide), (by decide)⟩
        obtain ⟨T12, h12, X12, e12, W12, st12⟩ := stC X11 hx hZ e11 Ar12 (j := (1 : Int32)) hin12 (g := mkF m 36 #[vi (own_n tn), vi x0, vi x1, vi x2] [(.int x1), (.int 1), (.ref b10), (.ref b10)]) rfl rfl (dG hby D1 27 rfl)
        have K12 : Keep h0 h12 [] := K11.wr W12 (Or.inr sz_b10)
        have O12 := O11.wr W12 g_b10
        have N12 := Fr.snoc X12 N11 g_b10
        have V12' : Arv Z h12 b10 k10 .char (2 : Int32) [(.int x0), (.int (nar .char x1))] (.int 0) := Arv.set Ar12 q12 S12 N12_ H12 G12 (fits_nar_char _) W12 1 rfl (Nat.le_of_ble_eq_true rfl)
        have V12 : Arv Z h12 b10 k10 .char (2 : Int32) [(.int x0), (.int x1)] (.int 0) := by
          rw [hx1] at V12'
          exact V12'
        have hn2 : tn = 2 := (own_n_eq (b := 2) (by omega) (by decide)).mp hc23_8
        have Vq : Arv Z h12 b10 k10 .char (own_n tn) [(.int x0), (.int x1)] (.int 0) := by
          rw [hn2]
          exact V12
        have hC : own_C [(.int x0), (.int x1)] tn (own_f3 x0 x1 x2) := (by rw [hn2]; exact own_C2 hx0 hx1)
        obtain ⟨fs, hr, hrun, hended, hW, hsame⟩ := X12.leave (v := some (.ref b10)) (fun h => by rw [Bd.returns] at h; cases h)
        refine ⟨_, _, pre9 _ ?_, hrun, hended, _, _, rfl, ?_, ⟨_, rfl⟩, hW, hsame.mono (by decide) (by decide)⟩
        · show SP p e below s₁ m 23 #[vi (own_n tn), vi x0, vi x1, vi x2] [(.int 2), (.int (own_n tn))] _
          refine XS.icmpNo X0.here hx rfl (dG hby D1 17 rfl) rfl (teq hc23_8).2 ?_
          refine XS.iconst X0.here hx rfl (dG hby D1 18 rfl) ?_
          show SP p e below s₁ m 27 #[vi (own_n tn), vi x0, vi x1, vi x2] [(.int 2)] _
          refine st10 _ ?_
          show SP p e below T10 m 29 #[vi (own_n tn), vi x0, vi x1, vi x2] [(.ref b10)] _
          refine XS.dup X10.here hx rfl (dG hby D1 20 rfl) rfl rfl ?_
          refine XS.iconst X10.here hx rfl (dG hby D1 21 rfl) ?_
          refine XS.iloadN X10.here hx rfl (dG hby D1 22 rfl) rfl ?_
          show SP p e below T10 m 32 #[vi (own_n tn), vi x0, vi x1, vi x2] [(.int x0), (.int 0), (.ref b10), (.ref b10)] _
          refine st11 _ ?_
          show SP p e below T11 m 33 #[vi (own_n tn), vi x0, vi x1, vi x2] [(.ref b10)] _
          refine XS.dup X11.here hx rfl (dG hby D1 24 rfl) rfl rfl ?_
          refine XS.iconst X11.here hx rfl (dG hby D1 25 rfl) ?_
          refine XS.iloadN X11.here hx rfl (dG hby D1 26 rfl) rfl ?_
          show SP p e below T11 m 36 #[vi (own_n tn), vi x0, vi x1, vi x2] [(.int x1), (.int 1), (.ref b10), (.ref b10)] _
          refine st12 _ ?_
          show SP p e below T12 m 37 #[vi (own_n tn), vi x0, vi x1, vi x2] [(.ref b10)] _
          exact retA X12 hx Bd.returns rfl (dG hby D1 28 rfl) hr
        · show Q_rmMk n0 Z cS vF x0 x1 x2 tn h0 _ T12.heap _
          rw [e12]
          exact ⟨b10, k10, [(.int x0), (.int x1)], rfl, N12, K12, sz_b10, ((A10'.wr W11).wr W12), Vq, hC⟩
      · obtain ⟨T13, h13, k13, X13, e13, E13, A13, A13', st13⟩ := newPE X0 hx hZ (Wd hw 5 rfl) e0 (g := mkF m 39 #[vi (own_n tn), vi x0, vi x1, vi x2] [(.int 3)]) rfl (dG hby D1 30 rfl) rfl (by decide) (cap := 3) (by decide) (by decide) (by decide) (by decide) (ad := "[C") rfl
        obtain ⟨b13, g13⟩ : ∃ z, z = h0.size := ⟨_, rfl⟩
        rw [← g13] at A13 A13' st13
        have g_b13 : n0 ≤ b13 := lTr (own_sz O0) (lEq g13.symm)
        have sz_b13 : h0.size ≤ b13 := lTr (Keep.refl h0 []).1 (lEq g13.symm)
        have K13 : Keep h0 h13 [] := (Keep.refl h0 []).ext E13
        have O13 := O0.ext E13
        have V_b13 : Arv Z h13 b13 k13 .char (3 : Int32) [(.int 0), (.int 0), (.int 0)] (.int 0) := (Arv.new A13 (by decide)).pad (pad_rep [] (.int 0) 3)
        obtain ⟨cl14, Ar14, q14, S14, N14_, H14, G14⟩ := id (V_b13)
        have hin14 : ¬ ((0 : Int32) < 0 ∨ cl14.slots.size ≤ ((0 : Int32)).toNatClampNeg) := inb_of S14 ⟨(by decide), (by decide)⟩
        obtain ⟨T14, h14, X14, e14, W14, st14⟩ := stC X13 hx hZ e13 Ar14 (j := (0 : Int32)) hin14 (g := mkF m 44 #[vi (own_n tn), vi x0, vi x1, vi x2] [(.int x0), (.int 0), (.ref b13), (.ref b13)]) rfl rfl (dG hby D1 34 rfl)
        have K14 : Keep h0 h14 [] := K13.wr W14 (Or.inr sz_b13)
        have O14 := O13.wr W14 g_b13
        have N14 := Fr.snoc X14 N0 g_b13
        have V14' : Arv Z h14 b13 k13 .char (3 : Int32) [(.int (nar .char x0)), (.int 0), (.int 0)] (.int 0) := Arv.set Ar14 q14 S14 N14_ H14 G14 (fits_nar_char _) W14 0 rfl (Nat.le_of_ble_eq_true rfl)
        have V14 : Arv Z h14 b13 k13 .char (3 : Int32) [(.int x0), (.int 0), (.int 0)] (.int 0) := by
          rw [hx0] at V14'
          exact V14'
        obtain ⟨cl15, Ar15, q15, S15, N15_, H15, G15⟩ := id (V14)
        have hin15 : ¬ ((1 : Int32) < 0 ∨ cl15.slots.size ≤ ((1 : Int32)).toNatClampNeg) := inb_of S15 ⟨(by decide), (by decide)⟩
        obtain ⟨T15, h15, X15, e15, W15, st15⟩ := stC X14 hx hZ e14 Ar15 (j := (1 : Int32)) hin15 (g := mkF m 48 #[vi (own_n tn), vi x0, vi x1, vi x2] [(.int x1), (.int 1), (.ref b13), (.ref b13)]) rfl rfl (dG hby D1 38 rfl)
        have K15 : Keep h0 h15 [] := K14.wr W15 (Or.inr sz_b13)
        have O15 := O14.wr W15 g_b13
        have N15 := Fr.snoc X15 N14 g_b13
        have V15' : Arv Z h15 b13 k13 .char (3 : Int32) [(.int x0), (.int (nar .char x1)), (.int 0)] (.int 0) := Arv.set Ar15 q15 S15 N15_ H15 G15 (fits_nar_char _) W15 1 rfl (Nat.le_of_ble_eq_true rfl)
        have V15 : Arv Z h15 b13 k13 .char (3 : Int32) [(.int x0), (.int x1), (.int 0)] (.int 0) := by
          rw [hx1] at V15'
          exact V15'
        obtain ⟨cl16, Ar16, q16, S16, N16_, H16, G16⟩ := id (V15)
        have hin16 : ¬ ((2 : Int32) < 0 ∨ cl16.slots.size ≤ ((2 : Int32)).toNatClampNeg) := inb_of S16 ⟨(by decide), (by decide)⟩
        obtain ⟨T16, h16, X16, e16, W16, st16⟩ := stC X15 hx hZ e15 Ar16 (j := (2 : Int32)) hin16 (g := mkF m 52 #[vi (own_n tn), vi x0, vi x1, vi x2] [(.int x2), (.int 2), (.ref b13), (.ref b13)]) rfl rfl (dG hby D1 42 rfl)
        have K16 : Keep h0 h16 [] := K15.wr W16 (Or.inr sz_b13)
        have O16 := O15.wr W16 g_b13
        have N16 := Fr.snoc X16 N15 g_b13
        have V16' : Arv Z h16 b13 k13 .char (3 : Int32) [(.int x0), (.int x1), (.int (nar .char x2))] (.int 0) := Arv.set Ar16 q16 S16 N16_ H16 G16 (fits_nar_char _) W16 2 rfl (Nat.le_of_ble_eq_true rfl)
        have V16 : Arv Z h16 b13 k13 .char (3 : Int32) [(.int x0), (.int x1), (.int x2)] (.int 0) := by
          rw [hx2] at V16'
          exact V16'
        have hn3 : tn = 3 := own_n3 ht3 hc1_1 hc10_4 hc23_8
        have Vq : Arv Z h16 b13 k13 .char (own_n tn) [(.int x0), (.int x1), (.int x2)] (.int 0) := by
          rw [hn3]
          exact V16
        have hC : own_C [(.int x0), (.int x1), (.int x2)] tn (own_f3 x0 x1 x2) := (by rw [hn3]; exact own_C3 hx0 hx1 hx2)
        obtain ⟨fs, hr, hrun, hended, hW, hsame⟩ := X16.leave (v := some (.ref b13)) (fun h => by rw [Bd.returns] at h; cases h)
        refine ⟨_, _, pre9 _ ?_, hrun, hended, _, _, rfl, ?_, ⟨_, rfl⟩, hW, hsame.mono (by decide) (by decide)⟩
        · show SP p e below s₁ m 23 #[vi (own_n tn), vi x0, vi x1, vi x2] [(.int 2), (.int (own_n tn))] _
          refine XS.icmpYes X0.here hx rfl (pc0 := 23) (pc' := 38) rfl (dG hby D1 17 rfl) rfl (feq hc23_8).2 (by decide) (by decide) ?_
          refine XS.iconst X0.here hx rfl (dG hby D1 29 rfl) ?_
          show SP p e below s₁ m 39 #[vi (own_n tn), vi x0, vi x1, vi x2] [(.int 3)] _
          refine st13 _ ?_
          show SP p e below T13 m 41 #[vi (own_n tn), vi x0, vi x1, vi x2] [(.ref b13)] _
          refine XS.dup X13.here hx rfl (dG hby D1 31 rfl) rfl rfl ?_
          refine XS.iconst X13.here hx rfl (dG hby D1 32 rfl) ?_
          refine XS.iloadN X13.here hx rfl (dG hby D1 33 rfl) rfl ?_
          show SP p e below T13 m 44 #[vi (own_n tn), vi x0, vi x1, vi x2] [(.int x0), (.int 0), (.ref b13), (.ref b13)] _
          refine st14 _ ?_
          show SP p e below T14 m 45 #[vi (own_n tn), vi x0, vi x1, vi x2] [(.ref b13)] _
          refine XS.dup X14.here hx rfl (dG hby D1 35 rfl) rfl rfl ?_
          refine XS.iconst X14.here hx rfl (dG hby D1 36 rfl) ?_
          refine XS.iloadN X14.here hx rfl (dG hby D1 37 rfl) rfl ?_
          show SP p e below T14 m 48 #[vi (own_n tn), vi x0, vi x1, vi x2] [(.int x1), (.int 1), (.ref b13), (.ref b13)] _
          refine st15 _ ?_
          show SP p e below T15 m 49 #[vi (own_n tn), vi x0, vi x1, vi x2] [(.ref b13)] _
          refine XS.dup X15.here hx rfl (dG hby D1 39 rfl) rfl rfl ?_
          refine XS.iconst X15.here hx rfl (dG hby D1 40 rfl) ?_
          refine XS.iloadN X15.here hx rfl (dG hby D1 41 rfl) rfl ?_
          show SP p e below T15 m 52 #[vi (own_n tn), vi x0, vi x1, vi x2] [(.int x2), (.int 2), (.ref b13), (.ref b13)] _
          refine st16 _ ?_
          show SP p e below T16 m 53 #[vi (own_n tn), vi x0, vi x1, vi x2] [(.ref b13)] _
          exact retA X16 hx Bd.returns rfl (dG hby D1 43 rfl) hr
        · show Q_rmMk n0 Z cS vF x0 x1 x2 tn h0 _ T16.heap _
          rw [e16]
          exact ⟨b13, k13, [(.int x0), (.int x1), (.int x2)], rfl, N16, K16, sz_b13, (((A13'.wr W14).wr W15).wr W16), Vq, hC⟩
theorem D29 : dL method_3_code [(0, .iload_n 1, 1), (1, .iload 5, 2), (3, .if_icmp .lt 5, 3), (8, .iload_n 1, 1), (9, .iload 4, 2), (11, .if_icmp .ge 11, 3), (14, .aload_n 2, 1), (15, .iload_n 1, 1), (16, .caload, 1), (17, .istore 6, 2), (19, .goto 41, 3), (60, .aload_n 0, 1), (61, .iload_n 1, 1), (62, .invokevirtual 36, 3), (65, .iload 6, 2), (67, .if_icmp .ne 7, 3), (70, .iconst 1, 1), (71, .goto 4, 3), (75, .ireturn, 1), (22, .iload_n 1, 1), (23, .iload 4, 2), (25, .if_icmp .ne 10, 3), (28, .bipush 58, 2), (30, .istore 6, 2), (32, .goto 28, 3), (35, .iload_n 1, 1), (36, .iload 4, 2), (38, .iconst 1, 1), (39, .iadd, 1), (40, .if_icmp .ne 10, 3), (43, .bipush 32, 2), (45, .istore 6, 2), (47, .goto 13, 3), (50, .aload_n 3, 1), (51, .iload_n 1, 1), (52, .iload 4, 2), (54, .isub, 1), (55, .iconst 2, 1), (56, .isub, 1), (57, .caload, 1), (58, .istore 6, 2), (6, .iconst 1, 1), (7, .ireturn, 1)] = true := by decide +kernel
theorem pdv32 : parseMethodDescriptor "(I)C" = some ⟨[.int], some .char⟩ := by decide +kernel
abbrev MN_49 : MethodName := ⟨"com/example/loomwire/loomwire/manifest/WrittenClauseToStringPinLaw", "at", "(Ljava/lang/String;I[C[CII)Z"⟩
theorem ef_rmAt (m : MethodId) (a0s : Addr) (a2c : Addr) (a3c : Addr) {pn : Nat} {dn : Nat} {ix : Nat} : entryFrame m #[(.ref a0s), (.int (own_n ix)), (.ref a2c), (.ref a3c), (.int (own_n pn)), (.int (own_n (pn + 2 + dn)))] 7 = mkF m 0 #[vr a0s, vi (own_n ix), vr a2c, vr a3c, vi (own_n pn), vi (own_n (pn + 2 + dn)), .unset] [] := by first | (simp [entryFrame, mkF, argsToLocals, Value.category]; done) | rfl
def Q_rmAt (n0 : Nat) (Z : State) (cS : Int32) (vF : Value) (a0s : Addr) (a2c : Addr) (a3c : Addr) (cs : List Value) (ds : List Value) (rv : Addr) (rk : ClassId) (rc : Int32) (rl : Int32) (rs : List Value) (kc : ClassId) (kd : ClassId) (pn : Nat) (dn : Nat) (ix : Nat) (x0 : Int32) (x1 : Int32) (x2 : Int32) (z0 : Int32) (z1 : Int32) (z2 : Int32) (h0 : Heap) (v : Option Value) (h : Heap) (L : List Loc) : Prop := v = some (.int 1) ∧ Fr n0 L ∧ h = h0
theorem rmAt (l : Launch) (Z : State) (a0 : Array Value) (hw : ∀ d ∈ tables_1, d.before a0 Z = true) (ws : List Jvm.Cond) (cS : Int32) (vF : Value) (a0s : Addr) (a2c : Addr) (a3c : Addr) (cs : List Value) (ds : List Value) (rv : Addr) (rk : ClassId) (rc : Int32) (rl : Int32) (rs : List Value) (kc : ClassId) (kd : ClassId) (pn : Nat) (dn : Nat) (ix : Nat) (x0 : Int32) (x1 : Int32) (x2 : Int32) (z0 : Int32) (z1 : Int32) (z2 : Int32) (h0 : Heap) (n0 : Nat) (O0 : Old Z n0 h0) (GL : GF Z cS vF) (E_a0s : Exa Z h0 a0s "java/lang/String") (F_value_a0s : Fld Z h0 a0s "java/lang/String" "value" "[B" (.ref rv)) (F_coder_a0s : Fld Z h0 a0s "java/lang/String" "coder" "B" (.int rc)) (V_rv : Arv Z h0 rv rk .byte rl rs (.int 0)) (hrx : own_st rc rl rs (pn + 2 + dn) (own_all pn (own_f3 x0 x1 x2) (own_f3 z0 z1 z2))) (V_a2c : Arv Z h0 a2c kc .char (own_n pn) cs (.int 0)) (hcx : own_C cs pn (own_f3 x0 x1 x2)) (V_a3c : Arv Z h0 a3c kd .char (own_n dn) ds (.int 0)) (hdx : own_C ds dn (own_f3 z0 z1 z2)) (hp3 : pn ≤ 3) (hd3 : dn ≤ 3) (hi7 : ix ≤ 7) :
    MF l MN_49 method_3_code 7 (some .boolean) ws (Rm 5 0 0 66) #[(.ref a0s), (.int (own_n ix)), (.ref a2c), (.ref a3c), (.int (own_n pn)), (.int (own_n (pn + 2 + dn)))] Z h0 (Q_rmAt n0 Z cS vF a0s a2c a3c cs ds rv rk rc rl rs kc kd pn dn ix x0 x1 x2 z0 z1 z2 h0) := by
  refine MetFree.of_bodySF (plainFor_of_name pnv9) hisR ?_
  intro p e s m args below meth c s₁ Bd hml0 hP hK
  obtain ⟨rfl, hZ, hh⟩ := hP
  have hx := Bd.exec
  have hby := Bd.bytes
  have hml : c.maxLocals = 7 := hml0
  have hown : s.vm.findClass "com/example/loomwire/loomwire/manifest/WrittenClauseToStringPinLaw" = some m.cls := findClass_of_methodNamed Bd.named
  have hnm := (name_of_methodNamed Bd.named Bd.method).1
  have X0 : Stand p l e (Rm 5 0 0 66) s m #[(.ref a0s), (.int (own_n ix)), (.ref a2c), (.ref a3c), (.int (own_n pn)), (.int (own_n (pn + 2 + dn)))] below meth c s₁ [] 0 0 := Stand.of_body Bd
  have e0 : s₁.heap = h0 := by rw [← hh, Bd.state]; rfl
  have N0 := Fr.nil n0
  have pre0 : ∀ t, SP p e below s₁ m 0 #[vr a0s, vi (own_n ix), vr a2c, vr a3c, vi (own_n pn), vi (own_n (pn + 2 + dn)), .unset] [] t → Steps p.tables e below (s₁.setTop (entryFrame m #[(.ref a0s), (.int (own_n ix)), (.ref a2c), (.ref a3c), (.int (own_n pn)), (.int (own_n (pn + 2 + dn)))] 7)) t := fun t k => castTop (ef_rmAt m a0s a2c a3c) k
  have GL' := GL
  obtain ⟨GCS, GCP, GA16, GHI, GLO, GFF, GVF⟩ := GL'
  have h80 : (pn + 2 + dn) ≤ 8 := (by omega)
  have pre2 : ∀ t, SP p e below s₁ m 3 #[vr a0s, vi (own_n ix), vr a2c, vr a3c, vi (own_n pn), vi (own_n (pn + 2 + dn)), .unset] [(.int (own_n (pn + 2 + dn))), (.int (own_n ix))] t → Steps p.tables e below (s₁.setTop (entryFrame m #[(.ref a0s), (.int (own_n ix)), (.ref a2c), (.ref a3c), (.int (own_n pn)), (.int (own_n (pn + 2 + dn)))] 7)) t := fun t kt => by
    refine pre0 t ?_
    show SP p e below s₁ m 0 #[vr a0s, vi (own_n ix), vr a2c, vr a3c, vi (own_n pn), vi (own_n (pn + 2 + dn)), .unset] [] _
    refine XS.iloadN X0.here hx rfl (dG hby D29 0 rfl) rfl ?_
    refine XS.iload X0.here hx rfl (dG hby D29 1 rfl) rfl ?_
    exact kt
  by_cases hc3_1 : (own_n ix) < (own_n (pn + 2 + dn))
  · have pre4 : ∀ t, SP p e below s₁ m 11 #[vr a0s, vi (own_n ix), vr a2c, vr a3c, vi (own_n pn), vi (own_n (pn + 2 + dn)), .unset] [(.int (own_n pn)), (.int (own_n ix))] t → Steps p.tables e below (s₁.setTop (entryFrame m #[(.ref a0s), (.int (own_n ix)), (.ref a2c), (.ref a3c), (.int (own_n pn)), (.int (own_n (pn + 2 + dn)))] 7)) t := fun t kt => by
      refine pre2 t ?_
      show SP p e below s₁ m 3 #[vr a0s, vi (own_n ix), vr a2c, vr a3c, vi (own_n pn), vi (own_n (pn + 2 + dn)), .unset] [(.int (own_n (pn + 2 + dn))), (.int (own_n ix))] _
      refine XS.icmpYes X0.here hx rfl (pc0 := 3) (pc' := 8) rfl (dG hby D29 2 rfl) rfl (tlt hc3_1).1 (by decide) (by decide) ?_
      refine XS.iloadN X0.here hx rfl (dG hby D29 3 rfl) rfl ?_
      refine XS.iload X0.here hx rfl (dG hby D29 4 rfl) rfl ?_
      exact kt
    by_cases hc11_3 : (own_n ix) < (own_n pn)
    · have hlt_ : ix < pn + 2 + dn := own_ml (by omega) (by omega) hc3_1
      have hin_ : ix < pn := own_ml (by omega) (by omega) hc11_3
      have hb1 : (own_n ix) < (3 : Int32) := ((own_n_lt (b := 3) (by omega) (by omega)).mpr (by omega))
      obtain ⟨cl5, Ar5, -, S5, N5_, H5, G5⟩ := id (V_a2c)
      have hin5 : ¬ ((own_n ix) < 0 ∨ cl5.slots.size ≤ ((own_n ix)).toNatClampNeg) := inb_of S5 ⟨(own_n_nn (by omega)), hc11_3⟩
      have hat5 : cl5.slots[((own_n ix)).toNatClampNeg]? = some (.int (own_f3 x0 x1 x2 ix)) := H5.at hin5 (by rw [own_n_nat (by omega)]; exact (hcx ix hin_).2)
      have hixp_ : ix < (pn + 2 + dn) := hlt_
      obtain ⟨cq6, kq6, q6a, q6b, q6c⟩ := isOf hZ e0 E_a0s
      obtain ⟨_, _, ⟨T6, L6, k6, n6⟩, -, X6, ⟨Lc6, hQ6, l6, y6, z6⟩, st6⟩ := X0.virtualBack hx (y := MN_10) (z := MN_10) hown (mvT hZ (Wd hw 164 rfl)) (mvT hZ (Wd hw 165 rfl)) (notFace_of_selects (args := #[]) (mvT hZ (Wd hw 167 rfl))) (mvT hZ (Wd hw 167 rfl)) (mvT hZ (Wd hw 166 rfl)) (by decide) (backOf (W := 0) (rmChG l Z a0 hw [] cS vF a0s rv rk rc rl rs ((pn + 2 + dn)) ((own_all pn (own_f3 x0 x1 x2) (own_f3 z0 z1 z2))) ix h0 n0 O0 GL E_a0s F_value_a0s F_coder_a0s V_rv hrx hixp_ h80) hZ (Wd hw 168 rfl) (Wd hw 11 rfl) (by decide) (by decide)) q6a q6c (g := mkF m 62 #[vr a0s, vi (own_n ix), vr a2c, vr a3c, vi (own_n pn), vi (own_n (pn + 2 + dn)), vi (own_f3 x0 x1 x2 ix)] [(.int (own_n ix)), (.ref a0s)]) rfl (by rw [hml]; rfl) (Steps.refl _) (argsL := [(.int (own_n ix))]) (rest := []) (lenOf pdv32 rfl) rfl (by show 2 * 0 + _ ≤ _; exact lEq rfl) (dG hby D29 13 rfl) (fun _ _ => ⟨rfl, e0, (by decide : 0 + 0 ≤ _), (by decide : 0 + 0 ≤ _)⟩)
      dsimp only [Pt.U, Pt.locs, Pt.cells, Pt.slots] at X6 l6 y6 z6 st6 hQ6
      subst l6 y6 z6
      obtain ⟨rfl, N6q, e6⟩ := hQ6
      have N6 := Fr.app N0 N6q
      have heq_ : ((own_all pn (own_f3 x0 x1 x2) (own_f3 z0 z1 z2)) ix) = (own_f3 x0 x1 x2 ix) := own_all_p hin_
      obtain ⟨fs, hr, hrun, hended, hW, hsame⟩ := X6.leave (v := some (.int 1)) (fun h => by rw [Bd.returns] at h; cases h)
      refine ⟨_, _, pre4 _ ?_, hrun, hended, _, _, rfl, ?_, ⟨_, rfl⟩, hW, hsame.mono (by decide) (by decide)⟩
      · show SP p e below s₁ m 11 #[vr a0s, vi (own_n ix), vr a2c, vr a3c, vi (own_n pn), vi (own_n (pn + 2 + dn)), .unset] [(.int (own_n pn)), (.int (own_n ix))] _
        refine XS.icmpNo X0.here hx rfl (dG hby D29 5 rfl) rfl (tlt hc11_3).2.1 ?_
        refine XS.aloadN X0.here hx rfl (dG hby D29 6 rfl) rfl rfl ?_
        refine XS.iloadN X0.here hx rfl (dG hby D29 7 rfl) rfl ?_
        show SP p e below s₁ m 16 #[vr a0s, vi (own_n ix), vr a2c, vr a3c, vi (own_n pn), vi (own_n (pn + 2 + dn)), .unset] [(.int (own_n ix)), (.ref a2c)] _
        refine X0.caload hx (j := (own_n ix)) (v := (.int (own_f3 x0 x1 x2 ix))) (by rw [e0]; exact Ar5.1) (State.isArrayOf_alike hZ.alike Ar5.2.1) Ar5.2.2 hin5 hat5 (g := mkF m 16 #[vr a0s, vi (own_n ix), vr a2c, vr a3c, vi (own_n pn), vi (own_n (pn + 2 + dn)), .unset] [(.int (own_n ix)), (.ref a2c)]) rfl rfl (dG hby D29 8 rfl) _ ?_
        show SP p e below s₁ m 17 #[vr a0s, vi (own_n ix), vr a2c, vr a3c, vi (own_n pn), vi (own_n (pn + 2 + dn)), .unset] [(.int (own_f3 x0 x1 x2 ix))] _
        refine XS.istore X0.here hx rfl (dG hby D29 9 rfl) rfl (l' := #[vr a0s, vi (own_n ix), vr a2c, vr a3c, vi (own_n pn), vi (own_n (pn + 2 + dn)), vi (own_f3 x0 x1 x2 ix)]) rfl ?_
        refine XS.goto X0.here hx rfl (pc0 := 19) (pc' := 60) rfl (dG hby D29 10 rfl) (by decide) (by decide) ?_
        refine XS.aloadN X0.here hx rfl (dG hby D29 11 rfl) rfl rfl ?_
        refine XS.iloadN X0.here hx rfl (dG hby D29 12 rfl) rfl ?_
        show SP p e below s₁ m 62 #[vr a0s, vi (own_n ix), vr a2c, vr a3c, vi (own_n pn), vi (own_n (pn + 2 + dn)), vi (own_f3 x0 x1 x2 ix)] [(.int (own_n ix)), (.ref a0s)] _
        refine st6.trans ?_
        show SP p e below T6 m 65 #[vr a0s, vi (own_n ix), vr a2c, vr a3c, vi (own_n pn), vi (own_n (pn + 2 + dn)), vi (own_f3 x0 x1 x2 ix)] [(.int ((own_all pn (own_f3 x0 x1 x2) (own_f3 z0 z1 z2)) ix))] _
        refine XS.iload X6.here hx rfl (dG hby D29 14 rfl) rfl ?_
        refine XS.icmpNo X6.here hx rfl (dG hby D29 15 rfl) rfl (teq heq_).2 ?_
        refine XS.iconst X6.here hx rfl (dG hby D29 16 rfl) ?_
        refine XS.goto X6.here hx rfl (pc0 := 71) (pc' := 75) rfl (dG hby D29 17 rfl) (by decide) (by decide) ?_
        show SP p e below T6 m 75 #[vr a0s, vi (own_n ix), vr a2c, vr a3c, vi (own_n pn), vi (own_n (pn + 2 + dn)), vi (own_f3 x0 x1 x2 ix)] [(.int 1)] _
        exact retN X6 hx (t := .boolean) Bd.returns (by simp) (dG hby D29 18 rfl) hr
      · show Q_rmAt n0 Z cS vF a0s a2c a3c cs ds rv rk rc rl rs kc kd pn dn ix x0 x1 x2 z0 z1 z2 h0 _ T6.heap _
        rw [e6]
        exact ⟨rfl, N6, rfl⟩
    · have pre8 : ∀ t, SP p e below s₁ m 25 #[vr a0s, vi (own_n ix), vr a2c, vr a3c, vi (own_n pn), vi (own_n (pn + 2 + dn)), .unset] [(.int (own_n pn)), (.int (own_n ix))] t → Steps p.tables e below (s₁.setTop (entryFrame m #[(.ref a0s), (.int (own_n ix)), (.ref a2c), (.ref a3c), (.int (own_n pn)), (.int (own_n (pn + 2 + dn)))] 7)) t := fun t kt => by
        refine pre4 t ?_
        show SP p e below s₁ m 11 #[vr a0s, vi (own_n ix), vr a2c, vr a3c, vi (own_n pn), vi (own_n (pn + 2 + dn)), .unset] [(.int (own_n pn)), (.int (own_n ix))] _
        refine XS.icmpYes X0.here hx rfl (pc0 := 11) (pc' := 22) rfl (dG hby D29 5 rfl) rfl (flt hc11_3).2.1 (by decide) (by decide) ?_
        refine XS.iloadN X0.here hx rfl (dG hby D29 19 rfl) rfl ?_
        refine XS.iload X0.here hx rfl (dG hby D29 20 rfl) rfl ?_
        exact kt
      by_cases hc25_7 : (own_n ix) = (own_n pn)
      · have hlt_ : ix < pn + 2 + dn := own_ml (by omega) (by omega) hc3_1
        have hge_ : pn ≤ ix := own_mm (by omega) (by omega) hc11_3
        have hq_ : ix = pn := (own_n_eq (by omega) (by omega)).mp hc25_7
        have hixp_ : ix < (pn + 2 + dn) := hlt_
        obtain ⟨cq9, kq9, q9a, q9b, q9c⟩ := isOf hZ e0 E_a0s
        obtain ⟨_, _, ⟨T9, L9, k9, n9⟩, -, X9, ⟨Lc9, hQ9, l9, y9, z9⟩, st9⟩ := X0.virtualBack hx (y := MN_10) (z := MN_10) hown (mvT hZ (Wd hw 164 rfl)) (mvT hZ (Wd hw 165 rfl)) (notFace_of_selects (args := #[]) (mvT hZ (Wd hw 167 rfl))) (mvT hZ (Wd hw 167 rfl)) (mvT hZ (Wd hw 166 rfl)) (by decide) (backOf (W := 0) (rmChG l Z a0 hw [] cS vF a0s rv rk rc rl rs ((pn + 2 + dn)) ((own_all pn (own_f3 x0 x1 x2) (own_f3 z0 z1 z2))) ix h0 n0 O0 GL E_a0s F_value_a0s F_coder_a0s V_rv hrx hixp_ h80) hZ (Wd hw 168 rfl) (Wd hw 11 rfl) (by decide) (by decide)) q9a q9c (g := mkF m 62 #[vr a0s, vi (own_n ix), vr a2c, vr a3c, vi (own_n pn), vi (own_n (pn + 2 + dn)), vi (58 : Int32)] [(.int (own_n ix)), (.ref a0s)]) rfl (by rw [hml]; rfl) (Steps.refl _) (argsL := [(.int (own_n ix))]) (rest := []) (lenOf pdv32 rfl) rfl (by show 2 * 0 + _ ≤ _; exact lEq rfl) (dG hby D29 13 rfl) (fun _ _ => ⟨rfl, e0, (by decide : 0 + 0 ≤ _), (by decide : 0 + 0 ≤ _)⟩)
        dsimp only [Pt.U, Pt.locs, Pt.cells, Pt.slots] at X9 l9 y9 z9 st9 hQ9
        subst l9 y9 z9
        obtain ⟨rfl, N9q, e9⟩ := hQ9
        have N9 := Fr.app N0 N9q
        have heq_ : ((own_all pn (own_f3 x0 x1 x2) (own_f3 z0 z1 z2)) ix) = (58 : Int32) := own_all_c hq_
        obtain ⟨fs, hr, hrun, hended, hW, hsame⟩ := X9.leave (v := some (.int 1)) (fun h => by rw [Bd.returns] at h; cases h)
        refine ⟨_, _, pre8 _ ?_, hrun, hended, _, _, rfl, ?_, ⟨_, rfl⟩, hW, hsame.mono (by decide) (by decide)⟩
        · show SP p e below s₁ m 25 #[vr a0s, vi (own_n ix), vr a2c, vr a3c, vi (own_n pn), vi (own_n (pn + 2 + dn)), .unset] [(.int (own_n pn)), (.int (own_n ix))] _
          refine XS.icmpNo X0.here hx rfl (dG hby D29 21 rfl) rfl (teq hc25_7).2 ?_
          refine XS.bipush X0.here hx rfl (dG hby D29 22 rfl) ?_
          refine XS.istore X0.here hx rfl (dG hby D29 23 rfl) rfl (l' := #[vr a0s, vi (own_n ix), vr a2c, vr a3c, vi (own_n pn), vi (own_n (pn + 2 + dn)), vi (58 : Int32)]) rfl ?_
          refine XS.goto X0.here hx rfl (pc0 := 32) (pc' := 60) rfl (dG hby D29 24 rfl) (by decide) (by decide) ?_
          refine XS.aloadN X0.here hx rfl (dG hby D29 11 rfl) rfl rfl ?_
          refine XS.iloadN X0.here hx rfl (dG hby D29 12 rfl) rfl ?_
          show SP p e below s₁ m 62 #[vr a0s, vi (own_n ix), vr a2c, vr a3c, vi (own_n pn), vi (own_n (pn + 2 + dn)), vi (58 : Int32)] [(.int (own_n ix)), (.ref a0s)] _
          refine st9.trans ?_
          show SP p e below T9 m 65 #[vr a0s, vi (own_n ix), vr a2c, vr a3c, vi (own_n pn), vi (own_n (pn + 2 + dn)), vi (58 : Int32)] [(.int ((own_all pn (own_f3 x0 x1 x2) (own_f3 z0 z1 z2)) ix))] _
          refine XS.iload X9.here hx rfl (dG hby D29 14 rfl) rfl ?_
          refine XS.icmpNo X9.here hx rfl (dG hby D29 15 rfl) rfl (teq heq_).2 ?_
          refine XS.iconst X9.here hx rfl (dG hby D29 16 rfl) ?_
          refine XS.goto X9.here hx rfl (pc0 := 71) (pc' := 75) rfl (dG hby D29 17 rfl) (by decide) (by decide) ?_
          show SP p e below T9 m 75 #[vr a0s, vi (own_n ix), vr a2c, vr a3c, vi (own_n pn), vi (own_n (pn + 2 + dn)), vi (58 : Int32)] [(.int 1)] _
          exact retN X9 hx (t := .boolean) Bd.returns (by simp) (dG hby D29 18 rfl) hr
        · show Q_rmAt n0 Z cS vF a0s a2c a3c cs ds rv rk rc rl rs kc kd pn dn ix x0 x1 x2 z0 z1 z2 h0 _ T9.heap _
          rw [e9]
          exact ⟨rfl, N9, rfl⟩
      · have pre11 : ∀ t, SP p e below s₁ m 40 #[vr a0s, vi (own_n ix), vr a2c, vr a3c, vi (own_n pn), vi (own_n (pn + 2 + dn)), .unset] [(.int (own_n (pn + 1))), (.int (own_n ix))] t → Steps p.tables e below (s₁.setTop (entryFrame m #[(.ref a0s), (.int (own_n ix)), (.ref a2c), (.ref a3c), (.int (own_n pn)), (.int (own_n (pn + 2 + dn)))] 7)) t := fun t kt => by
          refine pre8 t ?_
          show SP p e below s₁ m 25 #[vr a0s, vi (own_n ix), vr a2c, vr a3c, vi (own_n pn), vi (own_n (pn + 2 + dn)), .unset] [(.int (own_n pn)), (.int (own_n ix))] _
          refine XS.icmpYes X0.here hx rfl (pc0 := 25) (pc' := 35) rfl (dG hby D29 21 rfl) rfl (feq hc25_7).2 (by decide) (by decide) ?_
          refine XS.iloadN X0.here hx rfl (dG hby D29 25 rfl) rfl ?_
          refine XS.iload X0.here hx rfl (dG hby D29 26 rfl) rfl ?_
          refine XS.iconst X0.here hx rfl (dG hby D29 27 rfl) ?_
          show SP p e below s₁ m 39 #[vr a0s, vi (own_n ix), vr a2c, vr a3c, vi (own_n pn), vi (own_n (pn + 2 + dn)), .unset] [(.int 1), (.int (own_n pn)), (.int (own_n ix))] _
          refine XS.iadd X0.here hx rfl (dG hby D29 28 rfl) rfl ?_
          rw [own_n_add1 pn]
          exact kt
        by_cases hc40_10 : (own_n ix) = (own_n (pn + 1))
        · have hlt_ : ix < pn + 2 + dn := own_ml (by omega) (by omega) hc3_1
          have hge_ : pn ≤ ix := own_mm (by omega) (by omega) hc11_3
          have hnq_ : ¬ (ix = pn) := fun z => hc25_7 ((own_n_eq (by omega) (by omega)).mpr z)
          have hq1_ : ix = pn + 1 := (own_n_eq (by omega) (by omega)).mp hc40_10
          have hixp_ : ix < (pn + 2 + dn) := hlt_
          obtain ⟨cq12, kq12, q12a, q12b, q12c⟩ := isOf hZ e0 E_a0s
          obtain ⟨_, _, ⟨T12, L12, k12, n12⟩, -, X12, ⟨Lc12, hQ12, l12, y12, z12⟩, st12⟩ := X0.virtualBack hx (y := MN_10) (z := MN_10) hown (mvT hZ (Wd hw 164 rfl)) (mvT hZ (Wd hw 165 rfl)) (notFace_of_selects (args := #[]) (mvT hZ (Wd hw 167 rfl))) (mvT hZ (Wd hw 167 rfl)) (mvT hZ (Wd hw 166 rfl)) (by decide) (backOf (W := 0) (rmChG l Z a0 hw [] cS vF a0s rv rk rc rl rs ((pn + 2 + dn)) ((own_all pn (own_f3 x0 x1 x2) (own_f3 z0 z1 z2))) ix h0 n0 O0 GL E_a0s F_value_a0s F_coder_a0s V_rv hrx hixp_ h80) hZ (Wd hw 168 rfl) (Wd hw 11 rfl) (by decide) (by decide)) q12a q12c (g := mkF m 62 #[vr a0s, vi (own_n ix), vr a2c, vr a3c, vi (own_n pn), vi (own_n (pn + 2 + dn)), vi (32 : Int32)] [(.int (own_n ix)), (.ref a0s)]) rfl (by rw [hml]; rfl) (Steps.refl _) (argsL := [(.int (own_n ix))]) (rest := []) (lenOf pdv32 rfl) rfl (by show 2 * 0 + _ ≤ _; exact lEq rfl) (dG hby D29 13 rfl) (fun _ _ => ⟨rfl, e0, (by decide : 0 + 0 ≤ _), (by decide : 0 + 0 ≤ _)⟩)
          dsimp only [Pt.U, Pt.locs, Pt.cells, Pt.slots] at X12 l12 y12 z12 st12 hQ12
          subst l12 y12 z12
          obtain ⟨rfl, N12q, e12⟩ := hQ12
          have N12 := Fr.app N0 N12q
          have heq_ : ((own_all pn (own_f3 x0 x1 x2) (own_f3 z0 z1 z2)) ix) = (32 : Int32) := own_all_s hq1_
          obtain ⟨fs, hr, hrun, hended, hW, hsame⟩ := X12.leave (v := some (.int 1)) (fun h => by rw [Bd.returns] at h; cases h)
          refine ⟨_, _, pre11 _ ?_, hrun, hended, _, _, rfl, ?_, ⟨_, rfl⟩, hW, hsame.mono (by decide) (by decide)⟩
          · show SP p e below s₁ m 40 #[vr a0s, vi (own_n ix), vr a2c, vr a3c, vi (own_n pn), vi (own_n (pn + 2 + dn)), .unset] [(.int (own_n (pn + 1))), (.int (own_n ix))] _
            refine XS.icmpNo X0.here hx rfl (dG hby D29 29 rfl) rfl (teq hc40_10).2 ?_
            refine XS.bipush X0.here hx rfl (dG hby D29 30 rfl) ?_
            refine XS.istore X0.here hx rfl (dG hby D29 31 rfl) rfl (l' := #[vr a0s, vi (own_n ix), vr a2c, vr a3c, vi (own_n pn), vi (own_n (pn + 2 + dn)), vi (32 : Int32)]) rfl ?_
            refine XS.goto X0.here hx rfl (pc0 := 47) (pc' := 60) rfl (dG hby D29 32 rfl) (by decide) (by decide) ?_
            refine XS.aloadN X0.here hx rfl (dG hby D29 11 rfl) rfl rfl ?_
            refine XS.iloadN X0.here hx rfl (dG hby D29 12 rfl) rfl ?_
            show SP p e below s₁ m 62 #[vr a0s, vi (own_n ix), vr a2c, vr a3c, vi (own_n pn), vi (own_n (pn + 2 + dn)), vi (32 : Int32)] [(.int (own_n ix)), (.ref a0s)] _
            refine st12.trans ?_
            show SP p e below T12 m 65 #[vr a0s, vi (own_n ix), vr a2c, vr a3c, vi (own_n pn), vi (own_n (pn + 2 + dn)), vi (32 : Int32)] [(.int ((own_all pn (own_f3 x0 x1 x2) (own_f3 z0 z1 z2)) ix))] _
            refine XS.iload X12.here hx rfl (dG hby D29 14 rfl) rfl ?_
            refine XS.icmpNo X12.here hx rfl (dG hby D29 15 rfl) rfl (teq heq_).2 ?_
            refine XS.iconst X12.here hx rfl (dG hby D29 16 rfl) ?_
            refine XS.goto X12.here hx rfl (pc0 := 71) (pc' := 75) rfl (dG hby D29 17 rfl) (by decide) (by decide) ?_
            show SP p e below T12 m 75 #[vr a0s, vi (own_n ix), vr a2c, vr a3c, vi (own_n pn), vi (own_n (pn + 2 + dn)), vi (32 : Int32)] [(.int 1)] _
            exact retN X12 hx (t := .boolean) Bd.returns (by simp) (dG hby D29 18 rfl) hr
          · show Q_rmAt n0 Z cS vF a0s a2c a3c cs ds rv rk rc rl rs kc kd pn dn ix x0 x1 x2 z0 z1 z2 h0 _ T12.heap _
            rw [e12]
            exact ⟨rfl, N12, rfl⟩
        · have hlt_ : ix < pn + 2 + dn := own_ml (by omega) (by omega) hc3_1
          have hge_ : pn ≤ ix := own_mm (by omega) (by omega) hc11_3
          have hnq_ : ¬ (ix = pn) := fun z => hc25_7 ((own_n_eq (by omega) (by omega)).mpr z)
          have hnq1_ : ¬ (ix = pn + 1) := fun z => hc40_10 ((own_n_eq (by omega) (by omega)).mpr z)
          have hb2 : ¬ ((((own_n ix) - (own_n pn)) - (2 : Int32)) < (0 : Int32)) := (own_ix0 (by omega) (by omega))
          have hb3 : (((own_n ix) - (own_n pn)) - (2 : Int32)) < (own_n dn) := (own_ixd (by omega) (by omega) (by omega) (by omega))
          obtain ⟨cl13, Ar13, -, S13, N13_, H13, G13⟩ := id (V_a3c)
          have hin13 : ¬ ((((own_n ix) - (own_n pn)) - (2 : Int32)) < 0 ∨ cl13.slots.size ≤ ((((own_n ix) - (own_n pn)) - (2 : Int32))).toNatClampNeg) := inb_of S13 ⟨hb2, hb3⟩
          have hat13 : cl13.slots[((((own_n ix) - (own_n pn)) - (2 : Int32))).toNatClampNeg]? = some (.int (own_f3 z0 z1 z2 (ix - pn - 2))) := H13.at hin13 (by rw [own_ix (by omega) (by omega)]; exact (hdx (ix - pn - 2) (by omega)).2)
          have hixp_ : ix < (pn + 2 + dn) := hlt_
          obtain ⟨cq14, kq14, q14a, q14b, q14c⟩ := isOf hZ e0 E_a0s
          obtain ⟨_, _, ⟨T14, L14, k14, n14⟩, -, X14, ⟨Lc14, hQ14, l14, y14, z14⟩, st14⟩ := X0.virtualBack hx (y := MN_10) (z := MN_10) hown (mvT hZ (Wd hw 164 rfl)) (mvT hZ (Wd hw 165 rfl)) (notFace_of_selects (args := #[]) (mvT hZ (Wd hw 167 rfl))) (mvT hZ (Wd hw 167 rfl)) (mvT hZ (Wd hw 166 rfl)) (by decide) (backOf (W := 0) (rmChG l Z a0 hw [] cS vF a0s rv rk rc rl rs ((pn + 2 + dn)) ((own_all pn (own_f3 x0 x1 x2) (own_f3 z0 z1 z2))) ix h0 n0 O0 GL E_a0s F_value_a0s F_coder_a0s V_rv hrx hixp_ h80) hZ (Wd hw 168 rfl) (Wd hw 11 rfl) (by decide) (by decide)) q14a q14c (g := mkF m 62 #[vr a0s, vi (own_n ix), vr a2c, vr a3c, vi (own_n pn), vi (own_n (pn + 2 + dn)), vi (own_f3 z0 z1 z2 (ix - pn - 2))] [(.int (own_n ix)), (.ref a0s)]) rfl (by rw [hml]; rfl) (Steps.refl _) (argsL := [(.int (own_n ix))]) (rest := []) (lenOf pdv32 rfl) rfl (by show 2 * 0 + _ ≤ _; exact lEq rfl) (dG hby D29 13 rfl) (fun _ _ => ⟨rfl, e0, (by decide : 0 + 0 ≤ _), (by decide : 0 + 0 ≤ _)⟩)
          dsimp only [Pt.U, Pt.locs, Pt.cells, Pt.slots] at X14 l14 y14 z14 st14 hQ14
          subst l14 y14 z14
          obtain ⟨rfl, N14q, e14⟩ := hQ14
          have N14 := Fr.app N0 N14q
          have heq_ : ((own_all pn (own_f3 x0 x1 x2) (own_f3 z0 z1 z2)) ix) = (own_f3 z0 z1 z2 (ix - pn - 2)) := own_all_d (by omega)
          obtain ⟨fs, hr, hrun, hended, hW, hsame⟩ := X14.leave (v := some (.int 1)) (fun h => by rw [Bd.returns] at h; cases h)
          refine ⟨_, _, pre11 _ ?_, hrun, hended, _, _, rfl, ?_, ⟨_, rfl⟩, hW, hsame.mono (by decide) (by decide)⟩
          · show SP p e below s₁ m 40 #[vr a0s, vi (own_n ix), vr a2c, vr a3c, vi (own_n pn), vi (own_n (pn + 2 + dn)), .unset] [(.int (own_n (pn + 1))), (.int (own_n ix))] _
            refine XS.icmpYes X0.here hx rfl (pc0 := 40) (pc' := 50) rfl (dG hby D29 29 rfl) rfl (feq hc40_10).2 (by decide) (by decide) ?_
            refine XS.aloadN X0.here hx rfl (dG hby D29 33 rfl) rfl rfl ?_
            refine XS.iloadN X0.here hx rfl (dG hby D29 34 rfl) rfl ?_
            refine XS.iload X0.here hx rfl (dG hby D29 35 rfl) rfl ?_
            refine XS.isub X0.here hx rfl (dG hby D29 36 rfl) rfl ?_
            refine XS.iconst X0.here hx rfl (dG hby D29 37 rfl) ?_
            refine XS.isub X0.here hx rfl (dG hby D29 38 rfl) rfl ?_
            show SP p e below s₁ m 57 #[vr a0s, vi (own_n ix), vr a2c, vr a3c, vi (own_n pn), vi (own_n (pn + 2 + dn)), .unset] [(.int (((own_n ix) - (own_n pn)) - (2 : Int32))), (.ref a3c)] _
            refine X0.caload hx (j := (((own_n ix) - (own_n pn)) - (2 : Int32))) (v := (.int (own_f3 z0 z1 z2 (ix - pn - 2)))) (by rw [e0]; exact Ar13.1) (State.isArrayOf_alike hZ.alike Ar13.2.1) Ar13.2.2 hin13 hat13 (g := mkF m 57 #[vr a0s, vi (own_n ix), vr a2c, vr a3c, vi (own_n pn), vi (own_n (pn + 2 + dn)), .unset] [(.int (((own_n ix) - (own_n pn)) - (2 : Int32))), (.ref a3c)]) rfl rfl (dG hby D29 39 rfl) _ ?_
            show SP p e below s₁ m 58 #[vr a0s, vi (own_n ix), vr a2c, vr a3c, vi (own_n pn), vi (own_n (pn + 2 + dn)), .unset] [(.int (own_f3 z0 z1 z2 (ix - pn - 2)))] _
            refine XS.istore X0.here hx rfl (dG hby D29 40 rfl) rfl (l' := #[vr a0s, vi (own_n ix), vr a2c, vr a3c, vi (own_n pn), vi (own_n (pn + 2 + dn)), vi (own_f3 z0 z1 z2 (ix - pn - 2))]) rfl ?_
            refine XS.aloadN X0.here hx rfl (dG hby D29 11 rfl) rfl rfl ?_
            refine XS.iloadN X0.here hx rfl (dG hby D29 12 rfl) rfl ?_
            show SP p e below s₁ m 62 #[vr a0s, vi (own_n ix), vr a2c, vr a3c, vi (own_n pn), vi (own_n (pn + 2 + dn)), vi (own_f3 z0 z1 z2 (ix - pn - 2))] [(.int (own_n ix)), (.ref a0s)] _
            refine st14.trans ?_
            show SP p e below T14 m 65 #[vr a0s, vi (own_n ix), vr a2c, vr a3c, vi (own_n pn), vi (own_n (pn + 2 + dn)), vi (own_f3 z0 z1 z2 (ix - pn - 2))] [(.int ((own_all pn (own_f3 x0 x1 x2) (own_f3 z0 z1 z2)) ix))] _
            refine XS.iload X14.here hx rfl (dG hby D29 14 rfl) rfl ?_
            refine XS.icmpNo X14.here hx rfl (dG hby D29 15 rfl) rfl (teq heq_).2 ?_
            refine XS.iconst X14.here hx rfl (dG hby D29 16 rfl) ?_
            refine XS.goto X14.here hx rfl (pc0 := 71) (pc' := 75) rfl (dG hby D29 17 rfl) (by decide) (by decide) ?_
            show SP p e below T14 m 75 #[vr a0s, vi (own_n ix), vr a2c, vr a3c, vi (own_n pn), vi (own_n (pn + 2 + dn)), vi (own_f3 z0 z1 z2 (ix - pn - 2))] [(.int 1)] _
            exact retN X14 hx (t := .boolean) Bd.returns (by simp) (dG hby D29 18 rfl) hr
          · show Q_rmAt n0 Z cS vF a0s a2c a3c cs ds rv rk rc rl rs kc kd pn dn ix x0 x1 x2 z0 z1 z2 h0 _ T14.heap _
            rw [e14]
            exact ⟨rfl, N14, rfl⟩
  · obtain ⟨fs, hr, hrun, hended, hW, hsame⟩ := X0.leave (v := some (.int 1)) (fun h => by rw [Bd.returns] at h; cases h)
    refine ⟨_, _, pre2 _ ?_, hrun, hended, _, _, rfl, ?_, ⟨_, rfl⟩, hW, hsame.mono (by decide) (by decide)⟩
    · show SP p e below s₁ m 3 #[vr a0s, vi (own_n ix), vr a2c, vr a3c, vi (own_n pn), vi (own_n (pn + 2 + dn)), .unset] [(.int (own_n (pn + 2 + dn))), (.int (own_n ix))] _
      refine XS.icmpNo X0.here hx rfl (dG hby D29 2 rfl) rfl (flt hc3_1).1 ?_
      refine XS.iconst X0.here hx rfl (dG hby D29 41 rfl) ?_
      show SP p e below s₁ m 7 #[vr a0s, vi (own_n ix), vr a2c, vr a3c, vi (own_n pn), vi (own_n (pn + 2 + dn)), .unset] [(.int 1)] _
      exact retN X0 hx (t := .boolean) Bd.returns (by simp) (dG hby D29 42 rfl) hr
    · show Q_rmAt n0 Z cS vF a0s a2c a3c cs ds rv rk rc rl rs kc kd pn dn ix x0 x1 x2 z0 z1 z2 h0 _ s₁.heap _
      rw [e0]
      exact ⟨rfl, N0, rfl⟩
theorem pdv33 : parseMethodDescriptor "(ICCC)[C" = some ⟨[.int, .char, .char, .char], some (.array .char)⟩ := by decide +kernel
theorem pdv34 : parseMethodDescriptor "([C)V" = some ⟨[(.array .char)], none⟩ := by decide +kernel
theorem pdv35 : parseMethodDescriptor "(Ljava/lang/String;Ljava/lang/String;)V" = some ⟨[(.object "java/lang/String"), (.object "java/lang/String")], none⟩ := by decide +kernel
theorem pdv36 : parseMethodDescriptor "(Ljava/lang/String;I[C[CII)Z" = some ⟨[(.object "java/lang/String"), .int, (.array .char), (.array .char), .int, .int], some .boolean⟩ := by decide +kernel
theorem ef_rm0 (m : MethodId) (p0 : Int32) (p1 : Int32) (p2 : Int32) (p3 : Int32) : entryFrame m #[(.int p0), (.int p1), (.int p2), (.int p3)] maxLocals = mkF m 0 #[vi p0, vi p1, vi p2, vi p3, .unset, .unset, .unset, .unset, .unset, .unset] [] := by first | (simp [entryFrame, mkF, argsToLocals, Value.category, maxLocals]; done) | rfl
def Q_rm0 (n0 : Nat) (v : Option Value) (h : Heap) (L : List Loc) : Prop := v = some (.int 1) ∧ Fr n0 L
theorem rm0 (l : Launch) (Z : State) (a0 : Array Value) (hw : ∀ d ∈ tables_1, d.before a0 Z = true) (ws : List Jvm.Cond) (cS : Int32) (vF : Value) (p0 : Int32) (p1 : Int32) (p2 : Int32) (p3 : Int32) (h0 : Heap) (n0 : Nat) (O0 : Old Z n0 h0) (GL : GF Z cS vF) :
    MetFree l x (head1 (Jvm.Cond.code x code maxLocals ret :: ws) room_1) (fun a U => a = #[(.int p0), (.int p1), (.int p2), (.int p3)] ∧ Z.Warmed39 U.vm ∧ U.heap = h0 ∧ CHv Z EL1 U.vm h0) (fun _ _ _ _ _ => True) (fun _ U o U' => ∃ v L, o = .returned v ∧ Q_rm0 n0 v U'.heap L ∧ CHr Z EL1 U.vm U.heap U'.vm U'.heap ∧ ReturnedEndW U o U' L room_1.cells room_1.slots) := by
  refine MetFree.of_bodySF (plainFor_of_name pnv9) hisR ?_
  intro p e s m args below meth c s₁ Bd hml0 hP hK
  obtain ⟨rfl, hZ, hh, H0⟩ := hP
  have hx := Bd.exec
  have hby := Bd.bytes
  have hml : c.maxLocals = 10 := hml0
  have hown : s.vm.findClass "com/example/loomwire/loomwire/manifest/WrittenClauseToStringPinLaw" = some m.cls := findClass_of_methodNamed Bd.named
  have hnm := (name_of_methodNamed Bd.named Bd.method).1
  have X0 : Stand p l e room_1 s m #[(.int p0), (.int p1), (.int p2), (.int p3)] below meth c s₁ [] 0 0 := Stand.of_body Bd
  have e0 : s₁.heap = h0 := by rw [← hh, Bd.state]; rfl
  have N0 := Fr.nil n0
  have pre0 : ∀ t, SP p e below s₁ m 0 #[vi p0, vi p1, vi p2, vi p3, .unset, .unset, .unset, .unset, .unset, .unset] [] t → Steps p.tables e below (s₁.setTop (entryFrame m #[(.int p0), (.int p1), (.int p2), (.int p3)] maxLocals)) t := fun t k => castTop (ef_rm0 m p0 p1 p2 p3) k
  have X0w : Stand p l e room_1 (s.setVm s.vm) m #[(.int p0), (.int p1), (.int p2), (.int p3)] below meth c s₁ [] 0 0 := X0
  have R0 : CHr Z EL1 s.vm h0 s.vm h0 := CHr.refl H0
  have hS0 : s.Since s.vm h0.size := (State.WarmedH.refl s).since _
  have GL' := GL
  obtain ⟨GCS, GCP, GA16, GHI, GLO, GFF, GVF⟩ := GL'
  obtain ⟨pn, hp3, epn⟩ := own_and3 p0
  obtain ⟨dn, hd3, edn⟩ := own_and3 ((p0.toUInt32 >>> ((2 : Int32) &&& 31).toUInt32).toInt32)
  obtain ⟨x0, ex0, nx0⟩ : ∃ z, ((p1 &&& (65535 : Int32)).toUInt32.toUInt16.toUInt32.toInt32) = z ∧ nar .char z = z := ⟨_, rfl, own_nari2c _⟩
  obtain ⟨x1, ex1, nx1⟩ : ∃ z, (((p1.toUInt32 >>> ((16 : Int32) &&& 31).toUInt32).toInt32).toUInt32.toUInt16.toUInt32.toInt32) = z ∧ nar .char z = z := ⟨_, rfl, own_nari2c _⟩
  obtain ⟨x2, ex2, nx2⟩ : ∃ z, ((p2 &&& (65535 : Int32)).toUInt32.toUInt16.toUInt32.toInt32) = z ∧ nar .char z = z := ⟨_, rfl, own_nari2c _⟩
  obtain ⟨z0, ez0, nz0⟩ : ∃ z, (((p2.toUInt32 >>> ((16 : Int32) &&& 31).toUInt32).toInt32).toUInt32.toUInt16.toUInt32.toInt32) = z ∧ nar .char z = z := ⟨_, rfl, own_nari2c _⟩
  obtain ⟨z1, ez1, nz1⟩ : ∃ z, ((p3 &&& (65535 : Int32)).toUInt32.toUInt16.toUInt32.toInt32) = z ∧ nar .char z = z := ⟨_, rfl, own_nari2c _⟩
  obtain ⟨z2, ez2, nz2⟩ : ∃ z, (((p3.toUInt32 >>> ((16 : Int32) &&& 31).toUInt32).toInt32).toUInt32.toUInt16.toUInt32.toInt32) = z ∧ nar .char z = z := ⟨_, rfl, own_nari2c _⟩
  obtain ⟨_, _, ⟨T1, L1, k1, n1⟩, -, X1, ⟨Lc1, hQ1, l1, y1, z1⟩, st1⟩ := Jvm.LawKit.callS X0w hx (y := MN_48) hown (mvT hZ (Wd hw 1 rfl)) (mvT hZ (Wd hw 2 rfl)) (mvT hZ (Wd hw 3 rfl)) (mvT hZ (Wd hw 4 rfl)) (by decide) (backOf (W := 0) (rmMk l Z a0 hw [] cS vF x0 x1 x2 pn h0 n0 O0 GL hp3 nx0 nx1 nx2) hZ (Wd hw 4 rfl) (Wd hw 3 rfl) (by decide) (by decide)) (g := mkF m 29 #[vi p0, vi p1, vi p2, vi p3, vi (own_n pn), vi (own_n dn), .unset, .unset, .unset, .unset] [(.int x2), (.int x1), (.int x0), (.int (own_n pn))]) rfl (by rw [hml]; rfl) (argsL := [(.int (own_n pn)), (.int x0), (.int x1), (.int x2)]) (rest := []) (lenOf pdv33 rfl) rfl (by show 2 * 0 + _ ≤ _; exact lEq rfl) (hb hby at_29) (fun _ _ => ⟨rfl, e0, (by decide : 0 + 1 ≤ _), (by decide : 0 + 3 ≤ _)⟩)
  dsimp only [Pt.U, Pt.locs, Pt.cells, Pt.slots] at X1 l1 y1 z1 st1 hQ1
  subst l1 y1 z1
  obtain ⟨b_1, kb_1, cs_1, rfl, N1q, Kc1, P1_0, P1_1, P1_2, P1_3⟩ := hQ1
  have O1 := O0.keep Kc1 all0
  have H_2 := H0.keep Kc1 sf0
  have R_2 := R0.trans (CHr.keep Kc1 sf0 H0)
  have g_b_1 : n0 ≤ b_1 := lTr (own_sz O0) P1_0
  have N1 := Fr.app N0 N1q
  obtain ⟨_, _, ⟨T3, L3, k3, n3⟩, -, X3, ⟨Lc3, hQ3, l3, y3, z3⟩, st3⟩ := Jvm.LawKit.callS X1 hx (y := MN_48) hown (mvT hZ (Wd hw 1 rfl)) (mvT hZ (Wd hw 2 rfl)) (mvT hZ (Wd hw 3 rfl)) (mvT hZ (Wd hw 4 rfl)) (by decide) (backOf (W := 0) (rmMk l Z a0 hw [] cS vF z0 z1 z2 dn (T1.heap) n0 O1 GL hd3 nz0 nz1 nz2) hZ (Wd hw 4 rfl) (Wd hw 3 rfl) (by decide) (by decide)) (g := mkF m 51 #[vi p0, vi p1, vi p2, vi p3, vi (own_n pn), vi (own_n dn), vr b_1, .unset, .unset, .unset] [(.int z2), (.int z1), (.int z0), (.int (own_n dn))]) rfl (by rw [hml]; rfl) (argsL := [(.int (own_n dn)), (.int z0), (.int z1), (.int z2)]) (rest := []) (lenOf pdv33 rfl) rfl (by show 2 * 0 + _ ≤ _; exact lEq rfl) (hb hby at_51) (fun _ _ => ⟨rfl, rfl, (by decide : 1 + 1 ≤ _), (by decide : 3 + 3 ≤ _)⟩)
  dsimp only [Pt.U, Pt.locs, Pt.cells, Pt.slots] at X3 l3 y3 z3 st3 hQ3
  subst l3 y3 z3
  obtain ⟨b_3, kb_3, cs_3, rfl, N3q, Kc3, P3_0, P3_1, P3_2, P3_3⟩ := hQ3
  have O3 := O1.keep Kc3 all0
  have H_4 := H_2.keep Kc3 sf0
  have R_4 := R_2.trans (CHr.keep Kc3 sf0 H_2)
  have g_b_3 : n0 ≤ b_3 := lTr (own_sz O1) P3_0
  have N3 := Fr.app N1 N3q
  obtain ⟨T5, h5, X5, e5, E5, A5, D5, -, st5⟩ := newO X3 hx hZ hown (Wd hw 6 rfl) (Wd hw 7 rfl) (Wd hw 8 rfl) rfl (g := mkF m 56 #[vi p0, vi p1, vi p2, vi p3, vi (own_n pn), vi (own_n dn), vr b_1, vr b_3, .unset, .unset] []) rfl (hb hby at_56) (by decide) (by decide)
  obtain ⟨b5, g5⟩ : ∃ z, z = T3.heap.size := ⟨_, rfl⟩
  rw [← g5] at A5 D5 st5
  have g_b5 : n0 ≤ b5 := lTr (own_sz O3) (lEq g5.symm)
  have H_6 := H_4.ext E5
  have R_6 := R_4.trans (CHr.ext E5 H_4)
  have O5 := O3.ext E5
  have F_header_b5 : Fld Z h5 b5 "com/example/loomwire/loomwire/manifest/WrittenClause" "header" "Ljava/lang/String;" .null := D5 (Or.inr (Wd hw 40 rfl)) (ty := (.object "java/lang/String")) (by decide)
  have F_text_b5 : Fld Z h5 b5 "com/example/loomwire/loomwire/manifest/WrittenClause" "text" "Ljava/lang/String;" .null := D5 (Or.inr (Wd hw 42 rfl)) (ty := (.object "java/lang/String")) (by decide)
  obtain ⟨T7, h7, X7, e7, E7, A7, D7, -, st7⟩ := newO X5 hx hZ hown (Wd hw 9 rfl) (Wd hw 10 rfl) (Wd hw 11 rfl) e5 (g := mkF m 60 #[vi p0, vi p1, vi p2, vi p3, vi (own_n pn), vi (own_n dn), vr b_1, vr b_3, .unset, .unset] [(.ref b5), (.ref b5)]) rfl (hb hby at_60) (by decide) (by decide)
  obtain ⟨b7, g7⟩ : ∃ z, z = h5.size := ⟨_, rfl⟩
  rw [← g7] at A7 D7 st7
  have g_b7 : n0 ≤ b7 := lTr (own_sz O5) (lEq g7.symm)
  have H_8 := H_6.ext E7
  have R_8 := R_6.trans (CHr.ext E7 H_6)
  have O7 := O5.ext E7
  have F_value_b7 : Fld Z h7 b7 "java/lang/String" "value" "[B" .null := D7 (Or.inr (Wd hw 24 rfl)) (ty := (.array .byte)) (by decide)
  have F_coder_b7 : Fld Z h7 b7 "java/lang/String" "coder" "B" (.int 0) := D7 (Or.inr (Wd hw 25 rfl)) (ty := .byte) (by decide)
  obtain ⟨_, _, ⟨T9, L9, k9, n9⟩, -, X9', hS9', hg9, ⟨Lc9, hQ9, l9, y9, z9, Rs9⟩, st9⟩ := X7.specialBackS hx (y := MN_24) rfl hown (mvT hZ (Wd hw 12 rfl)) (mvT hZ (Wd hw 13 rfl)) (mvT hZ (Wd hw 14 rfl)) (by decide) (backOfSH (W := 3) (rmIc l Z a0 hw [] cS vF b7 b_1 kb_1 cs_1 pn ((own_f3 x0 x1 x2)) h7 n0 O7 GL A7 F_value_b7 F_coder_b7 g_b7 (((P1_2.keep Kc3 nin0).ext E5).ext E7) P1_3 hp3) hZ (Wd hw 14 rfl) (Wd hw 11 rfl) (by decide) (by decide) (own_EW hw) H_8) (g := mkF m 66 #[vi p0, vi p1, vi p2, vi p3, vi (own_n pn), vi (own_n dn), vr b_1, vr b_3, .unset, .unset] [(.ref b_1), (.ref b7), (.ref b7), (.ref b5), (.ref b5)]) rfl (by rw [hml]; rfl) (Steps.refl _) (a := b7) (argsL := [(.ref b_1)]) (rest := [(.ref b7), (.ref b5), (.ref b5)]) (lenOf pdv34 rfl) rfl (by show 2 * 0 + _ ≤ _; exact lEq rfl) (hb hby at_66) (fun _ _ => ⟨rfl, e7, (by decide : 4 + 4 ≤ _), (by decide : 12 + 40 ≤ _)⟩)
  dsimp only [Pt.U, Pt.locs, Pt.cells, Pt.slots] at X9' l9 y9 z9 st9 hQ9 hS9' hg9 Rs9
  subst l9 y9 z9
  obtain ⟨X9, hS9, hZ9, hown9⟩ := rebS hS0 (by rw [e7]; exact (lTr (lTr (lTr (lTr (Nat.le_refl _) Kc1.1) Kc3.1) E5.1) E7.1)) X9' hS9' hg9 hZ hown
  obtain ⟨tv_9, tk_9, tc_9, tl_9, ts_9, rfl, N9q, Kc9, P9_0, P9_1, P9_2, P9_3, P9_4⟩ := hQ9
  have O9 := O7.keep Kc9 (allS g_b7 all0)
  have H_10 := Rs9.1
  have R_10 := R_8.trans Rs9
  have N9 := Fr.app N3 N9q
  obtain ⟨T11, h11, X11, e11, E11, A11, D11, -, st11⟩ := newO X9 hx hZ9 hown9 (Wd hw 9 rfl) (Wd hw 10 rfl) (Wd hw 11 rfl) rfl (g := mkF m 69 #[vi p0, vi p1, vi p2, vi p3, vi (own_n pn), vi (own_n dn), vr b_1, vr b_3, .unset, .unset] [(.ref b7), (.ref b5), (.ref b5)]) rfl (hb hby at_69) (by decide) (by decide)
  obtain ⟨b11, g11⟩ : ∃ z, z = T9.heap.size := ⟨_, rfl⟩
  rw [← g11] at A11 D11 st11
  have g_b11 : n0 ≤ b11 := lTr (own_sz O9) (lEq g11.symm)
  have H_12 := H_10.ext E11
  have R_12 := R_10.trans (CHr.ext E11 H_10)
  have O11 := O9.ext E11
  have F_value_b11 : Fld Z h11 b11 "java/lang/String" "value" "[B" .null := D11 (Or.inr (Wd hw 24 rfl)) (ty := (.array .byte)) (by decide)
  have F_coder_b11 : Fld Z h11 b11 "java/lang/String" "coder" "B" (.int 0) := D11 (Or.inr (Wd hw 25 rfl)) (ty := .byte) (by decide)
  obtain ⟨_, _, ⟨T13, L13, k13, n13⟩, -, X13', hS13', hg13, ⟨Lc13, hQ13, l13, y13, z13, Rs13⟩, st13⟩ := X11.specialBackS hx (y := MN_24) rfl hown9 (mvT hZ9 (Wd hw 12 rfl)) (mvT hZ9 (Wd hw 13 rfl)) (mvT hZ9 (Wd hw 14 rfl)) (by decide) (backOfSH (W := 4) (rmIc l Z a0 hw [] cS vF b11 b_3 kb_3 cs_3 dn ((own_f3 z0 z1 z2)) h11 n0 O11 GL A11 F_value_b11 F_coder_b11 g_b11 ((((P3_2.ext E5).ext E7).keep Kc9 (ninS (nLt (lLt (lLt P3_1.lt E5.1) (lEq g7.symm))) nin0)).ext E11) P3_3 hd3) hZ9 (Wd hw 14 rfl) (Wd hw 11 rfl) (by decide) (by decide) (own_EW hw) H_12) (g := mkF m 75 #[vi p0, vi p1, vi p2, vi p3, vi (own_n pn), vi (own_n dn), vr b_1, vr b_3, .unset, .unset] [(.ref b_3), (.ref b11), (.ref b11), (.ref b7), (.ref b5), (.ref b5)]) rfl (by rw [hml]; rfl) (Steps.refl _) (a := b11) (argsL := [(.ref b_3)]) (rest := [(.ref b11), (.ref b7), (.ref b5), (.ref b5)]) (lenOf pdv34 rfl) rfl (by show 2 * 0 + _ ≤ _; exact lEq rfl) (hb hby at_75) (fun _ _ => ⟨rfl, e11, (by decide : 9 + 4 ≤ _), (by decide : 56 + 40 ≤ _)⟩)
  dsimp only [Pt.U, Pt.locs, Pt.cells, Pt.slots] at X13' l13 y13 z13 st13 hQ13 hS13' hg13 Rs13
  subst l13 y13 z13
  obtain ⟨X13, hS13, hZ13, hown13⟩ := rebS hS9 (by rw [e11]; exact (lTr (Nat.le_refl _) E11.1)) X13' hS13' hg13 hZ9 hown9
  obtain ⟨tv_13, tk_13, tc_13, tl_13, ts_13, rfl, N13q, Kc13, P13_0, P13_1, P13_2, P13_3, P13_4⟩ := hQ13
  have O13 := O11.keep Kc13 (allS g_b11 all0)
  have H_14 := Rs13.1
  have R_14 := R_12.trans Rs13
  have N13 := Fr.app N9 N13q
  obtain ⟨_, _, ⟨T15, L15, k15, n15⟩, -, X15, ⟨Lc15, hQ15, l15, y15, z15⟩, st15⟩ := X13.specialBack hx (y := MN_46) rfl hown13 (mvT hZ13 (Wd hw 30 rfl)) (mvT hZ13 (Wd hw 31 rfl)) (mvT hZ13 (Wd hw 32 rfl)) (by decide) (backOf (W := 1) (rmPi l Z a0 hw [] cS vF b5 b7 b11 (T13.heap) n0 O13 GL ((((A5.ext E7).keep Kc9).ext E11).keep Kc13) ((((F_header_b5.ext E7).keep Kc9 (ninS (nLt (lLt A5.lt (lEq g7.symm))) nin0)).ext E11).keep Kc13 (ninS (nLt (lLt (lLt A5.lt (lTr E7.1 Kc9.1)) (lEq g11.symm))) nin0)) ((((F_text_b5.ext E7).keep Kc9 (ninS (nLt (lLt A5.lt (lEq g7.symm))) nin0)).ext E11).keep Kc13 (ninS (nLt (lLt (lLt A5.lt (lTr E7.1 Kc9.1)) (lEq g11.symm))) nin0)) g_b5) hZ13 (Wd hw 32 rfl) (Wd hw 8 rfl) (by decide) (by decide)) (g := mkF m 78 #[vi p0, vi p1, vi p2, vi p3, vi (own_n pn), vi (own_n dn), vr b_1, vr b_3, .unset, .unset] [(.ref b11), (.ref b7), (.ref b5), (.ref b5)]) rfl (by rw [hml]; rfl) (Steps.refl _) (a := b5) (argsL := [(.ref b7), (.ref b11)]) (rest := [(.ref b5)]) (lenOf pdv35 rfl) rfl (by show 2 * 0 + _ ≤ _; exact lEq rfl) (hb hby at_78) (fun _ _ => ⟨rfl, rfl, (by decide : 13 + 0 ≤ _), (by decide : 96 + 0 ≤ _)⟩)
  dsimp only [Pt.U, Pt.locs, Pt.cells, Pt.slots] at X15 l15 y15 z15 st15 hQ15
  subst l15 y15 z15
  obtain ⟨rfl, N15q, Kc15, P15_0, P15_1, P15_2⟩ := hQ15
  have O15 := O13.keep Kc15 (allS g_b5 all0)
  have Sf17 : Safe Z EL1 T13.vm T13.heap b5 := Safe.exa (EL := EL1) hZ13.alike ((((A5.ext E7).keep Kc9).ext E11).keep Kc13) (by decide) (by decide)
  have H_16 := H_14.keep Kc15 (sfS Sf17 sf0)
  have R_16 := R_14.trans (CHr.keep Kc15 (sfS Sf17 sf0) H_14)
  have N15 := Fr.app N13 N15q
  obtain ⟨cq18, kq18, q18a, q18b, q18c⟩ := isOf hZ13 rfl P15_0
  obtain ⟨_, _, ⟨T18, L18, k18, n18⟩, -, X18', hS18', hg18, ⟨Lc18, hQ18, l18, y18, z18, Rs18⟩, st18⟩ := X15.virtualBackS hx (y := MN_47) (z := MN_47) hown13 (mvT hZ13 (Wd hw 43 rfl)) (mvT hZ13 (Wd hw 44 rfl)) (notFace_of_selects (args := #[]) (mvT hZ13 (Wd hw 46 rfl))) (mvT hZ13 (Wd hw 46 rfl)) (mvT hZ13 (Wd hw 45 rfl)) (by decide) (backOfSH (W := 0) (rmPt l Z a0 hw [] cS vF b5 b7 b11 tv_9 tk_9 tc_9 tl_9 ts_9 pn ((own_f3 x0 x1 x2)) tv_13 tk_13 tc_13 tl_13 ts_13 dn ((own_f3 z0 z1 z2)) (T15.heap) n0 O15 GL P15_0 P15_1 P15_2 (((P9_0.ext E11).keep Kc13).keep Kc15) (((P9_1.ext E11).keep Kc13 (ninS (nLt (lLt (lLt A7.lt Kc9.1) (lEq g11.symm))) nin0)).keep Kc15 (ninS (Ne.symm (nLt (lLt A5.lt (lEq g7.symm)))) nin0)) (((P9_2.ext E11).keep Kc13 (ninS (nLt (lLt (lLt A7.lt Kc9.1) (lEq g11.symm))) nin0)).keep Kc15 (ninS (Ne.symm (nLt (lLt A5.lt (lEq g7.symm)))) nin0)) (((P9_3.ext E11).keep Kc13 (ninS (nLt (lLt P9_3.lt (lEq g11.symm))) nin0)).keep Kc15 (ninS (Ne.symm (Exa.neArv (a0 := a0) ((A5.ext E7).keep Kc9) P9_3 (Wd hw 7 rfl))) nin0)) P9_4 (P13_0.keep Kc15) (P13_1.keep Kc15 (ninS (Ne.symm (nLt (lLt (lLt A5.lt (lTr E7.1 Kc9.1)) (lEq g11.symm)))) nin0)) (P13_2.keep Kc15 (ninS (Ne.symm (nLt (lLt (lLt A5.lt (lTr E7.1 Kc9.1)) (lEq g11.symm)))) nin0)) (P13_3.keep Kc15 (ninS (Ne.symm (Exa.neArv (a0 := a0) ((((A5.ext E7).keep Kc9).ext E11).keep Kc13) P13_3 (Wd hw 7 rfl))) nin0)) P13_4 hp3 hd3) hZ13 (Wd hw 47 rfl) (Wd hw 8 rfl) (by decide) (by decide) (own_EW hw) H_16) q18a q18c (g := mkF m 81 #[vi p0, vi p1, vi p2, vi p3, vi (own_n pn), vi (own_n dn), vr b_1, vr b_3, .unset, .unset] [(.ref b5)]) rfl (by rw [hml]; rfl) (Steps.refl _) (argsL := []) (rest := []) (lenOf pdv31 rfl) rfl (by show 2 * 0 + _ ≤ _; exact lEq rfl) (hb hby at_81) (fun _ _ => ⟨rfl, rfl, (by decide : 13 + 7 ≤ _), (by decide : 96 + 84 ≤ _)⟩)
  dsimp only [Pt.U, Pt.locs, Pt.cells, Pt.slots] at X18' l18 y18 z18 st18 hQ18 hS18' hg18 Rs18
  subst l18 y18 z18
  obtain ⟨X18, hS18, hZ18, hown18⟩ := rebS hS13 (lTr (Nat.le_refl _) Kc15.1) X18' hS18' hg18 hZ13 hown13
  obtain ⟨rb_18, rv_18, rk_18, rc_18, rl_18, rs_18, rfl, N18q, Kc18, P18_0, P18_1, P18_2, P18_3, P18_4, P18_5, P18_6⟩ := hQ18
  have O18 := O15.keep Kc18 all0
  have H_19 := Rs18.1
  have R_19 := R_16.trans Rs18
  have g_rb_18 : n0 ≤ rb_18 := lTr (own_sz O15) P18_0
  have g_rv_18 : n0 ≤ rv_18 := lTr (own_sz O15) P18_1
  have N18 := Fr.app N15 N18q
  obtain ⟨cq20, kq20, q20a, q20b, q20c⟩ := isOf hZ18 rfl P18_2
  obtain ⟨_, _, ⟨T20, L20, k20, n20⟩, -, X20, ⟨Lc20, hQ20, l20, y20, z20⟩, st20⟩ := X18.virtualBack hx (y := MN_1) (z := MN_1) hown18 (mvT hZ18 (Wd hw 160 rfl)) (mvT hZ18 (Wd hw 77 rfl)) (notFace_of_selects (args := #[]) (mvT hZ18 (Wd hw 79 rfl))) (mvT hZ18 (Wd hw 79 rfl)) (mvT hZ18 (Wd hw 78 rfl)) (by decide) (backOf (W := 0) (rmLenG l Z a0 hw [] cS vF rb_18 rv_18 rk_18 rc_18 rl_18 rs_18 ((pn + 2 + dn)) ((own_all pn (own_f3 x0 x1 x2) (own_f3 z0 z1 z2))) (T18.heap) n0 O18 GL P18_2 P18_3 P18_4 P18_5 P18_6 (by omega)) hZ18 (Wd hw 80 rfl) (Wd hw 11 rfl) (by decide) (by decide)) q20a q20c (g := mkF m 104 #[vi p0, vi p1, vi p2, vi p3, vi (own_n pn), vi (own_n dn), vr b_1, vr b_3, vr rb_18, vi (own_n (pn + 2 + dn))] [(.ref rb_18)]) rfl (by rw [hml]; rfl) (Steps.refl _) (argsL := []) (rest := []) (lenOf pdv22 rfl) rfl (by show 2 * 0 + _ ≤ _; exact lEq rfl) (hb hby at_104) (fun _ _ => ⟨rfl, rfl, (by decide : 20 + 0 ≤ _), (by decide : 180 + 0 ≤ _)⟩)
  dsimp only [Pt.U, Pt.locs, Pt.cells, Pt.slots] at X20 l20 y20 z20 st20 hQ20
  subst l20 y20 z20
  obtain ⟨rfl, N20q, e20⟩ := hQ20
  have N20 := Fr.app N18 N20q
  obtain ⟨_, _, ⟨T21, L21, k21, n21⟩, -, X21, ⟨Lc21, hQ21, l21, y21, z21⟩, st21⟩ := Jvm.LawKit.callS X20 hx (y := MN_49) hown18 (mvT hZ18 (Wd hw 161 rfl)) (mvT hZ18 (Wd hw 162 rfl)) (mvT hZ18 (Wd hw 3 rfl)) (mvT hZ18 (Wd hw 163 rfl)) (by decide) (backOf (W := 0) (rmAt l Z a0 hw [] cS vF rb_18 b_1 b_3 cs_1 cs_3 rv_18 rk_18 rc_18 rl_18 rs_18 kb_1 kb_3 pn dn 0 x0 x1 x2 z0 z1 z2 (T18.heap) n0 O18 GL P18_2 P18_3 P18_4 P18_5 P18_6 ((((((((P1_2.keep Kc3 nin0).ext E5).ext E7).keep Kc9 (ninS (nLt (lLt (lLt P1_1.lt (lTr Kc3.1 E5.1)) (lEq g7.symm))) nin0)).ext E11).keep Kc13 (ninS (nLt (lLt (lLt P1_1.lt (lTr (lTr (lTr Kc3.1 E5.1) E7.1) Kc9.1)) (lEq g11.symm))) nin0)).keep Kc15 (ninS (nLt (lLt (lLt P1_1.lt Kc3.1) (lEq g5.symm))) nin0)).keep Kc18 nin0) P1_3 (((((((P3_2.ext E5).ext E7).keep Kc9 (ninS (nLt (lLt (lLt P3_1.lt E5.1) (lEq g7.symm))) nin0)).ext E11).keep Kc13 (ninS (nLt (lLt (lLt P3_1.lt (lTr (lTr E5.1 E7.1) Kc9.1)) (lEq g11.symm))) nin0)).keep Kc15 (ninS (nLt (lLt P3_1.lt (lEq g5.symm))) nin0)).keep Kc18 nin0) P3_3 hp3 hd3 (by decide)) hZ18 (Wd hw 163 rfl) (Wd hw 3 rfl) (by decide) (by decide)) (g := mkF m 125 #[vi p0, vi p1, vi p2, vi p3, vi (own_n pn), vi (own_n dn), vr b_1, vr b_3, vr rb_18, vi (own_n (pn + 2 + dn))] [(.int (own_n (pn + 2 + dn))), (.int (own_n pn)), (.ref b_3), (.ref b_1), (.int 0), (.ref rb_18)]) rfl (by rw [hml]; rfl) (argsL := [(.ref rb_18), (.int 0), (.ref b_1), (.ref b_3), (.int (own_n pn)), (.int (own_n (pn + 2 + dn)))]) (rest := []) (lenOf pdv36 rfl) rfl (by show 2 * 0 + _ ≤ _; exact lEq rfl) (hb hby at_125) (fun _ _ => ⟨rfl, e20, (by decide : 20 + 0 ≤ _), (by decide : 180 + 0 ≤ _)⟩)
  dsimp only [Pt.U, Pt.locs, Pt.cells, Pt.slots] at X21 l21 y21 z21 st21 hQ21
  subst l21 y21 z21
  obtain ⟨rfl, N21q, e21⟩ := hQ21
  have N21 := Fr.app N20 N21q
  obtain ⟨_, _, ⟨T22, L22, k22, n22⟩, -, X22, ⟨Lc22, hQ22, l22, y22, z22⟩, st22⟩ := Jvm.LawKit.callS X21 hx (y := MN_49) hown18 (mvT hZ18 (Wd hw 161 rfl)) (mvT hZ18 (Wd hw 162 rfl)) (mvT hZ18 (Wd hw 3 rfl)) (mvT hZ18 (Wd hw 163 rfl)) (by decide) (backOf (W := 0) (rmAt l Z a0 hw [] cS vF rb_18 b_1 b_3 cs_1 cs_3 rv_18 rk_18 rc_18 rl_18 rs_18 kb_1 kb_3 pn dn 1 x0 x1 x2 z0 z1 z2 (T18.heap) n0 O18 GL P18_2 P18_3 P18_4 P18_5 P18_6 ((((((((P1_2.keep Kc3 nin0).ext E5).ext E7).keep Kc9 (ninS (nLt (lLt (lLt P1_1.lt (lTr Kc3.1 E5.1)) (lEq g7.symm))) nin0)).ext E11).keep Kc13 (ninS (nLt (lLt (lLt P1_1.lt (lTr (lTr (lTr Kc3.1 E5.1) E7.1) Kc9.1)) (lEq g11.symm))) nin0)).keep Kc15 (ninS (nLt (lLt (lLt P1_1.lt Kc3.1) (lEq g5.symm))) nin0)).keep Kc18 nin0) P1_3 (((((((P3_2.ext E5).ext E7).keep Kc9 (ninS (nLt (lLt (lLt P3_1.lt E5.1) (lEq g7.symm))) nin0)).ext E11).keep Kc13 (ninS (nLt (lLt (lLt P3_1.lt (lTr (lTr E5.1 E7.1) Kc9.1)) (lEq g11.symm))) nin0)).keep Kc15 (ninS (nLt (lLt P3_1.lt (lEq g5.symm))) nin0)).keep Kc18 nin0) P3_3 hp3 hd3 (by decide)) hZ18 (Wd hw 163 rfl) (Wd hw 3 rfl) (by decide) (by decide)) (g := mkF m 142 #[vi p0, vi p1, vi p2, vi p3, vi (own_n pn), vi (own_n dn), vr b_1, vr b_3, vr rb_18, vi (own_n (pn + 2 + dn))] [(.int (own_n (pn + 2 + dn))), (.int (own_n pn)), (.ref b_3), (.ref b_1), (.int 1), (.ref rb_18)]) rfl (by rw [hml]; rfl) (argsL := [(.ref rb_18), (.int 1), (.ref b_1), (.ref b_3), (.int (own_n pn)), (.int (own_n (pn + 2 + dn)))]) (rest := []) (lenOf pdv36 rfl) rfl (by show 2 * 0 + _ ≤ _; exact lEq rfl) (hb hby at_142) (fun _ _ => ⟨rfl, e21, (by decide : 20 + 0 ≤ _), (by decide : 180 + 0 ≤ _)⟩)
  dsimp only [Pt.U, Pt.locs, Pt.cells, Pt.slots] at X22 l22 y22 z22 st22 hQ22
  subst l22 y22 z22
  obtain ⟨rfl, N22q, e22⟩ := hQ22
  have N22 := Fr.app N21 N22q
  obtain ⟨_, _, ⟨T23, L23, k23, n23⟩, -, X23, ⟨Lc23, hQ23, l23, y23, z23⟩, st23⟩ := Jvm.LawKit.callS X22 hx (y := MN_49) hown18 (mvT hZ18 (Wd hw 161 rfl)) (mvT hZ18 (Wd hw 162 rfl)) (mvT hZ18 (Wd hw 3 rfl)) (mvT hZ18 (Wd hw 163 rfl)) (by decide) (backOf (W := 0) (rmAt l Z a0 hw [] cS vF rb_18 b_1 b_3 cs_1 cs_3 rv_18 rk_18 rc_18 rl_18 rs_18 kb_1 kb_3 pn dn 2 x0 x1 x2 z0 z1 z2 (T18.heap) n0 O18 GL P18_2 P18_3 P18_4 P18_5 P18_6 ((((((((P1_2.keep Kc3 nin0).ext E5).ext E7).keep Kc9 (ninS (nLt (lLt (lLt P1_1.lt (lTr Kc3.1 E5.1)) (lEq g7.symm))) nin0)).ext E11).keep Kc13 (ninS (nLt (lLt (lLt P1_1.lt (lTr (lTr (lTr Kc3.1 E5.1) E7.1) Kc9.1)) (lEq g11.symm))) nin0)).keep Kc15 (ninS (nLt (lLt (lLt P1_1.lt Kc3.1) (lEq g5.symm))) nin0)).keep Kc18 nin0) P1_3 (((((((P3_2.ext E5).ext E7).keep Kc9 (ninS (nLt (lLt (lLt P3_1.lt E5.1) (lEq g7.symm))) nin0)).ext E11).keep Kc13 (ninS (nLt (lLt (lLt P3_1.lt (lTr (lTr E5.1 E7.1) Kc9.1)) (lEq g11.symm))) nin0)).keep Kc15 (ninS (nLt (lLt P3_1.lt (lEq g5.symm))) nin0)).keep Kc18 nin0) P3_3 hp3 hd3 (by decide)) hZ18 (Wd hw 163 rfl) (Wd hw 3 rfl) (by decide) (by decide)) (g := mkF m 159 #[vi p0, vi p1, vi p2, vi p3, vi (own_n pn), vi (own_n dn), vr b_1, vr b_3, vr rb_18, vi (own_n (pn + 2 + dn))] [(.int (own_n (pn + 2 + dn))), (.int (own_n pn)), (.ref b_3), (.ref b_1), (.int 2), (.ref rb_18)]) rfl (by rw [hml]; rfl) (argsL := [(.ref rb_18), (.int 2), (.ref b_1), (.ref b_3), (.int (own_n pn)), (.int (own_n (pn + 2 + dn)))]) (rest := []) (lenOf pdv36 rfl) rfl (by show 2 * 0 + _ ≤ _; exact lEq rfl) (hb hby at_159) (fun _ _ => ⟨rfl, e22, (by decide : 20 + 0 ≤ _), (by decide : 180 + 0 ≤ _)⟩)
  dsimp only [Pt.U, Pt.locs, Pt.cells, Pt.slots] at X23 l23 y23 z23 st23 hQ23
  subst l23 y23 z23
  obtain ⟨rfl, N23q, e23⟩ := hQ23
  have N23 := Fr.app N22 N23q
  obtain ⟨_, _, ⟨T24, L24, k24, n24⟩, -, X24, ⟨Lc24, hQ24, l24, y24, z24⟩, st24⟩ := Jvm.LawKit.callS X23 hx (y := MN_49) hown18 (mvT hZ18 (Wd hw 161 rfl)) (mvT hZ18 (Wd hw 162 rfl)) (mvT hZ18 (Wd hw 3 rfl)) (mvT hZ18 (Wd hw 163 rfl)) (by decide) (backOf (W := 0) (rmAt l Z a0 hw [] cS vF rb_18 b_1 b_3 cs_1 cs_3 rv_18 rk_18 rc_18 rl_18 rs_18 kb_1 kb_3 pn dn 3 x0 x1 x2 z0 z1 z2 (T18.heap) n0 O18 GL P18_2 P18_3 P18_4 P18_5 P18_6 ((((((((P1_2.keep Kc3 nin0).ext E5).ext E7).keep Kc9 (ninS (nLt (lLt (lLt P1_1.lt (lTr Kc3.1 E5.1)) (lEq g7.symm))) nin0)).ext E11).keep Kc13 (ninS (nLt (lLt (lLt P1_1.lt (lTr (lTr (lTr Kc3.1 E5.1) E7.1) Kc9.1)) (lEq g11.symm))) nin0)).keep Kc15 (ninS (nLt (lLt (lLt P1_1.lt Kc3.1) (lEq g5.symm))) nin0)).keep Kc18 nin0) P1_3 (((((((P3_2.ext E5).ext E7).keep Kc9 (ninS (nLt (lLt (lLt P3_1.lt E5.1) (lEq g7.symm))) nin0)).ext E11).keep Kc13 (ninS (nLt (lLt (lLt P3_1.lt (lTr (lTr E5.1 E7.1) Kc9.1)) (lEq g11.symm))) nin0)).keep Kc15 (ninS (nLt (lLt P3_1.lt (lEq g5.symm))) nin0)).keep Kc18 nin0) P3_3 hp3 hd3 (by decide)) hZ18 (Wd hw 163 rfl) (Wd hw 3 rfl) (by decide) (by decide)) (g := mkF m 176 #[vi p0, vi p1, vi p2, vi p3, vi (own_n pn), vi (own_n dn), vr b_1, vr b_3, vr rb_18, vi (own_n (pn + 2 + dn))] [(.int (own_n (pn + 2 + dn))), (.int (own_n pn)), (.ref b_3), (.ref b_1), (.int 3), (.ref rb_18)]) rfl (by rw [hml]; rfl) (argsL := [(.ref rb_18), (.int 3), (.ref b_1), (.ref b_3), (.int (own_n pn)), (.int (own_n (pn + 2 + dn)))]) (rest := []) (lenOf pdv36 rfl) rfl (by show 2 * 0 + _ ≤ _; exact lEq rfl) (hb hby at_176) (fun _ _ => ⟨rfl, e23, (by decide : 20 + 0 ≤ _), (by decide : 180 + 0 ≤ _)⟩)
  dsimp only [Pt.U, Pt.locs, Pt.cells, Pt.slots] at X24 l24 y24 z24 st24 hQ24
  subst l24 y24 z24
  obtain ⟨rfl, N24q, e24⟩ := hQ24
  have N24 := Fr.app N23 N24q
  obtain ⟨_, _, ⟨T25, L25, k25, n25⟩, -, X25, ⟨Lc25, hQ25, l25, y25, z25⟩, st25⟩ := Jvm.LawKit.callS X24 hx (y := MN_49) hown18 (mvT hZ18 (Wd hw 161 rfl)) (mvT hZ18 (Wd hw 162 rfl)) (mvT hZ18 (Wd hw 3 rfl)) (mvT hZ18 (Wd hw 163 rfl)) (by decide) (backOf (W := 0) (rmAt l Z a0 hw [] cS vF rb_18 b_1 b_3 cs_1 cs_3 rv_18 rk_18 rc_18 rl_18 rs_18 kb_1 kb_3 pn dn 4 x0 x1 x2 z0 z1 z2 (T18.heap) n0 O18 GL P18_2 P18_3 P18_4 P18_5 P18_6 ((((((((P1_2.keep Kc3 nin0).ext E5).ext E7).keep Kc9 (ninS (nLt (lLt (lLt P1_1.lt (lTr Kc3.1 E5.1)) (lEq g7.symm))) nin0)).ext E11).keep Kc13 (ninS (nLt (lLt (lLt P1_1.lt (lTr (lTr (lTr Kc3.1 E5.1) E7.1) Kc9.1)) (lEq g11.symm))) nin0)).keep Kc15 (ninS (nLt (lLt (lLt P1_1.lt Kc3.1) (lEq g5.symm))) nin0)).keep Kc18 nin0) P1_3 (((((((P3_2.ext E5).ext E7).keep Kc9 (ninS (nLt (lLt (lLt P3_1.lt E5.1) (lEq g7.symm))) nin0)).ext E11).keep Kc13 (ninS (nLt (lLt (lLt P3_1.lt (lTr (lTr E5.1 E7.1) Kc9.1)) (lEq g11.symm))) nin0)).keep Kc15 (ninS (nLt (lLt P3_1.lt (lEq g5.symm))) nin0)).keep Kc18 nin0) P3_3 hp3 hd3 (by decide)) hZ18 (Wd hw 163 rfl) (Wd hw 3 rfl) (by decide) (by decide)) (g := mkF m 193 #[vi p0, vi p1, vi p2, vi p3, vi (own_n pn), vi (own_n dn), vr b_1, vr b_3, vr rb_18, vi (own_n (pn + 2 + dn))] [(.int (own_n (pn + 2 + dn))), (.int (own_n pn)), (.ref b_3), (.ref b_1), (.int 4), (.ref rb_18)]) rfl (by rw [hml]; rfl) (argsL := [(.ref rb_18), (.int 4), (.ref b_1), (.ref b_3), (.int (own_n pn)), (.int (own_n (pn + 2 + dn)))]) (rest := []) (lenOf pdv36 rfl) rfl (by show 2 * 0 + _ ≤ _; exact lEq rfl) (hb hby at_193) (fun _ _ => ⟨rfl, e24, (by decide : 20 + 0 ≤ _), (by decide : 180 + 0 ≤ _)⟩)
  dsimp only [Pt.U, Pt.locs, Pt.cells, Pt.slots] at X25 l25 y25 z25 st25 hQ25
  subst l25 y25 z25
  obtain ⟨rfl, N25q, e25⟩ := hQ25
  have N25 := Fr.app N24 N25q
  obtain ⟨_, _, ⟨T26, L26, k26, n26⟩, -, X26, ⟨Lc26, hQ26, l26, y26, z26⟩, st26⟩ := Jvm.LawKit.callS X25 hx (y := MN_49) hown18 (mvT hZ18 (Wd hw 161 rfl)) (mvT hZ18 (Wd hw 162 rfl)) (mvT hZ18 (Wd hw 3 rfl)) (mvT hZ18 (Wd hw 163 rfl)) (by decide) (backOf (W := 0) (rmAt l Z a0 hw [] cS vF rb_18 b_1 b_3 cs_1 cs_3 rv_18 rk_18 rc_18 rl_18 rs_18 kb_1 kb_3 pn dn 5 x0 x1 x2 z0 z1 z2 (T18.heap) n0 O18 GL P18_2 P18_3 P18_4 P18_5 P18_6 ((((((((P1_2.keep Kc3 nin0).ext E5).ext E7).keep Kc9 (ninS (nLt (lLt (lLt P1_1.lt (lTr Kc3.1 E5.1)) (lEq g7.symm))) nin0)).ext E11).keep Kc13 (ninS (nLt (lLt (lLt P1_1.lt (lTr (lTr (lTr Kc3.1 E5.1) E7.1) Kc9.1)) (lEq g11.symm))) nin0)).keep Kc15 (ninS (nLt (lLt (lLt P1_1.lt Kc3.1) (lEq g5.symm))) nin0)).keep Kc18 nin0) P1_3 (((((((P3_2.ext E5).ext E7).keep Kc9 (ninS (nLt (lLt (lLt P3_1.lt E5.1) (lEq g7.symm))) nin0)).ext E11).keep Kc13 (ninS (nLt (lLt (lLt P3_1.lt (lTr (lTr E5.1 E7.1) Kc9.1)) (lEq g11.symm))) nin0)).keep Kc15 (ninS (nLt (lLt P3_1.lt (lEq g5.symm))) nin0)).keep Kc18 nin0) P3_3 hp3 hd3 (by decide)) hZ18 (Wd hw 163 rfl) (Wd hw 3 rfl) (by decide) (by decide)) (g := mkF m 210 #[vi p0, vi p1, vi p2, vi p3, vi (own_n pn), vi (own_n dn), vr b_1, vr b_3, vr rb_18, vi (own_n (pn + 2 + dn))] [(.int (own_n (pn + 2 + dn))), (.int (own_n pn)), (.ref b_3), (.ref b_1), (.int 5), (.ref rb_18)]) rfl (by rw [hml]; rfl) (argsL := [(.ref rb_18), (.int 5), (.ref b_1), (.ref b_3), (.int (own_n pn)), (.int (own_n (pn + 2 + dn)))]) (rest := []) (lenOf pdv36 rfl) rfl (by show 2 * 0 + _ ≤ _; exact lEq rfl) (hb hby at_210) (fun _ _ => ⟨rfl, e25, (by decide : 20 + 0 ≤ _), (by decide : 180 + 0 ≤ _)⟩)
  dsimp only [Pt.U, Pt.locs, Pt.cells, Pt.slots] at X26 l26 y26 z26 st26 hQ26
  subst l26 y26 z26
  obtain ⟨rfl, N26q, e26⟩ := hQ26
  have N26 := Fr.app N25 N26q
  obtain ⟨_, _, ⟨T27, L27, k27, n27⟩, -, X27, ⟨Lc27, hQ27, l27, y27, z27⟩, st27⟩ := Jvm.LawKit.callS X26 hx (y := MN_49) hown18 (mvT hZ18 (Wd hw 161 rfl)) (mvT hZ18 (Wd hw 162 rfl)) (mvT hZ18 (Wd hw 3 rfl)) (mvT hZ18 (Wd hw 163 rfl)) (by decide) (backOf (W := 0) (rmAt l Z a0 hw [] cS vF rb_18 b_1 b_3 cs_1 cs_3 rv_18 rk_18 rc_18 rl_18 rs_18 kb_1 kb_3 pn dn 6 x0 x1 x2 z0 z1 z2 (T18.heap) n0 O18 GL P18_2 P18_3 P18_4 P18_5 P18_6 ((((((((P1_2.keep Kc3 nin0).ext E5).ext E7).keep Kc9 (ninS (nLt (lLt (lLt P1_1.lt (lTr Kc3.1 E5.1)) (lEq g7.symm))) nin0)).ext E11).keep Kc13 (ninS (nLt (lLt (lLt P1_1.lt (lTr (lTr (lTr Kc3.1 E5.1) E7.1) Kc9.1)) (lEq g11.symm))) nin0)).keep Kc15 (ninS (nLt (lLt (lLt P1_1.lt Kc3.1) (lEq g5.symm))) nin0)).keep Kc18 nin0) P1_3 (((((((P3_2.ext E5).ext E7).keep Kc9 (ninS (nLt (lLt (lLt P3_1.lt E5.1) (lEq g7.symm))) nin0)).ext E11).keep Kc13 (ninS (nLt (lLt (lLt P3_1.lt (lTr (lTr E5.1 E7.1) Kc9.1)) (lEq g11.symm))) nin0)).keep Kc15 (ninS (nLt (lLt P3_1.lt (lEq g5.symm))) nin0)).keep Kc18 nin0) P3_3 hp3 hd3 (by decide)) hZ18 (Wd hw 163 rfl) (Wd hw 3 rfl) (by decide) (by decide)) (g := mkF m 228 #[vi p0, vi p1, vi p2, vi p3, vi (own_n pn), vi (own_n dn), vr b_1, vr b_3, vr rb_18, vi (own_n (pn + 2 + dn))] [(.int (own_n (pn + 2 + dn))), (.int (own_n pn)), (.ref b_3), (.ref b_1), (.int 6), (.ref rb_18)]) rfl (by rw [hml]; rfl) (argsL := [(.ref rb_18), (.int 6), (.ref b_1), (.ref b_3), (.int (own_n pn)), (.int (own_n (pn + 2 + dn)))]) (rest := []) (lenOf pdv36 rfl) rfl (by show 2 * 0 + _ ≤ _; exact lEq rfl) (hb hby at_228) (fun _ _ => ⟨rfl, e26, (by decide : 20 + 0 ≤ _), (by decide : 180 + 0 ≤ _)⟩)
  dsimp only [Pt.U, Pt.locs, Pt.cells, Pt.slots] at X27 l27 y27 z27 st27 hQ27
  subst l27 y27 z27
  obtain ⟨rfl, N27q, e27⟩ := hQ27
  have N27 := Fr.app N26 N27q
  obtain ⟨_, _, ⟨T28, L28, k28, n28⟩, -, X28, ⟨Lc28, hQ28, l28, y28, z28⟩, st28⟩ := Jvm.LawKit.callS X27 hx (y := MN_49) hown18 (mvT hZ18 (Wd hw 161 rfl)) (mvT hZ18 (Wd hw 162 rfl)) (mvT hZ18 (Wd hw 3 rfl)) (mvT hZ18 (Wd hw 163 rfl)) (by decide) (backOf (W := 0) (rmAt l Z a0 hw [] cS vF rb_18 b_1 b_3 cs_1 cs_3 rv_18 rk_18 rc_18 rl_18 rs_18 kb_1 kb_3 pn dn 7 x0 x1 x2 z0 z1 z2 (T18.heap) n0 O18 GL P18_2 P18_3 P18_4 P18_5 P18_6 ((((((((P1_2.keep Kc3 nin0).ext E5).ext E7).keep Kc9 (ninS (nLt (lLt (lLt P1_1.lt (lTr Kc3.1 E5.1)) (lEq g7.symm))) nin0)).ext E11).keep Kc13 (ninS (nLt (lLt (lLt P1_1.lt (lTr (lTr (lTr Kc3.1 E5.1) E7.1) Kc9.1)) (lEq g11.symm))) nin0)).keep Kc15 (ninS (nLt (lLt (lLt P1_1.lt Kc3.1) (lEq g5.symm))) nin0)).keep Kc18 nin0) P1_3 (((((((P3_2.ext E5).ext E7).keep Kc9 (ninS (nLt (lLt (lLt P3_1.lt E5.1) (lEq g7.symm))) nin0)).ext E11).keep Kc13 (ninS (nLt (lLt (lLt P3_1.lt (lTr (lTr E5.1 E7.1) Kc9.1)) (lEq g11.symm))) nin0)).keep Kc15 (ninS (nLt (lLt P3_1.lt (lEq g5.symm))) nin0)).keep Kc18 nin0) P3_3 hp3 hd3 (by decide)) hZ18 (Wd hw 163 rfl) (Wd hw 3 rfl) (by decide) (by decide)) (g := mkF m 246 #[vi p0, vi p1, vi p2, vi p3, vi (own_n pn), vi (own_n dn), vr b_1, vr b_3, vr rb_18, vi (own_n (pn + 2 + dn))] [(.int (own_n (pn + 2 + dn))), (.int (own_n pn)), (.ref b_3), (.ref b_1), (.int 7), (.ref rb_18)]) rfl (by rw [hml]; rfl) (argsL := [(.ref rb_18), (.int 7), (.ref b_1), (.ref b_3), (.int (own_n pn)), (.int (own_n (pn + 2 + dn)))]) (rest := []) (lenOf pdv36 rfl) rfl (by show 2 * 0 + _ ≤ _; exact lEq rfl) (hb hby at_246) (fun _ _ => ⟨rfl, e27, (by decide : 20 + 0 ≤ _), (by decide : 180 + 0 ≤ _)⟩)
  dsimp only [Pt.U, Pt.locs, Pt.cells, Pt.slots] at X28 l28 y28 z28 st28 hQ28
  subst l28 y28 z28
  obtain ⟨rfl, N28q, e28⟩ := hQ28
  have N28 := Fr.app N27 N28q
  obtain ⟨fs, hr, hrun, hended, hRW⟩ := X28.leaveW hS18 (by rw [e28]; exact (Nat.le_refl _)) (v := some (.int 1)) (fun h => by rw [Bd.returns] at h; cases h)
  have hCR : CHr Z EL1 s.vm s.heap T28.vm T28.heap := by
    rw [hh, e28]
    exact R_19.trans (CHv.at X28 hZ18 (own_EW hw) H_19)
  refine ⟨_, _, pre0 _ ?_, hrun, hended, _, _, rfl, ?_, hCR, hRW.1, hRW.2.1, hRW.2.2.1, hRW.2.2.2.mono (by decide) (by decide)⟩
  · show SP p e below s₁ m 0 #[vi p0, vi p1, vi p2, vi p3, .unset, .unset, .unset, .unset, .unset, .unset] [] _
    refine XS.iloadN X0w.here hx rfl (hb hby at_0) rfl ?_
    refine XS.iconst X0w.here hx rfl (hb hby at_1) ?_
    show SP p e below s₁ m 2 #[vi p0, vi p1, vi p2, vi p3, .unset, .unset, .unset, .unset, .unset, .unset] [(.int 3), (.int p0)] _
    refine XS.iand X0w.here hx rfl (hb hby at_2) rfl ?_
    rw [epn]
    show SP p e below s₁ m 3 #[vi p0, vi p1, vi p2, vi p3, .unset, .unset, .unset, .unset, .unset, .unset] [(.int (own_n pn))] _
    refine XS.istore X0w.here hx rfl (hb hby at_3) rfl (l' := #[vi p0, vi p1, vi p2, vi p3, vi (own_n pn), .unset, .unset, .unset, .unset, .unset]) rfl ?_
    refine XS.iloadN X0w.here hx rfl (hb hby at_5) rfl ?_
    refine XS.iconst X0w.here hx rfl (hb hby at_6) ?_
    refine XS.iushr X0w.here hx rfl (hb hby at_7) rfl ?_
    refine XS.iconst X0w.here hx rfl (hb hby at_8) ?_
    show SP p e below s₁ m 9 #[vi p0, vi p1, vi p2, vi p3, vi (own_n pn), .unset, .unset, .unset, .unset, .unset] [(.int 3), (.int ((p0.toUInt32 >>> ((2 : Int32) &&& 31).toUInt32).toInt32))] _
    refine XS.iand X0w.here hx rfl (hb hby at_9) rfl ?_
    rw [edn]
    show SP p e below s₁ m 10 #[vi p0, vi p1, vi p2, vi p3, vi (own_n pn), .unset, .unset, .unset, .unset, .unset] [(.int (own_n dn))] _
    refine XS.istore X0w.here hx rfl (hb hby at_10) rfl (l' := #[vi p0, vi p1, vi p2, vi p3, vi (own_n pn), vi (own_n dn), .unset, .unset, .unset, .unset]) rfl ?_
    refine XS.iload X0w.here hx rfl (hb hby at_12) rfl ?_
    refine XS.iloadN X0w.here hx rfl (hb hby at_14) rfl ?_
    show SP p e below s₁ m 15 #[vi p0, vi p1, vi p2, vi p3, vi (own_n pn), vi (own_n dn), .unset, .unset, .unset, .unset] [(.int p1), (.int (own_n pn))] _
    refine X0w.ldcInt hx hown (mvT hZ (Wd hw 0 rfl)) (g := mkF m 15 #[vi p0, vi p1, vi p2, vi p3, vi (own_n pn), vi (own_n dn), .unset, .unset, .unset, .unset] [(.int p1), (.int (own_n pn))]) rfl (hb hby at_15) _ ?_
    show SP p e below s₁ m 17 #[vi p0, vi p1, vi p2, vi p3, vi (own_n pn), vi (own_n dn), .unset, .unset, .unset, .unset] [(.int 65535), (.int p1), (.int (own_n pn))] _
    refine XS.iand X0w.here hx rfl (hb hby at_17) rfl ?_
    show SP p e below s₁ m 18 #[vi p0, vi p1, vi p2, vi p3, vi (own_n pn), vi (own_n dn), .unset, .unset, .unset, .unset] [(.int (p1 &&& (65535 : Int32))), (.int (own_n pn))] _
    refine XS.i2c X0w.here hx rfl (hb hby at_18) rfl ?_
    rw [ex0]
    show SP p e below s₁ m 19 #[vi p0, vi p1, vi p2, vi p3, vi (own_n pn), vi (own_n dn), .unset, .unset, .unset, .unset] [(.int x0), (.int (own_n pn))] _
    refine XS.iloadN X0w.here hx rfl (hb hby at_19) rfl ?_
    refine XS.bipush X0w.here hx rfl (hb hby at_20) ?_
    refine XS.iushr X0w.here hx rfl (hb hby at_22) rfl ?_
    show SP p e below s₁ m 23 #[vi p0, vi p1, vi p2, vi p3, vi (own_n pn), vi (own_n dn), .unset, .unset, .unset, .unset] [(.int ((p1.toUInt32 >>> ((16 : Int32) &&& 31).toUInt32).toInt32)), (.int x0), (.int (own_n pn))] _
    refine XS.i2c X0w.here hx rfl (hb hby at_23) rfl ?_
    rw [ex1]
    show SP p e below s₁ m 24 #[vi p0, vi p1, vi p2, vi p3, vi (own_n pn), vi (own_n dn), .unset, .unset, .unset, .unset] [(.int x1), (.int x0), (.int (own_n pn))] _
    refine XS.iloadN X0w.here hx rfl (hb hby at_24) rfl ?_
    show SP p e below s₁ m 25 #[vi p0, vi p1, vi p2, vi p3, vi (own_n pn), vi (own_n dn), .unset, .unset, .unset, .unset] [(.int p2), (.int x1), (.int x0), (.int (own_n pn))] _
    refine X0w.ldcInt hx hown (mvT hZ (Wd hw 0 rfl)) (g := mkF m 25 #[vi p0, vi p1, vi p2, vi p3, vi (own_n pn), vi (own_n dn), .unset, .unset, .unset, .unset] [(.int p2), (.int x1), (.int x0), (.int (own_n pn))]) rfl (hb hby at_25) _ ?_
    show SP p e below s₁ m 27 #[vi p0, vi p1, vi p2, vi p3, vi (own_n pn), vi (own_n dn), .unset, .unset, .unset, .unset] [(.int 65535), (.int p2), (.int x1), (.int x0), (.int (own_n pn))] _
    refine XS.iand X0w.here hx rfl (hb hby at_27) rfl ?_
    show SP p e below s₁ m 28 #[vi p0, vi p1, vi p2, vi p3, vi (own_n pn), vi (own_n dn), .unset, .unset, .unset, .unset] [(.int (p2 &&& (65535 : Int32))), (.int x1), (.int x0), (.int (own_n pn))] _
    refine XS.i2c X0w.here hx rfl (hb hby at_28) rfl ?_
    rw [ex2]
    show SP p e below s₁ m 29 #[vi p0, vi p1, vi p2, vi p3, vi (own_n pn), vi (own_n dn), .unset, .unset, .unset, .unset] [(.int x2), (.int x1), (.int x0), (.int (own_n pn))] _
    refine st1 _ ?_
    show SP p e below T1 m 32 #[vi p0, vi p1, vi p2, vi p3, vi (own_n pn), vi (own_n dn), .unset, .unset, .unset, .unset] [(.ref b_1)] _
    refine XS.astore X1.here hx rfl (hb hby at_32) rfl rfl (l' := #[vi p0, vi p1, vi p2, vi p3, vi (own_n pn), vi (own_n dn), vr b_1, .unset, .unset, .unset]) rfl ?_
    refine XS.iload X1.here hx rfl (hb hby at_34) rfl ?_
    refine XS.iloadN X1.here hx rfl (hb hby at_36) rfl ?_
    refine XS.bipush X1.here hx rfl (hb hby at_37) ?_
    refine XS.iushr X1.here hx rfl (hb hby at_39) rfl ?_
    show SP p e below T1 m 40 #[vi p0, vi p1, vi p2, vi p3, vi (own_n pn), vi (own_n dn), vr b_1, .unset, .unset, .unset] [(.int ((p2.toUInt32 >>> ((16 : Int32) &&& 31).toUInt32).toInt32)), (.int (own_n dn))] _
    refine XS.i2c X1.here hx rfl (hb hby at_40) rfl ?_
    rw [ez0]
    show SP p e below T1 m 41 #[vi p0, vi p1, vi p2, vi p3, vi (own_n pn), vi (own_n dn), vr b_1, .unset, .unset, .unset] [(.int z0), (.int (own_n dn))] _
    refine XS.iloadN X1.here hx rfl (hb hby at_41) rfl ?_
    show SP p e below T1 m 42 #[vi p0, vi p1, vi p2, vi p3, vi (own_n pn), vi (own_n dn), vr b_1, .unset, .unset, .unset] [(.int p3), (.int z0), (.int (own_n dn))] _
    refine X1.ldcInt hx hown (mvT hZ (Wd hw 0 rfl)) (g := mkF m 42 #[vi p0, vi p1, vi p2, vi p3, vi (own_n pn), vi (own_n dn), vr b_1, .unset, .unset, .unset] [(.int p3), (.int z0), (.int (own_n dn))]) rfl (hb hby at_42) _ ?_
    show SP p e below T1 m 44 #[vi p0, vi p1, vi p2, vi p3, vi (own_n pn), vi (own_n dn), vr b_1, .unset, .unset, .unset] [(.int 65535), (.int p3), (.int z0), (.int (own_n dn))] _
    refine XS.iand X1.here hx rfl (hb hby at_44) rfl ?_
    show SP p e below T1 m 45 #[vi p0, vi p1, vi p2, vi p3, vi (own_n pn), vi (own_n dn), vr b_1, .unset, .unset, .unset] [(.int (p3 &&& (65535 : Int32))), (.int z0), (.int (own_n dn))] _
    refine XS.i2c X1.here hx rfl (hb hby at_45) rfl ?_
    rw [ez1]
    show SP p e below T1 m 46 #[vi p0, vi p1, vi p2, vi p3, vi (own_n pn), vi (own_n dn), vr b_1, .unset, .unset, .unset] [(.int z1), (.int z0), (.int (own_n dn))] _
    refine XS.iloadN X1.here hx rfl (hb hby at_46) rfl ?_
    refine XS.bipush X1.here hx rfl (hb hby at_47) ?_
    refine XS.iushr X1.here hx rfl (hb hby at_49) rfl ?_
    show SP p e below T1 m 50 #[vi p0, vi p1, vi p2, vi p3, vi (own_n pn), vi (own_n dn), vr b_1, .unset, .unset, .unset] [(.int ((p3.toUInt32 >>> ((16 : Int32) &&& 31).toUInt32).toInt32)), (.int z1), (.int z0), (.int (own_n dn))] _
    refine XS.i2c X1.here hx rfl (hb hby at_50) rfl ?_
    rw [ez2]
    show SP p e below T1 m 51 #[vi p0, vi p1, vi p2, vi p3, vi (own_n pn), vi (own_n dn), vr b_1, .unset, .unset, .unset] [(.int z2), (.int z1), (.int z0), (.int (own_n dn))] _
    refine st3 _ ?_
    show SP p e below T3 m 54 #[vi p0, vi p1, vi p2, vi p3, vi (own_n pn), vi (own_n dn), vr b_1, .unset, .unset, .unset] [(.ref b_3)] _
    refine XS.astore X3.here hx rfl (hb hby at_54) rfl rfl (l' := #[vi p0, vi p1, vi p2, vi p3, vi (own_n pn), vi (own_n dn), vr b_1, vr b_3, .unset, .unset]) rfl ?_
    show SP p e below T3 m 56 #[vi p0, vi p1, vi p2, vi p3, vi (own_n pn), vi (own_n dn), vr b_1, vr b_3, .unset, .unset] [] _
    refine st5 _ ?_
    show SP p e below T5 m 59 #[vi p0, vi p1, vi p2, vi p3, vi (own_n pn), vi (own_n dn), vr b_1, vr b_3, .unset, .unset] [(.ref b5)] _
    refine XS.dup X5.here hx rfl (hb hby at_59) rfl rfl ?_
    show SP p e below T5 m 60 #[vi p0, vi p1, vi p2, vi p3, vi (own_n pn), vi (own_n dn), vr b_1, vr b_3, .unset, .unset] [(.ref b5), (.ref b5)] _
    refine st7 _ ?_
    show SP p e below T7 m 63 #[vi p0, vi p1, vi p2, vi p3, vi (own_n pn), vi (own_n dn), vr b_1, vr b_3, .unset, .unset] [(.ref b7), (.ref b5), (.ref b5)] _
    refine XS.dup X7.here hx rfl (hb hby at_63) rfl rfl ?_
    refine XS.aload X7.here hx rfl (hb hby at_64) rfl rfl ?_
    show SP p e below T7 m 66 #[vi p0, vi p1, vi p2, vi p3, vi (own_n pn), vi (own_n dn), vr b_1, vr b_3, .unset, .unset] [(.ref b_1), (.ref b7), (.ref b7), (.ref b5), (.ref b5)] _
    refine st9.trans ?_
    show SP p e below T9 m 69 #[vi p0, vi p1, vi p2, vi p3, vi (own_n pn), vi (own_n dn), vr b_1, vr b_3, .unset, .unset] [(.ref b7), (.ref b5), (.ref b5)] _
    refine st11 _ ?_
    show SP p e below T11 m 72 #[vi p0, vi p1, vi p2, vi p3, vi (own_n pn), vi (own_n dn), vr b_1, vr b_3, .unset, .unset] [(.ref b11), (.ref b7), (.ref b5), (.ref b5)] _
    refine XS.dup X11.here hx rfl (hb hby at_72) rfl rfl ?_
    refine XS.aload X11.here hx rfl (hb hby at_73) rfl rfl ?_
    show SP p e below T11 m 75 #[vi p0, vi p1, vi p2, vi p3, vi (own_n pn), vi (own_n dn), vr b_1, vr b_3, .unset, .unset] [(.ref b_3), (.ref b11), (.ref b11), (.ref b7), (.ref b5), (.ref b5)] _
    refine st13.trans ?_
    show SP p e below T13 m 78 #[vi p0, vi p1, vi p2, vi p3, vi (own_n pn), vi (own_n dn), vr b_1, vr b_3, .unset, .unset] [(.ref b11), (.ref b7), (.ref b5), (.ref b5)] _
    refine st15.trans ?_
    show SP p e below T15 m 81 #[vi p0, vi p1, vi p2, vi p3, vi (own_n pn), vi (own_n dn), vr b_1, vr b_3, .unset, .unset] [(.ref b5)] _
    refine st18.trans ?_
    show SP p e below T18 m 84 #[vi p0, vi p1, vi p2, vi p3, vi (own_n pn), vi (own_n dn), vr b_1, vr b_3, .unset, .unset] [(.ref rb_18)] _
    refine XS.astore X18.here hx rfl (hb hby at_84) rfl rfl (l' := #[vi p0, vi p1, vi p2, vi p3, vi (own_n pn), vi (own_n dn), vr b_1, vr b_3, vr rb_18, .unset]) rfl ?_
    refine XS.aload X18.here hx rfl (hb hby at_86) rfl rfl ?_
    refine XS.ifnonnullYes X18.here hx rfl (pc0 := 88) (pc' := 93) rfl (hb hby at_88) rfl (by decide) (by decide) ?_
    refine XS.iload X18.here hx rfl (hb hby at_93) rfl ?_
    refine XS.iconst X18.here hx rfl (hb hby at_95) ?_
    show SP p e below T18 m 96 #[vi p0, vi p1, vi p2, vi p3, vi (own_n pn), vi (own_n dn), vr b_1, vr b_3, vr rb_18, .unset] [(.int 2), (.int (own_n pn))] _
    refine XS.iadd X18.here hx rfl (hb hby at_96) rfl ?_
    rw [own_n_add2 pn]
    show SP p e below T18 m 97 #[vi p0, vi p1, vi p2, vi p3, vi (own_n pn), vi (own_n dn), vr b_1, vr b_3, vr rb_18, .unset] [(.int (own_n (pn + 2)))] _
    refine XS.iload X18.here hx rfl (hb hby at_97) rfl ?_
    show SP p e below T18 m 99 #[vi p0, vi p1, vi p2, vi p3, vi (own_n pn), vi (own_n dn), vr b_1, vr b_3, vr rb_18, .unset] [(.int (own_n dn)), (.int (own_n (pn + 2)))] _
    refine XS.iadd X18.here hx rfl (hb hby at_99) rfl ?_
    rw [own_n_add (pn + 2) dn]
    show SP p e below T18 m 100 #[vi p0, vi p1, vi p2, vi p3, vi (own_n pn), vi (own_n dn), vr b_1, vr b_3, vr rb_18, .unset] [(.int (own_n (pn + 2 + dn)))] _
    refine XS.istore X18.here hx rfl (hb hby at_100) rfl (l' := #[vi p0, vi p1, vi p2, vi p3, vi (own_n pn), vi (own_n dn), vr b_1, vr b_3, vr rb_18, vi (own_n (pn + 2 + dn))]) rfl ?_
    refine XS.aload X18.here hx rfl (hb hby at_102) rfl rfl ?_
    show SP p e below T18 m 104 #[vi p0, vi p1, vi p2, vi p3, vi (own_n pn), vi (own_n dn), vr b_1, vr b_3, vr rb_18, vi (own_n (pn + 2 + dn))] [(.ref rb_18)] _
    refine st20.trans ?_
    show SP p e below T20 m 107 #[vi p0, vi p1, vi p2, vi p3, vi (own_n pn), vi (own_n dn), vr b_1, vr b_3, vr rb_18, vi (own_n (pn + 2 + dn))] [(.int (own_n (pn + 2 + dn)))] _
    refine XS.iload X20.here hx rfl (hb hby at_107) rfl ?_
    refine XS.icmpYes X20.here hx rfl (pc0 := 109) (pc' := 114) rfl (hb hby at_109) rfl (teq (rfl : (own_n (pn + 2 + dn)) = (own_n (pn + 2 + dn)))).1 (by decide) (by decide) ?_
    refine XS.aload X20.here hx rfl (hb hby at_114) rfl rfl ?_
    refine XS.iconst X20.here hx rfl (hb hby at_116) ?_
    refine XS.aload X20.here hx rfl (hb hby at_117) rfl rfl ?_
    refine XS.aload X20.here hx rfl (hb hby at_119) rfl rfl ?_
    refine XS.iload X20.here hx rfl (hb hby at_121) rfl ?_
    refine XS.iload X20.here hx rfl (hb hby at_123) rfl ?_
    show SP p e below T20 m 125 #[vi p0, vi p1, vi p2, vi p3, vi (own_n pn), vi (own_n dn), vr b_1, vr b_3, vr rb_18, vi (own_n (pn + 2 + dn))] [(.int (own_n (pn + 2 + dn))), (.int (own_n pn)), (.ref b_3), (.ref b_1), (.int 0), (.ref rb_18)] _
    refine st21 _ ?_
    show SP p e below T21 m 128 #[vi p0, vi p1, vi p2, vi p3, vi (own_n pn), vi (own_n dn), vr b_1, vr b_3, vr rb_18, vi (own_n (pn + 2 + dn))] [(.int 1)] _
    refine XS.ifNo X21.here hx rfl (hb hby at_128) rfl ((if0 _ _).trans (feq (by decide : ¬ ((1 : Int32) = (0 : Int32)))).1) ?_
    refine XS.aload X21.here hx rfl (hb hby at_131) rfl rfl ?_
    refine XS.iconst X21.here hx rfl (hb hby at_133) ?_
    refine XS.aload X21.here hx rfl (hb hby at_134) rfl rfl ?_
    refine XS.aload X21.here hx rfl (hb hby at_136) rfl rfl ?_
    refine XS.iload X21.here hx rfl (hb hby at_138) rfl ?_
    refine XS.iload X21.here hx rfl (hb hby at_140) rfl ?_
    show SP p e below T21 m 142 #[vi p0, vi p1, vi p2, vi p3, vi (own_n pn), vi (own_n dn), vr b_1, vr b_3, vr rb_18, vi (own_n (pn + 2 + dn))] [(.int (own_n (pn + 2 + dn))), (.int (own_n pn)), (.ref b_3), (.ref b_1), (.int 1), (.ref rb_18)] _
    refine st22 _ ?_
    show SP p e below T22 m 145 #[vi p0, vi p1, vi p2, vi p3, vi (own_n pn), vi (own_n dn), vr b_1, vr b_3, vr rb_18, vi (own_n (pn + 2 + dn))] [(.int 1)] _
    refine XS.ifNo X22.here hx rfl (hb hby at_145) rfl ((if0 _ _).trans (feq (by decide : ¬ ((1 : Int32) = (0 : Int32)))).1) ?_
    refine XS.aload X22.here hx rfl (hb hby at_148) rfl rfl ?_
    refine XS.iconst X22.here hx rfl (hb hby at_150) ?_
    refine XS.aload X22.here hx rfl (hb hby at_151) rfl rfl ?_
    refine XS.aload X22.here hx rfl (hb hby at_153) rfl rfl ?_
    refine XS.iload X22.here hx rfl (hb hby at_155) rfl ?_
    refine XS.iload X22.here hx rfl (hb hby at_157) rfl ?_
    show SP p e below T22 m 159 #[vi p0, vi p1, vi p2, vi p3, vi (own_n pn), vi (own_n dn), vr b_1, vr b_3, vr rb_18, vi (own_n (pn + 2 + dn))] [(.int (own_n (pn + 2 + dn))), (.int (own_n pn)), (.ref b_3), (.ref b_1), (.int 2), (.ref rb_18)] _
    refine st23 _ ?_
    show SP p e below T23 m 162 #[vi p0, vi p1, vi p2, vi p3, vi (own_n pn), vi (own_n dn), vr b_1, vr b_3, vr rb_18, vi (own_n (pn + 2 + dn))] [(.int 1)] _
    refine XS.ifNo X23.here hx rfl (hb hby at_162) rfl ((if0 _ _).trans (feq (by decide : ¬ ((1 : Int32) = (0 : Int32)))).1) ?_
    refine XS.aload X23.here hx rfl (hb hby at_165) rfl rfl ?_
    refine XS.iconst X23.here hx rfl (hb hby at_167) ?_
    refine XS.aload X23.here hx rfl (hb hby at_168) rfl rfl ?_
    refine XS.aload X23.here hx rfl (hb hby at_170) rfl rfl ?_
    refine XS.iload X23.here hx rfl (hb hby at_172) rfl ?_
    refine XS.iload X23.here hx rfl (hb hby at_174) rfl ?_
    show SP p e below T23 m 176 #[vi p0, vi p1, vi p2, vi p3, vi (own_n pn), vi (own_n dn), vr b_1, vr b_3, vr rb_18, vi (own_n (pn + 2 + dn))] [(.int (own_n (pn + 2 + dn))), (.int (own_n pn)), (.ref b_3), (.ref b_1), (.int 3), (.ref rb_18)] _
    refine st24 _ ?_
    show SP p e below T24 m 179 #[vi p0, vi p1, vi p2, vi p3, vi (own_n pn), vi (own_n dn), vr b_1, vr b_3, vr rb_18, vi (own_n (pn + 2 + dn))] [(.int 1)] _
    refine XS.ifNo X24.here hx rfl (hb hby at_179) rfl ((if0 _ _).trans (feq (by decide : ¬ ((1 : Int32) = (0 : Int32)))).1) ?_
    refine XS.aload X24.here hx rfl (hb hby at_182) rfl rfl ?_
    refine XS.iconst X24.here hx rfl (hb hby at_184) ?_
    refine XS.aload X24.here hx rfl (hb hby at_185) rfl rfl ?_
    refine XS.aload X24.here hx rfl (hb hby at_187) rfl rfl ?_
    refine XS.iload X24.here hx rfl (hb hby at_189) rfl ?_
    refine XS.iload X24.here hx rfl (hb hby at_191) rfl ?_
    show SP p e below T24 m 193 #[vi p0, vi p1, vi p2, vi p3, vi (own_n pn), vi (own_n dn), vr b_1, vr b_3, vr rb_18, vi (own_n (pn + 2 + dn))] [(.int (own_n (pn + 2 + dn))), (.int (own_n pn)), (.ref b_3), (.ref b_1), (.int 4), (.ref rb_18)] _
    refine st25 _ ?_
    show SP p e below T25 m 196 #[vi p0, vi p1, vi p2, vi p3, vi (own_n pn), vi (own_n dn), vr b_1, vr b_3, vr rb_18, vi (own_n (pn + 2 + dn))] [(.int 1)] _
    refine XS.ifNo X25.here hx rfl (hb hby at_196) rfl ((if0 _ _).trans (feq (by decide : ¬ ((1 : Int32) = (0 : Int32)))).1) ?_
    refine XS.aload X25.here hx rfl (hb hby at_199) rfl rfl ?_
    refine XS.iconst X25.here hx rfl (hb hby at_201) ?_
    refine XS.aload X25.here hx rfl (hb hby at_202) rfl rfl ?_
    refine XS.aload X25.here hx rfl (hb hby at_204) rfl rfl ?_
    refine XS.iload X25.here hx rfl (hb hby at_206) rfl ?_
    refine XS.iload X25.here hx rfl (hb hby at_208) rfl ?_
    show SP p e below T25 m 210 #[vi p0, vi p1, vi p2, vi p3, vi (own_n pn), vi (own_n dn), vr b_1, vr b_3, vr rb_18, vi (own_n (pn + 2 + dn))] [(.int (own_n (pn + 2 + dn))), (.int (own_n pn)), (.ref b_3), (.ref b_1), (.int 5), (.ref rb_18)] _
    refine st26 _ ?_
    show SP p e below T26 m 213 #[vi p0, vi p1, vi p2, vi p3, vi (own_n pn), vi (own_n dn), vr b_1, vr b_3, vr rb_18, vi (own_n (pn + 2 + dn))] [(.int 1)] _
    refine XS.ifNo X26.here hx rfl (hb hby at_213) rfl ((if0 _ _).trans (feq (by decide : ¬ ((1 : Int32) = (0 : Int32)))).1) ?_
    refine XS.aload X26.here hx rfl (hb hby at_216) rfl rfl ?_
    refine XS.bipush X26.here hx rfl (hb hby at_218) ?_
    refine XS.aload X26.here hx rfl (hb hby at_220) rfl rfl ?_
    refine XS.aload X26.here hx rfl (hb hby at_222) rfl rfl ?_
    refine XS.iload X26.here hx rfl (hb hby at_224) rfl ?_
    refine XS.iload X26.here hx rfl (hb hby at_226) rfl ?_
    show SP p e below T26 m 228 #[vi p0, vi p1, vi p2, vi p3, vi (own_n pn), vi (own_n dn), vr b_1, vr b_3, vr rb_18, vi (own_n (pn + 2 + dn))] [(.int (own_n (pn + 2 + dn))), (.int (own_n pn)), (.ref b_3), (.ref b_1), (.int 6), (.ref rb_18)] _
    refine st27 _ ?_
    show SP p e below T27 m 231 #[vi p0, vi p1, vi p2, vi p3, vi (own_n pn), vi (own_n dn), vr b_1, vr b_3, vr rb_18, vi (own_n (pn + 2 + dn))] [(.int 1)] _
    refine XS.ifNo X27.here hx rfl (hb hby at_231) rfl ((if0 _ _).trans (feq (by decide : ¬ ((1 : Int32) = (0 : Int32)))).1) ?_
    refine XS.aload X27.here hx rfl (hb hby at_234) rfl rfl ?_
    refine XS.bipush X27.here hx rfl (hb hby at_236) ?_
    refine XS.aload X27.here hx rfl (hb hby at_238) rfl rfl ?_
    refine XS.aload X27.here hx rfl (hb hby at_240) rfl rfl ?_
    refine XS.iload X27.here hx rfl (hb hby at_242) rfl ?_
    refine XS.iload X27.here hx rfl (hb hby at_244) rfl ?_
    show SP p e below T27 m 246 #[vi p0, vi p1, vi p2, vi p3, vi (own_n pn), vi (own_n dn), vr b_1, vr b_3, vr rb_18, vi (own_n (pn + 2 + dn))] [(.int (own_n (pn + 2 + dn))), (.int (own_n pn)), (.ref b_3), (.ref b_1), (.int 7), (.ref rb_18)] _
    refine st28 _ ?_
    show SP p e below T28 m 249 #[vi p0, vi p1, vi p2, vi p3, vi (own_n pn), vi (own_n dn), vr b_1, vr b_3, vr rb_18, vi (own_n (pn + 2 + dn))] [(.int 1)] _
    refine XS.ifNo X28.here hx rfl (hb hby at_249) rfl ((if0 _ _).trans (feq (by decide : ¬ ((1 : Int32) = (0 : Int32)))).1) ?_
    refine XS.iconst X28.here hx rfl (hb hby at_252) ?_
    refine XS.goto X28.here hx rfl (pc0 := 253) (pc' := 257) rfl (hb hby at_253) (by decide) (by decide) ?_
    show SP p e below T28 m 257 #[vi p0, vi p1, vi p2, vi p3, vi (own_n pn), vi (own_n dn), vr b_1, vr b_3, vr rb_18, vi (own_n (pn + 2 + dn))] [(.int 1)] _
    exact retN X28 hx (t := .boolean) Bd.returns (by simp) (hb hby at_257) hr
  · show Q_rm0 n0 _ T28.heap _
    rw [e28]
    exact ⟨rfl, N28⟩
theorem comes_1 {Post : Tables → Env → Array Value → State → Outcome → State → Prop} (hpost : ∀ tb e args s v u, (limb_1_1.after args s (.returned v) u = true ∧ limb_1_2.after args s (.returned v) u = true ∧ True) → ReturnedEndW s (.returned v) u (Jvm.fieldLocs frame_1_writes args s ++ Jvm.arrayLocs frame_1_arrays args s ++ Jvm.staticLocs frame_1_statics s) 40 2368 → Post tb e args s (.returned v) u) :
    ArmFor flags0 classFile x code maxLocals ret World_1 tables_1 room_1 Calls_1 rest_1 Pre_1 Post := by
  intro l hfl _ _ p e ha hc hk s m args below hf hA hF happ hP
  obtain ⟨hcalls, hrest, hpre⟩ := hP
  obtain ⟨-, -, -, hnamed, -, -, -, hat⟩ := (Spec.applies_iff hf).mp happ
  obtain ⟨hg, hn⟩ := and_e (Cond.before_iff.mp (show (Jvm.Cond.and given_1 narrow_1).before args s = true from hpre))
  obtain ⟨gv_l0, gv_r0⟩ := and_e hg
  obtain ⟨gv_l2, gv_r2⟩ := and_e gv_r0
  obtain ⟨gv_l4, gv_r4⟩ := and_e gv_r2
  obtain ⟨gv_l6, gv_r6⟩ := and_e gv_r4
  obtain ⟨w0, w1, w2, w3, rfl⟩ : ∃ w0 w1 w2 w3 : Value, args = #[w0, w1, w2, w3] := by
    have hs : args.size = 4 := by simpa [Cond.value, given_1] using gv_l0
    obtain ⟨L⟩ := args
    match L, hs with
    | [w0, w1, w2, w3], _ => exact ⟨w0, w1, w2, w3, rfl⟩
  have hw := fun d (hd : d ∈ tables_1) => atoms_spec (ws := Jvm.Cond.code x code maxLocals ret :: tables_1) hat d (List.mem_cons_of_mem _ hd)
  have hfit : Fit s := fun {y c} hc i hi => by
    obtain ⟨ha, rfl⟩ := Array.getElem?_eq_some_iff.mp hc
    have q := List.all_eq_true.mp ((Array.all_eq_true_iff_forall_mem.mp hF) _ (Array.getElem_mem ha)) i (List.mem_range.mpr hi)
    simpa [Array.getElem?_eq_getElem hi] using q
  obtain ⟨hsets, hown0⟩ := atoms_of _ (rest_1_c_eq ▸ (show rest_1_c.before _ s = true from hrest))
  have hr0 := Cond.before_iff.mp hown0
  obtain ⟨i0, ei0⟩ := is_v gv_l2
  obtain rfl : w0 = (.int i0) := Option.some.inj ei0
  obtain ⟨i1, ei1⟩ := is_v gv_l4
  obtain rfl : w1 = (.int i1) := Option.some.inj ei1
  obtain ⟨i2, ei2⟩ := is_v gv_l6
  obtain rfl : w2 = (.int i2) := Option.some.inj ei2
  obtain ⟨i3, ei3⟩ := is_v gv_r6
  obtain rfl : w3 = (.int i3) := Option.some.inj ei3
  obtain ⟨cS, eCS⟩ := is_v (Cond.before_iff.mp (hsets _ (List.mem_of_getElem? (i := 1) rfl)))
  have SCS := Sta.start eCS (Or.inl (hsets _ (List.mem_of_getElem? (i := 0) rfl)))
  have PCS : ¬ (cS = (0 : Int32)) := gotF (Cond.eq_ints eCS (Term.int_eval (0 : Int32))) (not_v (Cond.before_iff.mp (hsets _ (List.mem_of_getElem? (i := 2) rfl))))
  obtain ⟨vF, eVF, rVF⟩ := own_refv (Cond.before_iff.mp (hsets _ (List.mem_of_getElem? (i := 8) rfl)))
  have GL : GF s cS vF := ⟨SCS, PCS, Sta.start (Cond.eq_int (beq_iff_eq.mpr (Cond.before_iff.mp (hsets _ (List.mem_of_getElem? (i := 12) rfl)))) (Term.int_eval (1 : Int32))) (Or.inl (hsets _ (List.mem_of_getElem? (i := 11) rfl))), Sta.start (Cond.eq_int (beq_iff_eq.mpr (Cond.before_iff.mp (hsets _ (List.mem_of_getElem? (i := 15) rfl)))) (Term.int_eval (0 : Int32))) (Or.inl (hsets _ (List.mem_of_getElem? (i := 14) rfl))), Sta.start (Cond.eq_int (beq_iff_eq.mpr (Cond.before_iff.mp (hsets _ (List.mem_of_getElem? (i := 18) rfl)))) (Term.int_eval (8 : Int32))) (Or.inl (hsets _ (List.mem_of_getElem? (i := 17) rfl))), Sta.start eVF (Or.inl (hsets _ (List.mem_of_getElem? (i := 7) rfl))), rVF⟩
  have H0 : CHv s EL1 s.vm s.heap := CHv.start (own_EW hw) hcalls.1 (hsets _ (List.mem_of_getElem? (i := 2) rfl)) (Wd hw 23 rfl) (Wd hw 10 rfl)
  obtain ⟨n, o, h1, h2, h3, _, L, rfl, ⟨rfl, N⟩, -, hq⟩ := rm0 l s _ hw tables_1 cS vF i0 i1 i2 i3 s.heap s.heap.size (Old.start s) GL p e ha hc hk s m _ below hf ((Spec.applies_iff_loose hf).mp happ).1 ⟨rfl, State.Warmed39.refl s, rfl, H0⟩ trivial
  refine ⟨n, _, h1, h2, h3, hpost _ _ _ _ _ _ ⟨Cond.after_iff.mpr rfl, Cond.after_iff.mpr (eq_i res_at (Term.int_eval 1) rfl), trivial⟩ ⟨hq.1, hq.2.1, hq.2.2.1, (hq.2.2.2.sift fun y hy => Or.inr (N y hy)).mono (by decide) (by decide)⟩⟩
theorem main_1_1 : Claimed_1_1 := comes_1 fun _ _ _ _ _ _ h hF => ⟨h.1, hF⟩
theorem main_1_2 : Claimed_1_2 := comes_1 fun _ _ _ _ _ _ h hF => ⟨h.2.1, hF⟩
end Jvm.Pilot.@@N@@
namespace Jvm.Pilot.@@N@@
open Jvm Jvm.ClassFile Sem Op Lib Jvm.Free Jvm.Stand Jvm.Pilot.@@N@@.Jvm.D
/-! MADE BY PROGRAM (witnessworld.py) out of the Statement's table words and the real class files: 27 classes; the members and pool entries that the words name. The judged class is class 1, her method 1. -/
namespace start1
open Jvm.ClassFile
def u (s : String) : CpInfo := .utf8 (stringToUtf16 s)
/-- a pool by its gaps: so many unusable entries, then the entry; so many at the end -/
def gap : Nat → List CpInfo → List CpInfo
  | 0, r => r
  | n + 1, r => .unusable :: gap n r
def poolList (es : List (Nat × CpInfo)) (last : Nat) : List CpInfo := es.foldr (fun e r => gap e.1 (e.2 :: r)) (gap last [])
def pool (es : List (Nat × CpInfo)) (last : Nat) : Array CpInfo := ⟨poolList es last⟩
def fileOf (pool : Array CpInfo) (this : Nat) (attrs : Array Attribute := #[]) (ms : Array MethodInfo := #[]) (fl : Nat := 33) (sup : Nat := 0) (ifs : Array Nat := #[]) (fds : Array FieldInfo := #[]) : ClassFile where
  minorVersion := 0
  majorVersion := 65
  constantPool := pool
  accessFlags := fl
  thisClass := this
  superClass := sup
  interfaces := ifs
  fields := fds
  methods := ms
  attributes := attrs
def plain (name : String) (sup : Option ClassId) : Class where
  name := name
  kind := .ordinary
  loader := none
  accessFlags := 33
  super := sup
  interfaces := #[]
  cf := none
  fields := #[]
  methods := #[]
  instanceTypes := #[]
  staticTypes := #[]
  resolved := #[]
  callSites := []
  init := .initialized
  statics := none
  mirror := none

def pool0 : Array CpInfo := pool [(5, u "<init>"), (0, u "()V"), (1, .class_ 10), (1, u "java/lang/Object")] 113

def k0c0 : Code := { maxStack := 0, maxLocals := 1, code := object_method_1_code, exceptionTable := #[], attributes := #[] }
def k0m0 : Method := { name := "<init>", desc := "()V", sig := { parameters := [], returnType := none }, accessFlags := 1, code := some k0c0 }
/-- java/lang/Object -/
def k0 : Class := { plain "java/lang/Object" none with
  accessFlags := 33
  interfaces := #[]
  cf := some (fileOf pool0 8 #[] #[{ accessFlags := 1, nameIndex := 5, descriptorIndex := 6, attributes := #[] }] 33 0 #[] #[])
  fields := #[]
  methods := #[k0m0]
  instanceTypes := #[]
  staticTypes := #[]
  resolved := Array.replicate 124 none
  statics := none }

def pool1 : Array CpInfo := pool [(2, .class_ 4), (1, u "java/lang/Object"), (0, u "<init>"), (0, u "()V"), (0, .integer 65535), (0, .methodref 9 10), (0, .class_ 11), (0, .nameAndType 12 13), (0, u "com/example/loomwire/loomwire/manifest/WrittenClauseToStringPinLaw"), (0, u "mk"), (0, u "(ICCC)[C"), (0, .class_ 15), (0, u "com/example/loomwire/loomwire/manifest/WrittenClause"), (0, .class_ 17), (0, u "java/lang/String"), (0, .methodref 16 19), (0, .nameAndType 5 20), (0, u "([C)V"), (0, .methodref 14 22), (0, .nameAndType 5 23), (0, u "(Ljava/lang/String;Ljava/lang/String;)V"), (0, .methodref 14 25), (0, .nameAndType 26 27), (0, u "toString"), (0, u "()Ljava/lang/String;"), (0, .methodref 16 29), (0, .nameAndType 30 31), (0, u "length"), (0, u "()I"), (0, .methodref 9 33), (0, .nameAndType 34 35), (0, u "at"), (0, u "(Ljava/lang/String;I[C[CII)Z"), (0, .methodref 16 37), (0, .nameAndType 38 39), (0, u "charAt"), (0, u "(I)C"), (2, u "law"), (0, u "(IIII)Z")] 5

def k1m0 : Method := { name := "<init>", desc := "()V", sig := { parameters := [], returnType := none }, accessFlags := 1, code := none }
def k1c1 : Code := { maxStack := 6, maxLocals := 10, code := code, exceptionTable := #[], attributes := #[] }
def k1m1 : Method := { name := "law", desc := "(IIII)Z", sig := { parameters := [.int, .int, .int, .int], returnType := some .boolean }, accessFlags := 9, code := some k1c1 }
def k1c2 : Code := { maxStack := 3, maxLocals := 7, code := method_3_code, exceptionTable := #[], attributes := #[] }
def k1m2 : Method := { name := "at", desc := "(Ljava/lang/String;I[C[CII)Z", sig := { parameters := [(.object "java/lang/String"), .int, (.array .char), (.array .char), .int, .int], returnType := some .boolean }, accessFlags := 10, code := some k1c2 }
def k1c3 : Code := { maxStack := 4, maxLocals := 4, code := method_4_code, exceptionTable := #[], attributes := #[] }
def k1m3 : Method := { name := "mk", desc := "(ICCC)[C", sig := { parameters := [.int, .char, .char, .char], returnType := some (.array .char) }, accessFlags := 10, code := some k1c3 }
/-- com/example/loomwire/loomwire/manifest/WrittenClauseToStringPinLaw -/
def k1 : Class := { plain "com/example/loomwire/loomwire/manifest/WrittenClauseToStringPinLaw" (some 0) with
  accessFlags := 49
  interfaces := #[]
  cf := some (fileOf pool1 9 #[] #[{ accessFlags := 1, nameIndex := 5, descriptorIndex := 6, attributes := #[] }, { accessFlags := 9, nameIndex := 42, descriptorIndex := 43, attributes := #[] }, { accessFlags := 10, nameIndex := 34, descriptorIndex := 35, attributes := #[] }, { accessFlags := 10, nameIndex := 12, descriptorIndex := 13, attributes := #[] }] 49 2 #[] #[])
  fields := #[]
  methods := #[k1m0, k1m1, k1m2, k1m3]
  instanceTypes := #[]
  staticTypes := #[]
  resolved := Array.replicate 49 none
  statics := none }

def pool2 : Array CpInfo := pool [(1, .methodref 2 3), (0, .class_ 4), (0, .nameAndType 5 6), (0, u "java/lang/Object"), (0, u "<init>"), (0, u "()V"), (0, .class_ 8), (0, u "java/lang/Record")] 13

def k2c0 : Code := { maxStack := 1, maxLocals := 1, code := jdk_30_method_1_code, exceptionTable := #[], attributes := #[] }
def k2m0 : Method := { name := "<init>", desc := "()V", sig := { parameters := [], returnType := none }, accessFlags := 4, code := some k2c0 }
/-- java/lang/Record -/
def k2 : Class := { plain "java/lang/Record" (some 0) with
  accessFlags := 1057
  interfaces := #[]
  cf := some (fileOf pool2 7 #[] #[{ accessFlags := 4, nameIndex := 5, descriptorIndex := 6, attributes := #[] }] 1057 2 #[] #[])
  fields := #[]
  methods := #[k2m0]
  instanceTypes := #[]
  staticTypes := #[]
  resolved := Array.replicate 22 none
  statics := none }

def pool3 : Array CpInfo := pool [(1, .methodref 2 3), (0, .class_ 4), (0, .nameAndType 5 6), (0, u "java/lang/Record"), (0, u "<init>"), (0, u "()V"), (0, .fieldref 8 9), (0, .class_ 10), (0, .nameAndType 11 12), (0, u "com/example/loomwire/loomwire/manifest/WrittenClause"), (0, u "header"), (0, u "Ljava/lang/String;"), (0, .fieldref 8 14), (0, .nameAndType 15 12), (0, u "text"), (0, .class_ 17), (0, u "java/lang/StringBuilder"), (0, .methodref 16 3), (0, .methodref 16 20), (0, .nameAndType 21 22), (0, u "append"), (0, u "(Ljava/lang/String;)Ljava/lang/StringBuilder;"), (0, .string 24), (0, u ": "), (0, .methodref 16 26), (0, .nameAndType 27 28), (0, u "toString"), (0, u "()Ljava/lang/String;"), (8, u "(Ljava/lang/String;Ljava/lang/String;)V")] 26

def k3c0 : Code := { maxStack := 2, maxLocals := 3, code := prog_16_method_1_code, exceptionTable := #[], attributes := #[] }
def k3m0 : Method := { name := "<init>", desc := "(Ljava/lang/String;Ljava/lang/String;)V", sig := { parameters := [(.object "java/lang/String"), (.object "java/lang/String")], returnType := none }, accessFlags := 1, code := some k3c0 }
def k3c1 : Code := { maxStack := 2, maxLocals := 1, code := prog_16_method_2_code, exceptionTable := #[], attributes := #[] }
def k3m1 : Method := { name := "toString", desc := "()Ljava/lang/String;", sig := { parameters := [], returnType := some (.object "java/lang/String") }, accessFlags := 1, code := some k3c1 }
/-- com/example/loomwire/loomwire/manifest/WrittenClause -/
def k3 : Class := { plain "com/example/loomwire/loomwire/manifest/WrittenClause" (some 2) with
  accessFlags := 49
  interfaces := #[]
  cf := some (fileOf pool3 8 #[] #[{ accessFlags := 1, nameIndex := 5, descriptorIndex := 37, attributes := #[] }, { accessFlags := 1, nameIndex := 27, descriptorIndex := 28, attributes := #[] }] 49 2 #[] #[{ accessFlags := 18, nameIndex := 11, descriptorIndex := 12, attributes := #[] }, { accessFlags := 18, nameIndex := 15, descriptorIndex := 12, attributes := #[] }])
  fields := #[{ name := "header", type := (.object "java/lang/String"), accessFlags := 18, slot := 0, constantValue := 0 }, { name := "text", type := (.object "java/lang/String"), accessFlags := 18, slot := 1, constantValue := 0 }]
  methods := #[k3m0, k3m1]
  instanceTypes := #[(.object "java/lang/String"), (.object "java/lang/String")]
  staticTypes := #[]
  resolved := Array.replicate 64 none
  statics := none }

def pool4 : Array CpInfo := pool [(1, .class_ 2), (0, u "java/io/Serializable"), (0, .class_ 4), (0, u "java/lang/Object")] 2

/-- java/io/Serializable -/
def k4 : Class := { plain "java/io/Serializable" (some 0) with
  accessFlags := 1537
  interfaces := #[]
  cf := some (fileOf pool4 1 #[] #[] 1537 3 #[] #[])
  fields := #[]
  methods := #[]
  instanceTypes := #[]
  staticTypes := #[]
  resolved := Array.replicate 7 none
  statics := none }

def pool5 : Array CpInfo := pool [(1, .class_ 2), (0, u "java/lang/Comparable"), (0, .class_ 4), (0, u "java/lang/Object")] 7

/-- java/lang/Comparable -/
def k5 : Class := { plain "java/lang/Comparable" (some 0) with
  accessFlags := 1537
  interfaces := #[]
  cf := some (fileOf pool5 1 #[] #[] 1537 3 #[] #[])
  fields := #[]
  methods := #[]
  instanceTypes := #[]
  staticTypes := #[]
  resolved := Array.replicate 12 none
  statics := none }

def pool6 : Array CpInfo := pool [(2, .class_ 4), (1, u "java/lang/CharSequence"), (42, .class_ 48), (0, u "java/lang/CharSequence$1CodePointIterator"), (10, .class_ 60), (0, u "java/lang/CharSequence$1CharIterator"), (5, .class_ 67), (0, u "java/lang/Object")] 63

/-- java/lang/CharSequence -/
def k6 : Class := { plain "java/lang/CharSequence" (some 0) with
  accessFlags := 1537
  interfaces := #[]
  cf := some (fileOf pool6 2 #[.nestMembers #[47, 59]] #[] 1537 66 #[] #[])
  fields := #[]
  methods := #[]
  instanceTypes := #[]
  staticTypes := #[]
  resolved := Array.replicate 131 none
  statics := none }

def pool7 : Array CpInfo := pool [(1, .class_ 2), (0, u "java/lang/constant/Constable"), (0, .class_ 4), (0, u "java/lang/Object")] 6

/-- java/lang/constant/Constable -/
def k7 : Class := { plain "java/lang/constant/Constable" (some 0) with
  accessFlags := 1537
  interfaces := #[]
  cf := some (fileOf pool7 1 #[] #[] 1537 3 #[] #[])
  fields := #[]
  methods := #[]
  instanceTypes := #[]
  staticTypes := #[]
  resolved := Array.replicate 11 none
  statics := none }

def pool8 : Array CpInfo := pool [(1, .class_ 2), (0, u "java/lang/constant/ConstantDesc"), (0, .class_ 4), (0, u "java/lang/Object")] 32

/-- java/lang/constant/ConstantDesc -/
def k8 : Class := { plain "java/lang/constant/ConstantDesc" (some 0) with
  accessFlags := 1537
  interfaces := #[]
  cf := some (fileOf pool8 1 #[] #[] 1537 3 #[] #[])
  fields := #[]
  methods := #[]
  instanceTypes := #[]
  staticTypes := #[]
  resolved := Array.replicate 37 none
  statics := none }

def pool9 : Array CpInfo := pool [(1, .methodref 2 3), (0, .class_ 4), (0, .nameAndType 5 6), (0, u "java/lang/Object"), (0, u "<init>"), (0, u "()V"), (0, .string 8), (0, u ""), (0, .fieldref 10 11), (0, .class_ 12), (0, .nameAndType 13 14), (0, u "java/lang/String"), (0, u "value"), (0, u "[B"), (0, .fieldref 10 16), (0, .nameAndType 17 18), (0, u "coder"), (0, u "B"), (2, u "hash"), (0, u "I"), (2, u "hashIsZero"), (0, u "Z"), (0, .methodref 10 28), (0, .nameAndType 5 29), (0, u "([CIILjava/lang/Void;)V"), (6, u "checkBoundsOffCount"), (0, u "(III)I"), (0, .fieldref 10 39), (0, .nameAndType 40 26), (0, u "COMPACT_STRINGS"), (1, .class_ 44), (1, u "java/lang/StringUTF16"), (0, u "compress"), (1, .methodref 42 48), (0, .nameAndType 49 50), (0, u "coderFromArrayLen"), (0, u "([BI)B"), (3, .methodref 55 56), (0, .class_ 57), (0, .nameAndType 58 59), (0, u "java/util/Arrays"), (0, u "copyOfRange"), (0, u "([BII)[B"), (46, .methodref 107 108), (0, .class_ 109), (0, .nameAndType 110 111), (0, u "java/lang/StringLatin1"), (0, u "inflate"), (0, u "([BI[BII)V"), (30, u "()Z"), (34, .methodref 42 178), (0, .nameAndType 45 179), (0, u "([CII)[B"), (13, .class_ 195), (1, u "java/lang/System"), (16, .methodref 193 213), (0, .nameAndType 214 215), (0, u "arraycopy"), (0, u "(Ljava/lang/Object;ILjava/lang/Object;II)V"), (118, u "()I"), (0, .methodref 10 336), (0, .nameAndType 17 337), (0, u "()B"), (2, u "()[B"), (22, u "([BI)C"), (27, u "(II)V"), (35, u "(I)C"), (61, .methodref 10 490), (0, .nameAndType 5 491), (0, u "(Ljava/lang/AbstractStringBuilder;Ljava/lang/Void;)V"), (0, .methodref 10 493), (0, .nameAndType 494 142), (0, u "isLatin1"), (0, .methodref 107 496), (0, .nameAndType 497 363), (0, u "charAt"), (0, .methodref 42 496), (2, u "checkIndex"), (4, .nameAndType 507 334), (0, u "length"), (24, u "getBytes"), (16, .methodref 550 506), (0, .class_ 551), (0, u "java/lang/AbstractStringBuilder"), (0, .methodref 550 553), (0, .nameAndType 554 340), (0, u "getValue"), (20, .class_ 576), (0, u "java/lang/CharSequence"), (22, u "CASE_INSENSITIVE_ORDER"), (0, u "Ljava/util/Comparator;"), (220, u "([BIB)V"), (188, u "([C)V"), (36, .methodref 550 493), (0, .fieldref 550 1049), (0, .nameAndType 1050 26), (0, u "maybeLatin1"), (2, .fieldref 1054 1055), (0, .class_ 1056), (0, .nameAndType 1057 1058), (0, u "jdk/internal/util/Preconditions"), (0, u "SIOOBE_FORMATTER"), (0, u "Ljava/util/function/BiFunction;"), (0, .methodref 1054 1060), (0, .nameAndType 501 1061), (0, u "(IILjava/util/function/BiFunction;)I"), (2, u "(IIILjava/util/function/BiFunction;)I"), (0, .methodref 1054 1066), (0, .nameAndType 1067 1064), (0, u "checkFromIndexSize"), (33, u "serialPersistentFields"), (0, u "[Ljava/io/ObjectStreamField;"), (0, .class_ 1104), (0, u "java/lang/String$CaseInsensitiveComparator"), (1, .class_ 1107), (0, u "java/io/Serializable"), (0, .class_ 1109), (0, u "java/lang/Comparable"), (0, .class_ 1111), (0, u "java/lang/constant/Constable"), (0, .class_ 1113), (0, u "java/lang/constant/ConstantDesc"), (2, u "serialVersionUID"), (0, u "J"), (3, u "REPL"), (0, u "C"), (2, u "LATIN1"), (1, u "UTF16"), (105, u "(Ljava/lang/StringBuilder;)V")] 217

def k9m0 : Method := { name := "<init>", desc := "()V", sig := { parameters := [], returnType := none }, accessFlags := 1, code := none }
def k9c1 : Code := { maxStack := 5, maxLocals := 2, code := jdk_42_method_3_code, exceptionTable := #[], attributes := #[] }
def k9m1 : Method := { name := "<init>", desc := "([C)V", sig := { parameters := [(.array .char)], returnType := none }, accessFlags := 1, code := some k9c1 }
def k9c2 : Code := { maxStack := 3, maxLocals := 2, code := jdk_42_method_53_code, exceptionTable := #[], attributes := #[] }
def k9m2 : Method := { name := "<init>", desc := "(Ljava/lang/StringBuilder;)V", sig := { parameters := [(.object "java/lang/StringBuilder")], returnType := none }, accessFlags := 1, code := some k9c2 }
def k9c3 : Code := { maxStack := 2, maxLocals := 1, code := jdk_42_method_54_code, exceptionTable := #[], attributes := #[] }
def k9m3 : Method := { name := "length", desc := "()I", sig := { parameters := [], returnType := some .int }, accessFlags := 1, code := some k9c3 }
def k9c4 : Code := { maxStack := 2, maxLocals := 2, code := jdk_42_method_56_code, exceptionTable := #[], attributes := #[] }
def k9m4 : Method := { name := "charAt", desc := "(I)C", sig := { parameters := [.int], returnType := some .char }, accessFlags := 1, code := some k9c4 }
def k9c5 : Code := { maxStack := 5, maxLocals := 4, code := jdk_42_method_147_code, exceptionTable := #[], attributes := #[] }
def k9m5 : Method := { name := "getBytes", desc := "([BIB)V", sig := { parameters := [(.array .byte), .int, .byte], returnType := none }, accessFlags := 0, code := some k9c5 }
def k9c6 : Code := { maxStack := 4, maxLocals := 6, code := jdk_42_method_149_code, exceptionTable := #[], attributes := #[] }
def k9m6 : Method := { name := "<init>", desc := "([CIILjava/lang/Void;)V", sig := { parameters := [(.array .char), .int, .int, (.object "java/lang/Void")], returnType := none }, accessFlags := 2, code := some k9c6 }
def k9c7 : Code := { maxStack := 5, maxLocals := 5, code := jdk_42_method_150_code, exceptionTable := #[], attributes := #[] }
def k9m7 : Method := { name := "<init>", desc := "(Ljava/lang/AbstractStringBuilder;Ljava/lang/Void;)V", sig := { parameters := [(.object "java/lang/AbstractStringBuilder"), (.object "java/lang/Void")], returnType := none }, accessFlags := 0, code := some k9c7 }
def k9c8 : Code := { maxStack := 1, maxLocals := 1, code := jdk_42_method_152_code, exceptionTable := #[], attributes := #[] }
def k9m8 : Method := { name := "coder", desc := "()B", sig := { parameters := [], returnType := some .byte }, accessFlags := 0, code := some k9c8 }
def k9c9 : Code := { maxStack := 1, maxLocals := 1, code := jdk_42_method_154_code, exceptionTable := #[], attributes := #[] }
def k9m9 : Method := { name := "isLatin1", desc := "()Z", sig := { parameters := [], returnType := some .boolean }, accessFlags := 0, code := some k9c9 }
def k9c10 : Code := { maxStack := 3, maxLocals := 2, code := jdk_42_method_155_code, exceptionTable := #[], attributes := #[] }
def k9m10 : Method := { name := "checkIndex", desc := "(II)V", sig := { parameters := [.int, .int], returnType := none }, accessFlags := 8, code := some k9c10 }
def k9c11 : Code := { maxStack := 4, maxLocals := 3, code := jdk_42_method_157_code, exceptionTable := #[], attributes := #[] }
def k9m11 : Method := { name := "checkBoundsOffCount", desc := "(III)I", sig := { parameters := [.int, .int, .int], returnType := some .int }, accessFlags := 8, code := some k9c11 }
/-- java/lang/String -/
def k9 : Class := { plain "java/lang/String" (some 0) with
  accessFlags := 49
  interfaces := #[4, 5, 6, 7, 8]
  cf := some (fileOf pool9 10 #[.nestMembers #[1103]] #[{ accessFlags := 1, nameIndex := 5, descriptorIndex := 6, attributes := #[] }, { accessFlags := 1, nameIndex := 5, descriptorIndex := 1010, attributes := #[] }, { accessFlags := 1, nameIndex := 5, descriptorIndex := 1233, attributes := #[] }, { accessFlags := 1, nameIndex := 507, descriptorIndex := 334, attributes := #[] }, { accessFlags := 1, nameIndex := 497, descriptorIndex := 427, attributes := #[] }, { accessFlags := 0, nameIndex := 532, descriptorIndex := 821, attributes := #[] }, { accessFlags := 2, nameIndex := 5, descriptorIndex := 29, attributes := #[] }, { accessFlags := 0, nameIndex := 5, descriptorIndex := 491, attributes := #[] }, { accessFlags := 0, nameIndex := 17, descriptorIndex := 337, attributes := #[] }, { accessFlags := 0, nameIndex := 494, descriptorIndex := 142, attributes := #[] }, { accessFlags := 8, nameIndex := 501, descriptorIndex := 391, attributes := #[] }, { accessFlags := 8, nameIndex := 36, descriptorIndex := 37, attributes := #[] }] 49 2 #[1106, 1108, 575, 1110, 1112] #[{ accessFlags := 18, nameIndex := 13, descriptorIndex := 14, attributes := #[] }, { accessFlags := 18, nameIndex := 17, descriptorIndex := 18, attributes := #[] }, { accessFlags := 2, nameIndex := 21, descriptorIndex := 22, attributes := #[] }, { accessFlags := 2, nameIndex := 25, descriptorIndex := 26, attributes := #[] }, { accessFlags := 26, nameIndex := 1116, descriptorIndex := 1117, attributes := #[] }, { accessFlags := 24, nameIndex := 40, descriptorIndex := 26, attributes := #[] }, { accessFlags := 26, nameIndex := 1101, descriptorIndex := 1102, attributes := #[] }, { accessFlags := 26, nameIndex := 1121, descriptorIndex := 1122, attributes := #[] }, { accessFlags := 25, nameIndex := 599, descriptorIndex := 600, attributes := #[] }, { accessFlags := 24, nameIndex := 1125, descriptorIndex := 18, attributes := #[] }, { accessFlags := 24, nameIndex := 1127, descriptorIndex := 18, attributes := #[] }])
  fields := #[{ name := "value", type := (.array .byte), accessFlags := 18, slot := 0, constantValue := 0 }, { name := "coder", type := .byte, accessFlags := 18, slot := 1, constantValue := 0 }, { name := "hash", type := .int, accessFlags := 2, slot := 2, constantValue := 0 }, { name := "hashIsZero", type := .boolean, accessFlags := 2, slot := 3, constantValue := 0 }, { name := "serialVersionUID", type := .long, accessFlags := 26, slot := 0, constantValue := 0 }, { name := "COMPACT_STRINGS", type := .boolean, accessFlags := 24, slot := 1, constantValue := 0 }, { name := "serialPersistentFields", type := (.array (.object "java/io/ObjectStreamField")), accessFlags := 26, slot := 2, constantValue := 0 }, { name := "REPL", type := .char, accessFlags := 26, slot := 3, constantValue := 0 }, { name := "CASE_INSENSITIVE_ORDER", type := (.object "java/util/Comparator"), accessFlags := 25, slot := 4, constantValue := 0 }, { name := "LATIN1", type := .byte, accessFlags := 24, slot := 5, constantValue := 0 }, { name := "UTF16", type := .byte, accessFlags := 24, slot := 6, constantValue := 0 }]
  methods := #[k9m0, k9m1, k9m2, k9m3, k9m4, k9m5, k9m6, k9m7, k9m8, k9m9, k9m10, k9m11]
  instanceTypes := #[(.array .byte), .byte, .int, .boolean]
  staticTypes := #[.long, .boolean, (.array (.object "java/io/ObjectStreamField")), .char, (.object "java/util/Comparator"), .byte, .byte]
  resolved := Array.replicate 1451 none
  statics := some 0 }

def pool10 : Array CpInfo := pool [(1, .class_ 2), (0, u "java/lang/Appendable"), (0, .class_ 4), (0, u "java/lang/Object")] 9

/-- java/lang/Appendable -/
def k10 : Class := { plain "java/lang/Appendable" (some 0) with
  accessFlags := 1537
  interfaces := #[]
  cf := some (fileOf pool10 1 #[] #[] 1537 3 #[] #[])
  fields := #[]
  methods := #[]
  instanceTypes := #[]
  staticTypes := #[]
  resolved := Array.replicate 14 none
  statics := none }

def pool11 : Array CpInfo := pool [(1, .class_ 2), (0, u "java/lang/String"), (0, .methodref 4 5), (0, .class_ 6), (0, .nameAndType 7 8), (0, u "java/lang/Object"), (0, u "<init>"), (0, u "()V"), (1, .class_ 12), (1, u "java/lang/AbstractStringBuilder"), (0, u "EMPTYVALUE"), (0, u "[B"), (0, .fieldref 10 16), (0, .nameAndType 17 14), (0, u "value"), (0, .fieldref 1 19), (0, .nameAndType 20 21), (0, u "COMPACT_STRINGS"), (0, u "Z"), (0, .fieldref 10 23), (0, .nameAndType 24 25), (0, u "coder"), (0, u "B"), (0, .methodref 27 28), (0, .class_ 29), (0, .nameAndType 30 31), (0, u "java/lang/StringUTF16"), (0, u "newBytesFor"), (0, u "(I)[B"), (0, .methodref 1 33), (0, .nameAndType 34 35), (0, u "length"), (0, u "()I"), (4, .methodref 1 41), (0, .nameAndType 24 42), (0, u "()B"), (2, u "append"), (0, u "(Ljava/lang/String;)Ljava/lang/AbstractStringBuilder;"), (1, .class_ 49), (0, u "java/lang/CharSequence"), (19, u "(Ljava/lang/String;)V"), (5, u "maybeLatin1"), (3, .fieldref 10 80), (0, .nameAndType 81 82), (0, u "count"), (0, u "I"), (0, .methodref 10 84), (0, .nameAndType 85 86), (0, u "isLatin1"), (0, u "()Z"), (1, .class_ 90), (1, u "java/lang/StringLatin1"), (9, .methodref 10 101), (0, .nameAndType 102 103), (0, u "ensureCapacityInternal"), (0, u "(I)V"), (21, .methodref 88 126), (0, .nameAndType 127 128), (0, u "inflate"), (0, u "([BI[BII)V"), (66, .methodref 10 196), (0, .nameAndType 127 8), (11, .methodref 10 209), (0, .nameAndType 210 211), (0, u "putStringAt"), (0, u "(ILjava/lang/String;)V"), (5, u "inflateIfNeededFor"), (2, .nameAndType 221 222), (0, u "getBytes"), (0, u "([BIB)V"), (174, .methodref 10 398), (0, .nameAndType 217 69), (0, .methodref 1 220), (3, u "()[B"), (40, .class_ 445), (0, u "java/lang/Appendable"), (106, u "getValue")] 56

def k11m0 : Method := { name := "<init>", desc := "()V", sig := { parameters := [], returnType := none }, accessFlags := 0, code := none }
def k11c1 : Code := { maxStack := 2, maxLocals := 2, code := jdk_68_method_2_code, exceptionTable := #[], attributes := #[] }
def k11m1 : Method := { name := "<init>", desc := "(I)V", sig := { parameters := [.int], returnType := none }, accessFlags := 0, code := some k11c1 }
def k11c2 : Code := { maxStack := 1, maxLocals := 1, code := jdk_68_method_6_code, exceptionTable := #[], attributes := #[] }
def k11m2 : Method := { name := "length", desc := "()I", sig := { parameters := [], returnType := some .int }, accessFlags := 1, code := some k11c2 }
def k11c3 : Code := { maxStack := 4, maxLocals := 3, code := jdk_68_method_9_code, exceptionTable := #[], attributes := #[] }
def k11m3 : Method := { name := "ensureCapacityInternal", desc := "(I)V", sig := { parameters := [.int], returnType := none }, accessFlags := 2, code := some k11c3 }
def k11c4 : Code := { maxStack := 5, maxLocals := 2, code := jdk_68_method_11_code, exceptionTable := #[], attributes := #[] }
def k11m4 : Method := { name := "inflate", desc := "()V", sig := { parameters := [], returnType := none }, accessFlags := 2, code := some k11c4 }
def k11c5 : Code := { maxStack := 3, maxLocals := 3, code := jdk_68_method_22_code, exceptionTable := #[], attributes := #[] }
def k11m5 : Method := { name := "append", desc := "(Ljava/lang/String;)Ljava/lang/AbstractStringBuilder;", sig := { parameters := [(.object "java/lang/String")], returnType := some (.object "java/lang/AbstractStringBuilder") }, accessFlags := 1, code := some k11c5 }
def k11c6 : Code := { maxStack := 1, maxLocals := 1, code := jdk_68_method_64_code, exceptionTable := #[], attributes := #[] }
def k11m6 : Method := { name := "getValue", desc := "()[B", sig := { parameters := [], returnType := some (.array .byte) }, accessFlags := 16, code := some k11c6 }
def k11c7 : Code := { maxStack := 1, maxLocals := 1, code := jdk_68_method_68_code, exceptionTable := #[], attributes := #[] }
def k11m7 : Method := { name := "isLatin1", desc := "()Z", sig := { parameters := [], returnType := some .boolean }, accessFlags := 16, code := some k11c7 }
def k11c8 : Code := { maxStack := 2, maxLocals := 2, code := jdk_68_method_71_code, exceptionTable := #[], attributes := #[] }
def k11m8 : Method := { name := "inflateIfNeededFor", desc := "(Ljava/lang/String;)V", sig := { parameters := [(.object "java/lang/String")], returnType := none }, accessFlags := 2, code := some k11c8 }
def k11c9 : Code := { maxStack := 4, maxLocals := 3, code := jdk_68_method_73_code, exceptionTable := #[], attributes := #[] }
def k11m9 : Method := { name := "putStringAt", desc := "(ILjava/lang/String;)V", sig := { parameters := [.int, (.object "java/lang/String")], returnType := none }, accessFlags := 2, code := some k11c9 }
/-- java/lang/AbstractStringBuilder -/
def k11 : Class := { plain "java/lang/AbstractStringBuilder" (some 0) with
  accessFlags := 1056
  interfaces := #[10, 6]
  cf := some (fileOf pool11 10 #[] #[{ accessFlags := 0, nameIndex := 7, descriptorIndex := 8, attributes := #[] }, { accessFlags := 0, nameIndex := 7, descriptorIndex := 103, attributes := #[] }, { accessFlags := 1, nameIndex := 34, descriptorIndex := 35, attributes := #[] }, { accessFlags := 2, nameIndex := 102, descriptorIndex := 103, attributes := #[] }, { accessFlags := 2, nameIndex := 127, descriptorIndex := 8, attributes := #[] }, { accessFlags := 1, nameIndex := 45, descriptorIndex := 46, attributes := #[] }, { accessFlags := 16, nameIndex := 552, descriptorIndex := 403, attributes := #[] }, { accessFlags := 16, nameIndex := 85, descriptorIndex := 86, attributes := #[] }, { accessFlags := 2, nameIndex := 217, descriptorIndex := 69, attributes := #[] }, { accessFlags := 2, nameIndex := 210, descriptorIndex := 211, attributes := #[] }] 1056 4 #[444, 48] #[{ accessFlags := 0, nameIndex := 17, descriptorIndex := 14, attributes := #[] }, { accessFlags := 0, nameIndex := 24, descriptorIndex := 25, attributes := #[] }, { accessFlags := 0, nameIndex := 75, descriptorIndex := 21, attributes := #[] }, { accessFlags := 0, nameIndex := 81, descriptorIndex := 82, attributes := #[] }, { accessFlags := 26, nameIndex := 13, descriptorIndex := 14, attributes := #[] }])
  fields := #[{ name := "value", type := (.array .byte), accessFlags := 0, slot := 0, constantValue := 0 }, { name := "coder", type := .byte, accessFlags := 0, slot := 1, constantValue := 0 }, { name := "maybeLatin1", type := .boolean, accessFlags := 0, slot := 2, constantValue := 0 }, { name := "count", type := .int, accessFlags := 0, slot := 3, constantValue := 0 }, { name := "EMPTYVALUE", type := (.array .byte), accessFlags := 26, slot := 0, constantValue := 0 }]
  methods := #[k11m0, k11m1, k11m2, k11m3, k11m4, k11m5, k11m6, k11m7, k11m8, k11m9]
  instanceTypes := #[(.array .byte), .byte, .boolean, .int]
  staticTypes := #[(.array .byte)]
  resolved := Array.replicate 609 none
  statics := none }

def pool12 : Array CpInfo := pool [(1, .methodref 2 3), (0, .class_ 4), (0, .nameAndType 5 6), (0, u "java/lang/AbstractStringBuilder"), (0, u "<init>"), (0, u "(I)V"), (11, .class_ 20), (1, u "java/lang/String"), (3, .class_ 26), (1, u "java/lang/StringBuilder"), (0, u "append"), (0, u "(Ljava/lang/String;)Ljava/lang/StringBuilder;"), (0, .methodref 2 30), (0, .nameAndType 27 31), (0, u "(Ljava/lang/String;)Ljava/lang/AbstractStringBuilder;"), (105, .methodref 18 138), (0, .nameAndType 5 139), (0, u "(Ljava/lang/StringBuilder;)V"), (5, u "()V"), (10, u "()I"), (186, .methodref 2 344), (0, .nameAndType 345 156), (0, u "length"), (3, .class_ 350), (0, u "java/lang/Appendable"), (0, .class_ 352), (0, u "java/io/Serializable"), (0, .class_ 354), (0, u "java/lang/Comparable"), (0, .class_ 356), (0, u "java/lang/CharSequence"), (0, u "serialVersionUID"), (0, u "J"), (40, u "toString"), (0, u "()Ljava/lang/String;")] 21

def k12c0 : Code := { maxStack := 2, maxLocals := 1, code := jdk_67_method_1_code, exceptionTable := #[], attributes := #[] }
def k12m0 : Method := { name := "<init>", desc := "()V", sig := { parameters := [], returnType := none }, accessFlags := 1, code := some k12c0 }
def k12c1 : Code := { maxStack := 2, maxLocals := 2, code := jdk_67_method_7_code, exceptionTable := #[], attributes := #[] }
def k12m1 : Method := { name := "append", desc := "(Ljava/lang/String;)Ljava/lang/StringBuilder;", sig := { parameters := [(.object "java/lang/String")], returnType := some (.object "java/lang/StringBuilder") }, accessFlags := 1, code := some k12c1 }
def k12c2 : Code := { maxStack := 3, maxLocals := 1, code := jdk_67_method_42_code, exceptionTable := #[], attributes := #[] }
def k12m2 : Method := { name := "toString", desc := "()Ljava/lang/String;", sig := { parameters := [], returnType := some (.object "java/lang/String") }, accessFlags := 1, code := some k12c2 }
def k12c3 : Code := { maxStack := 1, maxLocals := 1, code := jdk_67_method_93_code, exceptionTable := #[], attributes := #[] }
def k12m3 : Method := { name := "length", desc := "()I", sig := { parameters := [], returnType := some .int }, accessFlags := 4161, code := some k12c3 }
/-- java/lang/StringBuilder -/
def k12 : Class := { plain "java/lang/StringBuilder" (some 11) with
  accessFlags := 49
  interfaces := #[10, 4, 5, 6]
  cf := some (fileOf pool12 24 #[] #[{ accessFlags := 1, nameIndex := 5, descriptorIndex := 145, attributes := #[] }, { accessFlags := 1, nameIndex := 27, descriptorIndex := 28, attributes := #[] }, { accessFlags := 1, nameIndex := 399, descriptorIndex := 400, attributes := #[] }, { accessFlags := 4161, nameIndex := 345, descriptorIndex := 156, attributes := #[] }] 49 2 #[349, 351, 353, 355] #[{ accessFlags := 24, nameIndex := 357, descriptorIndex := 358, attributes := #[] }])
  fields := #[{ name := "serialVersionUID", type := .long, accessFlags := 24, slot := 0, constantValue := 0 }]
  methods := #[k12m0, k12m1, k12m2, k12m3]
  instanceTypes := #[(.array .byte), .byte, .boolean, .int]
  staticTypes := #[.long]
  resolved := Array.replicate 422 none
  statics := none }

def pool13 : Array CpInfo := pool [(2, .class_ 4), (1, u "java/lang/Object"), (0, u "<init>"), (0, u "()V"), (1, .class_ 10), (1, u "java/lang/System"), (0, u "allowSecurityManager"), (0, u "I"), (16, u "cons"), (0, u "Ljava/io/Console;"), (77, .class_ 110), (1, u "java/lang/System$CallersHolder"), (43, u "initialErrStream"), (0, u "Ljava/io/PrintStream;"), (19, u "security"), (0, u "Ljava/lang/SecurityManager;"), (31, .class_ 209), (0, u "java/lang/System$1"), (7, u "props"), (0, u "Ljava/util/Properties;"), (2, u "lineSeparator"), (0, u "Ljava/lang/String;"), (96, .class_ 321), (1, u "java/lang/System$LoggerFinder"), (5, .class_ 328), (0, u "java/lang/System$Logger"), (67, u "err"), (2, u "out"), (91, u "notSupportedJnuEncoding"), (15, u "in"), (17, u "initialIn"), (0, u "Ljava/io/InputStream;"), (35, u "bootLayer"), (0, u "Ljava/lang/ModuleLayer;"), (99, .class_ 664), (0, u "java/lang/System$2"), (9, u "NEVER"), (2, u "MAYBE"), (49, u "arraycopy"), (0, u "(Ljava/lang/Object;ILjava/lang/Object;II)V"), (72, .class_ 802), (0, u "java/lang/System$Logger$Level")] 31

def k13m0 : Method := { name := "<init>", desc := "()V", sig := { parameters := [], returnType := none }, accessFlags := 2, code := none }
def k13m1 : Method := { name := "arraycopy", desc := "(Ljava/lang/Object;ILjava/lang/Object;II)V", sig := { parameters := [(.object "java/lang/Object"), .int, (.object "java/lang/Object"), .int, .int], returnType := none }, accessFlags := 265, code := none }
/-- java/lang/System -/
def k13 : Class := { plain "java/lang/System" (some 0) with
  accessFlags := 49
  interfaces := #[]
  cf := some (fileOf pool13 8 #[.nestMembers #[319, 327, 801, 108, 663, 208]] #[{ accessFlags := 2, nameIndex := 5, descriptorIndex := 6, attributes := #[] }, { accessFlags := 265, nameIndex := 727, descriptorIndex := 728, attributes := #[] }] 49 2 #[] #[{ accessFlags := 25, nameIndex := 507, descriptorIndex := 526, attributes := #[] }, { accessFlags := 25, nameIndex := 399, descriptorIndex := 155, attributes := #[] }, { accessFlags := 25, nameIndex := 396, descriptorIndex := 155, attributes := #[] }, { accessFlags := 10, nameIndex := 525, descriptorIndex := 526, attributes := #[] }, { accessFlags := 26, nameIndex := 674, descriptorIndex := 12, attributes := #[] }, { accessFlags := 26, nameIndex := 677, descriptorIndex := 12, attributes := #[] }, { accessFlags := 10, nameIndex := 11, descriptorIndex := 12, attributes := #[] }, { accessFlags := 74, nameIndex := 175, descriptorIndex := 176, attributes := #[] }, { accessFlags := 10, nameIndex := 491, descriptorIndex := 222, attributes := #[] }, { accessFlags := 74, nameIndex := 29, descriptorIndex := 30, attributes := #[] }, { accessFlags := 74, nameIndex := 154, descriptorIndex := 155, attributes := #[] }, { accessFlags := 10, nameIndex := 217, descriptorIndex := 218, attributes := #[] }, { accessFlags := 10, nameIndex := 221, descriptorIndex := 222, attributes := #[] }, { accessFlags := 8, nameIndex := 562, descriptorIndex := 563, attributes := #[] }])
  fields := #[{ name := "in", type := (.object "java/io/InputStream"), accessFlags := 25, slot := 0, constantValue := 0 }, { name := "out", type := (.object "java/io/PrintStream"), accessFlags := 25, slot := 1, constantValue := 0 }, { name := "err", type := (.object "java/io/PrintStream"), accessFlags := 25, slot := 2, constantValue := 0 }, { name := "initialIn", type := (.object "java/io/InputStream"), accessFlags := 10, slot := 3, constantValue := 0 }, { name := "NEVER", type := .int, accessFlags := 26, slot := 4, constantValue := 0 }, { name := "MAYBE", type := .int, accessFlags := 26, slot := 5, constantValue := 0 }, { name := "allowSecurityManager", type := .int, accessFlags := 10, slot := 6, constantValue := 0 }, { name := "security", type := (.object "java/lang/SecurityManager"), accessFlags := 74, slot := 7, constantValue := 0 }, { name := "notSupportedJnuEncoding", type := (.object "java/lang/String"), accessFlags := 10, slot := 8, constantValue := 0 }, { name := "cons", type := (.object "java/io/Console"), accessFlags := 74, slot := 9, constantValue := 0 }, { name := "initialErrStream", type := (.object "java/io/PrintStream"), accessFlags := 74, slot := 10, constantValue := 0 }, { name := "props", type := (.object "java/util/Properties"), accessFlags := 10, slot := 11, constantValue := 0 }, { name := "lineSeparator", type := (.object "java/lang/String"), accessFlags := 10, slot := 12, constantValue := 0 }, { name := "bootLayer", type := (.object "java/lang/ModuleLayer"), accessFlags := 8, slot := 13, constantValue := 0 }]
  methods := #[k13m0, k13m1]
  instanceTypes := #[]
  staticTypes := #[(.object "java/io/InputStream"), (.object "java/io/PrintStream"), (.object "java/io/PrintStream"), (.object "java/io/InputStream"), .int, .int, .int, (.object "java/lang/SecurityManager"), (.object "java/lang/String"), (.object "java/io/Console"), (.object "java/io/PrintStream"), (.object "java/util/Properties"), (.object "java/lang/String"), (.object "java/lang/ModuleLayer")]
  resolved := Array.replicate 834 none
  statics := none }

def pool14 : Array CpInfo := pool [(2, .class_ 4), (1, u "java/lang/Object"), (0, u "<init>"), (0, u "()V"), (7, .class_ 16), (1, u "java/util/Arrays"), (57, .class_ 76), (1, u "java/util/Arrays$NaturalOrder"), (36, .class_ 115), (1, u "java/util/Arrays$LegacyMergeSort"), (1, u "Z"), (21, u "copyOfRange"), (10, .methodref 151 152), (0, .class_ 153), (0, .nameAndType 154 155), (0, u "java/lang/System"), (0, u "arraycopy"), (0, u "(Ljava/lang/Object;ILjava/lang/Object;II)V"), (148, .methodref 305 306), (0, .class_ 307), (0, .nameAndType 308 309), (0, u "java/lang/Math"), (0, u "min"), (0, u "(II)I"), (29, .methodref 14 340), (0, .nameAndType 341 342), (0, u "copyOfRangeByte"), (0, u "([BII)[B"), (0, .methodref 14 344), (0, .nameAndType 345 346), (0, u "checkLength"), (0, u "(II)V"), (28, .class_ 376), (0, u "java/util/Arrays$ArrayList"), (68, u "$assertionsDisabled"), (269, u "MIN_ARRAY_SORT_GRAN"), (0, u "I"), (2, u "INSERTIONSORT_THRESHOLD"), (255, .class_ 976), (0, u "java/util/Arrays$ArrayItr")] 52

def k14m0 : Method := { name := "<init>", desc := "()V", sig := { parameters := [], returnType := none }, accessFlags := 2, code := none }
def k14c1 : Code := { maxStack := 4, maxLocals := 2, code := jdk_65_method_131_code, exceptionTable := #[], attributes := #[] }
def k14m1 : Method := { name := "checkLength", desc := "(II)V", sig := { parameters := [.int, .int], returnType := none }, accessFlags := 10, code := some k14c1 }
def k14c2 : Code := { maxStack := 3, maxLocals := 3, code := jdk_65_method_132_code, exceptionTable := #[], attributes := #[] }
def k14m2 : Method := { name := "copyOfRange", desc := "([BII)[B", sig := { parameters := [(.array .byte), .int, .int], returnType := some (.array .byte) }, accessFlags := 9, code := some k14c2 }
def k14c3 : Code := { maxStack := 6, maxLocals := 5, code := jdk_65_method_133_code, exceptionTable := #[], attributes := #[] }
def k14m3 : Method := { name := "copyOfRangeByte", desc := "([BII)[B", sig := { parameters := [(.array .byte), .int, .int], returnType := some (.array .byte) }, accessFlags := 10, code := some k14c3 }
/-- java/util/Arrays -/
def k14 : Class := { plain "java/util/Arrays" (some 0) with
  accessFlags := 49
  interfaces := #[]
  cf := some (fileOf pool14 14 #[.nestMembers #[975, 375, 113, 74]] #[{ accessFlags := 2, nameIndex := 5, descriptorIndex := 6, attributes := #[] }, { accessFlags := 10, nameIndex := 345, descriptorIndex := 346, attributes := #[] }, { accessFlags := 9, nameIndex := 139, descriptorIndex := 342, attributes := #[] }, { accessFlags := 10, nameIndex := 341, descriptorIndex := 342, attributes := #[] }] 49 2 #[] #[{ accessFlags := 26, nameIndex := 715, descriptorIndex := 716, attributes := #[] }, { accessFlags := 26, nameIndex := 719, descriptorIndex := 716, attributes := #[] }, { accessFlags := 4120, nameIndex := 445, descriptorIndex := 117, attributes := #[] }])
  fields := #[{ name := "MIN_ARRAY_SORT_GRAN", type := .int, accessFlags := 26, slot := 0, constantValue := 0 }, { name := "INSERTIONSORT_THRESHOLD", type := .int, accessFlags := 26, slot := 1, constantValue := 0 }, { name := "$assertionsDisabled", type := .boolean, accessFlags := 4120, slot := 2, constantValue := 0 }]
  methods := #[k14m0, k14m1, k14m2, k14m3]
  instanceTypes := #[]
  staticTypes := #[.int, .int, .boolean]
  resolved := Array.replicate 1029 none
  statics := none }

def pool15 : Array CpInfo := pool [(1, .class_ 2), (0, u "java/lang/Math"), (1, .class_ 6), (1, u "java/lang/Object"), (0, u "<init>"), (0, u "()V"), (89, .class_ 100), (1, u "java/lang/Math$RandomNumberGeneratorHolder"), (71, u "negativeZeroFloatBits"), (0, u "J"), (2, u "negativeZeroDoubleBits"), (24, u "min"), (43, u "$assertionsDisabled"), (0, u "Z"), (88, u "(II)I"), (2, u "twoToTheDoubleScaleDown"), (0, u "D"), (4, u "twoToTheDoubleScaleUp"), (9, u "E"), (3, u "PI"), (2, u "TAU"), (2, u "DEGREES_TO_RADIANS"), (0, u "RADIANS_TO_DEGREES")] 94

def k15m0 : Method := { name := "<init>", desc := "()V", sig := { parameters := [], returnType := none }, accessFlags := 2, code := none }
def k15c1 : Code := { maxStack := 2, maxLocals := 2, code := jdk_29_method_69_code, exceptionTable := #[], attributes := #[] }
def k15m1 : Method := { name := "min", desc := "(II)I", sig := { parameters := [.int, .int], returnType := some .int }, accessFlags := 9, code := some k15c1 }
/-- java/lang/Math -/
def k15 : Class := { plain "java/lang/Math" (some 0) with
  accessFlags := 49
  interfaces := #[]
  cf := some (fileOf pool15 1 #[.nestMembers #[98]] #[{ accessFlags := 2, nameIndex := 7, descriptorIndex := 8, attributes := #[] }, { accessFlags := 9, nameIndex := 201, descriptorIndex := 335, attributes := #[] }] 49 4 #[] #[{ accessFlags := 25, nameIndex := 354, descriptorIndex := 339, attributes := #[] }, { accessFlags := 25, nameIndex := 358, descriptorIndex := 339, attributes := #[] }, { accessFlags := 25, nameIndex := 361, descriptorIndex := 339, attributes := #[] }, { accessFlags := 26, nameIndex := 364, descriptorIndex := 339, attributes := #[] }, { accessFlags := 26, nameIndex := 365, descriptorIndex := 339, attributes := #[] }, { accessFlags := 26, nameIndex := 172, descriptorIndex := 173, attributes := #[] }, { accessFlags := 26, nameIndex := 176, descriptorIndex := 173, attributes := #[] }, { accessFlags := 8, nameIndex := 344, descriptorIndex := 339, attributes := #[] }, { accessFlags := 8, nameIndex := 338, descriptorIndex := 339, attributes := #[] }, { accessFlags := 4120, nameIndex := 245, descriptorIndex := 246, attributes := #[] }])
  fields := #[{ name := "E", type := .double, accessFlags := 25, slot := 0, constantValue := 0 }, { name := "PI", type := .double, accessFlags := 25, slot := 1, constantValue := 0 }, { name := "TAU", type := .double, accessFlags := 25, slot := 2, constantValue := 0 }, { name := "DEGREES_TO_RADIANS", type := .double, accessFlags := 26, slot := 3, constantValue := 0 }, { name := "RADIANS_TO_DEGREES", type := .double, accessFlags := 26, slot := 4, constantValue := 0 }, { name := "negativeZeroFloatBits", type := .long, accessFlags := 26, slot := 5, constantValue := 0 }, { name := "negativeZeroDoubleBits", type := .long, accessFlags := 26, slot := 6, constantValue := 0 }, { name := "twoToTheDoubleScaleUp", type := .double, accessFlags := 8, slot := 7, constantValue := 0 }, { name := "twoToTheDoubleScaleDown", type := .double, accessFlags := 8, slot := 8, constantValue := 0 }, { name := "$assertionsDisabled", type := .boolean, accessFlags := 4120, slot := 9, constantValue := 0 }]
  methods := #[k15m0, k15m1]
  instanceTypes := #[]
  staticTypes := #[.double, .double, .double, .double, .double, .long, .long, .double, .double, .boolean]
  resolved := Array.replicate 460 none
  statics := none }

def pool16 : Array CpInfo := pool [(1, .class_ 2), (0, u "java/lang/String"), (1, .class_ 6), (1, u "java/lang/Object"), (0, u "<init>"), (0, u "()V"), (0, .methodref 1 10), (0, .nameAndType 11 12), (0, u "checkIndex"), (0, u "(II)V"), (1, .class_ 16), (1, u "java/lang/StringLatin1"), (0, u "inflate"), (2, .class_ 22), (1, u "java/lang/StringUTF16"), (3, .nameAndType 17 27), (0, u "([BI[BII)V"), (25, u "([BI)C"), (67, u "$assertionsDisabled"), (0, u "Z"), (98, .class_ 223), (1, u "java/lang/StringLatin1$LinesSpliterator"), (16, .methodref 20 26), (11, u "charAt"), (137, .class_ 391), (0, u "java/lang/StringLatin1$CharsSpliterator")] 3

def k16m0 : Method := { name := "<init>", desc := "()V", sig := { parameters := [], returnType := none }, accessFlags := 0, code := none }
def k16c1 : Code := { maxStack := 2, maxLocals := 2, code := jdk_43_method_2_code, exceptionTable := #[], attributes := #[] }
def k16m1 : Method := { name := "charAt", desc := "([BI)C", sig := { parameters := [(.array .byte), .int], returnType := some .char }, accessFlags := 9, code := some k16c1 }
def k16c2 : Code := { maxStack := 5, maxLocals := 5, code := jdk_43_method_50_code, exceptionTable := #[], attributes := #[] }
def k16m2 : Method := { name := "inflate", desc := "([BI[BII)V", sig := { parameters := [(.array .byte), .int, (.array .byte), .int, .int], returnType := none }, accessFlags := 9, code := some k16c2 }
/-- java/lang/StringLatin1 -/
def k16 : Class := { plain "java/lang/StringLatin1" (some 0) with
  accessFlags := 48
  interfaces := #[]
  cf := some (fileOf pool16 14 #[.nestMembers #[390, 221]] #[{ accessFlags := 0, nameIndex := 7, descriptorIndex := 8, attributes := #[] }, { accessFlags := 9, nameIndex := 252, descriptorIndex := 53, attributes := #[] }, { accessFlags := 9, nameIndex := 17, descriptorIndex := 27, attributes := #[] }] 48 4 #[] #[{ accessFlags := 4120, nameIndex := 121, descriptorIndex := 122, attributes := #[] }])
  fields := #[{ name := "$assertionsDisabled", type := .boolean, accessFlags := 4120, slot := 0, constantValue := 0 }]
  methods := #[k16m0, k16m1, k16m2]
  instanceTypes := #[]
  staticTypes := #[.boolean]
  resolved := Array.replicate 395 none
  statics := none }

def pool17 : Array CpInfo := pool [(2, .class_ 4), (1, u "java/lang/Object"), (0, u "<init>"), (0, u "()V"), (17, .class_ 26), (1, u "jdk/internal/util/Preconditions"), (6, u "checkIndex"), (15, u "checkFromIndexSize"), (5, .class_ 56), (0, u "jdk/internal/util/Preconditions$4"), (57, .class_ 115), (0, u "jdk/internal/util/Preconditions$1"), (7, u "SIOOBE_FORMATTER"), (0, u "Ljava/util/function/BiFunction;"), (0, .class_ 126), (0, u "jdk/internal/util/Preconditions$2"), (3, u "AIOOBE_FORMATTER"), (0, .class_ 132), (0, u "jdk/internal/util/Preconditions$3"), (3, u "IOOBE_FORMATTER"), (41, u "(IILjava/util/function/BiFunction;)I"), (4, u "(IIILjava/util/function/BiFunction;)I")] 10

def k17m0 : Method := { name := "<init>", desc := "()V", sig := { parameters := [], returnType := none }, accessFlags := 1, code := none }
def k17c1 : Code := { maxStack := 3, maxLocals := 3, code := jdk_41_method_11_code, exceptionTable := #[], attributes := #[] }
def k17m1 : Method := { name := "checkIndex", desc := "(IILjava/util/function/BiFunction;)I", sig := { parameters := [.int, .int, (.object "java/util/function/BiFunction")], returnType := some .int }, accessFlags := 9, code := some k17c1 }
def k17c2 : Code := { maxStack := 4, maxLocals := 4, code := jdk_41_method_13_code, exceptionTable := #[], attributes := #[] }
def k17m2 : Method := { name := "checkFromIndexSize", desc := "(IIILjava/util/function/BiFunction;)I", sig := { parameters := [.int, .int, .int, (.object "java/util/function/BiFunction")], returnType := some .int }, accessFlags := 9, code := some k17c2 }
/-- jdk/internal/util/Preconditions -/
def k17 : Class := { plain "jdk/internal/util/Preconditions" (some 0) with
  accessFlags := 33
  interfaces := #[]
  cf := some (fileOf pool17 24 #[.nestMembers #[55, 131, 125, 114]] #[{ accessFlags := 1, nameIndex := 5, descriptorIndex := 6, attributes := #[] }, { accessFlags := 9, nameIndex := 33, descriptorIndex := 178, attributes := #[] }, { accessFlags := 9, nameIndex := 49, descriptorIndex := 183, attributes := #[] }] 33 2 #[] #[{ accessFlags := 25, nameIndex := 123, descriptorIndex := 124, attributes := #[] }, { accessFlags := 25, nameIndex := 130, descriptorIndex := 124, attributes := #[] }, { accessFlags := 25, nameIndex := 136, descriptorIndex := 124, attributes := #[] }])
  fields := #[{ name := "SIOOBE_FORMATTER", type := (.object "java/util/function/BiFunction"), accessFlags := 25, slot := 0, constantValue := 0 }, { name := "AIOOBE_FORMATTER", type := (.object "java/util/function/BiFunction"), accessFlags := 25, slot := 1, constantValue := 0 }, { name := "IOOBE_FORMATTER", type := (.object "java/util/function/BiFunction"), accessFlags := 25, slot := 2, constantValue := 0 }]
  methods := #[k17m0, k17m1, k17m2]
  instanceTypes := #[]
  staticTypes := #[(.object "java/util/function/BiFunction"), (.object "java/util/function/BiFunction"), (.object "java/util/function/BiFunction")]
  resolved := Array.replicate 194 none
  statics := some 1 }

def pool18 : Array CpInfo := pool [(3, .class_ 4), (0, u "java/lang/String"), (1, .class_ 8), (1, u "java/lang/Object"), (0, u "<init>"), (0, u "()V"), (0, .methodref 12 13), (0, .class_ 14), (0, .nameAndType 15 16), (0, u "java/lang/StringUTF16"), (0, u "newBytesLength"), (0, u "(I)I"), (3, .integer 1073741823), (23, .fieldref 12 45), (0, .nameAndType 46 47), (0, u "$assertionsDisabled"), (0, u "Z"), (0, .methodref 12 49), (0, .nameAndType 50 51), (0, u "length"), (0, u "([B)I"), (7, .fieldref 12 60), (0, .nameAndType 61 62), (0, u "HI_BYTE_SHIFT"), (0, u "I"), (0, .fieldref 12 64), (0, .nameAndType 65 62), (0, u "LO_BYTE_SHIFT"), (1, .methodref 12 68), (0, .nameAndType 69 70), (0, u "checkIndex"), (0, u "(I[B)V"), (0, .methodref 12 72), (0, .nameAndType 73 74), (0, u "getChar"), (0, u "([BI)C"), (24, u "(II[B)V"), (7, .methodref 12 108), (0, .nameAndType 109 110), (0, u "newBytesFor"), (0, u "(I)[B"), (0, .methodref 12 112), (0, .nameAndType 113 114), (0, u "putChar"), (0, u "([BII)V"), (0, .methodref 12 116), (0, .nameAndType 117 118), (0, u "compress"), (0, u "([CI[BII)I"), (0, .methodref 12 120), (0, .nameAndType 121 122), (0, u "toBytes"), (0, u "([CII)[B"), (17, u "inflate"), (0, u "([BI[BII)V"), (31, .methodref 12 174), (0, .nameAndType 175 99), (0, u "checkBoundsOffCount"), (85, u "coderFromArrayLen"), (0, u "([BI)B"), (18, u "(III)I"), (87, .class_ 371), (1, u "java/lang/StringUTF16$LinesSpliterator"), (20, u "charAt"), (21, .methodref 3 415), (0, .nameAndType 69 416), (0, u "(II)V"), (2, .methodref 3 420), (0, .nameAndType 175 281), (9, u "MAX_LENGTH"), (196, .class_ 628), (0, u "java/lang/StringUTF16$CodePointsSpliterator"), (0, .class_ 630), (0, u "java/lang/StringUTF16$CharsSpliterator")] 4

def k18m0 : Method := { name := "<init>", desc := "()V", sig := { parameters := [], returnType := none }, accessFlags := 0, code := none }
def k18c1 : Code := { maxStack := 1, maxLocals := 1, code := jdk_52_method_2_code, exceptionTable := #[], attributes := #[] }
def k18m1 : Method := { name := "newBytesFor", desc := "(I)[B", sig := { parameters := [.int], returnType := some (.array .byte) }, accessFlags := 9, code := some k18c1 }
def k18c2 : Code := { maxStack := 4, maxLocals := 1, code := jdk_52_method_3_code, exceptionTable := #[], attributes := #[] }
def k18m2 : Method := { name := "newBytesLength", desc := "(I)I", sig := { parameters := [.int], returnType := some .int }, accessFlags := 9, code := some k18c2 }
def k18c3 : Code := { maxStack := 4, maxLocals := 3, code := jdk_52_method_4_code, exceptionTable := #[], attributes := #[] }
def k18m3 : Method := { name := "putChar", desc := "([BII)V", sig := { parameters := [(.array .byte), .int, .int], returnType := none }, accessFlags := 8, code := some k18c3 }
def k18c4 : Code := { maxStack := 3, maxLocals := 2, code := jdk_52_method_5_code, exceptionTable := #[], attributes := #[] }
def k18m4 : Method := { name := "getChar", desc := "([BI)C", sig := { parameters := [(.array .byte), .int], returnType := some .char }, accessFlags := 8, code := some k18c4 }
def k18c5 : Code := { maxStack := 2, maxLocals := 1, code := jdk_52_method_6_code, exceptionTable := #[], attributes := #[] }
def k18m5 : Method := { name := "length", desc := "([B)I", sig := { parameters := [(.array .byte)], returnType := some .int }, accessFlags := 9, code := some k18c5 }
def k18c6 : Code := { maxStack := 4, maxLocals := 5, code := jdk_52_method_14_code, exceptionTable := #[], attributes := #[] }
def k18m6 : Method := { name := "toBytes", desc := "([CII)[B", sig := { parameters := [(.array .char), .int, .int], returnType := some (.array .byte) }, accessFlags := 9, code := some k18c6 }
def k18c7 : Code := { maxStack := 2, maxLocals := 2, code := jdk_52_method_15_code, exceptionTable := #[], attributes := #[] }
def k18m7 : Method := { name := "coderFromArrayLen", desc := "([BI)B", sig := { parameters := [(.array .byte), .int], returnType := some .byte }, accessFlags := 8, code := some k18c7 }
def k18c8 : Code := { maxStack := 5, maxLocals := 6, code := jdk_52_method_16_code, exceptionTable := #[], attributes := #[] }
def k18m8 : Method := { name := "compress", desc := "([CII)[B", sig := { parameters := [(.array .char), .int, .int], returnType := some (.array .byte) }, accessFlags := 9, code := some k18c8 }
def k18c9 : Code := { maxStack := 3, maxLocals := 7, code := jdk_52_method_21_code, exceptionTable := #[], attributes := #[] }
def k18m9 : Method := { name := "compress", desc := "([CI[BII)I", sig := { parameters := [(.array .char), .int, (.array .byte), .int, .int], returnType := some .int }, accessFlags := 9, code := some k18c9 }
def k18c10 : Code := { maxStack := 2, maxLocals := 2, code := jdk_52_method_83_code, exceptionTable := #[], attributes := #[] }
def k18m10 : Method := { name := "charAt", desc := "([BI)C", sig := { parameters := [(.array .byte), .int], returnType := some .char }, accessFlags := 9, code := some k18c10 }
def k18c11 : Code := { maxStack := 4, maxLocals := 6, code := jdk_52_method_86_code, exceptionTable := #[], attributes := #[] }
def k18m11 : Method := { name := "inflate", desc := "([BI[BII)V", sig := { parameters := [(.array .byte), .int, (.array .byte), .int, .int], returnType := none }, accessFlags := 9, code := some k18c11 }
def k18c12 : Code := { maxStack := 2, maxLocals := 2, code := jdk_52_method_91_code, exceptionTable := #[], attributes := #[] }
def k18m12 : Method := { name := "checkIndex", desc := "(I[B)V", sig := { parameters := [.int, (.array .byte)], returnType := none }, accessFlags := 9, code := some k18c12 }
def k18c13 : Code := { maxStack := 3, maxLocals := 3, code := jdk_52_method_94_code, exceptionTable := #[], attributes := #[] }
def k18m13 : Method := { name := "checkBoundsOffCount", desc := "(II[B)V", sig := { parameters := [.int, .int, (.array .byte)], returnType := none }, accessFlags := 9, code := some k18c13 }
/-- java/lang/StringUTF16 -/
def k18 : Class := { plain "java/lang/StringUTF16" (some 0) with
  accessFlags := 48
  interfaces := #[]
  cf := some (fileOf pool18 12 #[.nestMembers #[627, 629, 369]] #[{ accessFlags := 0, nameIndex := 9, descriptorIndex := 10, attributes := #[] }, { accessFlags := 9, nameIndex := 109, descriptorIndex := 110, attributes := #[] }, { accessFlags := 9, nameIndex := 15, descriptorIndex := 16, attributes := #[] }, { accessFlags := 8, nameIndex := 113, descriptorIndex := 114, attributes := #[] }, { accessFlags := 8, nameIndex := 73, descriptorIndex := 74, attributes := #[] }, { accessFlags := 9, nameIndex := 50, descriptorIndex := 51, attributes := #[] }, { accessFlags := 9, nameIndex := 121, descriptorIndex := 122, attributes := #[] }, { accessFlags := 8, nameIndex := 261, descriptorIndex := 262, attributes := #[] }, { accessFlags := 9, nameIndex := 117, descriptorIndex := 122, attributes := #[] }, { accessFlags := 9, nameIndex := 117, descriptorIndex := 118, attributes := #[] }, { accessFlags := 9, nameIndex := 392, descriptorIndex := 74, attributes := #[] }, { accessFlags := 9, nameIndex := 140, descriptorIndex := 141, attributes := #[] }, { accessFlags := 9, nameIndex := 69, descriptorIndex := 70, attributes := #[] }, { accessFlags := 9, nameIndex := 175, descriptorIndex := 99, attributes := #[] }] 48 6 #[] #[{ accessFlags := 26, nameIndex := 61, descriptorIndex := 62, attributes := #[] }, { accessFlags := 26, nameIndex := 65, descriptorIndex := 62, attributes := #[] }, { accessFlags := 24, nameIndex := 430, descriptorIndex := 62, attributes := #[] }, { accessFlags := 4120, nameIndex := 46, descriptorIndex := 47, attributes := #[] }])
  fields := #[{ name := "HI_BYTE_SHIFT", type := .int, accessFlags := 26, slot := 0, constantValue := 0 }, { name := "LO_BYTE_SHIFT", type := .int, accessFlags := 26, slot := 1, constantValue := 0 }, { name := "MAX_LENGTH", type := .int, accessFlags := 24, slot := 2, constantValue := 0 }, { name := "$assertionsDisabled", type := .boolean, accessFlags := 4120, slot := 3, constantValue := 0 }]
  methods := #[k18m0, k18m1, k18m2, k18m3, k18m4, k18m5, k18m6, k18m7, k18m8, k18m9, k18m10, k18m11, k18m12, k18m13]
  instanceTypes := #[]
  staticTypes := #[.int, .int, .int, .boolean]
  resolved := Array.replicate 635 none
  statics := some 2 }

def pool19 : Array CpInfo := pool [(9, u "<init>"), (6, .class_ 18), (1, u "java/lang/Object"), (0, u "()V"), (1, .class_ 23), (1, u "jdk/internal/util/ArraysSupport"), (0, u "LOG2_ARRAY_LONG_INDEX_SCALE"), (0, u "I"), (2, u "U"), (0, u "Ljdk/internal/misc/Unsafe;"), (8, u "BIG_ENDIAN"), (0, u "Z"), (8, u "LOG2_BYTE_BIT_SIZE"), (4, u "LOG2_ARRAY_INT_INDEX_SCALE"), (54, u "JLA"), (0, u "Ljdk/internal/access/JavaLangAccess;"), (11, u "LOG2_ARRAY_BOOLEAN_INDEX_SCALE"), (9, u "LOG2_ARRAY_BYTE_INDEX_SCALE"), (5, u "LOG2_ARRAY_CHAR_INDEX_SCALE"), (5, u "LOG2_ARRAY_SHORT_INDEX_SCALE"), (18, u "LOG2_ARRAY_FLOAT_INDEX_SCALE"), (24, u "LOG2_ARRAY_DOUBLE_INDEX_SCALE"), (89, u "T_BOOLEAN"), (2, u "T_CHAR"), (1, u "T_FLOAT"), (1, u "T_DOUBLE"), (1, u "T_BYTE"), (1, u "T_SHORT"), (1, u "T_INT"), (1, u "T_LONG"), (1, u "SOFT_MAX_ARRAY_LENGTH")] 83

def k19m0 : Method := { name := "<init>", desc := "()V", sig := { parameters := [], returnType := none }, accessFlags := 2, code := none }
/-- jdk/internal/util/ArraysSupport -/
def k19 : Class := { plain "jdk/internal/util/ArraysSupport" (some 0) with
  accessFlags := 33
  interfaces := #[]
  cf := some (fileOf pool19 21 #[] #[{ accessFlags := 2, nameIndex := 9, descriptorIndex := 19, attributes := #[] }] 33 16 #[] #[{ accessFlags := 24, nameIndex := 28, descriptorIndex := 29, attributes := #[] }, { accessFlags := 26, nameIndex := 38, descriptorIndex := 39, attributes := #[] }, { accessFlags := 25, nameIndex := 121, descriptorIndex := 25, attributes := #[] }, { accessFlags := 25, nameIndex := 131, descriptorIndex := 25, attributes := #[] }, { accessFlags := 25, nameIndex := 137, descriptorIndex := 25, attributes := #[] }, { accessFlags := 25, nameIndex := 143, descriptorIndex := 25, attributes := #[] }, { accessFlags := 25, nameIndex := 53, descriptorIndex := 25, attributes := #[] }, { accessFlags := 25, nameIndex := 24, descriptorIndex := 25, attributes := #[] }, { accessFlags := 25, nameIndex := 162, descriptorIndex := 25, attributes := #[] }, { accessFlags := 25, nameIndex := 187, descriptorIndex := 25, attributes := #[] }, { accessFlags := 26, nameIndex := 48, descriptorIndex := 25, attributes := #[] }, { accessFlags := 25, nameIndex := 277, descriptorIndex := 25, attributes := #[] }, { accessFlags := 25, nameIndex := 280, descriptorIndex := 25, attributes := #[] }, { accessFlags := 25, nameIndex := 282, descriptorIndex := 25, attributes := #[] }, { accessFlags := 25, nameIndex := 284, descriptorIndex := 25, attributes := #[] }, { accessFlags := 25, nameIndex := 286, descriptorIndex := 25, attributes := #[] }, { accessFlags := 25, nameIndex := 288, descriptorIndex := 25, attributes := #[] }, { accessFlags := 25, nameIndex := 290, descriptorIndex := 25, attributes := #[] }, { accessFlags := 25, nameIndex := 292, descriptorIndex := 25, attributes := #[] }, { accessFlags := 26, nameIndex := 108, descriptorIndex := 109, attributes := #[] }, { accessFlags := 25, nameIndex := 294, descriptorIndex := 25, attributes := #[] }])
  fields := #[{ name := "U", type := (.object "jdk/internal/misc/Unsafe"), accessFlags := 24, slot := 0, constantValue := 0 }, { name := "BIG_ENDIAN", type := .boolean, accessFlags := 26, slot := 1, constantValue := 0 }, { name := "LOG2_ARRAY_BOOLEAN_INDEX_SCALE", type := .int, accessFlags := 25, slot := 2, constantValue := 0 }, { name := "LOG2_ARRAY_BYTE_INDEX_SCALE", type := .int, accessFlags := 25, slot := 3, constantValue := 0 }, { name := "LOG2_ARRAY_CHAR_INDEX_SCALE", type := .int, accessFlags := 25, slot := 4, constantValue := 0 }, { name := "LOG2_ARRAY_SHORT_INDEX_SCALE", type := .int, accessFlags := 25, slot := 5, constantValue := 0 }, { name := "LOG2_ARRAY_INT_INDEX_SCALE", type := .int, accessFlags := 25, slot := 6, constantValue := 0 }, { name := "LOG2_ARRAY_LONG_INDEX_SCALE", type := .int, accessFlags := 25, slot := 7, constantValue := 0 }, { name := "LOG2_ARRAY_FLOAT_INDEX_SCALE", type := .int, accessFlags := 25, slot := 8, constantValue := 0 }, { name := "LOG2_ARRAY_DOUBLE_INDEX_SCALE", type := .int, accessFlags := 25, slot := 9, constantValue := 0 }, { name := "LOG2_BYTE_BIT_SIZE", type := .int, accessFlags := 26, slot := 10, constantValue := 0 }, { name := "T_BOOLEAN", type := .int, accessFlags := 25, slot := 11, constantValue := 0 }, { name := "T_CHAR", type := .int, accessFlags := 25, slot := 12, constantValue := 0 }, { name := "T_FLOAT", type := .int, accessFlags := 25, slot := 13, constantValue := 0 }, { name := "T_DOUBLE", type := .int, accessFlags := 25, slot := 14, constantValue := 0 }, { name := "T_BYTE", type := .int, accessFlags := 25, slot := 15, constantValue := 0 }, { name := "T_SHORT", type := .int, accessFlags := 25, slot := 16, constantValue := 0 }, { name := "T_INT", type := .int, accessFlags := 25, slot := 17, constantValue := 0 }, { name := "T_LONG", type := .int, accessFlags := 25, slot := 18, constantValue := 0 }, { name := "JLA", type := (.object "jdk/internal/access/JavaLangAccess"), accessFlags := 26, slot := 19, constantValue := 0 }, { name := "SOFT_MAX_ARRAY_LENGTH", type := .int, accessFlags := 25, slot := 20, constantValue := 0 }]
  methods := #[k19m0]
  instanceTypes := #[]
  staticTypes := #[(.object "jdk/internal/misc/Unsafe"), .boolean, .int, .int, .int, .int, .int, .int, .int, .int, .int, .int, .int, .int, .int, .int, .int, .int, .int, (.object "jdk/internal/access/JavaLangAccess"), .int]
  resolved := Array.replicate 378 none
  statics := none }

def pool20 : Array CpInfo := pool [(1, u "java/lang/Cloneable"), (0, .class_ 1), (0, u "java/lang/Object"), (0, .class_ 3)] 3

/-- java/lang/Cloneable -/
def k20 : Class := { plain "java/lang/Cloneable" (some 0) with
  accessFlags := 1537
  interfaces := #[]
  cf := some (fileOf pool20 2 #[] #[] 1537 4 #[] #[])
  fields := #[]
  methods := #[]
  instanceTypes := #[]
  staticTypes := #[]
  resolved := Array.replicate 8 none
  statics := none }

/-- the primitive byte -/
def k21 : Class := { plain "byte" none with kind := .primitive 'B', accessFlags := 0x411 }
/-- [B -/
def k22 : Class := { plain "[B" (some 0) with kind := .array 21 .byte, interfaces := #[20, 4], accessFlags := 1041 }

/-- the primitive char -/
def k23 : Class := { plain "char" none with kind := .primitive 'C', accessFlags := 0x411 }
/-- [C -/
def k24 : Class := { plain "[C" (some 0) with kind := .array 23 .char, interfaces := #[20, 4], accessFlags := 1041 }

/-- the primitive int -/
def k25 : Class := { plain "int" none with kind := .primitive 'I', accessFlags := 0x411 }
/-- [I -/
def k26 : Class := { plain "[I" (some 0) with kind := .array 25 .int, interfaces := #[20, 4], accessFlags := 1041 }

def heap : Heap := #[{ cls := 9, slots := #[.long 0, .int 1, .null, .int 0, .null, .int 0, .int 0], vm := .statics 9 },
  { cls := 17, slots := #[.null, .null, .null], vm := .statics 17 },
  { cls := 18, slots := #[.int 0, .int 8, .int 0, .int 1], vm := .statics 18 }]
def classes : Array Class := #[k0, k1, k2, k3, k4, k5, k6, k7, k8, k9, k10, k11, k12, k13, k14, k15, k16, k17, k18, k19, k20, k21, k22, k23, k24, k25, k26]
def interned : List (Array UInt16 × Addr) := []
def slotsUsed : Nat := 14
def theMethod : MethodId := ⟨1, 1⟩
def args0 : Array Value := #[.int 5, .int 65, .int 66, .int 67]
def aboutOver (below : List Frame) : State where
  vm := { classes := classes, interned := interned.toArray }
  heap := heap
  slotsUsed := slotsUsed
  threads := #[{ frames := .invoking theMethod args0 :: below }]
def below0 : List Frame := [.native { method := ⟨0, 0⟩, args := #[] }]
def about1 : State := aboutOver below0
def p0 : Program := .bare "" "" ""
def e0 : Env := launch0.env 0 0 0
theorem w_frames : about1.frames = Frame.invoking theMethod args0 :: below0 := rfl
set_option maxRecDepth 65536 in
theorem w_args : argsFit about1.vm theMethod args0 = true := by decide +kernel
set_option maxRecDepth 65536 in
theorem w_heap : heapFits about1 = true := by decide +kernel
set_option maxRecDepth 65536 in
theorem w_runnable : about1.curStatus? = some .runnable := by decide +kernel
set_option maxRecDepth 65536 in
theorem w_alone : about1.alone = true := by decide +kernel
set_option maxRecDepth 65536 in
theorem w_named : about1.methodNamed? x = some theMethod := by decide +kernel
set_option maxRecDepth 65536 in
theorem w_hears : about1.hears theMethod below0 = true := by decide +kernel
set_option maxRecDepth 65536 in
theorem w_ripe : about1.ripe theMethod args0 below0 = true := by decide +kernel
theorem w_running : about1.status = .running := rfl
set_option maxRecDepth 65536 in
theorem w_room : about1.hasRoom e0.platform room_1 = true :=
  launch0.hasRoom_least _ room_1 (by decide +kernel) (by decide +kernel) (by decide +kernel) (by decide +kernel) (by decide +kernel) (by decide +kernel)
theorem allAtoms_all (ts : List Jvm.Cond) (a : Array Jvm.Value) (st : Jvm.State) : (allAtoms ts).before a st = ts.all (fun c => c.before a st) := by
  induction ts with
  | nil => rfl
  | cons c t ih =>
    show (Jvm.Cond.and c (allAtoms t)).before a st = _
    rw [Jvm.Cond.before_and, ih, List.all_cons]
def words1 : List Jvm.Cond := Jvm.Cond.code x code maxLocals ret :: tables_1
/-- a 'code' word, met by the world's own term for the bytes: nothing is compared byte by byte -/
theorem code_word {y : MethodName} {bytes : ByteArray} {mx : Nat} {rt : Option FieldType} {a : Array Value} {s : State} {m : MethodId} {meth : Method} {c : Code} (h1 : s.methodNamed? y = some m) (h2 : s.vm.method? m = some meth) (h3 : meth.code = some c) (h4 : c.code = bytes)
    (h5 : (c.maxLocals == mx && c.exceptionTable.isEmpty && decide (c.maxStack ≤ mostOperands) && decide (meth.sig.returnType = rt) && !meth.locks && decide (parseMethodDescriptor y.desc = some meth.sig)) = true) : (Jvm.Cond.code y bytes mx rt).before a s = true := by
  simp only [Bool.and_eq_true, beq_iff_eq, Bool.not_eq_true', decide_eq_true_eq] at h5
  obtain ⟨⟨⟨⟨⟨g1, g2⟩, g3⟩, g4⟩, g5⟩, g6⟩ := h5
  simp [Cond.before, Cond.holds, Cond.value, h1, h2, h3, h4, g1, g2, g3, g4, g5, g6]
def isCode : Jvm.Cond → Bool
  | .code _ _ _ _ => true
  | _ => false
theorem all_split {L : List Jvm.Cond} {P : Jvm.Cond → Bool} (h1 : L.all (fun c => isCode c || P c) = true) (h2 : ∀ c ∈ L.filter isCode, P c = true) : L.all P = true := by
  refine List.all_eq_true.mpr fun c hc => ?_
  have h := List.all_eq_true.mp h1 c hc
  rcases Bool.eq_false_or_eq_true (isCode c) with hi | hi
  · exact h2 c (List.mem_filter.mpr ⟨hc, hi⟩)
  · simpa [hi] using h
set_option maxRecDepth 65536 in
theorem w_c0 : (Jvm.Cond.code x code maxLocals ret).before args0 about1 = true := code_word (m := ⟨1, 1⟩) (meth := k1m1) (c := k1c1) (by decide +kernel) rfl rfl rfl (by decide +kernel)
set_option maxRecDepth 65536 in
theorem w_c1 : (Jvm.Cond.code ({ cls := "com/example/loomwire/loomwire/manifest/WrittenClauseToStringPinLaw", name := "mk", desc := "(ICCC)[C" } : Jvm.MethodName) method_4_code (4 : Nat) (Option.some (Jvm.ClassFile.FieldType.array Jvm.ClassFile.FieldType.char))).before args0 about1 = true := code_word (m := ⟨1, 3⟩) (meth := k1m3) (c := k1c3) (by decide +kernel) rfl rfl rfl (by decide +kernel)
set_option maxRecDepth 65536 in
theorem w_c2 : (Jvm.Cond.code ({ cls := "java/lang/String", name := "<init>", desc := "([C)V" } : Jvm.MethodName) jdk_42_method_3_code (2 : Nat) (Option.none : Option Jvm.ClassFile.FieldType)).before args0 about1 = true := code_word (m := ⟨9, 1⟩) (meth := k9m1) (c := k9c1) (by decide +kernel) rfl rfl rfl (by decide +kernel)
set_option maxRecDepth 65536 in
theorem w_c3 : (Jvm.Cond.code ({ cls := "java/lang/String", name := "<init>", desc := "([CIILjava/lang/Void;)V" } : Jvm.MethodName) jdk_42_method_149_code (6 : Nat) (Option.none : Option Jvm.ClassFile.FieldType)).before args0 about1 = true := code_word (m := ⟨9, 6⟩) (meth := k9m6) (c := k9c6) (by decide +kernel) rfl rfl rfl (by decide +kernel)
set_option maxRecDepth 65536 in
theorem w_c4 : (Jvm.Cond.code ({ cls := "java/lang/Object", name := "<init>", desc := "()V" } : Jvm.MethodName) object_method_1_code (1 : Nat) (Option.none : Option Jvm.ClassFile.FieldType)).before args0 about1 = true := code_word (m := ⟨0, 0⟩) (meth := k0m0) (c := k0c0) (by decide +kernel) rfl rfl rfl (by decide +kernel)
set_option maxRecDepth 65536 in
theorem w_c5 : (Jvm.Cond.code ({ cls := "com/example/loomwire/loomwire/manifest/WrittenClause", name := "<init>", desc := "(Ljava/lang/String;Ljava/lang/String;)V" } : Jvm.MethodName) prog_16_method_1_code (3 : Nat) (Option.none : Option Jvm.ClassFile.FieldType)).before args0 about1 = true := code_word (m := ⟨3, 0⟩) (meth := k3m0) (c := k3c0) (by decide +kernel) rfl rfl rfl (by decide +kernel)
set_option maxRecDepth 65536 in
theorem w_c6 : (Jvm.Cond.code ({ cls := "java/lang/Record", name := "<init>", desc := "()V" } : Jvm.MethodName) jdk_30_method_1_code (1 : Nat) (Option.none : Option Jvm.ClassFile.FieldType)).before args0 about1 = true := code_word (m := ⟨2, 0⟩) (meth := k2m0) (c := k2c0) (by decide +kernel) rfl rfl rfl (by decide +kernel)
set_option maxRecDepth 65536 in
theorem w_c7 : (Jvm.Cond.code ({ cls := "com/example/loomwire/loomwire/manifest/WrittenClause", name := "toString", desc := "()Ljava/lang/String;" } : Jvm.MethodName) prog_16_method_2_code (1 : Nat) (Option.some (Jvm.ClassFile.FieldType.object "java/lang/String"))).before args0 about1 = true := code_word (m := ⟨3, 1⟩) (meth := k3m1) (c := k3c1) (by decide +kernel) rfl rfl rfl (by decide +kernel)
set_option maxRecDepth 65536 in
theorem w_c8 : (Jvm.Cond.code ({ cls := "java/lang/StringBuilder", name := "<init>", desc := "()V" } : Jvm.MethodName) jdk_67_method_1_code (1 : Nat) (Option.none : Option Jvm.ClassFile.FieldType)).before args0 about1 = true := code_word (m := ⟨12, 0⟩) (meth := k12m0) (c := k12c0) (by decide +kernel) rfl rfl rfl (by decide +kernel)
set_option maxRecDepth 65536 in
theorem w_c9 : (Jvm.Cond.code ({ cls := "java/lang/AbstractStringBuilder", name := "<init>", desc := "(I)V" } : Jvm.MethodName) jdk_68_method_2_code (2 : Nat) (Option.none : Option Jvm.ClassFile.FieldType)).before args0 about1 = true := code_word (m := ⟨11, 1⟩) (meth := k11m1) (c := k11c1) (by decide +kernel) rfl rfl rfl (by decide +kernel)
set_option maxRecDepth 65536 in
theorem w_c10 : (Jvm.Cond.code ({ cls := "java/lang/StringBuilder", name := "append", desc := "(Ljava/lang/String;)Ljava/lang/StringBuilder;" } : Jvm.MethodName) jdk_67_method_7_code (2 : Nat) (Option.some (Jvm.ClassFile.FieldType.object "java/lang/StringBuilder"))).before args0 about1 = true := code_word (m := ⟨12, 1⟩) (meth := k12m1) (c := k12c1) (by decide +kernel) rfl rfl rfl (by decide +kernel)
set_option maxRecDepth 65536 in
theorem w_c11 : (Jvm.Cond.code ({ cls := "java/lang/AbstractStringBuilder", name := "append", desc := "(Ljava/lang/String;)Ljava/lang/AbstractStringBuilder;" } : Jvm.MethodName) jdk_68_method_22_code (3 : Nat) (Option.some (Jvm.ClassFile.FieldType.object "java/lang/AbstractStringBuilder"))).before args0 about1 = true := code_word (m := ⟨11, 5⟩) (meth := k11m5) (c := k11c5) (by decide +kernel) rfl rfl rfl (by decide +kernel)
set_option maxRecDepth 65536 in
theorem w_c12 : (Jvm.Cond.code ({ cls := "java/lang/String", name := "length", desc := "()I" } : Jvm.MethodName) jdk_42_method_54_code (1 : Nat) (Option.some Jvm.ClassFile.FieldType.int)).before args0 about1 = true := code_word (m := ⟨9, 3⟩) (meth := k9m3) (c := k9c3) (by decide +kernel) rfl rfl rfl (by decide +kernel)
set_option maxRecDepth 65536 in
theorem w_c13 : (Jvm.Cond.code ({ cls := "java/lang/String", name := "coder", desc := "()B" } : Jvm.MethodName) jdk_42_method_152_code (1 : Nat) (Option.some Jvm.ClassFile.FieldType.byte)).before args0 about1 = true := code_word (m := ⟨9, 8⟩) (meth := k9m8) (c := k9c8) (by decide +kernel) rfl rfl rfl (by decide +kernel)
set_option maxRecDepth 65536 in
theorem w_c14 : (Jvm.Cond.code ({ cls := "java/lang/AbstractStringBuilder", name := "ensureCapacityInternal", desc := "(I)V" } : Jvm.MethodName) jdk_68_method_9_code (3 : Nat) (Option.none : Option Jvm.ClassFile.FieldType)).before args0 about1 = true := code_word (m := ⟨11, 3⟩) (meth := k11m3) (c := k11c3) (by decide +kernel) rfl rfl rfl (by decide +kernel)
set_option maxRecDepth 65536 in
theorem w_c15 : (Jvm.Cond.code ({ cls := "java/lang/AbstractStringBuilder", name := "putStringAt", desc := "(ILjava/lang/String;)V" } : Jvm.MethodName) jdk_68_method_73_code (3 : Nat) (Option.none : Option Jvm.ClassFile.FieldType)).before args0 about1 = true := code_word (m := ⟨11, 9⟩) (meth := k11m9) (c := k11c9) (by decide +kernel) rfl rfl rfl (by decide +kernel)
set_option maxRecDepth 65536 in
theorem w_c16 : (Jvm.Cond.code ({ cls := "java/lang/AbstractStringBuilder", name := "inflateIfNeededFor", desc := "(Ljava/lang/String;)V" } : Jvm.MethodName) jdk_68_method_71_code (2 : Nat) (Option.none : Option Jvm.ClassFile.FieldType)).before args0 about1 = true := code_word (m := ⟨11, 8⟩) (meth := k11m8) (c := k11c8) (by decide +kernel) rfl rfl rfl (by decide +kernel)
set_option maxRecDepth 65536 in
theorem w_c17 : (Jvm.Cond.code ({ cls := "java/lang/String", name := "getBytes", desc := "([BIB)V" } : Jvm.MethodName) jdk_42_method_147_code (4 : Nat) (Option.none : Option Jvm.ClassFile.FieldType)).before args0 about1 = true := code_word (m := ⟨9, 5⟩) (meth := k9m5) (c := k9c5) (by decide +kernel) rfl rfl rfl (by decide +kernel)
set_option maxRecDepth 65536 in
theorem w_c18 : (Jvm.Cond.code ({ cls := "java/lang/StringBuilder", name := "toString", desc := "()Ljava/lang/String;" } : Jvm.MethodName) jdk_67_method_42_code (1 : Nat) (Option.some (Jvm.ClassFile.FieldType.object "java/lang/String"))).before args0 about1 = true := code_word (m := ⟨12, 2⟩) (meth := k12m2) (c := k12c2) (by decide +kernel) rfl rfl rfl (by decide +kernel)
set_option maxRecDepth 65536 in
theorem w_c19 : (Jvm.Cond.code ({ cls := "java/lang/String", name := "<init>", desc := "(Ljava/lang/StringBuilder;)V" } : Jvm.MethodName) jdk_42_method_53_code (2 : Nat) (Option.none : Option Jvm.ClassFile.FieldType)).before args0 about1 = true := code_word (m := ⟨9, 2⟩) (meth := k9m2) (c := k9c2) (by decide +kernel) rfl rfl rfl (by decide +kernel)
set_option maxRecDepth 65536 in
theorem w_c20 : (Jvm.Cond.code ({ cls := "java/lang/String", name := "<init>", desc := "(Ljava/lang/AbstractStringBuilder;Ljava/lang/Void;)V" } : Jvm.MethodName) jdk_42_method_150_code (5 : Nat) (Option.none : Option Jvm.ClassFile.FieldType)).before args0 about1 = true := code_word (m := ⟨9, 7⟩) (meth := k9m7) (c := k9c7) (by decide +kernel) rfl rfl rfl (by decide +kernel)
set_option maxRecDepth 65536 in
theorem w_c21 : (Jvm.Cond.code ({ cls := "java/lang/AbstractStringBuilder", name := "getValue", desc := "()[B" } : Jvm.MethodName) jdk_68_method_64_code (1 : Nat) (Option.some (Jvm.ClassFile.FieldType.array Jvm.ClassFile.FieldType.byte))).before args0 about1 = true := code_word (m := ⟨11, 6⟩) (meth := k11m6) (c := k11c6) (by decide +kernel) rfl rfl rfl (by decide +kernel)
set_option maxRecDepth 65536 in
theorem w_c22 : (Jvm.Cond.code ({ cls := "java/lang/StringBuilder", name := "length", desc := "()I" } : Jvm.MethodName) jdk_67_method_93_code (1 : Nat) (Option.some Jvm.ClassFile.FieldType.int)).before args0 about1 = true := code_word (m := ⟨12, 3⟩) (meth := k12m3) (c := k12c3) (by decide +kernel) rfl rfl rfl (by decide +kernel)
set_option maxRecDepth 65536 in
theorem w_c23 : (Jvm.Cond.code ({ cls := "java/lang/AbstractStringBuilder", name := "length", desc := "()I" } : Jvm.MethodName) jdk_68_method_6_code (1 : Nat) (Option.some Jvm.ClassFile.FieldType.int)).before args0 about1 = true := code_word (m := ⟨11, 2⟩) (meth := k11m2) (c := k11c2) (by decide +kernel) rfl rfl rfl (by decide +kernel)
set_option maxRecDepth 65536 in
theorem w_c24 : (Jvm.Cond.code ({ cls := "java/lang/AbstractStringBuilder", name := "isLatin1", desc := "()Z" } : Jvm.MethodName) jdk_68_method_68_code (1 : Nat) (Option.some Jvm.ClassFile.FieldType.boolean)).before args0 about1 = true := code_word (m := ⟨11, 7⟩) (meth := k11m7) (c := k11c7) (by decide +kernel) rfl rfl rfl (by decide +kernel)
set_option maxRecDepth 65536 in
theorem w_c25 : (Jvm.Cond.code ({ cls := "java/util/Arrays", name := "copyOfRange", desc := "([BII)[B" } : Jvm.MethodName) jdk_65_method_132_code (3 : Nat) (Option.some (Jvm.ClassFile.FieldType.array Jvm.ClassFile.FieldType.byte))).before args0 about1 = true := code_word (m := ⟨14, 2⟩) (meth := k14m2) (c := k14c2) (by decide +kernel) rfl rfl rfl (by decide +kernel)
set_option maxRecDepth 65536 in
theorem w_c26 : (Jvm.Cond.code ({ cls := "java/util/Arrays", name := "copyOfRangeByte", desc := "([BII)[B" } : Jvm.MethodName) jdk_65_method_133_code (5 : Nat) (Option.some (Jvm.ClassFile.FieldType.array Jvm.ClassFile.FieldType.byte))).before args0 about1 = true := code_word (m := ⟨14, 3⟩) (meth := k14m3) (c := k14c3) (by decide +kernel) rfl rfl rfl (by decide +kernel)
set_option maxRecDepth 65536 in
theorem w_c27 : (Jvm.Cond.code ({ cls := "java/util/Arrays", name := "checkLength", desc := "(II)V" } : Jvm.MethodName) jdk_65_method_131_code (2 : Nat) (Option.none : Option Jvm.ClassFile.FieldType)).before args0 about1 = true := code_word (m := ⟨14, 1⟩) (meth := k14m1) (c := k14c1) (by decide +kernel) rfl rfl rfl (by decide +kernel)
set_option maxRecDepth 65536 in
theorem w_c28 : (Jvm.Cond.code ({ cls := "java/lang/Math", name := "min", desc := "(II)I" } : Jvm.MethodName) jdk_29_method_69_code (2 : Nat) (Option.some Jvm.ClassFile.FieldType.int)).before args0 about1 = true := code_word (m := ⟨15, 1⟩) (meth := k15m1) (c := k15c1) (by decide +kernel) rfl rfl rfl (by decide +kernel)
set_option maxRecDepth 65536 in
theorem w_c29 : (Jvm.Cond.code ({ cls := "com/example/loomwire/loomwire/manifest/WrittenClauseToStringPinLaw", name := "at", desc := "(Ljava/lang/String;I[C[CII)Z" } : Jvm.MethodName) method_3_code (7 : Nat) (Option.some Jvm.ClassFile.FieldType.boolean)).before args0 about1 = true := code_word (m := ⟨1, 2⟩) (meth := k1m2) (c := k1c2) (by decide +kernel) rfl rfl rfl (by decide +kernel)
set_option maxRecDepth 65536 in
theorem w_c30 : (Jvm.Cond.code ({ cls := "java/lang/String", name := "charAt", desc := "(I)C" } : Jvm.MethodName) jdk_42_method_56_code (2 : Nat) (Option.some Jvm.ClassFile.FieldType.char)).before args0 about1 = true := code_word (m := ⟨9, 4⟩) (meth := k9m4) (c := k9c4) (by decide +kernel) rfl rfl rfl (by decide +kernel)
set_option maxRecDepth 65536 in
theorem w_c31 : (Jvm.Cond.code ({ cls := "java/lang/String", name := "isLatin1", desc := "()Z" } : Jvm.MethodName) jdk_42_method_154_code (1 : Nat) (Option.some Jvm.ClassFile.FieldType.boolean)).before args0 about1 = true := code_word (m := ⟨9, 9⟩) (meth := k9m9) (c := k9c9) (by decide +kernel) rfl rfl rfl (by decide +kernel)
set_option maxRecDepth 65536 in
theorem w_c32 : (Jvm.Cond.code ({ cls := "java/lang/StringLatin1", name := "charAt", desc := "([BI)C" } : Jvm.MethodName) jdk_43_method_2_code (2 : Nat) (Option.some Jvm.ClassFile.FieldType.char)).before args0 about1 = true := code_word (m := ⟨16, 1⟩) (meth := k16m1) (c := k16c1) (by decide +kernel) rfl rfl rfl (by decide +kernel)
set_option maxRecDepth 65536 in
theorem w_c33 : (Jvm.Cond.code ({ cls := "java/lang/String", name := "checkIndex", desc := "(II)V" } : Jvm.MethodName) jdk_42_method_155_code (2 : Nat) (Option.none : Option Jvm.ClassFile.FieldType)).before args0 about1 = true := code_word (m := ⟨9, 10⟩) (meth := k9m10) (c := k9c10) (by decide +kernel) rfl rfl rfl (by decide +kernel)
set_option maxRecDepth 65536 in
theorem w_c34 : (Jvm.Cond.code ({ cls := "jdk/internal/util/Preconditions", name := "checkIndex", desc := "(IILjava/util/function/BiFunction;)I" } : Jvm.MethodName) jdk_41_method_11_code (3 : Nat) (Option.some Jvm.ClassFile.FieldType.int)).before args0 about1 = true := code_word (m := ⟨17, 1⟩) (meth := k17m1) (c := k17c1) (by decide +kernel) rfl rfl rfl (by decide +kernel)
set_option maxRecDepth 65536 in
theorem w_c35 : (Jvm.Cond.code ({ cls := "java/lang/StringUTF16", name := "compress", desc := "([CII)[B" } : Jvm.MethodName) jdk_52_method_16_code (6 : Nat) (Option.some (Jvm.ClassFile.FieldType.array Jvm.ClassFile.FieldType.byte))).before args0 about1 = true := code_word (m := ⟨18, 8⟩) (meth := k18m8) (c := k18c8) (by decide +kernel) rfl rfl rfl (by decide +kernel)
set_option maxRecDepth 65536 in
theorem w_c36 : (Jvm.Cond.code ({ cls := "java/lang/StringUTF16", name := "compress", desc := "([CI[BII)I" } : Jvm.MethodName) jdk_52_method_21_code (7 : Nat) (Option.some Jvm.ClassFile.FieldType.int)).before args0 about1 = true := code_word (m := ⟨18, 9⟩) (meth := k18m9) (c := k18c9) (by decide +kernel) rfl rfl rfl (by decide +kernel)
set_option maxRecDepth 65536 in
theorem w_c37 : (Jvm.Cond.code ({ cls := "java/lang/StringUTF16", name := "coderFromArrayLen", desc := "([BI)B" } : Jvm.MethodName) jdk_52_method_15_code (2 : Nat) (Option.some Jvm.ClassFile.FieldType.byte)).before args0 about1 = true := code_word (m := ⟨18, 7⟩) (meth := k18m7) (c := k18c7) (by decide +kernel) rfl rfl rfl (by decide +kernel)
set_option maxRecDepth 65536 in
theorem w_c38 : (Jvm.Cond.code ({ cls := "java/lang/StringUTF16", name := "toBytes", desc := "([CII)[B" } : Jvm.MethodName) jdk_52_method_14_code (5 : Nat) (Option.some (Jvm.ClassFile.FieldType.array Jvm.ClassFile.FieldType.byte))).before args0 about1 = true := code_word (m := ⟨18, 6⟩) (meth := k18m6) (c := k18c6) (by decide +kernel) rfl rfl rfl (by decide +kernel)
set_option maxRecDepth 65536 in
theorem w_c39 : (Jvm.Cond.code ({ cls := "java/lang/StringUTF16", name := "newBytesFor", desc := "(I)[B" } : Jvm.MethodName) jdk_52_method_2_code (1 : Nat) (Option.some (Jvm.ClassFile.FieldType.array Jvm.ClassFile.FieldType.byte))).before args0 about1 = true := code_word (m := ⟨18, 1⟩) (meth := k18m1) (c := k18c1) (by decide +kernel) rfl rfl rfl (by decide +kernel)
set_option maxRecDepth 65536 in
theorem w_c40 : (Jvm.Cond.code ({ cls := "java/lang/StringUTF16", name := "newBytesLength", desc := "(I)I" } : Jvm.MethodName) jdk_52_method_3_code (1 : Nat) (Option.some Jvm.ClassFile.FieldType.int)).before args0 about1 = true := code_word (m := ⟨18, 2⟩) (meth := k18m2) (c := k18c2) (by decide +kernel) rfl rfl rfl (by decide +kernel)
set_option maxRecDepth 65536 in
theorem w_c41 : (Jvm.Cond.code ({ cls := "java/lang/StringUTF16", name := "putChar", desc := "([BII)V" } : Jvm.MethodName) jdk_52_method_4_code (3 : Nat) (Option.none : Option Jvm.ClassFile.FieldType)).before args0 about1 = true := code_word (m := ⟨18, 3⟩) (meth := k18m3) (c := k18c3) (by decide +kernel) rfl rfl rfl (by decide +kernel)
set_option maxRecDepth 65536 in
theorem w_c42 : (Jvm.Cond.code ({ cls := "java/lang/StringUTF16", name := "getChar", desc := "([BI)C" } : Jvm.MethodName) jdk_52_method_5_code (2 : Nat) (Option.some Jvm.ClassFile.FieldType.char)).before args0 about1 = true := code_word (m := ⟨18, 4⟩) (meth := k18m4) (c := k18c4) (by decide +kernel) rfl rfl rfl (by decide +kernel)
set_option maxRecDepth 65536 in
theorem w_c43 : (Jvm.Cond.code ({ cls := "java/lang/AbstractStringBuilder", name := "inflate", desc := "()V" } : Jvm.MethodName) jdk_68_method_11_code (2 : Nat) (Option.none : Option Jvm.ClassFile.FieldType)).before args0 about1 = true := code_word (m := ⟨11, 4⟩) (meth := k11m4) (c := k11c4) (by decide +kernel) rfl rfl rfl (by decide +kernel)
set_option maxRecDepth 65536 in
theorem w_c44 : (Jvm.Cond.code ({ cls := "java/lang/StringLatin1", name := "inflate", desc := "([BI[BII)V" } : Jvm.MethodName) jdk_43_method_50_code (5 : Nat) (Option.none : Option Jvm.ClassFile.FieldType)).before args0 about1 = true := code_word (m := ⟨16, 2⟩) (meth := k16m2) (c := k16c2) (by decide +kernel) rfl rfl rfl (by decide +kernel)
set_option maxRecDepth 65536 in
theorem w_c45 : (Jvm.Cond.code ({ cls := "java/lang/StringUTF16", name := "inflate", desc := "([BI[BII)V" } : Jvm.MethodName) jdk_52_method_86_code (6 : Nat) (Option.none : Option Jvm.ClassFile.FieldType)).before args0 about1 = true := code_word (m := ⟨18, 11⟩) (meth := k18m11) (c := k18c11) (by decide +kernel) rfl rfl rfl (by decide +kernel)
set_option maxRecDepth 65536 in
theorem w_c46 : (Jvm.Cond.code ({ cls := "java/lang/StringUTF16", name := "checkBoundsOffCount", desc := "(II[B)V" } : Jvm.MethodName) jdk_52_method_94_code (3 : Nat) (Option.none : Option Jvm.ClassFile.FieldType)).before args0 about1 = true := code_word (m := ⟨18, 13⟩) (meth := k18m13) (c := k18c13) (by decide +kernel) rfl rfl rfl (by decide +kernel)
set_option maxRecDepth 65536 in
theorem w_c47 : (Jvm.Cond.code ({ cls := "java/lang/StringUTF16", name := "length", desc := "([B)I" } : Jvm.MethodName) jdk_52_method_6_code (1 : Nat) (Option.some Jvm.ClassFile.FieldType.int)).before args0 about1 = true := code_word (m := ⟨18, 5⟩) (meth := k18m5) (c := k18c5) (by decide +kernel) rfl rfl rfl (by decide +kernel)
set_option maxRecDepth 65536 in
theorem w_c48 : (Jvm.Cond.code ({ cls := "java/lang/String", name := "checkBoundsOffCount", desc := "(III)I" } : Jvm.MethodName) jdk_42_method_157_code (3 : Nat) (Option.some Jvm.ClassFile.FieldType.int)).before args0 about1 = true := code_word (m := ⟨9, 11⟩) (meth := k9m11) (c := k9c11) (by decide +kernel) rfl rfl rfl (by decide +kernel)
set_option maxRecDepth 65536 in
theorem w_c49 : (Jvm.Cond.code ({ cls := "jdk/internal/util/Preconditions", name := "checkFromIndexSize", desc := "(IIILjava/util/function/BiFunction;)I" } : Jvm.MethodName) jdk_41_method_13_code (4 : Nat) (Option.some Jvm.ClassFile.FieldType.int)).before args0 about1 = true := code_word (m := ⟨17, 2⟩) (meth := k17m2) (c := k17c2) (by decide +kernel) rfl rfl rfl (by decide +kernel)
set_option maxRecDepth 65536 in
theorem w_c50 : (Jvm.Cond.code ({ cls := "java/lang/StringUTF16", name := "charAt", desc := "([BI)C" } : Jvm.MethodName) jdk_52_method_83_code (2 : Nat) (Option.some Jvm.ClassFile.FieldType.char)).before args0 about1 = true := code_word (m := ⟨18, 10⟩) (meth := k18m10) (c := k18c10) (by decide +kernel) rfl rfl rfl (by decide +kernel)
set_option maxRecDepth 65536 in
theorem w_c51 : (Jvm.Cond.code ({ cls := "java/lang/StringUTF16", name := "checkIndex", desc := "(I[B)V" } : Jvm.MethodName) jdk_52_method_91_code (2 : Nat) (Option.none : Option Jvm.ClassFile.FieldType)).before args0 about1 = true := code_word (m := ⟨18, 12⟩) (meth := k18m12) (c := k18c12) (by decide +kernel) rfl rfl rfl (by decide +kernel)
def codes1 : List Jvm.Cond := [Jvm.Cond.code x code maxLocals ret, Jvm.Cond.code ({ cls := "com/example/loomwire/loomwire/manifest/WrittenClauseToStringPinLaw", name := "mk", desc := "(ICCC)[C" } : Jvm.MethodName) method_4_code (4 : Nat) (Option.some (Jvm.ClassFile.FieldType.array Jvm.ClassFile.FieldType.char)), Jvm.Cond.code ({ cls := "java/lang/String", name := "<init>", desc := "([C)V" } : Jvm.MethodName) jdk_42_method_3_code (2 : Nat) (Option.none : Option Jvm.ClassFile.FieldType), Jvm.Cond.code ({ cls := "java/lang/String", name := "<init>", desc := "([CIILjava/lang/Void;)V" } : Jvm.MethodName) jdk_42_method_149_code (6 : Nat) (Option.none : Option Jvm.ClassFile.FieldType), Jvm.Cond.code ({ cls := "java/lang/Object", name := "<init>", desc := "()V" } : Jvm.MethodName) object_method_1_code (1 : Nat) (Option.none : Option Jvm.ClassFile.FieldType), Jvm.Cond.code ({ cls := "com/example/loomwire/loomwire/manifest/WrittenClause", name := "<init>", desc := "(Ljava/lang/String;Ljava/lang/String;)V" } : Jvm.MethodName) prog_16_method_1_code (3 : Nat) (Option.none : Option Jvm.ClassFile.FieldType), Jvm.Cond.code ({ cls := "java/lang/Record", name := "<init>", desc := "()V" } : Jvm.MethodName) jdk_30_method_1_code (1 : Nat) (Option.none : Option Jvm.ClassFile.FieldType), Jvm.Cond.code ({ cls := "com/example/loomwire/loomwire/manifest/WrittenClause", name := "toString", desc := "()Ljava/lang/String;" } : Jvm.MethodName) prog_16_method_2_code (1 : Nat) (Option.some (Jvm.ClassFile.FieldType.object "java/lang/String")), Jvm.Cond.code ({ cls := "java/lang/StringBuilder", name := "<init>", desc := "()V" } : Jvm.MethodName) jdk_67_method_1_code (1 : Nat) (Option.none : Option Jvm.ClassFile.FieldType), Jvm.Cond.code ({ cls := "java/lang/AbstractStringBuilder", name := "<init>", desc := "(I)V" } : Jvm.MethodName) jdk_68_method_2_code (2 : Nat) (Option.none : Option Jvm.ClassFile.FieldType), Jvm.Cond.code ({ cls := "java/lang/StringBuilder", name := "append", desc := "(Ljava/lang/String;)Ljava/lang/StringBuilder;" } : Jvm.MethodName) jdk_67_method_7_code (2 : Nat) (Option.some (Jvm.ClassFile.FieldType.object "java/lang/StringBuilder")), Jvm.Cond.code ({ cls := "java/lang/AbstractStringBuilder", name := "append", desc := "(Ljava/lang/String;)Ljava/lang/AbstractStringBuilder;" } : Jvm.MethodName) jdk_68_method_22_code (3 : Nat) (Option.some (Jvm.ClassFile.FieldType.object "java/lang/AbstractStringBuilder")), Jvm.Cond.code ({ cls := "java/lang/String", name := "length", desc := "()I" } : Jvm.MethodName) jdk_42_method_54_code (1 : Nat) (Option.some Jvm.ClassFile.FieldType.int), Jvm.Cond.code ({ cls := "java/lang/String", name := "coder", desc := "()B" } : Jvm.MethodName) jdk_42_method_152_code (1 : Nat) (Option.some Jvm.ClassFile.FieldType.byte), Jvm.Cond.code ({ cls := "java/lang/AbstractStringBuilder", name := "ensureCapacityInternal", desc := "(I)V" } : Jvm.MethodName) jdk_68_method_9_code (3 : Nat) (Option.none : Option Jvm.ClassFile.FieldType), Jvm.Cond.code ({ cls := "java/lang/AbstractStringBuilder", name := "putStringAt", desc := "(ILjava/lang/String;)V" } : Jvm.MethodName) jdk_68_method_73_code (3 : Nat) (Option.none : Option Jvm.ClassFile.FieldType), Jvm.Cond.code ({ cls := "java/lang/AbstractStringBuilder", name := "inflateIfNeededFor", desc := "(Ljava/lang/String;)V" } : Jvm.MethodName) jdk_68_method_71_code (2 : Nat) (Option.none : Option Jvm.ClassFile.FieldType), Jvm.Cond.code ({ cls := "java/lang/String", name := "getBytes", desc := "([BIB)V" } : Jvm.MethodName) jdk_42_method_147_code (4 : Nat) (Option.none : Option Jvm.ClassFile.FieldType), Jvm.Cond.code ({ cls := "java/lang/StringBuilder", name := "toString", desc := "()Ljava/lang/String;" } : Jvm.MethodName) jdk_67_method_42_code (1 : Nat) (Option.some (Jvm.ClassFile.FieldType.object "java/lang/String")), Jvm.Cond.code ({ cls := "java/lang/String", name := "<init>", desc := "(Ljava/lang/StringBuilder;)V" } : Jvm.MethodName) jdk_42_method_53_code (2 : Nat) (Option.none : Option Jvm.ClassFile.FieldType), Jvm.Cond.code ({ cls := "java/lang/String", name := "<init>", desc := "(Ljava/lang/AbstractStringBuilder;Ljava/lang/Void;)V" } : Jvm.MethodName) jdk_42_method_150_code (5 : Nat) (Option.none : Option Jvm.ClassFile.FieldType), Jvm.Cond.code ({ cls := "java/lang/AbstractStringBuilder", name := "getValue", desc := "()[B" } : Jvm.MethodName) jdk_68_method_64_code (1 : Nat) (Option.some (Jvm.ClassFile.FieldType.array Jvm.ClassFile.FieldType.byte)), Jvm.Cond.code ({ cls := "java/lang/StringBuilder", name := "length", desc := "()I" } : Jvm.MethodName) jdk_67_method_93_code (1 : Nat) (Option.some Jvm.ClassFile.FieldType.int), Jvm.Cond.code ({ cls := "java/lang/AbstractStringBuilder", name := "length", desc := "()I" } : Jvm.MethodName) jdk_68_method_6_code (1 : Nat) (Option.some Jvm.ClassFile.FieldType.int), Jvm.Cond.code ({ cls := "java/lang/AbstractStringBuilder", name := "isLatin1", desc := "()Z" } : Jvm.MethodName) jdk_68_method_68_code (1 : Nat) (Option.some Jvm.ClassFile.FieldType.boolean), Jvm.Cond.code ({ cls := "java/util/Arrays", name := "copyOfRange", desc := "([BII)[B" } : Jvm.MethodName) jdk_65_method_132_code (3 : Nat) (Option.some (Jvm.ClassFile.FieldType.array Jvm.ClassFile.FieldType.byte)), Jvm.Cond.code ({ cls := "java/util/Arrays", name := "copyOfRangeByte", desc := "([BII)[B" } : Jvm.MethodName) jdk_65_method_133_code (5 : Nat) (Option.some (Jvm.ClassFile.FieldType.array Jvm.ClassFile.FieldType.byte)), Jvm.Cond.code ({ cls := "java/util/Arrays", name := "checkLength", desc := "(II)V" } : Jvm.MethodName) jdk_65_method_131_code (2 : Nat) (Option.none : Option Jvm.ClassFile.FieldType), Jvm.Cond.code ({ cls := "java/lang/Math", name := "min", desc := "(II)I" } : Jvm.MethodName) jdk_29_method_69_code (2 : Nat) (Option.some Jvm.ClassFile.FieldType.int), Jvm.Cond.code ({ cls := "com/example/loomwire/loomwire/manifest/WrittenClauseToStringPinLaw", name := "at", desc := "(Ljava/lang/String;I[C[CII)Z" } : Jvm.MethodName) method_3_code (7 : Nat) (Option.some Jvm.ClassFile.FieldType.boolean), Jvm.Cond.code ({ cls := "java/lang/String", name := "charAt", desc := "(I)C" } : Jvm.MethodName) jdk_42_method_56_code (2 : Nat) (Option.some Jvm.ClassFile.FieldType.char), Jvm.Cond.code ({ cls := "java/lang/String", name := "isLatin1", desc := "()Z" } : Jvm.MethodName) jdk_42_method_154_code (1 : Nat) (Option.some Jvm.ClassFile.FieldType.boolean), Jvm.Cond.code ({ cls := "java/lang/StringLatin1", name := "charAt", desc := "([BI)C" } : Jvm.MethodName) jdk_43_method_2_code (2 : Nat) (Option.some Jvm.ClassFile.FieldType.char), Jvm.Cond.code ({ cls := "java/lang/String", name := "checkIndex", desc := "(II)V" } : Jvm.MethodName) jdk_42_method_155_code (2 : Nat) (Option.none : Option Jvm.ClassFile.FieldType), Jvm.Cond.code ({ cls := "jdk/internal/util/Preconditions", name := "checkIndex", desc := "(IILjava/util/function/BiFunction;)I" } : Jvm.MethodName) jdk_41_method_11_code (3 : Nat) (Option.some Jvm.ClassFile.FieldType.int), Jvm.Cond.code ({ cls := "java/lang/StringUTF16", name := "compress", desc := "([CII)[B" } : Jvm.MethodName) jdk_52_method_16_code (6 : Nat) (Option.some (Jvm.ClassFile.FieldType.array Jvm.ClassFile.FieldType.byte)), Jvm.Cond.code ({ cls := "java/lang/StringUTF16", name := "compress", desc := "([CI[BII)I" } : Jvm.MethodName) jdk_52_method_21_code (7 : Nat) (Option.some Jvm.ClassFile.FieldType.int), Jvm.Cond.code ({ cls := "java/lang/StringUTF16", name := "coderFromArrayLen", desc := "([BI)B" } : Jvm.MethodName) jdk_52_method_15_code (2 : Nat) (Option.some Jvm.ClassFile.FieldType.byte), Jvm.Cond.code ({ cls := "java/lang/StringUTF16", name := "toBytes", desc := "([CII)[B" } : Jvm.MethodName) jdk_52_method_14_code (5 : Nat) (Option.some (Jvm.ClassFile.FieldType.array Jvm.ClassFile.FieldType.byte)), Jvm.Cond.code ({ cls := "java/lang/StringUTF16", name := "newBytesFor", desc := "(I)[B" } : Jvm.MethodName) jdk_52_method_2_code (1 : Nat) (Option.some (Jvm.ClassFile.FieldType.array Jvm.ClassFile.FieldType.byte)), Jvm.Cond.code ({ cls := "java/lang/StringUTF16", name := "newBytesLength", desc := "(I)I" } : Jvm.MethodName) jdk_52_method_3_code (1 : Nat) (Option.some Jvm.ClassFile.FieldType.int), Jvm.Cond.code ({ cls := "java/lang/StringUTF16", name := "putChar", desc := "([BII)V" } : Jvm.MethodName) jdk_52_method_4_code (3 : Nat) (Option.none : Option Jvm.ClassFile.FieldType), Jvm.Cond.code ({ cls := "java/lang/StringUTF16", name := "getChar", desc := "([BI)C" } : Jvm.MethodName) jdk_52_method_5_code (2 : Nat) (Option.some Jvm.ClassFile.FieldType.char), Jvm.Cond.code ({ cls := "java/lang/AbstractStringBuilder", name := "inflate", desc := "()V" } : Jvm.MethodName) jdk_68_method_11_code (2 : Nat) (Option.none : Option Jvm.ClassFile.FieldType), Jvm.Cond.code ({ cls := "java/lang/StringLatin1", name := "inflate", desc := "([BI[BII)V" } : Jvm.MethodName) jdk_43_method_50_code (5 : Nat) (Option.none : Option Jvm.ClassFile.FieldType), Jvm.Cond.code ({ cls := "java/lang/StringUTF16", name := "inflate", desc := "([BI[BII)V" } : Jvm.MethodName) jdk_52_method_86_code (6 : Nat) (Option.none : Option Jvm.ClassFile.FieldType), Jvm.Cond.code ({ cls := "java/lang/StringUTF16", name := "checkBoundsOffCount", desc := "(II[B)V" } : Jvm.MethodName) jdk_52_method_94_code (3 : Nat) (Option.none : Option Jvm.ClassFile.FieldType), Jvm.Cond.code ({ cls := "java/lang/StringUTF16", name := "length", desc := "([B)I" } : Jvm.MethodName) jdk_52_method_6_code (1 : Nat) (Option.some Jvm.ClassFile.FieldType.int), Jvm.Cond.code ({ cls := "java/lang/String", name := "checkBoundsOffCount", desc := "(III)I" } : Jvm.MethodName) jdk_42_method_157_code (3 : Nat) (Option.some Jvm.ClassFile.FieldType.int), Jvm.Cond.code ({ cls := "jdk/internal/util/Preconditions", name := "checkFromIndexSize", desc := "(IIILjava/util/function/BiFunction;)I" } : Jvm.MethodName) jdk_41_method_13_code (4 : Nat) (Option.some Jvm.ClassFile.FieldType.int), Jvm.Cond.code ({ cls := "java/lang/StringUTF16", name := "charAt", desc := "([BI)C" } : Jvm.MethodName) jdk_52_method_83_code (2 : Nat) (Option.some Jvm.ClassFile.FieldType.char), Jvm.Cond.code ({ cls := "java/lang/StringUTF16", name := "checkIndex", desc := "(I[B)V" } : Jvm.MethodName) jdk_52_method_91_code (2 : Nat) (Option.none : Option Jvm.ClassFile.FieldType)]
set_option maxRecDepth 65536 in
theorem codes_eq : words1.filter isCode = codes1 := rfl
theorem w_codes : ∀ c ∈ words1.filter isCode, c.before args0 about1 = true := by
  rw [codes_eq]
  intro c hc
  simp only [codes1, List.mem_cons, List.not_mem_nil, or_false] at hc
  rcases hc with rfl | rfl | rfl | rfl | rfl | rfl | rfl | rfl | rfl | rfl | rfl | rfl | rfl | rfl | rfl | rfl | rfl | rfl | rfl | rfl | rfl | rfl | rfl | rfl | rfl | rfl | rfl | rfl | rfl | rfl | rfl | rfl | rfl | rfl | rfl | rfl | rfl | rfl | rfl | rfl | rfl | rfl | rfl | rfl | rfl | rfl | rfl | rfl | rfl | rfl | rfl | rfl
  · exact w_c0
  · exact w_c1
  · exact w_c2
  · exact w_c3
  · exact w_c4
  · exact w_c5
  · exact w_c6
  · exact w_c7
  · exact w_c8
  · exact w_c9
  · exact w_c10
  · exact w_c11
  · exact w_c12
  · exact w_c13
  · exact w_c14
  · exact w_c15
  · exact w_c16
  · exact w_c17
  · exact w_c18
  · exact w_c19
  · exact w_c20
  · exact w_c21
  · exact w_c22
  · exact w_c23
  · exact w_c24
  · exact w_c25
  · exact w_c26
  · exact w_c27
  · exact w_c28
  · exact w_c29
  · exact w_c30
  · exact w_c31
  · exact w_c32
  · exact w_c33
  · exact w_c34
  · exact w_c35
  · exact w_c36
  · exact w_c37
  · exact w_c38
  · exact w_c39
  · exact w_c40
  · exact w_c41
  · exact w_c42
  · exact w_c43
  · exact w_c44
  · exact w_c45
  · exact w_c46
  · exact w_c47
  · exact w_c48
  · exact w_c49
  · exact w_c50
  · exact w_c51
set_option maxRecDepth 65536 in
theorem w_t1 : (words1.take 24).all (fun c => isCode c || c.before args0 about1) = true := by decide +kernel
set_option maxRecDepth 65536 in
theorem w_t2 : ((words1.drop 24).take 24).all (fun c => isCode c || c.before args0 about1) = true := by decide +kernel
set_option maxRecDepth 65536 in
theorem w_t3 : (((words1.drop 24).drop 24).take 24).all (fun c => isCode c || c.before args0 about1) = true := by decide +kernel
set_option maxRecDepth 65536 in
theorem w_t4 : ((((words1.drop 24).drop 24).drop 24).take 24).all (fun c => isCode c || c.before args0 about1) = true := by decide +kernel
set_option maxRecDepth 65536 in
theorem w_t5 : (((((words1.drop 24).drop 24).drop 24).drop 24).take 24).all (fun c => isCode c || c.before args0 about1) = true := by decide +kernel
set_option maxRecDepth 65536 in
theorem w_t6 : ((((((words1.drop 24).drop 24).drop 24).drop 24).drop 24).take 24).all (fun c => isCode c || c.before args0 about1) = true := by decide +kernel
set_option maxRecDepth 65536 in
theorem w_t7 : (((((((words1.drop 24).drop 24).drop 24).drop 24).drop 24).drop 24).take 24).all (fun c => isCode c || c.before args0 about1) = true := by decide +kernel
set_option maxRecDepth 65536 in
theorem w_t8 : ((((((((words1.drop 24).drop 24).drop 24).drop 24).drop 24).drop 24).drop 24).take 24).all (fun c => isCode c || c.before args0 about1) = true := by decide +kernel
set_option maxRecDepth 65536 in
theorem w_t9 : (((((((((words1.drop 24).drop 24).drop 24).drop 24).drop 24).drop 24).drop 24).drop 24).take 24).all (fun c => isCode c || c.before args0 about1) = true := by decide +kernel
set_option maxRecDepth 65536 in
theorem w_t10 : ((((((((((words1.drop 24).drop 24).drop 24).drop 24).drop 24).drop 24).drop 24).drop 24).drop 24).take 24).all (fun c => isCode c || c.before args0 about1) = true := by decide +kernel
set_option maxRecDepth 65536 in
theorem w_t11 : ((((((((((words1.drop 24).drop 24).drop 24).drop 24).drop 24).drop 24).drop 24).drop 24).drop 24).drop 24).all (fun c => isCode c || c.before args0 about1) = true := by decide +kernel
theorem w_tables : (allAtoms (Jvm.Cond.code x code maxLocals ret :: tables_1)).before args0 about1 = true := by
  rw [allAtoms_all]
  show words1.all (fun c => c.before args0 about1) = true
  refine all_split ?_ w_codes
  rw [← List.take_append_drop 24 words1, List.all_append, w_t1, ← List.take_append_drop 24 (words1.drop 24), List.all_append, w_t2, ← List.take_append_drop 24 ((words1.drop 24).drop 24), List.all_append, w_t3, ← List.take_append_drop 24 (((words1.drop 24).drop 24).drop 24), List.all_append, w_t4, ← List.take_append_drop 24 ((((words1.drop 24).drop 24).drop 24).drop 24), List.all_append, w_t5, ← List.take_append_drop 24 (((((words1.drop 24).drop 24).drop 24).drop 24).drop 24), List.all_append, w_t6, ← List.take_append_drop 24 ((((((words1.drop 24).drop 24).drop 24).drop 24).drop 24).drop 24), List.all_append, w_t7, ← List.take_append_drop 24 (((((((words1.drop 24).drop 24).drop 24).drop 24).drop 24).drop 24).drop 24), List.all_append, w_t8, ← List.take_append_drop 24 ((((((((words1.drop 24).drop 24).drop 24).drop 24).drop 24).drop 24).drop 24).drop 24), List.all_append, w_t9, ← List.take_append_drop 24 (((((((((words1.drop 24).drop 24).drop 24).drop 24).drop 24).drop 24).drop 24).drop 24).drop 24), List.all_append, w_t10, w_t11]
  rfl
set_option maxRecDepth 65536 in
theorem w_rest : rest_1_c.before args0 about1 = true := by decide +kernel
set_option maxRecDepth 65536 in
theorem w_case : (Jvm.Cond.and given_1 narrow_1).before args0 about1 = true := by decide +kernel
set_option maxRecDepth 65536 in
theorem w_consts : constsHeld consts_1 about1 := Jvm.Lit.constsHeldB_iff.mp (by decide +kernel)
theorem w_applies : (headSpec (Jvm.Cond.code x code maxLocals ret :: tables_1) room_1).applies x e0.platform about1 = true :=
  (Spec.applies_iff w_frames).mpr ⟨w_running, w_runnable, w_alone, w_named, w_hears, w_ripe, w_room, w_tables⟩
theorem atStart : AtStart classFile x code maxLocals ret World_1 tables_1 room_1 Calls_1 rest_1 Pre_1 launch0 p0 e0 about1 theMethod args0 below0 :=
  ⟨lists_1, trivial, launch0.admits_env _ _ _, launch0.least_env, fairChoices_fair.cas, fairChoices_fair.clock, w_frames, w_args, w_heap, w_applies, ⟨w_consts, trivial⟩, w_rest, w_case⟩
end start1
theorem witness_1 : WitnessClaimed_1 := ⟨start1.p0, start1.e0, start1.about1, start1.theMethod, start1.args0, start1.below0, start1.atStart⟩
end Jvm.Pilot.@@N@@
