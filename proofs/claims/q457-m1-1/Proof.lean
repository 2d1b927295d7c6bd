import JvmDerived
import JvmDerived.Pilot.@@N@@Statement
import JvmDerived.Pilot.@@N@@Code
set_option linter.unusedVariables false
set_option linter.unusedSimpArgs false
namespace Jvm.RoadKit
open Sem ClassFile Op Lib Jvm.Stand Jvm.Free Jvm.LawKit
section New
variable {p : Program} {l : Launch} {e : Env} {R : Room} {s : State} {m : MethodId} {args : Array Value} {below : List Frame} {meth : Method} {c : Code} {T : State} {locs : List Loc} {cells slots : Nat}
theorem retI (X : Stand p l e R s m args below meth c T locs cells slots) (hx : p.tables.exec = Jvm.exec) {pc : Nat} {Ls : Array Slot} {z : Int32} {rest : List Value} (hret : meth.sig.returnType = some .int) (hd : decode c.code pc = .ok (.ireturn, 1)) {fs : List Frame}
    (hl : ∀ (f : JFrame) (acts : List Action), f.method = m → f.locked = none → f.entered = [] → (doReturn e (T.setTop f) acts (some (.int z))).1 = T.setFrames fs) : Steps p.tables e below (T.setTop (mkF m pc Ls (.int z :: rest))) (T.setFrames fs) := by
  have hm' : T.vm.method? m = some meth := X.method'
  have hn : narrow .int (.int z) = .int z := rfl
  show Steps p.tables e below (T.setTop { method := m, pc := pc, locals := Ls, stack := _ :: rest, locked := none }) _
  jvm_step X.here [X.here.top, hx, hd, hm', hret, hn]
  first | (intro acts; rw [hl _ acts rfl rfl rfl]) | rw [hl _ _ rfl rfl rfl]
  exact Steps.refl _
end New
end Jvm.RoadKit
namespace Jvm.Pilot.@@N@@
open Jvm Jvm.ClassFile Sem Op Lib Jvm.Free Jvm.Stand Jvm.LawKit Jvm.RoadKit Bundle Jvm.Pilot.@@N@@.Jvm.D
theorem Wd {Z : State} {a0 : Array Value} {d : Jvm.Cond} (hw : ∀ d ∈ tables_1, d.before a0 Z = true) (i : Nat) (h : tables_1[i]? = some d) : d.before a0 Z = true := hw _ (List.mem_of_getElem? h)
theorem own_sz {Z : State} {n0 : Nat} {h : Heap} (O : Old Z n0 h) : n0 ≤ h.size := O.1 ▸ O.2.1
theorem own_neArv {Z : State} {h : Heap} {a b : Addr} {k k' : ClassId} {ty ty' : FieldType} {z z' : Int32} {vs vs' : List Value} {d d' : Value} (F : Arv Z h a k ty z vs d) (G : Arv Z h b k' ty' z' vs' d') (hn : ty ≠ ty') : a ≠ b := fun q => by
  subst q
  obtain ⟨c1, ⟨e1, ⟨-, k1, hk1, cp1, hd1⟩, -⟩, -⟩ := F
  obtain ⟨c2, ⟨e2, ⟨-, k2, hk2, cp2, hd2⟩, -⟩, -⟩ := G
  cases e1.symm.trans e2
  cases hk1.symm.trans hk2
  rw [hd1] at hd2
  injection hd2 with _ h2
  exact hn h2
theorem own_fi {args : Array Value} {s : State} {t : Term} {a : Addr} {C n d : String} {k : Int32} (ht : t.eval args s none [] s = some (.ref a)) (h : (Jvm.Cond.eq (Jvm.Term.field t C n d) (Jvm.Term.int k)).value args s none s [] = some true) : s.fieldOf? a C n d = some (.int k) := by
  have e := fld_at (C := C) (n := n) (dd := d) ht
  obtain ⟨v, w, h1, h2, h3, h4⟩ := cmp_v (Or.inl h)
  cases (Term.int_eval k).symm.trans h2
  obtain ⟨z, rfl⟩ := h4
  rw [← e, h1]
  simp only [Cond.value, h1, Term.int_eval] at h
  simpa using h
theorem own_len {args : Array Value} {s : State} {t : Term} {a : Addr} {cl : Cell} {ty : FieldType} {z : Int32} (A : Arr s s.heap a cl ty) (ev : t.eval args s none [] s = some (.ref a)) (h : (Jvm.Cond.eq (Jvm.Term.length t) (Jvm.Term.int z)).value args s none s [] = some true) : cl.slots.size < 2 ^ 31 ∧ cl.slots.size.toInt32 = z := by
  have e := Cond.eq_int (beq_iff_eq.mpr h) (Term.int_eval z)
  have hA : s.arrayAt? a = some cl := IntBox.arrayAt_of A.1 A.2.1 A.2.2
  by_cases q : cl.slots.size < 2 ^ 31
  · refine ⟨q, ?_⟩
    have r := len_f ev hA q
    rw [r] at e
    injection e with e
    injection e
  · exfalso
    simp [Term.eval, ev, hA] at e
    omega
theorem own_eli {args : Array Value} {s : State} {t : Term} {a : Addr} {cl : Cell} {j k : Int32} (hc : s.heap[a]? = some cl) (ev : t.eval args s none [] s = some (.ref a)) (h : (Jvm.Cond.eq (Jvm.Term.elem t (Jvm.Term.int j)) (Jvm.Term.int k)).value args s none s [] = some true) : cl.slots[j.toNatClampNeg]? = some (.int k) :=
  (elem_in (Cond.eq_int (beq_iff_eq.mpr h) (Term.int_eval k)) ev (Term.int_eval j) hc).2
theorem own_elr {args : Array Value} {s : State} {t u : Term} {a b : Addr} {cl : Cell} {j : Int32} (hc : s.heap[a]? = some cl) (ev : t.eval args s none [] s = some (.ref a)) (eu : u.eval args s none [] s = some (.ref b)) (h : (Jvm.Cond.eq (Jvm.Term.elem t (Jvm.Term.int j)) u).value args s none s [] = some true) : cl.slots[j.toNatClampNeg]? = some (.ref b) := by
  obtain ⟨v, w, h1, h2, h3, h4⟩ := cmp_v (Or.inl h)
  cases eu.symm.trans h2
  have hv : v = .ref b := gotT (eq_R h1 h2 h4.2 rfl) h
  rw [hv] at h1
  exact (elem_in h1 ev (Term.int_eval j) hc).2
def GF (Z : State) (aSTABLE : Addr) (aPREWRITTEN : Addr) (aCOMMITTED : Addr) (aABORTED : Addr) (aV : Addr) (kV : ClassId) : Prop := Sta Z Z.heap "com/example/enact/enact/lock/LockState" "STABLE" "Lcom/example/enact/enact/lock/LockState;" (.ref aSTABLE) ∧ Exa Z Z.heap aSTABLE "com/example/enact/enact/lock/LockState" ∧ Fld Z Z.heap aSTABLE "com/example/enact/enact/lock/LockState" "code" "I" (.int (0 : Int32)) ∧ Sta Z Z.heap "com/example/enact/enact/lock/LockState" "PREWRITTEN" "Lcom/example/enact/enact/lock/LockState;" (.ref aPREWRITTEN) ∧ Exa Z Z.heap aPREWRITTEN "com/example/enact/enact/lock/LockState" ∧ Fld Z Z.heap aPREWRITTEN "com/example/enact/enact/lock/LockState" "code" "I" (.int (1 : Int32)) ∧ Sta Z Z.heap "com/example/enact/enact/lock/LockState" "COMMITTED" "Lcom/example/enact/enact/lock/LockState;" (.ref aCOMMITTED) ∧ Exa Z Z.heap aCOMMITTED "com/example/enact/enact/lock/LockState" ∧ Fld Z Z.heap aCOMMITTED "com/example/enact/enact/lock/LockState" "code" "I" (.int (2 : Int32)) ∧ Sta Z Z.heap "com/example/enact/enact/lock/LockState" "ABORTED" "Lcom/example/enact/enact/lock/LockState;" (.ref aABORTED) ∧ Exa Z Z.heap aABORTED "com/example/enact/enact/lock/LockState" ∧ Fld Z Z.heap aABORTED "com/example/enact/enact/lock/LockState" "code" "I" (.int (3 : Int32)) ∧ Sta Z Z.heap "com/example/enact/enact/lock/LockState" "$VALUES" "[Lcom/example/enact/enact/lock/LockState;" (.ref aV) ∧ Exa Z Z.heap aV "[Lcom/example/enact/enact/lock/LockState;" ∧ Arv Z Z.heap aV kV (.object "com/example/enact/enact/lock/LockState") (4 : Int32) [(.ref aSTABLE), (.ref aPREWRITTEN), (.ref aCOMMITTED), (.ref aABORTED)] .null
theorem d3_0 : decode prog_2_method_1_code 0 = .ok (.getstatic 16, 3) := by decide +kernel
theorem d3_3 : decode prog_2_method_1_code 3 = .ok (.invokevirtual 20, 3) := by decide +kernel
theorem d3_6 : decode prog_2_method_1_code 6 = .ok (.checkcast 21, 3) := by decide +kernel
theorem d3_9 : decode prog_2_method_1_code 9 = .ok (.areturn, 1) := by decide +kernel
theorem pn : plainName "com/example/enact/enact/lock/LockState" = true := by first | (simp [plainName, overriddenIn]; done) | decide +kernel
abbrev MN_0 : MethodName := ⟨"com/example/enact/enact/lock/LockState", "values", "()[Lcom/example/enact/enact/lock/LockState;"⟩
theorem ef_rm3 (m : MethodId)  : entryFrame m #[] 0 = mkF m 0 #[] [] := by first | (simp [entryFrame, mkF, argsToLocals, Value.category]; done) | rfl
def Q_rm3 (n0 : Nat) (Z : State) (aSTABLE : Addr) (aPREWRITTEN : Addr) (aCOMMITTED : Addr) (aABORTED : Addr) (aV : Addr) (kV : ClassId) (h0 : Heap) (v : Option Value) (h : Heap) (L : List Loc) : Prop := ∃ b : Addr, v = some (.ref b) ∧ Fr n0 L ∧ Keep h0 h [] ∧ (h0.size ≤ b) ∧ (Arv Z h b kV (.object "com/example/enact/enact/lock/LockState") (4 : Int32) [(.ref aSTABLE), (.ref aPREWRITTEN), (.ref aCOMMITTED), (.ref aABORTED)] .null)
set_option maxRecDepth 65536 in
set_option maxHeartbeats 40000000 in
theorem rm3 (l : Launch) (Z : State) (a0 : Array Value) (hw : ∀ d ∈ tables_1, d.before a0 Z = true) (ws : List Jvm.Cond) (aSTABLE : Addr) (aPREWRITTEN : Addr) (aCOMMITTED : Addr) (aABORTED : Addr) (aV : Addr) (kV : ClassId) (h0 : Heap) (n0 : Nat) (O0 : Old Z n0 h0) (GL : GF Z aSTABLE aPREWRITTEN aCOMMITTED aABORTED aV kV) :
    MetFree l MN_0 (head1 (Jvm.Cond.code MN_0 prog_2_method_1_code 0 (some (.array (.object "com/example/enact/enact/lock/LockState"))) :: ws) ({ frames := 1, cells := 1, slots := 4, locals := 14 } : Room)) (fun a U => a = #[] ∧ Z.Warmed39 U.vm ∧ U.heap = h0) (fun _ _ _ _ _ => True) (fun _ U o U' => ∃ v L, o = .returned v ∧ Q_rm3 n0 Z aSTABLE aPREWRITTEN aCOMMITTED aABORTED aV kV h0 v U'.heap L ∧ FrameEnd U o U' L ({ frames := 1, cells := 1, slots := 4, locals := 14 } : Room).cells ({ frames := 1, cells := 1, slots := 4, locals := 14 } : Room).slots) := by
  refine MetFree.of_bodySF (plainFor_of_name pn) hisR ?_
  intro p e s m args below meth c s₁ Bd hml0 hP hK
  obtain ⟨rfl, hZ, hh⟩ := hP
  have hx := Bd.exec
  have hby := Bd.bytes
  have hml : c.maxLocals = 0 := hml0
  have hown : s.vm.findClass "com/example/enact/enact/lock/LockState" = some m.cls := findClass_of_methodNamed Bd.named
  have hnm := (name_of_methodNamed Bd.named Bd.method).1
  have X0 : Stand p l e ({ frames := 1, cells := 1, slots := 4, locals := 14 } : Room) s m #[] below meth c s₁ [] 0 0 := Stand.of_body Bd
  have e0 : s₁.heap = h0 := by rw [← hh, Bd.state]; rfl
  have N0 := Fr.nil n0
  have pre0 : ∀ t, Steps p.tables e below (s₁.setTop (mkF m 0 #[] [])) t → Steps p.tables e below (s₁.setTop (entryFrame m #[] 0)) t := fun t k => castTop (ef_rm3 m ) k
  have GL' := GL
  obtain ⟨GSSTABLE, GESTABLE, GCSTABLE, GSPREWRITTEN, GEPREWRITTEN, GCPREWRITTEN, GSCOMMITTED, GECOMMITTED, GCCOMMITTED, GSABORTED, GEABORTED, GCABORTED, GSV, GEV, GVV⟩ := GL'
  obtain ⟨T1, X1, e1, st1⟩ := getS2 X0 hx hZ hown (host := "") (Or.inl (Wd hw 11 rfl)) Via.refl e0 (GSV.ext O0.2) (g := (mkF m 0 #[] [])) rfl (hb hby d3_0)
  obtain ⟨T2, h2, X2, e2, E2, A2, A2', st2⟩ := cloneH X1 hx hZ hown (Wd hw 13 rfl) (Wd hw 14 rfl) (Wd hw 18 rfl) (Wd hw 16 rfl) (Wd hw 17 rfl) (Wd hw 19 rfl) e1 ((GVV.ext O0.2)).arh (GEV.ext O0.2) (g := (mkF m 3 #[] [(.ref aV)])) rfl (by rw [hml]; rfl) rfl (hb hby d3_3) (by decide) (W := 0) (cap := 4) (by show 2 * 0 + _ ≤ _; exact Nat.le_of_eq rfl) (by decide) (by decide) (by decide) (by decide)
  obtain ⟨b2, g2⟩ : ∃ z, z = h0.size := ⟨_, rfl⟩
  rw [← g2] at A2 A2' st2
  have g_b2 : n0 ≤ b2 := Nat.le_trans (own_sz O0) (Nat.le_of_eq g2.symm)
  have sz_b2 : h0.size ≤ b2 := Nat.le_trans (Keep.refl h0 []).1 (Nat.le_of_eq g2.symm)
  have K2 : Keep h0 h2 [] := (Keep.refl h0 []).ext E2
  have O2 := O0.ext E2
  have V_b2 : Arv Z h2 b2 kV (.object "com/example/enact/enact/lock/LockState") (4 : Int32) [(.ref aSTABLE), (.ref aPREWRITTEN), (.ref aCOMMITTED), (.ref aABORTED)] .null := A2
  obtain ⟨T3, X3, e3, st3⟩ := castY X2 hx hZ hown (Wd hw 25 rfl) e2 (Ins.self A2') (g := (mkF m 6 #[] [(.ref b2)])) rfl rfl (hb hby d3_6)
  obtain ⟨fs, hr, hrun, hended, hW, hsame⟩ := X3.leave (v := some (.ref b2)) (fun h => by rw [Bd.returns] at h; cases h)
  refine ⟨_, _, pre0 _ ?_, hrun, hended, _, _, rfl, ?_, ⟨_, rfl⟩, hW, hsame.mono (by decide) (by decide)⟩
  · show Steps p.tables e below (s₁.setTop (mkF m 0 #[] [])) _
    refine st1 _ ?_
    show Steps p.tables e below (T1.setTop (mkF m 3 #[] [(.ref aV)])) _
    refine st2 _ ?_
    show Steps p.tables e below (T2.setTop (mkF m 6 #[] [(.ref b2)])) _
    refine st3 _ ?_
    show Steps p.tables e below (T3.setTop (mkF m 9 #[] [(.ref b2)])) _
    jvm_step X3.here [X3.here.top, hx, (hb hby d3_9), X3.method', Bd.returns, Value.isRef, FieldType.isReference]
    first | (intro acts; rw [hr _ acts rfl rfl rfl]) | rw [hr _ _ rfl rfl rfl]
    exact Steps.refl _
  · show Q_rm3 n0 Z aSTABLE aPREWRITTEN aCOMMITTED aABORTED aV kV h0 _ T3.heap _
    rw [e3]
    exact ⟨b2, rfl, N0, K2, sz_b2, V_b2⟩
theorem d5_0 : decode prog_2_method_4_code 0 = .ok (.aload_n 0, 1) := by decide +kernel
theorem d5_1 : decode prog_2_method_4_code 1 = .ok (.getfield 35, 3) := by decide +kernel
theorem d5_4 : decode prog_2_method_4_code 4 = .ok (.ireturn, 1) := by decide +kernel
abbrev MN_1 : MethodName := ⟨"com/example/enact/enact/lock/LockState", "code", "()I"⟩
theorem ef_rm5 (m : MethodId) (a1 : Addr) : entryFrame m #[(.ref a1)] 1 = mkF m 0 #[.val (.ref a1)] [] := by first | (simp [entryFrame, mkF, argsToLocals, Value.category]; done) | rfl
def Q_rm5 (n0 : Nat) (Z : State) (aSTABLE : Addr) (aPREWRITTEN : Addr) (aCOMMITTED : Addr) (aABORTED : Addr) (aV : Addr) (kV : ClassId) (a1 : Addr) (cv : Int32) (h0 : Heap) (v : Option Value) (h : Heap) (L : List Loc) : Prop := v = some (.int cv) ∧ Fr n0 L ∧ h = h0
set_option maxRecDepth 65536 in
set_option maxHeartbeats 40000000 in
theorem rm5 (l : Launch) (Z : State) (a0 : Array Value) (hw : ∀ d ∈ tables_1, d.before a0 Z = true) (ws : List Jvm.Cond) (aSTABLE : Addr) (aPREWRITTEN : Addr) (aCOMMITTED : Addr) (aABORTED : Addr) (aV : Addr) (kV : ClassId) (a1 : Addr) (cv : Int32) (h0 : Heap) (n0 : Nat) (O0 : Old Z n0 h0) (GL : GF Z aSTABLE aPREWRITTEN aCOMMITTED aABORTED aV kV) (F_code_a1 : Fld Z h0 a1 "com/example/enact/enact/lock/LockState" "code" "I" (.int cv)) :
    MetFree l MN_1 (head1 (Jvm.Cond.code MN_1 prog_2_method_4_code 1 (some .int) :: ws) ({ frames := 0, cells := 0, slots := 0, locals := 0 } : Room)) (fun a U => a = #[(.ref a1)] ∧ Z.Warmed39 U.vm ∧ U.heap = h0) (fun _ _ _ _ _ => True) (fun _ U o U' => ∃ v L, o = .returned v ∧ Q_rm5 n0 Z aSTABLE aPREWRITTEN aCOMMITTED aABORTED aV kV a1 cv h0 v U'.heap L ∧ FrameEnd U o U' L ({ frames := 0, cells := 0, slots := 0, locals := 0 } : Room).cells ({ frames := 0, cells := 0, slots := 0, locals := 0 } : Room).slots) := by
  refine MetFree.of_bodySF (plainFor_of_name pn) hisR ?_
  intro p e s m args below meth c s₁ Bd hml0 hP hK
  obtain ⟨rfl, hZ, hh⟩ := hP
  have hx := Bd.exec
  have hby := Bd.bytes
  have hml : c.maxLocals = 1 := hml0
  have hown : s.vm.findClass "com/example/enact/enact/lock/LockState" = some m.cls := findClass_of_methodNamed Bd.named
  have hnm := (name_of_methodNamed Bd.named Bd.method).1
  have X0 : Stand p l e ({ frames := 0, cells := 0, slots := 0, locals := 0 } : Room) s m #[(.ref a1)] below meth c s₁ [] 0 0 := Stand.of_body Bd
  have e0 : s₁.heap = h0 := by rw [← hh, Bd.state]; rfl
  have N0 := Fr.nil n0
  have pre0 : ∀ t, Steps p.tables e below (s₁.setTop (mkF m 0 #[.val (.ref a1)] [])) t → Steps p.tables e below (s₁.setTop (entryFrame m #[(.ref a1)] 1)) t := fun t k => castTop (ef_rm5 m a1) k
  have GL' := GL
  obtain ⟨GSSTABLE, GESTABLE, GCSTABLE, GSPREWRITTEN, GEPREWRITTEN, GCPREWRITTEN, GSCOMMITTED, GECOMMITTED, GCCOMMITTED, GSABORTED, GEABORTED, GCABORTED, GSV, GEV, GVV⟩ := GL'
  obtain ⟨T1, X1, e1, st1⟩ := getF X0 hx hZ hown (host := "") (Or.inl (Wd hw 27 rfl)) Via.refl e0 F_code_a1 (g := (mkF m 1 #[.val (.ref a1)] [(.ref a1)])) rfl rfl (hb hby d5_1)
  obtain ⟨fs, hr, hrun, hended, hW, hsame⟩ := X1.leave (v := some (.int cv)) (fun h => by rw [Bd.returns] at h; cases h)
  refine ⟨_, _, pre0 _ ?_, hrun, hended, _, _, rfl, ?_, ⟨_, rfl⟩, hW, hsame.mono (by decide) (by decide)⟩
  · show Steps p.tables e below (s₁.setTop (mkF m 0 #[.val (.ref a1)] [])) _
    refine XS.aloadN X0.here hx rfl (hb hby d5_0) rfl rfl ?_
    show Steps p.tables e below (s₁.setTop (mkF m 1 #[.val (.ref a1)] [(.ref a1)])) _
    refine st1 _ ?_
    show Steps p.tables e below (T1.setTop (mkF m 4 #[.val (.ref a1)] [(.int cv)])) _
    exact retI X1 hx Bd.returns (hb hby d5_4) hr
  · show Q_rm5 n0 Z aSTABLE aPREWRITTEN aCOMMITTED aABORTED aV kV a1 cv h0 _ T1.heap _
    rw [e1]
    exact ⟨rfl, N0, rfl⟩
theorem d2_0 : decode prog_2_method_5_code 0 = .ok (.invokestatic 39, 3) := by decide +kernel
theorem pd : parseMethodDescriptor "()[Lcom/example/enact/enact/lock/LockState;" = some ⟨[], some (.array (.object "com/example/enact/enact/lock/LockState"))⟩ := by decide +kernel
theorem d2_3 : decode prog_2_method_5_code 3 = .ok (.astore_n 1, 1) := by decide +kernel
theorem d2_4 : decode prog_2_method_5_code 4 = .ok (.aload_n 1, 1) := by decide +kernel
theorem d2_5 : decode prog_2_method_5_code 5 = .ok (.arraylength, 1) := by decide +kernel
theorem d2_6 : decode prog_2_method_5_code 6 = .ok (.istore_n 2, 1) := by decide +kernel
theorem d2_7 : decode prog_2_method_5_code 7 = .ok (.iconst 0, 1) := by decide +kernel
theorem d2_8 : decode prog_2_method_5_code 8 = .ok (.istore_n 3, 1) := by decide +kernel
theorem d2_9 : decode prog_2_method_5_code 9 = .ok (.iload_n 3, 1) := by decide +kernel
theorem d2_10 : decode prog_2_method_5_code 10 = .ok (.iload_n 2, 1) := by decide +kernel
theorem d2_11 : decode prog_2_method_5_code 11 = .ok (.if_icmp .ge 26, 3) := by decide +kernel
theorem d2_14 : decode prog_2_method_5_code 14 = .ok (.aload_n 1, 1) := by decide +kernel
theorem d2_15 : decode prog_2_method_5_code 15 = .ok (.iload_n 3, 1) := by decide +kernel
theorem d2_16 : decode prog_2_method_5_code 16 = .ok (.aaload, 1) := by decide +kernel
theorem d2_17 : decode prog_2_method_5_code 17 = .ok (.astore 4, 2) := by decide +kernel
theorem d2_19 : decode prog_2_method_5_code 19 = .ok (.aload 4, 2) := by decide +kernel
theorem d2_21 : decode prog_2_method_5_code 21 = .ok (.getfield 35, 3) := by decide +kernel
theorem d2_24 : decode prog_2_method_5_code 24 = .ok (.iload_n 0, 1) := by decide +kernel
theorem d2_25 : decode prog_2_method_5_code 25 = .ok (.if_icmp .ne 6, 3) := by decide +kernel
theorem d2_28 : decode prog_2_method_5_code 28 = .ok (.aload 4, 2) := by decide +kernel
theorem d2_30 : decode prog_2_method_5_code 30 = .ok (.areturn, 1) := by decide +kernel
abbrev MN_2 : MethodName := ⟨"com/example/enact/enact/lock/LockState", "fromCode", "(I)Lcom/example/enact/enact/lock/LockState;"⟩
theorem ef_rm2_0 (m : MethodId) (p0 : Int32) : entryFrame m #[(.int p0)] 5 = mkF m 0 #[.val (.int p0), .unset, .unset, .unset, .unset] [] := by first | (simp [entryFrame, mkF, argsToLocals, Value.category]; done) | rfl
def Q_rm2_0 (n0 : Nat) (Z : State) (aSTABLE : Addr) (aPREWRITTEN : Addr) (aCOMMITTED : Addr) (aABORTED : Addr) (aV : Addr) (kV : ClassId) (p0 : Int32) (h0 : Heap) (v : Option Value) (h : Heap) (L : List Loc) : Prop := v = some (.ref aSTABLE) ∧ Fr n0 L ∧ Keep h0 h []
set_option maxRecDepth 65536 in
set_option maxHeartbeats 40000000 in
theorem rm2_0 (l : Launch) (Z : State) (a0 : Array Value) (hw : ∀ d ∈ tables_1, d.before a0 Z = true) (ws : List Jvm.Cond) (aSTABLE : Addr) (aPREWRITTEN : Addr) (aCOMMITTED : Addr) (aABORTED : Addr) (aV : Addr) (kV : ClassId) (p0 : Int32) (h0 : Heap) (n0 : Nat) (O0 : Old Z n0 h0) (GL : GF Z aSTABLE aPREWRITTEN aCOMMITTED aABORTED aV kV) (hk : p0 = (0 : Int32)) :
    MetFree l MN_2 (head1 (Jvm.Cond.code MN_2 prog_2_method_5_code 5 (some (.object "com/example/enact/enact/lock/LockState")) :: ws) ({ frames := 2, cells := 1, slots := 4, locals := 25 } : Room)) (fun a U => a = #[(.int p0)] ∧ Z.Warmed39 U.vm ∧ U.heap = h0) (fun _ _ _ _ _ => True) (fun _ U o U' => ∃ v L, o = .returned v ∧ Q_rm2_0 n0 Z aSTABLE aPREWRITTEN aCOMMITTED aABORTED aV kV p0 h0 v U'.heap L ∧ FrameEnd U o U' L ({ frames := 2, cells := 1, slots := 4, locals := 25 } : Room).cells ({ frames := 2, cells := 1, slots := 4, locals := 25 } : Room).slots) := by
  refine MetFree.of_bodySF (plainFor_of_name pn) hisR ?_
  intro p e s m args below meth c s₁ Bd hml0 hP hK
  obtain ⟨rfl, hZ, hh⟩ := hP
  have hx := Bd.exec
  have hby := Bd.bytes
  have hml : c.maxLocals = 5 := hml0
  have hown : s.vm.findClass "com/example/enact/enact/lock/LockState" = some m.cls := findClass_of_methodNamed Bd.named
  have hnm := (name_of_methodNamed Bd.named Bd.method).1
  have X0 : Stand p l e ({ frames := 2, cells := 1, slots := 4, locals := 25 } : Room) s m #[(.int p0)] below meth c s₁ [] 0 0 := Stand.of_body Bd
  have e0 : s₁.heap = h0 := by rw [← hh, Bd.state]; rfl
  have N0 := Fr.nil n0
  have pre0 : ∀ t, Steps p.tables e below (s₁.setTop (mkF m 0 #[.val (.int p0), .unset, .unset, .unset, .unset] [])) t → Steps p.tables e below (s₁.setTop (entryFrame m #[(.int p0)] 5)) t := fun t k => castTop (ef_rm2_0 m p0) k
  have GL' := GL
  obtain ⟨GSSTABLE, GESTABLE, GCSTABLE, GSPREWRITTEN, GEPREWRITTEN, GCPREWRITTEN, GSCOMMITTED, GECOMMITTED, GCCOMMITTED, GSABORTED, GEABORTED, GCABORTED, GSV, GEV, GVV⟩ := GL'
  have w0 : (0 : Int32) = p0 := hk.symm
  have u1 : ¬ (p0 = (1 : Int32)) := (by rw [hk]; decide)
  have w1 : ¬ ((1 : Int32) = p0) := (by rw [hk]; decide)
  have u2 : ¬ (p0 = (2 : Int32)) := (by rw [hk]; decide)
  have w2 : ¬ ((2 : Int32) = p0) := (by rw [hk]; decide)
  have u3 : ¬ (p0 = (3 : Int32)) := (by rw [hk]; decide)
  have w3 : ¬ ((3 : Int32) = p0) := (by rw [hk]; decide)
  obtain ⟨_, _, ⟨T1, L1, k1, n1⟩, -, X1, ⟨Lc1, hQ1, l1, y1, z1⟩, st1⟩ := Jvm.LawKit.callS X0 hx (y := MN_0) hown (mvT hZ (Wd hw 8 rfl)) (mvT hZ (Wd hw 9 rfl)) (mvT hZ (Wd hw 6 rfl)) (mvT hZ (Wd hw 10 rfl)) (by decide) (backOf (W := 0) (rm3 l Z a0 hw [] aSTABLE aPREWRITTEN aCOMMITTED aABORTED aV kV  (h0) n0 O0 GL) hZ (Wd hw 10 rfl) (Wd hw 6 rfl) (by decide) (by decide)) (g := (mkF m 0 #[.val (.int p0), .unset, .unset, .unset, .unset] [])) rfl (by rw [hml]; rfl) (argsL := []) (rest := []) (lenOf pd rfl) rfl (by show 2 * 0 + _ ≤ _; exact Nat.le_of_eq rfl) (hb hby d2_0) (fun _ _ => ⟨rfl, e0, (by decide : 0 + 1 ≤ _), (by decide : 0 + 4 ≤ _)⟩)
  dsimp only [Pt.U, Pt.locs, Pt.cells, Pt.slots] at X1 l1 y1 z1 st1 hQ1
  subst l1 y1 z1
  obtain ⟨b_1, rfl, N1q, Kc1, P1_0, P1_1⟩ := hQ1
  have K1 : Keep h0 T1.heap [] := (Keep.refl h0 []).trans Kc1 all0
  have O1 := O0.keep Kc1 all0
  have g_b_1 : n0 ≤ b_1 := Nat.le_trans (own_sz O0) P1_0
  have sz_b_1 : h0.size ≤ b_1 := Nat.le_trans (Keep.refl h0 []).1 P1_0
  have N1 := Fr.app N0 N1q
  obtain ⟨cl2, Ar2, -, S2, N2_, -, -⟩ := id (P1_1)
  obtain ⟨cl3, Ar3, -, S3, N3_, H3, G3⟩ := id (P1_1)
  have hin3 : ¬ ((0 : Int32) < 0 ∨ cl3.slots.size ≤ ((0 : Int32)).toNatClampNeg) := inb_of S3 ⟨(by decide), (by decide)⟩
  have hat3 : cl3.slots[((0 : Int32)).toNatClampNeg]? = some (.ref aSTABLE) := H3.at hin3 rfl
  obtain ⟨T4, X4, e4, st4⟩ := getF X1 hx hZ hown (host := "") (Or.inl (Wd hw 27 rfl)) Via.refl rfl (GCSTABLE.ext O1.2) (g := (mkF m 21 #[.val (.int p0), .val (.ref b_1), .val (.int (4 : Int32)), .val (.int (0 : Int32)), .val (.ref aSTABLE)] [(.ref aSTABLE)])) rfl rfl (hb hby d2_21)
  obtain ⟨fs, hr, hrun, hended, hW, hsame⟩ := X4.leave (v := some (.ref aSTABLE)) (fun h => by rw [Bd.returns] at h; cases h)
  refine ⟨_, _, pre0 _ ?_, hrun, hended, _, _, rfl, ?_, ⟨_, rfl⟩, hW, hsame.mono (by decide) (by decide)⟩
  · show Steps p.tables e below (s₁.setTop (mkF m 0 #[.val (.int p0), .unset, .unset, .unset, .unset] [])) _
    refine st1 _ ?_
    show Steps p.tables e below (T1.setTop (mkF m 3 #[.val (.int p0), .unset, .unset, .unset, .unset] [(.ref b_1)])) _
    refine XS.astoreN X1.here hx rfl (hb hby d2_3) rfl rfl (l' := #[.val (.int p0), .val (.ref b_1), .unset, .unset, .unset]) rfl ?_
    show Steps p.tables e below (T1.setTop (mkF m 4 #[.val (.int p0), .val (.ref b_1), .unset, .unset, .unset] [])) _
    refine XS.aloadN X1.here hx rfl (hb hby d2_4) rfl rfl ?_
    show Steps p.tables e below (T1.setTop (mkF m 5 #[.val (.int p0), .val (.ref b_1), .unset, .unset, .unset] [(.ref b_1)])) _
    refine X1.arraylength hx Ar2.1 (State.isArrayOf_alike hZ.alike Ar2.2.1) (g := (mkF m 5 #[.val (.int p0), .val (.ref b_1), .unset, .unset, .unset] [(.ref b_1)])) rfl rfl (hb hby d2_5) _ ?_
    rw [len_of S2 N2_]
    show Steps p.tables e below (T1.setTop (mkF m 6 #[.val (.int p0), .val (.ref b_1), .unset, .unset, .unset] [(.int (4 : Int32))])) _
    refine XS.istoreN X1.here hx rfl (hb hby d2_6) rfl (l' := #[.val (.int p0), .val (.ref b_1), .val (.int (4 : Int32)), .unset, .unset]) rfl ?_
    show Steps p.tables e below (T1.setTop (mkF m 7 #[.val (.int p0), .val (.ref b_1), .val (.int (4 : Int32)), .unset, .unset] [])) _
    refine XS.iconst X1.here hx rfl (hb hby d2_7) ?_
    show Steps p.tables e below (T1.setTop (mkF m 8 #[.val (.int p0), .val (.ref b_1), .val (.int (4 : Int32)), .unset, .unset] [(.int (0 : Int32))])) _
    refine XS.istoreN X1.here hx rfl (hb hby d2_8) rfl (l' := #[.val (.int p0), .val (.ref b_1), .val (.int (4 : Int32)), .val (.int (0 : Int32)), .unset]) rfl ?_
    show Steps p.tables e below (T1.setTop (mkF m 9 #[.val (.int p0), .val (.ref b_1), .val (.int (4 : Int32)), .val (.int (0 : Int32)), .unset] [])) _
    refine XS.iloadN X1.here hx rfl (hb hby d2_9) rfl ?_
    show Steps p.tables e below (T1.setTop (mkF m 10 #[.val (.int p0), .val (.ref b_1), .val (.int (4 : Int32)), .val (.int (0 : Int32)), .unset] [(.int (0 : Int32))])) _
    refine XS.iloadN X1.here hx rfl (hb hby d2_10) rfl ?_
    show Steps p.tables e below (T1.setTop (mkF m 11 #[.val (.int p0), .val (.ref b_1), .val (.int (4 : Int32)), .val (.int (0 : Int32)), .unset] [(.int (4 : Int32)), (.int (0 : Int32))])) _
    refine XS.icmpNo X1.here hx rfl (hb hby d2_11) rfl (tlt (by decide : (0 : Int32) < (4 : Int32))).2.1 ?_
    show Steps p.tables e below (T1.setTop (mkF m 14 #[.val (.int p0), .val (.ref b_1), .val (.int (4 : Int32)), .val (.int (0 : Int32)), .unset] [])) _
    refine XS.aloadN X1.here hx rfl (hb hby d2_14) rfl rfl ?_
    show Steps p.tables e below (T1.setTop (mkF m 15 #[.val (.int p0), .val (.ref b_1), .val (.int (4 : Int32)), .val (.int (0 : Int32)), .unset] [(.ref b_1)])) _
    refine XS.iloadN X1.here hx rfl (hb hby d2_15) rfl ?_
    show Steps p.tables e below (T1.setTop (mkF m 16 #[.val (.int p0), .val (.ref b_1), .val (.int (4 : Int32)), .val (.int (0 : Int32)), .unset] [(.int (0 : Int32)), (.ref b_1)])) _
    refine X1.aaload hx (j := (0 : Int32)) (v := (.ref aSTABLE)) Ar3.1 (State.isArrayOf_alike hZ.alike Ar3.2.1) rfl Ar3.2.2 hin3 hat3 (g := (mkF m 16 #[.val (.int p0), .val (.ref b_1), .val (.int (4 : Int32)), .val (.int (0 : Int32)), .unset] [(.int (0 : Int32)), (.ref b_1)])) rfl rfl (hb hby d2_16) _ ?_
    show Steps p.tables e below (T1.setTop (mkF m 17 #[.val (.int p0), .val (.ref b_1), .val (.int (4 : Int32)), .val (.int (0 : Int32)), .unset] [(.ref aSTABLE)])) _
    refine XS.astore X1.here hx rfl (hb hby d2_17) rfl rfl (l' := #[.val (.int p0), .val (.ref b_1), .val (.int (4 : Int32)), .val (.int (0 : Int32)), .val (.ref aSTABLE)]) rfl ?_
    show Steps p.tables e below (T1.setTop (mkF m 19 #[.val (.int p0), .val (.ref b_1), .val (.int (4 : Int32)), .val (.int (0 : Int32)), .val (.ref aSTABLE)] [])) _
    refine XS.aload X1.here hx rfl (hb hby d2_19) rfl rfl ?_
    show Steps p.tables e below (T1.setTop (mkF m 21 #[.val (.int p0), .val (.ref b_1), .val (.int (4 : Int32)), .val (.int (0 : Int32)), .val (.ref aSTABLE)] [(.ref aSTABLE)])) _
    refine st4 _ ?_
    show Steps p.tables e below (T4.setTop (mkF m 24 #[.val (.int p0), .val (.ref b_1), .val (.int (4 : Int32)), .val (.int (0 : Int32)), .val (.ref aSTABLE)] [(.int (0 : Int32))])) _
    refine XS.iloadN X4.here hx rfl (hb hby d2_24) rfl ?_
    show Steps p.tables e below (T4.setTop (mkF m 25 #[.val (.int p0), .val (.ref b_1), .val (.int (4 : Int32)), .val (.int (0 : Int32)), .val (.ref aSTABLE)] [(.int p0), (.int (0 : Int32))])) _
    refine XS.icmpNo X4.here hx rfl (hb hby d2_25) rfl (teq w0).2 ?_
    show Steps p.tables e below (T4.setTop (mkF m 28 #[.val (.int p0), .val (.ref b_1), .val (.int (4 : Int32)), .val (.int (0 : Int32)), .val (.ref aSTABLE)] [])) _
    refine XS.aload X4.here hx rfl (hb hby d2_28) rfl rfl ?_
    show Steps p.tables e below (T4.setTop (mkF m 30 #[.val (.int p0), .val (.ref b_1), .val (.int (4 : Int32)), .val (.int (0 : Int32)), .val (.ref aSTABLE)] [(.ref aSTABLE)])) _
    jvm_step X4.here [X4.here.top, hx, (hb hby d2_30), X4.method', Bd.returns, Value.isRef, FieldType.isReference]
    first | (intro acts; rw [hr _ acts rfl rfl rfl]) | rw [hr _ _ rfl rfl rfl]
    exact Steps.refl _
  · show Q_rm2_0 n0 Z aSTABLE aPREWRITTEN aCOMMITTED aABORTED aV kV p0 h0 _ T4.heap _
    rw [e4]
    exact ⟨rfl, N1, K1⟩
theorem d4_0 : decode method_2_code 0 = .ok (.iload_n 0, 1) := by decide +kernel
theorem d4_1 : decode method_2_code 1 = .ok (.ifCond .ne 7, 3) := by decide +kernel
theorem d4_4 : decode method_2_code 4 = .ok (.getstatic 7, 3) := by decide +kernel
theorem d4_7 : decode method_2_code 7 = .ok (.areturn, 1) := by decide +kernel
theorem pnv1 : plainName "com/example/enact/enact/lock/LockStateFromCodePinLaw" = true := by first | (simp [plainName, overriddenIn]; done) | decide +kernel
abbrev MN_3 : MethodName := ⟨"com/example/enact/enact/lock/LockStateFromCodePinLaw", "expected", "(I)Lcom/example/enact/enact/lock/LockState;"⟩
theorem ef_rm4_0 (m : MethodId) (p0 : Int32) : entryFrame m #[(.int p0)] 1 = mkF m 0 #[.val (.int p0)] [] := by first | (simp [entryFrame, mkF, argsToLocals, Value.category]; done) | rfl
def Q_rm4_0 (n0 : Nat) (Z : State) (aSTABLE : Addr) (aPREWRITTEN : Addr) (aCOMMITTED : Addr) (aABORTED : Addr) (aV : Addr) (kV : ClassId) (p0 : Int32) (h0 : Heap) (v : Option Value) (h : Heap) (L : List Loc) : Prop := v = some (.ref aSTABLE) ∧ Fr n0 L ∧ h = h0
set_option maxRecDepth 65536 in
set_option maxHeartbeats 40000000 in
theorem rm4_0 (l : Launch) (Z : State) (a0 : Array Value) (hw : ∀ d ∈ tables_1, d.before a0 Z = true) (ws : List Jvm.Cond) (aSTABLE : Addr) (aPREWRITTEN : Addr) (aCOMMITTED : Addr) (aABORTED : Addr) (aV : Addr) (kV : ClassId) (p0 : Int32) (h0 : Heap) (n0 : Nat) (O0 : Old Z n0 h0) (GL : GF Z aSTABLE aPREWRITTEN aCOMMITTED aABORTED aV kV) (hk : p0 = (0 : Int32)) :
    MetFree l MN_3 (head1 (Jvm.Cond.code MN_3 method_2_code 1 (some (.object "com/example/enact/enact/lock/LockState")) :: ws) ({ frames := 0, cells := 0, slots := 0, locals := 0 } : Room)) (fun a U => a = #[(.int p0)] ∧ Z.Warmed39 U.vm ∧ U.heap = h0) (fun _ _ _ _ _ => True) (fun _ U o U' => ∃ v L, o = .returned v ∧ Q_rm4_0 n0 Z aSTABLE aPREWRITTEN aCOMMITTED aABORTED aV kV p0 h0 v U'.heap L ∧ FrameEnd U o U' L ({ frames := 0, cells := 0, slots := 0, locals := 0 } : Room).cells ({ frames := 0, cells := 0, slots := 0, locals := 0 } : Room).slots) := by
  refine MetFree.of_bodySF (plainFor_of_name pnv1) hisR ?_
  intro p e s m args below meth c s₁ Bd hml0 hP hK
  obtain ⟨rfl, hZ, hh⟩ := hP
  have hx := Bd.exec
  have hby := Bd.bytes
  have hml : c.maxLocals = 1 := hml0
  have hown : s.vm.findClass "com/example/enact/enact/lock/LockStateFromCodePinLaw" = some m.cls := findClass_of_methodNamed Bd.named
  have hnm := (name_of_methodNamed Bd.named Bd.method).1
  have X0 : Stand p l e ({ frames := 0, cells := 0, slots := 0, locals := 0 } : Room) s m #[(.int p0)] below meth c s₁ [] 0 0 := Stand.of_body Bd
  have e0 : s₁.heap = h0 := by rw [← hh, Bd.state]; rfl
  have N0 := Fr.nil n0
  have pre0 : ∀ t, Steps p.tables e below (s₁.setTop (mkF m 0 #[.val (.int p0)] [])) t → Steps p.tables e below (s₁.setTop (entryFrame m #[(.int p0)] 1)) t := fun t k => castTop (ef_rm4_0 m p0) k
  have GL' := GL
  obtain ⟨GSSTABLE, GESTABLE, GCSTABLE, GSPREWRITTEN, GEPREWRITTEN, GCPREWRITTEN, GSCOMMITTED, GECOMMITTED, GCCOMMITTED, GSABORTED, GEABORTED, GCABORTED, GSV, GEV, GVV⟩ := GL'
  have w0 : (0 : Int32) = p0 := hk.symm
  have u1 : ¬ (p0 = (1 : Int32)) := (by rw [hk]; decide)
  have w1 : ¬ ((1 : Int32) = p0) := (by rw [hk]; decide)
  have u2 : ¬ (p0 = (2 : Int32)) := (by rw [hk]; decide)
  have w2 : ¬ ((2 : Int32) = p0) := (by rw [hk]; decide)
  have u3 : ¬ (p0 = (3 : Int32)) := (by rw [hk]; decide)
  have w3 : ¬ ((3 : Int32) = p0) := (by rw [hk]; decide)
  obtain ⟨T1, X1, e1, st1⟩ := getS2 X0 hx hZ hown (host := "") (Or.inl (Wd hw 32 rfl)) Via.refl e0 (GSSTABLE.ext O0.2) (g := (mkF m 4 #[.val (.int p0)] [])) rfl (hb hby d4_4)
  obtain ⟨fs, hr, hrun, hended, hW, hsame⟩ := X1.leave (v := some (.ref aSTABLE)) (fun h => by rw [Bd.returns] at h; cases h)
  refine ⟨_, _, pre0 _ ?_, hrun, hended, _, _, rfl, ?_, ⟨_, rfl⟩, hW, hsame.mono (by decide) (by decide)⟩
  · show Steps p.tables e below (s₁.setTop (mkF m 0 #[.val (.int p0)] [])) _
    refine XS.iloadN X0.here hx rfl (hb hby d4_0) rfl ?_
    show Steps p.tables e below (s₁.setTop (mkF m 1 #[.val (.int p0)] [(.int p0)])) _
    refine XS.ifNo X0.here hx rfl (hb hby d4_1) rfl ((if0 _ _).trans (teq hk).2) ?_
    show Steps p.tables e below (s₁.setTop (mkF m 4 #[.val (.int p0)] [])) _
    refine st1 _ ?_
    show Steps p.tables e below (T1.setTop (mkF m 7 #[.val (.int p0)] [(.ref aSTABLE)])) _
    jvm_step X1.here [X1.here.top, hx, (hb hby d4_7), X1.method', Bd.returns, Value.isRef, FieldType.isReference]
    first | (intro acts; rw [hr _ acts rfl rfl rfl]) | rw [hr _ _ rfl rfl rfl]
    exact Steps.refl _
  · show Q_rm4_0 n0 Z aSTABLE aPREWRITTEN aCOMMITTED aABORTED aV kV p0 h0 _ T1.heap _
    rw [e1]
    exact ⟨rfl, N0, rfl⟩
theorem d2_31 : decode prog_2_method_5_code 31 = .ok (.iinc 3 1, 3) := by decide +kernel
theorem d2_34 : decode prog_2_method_5_code 34 = .ok (.goto (-25), 3) := by decide +kernel
def Q_rm2_1 (n0 : Nat) (Z : State) (aSTABLE : Addr) (aPREWRITTEN : Addr) (aCOMMITTED : Addr) (aABORTED : Addr) (aV : Addr) (kV : ClassId) (p0 : Int32) (h0 : Heap) (v : Option Value) (h : Heap) (L : List Loc) : Prop := v = some (.ref aPREWRITTEN) ∧ Fr n0 L ∧ Keep h0 h []
set_option maxRecDepth 65536 in
set_option maxHeartbeats 40000000 in
theorem rm2_1 (l : Launch) (Z : State) (a0 : Array Value) (hw : ∀ d ∈ tables_1, d.before a0 Z = true) (ws : List Jvm.Cond) (aSTABLE : Addr) (aPREWRITTEN : Addr) (aCOMMITTED : Addr) (aABORTED : Addr) (aV : Addr) (kV : ClassId) (p0 : Int32) (h0 : Heap) (n0 : Nat) (O0 : Old Z n0 h0) (GL : GF Z aSTABLE aPREWRITTEN aCOMMITTED aABORTED aV kV) (hk : p0 = (1 : Int32)) :
    MetFree l MN_2 (head1 (Jvm.Cond.code MN_2 prog_2_method_5_code 5 (some (.object "com/example/enact/enact/lock/LockState")) :: ws) ({ frames := 2, cells := 1, slots := 4, locals := 25 } : Room)) (fun a U => a = #[(.int p0)] ∧ Z.Warmed39 U.vm ∧ U.heap = h0) (fun _ _ _ _ _ => True) (fun _ U o U' => ∃ v L, o = .returned v ∧ Q_rm2_1 n0 Z aSTABLE aPREWRITTEN aCOMMITTED aABORTED aV kV p0 h0 v U'.heap L ∧ FrameEnd U o U' L ({ frames := 2, cells := 1, slots := 4, locals := 25 } : Room).cells ({ frames := 2, cells := 1, slots := 4, locals := 25 } : Room).slots) := by
  refine MetFree.of_bodySF (plainFor_of_name pn) hisR ?_
  intro p e s m args below meth c s₁ Bd hml0 hP hK
  obtain ⟨rfl, hZ, hh⟩ := hP
  have hx := Bd.exec
  have hby := Bd.bytes
  have hml : c.maxLocals = 5 := hml0
  have hown : s.vm.findClass "com/example/enact/enact/lock/LockState" = some m.cls := findClass_of_methodNamed Bd.named
  have hnm := (name_of_methodNamed Bd.named Bd.method).1
  have X0 : Stand p l e ({ frames := 2, cells := 1, slots := 4, locals := 25 } : Room) s m #[(.int p0)] below meth c s₁ [] 0 0 := Stand.of_body Bd
  have e0 : s₁.heap = h0 := by rw [← hh, Bd.state]; rfl
  have N0 := Fr.nil n0
  have pre0 : ∀ t, Steps p.tables e below (s₁.setTop (mkF m 0 #[.val (.int p0), .unset, .unset, .unset, .unset] [])) t → Steps p.tables e below (s₁.setTop (entryFrame m #[(.int p0)] 5)) t := fun t k => castTop (ef_rm2_0 m p0) k
  have GL' := GL
  obtain ⟨GSSTABLE, GESTABLE, GCSTABLE, GSPREWRITTEN, GEPREWRITTEN, GCPREWRITTEN, GSCOMMITTED, GECOMMITTED, GCCOMMITTED, GSABORTED, GEABORTED, GCABORTED, GSV, GEV, GVV⟩ := GL'
  have u0 : ¬ (p0 = (0 : Int32)) := (by rw [hk]; decide)
  have w0 : ¬ ((0 : Int32) = p0) := (by rw [hk]; decide)
  have w1 : (1 : Int32) = p0 := hk.symm
  have u2 : ¬ (p0 = (2 : Int32)) := (by rw [hk]; decide)
  have w2 : ¬ ((2 : Int32) = p0) := (by rw [hk]; decide)
  have u3 : ¬ (p0 = (3 : Int32)) := (by rw [hk]; decide)
  have w3 : ¬ ((3 : Int32) = p0) := (by rw [hk]; decide)
  obtain ⟨_, _, ⟨T1, L1, k1, n1⟩, -, X1, ⟨Lc1, hQ1, l1, y1, z1⟩, st1⟩ := Jvm.LawKit.callS X0 hx (y := MN_0) hown (mvT hZ (Wd hw 8 rfl)) (mvT hZ (Wd hw 9 rfl)) (mvT hZ (Wd hw 6 rfl)) (mvT hZ (Wd hw 10 rfl)) (by decide) (backOf (W := 0) (rm3 l Z a0 hw [] aSTABLE aPREWRITTEN aCOMMITTED aABORTED aV kV  (h0) n0 O0 GL) hZ (Wd hw 10 rfl) (Wd hw 6 rfl) (by decide) (by decide)) (g := (mkF m 0 #[.val (.int p0), .unset, .unset, .unset, .unset] [])) rfl (by rw [hml]; rfl) (argsL := []) (rest := []) (lenOf pd rfl) rfl (by show 2 * 0 + _ ≤ _; exact Nat.le_of_eq rfl) (hb hby d2_0) (fun _ _ => ⟨rfl, e0, (by decide : 0 + 1 ≤ _), (by decide : 0 + 4 ≤ _)⟩)
  dsimp only [Pt.U, Pt.locs, Pt.cells, Pt.slots] at X1 l1 y1 z1 st1 hQ1
  subst l1 y1 z1
  obtain ⟨b_1, rfl, N1q, Kc1, P1_0, P1_1⟩ := hQ1
  have K1 : Keep h0 T1.heap [] := (Keep.refl h0 []).trans Kc1 all0
  have O1 := O0.keep Kc1 all0
  have g_b_1 : n0 ≤ b_1 := Nat.le_trans (own_sz O0) P1_0
  have sz_b_1 : h0.size ≤ b_1 := Nat.le_trans (Keep.refl h0 []).1 P1_0
  have N1 := Fr.app N0 N1q
  obtain ⟨cl2, Ar2, -, S2, N2_, -, -⟩ := id (P1_1)
  obtain ⟨cl3, Ar3, -, S3, N3_, H3, G3⟩ := id (P1_1)
  have hin3 : ¬ ((0 : Int32) < 0 ∨ cl3.slots.size ≤ ((0 : Int32)).toNatClampNeg) := inb_of S3 ⟨(by decide), (by decide)⟩
  have hat3 : cl3.slots[((0 : Int32)).toNatClampNeg]? = some (.ref aSTABLE) := H3.at hin3 rfl
  obtain ⟨T4, X4, e4, st4⟩ := getF X1 hx hZ hown (host := "") (Or.inl (Wd hw 27 rfl)) Via.refl rfl (GCSTABLE.ext O1.2) (g := (mkF m 21 #[.val (.int p0), .val (.ref b_1), .val (.int (4 : Int32)), .val (.int (0 : Int32)), .val (.ref aSTABLE)] [(.ref aSTABLE)])) rfl rfl (hb hby d2_21)
  obtain ⟨cl5, Ar5, -, S5, N5_, H5, G5⟩ := id (P1_1)
  have hin5 : ¬ ((1 : Int32) < 0 ∨ cl5.slots.size ≤ ((1 : Int32)).toNatClampNeg) := inb_of S5 ⟨(by decide), (by decide)⟩
  have hat5 : cl5.slots[((1 : Int32)).toNatClampNeg]? = some (.ref aPREWRITTEN) := H5.at hin5 rfl
  obtain ⟨T6, X6, e6, st6⟩ := getF X4 hx hZ hown (host := "") (Or.inl (Wd hw 27 rfl)) Via.refl e4 (GCPREWRITTEN.ext O1.2) (g := (mkF m 21 #[.val (.int p0), .val (.ref b_1), .val (.int (4 : Int32)), .val (.int (1 : Int32)), .val (.ref aPREWRITTEN)] [(.ref aPREWRITTEN)])) rfl rfl (hb hby d2_21)
  obtain ⟨fs, hr, hrun, hended, hW, hsame⟩ := X6.leave (v := some (.ref aPREWRITTEN)) (fun h => by rw [Bd.returns] at h; cases h)
  refine ⟨_, _, pre0 _ ?_, hrun, hended, _, _, rfl, ?_, ⟨_, rfl⟩, hW, hsame.mono (by decide) (by decide)⟩
  · show Steps p.tables e below (s₁.setTop (mkF m 0 #[.val (.int p0), .unset, .unset, .unset, .unset] [])) _
    refine st1 _ ?_
    show Steps p.tables e below (T1.setTop (mkF m 3 #[.val (.int p0), .unset, .unset, .unset, .unset] [(.ref b_1)])) _
    refine XS.astoreN X1.here hx rfl (hb hby d2_3) rfl rfl (l' := #[.val (.int p0), .val (.ref b_1), .unset, .unset, .unset]) rfl ?_
    show Steps p.tables e below (T1.setTop (mkF m 4 #[.val (.int p0), .val (.ref b_1), .unset, .unset, .unset] [])) _
    refine XS.aloadN X1.here hx rfl (hb hby d2_4) rfl rfl ?_
    show Steps p.tables e below (T1.setTop (mkF m 5 #[.val (.int p0), .val (.ref b_1), .unset, .unset, .unset] [(.ref b_1)])) _
    refine X1.arraylength hx Ar2.1 (State.isArrayOf_alike hZ.alike Ar2.2.1) (g := (mkF m 5 #[.val (.int p0), .val (.ref b_1), .unset, .unset, .unset] [(.ref b_1)])) rfl rfl (hb hby d2_5) _ ?_
    rw [len_of S2 N2_]
    show Steps p.tables e below (T1.setTop (mkF m 6 #[.val (.int p0), .val (.ref b_1), .unset, .unset, .unset] [(.int (4 : Int32))])) _
    refine XS.istoreN X1.here hx rfl (hb hby d2_6) rfl (l' := #[.val (.int p0), .val (.ref b_1), .val (.int (4 : Int32)), .unset, .unset]) rfl ?_
    show Steps p.tables e below (T1.setTop (mkF m 7 #[.val (.int p0), .val (.ref b_1), .val (.int (4 : Int32)), .unset, .unset] [])) _
    refine XS.iconst X1.here hx rfl (hb hby d2_7) ?_
    show Steps p.tables e below (T1.setTop (mkF m 8 #[.val (.int p0), .val (.ref b_1), .val (.int (4 : Int32)), .unset, .unset] [(.int (0 : Int32))])) _
    refine XS.istoreN X1.here hx rfl (hb hby d2_8) rfl (l' := #[.val (.int p0), .val (.ref b_1), .val (.int (4 : Int32)), .val (.int (0 : Int32)), .unset]) rfl ?_
    show Steps p.tables e below (T1.setTop (mkF m 9 #[.val (.int p0), .val (.ref b_1), .val (.int (4 : Int32)), .val (.int (0 : Int32)), .unset] [])) _
    refine XS.iloadN X1.here hx rfl (hb hby d2_9) rfl ?_
    show Steps p.tables e below (T1.setTop (mkF m 10 #[.val (.int p0), .val (.ref b_1), .val (.int (4 : Int32)), .val (.int (0 : Int32)), .unset] [(.int (0 : Int32))])) _
    refine XS.iloadN X1.here hx rfl (hb hby d2_10) rfl ?_
    show Steps p.tables e below (T1.setTop (mkF m 11 #[.val (.int p0), .val (.ref b_1), .val (.int (4 : Int32)), .val (.int (0 : Int32)), .unset] [(.int (4 : Int32)), (.int (0 : Int32))])) _
    refine XS.icmpNo X1.here hx rfl (hb hby d2_11) rfl (tlt (by decide : (0 : Int32) < (4 : Int32))).2.1 ?_
    show Steps p.tables e below (T1.setTop (mkF m 14 #[.val (.int p0), .val (.ref b_1), .val (.int (4 : Int32)), .val (.int (0 : Int32)), .unset] [])) _
    refine XS.aloadN X1.here hx rfl (hb hby d2_14) rfl rfl ?_
    show Steps p.tables e below (T1.setTop (mkF m 15 #[.val (.int p0), .val (.ref b_1), .val (.int (4 : Int32)), .val (.int (0 : Int32)), .unset] [(.ref b_1)])) _
    refine XS.iloadN X1.here hx rfl (hb hby d2_15) rfl ?_
    show Steps p.tables e below (T1.setTop (mkF m 16 #[.val (.int p0), .val (.ref b_1), .val (.int (4 : Int32)), .val (.int (0 : Int32)), .unset] [(.int (0 : Int32)), (.ref b_1)])) _
    refine X1.aaload hx (j := (0 : Int32)) (v := (.ref aSTABLE)) Ar3.1 (State.isArrayOf_alike hZ.alike Ar3.2.1) rfl Ar3.2.2 hin3 hat3 (g := (mkF m 16 #[.val (.int p0), .val (.ref b_1), .val (.int (4 : Int32)), .val (.int (0 : Int32)), .unset] [(.int (0 : Int32)), (.ref b_1)])) rfl rfl (hb hby d2_16) _ ?_
    show Steps p.tables e below (T1.setTop (mkF m 17 #[.val (.int p0), .val (.ref b_1), .val (.int (4 : Int32)), .val (.int (0 : Int32)), .unset] [(.ref aSTABLE)])) _
    refine XS.astore X1.here hx rfl (hb hby d2_17) rfl rfl (l' := #[.val (.int p0), .val (.ref b_1), .val (.int (4 : Int32)), .val (.int (0 : Int32)), .val (.ref aSTABLE)]) rfl ?_
    show Steps p.tables e below (T1.setTop (mkF m 19 #[.val (.int p0), .val (.ref b_1), .val (.int (4 : Int32)), .val (.int (0 : Int32)), .val (.ref aSTABLE)] [])) _
    refine XS.aload X1.here hx rfl (hb hby d2_19) rfl rfl ?_
    show Steps p.tables e below (T1.setTop (mkF m 21 #[.val (.int p0), .val (.ref b_1), .val (.int (4 : Int32)), .val (.int (0 : Int32)), .val (.ref aSTABLE)] [(.ref aSTABLE)])) _
    refine st4 _ ?_
    show Steps p.tables e below (T4.setTop (mkF m 24 #[.val (.int p0), .val (.ref b_1), .val (.int (4 : Int32)), .val (.int (0 : Int32)), .val (.ref aSTABLE)] [(.int (0 : Int32))])) _
    refine XS.iloadN X4.here hx rfl (hb hby d2_24) rfl ?_
    show Steps p.tables e below (T4.setTop (mkF m 25 #[.val (.int p0), .val (.ref b_1), .val (.int (4 : Int32)), .val (.int (0 : Int32)), .val (.ref aSTABLE)] [(.int p0), (.int (0 : Int32))])) _
    refine XS.icmpYes X4.here hx rfl (pc0 := 25) (pc' := 31) rfl (hb hby d2_25) rfl (feq w0).2 (by decide) (by decide) ?_
    show Steps p.tables e below (T4.setTop (mkF m 31 #[.val (.int p0), .val (.ref b_1), .val (.int (4 : Int32)), .val (.int (0 : Int32)), .val (.ref aSTABLE)] [])) _
    refine XS.iinc X4.here hx rfl (hb hby d2_31) rfl (l' := #[.val (.int p0), .val (.ref b_1), .val (.int (4 : Int32)), .val (.int (1 : Int32)), .val (.ref aSTABLE)]) rfl ?_
    show Steps p.tables e below (T4.setTop (mkF m 34 #[.val (.int p0), .val (.ref b_1), .val (.int (4 : Int32)), .val (.int (1 : Int32)), .val (.ref aSTABLE)] [])) _
    refine XS.goto X4.here hx rfl (pc0 := 34) (pc' := 9) rfl (hb hby d2_34) (by decide) (by decide) ?_
    show Steps p.tables e below (T4.setTop (mkF m 9 #[.val (.int p0), .val (.ref b_1), .val (.int (4 : Int32)), .val (.int (1 : Int32)), .val (.ref aSTABLE)] [])) _
    refine XS.iloadN X4.here hx rfl (hb hby d2_9) rfl ?_
    show Steps p.tables e below (T4.setTop (mkF m 10 #[.val (.int p0), .val (.ref b_1), .val (.int (4 : Int32)), .val (.int (1 : Int32)), .val (.ref aSTABLE)] [(.int (1 : Int32))])) _
    refine XS.iloadN X4.here hx rfl (hb hby d2_10) rfl ?_
    show Steps p.tables e below (T4.setTop (mkF m 11 #[.val (.int p0), .val (.ref b_1), .val (.int (4 : Int32)), .val (.int (1 : Int32)), .val (.ref aSTABLE)] [(.int (4 : Int32)), (.int (1 : Int32))])) _
    refine XS.icmpNo X4.here hx rfl (hb hby d2_11) rfl (tlt (by decide : (1 : Int32) < (4 : Int32))).2.1 ?_
    show Steps p.tables e below (T4.setTop (mkF m 14 #[.val (.int p0), .val (.ref b_1), .val (.int (4 : Int32)), .val (.int (1 : Int32)), .val (.ref aSTABLE)] [])) _
    refine XS.aloadN X4.here hx rfl (hb hby d2_14) rfl rfl ?_
    show Steps p.tables e below (T4.setTop (mkF m 15 #[.val (.int p0), .val (.ref b_1), .val (.int (4 : Int32)), .val (.int (1 : Int32)), .val (.ref aSTABLE)] [(.ref b_1)])) _
    refine XS.iloadN X4.here hx rfl (hb hby d2_15) rfl ?_
    show Steps p.tables e below (T4.setTop (mkF m 16 #[.val (.int p0), .val (.ref b_1), .val (.int (4 : Int32)), .val (.int (1 : Int32)), .val (.ref aSTABLE)] [(.int (1 : Int32)), (.ref b_1)])) _
    refine X4.aaload hx (j := (1 : Int32)) (v := (.ref aPREWRITTEN)) (by rw [e4]; exact Ar5.1) (State.isArrayOf_alike hZ.alike Ar5.2.1) rfl Ar5.2.2 hin5 hat5 (g := (mkF m 16 #[.val (.int p0), .val (.ref b_1), .val (.int (4 : Int32)), .val (.int (1 : Int32)), .val (.ref aSTABLE)] [(.int (1 : Int32)), (.ref b_1)])) rfl rfl (hb hby d2_16) _ ?_
    show Steps p.tables e below (T4.setTop (mkF m 17 #[.val (.int p0), .val (.ref b_1), .val (.int (4 : Int32)), .val (.int (1 : Int32)), .val (.ref aSTABLE)] [(.ref aPREWRITTEN)])) _
    refine XS.astore X4.here hx rfl (hb hby d2_17) rfl rfl (l' := #[.val (.int p0), .val (.ref b_1), .val (.int (4 : Int32)), .val (.int (1 : Int32)), .val (.ref aPREWRITTEN)]) rfl ?_
    show Steps p.tables e below (T4.setTop (mkF m 19 #[.val (.int p0), .val (.ref b_1), .val (.int (4 : Int32)), .val (.int (1 : Int32)), .val (.ref aPREWRITTEN)] [])) _
    refine XS.aload X4.here hx rfl (hb hby d2_19) rfl rfl ?_
    show Steps p.tables e below (T4.setTop (mkF m 21 #[.val (.int p0), .val (.ref b_1), .val (.int (4 : Int32)), .val (.int (1 : Int32)), .val (.ref aPREWRITTEN)] [(.ref aPREWRITTEN)])) _
    refine st6 _ ?_
    show Steps p.tables e below (T6.setTop (mkF m 24 #[.val (.int p0), .val (.ref b_1), .val (.int (4 : Int32)), .val (.int (1 : Int32)), .val (.ref aPREWRITTEN)] [(.int (1 : Int32))])) _
    refine XS.iloadN X6.here hx rfl (hb hby d2_24) rfl ?_
    show Steps p.tables e below (T6.setTop (mkF m 25 #[.val (.int p0), .val (.ref b_1), .val (.int (4 : Int32)), .val (.int (1 : Int32)), .val (.ref aPREWRITTEN)] [(.int p0), (.int (1 : Int32))])) _
    refine XS.icmpNo X6.here hx rfl (hb hby d2_25) rfl (teq w1).2 ?_
    show Steps p.tables e below (T6.setTop (mkF m 28 #[.val (.int p0), .val (.ref b_1), .val (.int (4 : Int32)), .val (.int (1 : Int32)), .val (.ref aPREWRITTEN)] [])) _
    refine XS.aload X6.here hx rfl (hb hby d2_28) rfl rfl ?_
    show Steps p.tables e below (T6.setTop (mkF m 30 #[.val (.int p0), .val (.ref b_1), .val (.int (4 : Int32)), .val (.int (1 : Int32)), .val (.ref aPREWRITTEN)] [(.ref aPREWRITTEN)])) _
    jvm_step X6.here [X6.here.top, hx, (hb hby d2_30), X6.method', Bd.returns, Value.isRef, FieldType.isReference]
    first | (intro acts; rw [hr _ acts rfl rfl rfl]) | rw [hr _ _ rfl rfl rfl]
    exact Steps.refl _
  · show Q_rm2_1 n0 Z aSTABLE aPREWRITTEN aCOMMITTED aABORTED aV kV p0 h0 _ T6.heap _
    rw [e6]
    exact ⟨rfl, N1, K1⟩
theorem d4_8 : decode method_2_code 8 = .ok (.iload_n 0, 1) := by decide +kernel
theorem d4_9 : decode method_2_code 9 = .ok (.iconst 1, 1) := by decide +kernel
theorem d4_10 : decode method_2_code 10 = .ok (.if_icmp .ne 7, 3) := by decide +kernel
theorem d4_13 : decode method_2_code 13 = .ok (.getstatic 13, 3) := by decide +kernel
theorem d4_16 : decode method_2_code 16 = .ok (.areturn, 1) := by decide +kernel
def Q_rm4_1 (n0 : Nat) (Z : State) (aSTABLE : Addr) (aPREWRITTEN : Addr) (aCOMMITTED : Addr) (aABORTED : Addr) (aV : Addr) (kV : ClassId) (p0 : Int32) (h0 : Heap) (v : Option Value) (h : Heap) (L : List Loc) : Prop := v = some (.ref aPREWRITTEN) ∧ Fr n0 L ∧ h = h0
set_option maxRecDepth 65536 in
set_option maxHeartbeats 40000000 in
theorem rm4_1 (l : Launch) (Z : State) (a0 : Array Value) (hw : ∀ d ∈ tables_1, d.before a0 Z = true) (ws : List Jvm.Cond) (aSTABLE : Addr) (aPREWRITTEN : Addr) (aCOMMITTED : Addr) (aABORTED : Addr) (aV : Addr) (kV : ClassId) (p0 : Int32) (h0 : Heap) (n0 : Nat) (O0 : Old Z n0 h0) (GL : GF Z aSTABLE aPREWRITTEN aCOMMITTED aABORTED aV kV) (hk : p0 = (1 : Int32)) :
    MetFree l MN_3 (head1 (Jvm.Cond.code MN_3 method_2_code 1 (some (.object "com/example/enact/enact/lock/LockState")) :: ws) ({ frames := 0, cells := 0, slots := 0, locals := 0 } : Room)) (fun a U => a = #[(.int p0)] ∧ Z.Warmed39 U.vm ∧ U.heap = h0) (fun _ _ _ _ _ => True) (fun _ U o U' => ∃ v L, o = .returned v ∧ Q_rm4_1 n0 Z aSTABLE aPREWRITTEN aCOMMITTED aABORTED aV kV p0 h0 v U'.heap L ∧ FrameEnd U o U' L ({ frames := 0, cells := 0, slots := 0, locals := 0 } : Room).cells ({ frames := 0, cells := 0, slots := 0, locals := 0 } : Room).slots) := by
  refine MetFree.of_bodySF (plainFor_of_name pnv1) hisR ?_
  intro p e s m args below meth c s₁ Bd hml0 hP hK
  obtain ⟨rfl, hZ, hh⟩ := hP
  have hx := Bd.exec
  have hby := Bd.bytes
  have hml : c.maxLocals = 1 := hml0
  have hown : s.vm.findClass "com/example/enact/enact/lock/LockStateFromCodePinLaw" = some m.cls := findClass_of_methodNamed Bd.named
  have hnm := (name_of_methodNamed Bd.named Bd.method).1
  have X0 : Stand p l e ({ frames := 0, cells := 0, slots := 0, locals := 0 } : Room) s m #[(.int p0)] below meth c s₁ [] 0 0 := Stand.of_body Bd
  have e0 : s₁.heap = h0 := by rw [← hh, Bd.state]; rfl
  have N0 := Fr.nil n0
  have pre0 : ∀ t, Steps p.tables e below (s₁.setTop (mkF m 0 #[.val (.int p0)] [])) t → Steps p.tables e below (s₁.setTop (entryFrame m #[(.int p0)] 1)) t := fun t k => castTop (ef_rm4_0 m p0) k
  have GL' := GL
  obtain ⟨GSSTABLE, GESTABLE, GCSTABLE, GSPREWRITTEN, GEPREWRITTEN, GCPREWRITTEN, GSCOMMITTED, GECOMMITTED, GCCOMMITTED, GSABORTED, GEABORTED, GCABORTED, GSV, GEV, GVV⟩ := GL'
  have u0 : ¬ (p0 = (0 : Int32)) := (by rw [hk]; decide)
  have w0 : ¬ ((0 : Int32) = p0) := (by rw [hk]; decide)
  have w1 : (1 : Int32) = p0 := hk.symm
  have u2 : ¬ (p0 = (2 : Int32)) := (by rw [hk]; decide)
  have w2 : ¬ ((2 : Int32) = p0) := (by rw [hk]; decide)
  have u3 : ¬ (p0 = (3 : Int32)) := (by rw [hk]; decide)
  have w3 : ¬ ((3 : Int32) = p0) := (by rw [hk]; decide)
  obtain ⟨T1, X1, e1, st1⟩ := getS2 X0 hx hZ hown (host := "") (Or.inl (Wd hw 38 rfl)) Via.refl e0 (GSPREWRITTEN.ext O0.2) (g := (mkF m 13 #[.val (.int p0)] [])) rfl (hb hby d4_13)
  obtain ⟨fs, hr, hrun, hended, hW, hsame⟩ := X1.leave (v := some (.ref aPREWRITTEN)) (fun h => by rw [Bd.returns] at h; cases h)
  refine ⟨_, _, pre0 _ ?_, hrun, hended, _, _, rfl, ?_, ⟨_, rfl⟩, hW, hsame.mono (by decide) (by decide)⟩
  · show Steps p.tables e below (s₁.setTop (mkF m 0 #[.val (.int p0)] [])) _
    refine XS.iloadN X0.here hx rfl (hb hby d4_0) rfl ?_
    show Steps p.tables e below (s₁.setTop (mkF m 1 #[.val (.int p0)] [(.int p0)])) _
    refine XS.ifYes X0.here hx rfl (pc0 := 1) (pc' := 8) rfl (hb hby d4_1) rfl ((if0 _ _).trans (feq u0).2) (by decide) (by decide) ?_
    show Steps p.tables e below (s₁.setTop (mkF m 8 #[.val (.int p0)] [])) _
    refine XS.iloadN X0.here hx rfl (hb hby d4_8) rfl ?_
    show Steps p.tables e below (s₁.setTop (mkF m 9 #[.val (.int p0)] [(.int p0)])) _
    refine XS.iconst X0.here hx rfl (hb hby d4_9) ?_
    show Steps p.tables e below (s₁.setTop (mkF m 10 #[.val (.int p0)] [(.int (1 : Int32)), (.int p0)])) _
    refine XS.icmpNo X0.here hx rfl (hb hby d4_10) rfl (teq hk).2 ?_
    show Steps p.tables e below (s₁.setTop (mkF m 13 #[.val (.int p0)] [])) _
    refine st1 _ ?_
    show Steps p.tables e below (T1.setTop (mkF m 16 #[.val (.int p0)] [(.ref aPREWRITTEN)])) _
    jvm_step X1.here [X1.here.top, hx, (hb hby d4_16), X1.method', Bd.returns, Value.isRef, FieldType.isReference]
    first | (intro acts; rw [hr _ acts rfl rfl rfl]) | rw [hr _ _ rfl rfl rfl]
    exact Steps.refl _
  · show Q_rm4_1 n0 Z aSTABLE aPREWRITTEN aCOMMITTED aABORTED aV kV p0 h0 _ T1.heap _
    rw [e1]
    exact ⟨rfl, N0, rfl⟩
def Q_rm2_2 (n0 : Nat) (Z : State) (aSTABLE : Addr) (aPREWRITTEN : Addr) (aCOMMITTED : Addr) (aABORTED : Addr) (aV : Addr) (kV : ClassId) (p0 : Int32) (h0 : Heap) (v : Option Value) (h : Heap) (L : List Loc) : Prop := v = some (.ref aCOMMITTED) ∧ Fr n0 L ∧ Keep h0 h []
set_option maxRecDepth 65536 in
set_option maxHeartbeats 40000000 in
theorem rm2_2 (l : Launch) (Z : State) (a0 : Array Value) (hw : ∀ d ∈ tables_1, d.before a0 Z = true) (ws : List Jvm.Cond) (aSTABLE : Addr) (aPREWRITTEN : Addr) (aCOMMITTED : Addr) (aABORTED : Addr) (aV : Addr) (kV : ClassId) (p0 : Int32) (h0 : Heap) (n0 : Nat) (O0 : Old Z n0 h0) (GL : GF Z aSTABLE aPREWRITTEN aCOMMITTED aABORTED aV kV) (hk : p0 = (2 : Int32)) :
    MetFree l MN_2 (head1 (Jvm.Cond.code MN_2 prog_2_method_5_code 5 (some (.object "com/example/enact/enact/lock/LockState")) :: ws) ({ frames := 2, cells := 1, slots := 4, locals := 25 } : Room)) (fun a U => a = #[(.int p0)] ∧ Z.Warmed39 U.vm ∧ U.heap = h0) (fun _ _ _ _ _ => True) (fun _ U o U' => ∃ v L, o = .returned v ∧ Q_rm2_2 n0 Z aSTABLE aPREWRITTEN aCOMMITTED aABORTED aV kV p0 h0 v U'.heap L ∧ FrameEnd U o U' L ({ frames := 2, cells := 1, slots := 4, locals := 25 } : Room).cells ({ frames := 2, cells := 1, slots := 4, locals := 25 } : Room).slots) := by
  refine MetFree.of_bodySF (plainFor_of_name pn) hisR ?_
  intro p e s m args below meth c s₁ Bd hml0 hP hK
  obtain ⟨rfl, hZ, hh⟩ := hP
  have hx := Bd.exec
  have hby := Bd.bytes
  have hml : c.maxLocals = 5 := hml0
  have hown : s.vm.findClass "com/example/enact/enact/lock/LockState" = some m.cls := findClass_of_methodNamed Bd.named
  have hnm := (name_of_methodNamed Bd.named Bd.method).1
  have X0 : Stand p l e ({ frames := 2, cells := 1, slots := 4, locals := 25 } : Room) s m #[(.int p0)] below meth c s₁ [] 0 0 := Stand.of_body Bd
  have e0 : s₁.heap = h0 := by rw [← hh, Bd.state]; rfl
  have N0 := Fr.nil n0
  have pre0 : ∀ t, Steps p.tables e below (s₁.setTop (mkF m 0 #[.val (.int p0), .unset, .unset, .unset, .unset] [])) t → Steps p.tables e below (s₁.setTop (entryFrame m #[(.int p0)] 5)) t := fun t k => castTop (ef_rm2_0 m p0) k
  have GL' := GL
  obtain ⟨GSSTABLE, GESTABLE, GCSTABLE, GSPREWRITTEN, GEPREWRITTEN, GCPREWRITTEN, GSCOMMITTED, GECOMMITTED, GCCOMMITTED, GSABORTED, GEABORTED, GCABORTED, GSV, GEV, GVV⟩ := GL'
  have u0 : ¬ (p0 = (0 : Int32)) := (by rw [hk]; decide)
  have w0 : ¬ ((0 : Int32) = p0) := (by rw [hk]; decide)
  have u1 : ¬ (p0 = (1 : Int32)) := (by rw [hk]; decide)
  have w1 : ¬ ((1 : Int32) = p0) := (by rw [hk]; decide)
  have w2 : (2 : Int32) = p0 := hk.symm
  have u3 : ¬ (p0 = (3 : Int32)) := (by rw [hk]; decide)
  have w3 : ¬ ((3 : Int32) = p0) := (by rw [hk]; decide)
  obtain ⟨_, _, ⟨T1, L1, k1, n1⟩, -, X1, ⟨Lc1, hQ1, l1, y1, z1⟩, st1⟩ := Jvm.LawKit.callS X0 hx (y := MN_0) hown (mvT hZ (Wd hw 8 rfl)) (mvT hZ (Wd hw 9 rfl)) (mvT hZ (Wd hw 6 rfl)) (mvT hZ (Wd hw 10 rfl)) (by decide) (backOf (W := 0) (rm3 l Z a0 hw [] aSTABLE aPREWRITTEN aCOMMITTED aABORTED aV kV  (h0) n0 O0 GL) hZ (Wd hw 10 rfl) (Wd hw 6 rfl) (by decide) (by decide)) (g := (mkF m 0 #[.val (.int p0), .unset, .unset, .unset, .unset] [])) rfl (by rw [hml]; rfl) (argsL := []) (rest := []) (lenOf pd rfl) rfl (by show 2 * 0 + _ ≤ _; exact Nat.le_of_eq rfl) (hb hby d2_0) (fun _ _ => ⟨rfl, e0, (by decide : 0 + 1 ≤ _), (by decide : 0 + 4 ≤ _)⟩)
  dsimp only [Pt.U, Pt.locs, Pt.cells, Pt.slots] at X1 l1 y1 z1 st1 hQ1
  subst l1 y1 z1
  obtain ⟨b_1, rfl, N1q, Kc1, P1_0, P1_1⟩ := hQ1
  have K1 : Keep h0 T1.heap [] := (Keep.refl h0 []).trans Kc1 all0
  have O1 := O0.keep Kc1 all0
  have g_b_1 : n0 ≤ b_1 := Nat.le_trans (own_sz O0) P1_0
  have sz_b_1 : h0.size ≤ b_1 := Nat.le_trans (Keep.refl h0 []).1 P1_0
  have N1 := Fr.app N0 N1q
  obtain ⟨cl2, Ar2, -, S2, N2_, -, -⟩ := id (P1_1)
  obtain ⟨cl3, Ar3, -, S3, N3_, H3, G3⟩ := id (P1_1)
  have hin3 : ¬ ((0 : Int32) < 0 ∨ cl3.slots.size ≤ ((0 : Int32)).toNatClampNeg) := inb_of S3 ⟨(by decide), (by decide)⟩
  have hat3 : cl3.slots[((0 : Int32)).toNatClampNeg]? = some (.ref aSTABLE) := H3.at hin3 rfl
  obtain ⟨T4, X4, e4, st4⟩ := getF X1 hx hZ hown (host := "") (Or.inl (Wd hw 27 rfl)) Via.refl rfl (GCSTABLE.ext O1.2) (g := (mkF m 21 #[.val (.int p0), .val (.ref b_1), .val (.int (4 : Int32)), .val (.int (0 : Int32)), .val (.ref aSTABLE)] [(.ref aSTABLE)])) rfl rfl (hb hby d2_21)
  obtain ⟨cl5, Ar5, -, S5, N5_, H5, G5⟩ := id (P1_1)
  have hin5 : ¬ ((1 : Int32) < 0 ∨ cl5.slots.size ≤ ((1 : Int32)).toNatClampNeg) := inb_of S5 ⟨(by decide), (by decide)⟩
  have hat5 : cl5.slots[((1 : Int32)).toNatClampNeg]? = some (.ref aPREWRITTEN) := H5.at hin5 rfl
  obtain ⟨T6, X6, e6, st6⟩ := getF X4 hx hZ hown (host := "") (Or.inl (Wd hw 27 rfl)) Via.refl e4 (GCPREWRITTEN.ext O1.2) (g := (mkF m 21 #[.val (.int p0), .val (.ref b_1), .val (.int (4 : Int32)), .val (.int (1 : Int32)), .val (.ref aPREWRITTEN)] [(.ref aPREWRITTEN)])) rfl rfl (hb hby d2_21)
  obtain ⟨cl7, Ar7, -, S7, N7_, H7, G7⟩ := id (P1_1)
  have hin7 : ¬ ((2 : Int32) < 0 ∨ cl7.slots.size ≤ ((2 : Int32)).toNatClampNeg) := inb_of S7 ⟨(by decide), (by decide)⟩
  have hat7 : cl7.slots[((2 : Int32)).toNatClampNeg]? = some (.ref aCOMMITTED) := H7.at hin7 rfl
  obtain ⟨T8, X8, e8, st8⟩ := getF X6 hx hZ hown (host := "") (Or.inl (Wd hw 27 rfl)) Via.refl e6 (GCCOMMITTED.ext O1.2) (g := (mkF m 21 #[.val (.int p0), .val (.ref b_1), .val (.int (4 : Int32)), .val (.int (2 : Int32)), .val (.ref aCOMMITTED)] [(.ref aCOMMITTED)])) rfl rfl (hb hby d2_21)
  obtain ⟨fs, hr, hrun, hended, hW, hsame⟩ := X8.leave (v := some (.ref aCOMMITTED)) (fun h => by rw [Bd.returns] at h; cases h)
  refine ⟨_, _, pre0 _ ?_, hrun, hended, _, _, rfl, ?_, ⟨_, rfl⟩, hW, hsame.mono (by decide) (by decide)⟩
  · show Steps p.tables e below (s₁.setTop (mkF m 0 #[.val (.int p0), .unset, .unset, .unset, .unset] [])) _
    refine st1 _ ?_
    show Steps p.tables e below (T1.setTop (mkF m 3 #[.val (.int p0), .unset, .unset, .unset, .unset] [(.ref b_1)])) _
    refine XS.astoreN X1.here hx rfl (hb hby d2_3) rfl rfl (l' := #[.val (.int p0), .val (.ref b_1), .unset, .unset, .unset]) rfl ?_
    show Steps p.tables e below (T1.setTop (mkF m 4 #[.val (.int p0), .val (.ref b_1), .unset, .unset, .unset] [])) _
    refine XS.aloadN X1.here hx rfl (hb hby d2_4) rfl rfl ?_
    show Steps p.tables e below (T1.setTop (mkF m 5 #[.val (.int p0), .val (.ref b_1), .unset, .unset, .unset] [(.ref b_1)])) _
    refine X1.arraylength hx Ar2.1 (State.isArrayOf_alike hZ.alike Ar2.2.1) (g := (mkF m 5 #[.val (.int p0), .val (.ref b_1), .unset, .unset, .unset] [(.ref b_1)])) rfl rfl (hb hby d2_5) _ ?_
    rw [len_of S2 N2_]
    show Steps p.tables e below (T1.setTop (mkF m 6 #[.val (.int p0), .val (.ref b_1), .unset, .unset, .unset] [(.int (4 : Int32))])) _
    refine XS.istoreN X1.here hx rfl (hb hby d2_6) rfl (l' := #[.val (.int p0), .val (.ref b_1), .val (.int (4 : Int32)), .unset, .unset]) rfl ?_
    show Steps p.tables e below (T1.setTop (mkF m 7 #[.val (.int p0), .val (.ref b_1), .val (.int (4 : Int32)), .unset, .unset] [])) _
    refine XS.iconst X1.here hx rfl (hb hby d2_7) ?_
    show Steps p.tables e below (T1.setTop (mkF m 8 #[.val (.int p0), .val (.ref b_1), .val (.int (4 : Int32)), .unset, .unset] [(.int (0 : Int32))])) _
    refine XS.istoreN X1.here hx rfl (hb hby d2_8) rfl (l' := #[.val (.int p0), .val (.ref b_1), .val (.int (4 : Int32)), .val (.int (0 : Int32)), .unset]) rfl ?_
    show Steps p.tables e below (T1.setTop (mkF m 9 #[.val (.int p0), .val (.ref b_1), .val (.int (4 : Int32)), .val (.int (0 : Int32)), .unset] [])) _
    refine XS.iloadN X1.here hx rfl (hb hby d2_9) rfl ?_
    show Steps p.tables e below (T1.setTop (mkF m 10 #[.val (.int p0), .val (.ref b_1), .val (.int (4 : Int32)), .val (.int (0 : Int32)), .unset] [(.int (0 : Int32))])) _
    refine XS.iloadN X1.here hx rfl (hb hby d2_10) rfl ?_
    show Steps p.tables e below (T1.setTop (mkF m 11 #[.val (.int p0), .val (.ref b_1), .val (.int (4 : Int32)), .val (.int (0 : Int32)), .unset] [(.int (4 : Int32)), (.int (0 : Int32))])) _
    refine XS.icmpNo X1.here hx rfl (hb hby d2_11) rfl (tlt (by decide : (0 : Int32) < (4 : Int32))).2.1 ?_
    show Steps p.tables e below (T1.setTop (mkF m 14 #[.val (.int p0), .val (.ref b_1), .val (.int (4 : Int32)), .val (.int (0 : Int32)), .unset] [])) _
    refine XS.aloadN X1.here hx rfl (hb hby d2_14) rfl rfl ?_
    show Steps p.tables e below (T1.setTop (mkF m 15 #[.val (.int p0), .val (.ref b_1), .val (.int (4 : Int32)), .val (.int (0 : Int32)), .unset] [(.ref b_1)])) _
    refine XS.iloadN X1.here hx rfl (hb hby d2_15) rfl ?_
    show Steps p.tables e below (T1.setTop (mkF m 16 #[.val (.int p0), .val (.ref b_1), .val (.int (4 : Int32)), .val (.int (0 : Int32)), .unset] [(.int (0 : Int32)), (.ref b_1)])) _
    refine X1.aaload hx (j := (0 : Int32)) (v := (.ref aSTABLE)) Ar3.1 (State.isArrayOf_alike hZ.alike Ar3.2.1) rfl Ar3.2.2 hin3 hat3 (g := (mkF m 16 #[.val (.int p0), .val (.ref b_1), .val (.int (4 : Int32)), .val (.int (0 : Int32)), .unset] [(.int (0 : Int32)), (.ref b_1)])) rfl rfl (hb hby d2_16) _ ?_
    show Steps p.tables e below (T1.setTop (mkF m 17 #[.val (.int p0), .val (.ref b_1), .val (.int (4 : Int32)), .val (.int (0 : Int32)), .unset] [(.ref aSTABLE)])) _
    refine XS.astore X1.here hx rfl (hb hby d2_17) rfl rfl (l' := #[.val (.int p0), .val (.ref b_1), .val (.int (4 : Int32)), .val (.int (0 : Int32)), .val (.ref aSTABLE)]) rfl ?_
    show Steps p.tables e below (T1.setTop (mkF m 19 #[.val (.int p0), .val (.ref b_1), .val (.int (4 : Int32)), .val (.int (0 : Int32)), .val (.ref aSTABLE)] [])) _
    refine XS.aload X1.here hx rfl (hb hby d2_19) rfl rfl ?_
    show Steps p.tables e below (T1.setTop (mkF m 21 #[.val (.int p0), .val (.ref b_1), .val (.int (4 : Int32)), .val (.int (0 : Int32)), .val (.ref aSTABLE)] [(.ref aSTABLE)])) _
    refine st4 _ ?_
    show Steps p.tables e below (T4.setTop (mkF m 24 #[.val (.int p0), .val (.ref b_1), .val (.int (4 : Int32)), .val (.int (0 : Int32)), .val (.ref aSTABLE)] [(.int (0 : Int32))])) _
    refine XS.iloadN X4.here hx rfl (hb hby d2_24) rfl ?_
    show Steps p.tables e below (T4.setTop (mkF m 25 #[.val (.int p0), .val (.ref b_1), .val (.int (4 : Int32)), .val (.int (0 : Int32)), .val (.ref aSTABLE)] [(.int p0), (.int (0 : Int32))])) _
    refine XS.icmpYes X4.here hx rfl (pc0 := 25) (pc' := 31) rfl (hb hby d2_25) rfl (feq w0).2 (by decide) (by decide) ?_
    show Steps p.tables e below (T4.setTop (mkF m 31 #[.val (.int p0), .val (.ref b_1), .val (.int (4 : Int32)), .val (.int (0 : Int32)), .val (.ref aSTABLE)] [])) _
    refine XS.iinc X4.here hx rfl (hb hby d2_31) rfl (l' := #[.val (.int p0), .val (.ref b_1), .val (.int (4 : Int32)), .val (.int (1 : Int32)), .val (.ref aSTABLE)]) rfl ?_
    show Steps p.tables e below (T4.setTop (mkF m 34 #[.val (.int p0), .val (.ref b_1), .val (.int (4 : Int32)), .val (.int (1 : Int32)), .val (.ref aSTABLE)] [])) _
    refine XS.goto X4.here hx rfl (pc0 := 34) (pc' := 9) rfl (hb hby d2_34) (by decide) (by decide) ?_
    show Steps p.tables e below (T4.setTop (mkF m 9 #[.val (.int p0), .val (.ref b_1), .val (.int (4 : Int32)), .val (.int (1 : Int32)), .val (.ref aSTABLE)] [])) _
    refine XS.iloadN X4.here hx rfl (hb hby d2_9) rfl ?_
    show Steps p.tables e below (T4.setTop (mkF m 10 #[.val (.int p0), .val (.ref b_1), .val (.int (4 : Int32)), .val (.int (1 : Int32)), .val (.ref aSTABLE)] [(.int (1 : Int32))])) _
    refine XS.iloadN X4.here hx rfl (hb hby d2_10) rfl ?_
    show Steps p.tables e below (T4.setTop (mkF m 11 #[.val (.int p0), .val (.ref b_1), .val (.int (4 : Int32)), .val (.int (1 : Int32)), .val (.ref aSTABLE)] [(.int (4 : Int32)), (.int (1 : Int32))])) _
    refine XS.icmpNo X4.here hx rfl (hb hby d2_11) rfl (tlt (by decide : (1 : Int32) < (4 : Int32))).2.1 ?_
    show Steps p.tables e below (T4.setTop (mkF m 14 #[.val (.int p0), .val (.ref b_1), .val (.int (4 : Int32)), .val (.int (1 : Int32)), .val (.ref aSTABLE)] [])) _
    refine XS.aloadN X4.here hx rfl (hb hby d2_14) rfl rfl ?_
    show Steps p.tables e below (T4.setTop (mkF m 15 #[.val (.int p0), .val (.ref b_1), .val (.int (4 : Int32)), .val (.int (1 : Int32)), .val (.ref aSTABLE)] [(.ref b_1)])) _
    refine XS.iloadN X4.here hx rfl (hb hby d2_15) rfl ?_
    show Steps p.tables e below (T4.setTop (mkF m 16 #[.val (.int p0), .val (.ref b_1), .val (.int (4 : Int32)), .val (.int (1 : Int32)), .val (.ref aSTABLE)] [(.int (1 : Int32)), (.ref b_1)])) _
    refine X4.aaload hx (j := (1 : Int32)) (v := (.ref aPREWRITTEN)) (by rw [e4]; exact Ar5.1) (State.isArrayOf_alike hZ.alike Ar5.2.1) rfl Ar5.2.2 hin5 hat5 (g := (mkF m 16 #[.val (.int p0), .val (.ref b_1), .val (.int (4 : Int32)), .val (.int (1 : Int32)), .val (.ref aSTABLE)] [(.int (1 : Int32)), (.ref b_1)])) rfl rfl (hb hby d2_16) _ ?_
    show Steps p.tables e below (T4.setTop (mkF m 17 #[.val (.int p0), .val (.ref b_1), .val (.int (4 : Int32)), .val (.int (1 : Int32)), .val (.ref aSTABLE)] [(.ref aPREWRITTEN)])) _
    refine XS.astore X4.here hx rfl (hb hby d2_17) rfl rfl (l' := #[.val (.int p0), .val (.ref b_1), .val (.int (4 : Int32)), .val (.int (1 : Int32)), .val (.ref aPREWRITTEN)]) rfl ?_
    show Steps p.tables e below (T4.setTop (mkF m 19 #[.val (.int p0), .val (.ref b_1), .val (.int (4 : Int32)), .val (.int (1 : Int32)), .val (.ref aPREWRITTEN)] [])) _
    refine XS.aload X4.here hx rfl (hb hby d2_19) rfl rfl ?_
    show Steps p.tables e below (T4.setTop (mkF m 21 #[.val (.int p0), .val (.ref b_1), .val (.int (4 : Int32)), .val (.int (1 : Int32)), .val (.ref aPREWRITTEN)] [(.ref aPREWRITTEN)])) _
    refine st6 _ ?_
    show Steps p.tables e below (T6.setTop (mkF m 24 #[.val (.int p0), .val (.ref b_1), .val (.int (4 : Int32)), .val (.int (1 : Int32)), .val (.ref aPREWRITTEN)] [(.int (1 : Int32))])) _
    refine XS.iloadN X6.here hx rfl (hb hby d2_24) rfl ?_
    show Steps p.tables e below (T6.setTop (mkF m 25 #[.val (.int p0), .val (.ref b_1), .val (.int (4 : Int32)), .val (.int (1 : Int32)), .val (.ref aPREWRITTEN)] [(.int p0), (.int (1 : Int32))])) _
    refine XS.icmpYes X6.here hx rfl (pc0 := 25) (pc' := 31) rfl (hb hby d2_25) rfl (feq w1).2 (by decide) (by decide) ?_
    show Steps p.tables e below (T6.setTop (mkF m 31 #[.val (.int p0), .val (.ref b_1), .val (.int (4 : Int32)), .val (.int (1 : Int32)), .val (.ref aPREWRITTEN)] [])) _
    refine XS.iinc X6.here hx rfl (hb hby d2_31) rfl (l' := #[.val (.int p0), .val (.ref b_1), .val (.int (4 : Int32)), .val (.int (2 : Int32)), .val (.ref aPREWRITTEN)]) rfl ?_
    show Steps p.tables e below (T6.setTop (mkF m 34 #[.val (.int p0), .val (.ref b_1), .val (.int (4 : Int32)), .val (.int (2 : Int32)), .val (.ref aPREWRITTEN)] [])) _
    refine XS.goto X6.here hx rfl (pc0 := 34) (pc' := 9) rfl (hb hby d2_34) (by decide) (by decide) ?_
    show Steps p.tables e below (T6.setTop (mkF m 9 #[.val (.int p0), .val (.ref b_1), .val (.int (4 : Int32)), .val (.int (2 : Int32)), .val (.ref aPREWRITTEN)] [])) _
    refine XS.iloadN X6.here hx rfl (hb hby d2_9) rfl ?_
    show Steps p.tables e below (T6.setTop (mkF m 10 #[.val (.int p0), .val (.ref b_1), .val (.int (4 : Int32)), .val (.int (2 : Int32)), .val (.ref aPREWRITTEN)] [(.int (2 : Int32))])) _
    refine XS.iloadN X6.here hx rfl (hb hby d2_10) rfl ?_
    show Steps p.tables e below (T6.setTop (mkF m 11 #[.val (.int p0), .val (.ref b_1), .val (.int (4 : Int32)), .val (.int (2 : Int32)), .val (.ref aPREWRITTEN)] [(.int (4 : Int32)), (.int (2 : Int32))])) _
    refine XS.icmpNo X6.here hx rfl (hb hby d2_11) rfl (tlt (by decide : (2 : Int32) < (4 : Int32))).2.1 ?_
    show Steps p.tables e below (T6.setTop (mkF m 14 #[.val (.int p0), .val (.ref b_1), .val (.int (4 : Int32)), .val (.int (2 : Int32)), .val (.ref aPREWRITTEN)] [])) _
    refine XS.aloadN X6.here hx rfl (hb hby d2_14) rfl rfl ?_
    show Steps p.tables e below (T6.setTop (mkF m 15 #[.val (.int p0), .val (.ref b_1), .val (.int (4 : Int32)), .val (.int (2 : Int32)), .val (.ref aPREWRITTEN)] [(.ref b_1)])) _
    refine XS.iloadN X6.here hx rfl (hb hby d2_15) rfl ?_
    show Steps p.tables e below (T6.setTop (mkF m 16 #[.val (.int p0), .val (.ref b_1), .val (.int (4 : Int32)), .val (.int (2 : Int32)), .val (.ref aPREWRITTEN)] [(.int (2 : Int32)), (.ref b_1)])) _
    refine X6.aaload hx (j := (2 : Int32)) (v := (.ref aCOMMITTED)) (by rw [e6]; exact Ar7.1) (State.isArrayOf_alike hZ.alike Ar7.2.1) rfl Ar7.2.2 hin7 hat7 (g := (mkF m 16 #[.val (.int p0), .val (.ref b_1), .val (.int (4 : Int32)), .val (.int (2 : Int32)), .val (.ref aPREWRITTEN)] [(.int (2 : Int32)), (.ref b_1)])) rfl rfl (hb hby d2_16) _ ?_
    show Steps p.tables e below (T6.setTop (mkF m 17 #[.val (.int p0), .val (.ref b_1), .val (.int (4 : Int32)), .val (.int (2 : Int32)), .val (.ref aPREWRITTEN)] [(.ref aCOMMITTED)])) _
    refine XS.astore X6.here hx rfl (hb hby d2_17) rfl rfl (l' := #[.val (.int p0), .val (.ref b_1), .val (.int (4 : Int32)), .val (.int (2 : Int32)), .val (.ref aCOMMITTED)]) rfl ?_
    show Steps p.tables e below (T6.setTop (mkF m 19 #[.val (.int p0), .val (.ref b_1), .val (.int (4 : Int32)), .val (.int (2 : Int32)), .val (.ref aCOMMITTED)] [])) _
    refine XS.aload X6.here hx rfl (hb hby d2_19) rfl rfl ?_
    show Steps p.tables e below (T6.setTop (mkF m 21 #[.val (.int p0), .val (.ref b_1), .val (.int (4 : Int32)), .val (.int (2 : Int32)), .val (.ref aCOMMITTED)] [(.ref aCOMMITTED)])) _
    refine st8 _ ?_
    show Steps p.tables e below (T8.setTop (mkF m 24 #[.val (.int p0), .val (.ref b_1), .val (.int (4 : Int32)), .val (.int (2 : Int32)), .val (.ref aCOMMITTED)] [(.int (2 : Int32))])) _
    refine XS.iloadN X8.here hx rfl (hb hby d2_24) rfl ?_
    show Steps p.tables e below (T8.setTop (mkF m 25 #[.val (.int p0), .val (.ref b_1), .val (.int (4 : Int32)), .val (.int (2 : Int32)), .val (.ref aCOMMITTED)] [(.int p0), (.int (2 : Int32))])) _
    refine XS.icmpNo X8.here hx rfl (hb hby d2_25) rfl (teq w2).2 ?_
    show Steps p.tables e below (T8.setTop (mkF m 28 #[.val (.int p0), .val (.ref b_1), .val (.int (4 : Int32)), .val (.int (2 : Int32)), .val (.ref aCOMMITTED)] [])) _
    refine XS.aload X8.here hx rfl (hb hby d2_28) rfl rfl ?_
    show Steps p.tables e below (T8.setTop (mkF m 30 #[.val (.int p0), .val (.ref b_1), .val (.int (4 : Int32)), .val (.int (2 : Int32)), .val (.ref aCOMMITTED)] [(.ref aCOMMITTED)])) _
    jvm_step X8.here [X8.here.top, hx, (hb hby d2_30), X8.method', Bd.returns, Value.isRef, FieldType.isReference]
    first | (intro acts; rw [hr _ acts rfl rfl rfl]) | rw [hr _ _ rfl rfl rfl]
    exact Steps.refl _
  · show Q_rm2_2 n0 Z aSTABLE aPREWRITTEN aCOMMITTED aABORTED aV kV p0 h0 _ T8.heap _
    rw [e8]
    exact ⟨rfl, N1, K1⟩
theorem d4_17 : decode method_2_code 17 = .ok (.iload_n 0, 1) := by decide +kernel
theorem d4_18 : decode method_2_code 18 = .ok (.iconst 2, 1) := by decide +kernel
theorem d4_19 : decode method_2_code 19 = .ok (.if_icmp .ne 7, 3) := by decide +kernel
theorem d4_22 : decode method_2_code 22 = .ok (.getstatic 16, 3) := by decide +kernel
theorem d4_25 : decode method_2_code 25 = .ok (.areturn, 1) := by decide +kernel
def Q_rm4_2 (n0 : Nat) (Z : State) (aSTABLE : Addr) (aPREWRITTEN : Addr) (aCOMMITTED : Addr) (aABORTED : Addr) (aV : Addr) (kV : ClassId) (p0 : Int32) (h0 : Heap) (v : Option Value) (h : Heap) (L : List Loc) : Prop := v = some (.ref aCOMMITTED) ∧ Fr n0 L ∧ h = h0
set_option maxRecDepth 65536 in
set_option maxHeartbeats 40000000 in
theorem rm4_2 (l : Launch) (Z : State) (a0 : Array Value) (hw : ∀ d ∈ tables_1, d.before a0 Z = true) (ws : List Jvm.Cond) (aSTABLE : Addr) (aPREWRITTEN : Addr) (aCOMMITTED : Addr) (aABORTED : Addr) (aV : Addr) (kV : ClassId) (p0 : Int32) (h0 : Heap) (n0 : Nat) (O0 : Old Z n0 h0) (GL : GF Z aSTABLE aPREWRITTEN aCOMMITTED aABORTED aV kV) (hk : p0 = (2 : Int32)) :
    MetFree l MN_3 (head1 (Jvm.Cond.code MN_3 method_2_code 1 (some (.object "com/example/enact/enact/lock/LockState")) :: ws) ({ frames := 0, cells := 0, slots := 0, locals := 0 } : Room)) (fun a U => a = #[(.int p0)] ∧ Z.Warmed39 U.vm ∧ U.heap = h0) (fun _ _ _ _ _ => True) (fun _ U o U' => ∃ v L, o = .returned v ∧ Q_rm4_2 n0 Z aSTABLE aPREWRITTEN aCOMMITTED aABORTED aV kV p0 h0 v U'.heap L ∧ FrameEnd U o U' L ({ frames := 0, cells := 0, slots := 0, locals := 0 } : Room).cells ({ frames := 0, cells := 0, slots := 0, locals := 0 } : Room).slots) := by
  refine MetFree.of_bodySF (plainFor_of_name pnv1) hisR ?_
  intro p e s m args below meth c s₁ Bd hml0 hP hK
  obtain ⟨rfl, hZ, hh⟩ := hP
  have hx := Bd.exec
  have hby := Bd.bytes
  have hml : c.maxLocals = 1 := hml0
  have hown : s.vm.findClass "com/example/enact/enact/lock/LockStateFromCodePinLaw" = some m.cls := findClass_of_methodNamed Bd.named
  have hnm := (name_of_methodNamed Bd.named Bd.method).1
  have X0 : Stand p l e ({ frames := 0, cells := 0, slots := 0, locals := 0 } : Room) s m #[(.int p0)] below meth c s₁ [] 0 0 := Stand.of_body Bd
  have e0 : s₁.heap = h0 := by rw [← hh, Bd.state]; rfl
  have N0 := Fr.nil n0
  have pre0 : ∀ t, Steps p.tables e below (s₁.setTop (mkF m 0 #[.val (.int p0)] [])) t → Steps p.tables e below (s₁.setTop (entryFrame m #[(.int p0)] 1)) t := fun t k => castTop (ef_rm4_0 m p0) k
  have GL' := GL
  obtain ⟨GSSTABLE, GESTABLE, GCSTABLE, GSPREWRITTEN, GEPREWRITTEN, GCPREWRITTEN, GSCOMMITTED, GECOMMITTED, GCCOMMITTED, GSABORTED, GEABORTED, GCABORTED, GSV, GEV, GVV⟩ := GL'
  have u0 : ¬ (p0 = (0 : Int32)) := (by rw [hk]; decide)
  have w0 : ¬ ((0 : Int32) = p0) := (by rw [hk]; decide)
  have u1 : ¬ (p0 = (1 : Int32)) := (by rw [hk]; decide)
  have w1 : ¬ ((1 : Int32) = p0) := (by rw [hk]; decide)
  have w2 : (2 : Int32) = p0 := hk.symm
  have u3 : ¬ (p0 = (3 : Int32)) := (by rw [hk]; decide)
  have w3 : ¬ ((3 : Int32) = p0) := (by rw [hk]; decide)
  obtain ⟨T1, X1, e1, st1⟩ := getS2 X0 hx hZ hown (host := "") (Or.inl (Wd hw 39 rfl)) Via.refl e0 (GSCOMMITTED.ext O0.2) (g := (mkF m 22 #[.val (.int p0)] [])) rfl (hb hby d4_22)
  obtain ⟨fs, hr, hrun, hended, hW, hsame⟩ := X1.leave (v := some (.ref aCOMMITTED)) (fun h => by rw [Bd.returns] at h; cases h)
  refine ⟨_, _, pre0 _ ?_, hrun, hended, _, _, rfl, ?_, ⟨_, rfl⟩, hW, hsame.mono (by decide) (by decide)⟩
  · show Steps p.tables e below (s₁.setTop (mkF m 0 #[.val (.int p0)] [])) _
    refine XS.iloadN X0.here hx rfl (hb hby d4_0) rfl ?_
    show Steps p.tables e below (s₁.setTop (mkF m 1 #[.val (.int p0)] [(.int p0)])) _
    refine XS.ifYes X0.here hx rfl (pc0 := 1) (pc' := 8) rfl (hb hby d4_1) rfl ((if0 _ _).trans (feq u0).2) (by decide) (by decide) ?_
    show Steps p.tables e below (s₁.setTop (mkF m 8 #[.val (.int p0)] [])) _
    refine XS.iloadN X0.here hx rfl (hb hby d4_8) rfl ?_
    show Steps p.tables e below (s₁.setTop (mkF m 9 #[.val (.int p0)] [(.int p0)])) _
    refine XS.iconst X0.here hx rfl (hb hby d4_9) ?_
    show Steps p.tables e below (s₁.setTop (mkF m 10 #[.val (.int p0)] [(.int (1 : Int32)), (.int p0)])) _
    refine XS.icmpYes X0.here hx rfl (pc0 := 10) (pc' := 17) rfl (hb hby d4_10) rfl (feq u1).2 (by decide) (by decide) ?_
    show Steps p.tables e below (s₁.setTop (mkF m 17 #[.val (.int p0)] [])) _
    refine XS.iloadN X0.here hx rfl (hb hby d4_17) rfl ?_
    show Steps p.tables e below (s₁.setTop (mkF m 18 #[.val (.int p0)] [(.int p0)])) _
    refine XS.iconst X0.here hx rfl (hb hby d4_18) ?_
    show Steps p.tables e below (s₁.setTop (mkF m 19 #[.val (.int p0)] [(.int (2 : Int32)), (.int p0)])) _
    refine XS.icmpNo X0.here hx rfl (hb hby d4_19) rfl (teq hk).2 ?_
    show Steps p.tables e below (s₁.setTop (mkF m 22 #[.val (.int p0)] [])) _
    refine st1 _ ?_
    show Steps p.tables e below (T1.setTop (mkF m 25 #[.val (.int p0)] [(.ref aCOMMITTED)])) _
    jvm_step X1.here [X1.here.top, hx, (hb hby d4_25), X1.method', Bd.returns, Value.isRef, FieldType.isReference]
    first | (intro acts; rw [hr _ acts rfl rfl rfl]) | rw [hr _ _ rfl rfl rfl]
    exact Steps.refl _
  · show Q_rm4_2 n0 Z aSTABLE aPREWRITTEN aCOMMITTED aABORTED aV kV p0 h0 _ T1.heap _
    rw [e1]
    exact ⟨rfl, N0, rfl⟩
def Q_rm2_3 (n0 : Nat) (Z : State) (aSTABLE : Addr) (aPREWRITTEN : Addr) (aCOMMITTED : Addr) (aABORTED : Addr) (aV : Addr) (kV : ClassId) (p0 : Int32) (h0 : Heap) (v : Option Value) (h : Heap) (L : List Loc) : Prop := v = some (.ref aABORTED) ∧ Fr n0 L ∧ Keep h0 h []
set_option maxRecDepth 65536 in
set_option maxHeartbeats 40000000 in
theorem rm2_3 (l : Launch) (Z : State) (a0 : Array Value) (hw : ∀ d ∈ tables_1, d.before a0 Z = true) (ws : List Jvm.Cond) (aSTABLE : Addr) (aPREWRITTEN : Addr) (aCOMMITTED : Addr) (aABORTED : Addr) (aV : Addr) (kV : ClassId) (p0 : Int32) (h0 : Heap) (n0 : Nat) (O0 : Old Z n0 h0) (GL : GF Z aSTABLE aPREWRITTEN aCOMMITTED aABORTED aV kV) (hk : p0 = (3 : Int32)) :
    MetFree l MN_2 (head1 (Jvm.Cond.code MN_2 prog_2_method_5_code 5 (some (.object "com/example/enact/enact/lock/LockState")) :: ws) ({ frames := 2, cells := 1, slots := 4, locals := 25 } : Room)) (fun a U => a = #[(.int p0)] ∧ Z.Warmed39 U.vm ∧ U.heap = h0) (fun _ _ _ _ _ => True) (fun _ U o U' => ∃ v L, o = .returned v ∧ Q_rm2_3 n0 Z aSTABLE aPREWRITTEN aCOMMITTED aABORTED aV kV p0 h0 v U'.heap L ∧ FrameEnd U o U' L ({ frames := 2, cells := 1, slots := 4, locals := 25 } : Room).cells ({ frames := 2, cells := 1, slots := 4, locals := 25 } : Room).slots) := by
  refine MetFree.of_bodySF (plainFor_of_name pn) hisR ?_
  intro p e s m args below meth c s₁ Bd hml0 hP hK
  obtain ⟨rfl, hZ, hh⟩ := hP
  have hx := Bd.exec
  have hby := Bd.bytes
  have hml : c.maxLocals = 5 := hml0
  have hown : s.vm.findClass "com/example/enact/enact/lock/LockState" = some m.cls := findClass_of_methodNamed Bd.named
  have hnm := (name_of_methodNamed Bd.named Bd.method).1
  have X0 : Stand p l e ({ frames := 2, cells := 1, slots := 4, locals := 25 } : Room) s m #[(.int p0)] below meth c s₁ [] 0 0 := Stand.of_body Bd
  have e0 : s₁.heap = h0 := by rw [← hh, Bd.state]; rfl
  have N0 := Fr.nil n0
  have pre0 : ∀ t, Steps p.tables e below (s₁.setTop (mkF m 0 #[.val (.int p0), .unset, .unset, .unset, .unset] [])) t → Steps p.tables e below (s₁.setTop (entryFrame m #[(.int p0)] 5)) t := fun t k => castTop (ef_rm2_0 m p0) k
  have GL' := GL
  obtain ⟨GSSTABLE, GESTABLE, GCSTABLE, GSPREWRITTEN, GEPREWRITTEN, GCPREWRITTEN, GSCOMMITTED, GECOMMITTED, GCCOMMITTED, GSABORTED, GEABORTED, GCABORTED, GSV, GEV, GVV⟩ := GL'
  have u0 : ¬ (p0 = (0 : Int32)) := (by rw [hk]; decide)
  have w0 : ¬ ((0 : Int32) = p0) := (by rw [hk]; decide)
  have u1 : ¬ (p0 = (1 : Int32)) := (by rw [hk]; decide)
  have w1 : ¬ ((1 : Int32) = p0) := (by rw [hk]; decide)
  have u2 : ¬ (p0 = (2 : Int32)) := (by rw [hk]; decide)
  have w2 : ¬ ((2 : Int32) = p0) := (by rw [hk]; decide)
  have w3 : (3 : Int32) = p0 := hk.symm
  obtain ⟨_, _, ⟨T1, L1, k1, n1⟩, -, X1, ⟨Lc1, hQ1, l1, y1, z1⟩, st1⟩ := Jvm.LawKit.callS X0 hx (y := MN_0) hown (mvT hZ (Wd hw 8 rfl)) (mvT hZ (Wd hw 9 rfl)) (mvT hZ (Wd hw 6 rfl)) (mvT hZ (Wd hw 10 rfl)) (by decide) (backOf (W := 0) (rm3 l Z a0 hw [] aSTABLE aPREWRITTEN aCOMMITTED aABORTED aV kV  (h0) n0 O0 GL) hZ (Wd hw 10 rfl) (Wd hw 6 rfl) (by decide) (by decide)) (g := (mkF m 0 #[.val (.int p0), .unset, .unset, .unset, .unset] [])) rfl (by rw [hml]; rfl) (argsL := []) (rest := []) (lenOf pd rfl) rfl (by show 2 * 0 + _ ≤ _; exact Nat.le_of_eq rfl) (hb hby d2_0) (fun _ _ => ⟨rfl, e0, (by decide : 0 + 1 ≤ _), (by decide : 0 + 4 ≤ _)⟩)
  dsimp only [Pt.U, Pt.locs, Pt.cells, Pt.slots] at X1 l1 y1 z1 st1 hQ1
  subst l1 y1 z1
  obtain ⟨b_1, rfl, N1q, Kc1, P1_0, P1_1⟩ := hQ1
  have K1 : Keep h0 T1.heap [] := (Keep.refl h0 []).trans Kc1 all0
  have O1 := O0.keep Kc1 all0
  have g_b_1 : n0 ≤ b_1 := Nat.le_trans (own_sz O0) P1_0
  have sz_b_1 : h0.size ≤ b_1 := Nat.le_trans (Keep.refl h0 []).1 P1_0
  have N1 := Fr.app N0 N1q
  obtain ⟨cl2, Ar2, -, S2, N2_, -, -⟩ := id (P1_1)
  obtain ⟨cl3, Ar3, -, S3, N3_, H3, G3⟩ := id (P1_1)
  have hin3 : ¬ ((0 : Int32) < 0 ∨ cl3.slots.size ≤ ((0 : Int32)).toNatClampNeg) := inb_of S3 ⟨(by decide), (by decide)⟩
  have hat3 : cl3.slots[((0 : Int32)).toNatClampNeg]? = some (.ref aSTABLE) := H3.at hin3 rfl
  obtain ⟨T4, X4, e4, st4⟩ := getF X1 hx hZ hown (host := "") (Or.inl (Wd hw 27 rfl)) Via.refl rfl (GCSTABLE.ext O1.2) (g := (mkF m 21 #[.val (.int p0), .val (.ref b_1), .val (.int (4 : Int32)), .val (.int (0 : Int32)), .val (.ref aSTABLE)] [(.ref aSTABLE)])) rfl rfl (hb hby d2_21)
  obtain ⟨cl5, Ar5, -, S5, N5_, H5, G5⟩ := id (P1_1)
  have hin5 : ¬ ((1 : Int32) < 0 ∨ cl5.slots.size ≤ ((1 : Int32)).toNatClampNeg) := inb_of S5 ⟨(by decide), (by decide)⟩
  have hat5 : cl5.slots[((1 : Int32)).toNatClampNeg]? = some (.ref aPREWRITTEN) := H5.at hin5 rfl
  obtain ⟨T6, X6, e6, st6⟩ := getF X4 hx hZ hown (host := "") (Or.inl (Wd hw 27 rfl)) Via.refl e4 (GCPREWRITTEN.ext O1.2) (g := (mkF m 21 #[.val (.int p0), .val (.ref b_1), .val (.int (4 : Int32)), .val (.int (1 : Int32)), .val (.ref aPREWRITTEN)] [(.ref aPREWRITTEN)])) rfl rfl (hb hby d2_21)
  obtain ⟨cl7, Ar7, -, S7, N7_, H7, G7⟩ := id (P1_1)
  have hin7 : ¬ ((2 : Int32) < 0 ∨ cl7.slots.size ≤ ((2 : Int32)).toNatClampNeg) := inb_of S7 ⟨(by decide), (by decide)⟩
  have hat7 : cl7.slots[((2 : Int32)).toNatClampNeg]? = some (.ref aCOMMITTED) := H7.at hin7 rfl
  obtain ⟨T8, X8, e8, st8⟩ := getF X6 hx hZ hown (host := "") (Or.inl (Wd hw 27 rfl)) Via.refl e6 (GCCOMMITTED.ext O1.2) (g := (mkF m 21 #[.val (.int p0), .val (.ref b_1), .val (.int (4 : Int32)), .val (.int (2 : Int32)), .val (.ref aCOMMITTED)] [(.ref aCOMMITTED)])) rfl rfl (hb hby d2_21)
  obtain ⟨cl9, Ar9, -, S9, N9_, H9, G9⟩ := id (P1_1)
  have hin9 : ¬ ((3 : Int32) < 0 ∨ cl9.slots.size ≤ ((3 : Int32)).toNatClampNeg) := inb_of S9 ⟨(by decide), (by decide)⟩
  have hat9 : cl9.slots[((3 : Int32)).toNatClampNeg]? = some (.ref aABORTED) := H9.at hin9 rfl
  obtain ⟨T10, X10, e10, st10⟩ := getF X8 hx hZ hown (host := "") (Or.inl (Wd hw 27 rfl)) Via.refl e8 (GCABORTED.ext O1.2) (g := (mkF m 21 #[.val (.int p0), .val (.ref b_1), .val (.int (4 : Int32)), .val (.int (3 : Int32)), .val (.ref aABORTED)] [(.ref aABORTED)])) rfl rfl (hb hby d2_21)
  obtain ⟨fs, hr, hrun, hended, hW, hsame⟩ := X10.leave (v := some (.ref aABORTED)) (fun h => by rw [Bd.returns] at h; cases h)
  refine ⟨_, _, pre0 _ ?_, hrun, hended, _, _, rfl, ?_, ⟨_, rfl⟩, hW, hsame.mono (by decide) (by decide)⟩
  · show Steps p.tables e below (s₁.setTop (mkF m 0 #[.val (.int p0), .unset, .unset, .unset, .unset] [])) _
    refine st1 _ ?_
    show Steps p.tables e below (T1.setTop (mkF m 3 #[.val (.int p0), .unset, .unset, .unset, .unset] [(.ref b_1)])) _
    refine XS.astoreN X1.here hx rfl (hb hby d2_3) rfl rfl (l' := #[.val (.int p0), .val (.ref b_1), .unset, .unset, .unset]) rfl ?_
    show Steps p.tables e below (T1.setTop (mkF m 4 #[.val (.int p0), .val (.ref b_1), .unset, .unset, .unset] [])) _
    refine XS.aloadN X1.here hx rfl (hb hby d2_4) rfl rfl ?_
    show Steps p.tables e below (T1.setTop (mkF m 5 #[.val (.int p0), .val (.ref b_1), .unset, .unset, .unset] [(.ref b_1)])) _
    refine X1.arraylength hx Ar2.1 (State.isArrayOf_alike hZ.alike Ar2.2.1) (g := (mkF m 5 #[.val (.int p0), .val (.ref b_1), .unset, .unset, .unset] [(.ref b_1)])) rfl rfl (hb hby d2_5) _ ?_
    rw [len_of S2 N2_]
    show Steps p.tables e below (T1.setTop (mkF m 6 #[.val (.int p0), .val (.ref b_1), .unset, .unset, .unset] [(.int (4 : Int32))])) _
    refine XS.istoreN X1.here hx rfl (hb hby d2_6) rfl (l' := #[.val (.int p0), .val (.ref b_1), .val (.int (4 : Int32)), .unset, .unset]) rfl ?_
    show Steps p.tables e below (T1.setTop (mkF m 7 #[.val (.int p0), .val (.ref b_1), .val (.int (4 : Int32)), .unset, .unset] [])) _
    refine XS.iconst X1.here hx rfl (hb hby d2_7) ?_
    show Steps p.tables e below (T1.setTop (mkF m 8 #[.val (.int p0), .val (.ref b_1), .val (.int (4 : Int32)), .unset, .unset] [(.int (0 : Int32))])) _
    refine XS.istoreN X1.here hx rfl (hb hby d2_8) rfl (l' := #[.val (.int p0), .val (.ref b_1), .val (.int (4 : Int32)), .val (.int (0 : Int32)), .unset]) rfl ?_
    show Steps p.tables e below (T1.setTop (mkF m 9 #[.val (.int p0), .val (.ref b_1), .val (.int (4 : Int32)), .val (.int (0 : Int32)), .unset] [])) _
    refine XS.iloadN X1.here hx rfl (hb hby d2_9) rfl ?_
    show Steps p.tables e below (T1.setTop (mkF m 10 #[.val (.int p0), .val (.ref b_1), .val (.int (4 : Int32)), .val (.int (0 : Int32)), .unset] [(.int (0 : Int32))])) _
    refine XS.iloadN X1.here hx rfl (hb hby d2_10) rfl ?_
    show Steps p.tables e below (T1.setTop (mkF m 11 #[.val (.int p0), .val (.ref b_1), .val (.int (4 : Int32)), .val (.int (0 : Int32)), .unset] [(.int (4 : Int32)), (.int (0 : Int32))])) _
    refine XS.icmpNo X1.here hx rfl (hb hby d2_11) rfl (tlt (by decide : (0 : Int32) < (4 : Int32))).2.1 ?_
    show Steps p.tables e below (T1.setTop (mkF m 14 #[.val (.int p0), .val (.ref b_1), .val (.int (4 : Int32)), .val (.int (0 : Int32)), .unset] [])) _
    refine XS.aloadN X1.here hx rfl (hb hby d2_14) rfl rfl ?_
    show Steps p.tables e below (T1.setTop (mkF m 15 #[.val (.int p0), .val (.ref b_1), .val (.int (4 : Int32)), .val (.int (0 : Int32)), .unset] [(.ref b_1)])) _
    refine XS.iloadN X1.here hx rfl (hb hby d2_15) rfl ?_
    show Steps p.tables e below (T1.setTop (mkF m 16 #[.val (.int p0), .val (.ref b_1), .val (.int (4 : Int32)), .val (.int (0 : Int32)), .unset] [(.int (0 : Int32)), (.ref b_1)])) _
    refine X1.aaload hx (j := (0 : Int32)) (v := (.ref aSTABLE)) Ar3.1 (State.isArrayOf_alike hZ.alike Ar3.2.1) rfl Ar3.2.2 hin3 hat3 (g := (mkF m 16 #[.val (.int p0), .val (.ref b_1), .val (.int (4 : Int32)), .val (.int (0 : Int32)), .unset] [(.int (0 : Int32)), (.ref b_1)])) rfl rfl (hb hby d2_16) _ ?_
    show Steps p.tables e below (T1.setTop (mkF m 17 #[.val (.int p0), .val (.ref b_1), .val (.int (4 : Int32)), .val (.int (0 : Int32)), .unset] [(.ref aSTABLE)])) _
    refine XS.astore X1.here hx rfl (hb hby d2_17) rfl rfl (l' := #[.val (.int p0), .val (.ref b_1), .val (.int (4 : Int32)), .val (.int (0 : Int32)), .val (.ref aSTABLE)]) rfl ?_
    show Steps p.tables e below (T1.setTop (mkF m 19 #[.val (.int p0), .val (.ref b_1), .val (.int (4 : Int32)), .val (.int (0 : Int32)), .val (.ref aSTABLE)] [])) _
    refine XS.aload X1.here hx rfl (hb hby d2_19) rfl rfl ?_
    show Steps p.tables e below (T1.setTop (mkF m 21 #[.val (.int p0), .val (.ref b_1), .val (.int (4 : Int32)), .val (.int (0 : Int32)), .val (.ref aSTABLE)] [(.ref aSTABLE)])) _
    refine st4 _ ?_
    show Steps p.tables e below (T4.setTop (mkF m 24 #[.val (.int p0), .val (.ref b_1), .val (.int (4 : Int32)), .val (.int (0 : Int32)), .val (.ref aSTABLE)] [(.int (0 : Int32))])) _
    refine XS.iloadN X4.here hx rfl (hb hby d2_24) rfl ?_
    show Steps p.tables e below (T4.setTop (mkF m 25 #[.val (.int p0), .val (.ref b_1), .val (.int (4 : Int32)), .val (.int (0 : Int32)), .val (.ref aSTABLE)] [(.int p0), (.int (0 : Int32))])) _
    refine XS.icmpYes X4.here hx rfl (pc0 := 25) (pc' := 31) rfl (hb hby d2_25) rfl (feq w0).2 (by decide) (by decide) ?_
    show Steps p.tables e below (T4.setTop (mkF m 31 #[.val (.int p0), .val (.ref b_1), .val (.int (4 : Int32)), .val (.int (0 : Int32)), .val (.ref aSTABLE)] [])) _
    refine XS.iinc X4.here hx rfl (hb hby d2_31) rfl (l' := #[.val (.int p0), .val (.ref b_1), .val (.int (4 : Int32)), .val (.int (1 : Int32)), .val (.ref aSTABLE)]) rfl ?_
    show Steps p.tables e below (T4.setTop (mkF m 34 #[.val (.int p0), .val (.ref b_1), .val (.int (4 : Int32)), .val (.int (1 : Int32)), .val (.ref aSTABLE)] [])) _
    refine XS.goto X4.here hx rfl (pc0 := 34) (pc' := 9) rfl (hb hby d2_34) (by decide) (by decide) ?_
    show Steps p.tables e below (T4.setTop (mkF m 9 #[.val (.int p0), .val (.ref b_1), .val (.int (4 : Int32)), .val (.int (1 : Int32)), .val (.ref aSTABLE)] [])) _
    refine XS.iloadN X4.here hx rfl (hb hby d2_9) rfl ?_
    show Steps p.tables e below (T4.setTop (mkF m 10 #[.val (.int p0), .val (.ref b_1), .val (.int (4 : Int32)), .val (.int (1 : Int32)), .val (.ref aSTABLE)] [(.int (1 : Int32))])) _
    refine XS.iloadN X4.here hx rfl (hb hby d2_10) rfl ?_
    show Steps p.tables e below (T4.setTop (mkF m 11 #[.val (.int p0), .val (.ref b_1), .val (.int (4 : Int32)), .val (.int (1 : Int32)), .val (.ref aSTABLE)] [(.int (4 : Int32)), (.int (1 : Int32))])) _
    refine XS.icmpNo X4.here hx rfl (hb hby d2_11) rfl (tlt (by decide : (1 : Int32) < (4 : Int32))).2.1 ?_
    show Steps p.tables e below (T4.setTop (mkF m 14 #[.val (.int p0), .val (.ref b_1), .val (.int (4 : Int32)), .val (.int (1 : Int32)), .val (.ref aSTABLE)] [])) _
    refine XS.aloadN X4.here hx rfl (hb hby d2_14) rfl rfl ?_
    show Steps p.tables e below (T4.setTop (mkF m 15 #[.val (.int p0), .val (.ref b_1), .val (.int (4 : Int32)), .val (.int (1 : Int32)), .val (.ref aSTABLE)] [(.ref b_1)])) _
    refine XS.iloadN X4.here hx rfl (hb hby d2_15) rfl ?_
    show Steps p.tables e below (T4.setTop (mkF m 16 #[.val (.int p0), .val (.ref b_1), .val (.int (4 : Int32)), .val (.int (1 : Int32)), .val (.ref aSTABLE)] [(.int (1 : Int32)), (.ref b_1)])) _
    refine X4.aaload hx (j := (1 : Int32)) (v := (.ref aPREWRITTEN)) (by rw [e4]; exact Ar5.1) (State.isArrayOf_alike hZ.alike Ar5.2.1) rfl Ar5.2.2 hin5 hat5 (g := (mkF m 16 #[.val (.int p0), .val (.ref b_1), .val (.int (4 : Int32)), .val (.int (1 : Int32)), .val (.ref aSTABLE)] [(.int (1 : Int32)), (.ref b_1)])) rfl rfl (hb hby d2_16) _ ?_
    show Steps p.tables e below (T4.setTop (mkF m 17 #[.val (.int p0), .val (.ref b_1), .val (.int (4 : Int32)), .val (.int (1 : Int32)), .val (.ref aSTABLE)] [(.ref aPREWRITTEN)])) _
    refine XS.astore X4.here hx rfl (hb hby d2_17) rfl rfl (l' := #[.val (.int p0), .val (.ref b_1), .val (.int (4 : Int32)), .val (.int (1 : Int32)), .val (.ref aPREWRITTEN)]) rfl ?_
    show Steps p.tables e below (T4.setTop (mkF m 19 #[.val (.int p0), .val (.ref b_1), .val (.int (4 : Int32)), .val (.int (1 : Int32)), .val (.ref aPREWRITTEN)] [])) _
    refine XS.aload X4.here hx rfl (hb hby d2_19) rfl rfl ?_
    show Steps p.tables e below (T4.setTop (mkF m 21 #[.val (.int p0), .val (.ref b_1), .val (.int (4 : Int32)), .val (.int (1 : Int32)), .val (.ref aPREWRITTEN)] [(.ref aPREWRITTEN)])) _
    refine st6 _ ?_
    show Steps p.tables e below (T6.setTop (mkF m 24 #[.val (.int p0), .val (.ref b_1), .val (.int (4 : Int32)), .val (.int (1 : Int32)), .val (.ref aPREWRITTEN)] [(.int (1 : Int32))])) _
    refine XS.iloadN X6.here hx rfl (hb hby d2_24) rfl ?_
    show Steps p.tables e below (T6.setTop (mkF m 25 #[.val (.int p0), .val (.ref b_1), .val (.int (4 : Int32)), .val (.int (1 : Int32)), .val (.ref aPREWRITTEN)] [(.int p0), (.int (1 : Int32))])) _
    refine XS.icmpYes X6.here hx rfl (pc0 := 25) (pc' := 31) rfl (hb hby d2_25) rfl (feq w1).2 (by decide) (by decide) ?_
    show Steps p.tables e below (T6.setTop (mkF m 31 #[.val (.int p0), .val (.ref b_1), .val (.int (4 : Int32)), .val (.int (1 : Int32)), .val (.ref aPREWRITTEN)] [])) _
    refine XS.iinc X6.here hx rfl (hb hby d2_31) rfl (l' := #[.val (.int p0), .val (.ref b_1), .val (.int (4 : Int32)), .val (.int (2 : Int32)), .val (.ref aPREWRITTEN)]) rfl ?_
    show Steps p.tables e below (T6.setTop (mkF m 34 #[.val (.int p0), .val (.ref b_1), .val (.int (4 : Int32)), .val (.int (2 : Int32)), .val (.ref aPREWRITTEN)] [])) _
    refine XS.goto X6.here hx rfl (pc0 := 34) (pc' := 9) rfl (hb hby d2_34) (by decide) (by decide) ?_
    show Steps p.tables e below (T6.setTop (mkF m 9 #[.val (.int p0), .val (.ref b_1), .val (.int (4 : Int32)), .val (.int (2 : Int32)), .val (.ref aPREWRITTEN)] [])) _
    refine XS.iloadN X6.here hx rfl (hb hby d2_9) rfl ?_
    show Steps p.tables e below (T6.setTop (mkF m 10 #[.val (.int p0), .val (.ref b_1), .val (.int (4 : Int32)), .val (.int (2 : Int32)), .val (.ref aPREWRITTEN)] [(.int (2 : Int32))])) _
    refine XS.iloadN X6.here hx rfl (hb hby d2_10) rfl ?_
    show Steps p.tables e below (T6.setTop (mkF m 11 #[.val (.int p0), .val (.ref b_1), .val (.int (4 : Int32)), .val (.int (2 : Int32)), .val (.ref aPREWRITTEN)] [(.int (4 : Int32)), (.int (2 : Int32))])) _
    refine XS.icmpNo X6.here hx rfl (hb hby d2_11) rfl (tlt (by decide : (2 : Int32) < (4 : Int32))).2.1 ?_
    show Steps p.tables e below (T6.setTop (mkF m 14 #[.val (.int p0), .val (.ref b_1), .val (.int (4 : Int32)), .val (.int (2 : Int32)), .val (.ref aPREWRITTEN)] [])) _
    refine XS.aloadN X6.here hx rfl (hb hby d2_14) rfl rfl ?_
    show Steps p.tables e below (T6.setTop (mkF m 15 #[.val (.int p0), .val (.ref b_1), .val (.int (4 : Int32)), .val (.int (2 : Int32)), .val (.ref aPREWRITTEN)] [(.ref b_1)])) _
    refine XS.iloadN X6.here hx rfl (hb hby d2_15) rfl ?_
    show Steps p.tables e below (T6.setTop (mkF m 16 #[.val (.int p0), .val (.ref b_1), .val (.int (4 : Int32)), .val (.int (2 : Int32)), .val (.ref aPREWRITTEN)] [(.int (2 : Int32)), (.ref b_1)])) _
    refine X6.aaload hx (j := (2 : Int32)) (v := (.ref aCOMMITTED)) (by rw [e6]; exact Ar7.1) (State.isArrayOf_alike hZ.alike Ar7.2.1) rfl Ar7.2.2 hin7 hat7 (g := (mkF m 16 #[.val (.int p0), .val (.ref b_1), .val (.int (4 : Int32)), .val (.int (2 : Int32)), .val (.ref aPREWRITTEN)] [(.int (2 : Int32)), (.ref b_1)])) rfl rfl (hb hby d2_16) _ ?_
    show Steps p.tables e below (T6.setTop (mkF m 17 #[.val (.int p0), .val (.ref b_1), .val (.int (4 : Int32)), .val (.int (2 : Int32)), .val (.ref aPREWRITTEN)] [(.ref aCOMMITTED)])) _
    refine XS.astore X6.here hx rfl (hb hby d2_17) rfl rfl (l' := #[.val (.int p0), .val (.ref b_1), .val (.int (4 : Int32)), .val (.int (2 : Int32)), .val (.ref aCOMMITTED)]) rfl ?_
    show Steps p.tables e below (T6.setTop (mkF m 19 #[.val (.int p0), .val (.ref b_1), .val (.int (4 : Int32)), .val (.int (2 : Int32)), .val (.ref aCOMMITTED)] [])) _
    refine XS.aload X6.here hx rfl (hb hby d2_19) rfl rfl ?_
    show Steps p.tables e below (T6.setTop (mkF m 21 #[.val (.int p0), .val (.ref b_1), .val (.int (4 : Int32)), .val (.int (2 : Int32)), .val (.ref aCOMMITTED)] [(.ref aCOMMITTED)])) _
    refine st8 _ ?_
    show Steps p.tables e below (T8.setTop (mkF m 24 #[.val (.int p0), .val (.ref b_1), .val (.int (4 : Int32)), .val (.int (2 : Int32)), .val (.ref aCOMMITTED)] [(.int (2 : Int32))])) _
    refine XS.iloadN X8.here hx rfl (hb hby d2_24) rfl ?_
    show Steps p.tables e below (T8.setTop (mkF m 25 #[.val (.int p0), .val (.ref b_1), .val (.int (4 : Int32)), .val (.int (2 : Int32)), .val (.ref aCOMMITTED)] [(.int p0), (.int (2 : Int32))])) _
    refine XS.icmpYes X8.here hx rfl (pc0 := 25) (pc' := 31) rfl (hb hby d2_25) rfl (feq w2).2 (by decide) (by decide) ?_
    show Steps p.tables e below (T8.setTop (mkF m 31 #[.val (.int p0), .val (.ref b_1), .val (.int (4 : Int32)), .val (.int (2 : Int32)), .val (.ref aCOMMITTED)] [])) _
    refine XS.iinc X8.here hx rfl (hb hby d2_31) rfl (l' := #[.val (.int p0), .val (.ref b_1), .val (.int (4 : Int32)), .val (.int (3 : Int32)), .val (.ref aCOMMITTED)]) rfl ?_
    show Steps p.tables e below (T8.setTop (mkF m 34 #[.val (.int p0), .val (.ref b_1), .val (.int (4 : Int32)), .val (.int (3 : Int32)), .val (.ref aCOMMITTED)] [])) _
    refine XS.goto X8.here hx rfl (pc0 := 34) (pc' := 9) rfl (hb hby d2_34) (by decide) (by decide) ?_
    show Steps p.tables e below (T8.setTop (mkF m 9 #[.val (.int p0), .val (.ref b_1), .val (.int (4 : Int32)), .val (.int (3 : Int32)), .val (.ref aCOMMITTED)] [])) _
    refine XS.iloadN X8.here hx rfl (hb hby d2_9) rfl ?_
    show Steps p.tables e below (T8.setTop (mkF m 10 #[.val (.int p0), .val (.ref b_1), .val (.int (4 : Int32)), .val (.int (3 : Int32)), .val (.ref aCOMMITTED)] [(.int (3 : Int32))])) _
    refine XS.iloadN X8.here hx rfl (hb hby d2_10) rfl ?_
    show Steps p.tables e below (T8.setTop (mkF m 11 #[.val (.int p0), .val (.ref b_1), .val (.int (4 : Int32)), .val (.int (3 : Int32)), .val (.ref aCOMMITTED)] [(.int (4 : Int32)), (.int (3 : Int32))])) _
    refine XS.icmpNo X8.here hx rfl (hb hby d2_11) rfl (tlt (by decide : (3 : Int32) < (4 : Int32))).2.1 ?_
    show Steps p.tables e below (T8.setTop (mkF m 14 #[.val (.int p0), .val (.ref b_1), .val (.int (4 : Int32)), .val (.int (3 : Int32)), .val (.ref aCOMMITTED)] [])) _
    refine XS.aloadN X8.here hx rfl (hb hby d2_14) rfl rfl ?_
    show Steps p.tables e below (T8.setTop (mkF m 15 #[.val (.int p0), .val (.ref b_1), .val (.int (4 : Int32)), .val (.int (3 : Int32)), .val (.ref aCOMMITTED)] [(.ref b_1)])) _
    refine XS.iloadN X8.here hx rfl (hb hby d2_15) rfl ?_
    show Steps p.tables e below (T8.setTop (mkF m 16 #[.val (.int p0), .val (.ref b_1), .val (.int (4 : Int32)), .val (.int (3 : Int32)), .val (.ref aCOMMITTED)] [(.int (3 : Int32)), (.ref b_1)])) _
    refine X8.aaload hx (j := (3 : Int32)) (v := (.ref aABORTED)) (by rw [e8]; exact Ar9.1) (State.isArrayOf_alike hZ.alike Ar9.2.1) rfl Ar9.2.2 hin9 hat9 (g := (mkF m 16 #[.val (.int p0), .val (.ref b_1), .val (.int (4 : Int32)), .val (.int (3 : Int32)), .val (.ref aCOMMITTED)] [(.int (3 : Int32)), (.ref b_1)])) rfl rfl (hb hby d2_16) _ ?_
    show Steps p.tables e below (T8.setTop (mkF m 17 #[.val (.int p0), .val (.ref b_1), .val (.int (4 : Int32)), .val (.int (3 : Int32)), .val (.ref aCOMMITTED)] [(.ref aABORTED)])) _
    refine XS.astore X8.here hx rfl (hb hby d2_17) rfl rfl (l' := #[.val (.int p0), .val (.ref b_1), .val (.int (4 : Int32)), .val (.int (3 : Int32)), .val (.ref aABORTED)]) rfl ?_
    show Steps p.tables e below (T8.setTop (mkF m 19 #[.val (.int p0), .val (.ref b_1), .val (.int (4 : Int32)), .val (.int (3 : Int32)), .val (.ref aABORTED)] [])) _
    refine XS.aload X8.here hx rfl (hb hby d2_19) rfl rfl ?_
    show Steps p.tables e below (T8.setTop (mkF m 21 #[.val (.int p0), .val (.ref b_1), .val (.int (4 : Int32)), .val (.int (3 : Int32)), .val (.ref aABORTED)] [(.ref aABORTED)])) _
    refine st10 _ ?_
    show Steps p.tables e below (T10.setTop (mkF m 24 #[.val (.int p0), .val (.ref b_1), .val (.int (4 : Int32)), .val (.int (3 : Int32)), .val (.ref aABORTED)] [(.int (3 : Int32))])) _
    refine XS.iloadN X10.here hx rfl (hb hby d2_24) rfl ?_
    show Steps p.tables e below (T10.setTop (mkF m 25 #[.val (.int p0), .val (.ref b_1), .val (.int (4 : Int32)), .val (.int (3 : Int32)), .val (.ref aABORTED)] [(.int p0), (.int (3 : Int32))])) _
    refine XS.icmpNo X10.here hx rfl (hb hby d2_25) rfl (teq w3).2 ?_
    show Steps p.tables e below (T10.setTop (mkF m 28 #[.val (.int p0), .val (.ref b_1), .val (.int (4 : Int32)), .val (.int (3 : Int32)), .val (.ref aABORTED)] [])) _
    refine XS.aload X10.here hx rfl (hb hby d2_28) rfl rfl ?_
    show Steps p.tables e below (T10.setTop (mkF m 30 #[.val (.int p0), .val (.ref b_1), .val (.int (4 : Int32)), .val (.int (3 : Int32)), .val (.ref aABORTED)] [(.ref aABORTED)])) _
    jvm_step X10.here [X10.here.top, hx, (hb hby d2_30), X10.method', Bd.returns, Value.isRef, FieldType.isReference]
    first | (intro acts; rw [hr _ acts rfl rfl rfl]) | rw [hr _ _ rfl rfl rfl]
    exact Steps.refl _
  · show Q_rm2_3 n0 Z aSTABLE aPREWRITTEN aCOMMITTED aABORTED aV kV p0 h0 _ T10.heap _
    rw [e10]
    exact ⟨rfl, N1, K1⟩
theorem d4_26 : decode method_2_code 26 = .ok (.iload_n 0, 1) := by decide +kernel
theorem d4_27 : decode method_2_code 27 = .ok (.iconst 3, 1) := by decide +kernel
theorem d4_28 : decode method_2_code 28 = .ok (.if_icmp .ne 7, 3) := by decide +kernel
theorem d4_31 : decode method_2_code 31 = .ok (.getstatic 19, 3) := by decide +kernel
theorem d4_34 : decode method_2_code 34 = .ok (.areturn, 1) := by decide +kernel
def Q_rm4_3 (n0 : Nat) (Z : State) (aSTABLE : Addr) (aPREWRITTEN : Addr) (aCOMMITTED : Addr) (aABORTED : Addr) (aV : Addr) (kV : ClassId) (p0 : Int32) (h0 : Heap) (v : Option Value) (h : Heap) (L : List Loc) : Prop := v = some (.ref aABORTED) ∧ Fr n0 L ∧ h = h0
set_option maxRecDepth 65536 in
set_option maxHeartbeats 40000000 in
theorem rm4_3 (l : Launch) (Z : State) (a0 : Array Value) (hw : ∀ d ∈ tables_1, d.before a0 Z = true) (ws : List Jvm.Cond) (aSTABLE : Addr) (aPREWRITTEN : Addr) (aCOMMITTED : Addr) (aABORTED : Addr) (aV : Addr) (kV : ClassId) (p0 : Int32) (h0 : Heap) (n0 : Nat) (O0 : Old Z n0 h0) (GL : GF Z aSTABLE aPREWRITTEN aCOMMITTED aABORTED aV kV) (hk : p0 = (3 : Int32)) :
    MetFree l MN_3 (head1 (Jvm.Cond.code MN_3 method_2_code 1 (some (.object "com/example/enact/enact/lock/LockState")) :: ws) ({ frames := 0, cells := 0, slots := 0, locals := 0 } : Room)) (fun a U => a = #[(.int p0)] ∧ Z.Warmed39 U.vm ∧ U.heap = h0) (fun _ _ _ _ _ => True) (fun _ U o U' => ∃ v L, o = .returned v ∧ Q_rm4_3 n0 Z aSTABLE aPREWRITTEN aCOMMITTED aABORTED aV kV p0 h0 v U'.heap L ∧ FrameEnd U o U' L ({ frames := 0, cells := 0, slots := 0, locals := 0 } : Room).cells ({ frames := 0, cells := 0, slots := 0, locals := 0 } : Room).slots) := by
  refine MetFree.of_bodySF (plainFor_of_name pnv1) hisR ?_
  intro p e s m args below meth c s₁ Bd hml0 hP hK
  obtain ⟨rfl, hZ, hh⟩ := hP
  have hx := Bd.exec
  have hby := Bd.bytes
  have hml : c.maxLocals = 1 := hml0
  have hown : s.vm.findClass "com/example/enact/enact/lock/LockStateFromCodePinLaw" = some m.cls := findClass_of_methodNamed Bd.named
  have hnm := (name_of_methodNamed Bd.named Bd.method).1
  have X0 : Stand p l e ({ frames := 0, cells := 0, slots := 0, locals := 0 } : Room) s m #[(.int p0)] below meth c s₁ [] 0 0 := Stand.of_body Bd
  have e0 : s₁.heap = h0 := by rw [← hh, Bd.state]; rfl
  have N0 := Fr.nil n0
  have pre0 : ∀ t, Steps p.tables e below (s₁.setTop (mkF m 0 #[.val (.int p0)] [])) t → Steps p.tables e below (s₁.setTop (entryFrame m #[(.int p0)] 1)) t := fun t k => castTop (ef_rm4_0 m p0) k
  have GL' := GL
  obtain ⟨GSSTABLE, GESTABLE, GCSTABLE, GSPREWRITTEN, GEPREWRITTEN, GCPREWRITTEN, GSCOMMITTED, GECOMMITTED, GCCOMMITTED, GSABORTED, GEABORTED, GCABORTED, GSV, GEV, GVV⟩ := GL'
  have u0 : ¬ (p0 = (0 : Int32)) := (by rw [hk]; decide)
  have w0 : ¬ ((0 : Int32) = p0) := (by rw [hk]; decide)
  have u1 : ¬ (p0 = (1 : Int32)) := (by rw [hk]; decide)
  have w1 : ¬ ((1 : Int32) = p0) := (by rw [hk]; decide)
  have u2 : ¬ (p0 = (2 : Int32)) := (by rw [hk]; decide)
  have w2 : ¬ ((2 : Int32) = p0) := (by rw [hk]; decide)
  have w3 : (3 : Int32) = p0 := hk.symm
  obtain ⟨T1, X1, e1, st1⟩ := getS2 X0 hx hZ hown (host := "") (Or.inl (Wd hw 40 rfl)) Via.refl e0 (GSABORTED.ext O0.2) (g := (mkF m 31 #[.val (.int p0)] [])) rfl (hb hby d4_31)
  obtain ⟨fs, hr, hrun, hended, hW, hsame⟩ := X1.leave (v := some (.ref aABORTED)) (fun h => by rw [Bd.returns] at h; cases h)
  refine ⟨_, _, pre0 _ ?_, hrun, hended, _, _, rfl, ?_, ⟨_, rfl⟩, hW, hsame.mono (by decide) (by decide)⟩
  · show Steps p.tables e below (s₁.setTop (mkF m 0 #[.val (.int p0)] [])) _
    refine XS.iloadN X0.here hx rfl (hb hby d4_0) rfl ?_
    show Steps p.tables e below (s₁.setTop (mkF m 1 #[.val (.int p0)] [(.int p0)])) _
    refine XS.ifYes X0.here hx rfl (pc0 := 1) (pc' := 8) rfl (hb hby d4_1) rfl ((if0 _ _).trans (feq u0).2) (by decide) (by decide) ?_
    show Steps p.tables e below (s₁.setTop (mkF m 8 #[.val (.int p0)] [])) _
    refine XS.iloadN X0.here hx rfl (hb hby d4_8) rfl ?_
    show Steps p.tables e below (s₁.setTop (mkF m 9 #[.val (.int p0)] [(.int p0)])) _
    refine XS.iconst X0.here hx rfl (hb hby d4_9) ?_
    show Steps p.tables e below (s₁.setTop (mkF m 10 #[.val (.int p0)] [(.int (1 : Int32)), (.int p0)])) _
    refine XS.icmpYes X0.here hx rfl (pc0 := 10) (pc' := 17) rfl (hb hby d4_10) rfl (feq u1).2 (by decide) (by decide) ?_
    show Steps p.tables e below (s₁.setTop (mkF m 17 #[.val (.int p0)] [])) _
    refine XS.iloadN X0.here hx rfl (hb hby d4_17) rfl ?_
    show Steps p.tables e below (s₁.setTop (mkF m 18 #[.val (.int p0)] [(.int p0)])) _
    refine XS.iconst X0.here hx rfl (hb hby d4_18) ?_
    show Steps p.tables e below (s₁.setTop (mkF m 19 #[.val (.int p0)] [(.int (2 : Int32)), (.int p0)])) _
    refine XS.icmpYes X0.here hx rfl (pc0 := 19) (pc' := 26) rfl (hb hby d4_19) rfl (feq u2).2 (by decide) (by decide) ?_
    show Steps p.tables e below (s₁.setTop (mkF m 26 #[.val (.int p0)] [])) _
    refine XS.iloadN X0.here hx rfl (hb hby d4_26) rfl ?_
    show Steps p.tables e below (s₁.setTop (mkF m 27 #[.val (.int p0)] [(.int p0)])) _
    refine XS.iconst X0.here hx rfl (hb hby d4_27) ?_
    show Steps p.tables e below (s₁.setTop (mkF m 28 #[.val (.int p0)] [(.int (3 : Int32)), (.int p0)])) _
    refine XS.icmpNo X0.here hx rfl (hb hby d4_28) rfl (teq hk).2 ?_
    show Steps p.tables e below (s₁.setTop (mkF m 31 #[.val (.int p0)] [])) _
    refine st1 _ ?_
    show Steps p.tables e below (T1.setTop (mkF m 34 #[.val (.int p0)] [(.ref aABORTED)])) _
    jvm_step X1.here [X1.here.top, hx, (hb hby d4_34), X1.method', Bd.returns, Value.isRef, FieldType.isReference]
    first | (intro acts; rw [hr _ acts rfl rfl rfl]) | rw [hr _ _ rfl rfl rfl]
    exact Steps.refl _
  · show Q_rm4_3 n0 Z aSTABLE aPREWRITTEN aCOMMITTED aABORTED aV kV p0 h0 _ T1.heap _
    rw [e1]
    exact ⟨rfl, N0, rfl⟩
theorem d2_37 : decode prog_2_method_5_code 37 = .ok (.aconst_null, 1) := by decide +kernel
theorem d2_38 : decode prog_2_method_5_code 38 = .ok (.areturn, 1) := by decide +kernel
def Q_rm2_4 (n0 : Nat) (Z : State) (aSTABLE : Addr) (aPREWRITTEN : Addr) (aCOMMITTED : Addr) (aABORTED : Addr) (aV : Addr) (kV : ClassId) (p0 : Int32) (h0 : Heap) (v : Option Value) (h : Heap) (L : List Loc) : Prop := v = some .null ∧ Fr n0 L ∧ Keep h0 h []
set_option maxRecDepth 65536 in
set_option maxHeartbeats 40000000 in
theorem rm2_4 (l : Launch) (Z : State) (a0 : Array Value) (hw : ∀ d ∈ tables_1, d.before a0 Z = true) (ws : List Jvm.Cond) (aSTABLE : Addr) (aPREWRITTEN : Addr) (aCOMMITTED : Addr) (aABORTED : Addr) (aV : Addr) (kV : ClassId) (p0 : Int32) (h0 : Heap) (n0 : Nat) (O0 : Old Z n0 h0) (GL : GF Z aSTABLE aPREWRITTEN aCOMMITTED aABORTED aV kV) (hk0 : ¬ (p0 = (0 : Int32))) (hk1 : ¬ (p0 = (1 : Int32))) (hk2 : ¬ (p0 = (2 : Int32))) (hk3 : ¬ (p0 = (3 : Int32))) :
    MetFree l MN_2 (head1 (Jvm.Cond.code MN_2 prog_2_method_5_code 5 (some (.object "com/example/enact/enact/lock/LockState")) :: ws) ({ frames := 2, cells := 1, slots := 4, locals := 25 } : Room)) (fun a U => a = #[(.int p0)] ∧ Z.Warmed39 U.vm ∧ U.heap = h0) (fun _ _ _ _ _ => True) (fun _ U o U' => ∃ v L, o = .returned v ∧ Q_rm2_4 n0 Z aSTABLE aPREWRITTEN aCOMMITTED aABORTED aV kV p0 h0 v U'.heap L ∧ FrameEnd U o U' L ({ frames := 2, cells := 1, slots := 4, locals := 25 } : Room).cells ({ frames := 2, cells := 1, slots := 4, locals := 25 } : Room).slots) := by
  refine MetFree.of_bodySF (plainFor_of_name pn) hisR ?_
  intro p e s m args below meth c s₁ Bd hml0 hP hK
  obtain ⟨rfl, hZ, hh⟩ := hP
  have hx := Bd.exec
  have hby := Bd.bytes
  have hml : c.maxLocals = 5 := hml0
  have hown : s.vm.findClass "com/example/enact/enact/lock/LockState" = some m.cls := findClass_of_methodNamed Bd.named
  have hnm := (name_of_methodNamed Bd.named Bd.method).1
  have X0 : Stand p l e ({ frames := 2, cells := 1, slots := 4, locals := 25 } : Room) s m #[(.int p0)] below meth c s₁ [] 0 0 := Stand.of_body Bd
  have e0 : s₁.heap = h0 := by rw [← hh, Bd.state]; rfl
  have N0 := Fr.nil n0
  have pre0 : ∀ t, Steps p.tables e below (s₁.setTop (mkF m 0 #[.val (.int p0), .unset, .unset, .unset, .unset] [])) t → Steps p.tables e below (s₁.setTop (entryFrame m #[(.int p0)] 5)) t := fun t k => castTop (ef_rm2_0 m p0) k
  have GL' := GL
  obtain ⟨GSSTABLE, GESTABLE, GCSTABLE, GSPREWRITTEN, GEPREWRITTEN, GCPREWRITTEN, GSCOMMITTED, GECOMMITTED, GCCOMMITTED, GSABORTED, GEABORTED, GCABORTED, GSV, GEV, GVV⟩ := GL'
  have w0 : ¬ ((0 : Int32) = p0) := (fun q => hk0 q.symm)
  have w1 : ¬ ((1 : Int32) = p0) := (fun q => hk1 q.symm)
  have w2 : ¬ ((2 : Int32) = p0) := (fun q => hk2 q.symm)
  have w3 : ¬ ((3 : Int32) = p0) := (fun q => hk3 q.symm)
  obtain ⟨_, _, ⟨T1, L1, k1, n1⟩, -, X1, ⟨Lc1, hQ1, l1, y1, z1⟩, st1⟩ := Jvm.LawKit.callS X0 hx (y := MN_0) hown (mvT hZ (Wd hw 8 rfl)) (mvT hZ (Wd hw 9 rfl)) (mvT hZ (Wd hw 6 rfl)) (mvT hZ (Wd hw 10 rfl)) (by decide) (backOf (W := 0) (rm3 l Z a0 hw [] aSTABLE aPREWRITTEN aCOMMITTED aABORTED aV kV  (h0) n0 O0 GL) hZ (Wd hw 10 rfl) (Wd hw 6 rfl) (by decide) (by decide)) (g := (mkF m 0 #[.val (.int p0), .unset, .unset, .unset, .unset] [])) rfl (by rw [hml]; rfl) (argsL := []) (rest := []) (lenOf pd rfl) rfl (by show 2 * 0 + _ ≤ _; exact Nat.le_of_eq rfl) (hb hby d2_0) (fun _ _ => ⟨rfl, e0, (by decide : 0 + 1 ≤ _), (by decide : 0 + 4 ≤ _)⟩)
  dsimp only [Pt.U, Pt.locs, Pt.cells, Pt.slots] at X1 l1 y1 z1 st1 hQ1
  subst l1 y1 z1
  obtain ⟨b_1, rfl, N1q, Kc1, P1_0, P1_1⟩ := hQ1
  have K1 : Keep h0 T1.heap [] := (Keep.refl h0 []).trans Kc1 all0
  have O1 := O0.keep Kc1 all0
  have g_b_1 : n0 ≤ b_1 := Nat.le_trans (own_sz O0) P1_0
  have sz_b_1 : h0.size ≤ b_1 := Nat.le_trans (Keep.refl h0 []).1 P1_0
  have N1 := Fr.app N0 N1q
  obtain ⟨cl2, Ar2, -, S2, N2_, -, -⟩ := id (P1_1)
  obtain ⟨cl3, Ar3, -, S3, N3_, H3, G3⟩ := id (P1_1)
  have hin3 : ¬ ((0 : Int32) < 0 ∨ cl3.slots.size ≤ ((0 : Int32)).toNatClampNeg) := inb_of S3 ⟨(by decide), (by decide)⟩
  have hat3 : cl3.slots[((0 : Int32)).toNatClampNeg]? = some (.ref aSTABLE) := H3.at hin3 rfl
  obtain ⟨T4, X4, e4, st4⟩ := getF X1 hx hZ hown (host := "") (Or.inl (Wd hw 27 rfl)) Via.refl rfl (GCSTABLE.ext O1.2) (g := (mkF m 21 #[.val (.int p0), .val (.ref b_1), .val (.int (4 : Int32)), .val (.int (0 : Int32)), .val (.ref aSTABLE)] [(.ref aSTABLE)])) rfl rfl (hb hby d2_21)
  obtain ⟨cl5, Ar5, -, S5, N5_, H5, G5⟩ := id (P1_1)
  have hin5 : ¬ ((1 : Int32) < 0 ∨ cl5.slots.size ≤ ((1 : Int32)).toNatClampNeg) := inb_of S5 ⟨(by decide), (by decide)⟩
  have hat5 : cl5.slots[((1 : Int32)).toNatClampNeg]? = some (.ref aPREWRITTEN) := H5.at hin5 rfl
  obtain ⟨T6, X6, e6, st6⟩ := getF X4 hx hZ hown (host := "") (Or.inl (Wd hw 27 rfl)) Via.refl e4 (GCPREWRITTEN.ext O1.2) (g := (mkF m 21 #[.val (.int p0), .val (.ref b_1), .val (.int (4 : Int32)), .val (.int (1 : Int32)), .val (.ref aPREWRITTEN)] [(.ref aPREWRITTEN)])) rfl rfl (hb hby d2_21)
  obtain ⟨cl7, Ar7, -, S7, N7_, H7, G7⟩ := id (P1_1)
  have hin7 : ¬ ((2 : Int32) < 0 ∨ cl7.slots.size ≤ ((2 : Int32)).toNatClampNeg) := inb_of S7 ⟨(by decide), (by decide)⟩
  have hat7 : cl7.slots[((2 : Int32)).toNatClampNeg]? = some (.ref aCOMMITTED) := H7.at hin7 rfl
  obtain ⟨T8, X8, e8, st8⟩ := getF X6 hx hZ hown (host := "") (Or.inl (Wd hw 27 rfl)) Via.refl e6 (GCCOMMITTED.ext O1.2) (g := (mkF m 21 #[.val (.int p0), .val (.ref b_1), .val (.int (4 : Int32)), .val (.int (2 : Int32)), .val (.ref aCOMMITTED)] [(.ref aCOMMITTED)])) rfl rfl (hb hby d2_21)
  obtain ⟨cl9, Ar9, -, S9, N9_, H9, G9⟩ := id (P1_1)
  have hin9 : ¬ ((3 : Int32) < 0 ∨ cl9.slots.size ≤ ((3 : Int32)).toNatClampNeg) := inb_of S9 ⟨(by decide), (by decide)⟩
  have hat9 : cl9.slots[((3 : Int32)).toNatClampNeg]? = some (.ref aABORTED) := H9.at hin9 rfl
  obtain ⟨T10, X10, e10, st10⟩ := getF X8 hx hZ hown (host := "") (Or.inl (Wd hw 27 rfl)) Via.refl e8 (GCABORTED.ext O1.2) (g := (mkF m 21 #[.val (.int p0), .val (.ref b_1), .val (.int (4 : Int32)), .val (.int (3 : Int32)), .val (.ref aABORTED)] [(.ref aABORTED)])) rfl rfl (hb hby d2_21)
  obtain ⟨fs, hr, hrun, hended, hW, hsame⟩ := X10.leave (v := some .null) (fun h => by rw [Bd.returns] at h; cases h)
  refine ⟨_, _, pre0 _ ?_, hrun, hended, _, _, rfl, ?_, ⟨_, rfl⟩, hW, hsame.mono (by decide) (by decide)⟩
  · show Steps p.tables e below (s₁.setTop (mkF m 0 #[.val (.int p0), .unset, .unset, .unset, .unset] [])) _
    refine st1 _ ?_
    show Steps p.tables e below (T1.setTop (mkF m 3 #[.val (.int p0), .unset, .unset, .unset, .unset] [(.ref b_1)])) _
    refine XS.astoreN X1.here hx rfl (hb hby d2_3) rfl rfl (l' := #[.val (.int p0), .val (.ref b_1), .unset, .unset, .unset]) rfl ?_
    show Steps p.tables e below (T1.setTop (mkF m 4 #[.val (.int p0), .val (.ref b_1), .unset, .unset, .unset] [])) _
    refine XS.aloadN X1.here hx rfl (hb hby d2_4) rfl rfl ?_
    show Steps p.tables e below (T1.setTop (mkF m 5 #[.val (.int p0), .val (.ref b_1), .unset, .unset, .unset] [(.ref b_1)])) _
    refine X1.arraylength hx Ar2.1 (State.isArrayOf_alike hZ.alike Ar2.2.1) (g := (mkF m 5 #[.val (.int p0), .val (.ref b_1), .unset, .unset, .unset] [(.ref b_1)])) rfl rfl (hb hby d2_5) _ ?_
    rw [len_of S2 N2_]
    show Steps p.tables e below (T1.setTop (mkF m 6 #[.val (.int p0), .val (.ref b_1), .unset, .unset, .unset] [(.int (4 : Int32))])) _
    refine XS.istoreN X1.here hx rfl (hb hby d2_6) rfl (l' := #[.val (.int p0), .val (.ref b_1), .val (.int (4 : Int32)), .unset, .unset]) rfl ?_
    show Steps p.tables e below (T1.setTop (mkF m 7 #[.val (.int p0), .val (.ref b_1), .val (.int (4 : Int32)), .unset, .unset] [])) _
    refine XS.iconst X1.here hx rfl (hb hby d2_7) ?_
    show Steps p.tables e below (T1.setTop (mkF m 8 #[.val (.int p0), .val (.ref b_1), .val (.int (4 : Int32)), .unset, .unset] [(.int (0 : Int32))])) _
    refine XS.istoreN X1.here hx rfl (hb hby d2_8) rfl (l' := #[.val (.int p0), .val (.ref b_1), .val (.int (4 : Int32)), .val (.int (0 : Int32)), .unset]) rfl ?_
    show Steps p.tables e below (T1.setTop (mkF m 9 #[.val (.int p0), .val (.ref b_1), .val (.int (4 : Int32)), .val (.int (0 : Int32)), .unset] [])) _
    refine XS.iloadN X1.here hx rfl (hb hby d2_9) rfl ?_
    show Steps p.tables e below (T1.setTop (mkF m 10 #[.val (.int p0), .val (.ref b_1), .val (.int (4 : Int32)), .val (.int (0 : Int32)), .unset] [(.int (0 : Int32))])) _
    refine XS.iloadN X1.here hx rfl (hb hby d2_10) rfl ?_
    show Steps p.tables e below (T1.setTop (mkF m 11 #[.val (.int p0), .val (.ref b_1), .val (.int (4 : Int32)), .val (.int (0 : Int32)), .unset] [(.int (4 : Int32)), (.int (0 : Int32))])) _
    refine XS.icmpNo X1.here hx rfl (hb hby d2_11) rfl (tlt (by decide : (0 : Int32) < (4 : Int32))).2.1 ?_
    show Steps p.tables e below (T1.setTop (mkF m 14 #[.val (.int p0), .val (.ref b_1), .val (.int (4 : Int32)), .val (.int (0 : Int32)), .unset] [])) _
    refine XS.aloadN X1.here hx rfl (hb hby d2_14) rfl rfl ?_
    show Steps p.tables e below (T1.setTop (mkF m 15 #[.val (.int p0), .val (.ref b_1), .val (.int (4 : Int32)), .val (.int (0 : Int32)), .unset] [(.ref b_1)])) _
    refine XS.iloadN X1.here hx rfl (hb hby d2_15) rfl ?_
    show Steps p.tables e below (T1.setTop (mkF m 16 #[.val (.int p0), .val (.ref b_1), .val (.int (4 : Int32)), .val (.int (0 : Int32)), .unset] [(.int (0 : Int32)), (.ref b_1)])) _
    refine X1.aaload hx (j := (0 : Int32)) (v := (.ref aSTABLE)) Ar3.1 (State.isArrayOf_alike hZ.alike Ar3.2.1) rfl Ar3.2.2 hin3 hat3 (g := (mkF m 16 #[.val (.int p0), .val (.ref b_1), .val (.int (4 : Int32)), .val (.int (0 : Int32)), .unset] [(.int (0 : Int32)), (.ref b_1)])) rfl rfl (hb hby d2_16) _ ?_
    show Steps p.tables e below (T1.setTop (mkF m 17 #[.val (.int p0), .val (.ref b_1), .val (.int (4 : Int32)), .val (.int (0 : Int32)), .unset] [(.ref aSTABLE)])) _
    refine XS.astore X1.here hx rfl (hb hby d2_17) rfl rfl (l' := #[.val (.int p0), .val (.ref b_1), .val (.int (4 : Int32)), .val (.int (0 : Int32)), .val (.ref aSTABLE)]) rfl ?_
    show Steps p.tables e below (T1.setTop (mkF m 19 #[.val (.int p0), .val (.ref b_1), .val (.int (4 : Int32)), .val (.int (0 : Int32)), .val (.ref aSTABLE)] [])) _
    refine XS.aload X1.here hx rfl (hb hby d2_19) rfl rfl ?_
    show Steps p.tables e below (T1.setTop (mkF m 21 #[.val (.int p0), .val (.ref b_1), .val (.int (4 : Int32)), .val (.int (0 : Int32)), .val (.ref aSTABLE)] [(.ref aSTABLE)])) _
    refine st4 _ ?_
    show Steps p.tables e below (T4.setTop (mkF m 24 #[.val (.int p0), .val (.ref b_1), .val (.int (4 : Int32)), .val (.int (0 : Int32)), .val (.ref aSTABLE)] [(.int (0 : Int32))])) _
    refine XS.iloadN X4.here hx rfl (hb hby d2_24) rfl ?_
    show Steps p.tables e below (T4.setTop (mkF m 25 #[.val (.int p0), .val (.ref b_1), .val (.int (4 : Int32)), .val (.int (0 : Int32)), .val (.ref aSTABLE)] [(.int p0), (.int (0 : Int32))])) _
    refine XS.icmpYes X4.here hx rfl (pc0 := 25) (pc' := 31) rfl (hb hby d2_25) rfl (feq w0).2 (by decide) (by decide) ?_
    show Steps p.tables e below (T4.setTop (mkF m 31 #[.val (.int p0), .val (.ref b_1), .val (.int (4 : Int32)), .val (.int (0 : Int32)), .val (.ref aSTABLE)] [])) _
    refine XS.iinc X4.here hx rfl (hb hby d2_31) rfl (l' := #[.val (.int p0), .val (.ref b_1), .val (.int (4 : Int32)), .val (.int (1 : Int32)), .val (.ref aSTABLE)]) rfl ?_
    show Steps p.tables e below (T4.setTop (mkF m 34 #[.val (.int p0), .val (.ref b_1), .val (.int (4 : Int32)), .val (.int (1 : Int32)), .val (.ref aSTABLE)] [])) _
    refine XS.goto X4.here hx rfl (pc0 := 34) (pc' := 9) rfl (hb hby d2_34) (by decide) (by decide) ?_
    show Steps p.tables e below (T4.setTop (mkF m 9 #[.val (.int p0), .val (.ref b_1), .val (.int (4 : Int32)), .val (.int (1 : Int32)), .val (.ref aSTABLE)] [])) _
    refine XS.iloadN X4.here hx rfl (hb hby d2_9) rfl ?_
    show Steps p.tables e below (T4.setTop (mkF m 10 #[.val (.int p0), .val (.ref b_1), .val (.int (4 : Int32)), .val (.int (1 : Int32)), .val (.ref aSTABLE)] [(.int (1 : Int32))])) _
    refine XS.iloadN X4.here hx rfl (hb hby d2_10) rfl ?_
    show Steps p.tables e below (T4.setTop (mkF m 11 #[.val (.int p0), .val (.ref b_1), .val (.int (4 : Int32)), .val (.int (1 : Int32)), .val (.ref aSTABLE)] [(.int (4 : Int32)), (.int (1 : Int32))])) _
    refine XS.icmpNo X4.here hx rfl (hb hby d2_11) rfl (tlt (by decide : (1 : Int32) < (4 : Int32))).2.1 ?_
    show Steps p.tables e below (T4.setTop (mkF m 14 #[.val (.int p0), .val (.ref b_1), .val (.int (4 : Int32)), .val (.int (1 : Int32)), .val (.ref aSTABLE)] [])) _
    refine XS.aloadN X4.here hx rfl (hb hby d2_14) rfl rfl ?_
    show Steps p.tables e below (T4.setTop (mkF m 15 #[.val (.int p0), .val (.ref b_1), .val (.int (4 : Int32)), .val (.int (1 : Int32)), .val (.ref aSTABLE)] [(.ref b_1)])) _
    refine XS.iloadN X4.here hx rfl (hb hby d2_15) rfl ?_
    show Steps p.tables e below (T4.setTop (mkF m 16 #[.val (.int p0), .val (.ref b_1), .val (.int (4 : Int32)), .val (.int (1 : Int32)), .val (.ref aSTABLE)] [(.int (1 : Int32)), (.ref b_1)])) _
    refine X4.aaload hx (j := (1 : Int32)) (v := (.ref aPREWRITTEN)) (by rw [e4]; exact Ar5.1) (State.isArrayOf_alike hZ.alike Ar5.2.1) rfl Ar5.2.2 hin5 hat5 (g := (mkF m 16 #[.val (.int p0), .val (.ref b_1), .val (.int (4 : Int32)), .val (.int (1 : Int32)), .val (.ref aSTABLE)] [(.int (1 : Int32)), (.ref b_1)])) rfl rfl (hb hby d2_16) _ ?_
    show Steps p.tables e below (T4.setTop (mkF m 17 #[.val (.int p0), .val (.ref b_1), .val (.int (4 : Int32)), .val (.int (1 : Int32)), .val (.ref aSTABLE)] [(.ref aPREWRITTEN)])) _
    refine XS.astore X4.here hx rfl (hb hby d2_17) rfl rfl (l' := #[.val (.int p0), .val (.ref b_1), .val (.int (4 : Int32)), .val (.int (1 : Int32)), .val (.ref aPREWRITTEN)]) rfl ?_
    show Steps p.tables e below (T4.setTop (mkF m 19 #[.val (.int p0), .val (.ref b_1), .val (.int (4 : Int32)), .val (.int (1 : Int32)), .val (.ref aPREWRITTEN)] [])) _
    refine XS.aload X4.here hx rfl (hb hby d2_19) rfl rfl ?_
    show Steps p.tables e below (T4.setTop (mkF m 21 #[.val (.int p0), .val (.ref b_1), .val (.int (4 : Int32)), .val (.int (1 : Int32)), .val (.ref aPREWRITTEN)] [(.ref aPREWRITTEN)])) _
    refine st6 _ ?_
    show Steps p.tables e below (T6.setTop (mkF m 24 #[.val (.int p0), .val (.ref b_1), .val (.int (4 : Int32)), .val (.int (1 : Int32)), .val (.ref aPREWRITTEN)] [(.int (1 : Int32))])) _
    refine XS.iloadN X6.here hx rfl (hb hby d2_24) rfl ?_
    show Steps p.tables e below (T6.setTop (mkF m 25 #[.val (.int p0), .val (.ref b_1), .val (.int (4 : Int32)), .val (.int (1 : Int32)), .val (.ref aPREWRITTEN)] [(.int p0), (.int (1 : Int32))])) _
    refine XS.icmpYes X6.here hx rfl (pc0 := 25) (pc' := 31) rfl (hb hby d2_25) rfl (feq w1).2 (by decide) (by decide) ?_
    show Steps p.tables e below (T6.setTop (mkF m 31 #[.val (.int p0), .val (.ref b_1), .val (.int (4 : Int32)), .val (.int (1 : Int32)), .val (.ref aPREWRITTEN)] [])) _
    refine XS.iinc X6.here hx rfl (hb hby d2_31) rfl (l' := #[.val (.int p0), .val (.ref b_1), .val (.int (4 : Int32)), .val (.int (2 : Int32)), .val (.ref aPREWRITTEN)]) rfl ?_
    show Steps p.tables e below (T6.setTop (mkF m 34 #[.val (.int p0), .val (.ref b_1), .val (.int (4 : Int32)), .val (.int (2 : Int32)), .val (.ref aPREWRITTEN)] [])) _
    refine XS.goto X6.here hx rfl (pc0 := 34) (pc' := 9) rfl (hb hby d2_34) (by decide) (by decide) ?_
    show Steps p.tables e below (T6.setTop (mkF m 9 #[.val (.int p0), .val (.ref b_1), .val (.int (4 : Int32)), .val (.int (2 : Int32)), .val (.ref aPREWRITTEN)] [])) _
    refine XS.iloadN X6.here hx rfl (hb hby d2_9) rfl ?_
    show Steps p.tables e below (T6.setTop (mkF m 10 #[.val (.int p0), .val (.ref b_1), .val (.int (4 : Int32)), .val (.int (2 : Int32)), .val (.ref aPREWRITTEN)] [(.int (2 : Int32))])) _
    refine XS.iloadN X6.here hx rfl (hb hby d2_10) rfl ?_
    show Steps p.tables e below (T6.setTop (mkF m 11 #[.val (.int p0), .val (.ref b_1), .val (.int (4 : Int32)), .val (.int (2 : Int32)), .val (.ref aPREWRITTEN)] [(.int (4 : Int32)), (.int (2 : Int32))])) _
    refine XS.icmpNo X6.here hx rfl (hb hby d2_11) rfl (tlt (by decide : (2 : Int32) < (4 : Int32))).2.1 ?_
    show Steps p.tables e below (T6.setTop (mkF m 14 #[.val (.int p0), .val (.ref b_1), .val (.int (4 : Int32)), .val (.int (2 : Int32)), .val (.ref aPREWRITTEN)] [])) _
    refine XS.aloadN X6.here hx rfl (hb hby d2_14) rfl rfl ?_
    show Steps p.tables e below (T6.setTop (mkF m 15 #[.val (.int p0), .val (.ref b_1), .val (.int (4 : Int32)), .val (.int (2 : Int32)), .val (.ref aPREWRITTEN)] [(.ref b_1)])) _
    refine XS.iloadN X6.here hx rfl (hb hby d2_15) rfl ?_
    show Steps p.tables e below (T6.setTop (mkF m 16 #[.val (.int p0), .val (.ref b_1), .val (.int (4 : Int32)), .val (.int (2 : Int32)), .val (.ref aPREWRITTEN)] [(.int (2 : Int32)), (.ref b_1)])) _
    refine X6.aaload hx (j := (2 : Int32)) (v := (.ref aCOMMITTED)) (by rw [e6]; exact Ar7.1) (State.isArrayOf_alike hZ.alike Ar7.2.1) rfl Ar7.2.2 hin7 hat7 (g := (mkF m 16 #[.val (.int p0), .val (.ref b_1), .val (.int (4 : Int32)), .val (.int (2 : Int32)), .val (.ref aPREWRITTEN)] [(.int (2 : Int32)), (.ref b_1)])) rfl rfl (hb hby d2_16) _ ?_
    show Steps p.tables e below (T6.setTop (mkF m 17 #[.val (.int p0), .val (.ref b_1), .val (.int (4 : Int32)), .val (.int (2 : Int32)), .val (.ref aPREWRITTEN)] [(.ref aCOMMITTED)])) _
    refine XS.astore X6.here hx rfl (hb hby d2_17) rfl rfl (l' := #[.val (.int p0), .val (.ref b_1), .val (.int (4 : Int32)), .val (.int (2 : Int32)), .val (.ref aCOMMITTED)]) rfl ?_
    show Steps p.tables e below (T6.setTop (mkF m 19 #[.val (.int p0), .val (.ref b_1), .val (.int (4 : Int32)), .val (.int (2 : Int32)), .val (.ref aCOMMITTED)] [])) _
    refine XS.aload X6.here hx rfl (hb hby d2_19) rfl rfl ?_
    show Steps p.tables e below (T6.setTop (mkF m 21 #[.val (.int p0), .val (.ref b_1), .val (.int (4 : Int32)), .val (.int (2 : Int32)), .val (.ref aCOMMITTED)] [(.ref aCOMMITTED)])) _
    refine st8 _ ?_
    show Steps p.tables e below (T8.setTop (mkF m 24 #[.val (.int p0), .val (.ref b_1), .val (.int (4 : Int32)), .val (.int (2 : Int32)), .val (.ref aCOMMITTED)] [(.int (2 : Int32))])) _
    refine XS.iloadN X8.here hx rfl (hb hby d2_24) rfl ?_
    show Steps p.tables e below (T8.setTop (mkF m 25 #[.val (.int p0), .val (.ref b_1), .val (.int (4 : Int32)), .val (.int (2 : Int32)), .val (.ref aCOMMITTED)] [(.int p0), (.int (2 : Int32))])) _
    refine XS.icmpYes X8.here hx rfl (pc0 := 25) (pc' := 31) rfl (hb hby d2_25) rfl (feq w2).2 (by decide) (by decide) ?_
    show Steps p.tables e below (T8.setTop (mkF m 31 #[.val (.int p0), .val (.ref b_1), .val (.int (4 : Int32)), .val (.int (2 : Int32)), .val (.ref aCOMMITTED)] [])) _
    refine XS.iinc X8.here hx rfl (hb hby d2_31) rfl (l' := #[.val (.int p0), .val (.ref b_1), .val (.int (4 : Int32)), .val (.int (3 : Int32)), .val (.ref aCOMMITTED)]) rfl ?_
    show Steps p.tables e below (T8.setTop (mkF m 34 #[.val (.int p0), .val (.ref b_1), .val (.int (4 : Int32)), .val (.int (3 : Int32)), .val (.ref aCOMMITTED)] [])) _
    refine XS.goto X8.here hx rfl (pc0 := 34) (pc' := 9) rfl (hb hby d2_34) (by decide) (by decide) ?_
    show Steps p.tables e below (T8.setTop (mkF m 9 #[.val (.int p0), .val (.ref b_1), .val (.int (4 : Int32)), .val (.int (3 : Int32)), .val (.ref aCOMMITTED)] [])) _
    refine XS.iloadN X8.here hx rfl (hb hby d2_9) rfl ?_
    show Steps p.tables e below (T8.setTop (mkF m 10 #[.val (.int p0), .val (.ref b_1), .val (.int (4 : Int32)), .val (.int (3 : Int32)), .val (.ref aCOMMITTED)] [(.int (3 : Int32))])) _
    refine XS.iloadN X8.here hx rfl (hb hby d2_10) rfl ?_
    show Steps p.tables e below (T8.setTop (mkF m 11 #[.val (.int p0), .val (.ref b_1), .val (.int (4 : Int32)), .val (.int (3 : Int32)), .val (.ref aCOMMITTED)] [(.int (4 : Int32)), (.int (3 : Int32))])) _
    refine XS.icmpNo X8.here hx rfl (hb hby d2_11) rfl (tlt (by decide : (3 : Int32) < (4 : Int32))).2.1 ?_
    show Steps p.tables e below (T8.setTop (mkF m 14 #[.val (.int p0), .val (.ref b_1), .val (.int (4 : Int32)), .val (.int (3 : Int32)), .val (.ref aCOMMITTED)] [])) _
    refine XS.aloadN X8.here hx rfl (hb hby d2_14) rfl rfl ?_
    show Steps p.tables e below (T8.setTop (mkF m 15 #[.val (.int p0), .val (.ref b_1), .val (.int (4 : Int32)), .val (.int (3 : Int32)), .val (.ref aCOMMITTED)] [(.ref b_1)])) _
    refine XS.iloadN X8.here hx rfl (hb hby d2_15) rfl ?_
    show Steps p.tables e below (T8.setTop (mkF m 16 #[.val (.int p0), .val (.ref b_1), .val (.int (4 : Int32)), .val (.int (3 : Int32)), .val (.ref aCOMMITTED)] [(.int (3 : Int32)), (.ref b_1)])) _
    refine X8.aaload hx (j := (3 : Int32)) (v := (.ref aABORTED)) (by rw [e8]; exact Ar9.1) (State.isArrayOf_alike hZ.alike Ar9.2.1) rfl Ar9.2.2 hin9 hat9 (g := (mkF m 16 #[.val (.int p0), .val (.ref b_1), .val (.int (4 : Int32)), .val (.int (3 : Int32)), .val (.ref aCOMMITTED)] [(.int (3 : Int32)), (.ref b_1)])) rfl rfl (hb hby d2_16) _ ?_
    show Steps p.tables e below (T8.setTop (mkF m 17 #[.val (.int p0), .val (.ref b_1), .val (.int (4 : Int32)), .val (.int (3 : Int32)), .val (.ref aCOMMITTED)] [(.ref aABORTED)])) _
    refine XS.astore X8.here hx rfl (hb hby d2_17) rfl rfl (l' := #[.val (.int p0), .val (.ref b_1), .val (.int (4 : Int32)), .val (.int (3 : Int32)), .val (.ref aABORTED)]) rfl ?_
    show Steps p.tables e below (T8.setTop (mkF m 19 #[.val (.int p0), .val (.ref b_1), .val (.int (4 : Int32)), .val (.int (3 : Int32)), .val (.ref aABORTED)] [])) _
    refine XS.aload X8.here hx rfl (hb hby d2_19) rfl rfl ?_
    show Steps p.tables e below (T8.setTop (mkF m 21 #[.val (.int p0), .val (.ref b_1), .val (.int (4 : Int32)), .val (.int (3 : Int32)), .val (.ref aABORTED)] [(.ref aABORTED)])) _
    refine st10 _ ?_
    show Steps p.tables e below (T10.setTop (mkF m 24 #[.val (.int p0), .val (.ref b_1), .val (.int (4 : Int32)), .val (.int (3 : Int32)), .val (.ref aABORTED)] [(.int (3 : Int32))])) _
    refine XS.iloadN X10.here hx rfl (hb hby d2_24) rfl ?_
    show Steps p.tables e below (T10.setTop (mkF m 25 #[.val (.int p0), .val (.ref b_1), .val (.int (4 : Int32)), .val (.int (3 : Int32)), .val (.ref aABORTED)] [(.int p0), (.int (3 : Int32))])) _
    refine XS.icmpYes X10.here hx rfl (pc0 := 25) (pc' := 31) rfl (hb hby d2_25) rfl (feq w3).2 (by decide) (by decide) ?_
    show Steps p.tables e below (T10.setTop (mkF m 31 #[.val (.int p0), .val (.ref b_1), .val (.int (4 : Int32)), .val (.int (3 : Int32)), .val (.ref aABORTED)] [])) _
    refine XS.iinc X10.here hx rfl (hb hby d2_31) rfl (l' := #[.val (.int p0), .val (.ref b_1), .val (.int (4 : Int32)), .val (.int (4 : Int32)), .val (.ref aABORTED)]) rfl ?_
    show Steps p.tables e below (T10.setTop (mkF m 34 #[.val (.int p0), .val (.ref b_1), .val (.int (4 : Int32)), .val (.int (4 : Int32)), .val (.ref aABORTED)] [])) _
    refine XS.goto X10.here hx rfl (pc0 := 34) (pc' := 9) rfl (hb hby d2_34) (by decide) (by decide) ?_
    show Steps p.tables e below (T10.setTop (mkF m 9 #[.val (.int p0), .val (.ref b_1), .val (.int (4 : Int32)), .val (.int (4 : Int32)), .val (.ref aABORTED)] [])) _
    refine XS.iloadN X10.here hx rfl (hb hby d2_9) rfl ?_
    show Steps p.tables e below (T10.setTop (mkF m 10 #[.val (.int p0), .val (.ref b_1), .val (.int (4 : Int32)), .val (.int (4 : Int32)), .val (.ref aABORTED)] [(.int (4 : Int32))])) _
    refine XS.iloadN X10.here hx rfl (hb hby d2_10) rfl ?_
    show Steps p.tables e below (T10.setTop (mkF m 11 #[.val (.int p0), .val (.ref b_1), .val (.int (4 : Int32)), .val (.int (4 : Int32)), .val (.ref aABORTED)] [(.int (4 : Int32)), (.int (4 : Int32))])) _
    refine XS.icmpYes X10.here hx rfl (pc0 := 11) (pc' := 37) rfl (hb hby d2_11) rfl (flt (by decide : ¬ ((4 : Int32) < (4 : Int32)))).2.1 (by decide) (by decide) ?_
    show Steps p.tables e below (T10.setTop (mkF m 37 #[.val (.int p0), .val (.ref b_1), .val (.int (4 : Int32)), .val (.int (4 : Int32)), .val (.ref aABORTED)] [])) _
    refine XS.aconstNull X10.here hx rfl (hb hby d2_37) ?_
    show Steps p.tables e below (T10.setTop (mkF m 38 #[.val (.int p0), .val (.ref b_1), .val (.int (4 : Int32)), .val (.int (4 : Int32)), .val (.ref aABORTED)] [.null])) _
    jvm_step X10.here [X10.here.top, hx, (hb hby d2_38), X10.method', Bd.returns, Value.isRef, FieldType.isReference]
    first | (intro acts; rw [hr _ acts rfl rfl rfl]) | rw [hr _ _ rfl rfl rfl]
    exact Steps.refl _
  · show Q_rm2_4 n0 Z aSTABLE aPREWRITTEN aCOMMITTED aABORTED aV kV p0 h0 _ T10.heap _
    rw [e10]
    exact ⟨rfl, N1, K1⟩
theorem d4_35 : decode method_2_code 35 = .ok (.aconst_null, 1) := by decide +kernel
theorem d4_36 : decode method_2_code 36 = .ok (.areturn, 1) := by decide +kernel
def Q_rm4_4 (n0 : Nat) (Z : State) (aSTABLE : Addr) (aPREWRITTEN : Addr) (aCOMMITTED : Addr) (aABORTED : Addr) (aV : Addr) (kV : ClassId) (p0 : Int32) (h0 : Heap) (v : Option Value) (h : Heap) (L : List Loc) : Prop := v = some .null ∧ Fr n0 L ∧ h = h0
set_option maxRecDepth 65536 in
set_option maxHeartbeats 40000000 in
theorem rm4_4 (l : Launch) (Z : State) (a0 : Array Value) (hw : ∀ d ∈ tables_1, d.before a0 Z = true) (ws : List Jvm.Cond) (aSTABLE : Addr) (aPREWRITTEN : Addr) (aCOMMITTED : Addr) (aABORTED : Addr) (aV : Addr) (kV : ClassId) (p0 : Int32) (h0 : Heap) (n0 : Nat) (O0 : Old Z n0 h0) (GL : GF Z aSTABLE aPREWRITTEN aCOMMITTED aABORTED aV kV) (hk0 : ¬ (p0 = (0 : Int32))) (hk1 : ¬ (p0 = (1 : Int32))) (hk2 : ¬ (p0 = (2 : Int32))) (hk3 : ¬ (p0 = (3 : Int32))) :
    MetFree l MN_3 (head1 (Jvm.Cond.code MN_3 method_2_code 1 (some (.object "com/example/enact/enact/lock/LockState")) :: ws) ({ frames := 0, cells := 0, slots := 0, locals := 0 } : Room)) (fun a U => a = #[(.int p0)] ∧ Z.Warmed39 U.vm ∧ U.heap = h0) (fun _ _ _ _ _ => True) (fun _ U o U' => ∃ v L, o = .returned v ∧ Q_rm4_4 n0 Z aSTABLE aPREWRITTEN aCOMMITTED aABORTED aV kV p0 h0 v U'.heap L ∧ FrameEnd U o U' L ({ frames := 0, cells := 0, slots := 0, locals := 0 } : Room).cells ({ frames := 0, cells := 0, slots := 0, locals := 0 } : Room).slots) := by
  refine MetFree.of_bodySF (plainFor_of_name pnv1) hisR ?_
  intro p e s m args below meth c s₁ Bd hml0 hP hK
  obtain ⟨rfl, hZ, hh⟩ := hP
  have hx := Bd.exec
  have hby := Bd.bytes
  have hml : c.maxLocals = 1 := hml0
  have hown : s.vm.findClass "com/example/enact/enact/lock/LockStateFromCodePinLaw" = some m.cls := findClass_of_methodNamed Bd.named
  have hnm := (name_of_methodNamed Bd.named Bd.method).1
  have X0 : Stand p l e ({ frames := 0, cells := 0, slots := 0, locals := 0 } : Room) s m #[(.int p0)] below meth c s₁ [] 0 0 := Stand.of_body Bd
  have e0 : s₁.heap = h0 := by rw [← hh, Bd.state]; rfl
  have N0 := Fr.nil n0
  have pre0 : ∀ t, Steps p.tables e below (s₁.setTop (mkF m 0 #[.val (.int p0)] [])) t → Steps p.tables e below (s₁.setTop (entryFrame m #[(.int p0)] 1)) t := fun t k => castTop (ef_rm4_0 m p0) k
  have GL' := GL
  obtain ⟨GSSTABLE, GESTABLE, GCSTABLE, GSPREWRITTEN, GEPREWRITTEN, GCPREWRITTEN, GSCOMMITTED, GECOMMITTED, GCCOMMITTED, GSABORTED, GEABORTED, GCABORTED, GSV, GEV, GVV⟩ := GL'
  have w0 : ¬ ((0 : Int32) = p0) := (fun q => hk0 q.symm)
  have w1 : ¬ ((1 : Int32) = p0) := (fun q => hk1 q.symm)
  have w2 : ¬ ((2 : Int32) = p0) := (fun q => hk2 q.symm)
  have w3 : ¬ ((3 : Int32) = p0) := (fun q => hk3 q.symm)
  obtain ⟨fs, hr, hrun, hended, hW, hsame⟩ := X0.leave (v := some .null) (fun h => by rw [Bd.returns] at h; cases h)
  refine ⟨_, _, pre0 _ ?_, hrun, hended, _, _, rfl, ?_, ⟨_, rfl⟩, hW, hsame.mono (by decide) (by decide)⟩
  · show Steps p.tables e below (s₁.setTop (mkF m 0 #[.val (.int p0)] [])) _
    refine XS.iloadN X0.here hx rfl (hb hby d4_0) rfl ?_
    show Steps p.tables e below (s₁.setTop (mkF m 1 #[.val (.int p0)] [(.int p0)])) _
    refine XS.ifYes X0.here hx rfl (pc0 := 1) (pc' := 8) rfl (hb hby d4_1) rfl ((if0 _ _).trans (feq hk0).2) (by decide) (by decide) ?_
    show Steps p.tables e below (s₁.setTop (mkF m 8 #[.val (.int p0)] [])) _
    refine XS.iloadN X0.here hx rfl (hb hby d4_8) rfl ?_
    show Steps p.tables e below (s₁.setTop (mkF m 9 #[.val (.int p0)] [(.int p0)])) _
    refine XS.iconst X0.here hx rfl (hb hby d4_9) ?_
    show Steps p.tables e below (s₁.setTop (mkF m 10 #[.val (.int p0)] [(.int (1 : Int32)), (.int p0)])) _
    refine XS.icmpYes X0.here hx rfl (pc0 := 10) (pc' := 17) rfl (hb hby d4_10) rfl (feq hk1).2 (by decide) (by decide) ?_
    show Steps p.tables e below (s₁.setTop (mkF m 17 #[.val (.int p0)] [])) _
    refine XS.iloadN X0.here hx rfl (hb hby d4_17) rfl ?_
    show Steps p.tables e below (s₁.setTop (mkF m 18 #[.val (.int p0)] [(.int p0)])) _
    refine XS.iconst X0.here hx rfl (hb hby d4_18) ?_
    show Steps p.tables e below (s₁.setTop (mkF m 19 #[.val (.int p0)] [(.int (2 : Int32)), (.int p0)])) _
    refine XS.icmpYes X0.here hx rfl (pc0 := 19) (pc' := 26) rfl (hb hby d4_19) rfl (feq hk2).2 (by decide) (by decide) ?_
    show Steps p.tables e below (s₁.setTop (mkF m 26 #[.val (.int p0)] [])) _
    refine XS.iloadN X0.here hx rfl (hb hby d4_26) rfl ?_
    show Steps p.tables e below (s₁.setTop (mkF m 27 #[.val (.int p0)] [(.int p0)])) _
    refine XS.iconst X0.here hx rfl (hb hby d4_27) ?_
    show Steps p.tables e below (s₁.setTop (mkF m 28 #[.val (.int p0)] [(.int (3 : Int32)), (.int p0)])) _
    refine XS.icmpYes X0.here hx rfl (pc0 := 28) (pc' := 35) rfl (hb hby d4_28) rfl (feq hk3).2 (by decide) (by decide) ?_
    show Steps p.tables e below (s₁.setTop (mkF m 35 #[.val (.int p0)] [])) _
    refine XS.aconstNull X0.here hx rfl (hb hby d4_35) ?_
    show Steps p.tables e below (s₁.setTop (mkF m 36 #[.val (.int p0)] [.null])) _
    jvm_step X0.here [X0.here.top, hx, (hb hby d4_36), X0.method', Bd.returns, Value.isRef, FieldType.isReference]
    first | (intro acts; rw [hr _ acts rfl rfl rfl]) | rw [hr _ _ rfl rfl rfl]
    exact Steps.refl _
  · show Q_rm4_4 n0 Z aSTABLE aPREWRITTEN aCOMMITTED aABORTED aV kV p0 h0 _ s₁.heap _
    rw [e0]
    exact ⟨rfl, N0, rfl⟩
theorem d1_0 : decode method_3_code 0 = .ok (.iload_n 0, 1) := by decide +kernel
theorem d1_1 : decode method_3_code 1 = .ok (.invokestatic 22, 3) := by decide +kernel
theorem pdv1 : parseMethodDescriptor "(I)Lcom/example/enact/enact/lock/LockState;" = some ⟨[.int], some (.object "com/example/enact/enact/lock/LockState")⟩ := by decide +kernel
theorem d1_4 : decode method_3_code 4 = .ok (.astore_n 1, 1) := by decide +kernel
theorem d1_5 : decode method_3_code 5 = .ok (.aload_n 1, 1) := by decide +kernel
theorem d1_6 : decode method_3_code 6 = .ok (.iload_n 0, 1) := by decide +kernel
theorem d1_7 : decode method_3_code 7 = .ok (.invokestatic 26, 3) := by decide +kernel
theorem d1_10 : decode method_3_code 10 = .ok (.if_acmp .eq 5, 3) := by decide +kernel
theorem d1_15 : decode method_3_code 15 = .ok (.aload_n 1, 1) := by decide +kernel
theorem d1_16 : decode method_3_code 16 = .ok (.ifnull 13, 3) := by decide +kernel
theorem d1_19 : decode method_3_code 19 = .ok (.aload_n 1, 1) := by decide +kernel
theorem d1_20 : decode method_3_code 20 = .ok (.invokevirtual 31, 3) := by decide +kernel
theorem pdv2 : parseMethodDescriptor "()I" = some ⟨[], some .int⟩ := by decide +kernel
theorem d1_23 : decode method_3_code 23 = .ok (.iload_n 0, 1) := by decide +kernel
theorem d1_24 : decode method_3_code 24 = .ok (.if_icmp .eq 5, 3) := by decide +kernel
theorem d1_29 : decode method_3_code 29 = .ok (.iconst 1, 1) := by decide +kernel
theorem d1_30 : decode method_3_code 30 = .ok (.ireturn, 1) := by decide +kernel
abbrev MN_4 : MethodName := ⟨"com/example/enact/enact/lock/LockStateFromCodePinLaw", "check", "(I)Z"⟩
theorem ef_rm1 (m : MethodId) (p0 : Int32) : entryFrame m #[(.int p0)] 2 = mkF m 0 #[.val (.int p0), .unset] [] := by first | (simp [entryFrame, mkF, argsToLocals, Value.category]; done) | rfl
def Q_rm1 (n0 : Nat) (Z : State) (aSTABLE : Addr) (aPREWRITTEN : Addr) (aCOMMITTED : Addr) (aABORTED : Addr) (aV : Addr) (kV : ClassId) (p0 : Int32) (h0 : Heap) (v : Option Value) (h : Heap) (L : List Loc) : Prop := v = some (.int (1 : Int32)) ∧ Fr n0 L ∧ Keep h0 h []
set_option maxRecDepth 65536 in
set_option maxHeartbeats 40000000 in
theorem rm1 (l : Launch) (Z : State) (a0 : Array Value) (hw : ∀ d ∈ tables_1, d.before a0 Z = true) (ws : List Jvm.Cond) (aSTABLE : Addr) (aPREWRITTEN : Addr) (aCOMMITTED : Addr) (aABORTED : Addr) (aV : Addr) (kV : ClassId) (p0 : Int32) (h0 : Heap) (n0 : Nat) (O0 : Old Z n0 h0) (GL : GF Z aSTABLE aPREWRITTEN aCOMMITTED aABORTED aV kV) :
    MetFree l MN_4 (head1 (Jvm.Cond.code MN_4 method_3_code 2 (some .boolean) :: ws) ({ frames := 3, cells := 1, slots := 4, locals := 41 } : Room)) (fun a U => a = #[(.int p0)] ∧ Z.Warmed39 U.vm ∧ U.heap = h0) (fun _ _ _ _ _ => True) (fun _ U o U' => ∃ v L, o = .returned v ∧ Q_rm1 n0 Z aSTABLE aPREWRITTEN aCOMMITTED aABORTED aV kV p0 h0 v U'.heap L ∧ FrameEnd U o U' L ({ frames := 3, cells := 1, slots := 4, locals := 41 } : Room).cells ({ frames := 3, cells := 1, slots := 4, locals := 41 } : Room).slots) := by
  refine MetFree.of_bodySF (plainFor_of_name pnv1) hisR ?_
  intro p e s m args below meth c s₁ Bd hml0 hP hK
  obtain ⟨rfl, hZ, hh⟩ := hP
  have hx := Bd.exec
  have hby := Bd.bytes
  have hml : c.maxLocals = 2 := hml0
  have hown : s.vm.findClass "com/example/enact/enact/lock/LockStateFromCodePinLaw" = some m.cls := findClass_of_methodNamed Bd.named
  have hnm := (name_of_methodNamed Bd.named Bd.method).1
  have X0 : Stand p l e ({ frames := 3, cells := 1, slots := 4, locals := 41 } : Room) s m #[(.int p0)] below meth c s₁ [] 0 0 := Stand.of_body Bd
  have e0 : s₁.heap = h0 := by rw [← hh, Bd.state]; rfl
  have N0 := Fr.nil n0
  have pre0 : ∀ t, Steps p.tables e below (s₁.setTop (mkF m 0 #[.val (.int p0), .unset] [])) t → Steps p.tables e below (s₁.setTop (entryFrame m #[(.int p0)] 2)) t := fun t k => castTop (ef_rm1 m p0) k
  have GL' := GL
  obtain ⟨GSSTABLE, GESTABLE, GCSTABLE, GSPREWRITTEN, GEPREWRITTEN, GCPREWRITTEN, GSCOMMITTED, GECOMMITTED, GCCOMMITTED, GSABORTED, GEABORTED, GCABORTED, GSV, GEV, GVV⟩ := GL'
  by_cases hk0 : p0 = (0 : Int32)
  · have w0 : (0 : Int32) = p0 := hk0.symm
    obtain ⟨_, _, ⟨T1, L1, k1, n1⟩, -, X1, ⟨Lc1, hQ1, l1, y1, z1⟩, st1⟩ := Jvm.LawKit.callS X0 hx (y := MN_2) hown (mvT hZ (Wd hw 4 rfl)) (mvT hZ (Wd hw 5 rfl)) (mvT hZ (Wd hw 6 rfl)) (mvT hZ (Wd hw 7 rfl)) (by decide) (backOf (W := 0) (rm2_0 l Z a0 hw [] aSTABLE aPREWRITTEN aCOMMITTED aABORTED aV kV (p0) (h0) n0 O0 GL hk0) hZ (Wd hw 7 rfl) (Wd hw 6 rfl) (by decide) (by decide)) (g := (mkF m 1 #[.val (.int p0), .unset] [(.int p0)])) rfl (by rw [hml]; rfl) (argsL := [(.int p0)]) (rest := []) (lenOf pdv1 rfl) rfl (by show 2 * 0 + _ ≤ _; exact Nat.le_of_eq rfl) (hb hby d1_1) (fun _ _ => ⟨rfl, e0, (by decide : 0 + 1 ≤ _), (by decide : 0 + 4 ≤ _)⟩)
    dsimp only [Pt.U, Pt.locs, Pt.cells, Pt.slots] at X1 l1 y1 z1 st1 hQ1
    subst l1 y1 z1
    obtain ⟨rfl, N1q, Kc1⟩ := hQ1
    have K1 : Keep h0 T1.heap [] := (Keep.refl h0 []).trans Kc1 all0
    have O1 := O0.keep Kc1 all0
    have N1 := Fr.app N0 N1q
    obtain ⟨_, _, ⟨T2, L2, k2, n2⟩, -, X2, ⟨Lc2, hQ2, l2, y2, z2⟩, st2⟩ := Jvm.LawKit.callS X1 hx (y := MN_3) hown (mvT hZ (Wd hw 29 rfl)) (mvT hZ (Wd hw 30 rfl)) (mvT hZ (Wd hw 2 rfl)) (mvT hZ (Wd hw 31 rfl)) (by decide) (backOf (W := 1) (rm4_0 l Z a0 hw [] aSTABLE aPREWRITTEN aCOMMITTED aABORTED aV kV (p0) (T1.heap) n0 O1 GL hk0) hZ (Wd hw 31 rfl) (Wd hw 2 rfl) (by decide) (by decide)) (g := (mkF m 7 #[.val (.int p0), .val (.ref aSTABLE)] [(.int p0), (.ref aSTABLE)])) rfl (by rw [hml]; rfl) (argsL := [(.int p0)]) (rest := [(.ref aSTABLE)]) (lenOf pdv1 rfl) rfl (by show 2 * 0 + _ ≤ _; exact Nat.le_of_eq rfl) (hb hby d1_7) (fun _ _ => ⟨rfl, rfl, (by decide : 1 + 0 ≤ _), (by decide : 4 + 0 ≤ _)⟩)
    dsimp only [Pt.U, Pt.locs, Pt.cells, Pt.slots] at X2 l2 y2 z2 st2 hQ2
    subst l2 y2 z2
    obtain ⟨rfl, N2q, e2⟩ := hQ2
    have N2 := Fr.app N1 N2q
    obtain ⟨cq3, kq3, q3a, q3b, q3c⟩ := isOf hZ e2 (GESTABLE.ext O1.2)
    obtain ⟨_, _, ⟨T3, L3, k3, n3⟩, -, X3, ⟨Lc3, hQ3, l3, y3, z3⟩, st3⟩ := X2.virtualBack hx (y := MN_1) (z := MN_1) hown (mvT hZ (Wd hw 33 rfl)) (mvT hZ (Wd hw 34 rfl)) (notFace_of_selects (args := #[]) (mvT hZ (Wd hw 36 rfl))) (mvT hZ (Wd hw 36 rfl)) (mvT hZ (Wd hw 35 rfl)) (by decide) (backOf (W := 0) (rm5 l Z a0 hw [] aSTABLE aPREWRITTEN aCOMMITTED aABORTED aV kV (aSTABLE) ((0 : Int32)) (T1.heap) n0 O1 GL (GCSTABLE.ext O1.2)) hZ (Wd hw 37 rfl) (Wd hw 6 rfl) (by decide) (by decide)) q3a q3c (g := (mkF m 20 #[.val (.int p0), .val (.ref aSTABLE)] [(.ref aSTABLE)])) rfl (by rw [hml]; rfl) (Steps.refl _) (argsL := []) (rest := []) (lenOf pdv2 rfl) rfl (by show 2 * 0 + _ ≤ _; exact Nat.le_of_eq rfl) (hb hby d1_20) (fun _ _ => ⟨rfl, e2, (by decide : 1 + 0 ≤ _), (by decide : 4 + 0 ≤ _)⟩)
    dsimp only [Pt.U, Pt.locs, Pt.cells, Pt.slots] at X3 l3 y3 z3 st3 hQ3
    subst l3 y3 z3
    obtain ⟨rfl, N3q, e3⟩ := hQ3
    have N3 := Fr.app N2 N3q
    obtain ⟨fs, hr, hrun, hended, hW, hsame⟩ := X3.leave (v := some (.int (1 : Int32))) (fun h => by rw [Bd.returns] at h; cases h)
    refine ⟨_, _, pre0 _ ?_, hrun, hended, _, _, rfl, ?_, ⟨_, rfl⟩, hW, hsame.mono (by decide) (by decide)⟩
    · show Steps p.tables e below (s₁.setTop (mkF m 0 #[.val (.int p0), .unset] [])) _
      refine XS.iloadN X0.here hx rfl (hb hby d1_0) rfl ?_
      show Steps p.tables e below (s₁.setTop (mkF m 1 #[.val (.int p0), .unset] [(.int p0)])) _
      refine st1 _ ?_
      show Steps p.tables e below (T1.setTop (mkF m 4 #[.val (.int p0), .unset] [(.ref aSTABLE)])) _
      refine XS.astoreN X1.here hx rfl (hb hby d1_4) rfl rfl (l' := #[.val (.int p0), .val (.ref aSTABLE)]) rfl ?_
      show Steps p.tables e below (T1.setTop (mkF m 5 #[.val (.int p0), .val (.ref aSTABLE)] [])) _
      refine XS.aloadN X1.here hx rfl (hb hby d1_5) rfl rfl ?_
      show Steps p.tables e below (T1.setTop (mkF m 6 #[.val (.int p0), .val (.ref aSTABLE)] [(.ref aSTABLE)])) _
      refine XS.iloadN X1.here hx rfl (hb hby d1_6) rfl ?_
      show Steps p.tables e below (T1.setTop (mkF m 7 #[.val (.int p0), .val (.ref aSTABLE)] [(.int p0), (.ref aSTABLE)])) _
      refine st2 _ ?_
      show Steps p.tables e below (T2.setTop (mkF m 10 #[.val (.int p0), .val (.ref aSTABLE)] [(.ref aSTABLE), (.ref aSTABLE)])) _
      refine Jvm.RoadKit.acmp (g := (mkF m 10 #[.val (.int p0), .val (.ref aSTABLE)] [(.ref aSTABLE), (.ref aSTABLE)])) X2 hx rfl rfl rfl (pc0 := 10) (pc' := 15) (same := true) rfl (hb hby d1_10) rfl (decide_eq_true rfl) (by decide) (by decide) ?_
      show Steps p.tables e below (T2.setTop (mkF m 15 #[.val (.int p0), .val (.ref aSTABLE)] [])) _
      refine XS.aloadN X2.here hx rfl (hb hby d1_15) rfl rfl ?_
      show Steps p.tables e below (T2.setTop (mkF m 16 #[.val (.int p0), .val (.ref aSTABLE)] [(.ref aSTABLE)])) _
      refine XS.ifnullNo X2.here hx rfl (hb hby d1_16) rfl ?_
      show Steps p.tables e below (T2.setTop (mkF m 19 #[.val (.int p0), .val (.ref aSTABLE)] [])) _
      refine XS.aloadN X2.here hx rfl (hb hby d1_19) rfl rfl ?_
      show Steps p.tables e below (T2.setTop (mkF m 20 #[.val (.int p0), .val (.ref aSTABLE)] [(.ref aSTABLE)])) _
      refine st3.trans ?_
      show Steps p.tables e below (T3.setTop (mkF m 23 #[.val (.int p0), .val (.ref aSTABLE)] [(.int (0 : Int32))])) _
      refine XS.iloadN X3.here hx rfl (hb hby d1_23) rfl ?_
      show Steps p.tables e below (T3.setTop (mkF m 24 #[.val (.int p0), .val (.ref aSTABLE)] [(.int p0), (.int (0 : Int32))])) _
      refine XS.icmpYes X3.here hx rfl (pc0 := 24) (pc' := 29) rfl (hb hby d1_24) rfl (teq w0).1 (by decide) (by decide) ?_
      show Steps p.tables e below (T3.setTop (mkF m 29 #[.val (.int p0), .val (.ref aSTABLE)] [])) _
      refine XS.iconst X3.here hx rfl (hb hby d1_29) ?_
      show Steps p.tables e below (T3.setTop (mkF m 30 #[.val (.int p0), .val (.ref aSTABLE)] [(.int (1 : Int32))])) _
      exact retN X3 hx (t := .boolean) Bd.returns (by simp) (hb hby d1_30) hr
    · show Q_rm1 n0 Z aSTABLE aPREWRITTEN aCOMMITTED aABORTED aV kV p0 h0 _ T3.heap _
      rw [e3]
      exact ⟨rfl, N3, K1⟩
  · by_cases hk1 : p0 = (1 : Int32)
    · have w1 : (1 : Int32) = p0 := hk1.symm
      obtain ⟨_, _, ⟨T1, L1, k1, n1⟩, -, X1, ⟨Lc1, hQ1, l1, y1, z1⟩, st1⟩ := Jvm.LawKit.callS X0 hx (y := MN_2) hown (mvT hZ (Wd hw 4 rfl)) (mvT hZ (Wd hw 5 rfl)) (mvT hZ (Wd hw 6 rfl)) (mvT hZ (Wd hw 7 rfl)) (by decide) (backOf (W := 0) (rm2_1 l Z a0 hw [] aSTABLE aPREWRITTEN aCOMMITTED aABORTED aV kV (p0) (h0) n0 O0 GL hk1) hZ (Wd hw 7 rfl) (Wd hw 6 rfl) (by decide) (by decide)) (g := (mkF m 1 #[.val (.int p0), .unset] [(.int p0)])) rfl (by rw [hml]; rfl) (argsL := [(.int p0)]) (rest := []) (lenOf pdv1 rfl) rfl (by show 2 * 0 + _ ≤ _; exact Nat.le_of_eq rfl) (hb hby d1_1) (fun _ _ => ⟨rfl, e0, (by decide : 0 + 1 ≤ _), (by decide : 0 + 4 ≤ _)⟩)
      dsimp only [Pt.U, Pt.locs, Pt.cells, Pt.slots] at X1 l1 y1 z1 st1 hQ1
      subst l1 y1 z1
      obtain ⟨rfl, N1q, Kc1⟩ := hQ1
      have K1 : Keep h0 T1.heap [] := (Keep.refl h0 []).trans Kc1 all0
      have O1 := O0.keep Kc1 all0
      have N1 := Fr.app N0 N1q
      obtain ⟨_, _, ⟨T2, L2, k2, n2⟩, -, X2, ⟨Lc2, hQ2, l2, y2, z2⟩, st2⟩ := Jvm.LawKit.callS X1 hx (y := MN_3) hown (mvT hZ (Wd hw 29 rfl)) (mvT hZ (Wd hw 30 rfl)) (mvT hZ (Wd hw 2 rfl)) (mvT hZ (Wd hw 31 rfl)) (by decide) (backOf (W := 1) (rm4_1 l Z a0 hw [] aSTABLE aPREWRITTEN aCOMMITTED aABORTED aV kV (p0) (T1.heap) n0 O1 GL hk1) hZ (Wd hw 31 rfl) (Wd hw 2 rfl) (by decide) (by decide)) (g := (mkF m 7 #[.val (.int p0), .val (.ref aPREWRITTEN)] [(.int p0), (.ref aPREWRITTEN)])) rfl (by rw [hml]; rfl) (argsL := [(.int p0)]) (rest := [(.ref aPREWRITTEN)]) (lenOf pdv1 rfl) rfl (by show 2 * 0 + _ ≤ _; exact Nat.le_of_eq rfl) (hb hby d1_7) (fun _ _ => ⟨rfl, rfl, (by decide : 1 + 0 ≤ _), (by decide : 4 + 0 ≤ _)⟩)
      dsimp only [Pt.U, Pt.locs, Pt.cells, Pt.slots] at X2 l2 y2 z2 st2 hQ2
      subst l2 y2 z2
      obtain ⟨rfl, N2q, e2⟩ := hQ2
      have N2 := Fr.app N1 N2q
      obtain ⟨cq3, kq3, q3a, q3b, q3c⟩ := isOf hZ e2 (GEPREWRITTEN.ext O1.2)
      obtain ⟨_, _, ⟨T3, L3, k3, n3⟩, -, X3, ⟨Lc3, hQ3, l3, y3, z3⟩, st3⟩ := X2.virtualBack hx (y := MN_1) (z := MN_1) hown (mvT hZ (Wd hw 33 rfl)) (mvT hZ (Wd hw 34 rfl)) (notFace_of_selects (args := #[]) (mvT hZ (Wd hw 36 rfl))) (mvT hZ (Wd hw 36 rfl)) (mvT hZ (Wd hw 35 rfl)) (by decide) (backOf (W := 0) (rm5 l Z a0 hw [] aSTABLE aPREWRITTEN aCOMMITTED aABORTED aV kV (aPREWRITTEN) ((1 : Int32)) (T1.heap) n0 O1 GL (GCPREWRITTEN.ext O1.2)) hZ (Wd hw 37 rfl) (Wd hw 6 rfl) (by decide) (by decide)) q3a q3c (g := (mkF m 20 #[.val (.int p0), .val (.ref aPREWRITTEN)] [(.ref aPREWRITTEN)])) rfl (by rw [hml]; rfl) (Steps.refl _) (argsL := []) (rest := []) (lenOf pdv2 rfl) rfl (by show 2 * 0 + _ ≤ _; exact Nat.le_of_eq rfl) (hb hby d1_20) (fun _ _ => ⟨rfl, e2, (by decide : 1 + 0 ≤ _), (by decide : 4 + 0 ≤ _)⟩)
      dsimp only [Pt.U, Pt.locs, Pt.cells, Pt.slots] at X3 l3 y3 z3 st3 hQ3
      subst l3 y3 z3
      obtain ⟨rfl, N3q, e3⟩ := hQ3
      have N3 := Fr.app N2 N3q
      obtain ⟨fs, hr, hrun, hended, hW, hsame⟩ := X3.leave (v := some (.int (1 : Int32))) (fun h => by rw [Bd.returns] at h; cases h)
      refine ⟨_, _, pre0 _ ?_, hrun, hended, _, _, rfl, ?_, ⟨_, rfl⟩, hW, hsame.mono (by decide) (by decide)⟩
      · show Steps p.tables e below (s₁.setTop (mkF m 0 #[.val (.int p0), .unset] [])) _
        refine XS.iloadN X0.here hx rfl (hb hby d1_0) rfl ?_
        show Steps p.tables e below (s₁.setTop (mkF m 1 #[.val (.int p0), .unset] [(.int p0)])) _
        refine st1 _ ?_
        show Steps p.tables e below (T1.setTop (mkF m 4 #[.val (.int p0), .unset] [(.ref aPREWRITTEN)])) _
        refine XS.astoreN X1.here hx rfl (hb hby d1_4) rfl rfl (l' := #[.val (.int p0), .val (.ref aPREWRITTEN)]) rfl ?_
        show Steps p.tables e below (T1.setTop (mkF m 5 #[.val (.int p0), .val (.ref aPREWRITTEN)] [])) _
        refine XS.aloadN X1.here hx rfl (hb hby d1_5) rfl rfl ?_
        show Steps p.tables e below (T1.setTop (mkF m 6 #[.val (.int p0), .val (.ref aPREWRITTEN)] [(.ref aPREWRITTEN)])) _
        refine XS.iloadN X1.here hx rfl (hb hby d1_6) rfl ?_
        show Steps p.tables e below (T1.setTop (mkF m 7 #[.val (.int p0), .val (.ref aPREWRITTEN)] [(.int p0), (.ref aPREWRITTEN)])) _
        refine st2 _ ?_
        show Steps p.tables e below (T2.setTop (mkF m 10 #[.val (.int p0), .val (.ref aPREWRITTEN)] [(.ref aPREWRITTEN), (.ref aPREWRITTEN)])) _
        refine Jvm.RoadKit.acmp (g := (mkF m 10 #[.val (.int p0), .val (.ref aPREWRITTEN)] [(.ref aPREWRITTEN), (.ref aPREWRITTEN)])) X2 hx rfl rfl rfl (pc0 := 10) (pc' := 15) (same := true) rfl (hb hby d1_10) rfl (decide_eq_true rfl) (by decide) (by decide) ?_
        show Steps p.tables e below (T2.setTop (mkF m 15 #[.val (.int p0), .val (.ref aPREWRITTEN)] [])) _
        refine XS.aloadN X2.here hx rfl (hb hby d1_15) rfl rfl ?_
        show Steps p.tables e below (T2.setTop (mkF m 16 #[.val (.int p0), .val (.ref aPREWRITTEN)] [(.ref aPREWRITTEN)])) _
        refine XS.ifnullNo X2.here hx rfl (hb hby d1_16) rfl ?_
        show Steps p.tables e below (T2.setTop (mkF m 19 #[.val (.int p0), .val (.ref aPREWRITTEN)] [])) _
        refine XS.aloadN X2.here hx rfl (hb hby d1_19) rfl rfl ?_
        show Steps p.tables e below (T2.setTop (mkF m 20 #[.val (.int p0), .val (.ref aPREWRITTEN)] [(.ref aPREWRITTEN)])) _
        refine st3.trans ?_
        show Steps p.tables e below (T3.setTop (mkF m 23 #[.val (.int p0), .val (.ref aPREWRITTEN)] [(.int (1 : Int32))])) _
        refine XS.iloadN X3.here hx rfl (hb hby d1_23) rfl ?_
        show Steps p.tables e below (T3.setTop (mkF m 24 #[.val (.int p0), .val (.ref aPREWRITTEN)] [(.int p0), (.int (1 : Int32))])) _
        refine XS.icmpYes X3.here hx rfl (pc0 := 24) (pc' := 29) rfl (hb hby d1_24) rfl (teq w1).1 (by decide) (by decide) ?_
        show Steps p.tables e below (T3.setTop (mkF m 29 #[.val (.int p0), .val (.ref aPREWRITTEN)] [])) _
        refine XS.iconst X3.here hx rfl (hb hby d1_29) ?_
        show Steps p.tables e below (T3.setTop (mkF m 30 #[.val (.int p0), .val (.ref aPREWRITTEN)] [(.int (1 : Int32))])) _
        exact retN X3 hx (t := .boolean) Bd.returns (by simp) (hb hby d1_30) hr
      · show Q_rm1 n0 Z aSTABLE aPREWRITTEN aCOMMITTED aABORTED aV kV p0 h0 _ T3.heap _
        rw [e3]
        exact ⟨rfl, N3, K1⟩
    · by_cases hk2 : p0 = (2 : Int32)
      · have w2 : (2 : Int32) = p0 := hk2.symm
        obtain ⟨_, _, ⟨T1, L1, k1, n1⟩, -, X1, ⟨Lc1, hQ1, l1, y1, z1⟩, st1⟩ := Jvm.LawKit.callS X0 hx (y := MN_2) hown (mvT hZ (Wd hw 4 rfl)) (mvT hZ (Wd hw 5 rfl)) (mvT hZ (Wd hw 6 rfl)) (mvT hZ (Wd hw 7 rfl)) (by decide) (backOf (W := 0) (rm2_2 l Z a0 hw [] aSTABLE aPREWRITTEN aCOMMITTED aABORTED aV kV (p0) (h0) n0 O0 GL hk2) hZ (Wd hw 7 rfl) (Wd hw 6 rfl) (by decide) (by decide)) (g := (mkF m 1 #[.val (.int p0), .unset] [(.int p0)])) rfl (by rw [hml]; rfl) (argsL := [(.int p0)]) (rest := []) (lenOf pdv1 rfl) rfl (by show 2 * 0 + _ ≤ _; exact Nat.le_of_eq rfl) (hb hby d1_1) (fun _ _ => ⟨rfl, e0, (by decide : 0 + 1 ≤ _), (by decide : 0 + 4 ≤ _)⟩)
        dsimp only [Pt.U, Pt.locs, Pt.cells, Pt.slots] at X1 l1 y1 z1 st1 hQ1
        subst l1 y1 z1
        obtain ⟨rfl, N1q, Kc1⟩ := hQ1
        have K1 : Keep h0 T1.heap [] := (Keep.refl h0 []).trans Kc1 all0
        have O1 := O0.keep Kc1 all0
        have N1 := Fr.app N0 N1q
        obtain ⟨_, _, ⟨T2, L2, k2, n2⟩, -, X2, ⟨Lc2, hQ2, l2, y2, z2⟩, st2⟩ := Jvm.LawKit.callS X1 hx (y := MN_3) hown (mvT hZ (Wd hw 29 rfl)) (mvT hZ (Wd hw 30 rfl)) (mvT hZ (Wd hw 2 rfl)) (mvT hZ (Wd hw 31 rfl)) (by decide) (backOf (W := 1) (rm4_2 l Z a0 hw [] aSTABLE aPREWRITTEN aCOMMITTED aABORTED aV kV (p0) (T1.heap) n0 O1 GL hk2) hZ (Wd hw 31 rfl) (Wd hw 2 rfl) (by decide) (by decide)) (g := (mkF m 7 #[.val (.int p0), .val (.ref aCOMMITTED)] [(.int p0), (.ref aCOMMITTED)])) rfl (by rw [hml]; rfl) (argsL := [(.int p0)]) (rest := [(.ref aCOMMITTED)]) (lenOf pdv1 rfl) rfl (by show 2 * 0 + _ ≤ _; exact Nat.le_of_eq rfl) (hb hby d1_7) (fun _ _ => ⟨rfl, rfl, (by decide : 1 + 0 ≤ _), (by decide : 4 + 0 ≤ _)⟩)
        dsimp only [Pt.U, Pt.locs, Pt.cells, Pt.slots] at X2 l2 y2 z2 st2 hQ2
        subst l2 y2 z2
        obtain ⟨rfl, N2q, e2⟩ := hQ2
        have N2 := Fr.app N1 N2q
        obtain ⟨cq3, kq3, q3a, q3b, q3c⟩ := isOf hZ e2 (GECOMMITTED.ext O1.2)
        obtain ⟨_, _, ⟨T3, L3, k3, n3⟩, -, X3, ⟨Lc3, hQ3, l3, y3, z3⟩, st3⟩ := X2.virtualBack hx (y := MN_1) (z := MN_1) hown (mvT hZ (Wd hw 33 rfl)) (mvT hZ (Wd hw 34 rfl)) (notFace_of_selects (args := #[]) (mvT hZ (Wd hw 36 rfl))) (mvT hZ (Wd hw 36 rfl)) (mvT hZ (Wd hw 35 rfl)) (by decide) (backOf (W := 0) (rm5 l Z a0 hw [] aSTABLE aPREWRITTEN aCOMMITTED aABORTED aV kV (aCOMMITTED) ((2 : Int32)) (T1.heap) n0 O1 GL (GCCOMMITTED.ext O1.2)) hZ (Wd hw 37 rfl) (Wd hw 6 rfl) (by decide) (by decide)) q3a q3c (g := (mkF m 20 #[.val (.int p0), .val (.ref aCOMMITTED)] [(.ref aCOMMITTED)])) rfl (by rw [hml]; rfl) (Steps.refl _) (argsL := []) (rest := []) (lenOf pdv2 rfl) rfl (by show 2 * 0 + _ ≤ _; exact Nat.le_of_eq rfl) (hb hby d1_20) (fun _ _ => ⟨rfl, e2, (by decide : 1 + 0 ≤ _), (by decide : 4 + 0 ≤ _)⟩)
        dsimp only [Pt.U, Pt.locs, Pt.cells, Pt.slots] at X3 l3 y3 z3 st3 hQ3
        subst l3 y3 z3
        obtain ⟨rfl, N3q, e3⟩ := hQ3
        have N3 := Fr.app N2 N3q
        obtain ⟨fs, hr, hrun, hended, hW, hsame⟩ := X3.leave (v := some (.int (1 : Int32))) (fun h => by rw [Bd.returns] at h; cases h)
        refine ⟨_, _, pre0 _ ?_, hrun, hended, _, _, rfl, ?_, ⟨_, rfl⟩, hW, hsame.mono (by decide) (by decide)⟩
        · show Steps p.tables e below (s₁.setTop (mkF m 0 #[.val (.int p0), .unset] [])) _
          refine XS.iloadN X0.here hx rfl (hb hby d1_0) rfl ?_
          show Steps p.tables e below (s₁.setTop (mkF m 1 #[.val (.int p0), .unset] [(.int p0)])) _
          refine st1 _ ?_
          show Steps p.tables e below (T1.setTop (mkF m 4 #[.val (.int p0), .unset] [(.ref aCOMMITTED)])) _
          refine XS.astoreN X1.here hx rfl (hb hby d1_4) rfl rfl (l' := #[.val (.int p0), .val (.ref aCOMMITTED)]) rfl ?_
          show Steps p.tables e below (T1.setTop (mkF m 5 #[.val (.int p0), .val (.ref aCOMMITTED)] [])) _
          refine XS.aloadN X1.here hx rfl (hb hby d1_5) rfl rfl ?_
          show Steps p.tables e below (T1.setTop (mkF m 6 #[.val (.int p0), .val (.ref aCOMMITTED)] [(.ref aCOMMITTED)])) _
          refine XS.iloadN X1.here hx rfl (hb hby d1_6) rfl ?_
          show Steps p.tables e below (T1.setTop (mkF m 7 #[.val (.int p0), .val (.ref aCOMMITTED)] [(.int p0), (.ref aCOMMITTED)])) _
          refine st2 _ ?_
          show Steps p.tables e below (T2.setTop (mkF m 10 #[.val (.int p0), .val (.ref aCOMMITTED)] [(.ref aCOMMITTED), (.ref aCOMMITTED)])) _
          refine Jvm.RoadKit.acmp (g := (mkF m 10 #[.val (.int p0), .val (.ref aCOMMITTED)] [(.ref aCOMMITTED), (.ref aCOMMITTED)])) X2 hx rfl rfl rfl (pc0 := 10) (pc' := 15) (same := true) rfl (hb hby d1_10) rfl (decide_eq_true rfl) (by decide) (by decide) ?_
          show Steps p.tables e below (T2.setTop (mkF m 15 #[.val (.int p0), .val (.ref aCOMMITTED)] [])) _
          refine XS.aloadN X2.here hx rfl (hb hby d1_15) rfl rfl ?_
          show Steps p.tables e below (T2.setTop (mkF m 16 #[.val (.int p0), .val (.ref aCOMMITTED)] [(.ref aCOMMITTED)])) _
          refine XS.ifnullNo X2.here hx rfl (hb hby d1_16) rfl ?_
          show Steps p.tables e below (T2.setTop (mkF m 19 #[.val (.int p0), .val (.ref aCOMMITTED)] [])) _
          refine XS.aloadN X2.here hx rfl (hb hby d1_19) rfl rfl ?_
          show Steps p.tables e below (T2.setTop (mkF m 20 #[.val (.int p0), .val (.ref aCOMMITTED)] [(.ref aCOMMITTED)])) _
          refine st3.trans ?_
          show Steps p.tables e below (T3.setTop (mkF m 23 #[.val (.int p0), .val (.ref aCOMMITTED)] [(.int (2 : Int32))])) _
          refine XS.iloadN X3.here hx rfl (hb hby d1_23) rfl ?_
          show Steps p.tables e below (T3.setTop (mkF m 24 #[.val (.int p0), .val (.ref aCOMMITTED)] [(.int p0), (.int (2 : Int32))])) _
          refine XS.icmpYes X3.here hx rfl (pc0 := 24) (pc' := 29) rfl (hb hby d1_24) rfl (teq w2).1 (by decide) (by decide) ?_
          show Steps p.tables e below (T3.setTop (mkF m 29 #[.val (.int p0), .val (.ref aCOMMITTED)] [])) _
          refine XS.iconst X3.here hx rfl (hb hby d1_29) ?_
          show Steps p.tables e below (T3.setTop (mkF m 30 #[.val (.int p0), .val (.ref aCOMMITTED)] [(.int (1 : Int32))])) _
          exact retN X3 hx (t := .boolean) Bd.returns (by simp) (hb hby d1_30) hr
        · show Q_rm1 n0 Z aSTABLE aPREWRITTEN aCOMMITTED aABORTED aV kV p0 h0 _ T3.heap _
          rw [e3]
          exact ⟨rfl, N3, K1⟩
      · by_cases hk3 : p0 = (3 : Int32)
        · have w3 : (3 : Int32) = p0 := hk3.symm
          obtain ⟨_, _, ⟨T1, L1, k1, n1⟩, -, X1, ⟨Lc1, hQ1, l1, y1, z1⟩, st1⟩ := Jvm.LawKit.callS X0 hx (y := MN_2) hown (mvT hZ (Wd hw 4 rfl)) (mvT hZ (Wd hw 5 rfl)) (mvT hZ (Wd hw 6 rfl)) (mvT hZ (Wd hw 7 rfl)) (by decide) (backOf (W := 0) (rm2_3 l Z a0 hw [] aSTABLE aPREWRITTEN aCOMMITTED aABORTED aV kV (p0) (h0) n0 O0 GL hk3) hZ (Wd hw 7 rfl) (Wd hw 6 rfl) (by decide) (by decide)) (g := (mkF m 1 #[.val (.int p0), .unset] [(.int p0)])) rfl (by rw [hml]; rfl) (argsL := [(.int p0)]) (rest := []) (lenOf pdv1 rfl) rfl (by show 2 * 0 + _ ≤ _; exact Nat.le_of_eq rfl) (hb hby d1_1) (fun _ _ => ⟨rfl, e0, (by decide : 0 + 1 ≤ _), (by decide : 0 + 4 ≤ _)⟩)
          dsimp only [Pt.U, Pt.locs, Pt.cells, Pt.slots] at X1 l1 y1 z1 st1 hQ1
          subst l1 y1 z1
          obtain ⟨rfl, N1q, Kc1⟩ := hQ1
          have K1 : Keep h0 T1.heap [] := (Keep.refl h0 []).trans Kc1 all0
          have O1 := O0.keep Kc1 all0
          have N1 := Fr.app N0 N1q
          obtain ⟨_, _, ⟨T2, L2, k2, n2⟩, -, X2, ⟨Lc2, hQ2, l2, y2, z2⟩, st2⟩ := Jvm.LawKit.callS X1 hx (y := MN_3) hown (mvT hZ (Wd hw 29 rfl)) (mvT hZ (Wd hw 30 rfl)) (mvT hZ (Wd hw 2 rfl)) (mvT hZ (Wd hw 31 rfl)) (by decide) (backOf (W := 1) (rm4_3 l Z a0 hw [] aSTABLE aPREWRITTEN aCOMMITTED aABORTED aV kV (p0) (T1.heap) n0 O1 GL hk3) hZ (Wd hw 31 rfl) (Wd hw 2 rfl) (by decide) (by decide)) (g := (mkF m 7 #[.val (.int p0), .val (.ref aABORTED)] [(.int p0), (.ref aABORTED)])) rfl (by rw [hml]; rfl) (argsL := [(.int p0)]) (rest := [(.ref aABORTED)]) (lenOf pdv1 rfl) rfl (by show 2 * 0 + _ ≤ _; exact Nat.le_of_eq rfl) (hb hby d1_7) (fun _ _ => ⟨rfl, rfl, (by decide : 1 + 0 ≤ _), (by decide : 4 + 0 ≤ _)⟩)
          dsimp only [Pt.U, Pt.locs, Pt.cells, Pt.slots] at X2 l2 y2 z2 st2 hQ2
          subst l2 y2 z2
          obtain ⟨rfl, N2q, e2⟩ := hQ2
          have N2 := Fr.app N1 N2q
          obtain ⟨cq3, kq3, q3a, q3b, q3c⟩ := isOf hZ e2 (GEABORTED.ext O1.2)
          obtain ⟨_, _, ⟨T3, L3, k3, n3⟩, -, X3, ⟨Lc3, hQ3, l3, y3, z3⟩, st3⟩ := X2.virtualBack hx (y := MN_1) (z := MN_1) hown (mvT hZ (Wd hw 33 rfl)) (mvT hZ (Wd hw 34 rfl)) (notFace_of_selects (args := #[]) (mvT hZ (Wd hw 36 rfl))) (mvT hZ (Wd hw 36 rfl)) (mvT hZ (Wd hw 35 rfl)) (by decide) (backOf (W := 0) (rm5 l Z a0 hw [] aSTABLE aPREWRITTEN aCOMMITTED aABORTED aV kV (aABORTED) ((3 : Int32)) (T1.heap) n0 O1 GL (GCABORTED.ext O1.2)) hZ (Wd hw 37 rfl) (Wd hw 6 rfl) (by decide) (by decide)) q3a q3c (g := (mkF m 20 #[.val (.int p0), .val (.ref aABORTED)] [(.ref aABORTED)])) rfl (by rw [hml]; rfl) (Steps.refl _) (argsL := []) (rest := []) (lenOf pdv2 rfl) rfl (by show 2 * 0 + _ ≤ _; exact Nat.le_of_eq rfl) (hb hby d1_20) (fun _ _ => ⟨rfl, e2, (by decide : 1 + 0 ≤ _), (by decide : 4 + 0 ≤ _)⟩)
          dsimp only [Pt.U, Pt.locs, Pt.cells, Pt.slots] at X3 l3 y3 z3 st3 hQ3
          subst l3 y3 z3
          obtain ⟨rfl, N3q, e3⟩ := hQ3
          have N3 := Fr.app N2 N3q
          obtain ⟨fs, hr, hrun, hended, hW, hsame⟩ := X3.leave (v := some (.int (1 : Int32))) (fun h => by rw [Bd.returns] at h; cases h)
          refine ⟨_, _, pre0 _ ?_, hrun, hended, _, _, rfl, ?_, ⟨_, rfl⟩, hW, hsame.mono (by decide) (by decide)⟩
          · show Steps p.tables e below (s₁.setTop (mkF m 0 #[.val (.int p0), .unset] [])) _
            refine XS.iloadN X0.here hx rfl (hb hby d1_0) rfl ?_
            show Steps p.tables e below (s₁.setTop (mkF m 1 #[.val (.int p0), .unset] [(.int p0)])) _
            refine st1 _ ?_
            show Steps p.tables e below (T1.setTop (mkF m 4 #[.val (.int p0), .unset] [(.ref aABORTED)])) _
            refine XS.astoreN X1.here hx rfl (hb hby d1_4) rfl rfl (l' := #[.val (.int p0), .val (.ref aABORTED)]) rfl ?_
            show Steps p.tables e below (T1.setTop (mkF m 5 #[.val (.int p0), .val (.ref aABORTED)] [])) _
            refine XS.aloadN X1.here hx rfl (hb hby d1_5) rfl rfl ?_
            show Steps p.tables e below (T1.setTop (mkF m 6 #[.val (.int p0), .val (.ref aABORTED)] [(.ref aABORTED)])) _
            refine XS.iloadN X1.here hx rfl (hb hby d1_6) rfl ?_
            show Steps p.tables e below (T1.setTop (mkF m 7 #[.val (.int p0), .val (.ref aABORTED)] [(.int p0), (.ref aABORTED)])) _
            refine st2 _ ?_
            show Steps p.tables e below (T2.setTop (mkF m 10 #[.val (.int p0), .val (.ref aABORTED)] [(.ref aABORTED), (.ref aABORTED)])) _
            refine Jvm.RoadKit.acmp (g := (mkF m 10 #[.val (.int p0), .val (.ref aABORTED)] [(.ref aABORTED), (.ref aABORTED)])) X2 hx rfl rfl rfl (pc0 := 10) (pc' := 15) (same := true) rfl (hb hby d1_10) rfl (decide_eq_true rfl) (by decide) (by decide) ?_
            show Steps p.tables e below (T2.setTop (mkF m 15 #[.val (.int p0), .val (.ref aABORTED)] [])) _
            refine XS.aloadN X2.here hx rfl (hb hby d1_15) rfl rfl ?_
            show Steps p.tables e below (T2.setTop (mkF m 16 #[.val (.int p0), .val (.ref aABORTED)] [(.ref aABORTED)])) _
            refine XS.ifnullNo X2.here hx rfl (hb hby d1_16) rfl ?_
            show Steps p.tables e below (T2.setTop (mkF m 19 #[.val (.int p0), .val (.ref aABORTED)] [])) _
            refine XS.aloadN X2.here hx rfl (hb hby d1_19) rfl rfl ?_
            show Steps p.tables e below (T2.setTop (mkF m 20 #[.val (.int p0), .val (.ref aABORTED)] [(.ref aABORTED)])) _
            refine st3.trans ?_
            show Steps p.tables e below (T3.setTop (mkF m 23 #[.val (.int p0), .val (.ref aABORTED)] [(.int (3 : Int32))])) _
            refine XS.iloadN X3.here hx rfl (hb hby d1_23) rfl ?_
            show Steps p.tables e below (T3.setTop (mkF m 24 #[.val (.int p0), .val (.ref aABORTED)] [(.int p0), (.int (3 : Int32))])) _
            refine XS.icmpYes X3.here hx rfl (pc0 := 24) (pc' := 29) rfl (hb hby d1_24) rfl (teq w3).1 (by decide) (by decide) ?_
            show Steps p.tables e below (T3.setTop (mkF m 29 #[.val (.int p0), .val (.ref aABORTED)] [])) _
            refine XS.iconst X3.here hx rfl (hb hby d1_29) ?_
            show Steps p.tables e below (T3.setTop (mkF m 30 #[.val (.int p0), .val (.ref aABORTED)] [(.int (1 : Int32))])) _
            exact retN X3 hx (t := .boolean) Bd.returns (by simp) (hb hby d1_30) hr
          · show Q_rm1 n0 Z aSTABLE aPREWRITTEN aCOMMITTED aABORTED aV kV p0 h0 _ T3.heap _
            rw [e3]
            exact ⟨rfl, N3, K1⟩
        · obtain ⟨_, _, ⟨T1, L1, k1, n1⟩, -, X1, ⟨Lc1, hQ1, l1, y1, z1⟩, st1⟩ := Jvm.LawKit.callS X0 hx (y := MN_2) hown (mvT hZ (Wd hw 4 rfl)) (mvT hZ (Wd hw 5 rfl)) (mvT hZ (Wd hw 6 rfl)) (mvT hZ (Wd hw 7 rfl)) (by decide) (backOf (W := 0) (rm2_4 l Z a0 hw [] aSTABLE aPREWRITTEN aCOMMITTED aABORTED aV kV (p0) (h0) n0 O0 GL hk0 hk1 hk2 hk3) hZ (Wd hw 7 rfl) (Wd hw 6 rfl) (by decide) (by decide)) (g := (mkF m 1 #[.val (.int p0), .unset] [(.int p0)])) rfl (by rw [hml]; rfl) (argsL := [(.int p0)]) (rest := []) (lenOf pdv1 rfl) rfl (by show 2 * 0 + _ ≤ _; exact Nat.le_of_eq rfl) (hb hby d1_1) (fun _ _ => ⟨rfl, e0, (by decide : 0 + 1 ≤ _), (by decide : 0 + 4 ≤ _)⟩)
          dsimp only [Pt.U, Pt.locs, Pt.cells, Pt.slots] at X1 l1 y1 z1 st1 hQ1
          subst l1 y1 z1
          obtain ⟨rfl, N1q, Kc1⟩ := hQ1
          have K1 : Keep h0 T1.heap [] := (Keep.refl h0 []).trans Kc1 all0
          have O1 := O0.keep Kc1 all0
          have N1 := Fr.app N0 N1q
          obtain ⟨_, _, ⟨T2, L2, k2, n2⟩, -, X2, ⟨Lc2, hQ2, l2, y2, z2⟩, st2⟩ := Jvm.LawKit.callS X1 hx (y := MN_3) hown (mvT hZ (Wd hw 29 rfl)) (mvT hZ (Wd hw 30 rfl)) (mvT hZ (Wd hw 2 rfl)) (mvT hZ (Wd hw 31 rfl)) (by decide) (backOf (W := 1) (rm4_4 l Z a0 hw [] aSTABLE aPREWRITTEN aCOMMITTED aABORTED aV kV (p0) (T1.heap) n0 O1 GL hk0 hk1 hk2 hk3) hZ (Wd hw 31 rfl) (Wd hw 2 rfl) (by decide) (by decide)) (g := (mkF m 7 #[.val (.int p0), .val .null] [(.int p0), .null])) rfl (by rw [hml]; rfl) (argsL := [(.int p0)]) (rest := [.null]) (lenOf pdv1 rfl) rfl (by show 2 * 0 + _ ≤ _; exact Nat.le_of_eq rfl) (hb hby d1_7) (fun _ _ => ⟨rfl, rfl, (by decide : 1 + 0 ≤ _), (by decide : 4 + 0 ≤ _)⟩)
          dsimp only [Pt.U, Pt.locs, Pt.cells, Pt.slots] at X2 l2 y2 z2 st2 hQ2
          subst l2 y2 z2
          obtain ⟨rfl, N2q, e2⟩ := hQ2
          have N2 := Fr.app N1 N2q
          obtain ⟨fs, hr, hrun, hended, hW, hsame⟩ := X2.leave (v := some (.int (1 : Int32))) (fun h => by rw [Bd.returns] at h; cases h)
          refine ⟨_, _, pre0 _ ?_, hrun, hended, _, _, rfl, ?_, ⟨_, rfl⟩, hW, hsame.mono (by decide) (by decide)⟩
          · show Steps p.tables e below (s₁.setTop (mkF m 0 #[.val (.int p0), .unset] [])) _
            refine XS.iloadN X0.here hx rfl (hb hby d1_0) rfl ?_
            show Steps p.tables e below (s₁.setTop (mkF m 1 #[.val (.int p0), .unset] [(.int p0)])) _
            refine st1 _ ?_
            show Steps p.tables e below (T1.setTop (mkF m 4 #[.val (.int p0), .unset] [.null])) _
            refine XS.astoreN X1.here hx rfl (hb hby d1_4) rfl rfl (l' := #[.val (.int p0), .val .null]) rfl ?_
            show Steps p.tables e below (T1.setTop (mkF m 5 #[.val (.int p0), .val .null] [])) _
            refine XS.aloadN X1.here hx rfl (hb hby d1_5) rfl rfl ?_
            show Steps p.tables e below (T1.setTop (mkF m 6 #[.val (.int p0), .val .null] [.null])) _
            refine XS.iloadN X1.here hx rfl (hb hby d1_6) rfl ?_
            show Steps p.tables e below (T1.setTop (mkF m 7 #[.val (.int p0), .val .null] [(.int p0), .null])) _
            refine st2 _ ?_
            show Steps p.tables e below (T2.setTop (mkF m 10 #[.val (.int p0), .val .null] [.null, .null])) _
            refine Jvm.RoadKit.acmp (g := (mkF m 10 #[.val (.int p0), .val .null] [.null, .null])) X2 hx rfl rfl rfl (pc0 := 10) (pc' := 15) (same := true) rfl (hb hby d1_10) rfl (decide_eq_true rfl) (by decide) (by decide) ?_
            show Steps p.tables e below (T2.setTop (mkF m 15 #[.val (.int p0), .val .null] [])) _
            refine XS.aloadN X2.here hx rfl (hb hby d1_15) rfl rfl ?_
            show Steps p.tables e below (T2.setTop (mkF m 16 #[.val (.int p0), .val .null] [.null])) _
            refine XS.ifnullYes X2.here hx rfl (pc0 := 16) (pc' := 29) rfl (hb hby d1_16) rfl (by decide) (by decide) ?_
            show Steps p.tables e below (T2.setTop (mkF m 29 #[.val (.int p0), .val .null] [])) _
            refine XS.iconst X2.here hx rfl (hb hby d1_29) ?_
            show Steps p.tables e below (T2.setTop (mkF m 30 #[.val (.int p0), .val .null] [(.int (1 : Int32))])) _
            exact retN X2 hx (t := .boolean) Bd.returns (by simp) (hb hby d1_30) hr
          · show Q_rm1 n0 Z aSTABLE aPREWRITTEN aCOMMITTED aABORTED aV kV p0 h0 _ T2.heap _
            rw [e2]
            exact ⟨rfl, N2, K1⟩
theorem pdv3 : parseMethodDescriptor "(I)Z" = some ⟨[.int], some .boolean⟩ := by decide +kernel
theorem ef_rm0 (m : MethodId) (p0 : Int32) (p1 : Int32) : entryFrame m #[(.int p0), (.int p1)] maxLocals = mkF m 0 #[.val (.int p0), .val (.int p1), .unset] [] := by first | (simp [entryFrame, mkF, argsToLocals, Value.category, maxLocals]; done) | rfl
def Q_rm0 (n0 : Nat) (v : Option Value) (h : Heap) (L : List Loc) : Prop := v = some (.int (1 : Int32)) ∧ Fr n0 L
set_option maxRecDepth 65536 in
set_option maxHeartbeats 40000000 in
theorem rm0 (l : Launch) (Z : State) (a0 : Array Value) (hw : ∀ d ∈ tables_1, d.before a0 Z = true) (ws : List Jvm.Cond) (aSTABLE : Addr) (aPREWRITTEN : Addr) (aCOMMITTED : Addr) (aABORTED : Addr) (aV : Addr) (kV : ClassId) (p0 : Int32) (p1 : Int32) (h0 : Heap) (n0 : Nat) (O0 : Old Z n0 h0) (GL : GF Z aSTABLE aPREWRITTEN aCOMMITTED aABORTED aV kV) :
    MetFree l x (head1 (Jvm.Cond.code x code maxLocals ret :: ws) room_1) (fun a U => a = #[(.int p0), (.int p1)] ∧ Z.Warmed39 U.vm ∧ U.heap = h0) (fun _ _ _ _ _ => True) (fun _ U o U' => ∃ v L, o = .returned v ∧ Q_rm0 n0 v U'.heap L ∧ FrameEnd U o U' L room_1.cells room_1.slots) := by
  refine MetFree.of_bodySF (plainFor_of_name pnv1) hisR ?_
  intro p e s m args below meth c s₁ Bd hml0 hP hK
  obtain ⟨rfl, hZ, hh⟩ := hP
  have hx := Bd.exec
  have hby := Bd.bytes
  have hml : c.maxLocals = 3 := hml0
  have hown : s.vm.findClass "com/example/enact/enact/lock/LockStateFromCodePinLaw" = some m.cls := findClass_of_methodNamed Bd.named
  have hnm := (name_of_methodNamed Bd.named Bd.method).1
  have X0 : Stand p l e room_1 s m #[(.int p0), (.int p1)] below meth c s₁ [] 0 0 := Stand.of_body Bd
  have e0 : s₁.heap = h0 := by rw [← hh, Bd.state]; rfl
  have N0 := Fr.nil n0
  have pre0 : ∀ t, Steps p.tables e below (s₁.setTop (mkF m 0 #[.val (.int p0), .val (.int p1), .unset] [])) t → Steps p.tables e below (s₁.setTop (entryFrame m #[(.int p0), (.int p1)] maxLocals)) t := fun t k => castTop (ef_rm0 m p0 p1) k
  have GL' := GL
  obtain ⟨GSSTABLE, GESTABLE, GCSTABLE, GSPREWRITTEN, GEPREWRITTEN, GCPREWRITTEN, GSCOMMITTED, GECOMMITTED, GCCOMMITTED, GSABORTED, GEABORTED, GCABORTED, GSV, GEV, GVV⟩ := GL'
  obtain ⟨_, _, ⟨T1, L1, k1, n1⟩, -, X1, ⟨Lc1, hQ1, l1, y1, z1⟩, st1⟩ := Jvm.LawKit.callS X0 hx (y := MN_4) hown (mvT hZ (Wd hw 0 rfl)) (mvT hZ (Wd hw 1 rfl)) (mvT hZ (Wd hw 2 rfl)) (mvT hZ (Wd hw 3 rfl)) (by decide) (backOf (W := 0) (rm1 l Z a0 hw [] aSTABLE aPREWRITTEN aCOMMITTED aABORTED aV kV (p0) (h0) n0 O0 GL) hZ (Wd hw 3 rfl) (Wd hw 2 rfl) (by decide) (by decide)) (g := (mkF m 8 #[.val (.int p0), .val (.int p1), .val (.int ((p1 &&& (7 : Int32)) - (2 : Int32)))] [(.int p0)])) rfl (by rw [hml]; rfl) (argsL := [(.int p0)]) (rest := []) (lenOf pdv3 rfl) rfl (by show 2 * 0 + _ ≤ _; exact Nat.le_of_eq rfl) (hb hby at_8) (fun _ _ => ⟨rfl, e0, (by decide : 0 + 1 ≤ _), (by decide : 0 + 4 ≤ _)⟩)
  dsimp only [Pt.U, Pt.locs, Pt.cells, Pt.slots] at X1 l1 y1 z1 st1 hQ1
  subst l1 y1 z1
  obtain ⟨rfl, N1q, Kc1⟩ := hQ1
  have O1 := O0.keep Kc1 all0
  have N1 := Fr.app N0 N1q
  obtain ⟨_, _, ⟨T2, L2, k2, n2⟩, -, X2, ⟨Lc2, hQ2, l2, y2, z2⟩, st2⟩ := Jvm.LawKit.callS X1 hx (y := MN_4) hown (mvT hZ (Wd hw 0 rfl)) (mvT hZ (Wd hw 1 rfl)) (mvT hZ (Wd hw 2 rfl)) (mvT hZ (Wd hw 3 rfl)) (by decide) (backOf (W := 0) (rm1 l Z a0 hw [] aSTABLE aPREWRITTEN aCOMMITTED aABORTED aV kV (((p1 &&& (7 : Int32)) - (2 : Int32))) (T1.heap) n0 O1 GL) hZ (Wd hw 3 rfl) (Wd hw 2 rfl) (by decide) (by decide)) (g := (mkF m 15 #[.val (.int p0), .val (.int p1), .val (.int ((p1 &&& (7 : Int32)) - (2 : Int32)))] [(.int ((p1 &&& (7 : Int32)) - (2 : Int32)))])) rfl (by rw [hml]; rfl) (argsL := [(.int ((p1 &&& (7 : Int32)) - (2 : Int32)))]) (rest := []) (lenOf pdv3 rfl) rfl (by show 2 * 0 + _ ≤ _; exact Nat.le_of_eq rfl) (hb hby at_15) (fun _ _ => ⟨rfl, rfl, (by decide : 1 + 1 ≤ _), (by decide : 4 + 4 ≤ _)⟩)
  dsimp only [Pt.U, Pt.locs, Pt.cells, Pt.slots] at X2 l2 y2 z2 st2 hQ2
  subst l2 y2 z2
  obtain ⟨rfl, N2q, Kc2⟩ := hQ2
  have O2 := O1.keep Kc2 all0
  have N2 := Fr.app N1 N2q
  obtain ⟨fs, hr, hrun, hended, hW, hsame⟩ := X2.leave (v := some (.int (1 : Int32))) (fun h => by rw [Bd.returns] at h; cases h)
  refine ⟨_, _, pre0 _ ?_, hrun, hended, _, _, rfl, ?_, ⟨_, rfl⟩, hW, hsame.mono (by decide) (by decide)⟩
  · show Steps p.tables e below (s₁.setTop (mkF m 0 #[.val (.int p0), .val (.int p1), .unset] [])) _
    refine XS.iloadN X0.here hx rfl (hb hby at_0) rfl ?_
    show Steps p.tables e below (s₁.setTop (mkF m 1 #[.val (.int p0), .val (.int p1), .unset] [(.int p1)])) _
    refine XS.bipush X0.here hx rfl (hb hby at_1) ?_
    show Steps p.tables e below (s₁.setTop (mkF m 3 #[.val (.int p0), .val (.int p1), .unset] [(.int (7 : Int32)), (.int p1)])) _
    refine XS.iand X0.here hx rfl (hb hby at_3) rfl ?_
    show Steps p.tables e below (s₁.setTop (mkF m 4 #[.val (.int p0), .val (.int p1), .unset] [(.int (p1 &&& (7 : Int32)))])) _
    refine XS.iconst X0.here hx rfl (hb hby at_4) ?_
    show Steps p.tables e below (s₁.setTop (mkF m 5 #[.val (.int p0), .val (.int p1), .unset] [(.int (2 : Int32)), (.int (p1 &&& (7 : Int32)))])) _
    refine XS.isub X0.here hx rfl (hb hby at_5) rfl ?_
    show Steps p.tables e below (s₁.setTop (mkF m 6 #[.val (.int p0), .val (.int p1), .unset] [(.int ((p1 &&& (7 : Int32)) - (2 : Int32)))])) _
    refine XS.istoreN X0.here hx rfl (hb hby at_6) rfl (l' := #[.val (.int p0), .val (.int p1), .val (.int ((p1 &&& (7 : Int32)) - (2 : Int32)))]) rfl ?_
    show Steps p.tables e below (s₁.setTop (mkF m 7 #[.val (.int p0), .val (.int p1), .val (.int ((p1 &&& (7 : Int32)) - (2 : Int32)))] [])) _
    refine XS.iloadN X0.here hx rfl (hb hby at_7) rfl ?_
    show Steps p.tables e below (s₁.setTop (mkF m 8 #[.val (.int p0), .val (.int p1), .val (.int ((p1 &&& (7 : Int32)) - (2 : Int32)))] [(.int p0)])) _
    refine st1 _ ?_
    show Steps p.tables e below (T1.setTop (mkF m 11 #[.val (.int p0), .val (.int p1), .val (.int ((p1 &&& (7 : Int32)) - (2 : Int32)))] [(.int (1 : Int32))])) _
    refine XS.ifNo X1.here hx rfl (hb hby at_11) rfl ((if0 _ _).trans (feq (by decide : ¬ ((1 : Int32) = (0 : Int32)))).1) ?_
    show Steps p.tables e below (T1.setTop (mkF m 14 #[.val (.int p0), .val (.int p1), .val (.int ((p1 &&& (7 : Int32)) - (2 : Int32)))] [])) _
    refine XS.iloadN X1.here hx rfl (hb hby at_14) rfl ?_
    show Steps p.tables e below (T1.setTop (mkF m 15 #[.val (.int p0), .val (.int p1), .val (.int ((p1 &&& (7 : Int32)) - (2 : Int32)))] [(.int ((p1 &&& (7 : Int32)) - (2 : Int32)))])) _
    refine st2 _ ?_
    show Steps p.tables e below (T2.setTop (mkF m 18 #[.val (.int p0), .val (.int p1), .val (.int ((p1 &&& (7 : Int32)) - (2 : Int32)))] [(.int (1 : Int32))])) _
    refine XS.ifNo X2.here hx rfl (hb hby at_18) rfl ((if0 _ _).trans (feq (by decide : ¬ ((1 : Int32) = (0 : Int32)))).1) ?_
    show Steps p.tables e below (T2.setTop (mkF m 21 #[.val (.int p0), .val (.int p1), .val (.int ((p1 &&& (7 : Int32)) - (2 : Int32)))] [])) _
    refine XS.iconst X2.here hx rfl (hb hby at_21) ?_
    show Steps p.tables e below (T2.setTop (mkF m 22 #[.val (.int p0), .val (.int p1), .val (.int ((p1 &&& (7 : Int32)) - (2 : Int32)))] [(.int (1 : Int32))])) _
    refine XS.goto X2.here hx rfl (pc0 := 22) (pc' := 26) rfl (hb hby at_22) (by decide) (by decide) ?_
    show Steps p.tables e below (T2.setTop (mkF m 26 #[.val (.int p0), .val (.int p1), .val (.int ((p1 &&& (7 : Int32)) - (2 : Int32)))] [(.int (1 : Int32))])) _
    exact retN X2 hx (t := .boolean) Bd.returns (by simp) (hb hby at_26) hr
  · show Q_rm0 n0 _ T2.heap _
    exact ⟨rfl, N2⟩
set_option maxRecDepth 65536 in
set_option maxHeartbeats 40000000 in
theorem comes_1 {Post : Tables → Env → Array Value → State → Outcome → State → Prop} (hpost : ∀ tb e args s v u, (limb_1_1.after args s (.returned v) u = true ∧ limb_1_2.after args s (.returned v) u = true ∧ True) → FrameEnd s (.returned v) u (Jvm.fieldLocs frame_1_writes args s ++ Jvm.arrayLocs frame_1_arrays args s ++ Jvm.staticLocs frame_1_statics s) 16 128 → Post tb e args s (.returned v) u) :
    ArmFor flags0 classFile x code maxLocals ret World_1 tables_1 room_1 Calls_1 rest_1 Pre_1 Post := by
  intro l hfl _ _ p e ha hc hk s m args below hf hA hF happ hP
  obtain ⟨hcalls, hrest, hpre⟩ := hP
  obtain ⟨-, -, -, hnamed, -, -, -, hat⟩ := (Spec.applies_iff hf).mp happ
  obtain ⟨hg, hn⟩ := and_e (Cond.before_iff.mp (show (Jvm.Cond.and given_1 narrow_1).before args s = true from hpre))
  obtain ⟨gv_l0, gv_r0⟩ := and_e hg
  obtain ⟨gv_l2, gv_r2⟩ := and_e gv_r0
  obtain ⟨w0, w1, rfl⟩ : ∃ w0 w1 : Value, args = #[w0, w1] := by
    have hs : args.size = 2 := by simpa [Cond.value, given_1] using gv_l0
    obtain ⟨L⟩ := args
    match L, hs with
    | [w0, w1], _ => exact ⟨w0, w1, rfl⟩
  have hw := fun d (hd : d ∈ tables_1) => atoms_spec (ws := Jvm.Cond.code x code maxLocals ret :: tables_1) hat d (List.mem_cons_of_mem _ hd)
  have hfit : Fit s := fun {y c} hc i hi => by
    obtain ⟨ha, rfl⟩ := Array.getElem?_eq_some_iff.mp hc
    have q := List.all_eq_true.mp ((Array.all_eq_true_iff_forall_mem.mp hF) _ (Array.getElem_mem ha)) i (List.mem_range.mpr hi)
    simpa [Array.getElem?_eq_getElem hi] using q
  obtain ⟨i0, ei0⟩ := is_v gv_l2
  obtain rfl : w0 = (.int i0) := Option.some.inj ei0
  obtain ⟨i1, ei1⟩ := is_v gv_r2
  obtain rfl : w1 = (.int i1) := Option.some.inj ei1
  obtain ⟨nv_l0, nv_r0⟩ := and_e hn
  obtain ⟨nv_l2, nv_r2⟩ := and_e nv_r0
  obtain ⟨nv_l4, nv_r4⟩ := and_e nv_r2
  obtain ⟨nv_l6, nv_r6⟩ := and_e nv_r4
  obtain ⟨nv_l8, nv_r8⟩ := and_e nv_r6
  obtain ⟨nv_l10, nv_r10⟩ := and_e nv_r8
  obtain ⟨nv_l12, nv_r12⟩ := and_e nv_r10
  obtain ⟨nv_l14, nv_r14⟩ := and_e nv_r12
  obtain ⟨nv_l16, nv_r16⟩ := and_e nv_r14
  obtain ⟨nv_l18, nv_r18⟩ := and_e nv_r16
  obtain ⟨nv_l20, nv_r20⟩ := and_e nv_r18
  obtain ⟨nv_l22, nv_r22⟩ := and_e nv_r20
  obtain ⟨nv_l24, nv_r24⟩ := and_e nv_r22
  obtain ⟨nv_l26, nv_r26⟩ := and_e nv_r24
  obtain ⟨aSTABLE, vSTABLE⟩ := exa_v nv_l6
  obtain ⟨aPREWRITTEN, vPREWRITTEN⟩ := exa_v nv_l10
  obtain ⟨aCOMMITTED, vCOMMITTED⟩ := exa_v nv_l14
  obtain ⟨aABORTED, vABORTED⟩ := exa_v nv_l18
  obtain ⟨aV, vV⟩ := arr_v nv_l0
  obtain ⟨cV, AV⟩ := Arr.start vV nv_l0
  obtain ⟨zV, yV⟩ := own_len AV vV nv_l4
  have GL : GF s aSTABLE aPREWRITTEN aCOMMITTED aABORTED aV cV.cls := ⟨Sta.start vSTABLE (Or.inr ⟨(Wd hw 6 rfl), (Wd hw 20 rfl)⟩), Exa.start vSTABLE nv_l6, Fld.start (own_fi vSTABLE nv_l22), Sta.start vPREWRITTEN (Or.inr ⟨(Wd hw 6 rfl), (Wd hw 21 rfl)⟩), Exa.start vPREWRITTEN nv_l10, Fld.start (own_fi vPREWRITTEN nv_l24), Sta.start vCOMMITTED (Or.inr ⟨(Wd hw 6 rfl), (Wd hw 22 rfl)⟩), Exa.start vCOMMITTED nv_l14, Fld.start (own_fi vCOMMITTED nv_l26), Sta.start vABORTED (Or.inr ⟨(Wd hw 6 rfl), (Wd hw 23 rfl)⟩), Exa.start vABORTED nv_l18, Fld.start (own_fi vABORTED nv_r26), Sta.start vV (Or.inr ⟨(Wd hw 6 rfl), (Wd hw 12 rfl)⟩), Exa.start vV nv_l2, Arv.start hfit AV zV yV (by decide) rfl ⟨own_elr (j := (0 : Int32)) AV.1 vV vSTABLE nv_l8, own_elr (j := (1 : Int32)) AV.1 vV vPREWRITTEN nv_l12, own_elr (j := (2 : Int32)) AV.1 vV vCOMMITTED nv_l16, own_elr (j := (3 : Int32)) AV.1 vV vABORTED nv_l20, trivial⟩⟩
  obtain ⟨n, o, h1, h2, h3, _, L, rfl, ⟨rfl, N⟩, hq⟩ := rm0 l s _ hw tables_1 aSTABLE aPREWRITTEN aCOMMITTED aABORTED aV cV.cls i0 i1 s.heap s.heap.size (Old.start s) GL p e ha hc hk s m _ below hf ((Spec.applies_iff_loose hf).mp happ).1 ⟨rfl, State.Warmed39.refl s, rfl⟩ trivial
  refine ⟨n, _, h1, h2, h3, hpost _ _ _ _ _ _ ⟨Cond.after_iff.mpr rfl, Cond.after_iff.mpr (eq_i res_at (Term.int_eval (1)) rfl), trivial⟩ ⟨hq.1, hq.2.1, (hq.2.2.sift fun y hy => Or.inr (N y hy)).mono (by decide) (by decide)⟩⟩
theorem main_1_1 : Claimed_1_1 := comes_1 fun _ _ _ _ _ _ h hF => ⟨h.1, hF⟩
theorem main_1_2 : Claimed_1_2 := comes_1 fun _ _ _ _ _ _ h hF => ⟨h.2.1, hF⟩
end Jvm.Pilot.@@N@@
namespace Jvm.Pilot.@@N@@
open Jvm Jvm.ClassFile Sem Op Lib Jvm.Free Jvm.Stand Jvm.Pilot.@@N@@.Jvm.D
/-! MADE BY PROGRAM (witnessworld.py) out of the Statement's table words and the real class files: 13 classes; the members and pool entries that the words name. The judged class is class 1, her method 3. -/
namespace start1
open Jvm.ClassFile
def u (s : String) : CpInfo := .utf8 (stringToUtf16 s)
/-- a pool by its gaps: so many unusable entries, then the entry; so many at the end -/
def gap : Nat → List CpInfo → List CpInfo
  | 0, r => r
  | n + 1, r => .unusable :: gap n r
def poolList (es : List (Nat × CpInfo)) (last : Nat) : List CpInfo := es.foldr (fun e r => gap e.1 (e.2 :: r)) (gap last [])
def pool (es : List (Nat × CpInfo)) (last : Nat) : Array CpInfo := ⟨poolList es last⟩
def fileOf (pool : Array CpInfo) (this : Nat) (attrs : Array Attribute := #[]) (ms : Array MethodInfo := #[]) (fl : Nat := 33) (sup : Nat := 0) (ifs : Array Nat := #[]) (fds : Array FieldInfo := #[]) : ClassFile where
  minorVersion := 0
  majorVersion := 65
  constantPool := pool
  accessFlags := fl
  thisClass := this
  superClass := sup
  interfaces := ifs
  fields := fds
  methods := ms
  attributes := attrs
def plain (name : String) (sup : Option ClassId) : Class where
  name := name
  kind := .ordinary
  loader := none
  accessFlags := 33
  super := sup
  interfaces := #[]
  cf := none
  fields := #[]
  methods := #[]
  instanceTypes := #[]
  staticTypes := #[]
  resolved := #[]
  callSites := []
  init := .initialized
  statics := none
  mirror := none

def pool0 : Array CpInfo := pool [(5, u "<init>"), (0, u "()V"), (1, .class_ 10), (1, u "java/lang/Object"), (85, u "clone"), (0, u "()Ljava/lang/Object;")] 26

def k0m0 : Method := { name := "<init>", desc := "()V", sig := { parameters := [], returnType := none }, accessFlags := 1, code := none }
def k0m1 : Method := { name := "clone", desc := "()Ljava/lang/Object;", sig := { parameters := [], returnType := some (.object "java/lang/Object") }, accessFlags := 260, code := none }
/-- java/lang/Object -/
def k0 : Class := { plain "java/lang/Object" none with
  accessFlags := 33
  interfaces := #[]
  cf := some (fileOf pool0 8 #[] #[{ accessFlags := 1, nameIndex := 5, descriptorIndex := 6, attributes := #[] }, { accessFlags := 260, nameIndex := 96, descriptorIndex := 97, attributes := #[] }] 33 0 #[] #[])
  fields := #[]
  methods := #[k0m0, k0m1]
  instanceTypes := #[]
  staticTypes := #[]
  resolved := Array.replicate 124 none
  statics := none }

def pool1 : Array CpInfo := pool [(2, .class_ 4), (1, u "java/lang/Object"), (0, u "<init>"), (0, u "()V"), (0, .fieldref 8 9), (0, .class_ 10), (0, .nameAndType 11 12), (0, u "com/example/enact/enact/lock/LockState"), (0, u "STABLE"), (0, u "Lcom/example/enact/enact/lock/LockState;"), (0, .fieldref 8 14), (0, .nameAndType 15 12), (0, u "PREWRITTEN"), (0, .fieldref 8 17), (0, .nameAndType 18 12), (0, u "COMMITTED"), (0, .fieldref 8 20), (0, .nameAndType 21 12), (0, u "ABORTED"), (0, .methodref 8 23), (0, .nameAndType 24 25), (0, u "fromCode"), (0, u "(I)Lcom/example/enact/enact/lock/LockState;"), (0, .methodref 27 28), (0, .class_ 29), (0, .nameAndType 30 25), (0, u "com/example/enact/enact/lock/LockStateFromCodePinLaw"), (0, u "expected"), (0, .methodref 8 32), (0, .nameAndType 33 34), (0, u "code"), (0, u "()I"), (0, .methodref 27 36), (0, .nameAndType 37 38), (0, u "check"), (0, u "(I)Z"), (3, u "law"), (0, u "(II)Z")] 2

def k1m0 : Method := { name := "<init>", desc := "()V", sig := { parameters := [], returnType := none }, accessFlags := 1, code := none }
def k1c1 : Code := { maxStack := 2, maxLocals := 1, code := method_2_code, exceptionTable := #[], attributes := #[] }
def k1m1 : Method := { name := "expected", desc := "(I)Lcom/example/enact/enact/lock/LockState;", sig := { parameters := [.int], returnType := some (.object "com/example/enact/enact/lock/LockState") }, accessFlags := 10, code := some k1c1 }
def k1c2 : Code := { maxStack := 2, maxLocals := 2, code := method_3_code, exceptionTable := #[], attributes := #[] }
def k1m2 : Method := { name := "check", desc := "(I)Z", sig := { parameters := [.int], returnType := some .boolean }, accessFlags := 10, code := some k1c2 }
def k1c3 : Code := { maxStack := 2, maxLocals := 3, code := code, exceptionTable := #[], attributes := #[] }
def k1m3 : Method := { name := "law", desc := "(II)Z", sig := { parameters := [.int, .int], returnType := some .boolean }, accessFlags := 9, code := some k1c3 }
/-- com/example/enact/enact/lock/LockStateFromCodePinLaw -/
def k1 : Class := { plain "com/example/enact/enact/lock/LockStateFromCodePinLaw" (some 0) with
  accessFlags := 49
  interfaces := #[]
  cf := some (fileOf pool1 27 #[] #[{ accessFlags := 1, nameIndex := 5, descriptorIndex := 6, attributes := #[] }, { accessFlags := 10, nameIndex := 30, descriptorIndex := 25, attributes := #[] }, { accessFlags := 10, nameIndex := 37, descriptorIndex := 38, attributes := #[] }, { accessFlags := 9, nameIndex := 42, descriptorIndex := 43, attributes := #[] }] 49 2 #[] #[])
  fields := #[]
  methods := #[k1m0, k1m1, k1m2, k1m3]
  instanceTypes := #[]
  staticTypes := #[]
  resolved := Array.replicate 46 none
  statics := none }

def pool2 : Array CpInfo := pool [(1, .class_ 2), (0, u "java/lang/constant/Constable"), (0, .class_ 4), (0, u "java/lang/Object")] 6

/-- java/lang/constant/Constable -/
def k2 : Class := { plain "java/lang/constant/Constable" (some 0) with
  accessFlags := 1537
  interfaces := #[]
  cf := some (fileOf pool2 1 #[] #[] 1537 3 #[] #[])
  fields := #[]
  methods := #[]
  instanceTypes := #[]
  staticTypes := #[]
  resolved := Array.replicate 11 none
  statics := none }

def pool3 : Array CpInfo := pool [(1, .class_ 2), (0, u "java/lang/Comparable"), (0, .class_ 4), (0, u "java/lang/Object")] 7

/-- java/lang/Comparable -/
def k3 : Class := { plain "java/lang/Comparable" (some 0) with
  accessFlags := 1537
  interfaces := #[]
  cf := some (fileOf pool3 1 #[] #[] 1537 3 #[] #[])
  fields := #[]
  methods := #[]
  instanceTypes := #[]
  staticTypes := #[]
  resolved := Array.replicate 12 none
  statics := none }

def pool4 : Array CpInfo := pool [(1, .class_ 2), (0, u "java/io/Serializable"), (0, .class_ 4), (0, u "java/lang/Object")] 2

/-- java/io/Serializable -/
def k4 : Class := { plain "java/io/Serializable" (some 0) with
  accessFlags := 1537
  interfaces := #[]
  cf := some (fileOf pool4 1 #[] #[] 1537 3 #[] #[])
  fields := #[]
  methods := #[]
  instanceTypes := #[]
  staticTypes := #[]
  resolved := Array.replicate 7 none
  statics := none }

def pool5 : Array CpInfo := pool [(2, .class_ 4), (1, u "java/lang/Enum"), (0, u "name"), (0, u "Ljava/lang/String;"), (2, u "ordinal"), (0, u "I"), (1, .class_ 14), (1, u "java/lang/Object"), (4, u "hash"), (86, .class_ 108), (1, u "java/lang/Enum$EnumDesc"), (2, .class_ 112), (0, u "java/lang/constant/Constable"), (0, .class_ 114), (0, u "java/lang/Comparable"), (0, .class_ 116), (0, u "java/io/Serializable")] 87

/-- java/lang/Enum -/
def k5 : Class := { plain "java/lang/Enum" (some 0) with
  accessFlags := 1057
  interfaces := #[2, 3, 4]
  cf := some (fileOf pool5 2 #[.nestMembers #[106]] #[] 1057 12 #[111, 113, 115] #[{ accessFlags := 18, nameIndex := 5, descriptorIndex := 6, attributes := #[] }, { accessFlags := 18, nameIndex := 9, descriptorIndex := 10, attributes := #[] }, { accessFlags := 2, nameIndex := 19, descriptorIndex := 10, attributes := #[] }])
  fields := #[{ name := "name", type := (.object "java/lang/String"), accessFlags := 18, slot := 0, constantValue := 0 }, { name := "ordinal", type := .int, accessFlags := 18, slot := 1, constantValue := 0 }, { name := "hash", type := .int, accessFlags := 2, slot := 2, constantValue := 0 }]
  methods := #[]
  instanceTypes := #[(.object "java/lang/String"), .int, .int]
  staticTypes := #[]
  resolved := Array.replicate 204 none
  statics := none }

def pool6 : Array CpInfo := pool [(1, .class_ 2), (0, u "com/example/enact/enact/lock/LockState"), (2, u "STABLE"), (0, u "Lcom/example/enact/enact/lock/LockState;"), (2, u "PREWRITTEN"), (2, u "COMMITTED"), (2, u "ABORTED"), (0, .fieldref 1 17), (0, .nameAndType 18 19), (0, u "$VALUES"), (0, u "[Lcom/example/enact/enact/lock/LockState;"), (0, .methodref 21 22), (0, .class_ 19), (0, .nameAndType 23 24), (0, u "clone"), (0, u "()Ljava/lang/Object;"), (1, .class_ 28), (1, u "java/lang/Enum"), (6, .fieldref 1 36), (0, .nameAndType 37 38), (0, u "code"), (0, u "I"), (0, .methodref 1 40), (0, .nameAndType 41 42), (0, u "values"), (0, u "()[Lcom/example/enact/enact/lock/LockState;"), (16, u "()I"), (0, u "fromCode"), (0, u "(I)Lcom/example/enact/enact/lock/LockState;")] 6

def k6c0 : Code := { maxStack := 1, maxLocals := 0, code := prog_2_method_1_code, exceptionTable := #[], attributes := #[] }
def k6m0 : Method := { name := "values", desc := "()[Lcom/example/enact/enact/lock/LockState;", sig := { parameters := [], returnType := some (.array (.object "com/example/enact/enact/lock/LockState")) }, accessFlags := 9, code := some k6c0 }
def k6c1 : Code := { maxStack := 1, maxLocals := 1, code := prog_2_method_4_code, exceptionTable := #[], attributes := #[] }
def k6m1 : Method := { name := "code", desc := "()I", sig := { parameters := [], returnType := some .int }, accessFlags := 0, code := some k6c1 }
def k6c2 : Code := { maxStack := 2, maxLocals := 5, code := prog_2_method_5_code, exceptionTable := #[], attributes := #[] }
def k6m2 : Method := { name := "fromCode", desc := "(I)Lcom/example/enact/enact/lock/LockState;", sig := { parameters := [.int], returnType := some (.object "com/example/enact/enact/lock/LockState") }, accessFlags := 8, code := some k6c2 }
/-- com/example/enact/enact/lock/LockState -/
def k6 : Class := { plain "com/example/enact/enact/lock/LockState" (some 5) with
  accessFlags := 16433
  interfaces := #[]
  cf := some (fileOf pool6 1 #[] #[{ accessFlags := 9, nameIndex := 41, descriptorIndex := 42, attributes := #[] }, { accessFlags := 0, nameIndex := 37, descriptorIndex := 59, attributes := #[] }, { accessFlags := 8, nameIndex := 60, descriptorIndex := 61, attributes := #[] }] 16433 26 #[] #[{ accessFlags := 16409, nameIndex := 5, descriptorIndex := 6, attributes := #[] }, { accessFlags := 16409, nameIndex := 9, descriptorIndex := 6, attributes := #[] }, { accessFlags := 16409, nameIndex := 12, descriptorIndex := 6, attributes := #[] }, { accessFlags := 16409, nameIndex := 15, descriptorIndex := 6, attributes := #[] }, { accessFlags := 18, nameIndex := 37, descriptorIndex := 38, attributes := #[] }, { accessFlags := 4122, nameIndex := 18, descriptorIndex := 19, attributes := #[] }])
  fields := #[{ name := "STABLE", type := (.object "com/example/enact/enact/lock/LockState"), accessFlags := 16409, slot := 0, constantValue := 0 }, { name := "PREWRITTEN", type := (.object "com/example/enact/enact/lock/LockState"), accessFlags := 16409, slot := 1, constantValue := 0 }, { name := "COMMITTED", type := (.object "com/example/enact/enact/lock/LockState"), accessFlags := 16409, slot := 2, constantValue := 0 }, { name := "ABORTED", type := (.object "com/example/enact/enact/lock/LockState"), accessFlags := 16409, slot := 3, constantValue := 0 }, { name := "code", type := .int, accessFlags := 18, slot := 3, constantValue := 0 }, { name := "$VALUES", type := (.array (.object "com/example/enact/enact/lock/LockState")), accessFlags := 4122, slot := 4, constantValue := 0 }]
  methods := #[k6m0, k6m1, k6m2]
  instanceTypes := #[(.object "java/lang/String"), .int, .int, .int]
  staticTypes := #[(.object "com/example/enact/enact/lock/LockState"), (.object "com/example/enact/enact/lock/LockState"), (.object "com/example/enact/enact/lock/LockState"), (.object "com/example/enact/enact/lock/LockState"), (.array (.object "com/example/enact/enact/lock/LockState"))]
  resolved := Array.replicate 68 none
  statics := some 0 }

def pool7 : Array CpInfo := pool [(1, .class_ 2), (0, u "java/lang/Cloneable"), (0, .class_ 4), (0, u "java/lang/Object")] 2

/-- java/lang/Cloneable -/
def k7 : Class := { plain "java/lang/Cloneable" (some 0) with
  accessFlags := 1537
  interfaces := #[]
  cf := some (fileOf pool7 1 #[] #[] 1537 3 #[] #[])
  fields := #[]
  methods := #[]
  instanceTypes := #[]
  staticTypes := #[]
  resolved := Array.replicate 7 none
  statics := none }

/-- the primitive byte -/
def k8 : Class := { plain "byte" none with kind := .primitive 'B', accessFlags := 0x411 }
/-- [B -/
def k9 : Class := { plain "[B" (some 0) with kind := .array 8 .byte, interfaces := #[7, 4], accessFlags := 1041 }

/-- the primitive int -/
def k10 : Class := { plain "int" none with kind := .primitive 'I', accessFlags := 0x411 }
/-- [I -/
def k11 : Class := { plain "[I" (some 0) with kind := .array 10 .int, interfaces := #[7, 4], accessFlags := 1041 }

/-- [Lcom/example/enact/enact/lock/LockState; -/
def k12 : Class := { plain "[Lcom/example/enact/enact/lock/LockState;" (some 0) with kind := .array 6 (.object "com/example/enact/enact/lock/LockState"), interfaces := #[7, 4], accessFlags := 1041 }

def heap : Heap := #[{ cls := 6, slots := #[.ref 2, .ref 3, .ref 4, .ref 5, .ref 1], vm := .statics 6 },
  { cls := 12, slots := #[.ref 2, .ref 3, .ref 4, .ref 5], vm := .none },
  { cls := 6, slots := #[.null, .int 0, .int 0, .int 0], vm := .none },
  { cls := 6, slots := #[.null, .int 1, .int 0, .int 1], vm := .none },
  { cls := 6, slots := #[.null, .int 2, .int 0, .int 2], vm := .none },
  { cls := 6, slots := #[.null, .int 3, .int 0, .int 3], vm := .none }]
def classes : Array Class := #[k0, k1, k2, k3, k4, k5, k6, k7, k8, k9, k10, k11, k12]
def interned : List (Array UInt16 × Addr) := []
def slotsUsed : Nat := 25
def theMethod : MethodId := ⟨1, 3⟩
def args0 : Array Value := #[.int 5, .int 3]
def aboutOver (below : List Frame) : State where
  vm := { classes := classes, interned := interned.toArray }
  heap := heap
  slotsUsed := slotsUsed
  threads := #[{ frames := .invoking theMethod args0 :: below }]
def below0 : List Frame := [.native { method := ⟨0, 0⟩, args := #[] }]
def about1 : State := aboutOver below0
def p0 : Program := .bare "" "" ""
def e0 : Env := launch0.env 0 0 0
theorem w_frames : about1.frames = Frame.invoking theMethod args0 :: below0 := rfl
set_option maxRecDepth 65536 in
theorem w_args : argsFit about1.vm theMethod args0 = true := by decide +kernel
set_option maxRecDepth 65536 in
theorem w_heap : heapFits about1 = true := by decide +kernel
set_option maxRecDepth 65536 in
theorem w_runnable : about1.curStatus? = some .runnable := by decide +kernel
set_option maxRecDepth 65536 in
theorem w_alone : about1.alone = true := by decide +kernel
set_option maxRecDepth 65536 in
theorem w_named : about1.methodNamed? x = some theMethod := by decide +kernel
set_option maxRecDepth 65536 in
theorem w_hears : about1.hears theMethod below0 = true := by decide +kernel
set_option maxRecDepth 65536 in
theorem w_ripe : about1.ripe theMethod args0 below0 = true := by decide +kernel
theorem w_running : about1.status = .running := rfl
set_option maxRecDepth 65536 in
theorem w_room : about1.hasRoom e0.platform room_1 = true :=
  launch0.hasRoom_least _ room_1 (by decide +kernel) (by decide +kernel) (by decide +kernel) (by decide +kernel) (by decide +kernel) (by decide +kernel)
theorem allAtoms_all (ts : List Jvm.Cond) (a : Array Jvm.Value) (st : Jvm.State) : (allAtoms ts).before a st = ts.all (fun c => c.before a st) := by
  induction ts with
  | nil => rfl
  | cons c t ih =>
    show (Jvm.Cond.and c (allAtoms t)).before a st = _
    rw [Jvm.Cond.before_and, ih, List.all_cons]
def words1 : List Jvm.Cond := Jvm.Cond.code x code maxLocals ret :: tables_1
/-- a 'code' word, met by the world's own term for the bytes: nothing is compared byte by byte -/
theorem code_word {y : MethodName} {bytes : ByteArray} {mx : Nat} {rt : Option FieldType} {a : Array Value} {s : State} {m : MethodId} {meth : Method} {c : Code} (h1 : s.methodNamed? y = some m) (h2 : s.vm.method? m = some meth) (h3 : meth.code = some c) (h4 : c.code = bytes)
    (h5 : (c.maxLocals == mx && c.exceptionTable.isEmpty && decide (c.maxStack ≤ mostOperands) && decide (meth.sig.returnType = rt) && !meth.locks && decide (parseMethodDescriptor y.desc = some meth.sig)) = true) : (Jvm.Cond.code y bytes mx rt).before a s = true := by
  simp only [Bool.and_eq_true, beq_iff_eq, Bool.not_eq_true', decide_eq_true_eq] at h5
  obtain ⟨⟨⟨⟨⟨g1, g2⟩, g3⟩, g4⟩, g5⟩, g6⟩ := h5
  simp [Cond.before, Cond.holds, Cond.value, h1, h2, h3, h4, g1, g2, g3, g4, g5, g6]
def isCode : Jvm.Cond → Bool
  | .code _ _ _ _ => true
  | _ => false
theorem all_split {L : List Jvm.Cond} {P : Jvm.Cond → Bool} (h1 : L.all (fun c => isCode c || P c) = true) (h2 : ∀ c ∈ L.filter isCode, P c = true) : L.all P = true := by
  refine List.all_eq_true.mpr fun c hc => ?_
  have h := List.all_eq_true.mp h1 c hc
  rcases Bool.eq_false_or_eq_true (isCode c) with hi | hi
  · exact h2 c (List.mem_filter.mpr ⟨hc, hi⟩)
  · simpa [hi] using h
set_option maxRecDepth 65536 in
theorem w_c0 : (Jvm.Cond.code x code maxLocals ret).before args0 about1 = true := code_word (m := ⟨1, 3⟩) (meth := k1m3) (c := k1c3) (by decide +kernel) rfl rfl rfl (by decide +kernel)
set_option maxRecDepth 65536 in
theorem w_c1 : (Jvm.Cond.code ({ cls := "com/example/enact/enact/lock/LockStateFromCodePinLaw", name := "check", desc := "(I)Z" } : Jvm.MethodName) method_3_code (2 : Nat) (Option.some Jvm.ClassFile.FieldType.boolean)).before args0 about1 = true := code_word (m := ⟨1, 2⟩) (meth := k1m2) (c := k1c2) (by decide +kernel) rfl rfl rfl (by decide +kernel)
set_option maxRecDepth 65536 in
theorem w_c2 : (Jvm.Cond.code ({ cls := "com/example/enact/enact/lock/LockState", name := "fromCode", desc := "(I)Lcom/example/enact/enact/lock/LockState;" } : Jvm.MethodName) prog_2_method_5_code (5 : Nat) (Option.some (Jvm.ClassFile.FieldType.object "com/example/enact/enact/lock/LockState"))).before args0 about1 = true := code_word (m := ⟨6, 2⟩) (meth := k6m2) (c := k6c2) (by decide +kernel) rfl rfl rfl (by decide +kernel)
set_option maxRecDepth 65536 in
theorem w_c3 : (Jvm.Cond.code ({ cls := "com/example/enact/enact/lock/LockState", name := "values", desc := "()[Lcom/example/enact/enact/lock/LockState;" } : Jvm.MethodName) prog_2_method_1_code (0 : Nat) (Option.some (Jvm.ClassFile.FieldType.array (Jvm.ClassFile.FieldType.object "com/example/enact/enact/lock/LockState")))).before args0 about1 = true := code_word (m := ⟨6, 0⟩) (meth := k6m0) (c := k6c0) (by decide +kernel) rfl rfl rfl (by decide +kernel)
set_option maxRecDepth 65536 in
theorem w_c4 : (Jvm.Cond.code ({ cls := "com/example/enact/enact/lock/LockStateFromCodePinLaw", name := "expected", desc := "(I)Lcom/example/enact/enact/lock/LockState;" } : Jvm.MethodName) method_2_code (1 : Nat) (Option.some (Jvm.ClassFile.FieldType.object "com/example/enact/enact/lock/LockState"))).before args0 about1 = true := code_word (m := ⟨1, 1⟩) (meth := k1m1) (c := k1c1) (by decide +kernel) rfl rfl rfl (by decide +kernel)
set_option maxRecDepth 65536 in
theorem w_c5 : (Jvm.Cond.code ({ cls := "com/example/enact/enact/lock/LockState", name := "code", desc := "()I" } : Jvm.MethodName) prog_2_method_4_code (1 : Nat) (Option.some Jvm.ClassFile.FieldType.int)).before args0 about1 = true := code_word (m := ⟨6, 1⟩) (meth := k6m1) (c := k6c1) (by decide +kernel) rfl rfl rfl (by decide +kernel)
def codes1 : List Jvm.Cond := [Jvm.Cond.code x code maxLocals ret, Jvm.Cond.code ({ cls := "com/example/enact/enact/lock/LockStateFromCodePinLaw", name := "check", desc := "(I)Z" } : Jvm.MethodName) method_3_code (2 : Nat) (Option.some Jvm.ClassFile.FieldType.boolean), Jvm.Cond.code ({ cls := "com/example/enact/enact/lock/LockState", name := "fromCode", desc := "(I)Lcom/example/enact/enact/lock/LockState;" } : Jvm.MethodName) prog_2_method_5_code (5 : Nat) (Option.some (Jvm.ClassFile.FieldType.object "com/example/enact/enact/lock/LockState")), Jvm.Cond.code ({ cls := "com/example/enact/enact/lock/LockState", name := "values", desc := "()[Lcom/example/enact/enact/lock/LockState;" } : Jvm.MethodName) prog_2_method_1_code (0 : Nat) (Option.some (Jvm.ClassFile.FieldType.array (Jvm.ClassFile.FieldType.object "com/example/enact/enact/lock/LockState"))), Jvm.Cond.code ({ cls := "com/example/enact/enact/lock/LockStateFromCodePinLaw", name := "expected", desc := "(I)Lcom/example/enact/enact/lock/LockState;" } : Jvm.MethodName) method_2_code (1 : Nat) (Option.some (Jvm.ClassFile.FieldType.object "com/example/enact/enact/lock/LockState")), Jvm.Cond.code ({ cls := "com/example/enact/enact/lock/LockState", name := "code", desc := "()I" } : Jvm.MethodName) prog_2_method_4_code (1 : Nat) (Option.some Jvm.ClassFile.FieldType.int)]
set_option maxRecDepth 65536 in
theorem codes_eq : words1.filter isCode = codes1 := rfl
theorem w_codes : ∀ c ∈ words1.filter isCode, c.before args0 about1 = true := by
  rw [codes_eq]
  intro c hc
  simp only [codes1, List.mem_cons, List.not_mem_nil, or_false] at hc
  rcases hc with rfl | rfl | rfl | rfl | rfl | rfl
  · exact w_c0
  · exact w_c1
  · exact w_c2
  · exact w_c3
  · exact w_c4
  · exact w_c5
set_option maxRecDepth 65536 in
theorem w_t1 : (words1.take 24).all (fun c => isCode c || c.before args0 about1) = true := by decide +kernel
set_option maxRecDepth 65536 in
theorem w_t2 : (words1.drop 24).all (fun c => isCode c || c.before args0 about1) = true := by decide +kernel
theorem w_tables : (allAtoms (Jvm.Cond.code x code maxLocals ret :: tables_1)).before args0 about1 = true := by
  rw [allAtoms_all]
  show words1.all (fun c => c.before args0 about1) = true
  refine all_split ?_ w_codes
  rw [← List.take_append_drop 24 words1, List.all_append, w_t1, w_t2]
  rfl
set_option maxRecDepth 65536 in
theorem w_case : (Jvm.Cond.and given_1 narrow_1).before args0 about1 = true := by decide +kernel
theorem w_applies : (headSpec (Jvm.Cond.code x code maxLocals ret :: tables_1) room_1).applies x e0.platform about1 = true :=
  (Spec.applies_iff w_frames).mpr ⟨w_running, w_runnable, w_alone, w_named, w_hears, w_ripe, w_room, w_tables⟩
theorem atStart : AtStart classFile x code maxLocals ret World_1 tables_1 room_1 Calls_1 rest_1 Pre_1 launch0 p0 e0 about1 theMethod args0 below0 :=
  ⟨lists_1, trivial, launch0.admits_env _ _ _, launch0.least_env, fairChoices_fair.cas, fairChoices_fair.clock, w_frames, w_args, w_heap, w_applies, trivial, trivial, w_case⟩
end start1
theorem witness_1 : WitnessClaimed_1 := ⟨start1.p0, start1.e0, start1.about1, start1.theMethod, start1.args0, start1.below0, start1.atStart⟩
end Jvm.Pilot.@@N@@
