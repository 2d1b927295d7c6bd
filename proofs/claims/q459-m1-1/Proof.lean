import JvmDerived
import JvmDerived.Pilot.@@N@@Statement
import JvmDerived.Pilot.@@N@@Code
set_option linter.unusedVariables false
set_option linter.unusedSimpArgs false
namespace Jvm.RoadKit
open Sem ClassFile Op Lib Jvm.Stand Jvm.Free Jvm.LawKit
section New
variable {p : Program} {l : Launch} {e : Env} {R : Room} {s : State} {m : MethodId} {args : Array Value} {below : List Frame} {meth : Method} {c : Code} {T : State} {locs : List Loc} {cells slots : Nat}
theorem retI (X : Stand p l e R s m args below meth c T locs cells slots) (hx : p.tables.exec = Jvm.exec) {pc : Nat} {Ls : Array Slot} {z : Int32} {rest : List Value} (hret : meth.sig.returnType = some .int) (hd : decode c.code pc = .ok (.ireturn, 1)) {fs : List Frame}
    (hl : ∀ (f : JFrame) (acts : List Action), f.method = m → f.locked = none → f.entered = [] → (doReturn e (T.setTop f) acts (some (.int z))).1 = T.setFrames fs) : Steps p.tables e below (T.setTop (mkF m pc Ls (.int z :: rest))) (T.setFrames fs) := by
  have hm' : T.vm.method? m = some meth := X.method'
  have hn : narrow .int (.int z) = .int z := rfl
  show Steps p.tables e below (T.setTop { method := m, pc := pc, locals := Ls, stack := _ :: rest, locked := none }) _
  jvm_step X.here [X.here.top, hx, hd, hm', hret, hn]
  first | (intro acts; rw [hl _ acts rfl rfl rfl]) | rw [hl _ _ rfl rfl rfl]
  exact Steps.refl _
end New
end Jvm.RoadKit
namespace Jvm.Pilot.@@N@@
open Jvm Jvm.ClassFile Sem Op Lib Jvm.Free Jvm.Stand Jvm.LawKit Jvm.RoadKit Bundle Jvm.Pilot.@@N@@.Jvm.D
theorem Wd {Z : State} {a0 : Array Value} {d : Jvm.Cond} (hw : ∀ d ∈ tables_1, d.before a0 Z = true) (i : Nat) (h : tables_1[i]? = some d) : d.before a0 Z = true := hw _ (List.mem_of_getElem? h)
theorem own_sz {Z : State} {n0 : Nat} {h : Heap} (O : Old Z n0 h) : n0 ≤ h.size := O.1 ▸ O.2.1
theorem own_neArv {Z : State} {h : Heap} {a b : Addr} {k k' : ClassId} {ty ty' : FieldType} {z z' : Int32} {vs vs' : List Value} {d d' : Value} (F : Arv Z h a k ty z vs d) (G : Arv Z h b k' ty' z' vs' d') (hn : ty ≠ ty') : a ≠ b := fun q => by
  subst q
  obtain ⟨c1, ⟨e1, ⟨-, k1, hk1, cp1, hd1⟩, -⟩, -⟩ := F
  obtain ⟨c2, ⟨e2, ⟨-, k2, hk2, cp2, hd2⟩, -⟩, -⟩ := G
  cases e1.symm.trans e2
  cases hk1.symm.trans hk2
  rw [hd1] at hd2
  injection hd2 with _ h2
  exact hn h2
theorem own_fi {args : Array Value} {s : State} {t : Term} {a : Addr} {C n d : String} {k : Int32} (ht : t.eval args s none [] s = some (.ref a)) (h : (Jvm.Cond.eq (Jvm.Term.field t C n d) (Jvm.Term.int k)).value args s none s [] = some true) : s.fieldOf? a C n d = some (.int k) := by
  have e := fld_at (C := C) (n := n) (dd := d) ht
  obtain ⟨v, w, h1, h2, h3, h4⟩ := cmp_v (Or.inl h)
  cases (Term.int_eval k).symm.trans h2
  obtain ⟨z, rfl⟩ := h4
  rw [← e, h1]
  simp only [Cond.value, h1, Term.int_eval] at h
  simpa using h
theorem own_len {args : Array Value} {s : State} {t : Term} {a : Addr} {cl : Cell} {ty : FieldType} {z : Int32} (A : Arr s s.heap a cl ty) (ev : t.eval args s none [] s = some (.ref a)) (h : (Jvm.Cond.eq (Jvm.Term.length t) (Jvm.Term.int z)).value args s none s [] = some true) : cl.slots.size < 2 ^ 31 ∧ cl.slots.size.toInt32 = z := by
  have e := Cond.eq_int (beq_iff_eq.mpr h) (Term.int_eval z)
  have hA : s.arrayAt? a = some cl := IntBox.arrayAt_of A.1 A.2.1 A.2.2
  by_cases q : cl.slots.size < 2 ^ 31
  · refine ⟨q, ?_⟩
    have r := len_f ev hA q
    rw [r] at e
    injection e with e
    injection e
  · exfalso
    simp [Term.eval, ev, hA] at e
    omega
theorem own_eli {args : Array Value} {s : State} {t : Term} {a : Addr} {cl : Cell} {j k : Int32} (hc : s.heap[a]? = some cl) (ev : t.eval args s none [] s = some (.ref a)) (h : (Jvm.Cond.eq (Jvm.Term.elem t (Jvm.Term.int j)) (Jvm.Term.int k)).value args s none s [] = some true) : cl.slots[j.toNatClampNeg]? = some (.int k) :=
  (elem_in (Cond.eq_int (beq_iff_eq.mpr h) (Term.int_eval k)) ev (Term.int_eval j) hc).2
theorem own_elr {args : Array Value} {s : State} {t u : Term} {a b : Addr} {cl : Cell} {j : Int32} (hc : s.heap[a]? = some cl) (ev : t.eval args s none [] s = some (.ref a)) (eu : u.eval args s none [] s = some (.ref b)) (h : (Jvm.Cond.eq (Jvm.Term.elem t (Jvm.Term.int j)) u).value args s none s [] = some true) : cl.slots[j.toNatClampNeg]? = some (.ref b) := by
  obtain ⟨v, w, h1, h2, h3, h4⟩ := cmp_v (Or.inl h)
  cases eu.symm.trans h2
  have hv : v = .ref b := gotT (eq_R h1 h2 h4.2 rfl) h
  rw [hv] at h1
  exact (elem_in h1 ev (Term.int_eval j) hc).2
def GF (Z : State) (aDEFAULT : Addr) (aREAD_UNCOMMITTED : Addr) (aREAD_COMMITTED : Addr) (aREPEATABLE_READ : Addr) (aSERIALIZABLE : Addr) : Prop := Sta Z Z.heap "com/example/demarcate/demarcate/Isolation" "DEFAULT" "Lcom/example/demarcate/demarcate/Isolation;" (.ref aDEFAULT) ∧ Exa Z Z.heap aDEFAULT "com/example/demarcate/demarcate/Isolation" ∧ Fld Z Z.heap aDEFAULT "com/example/demarcate/demarcate/Isolation" "jdbcLevel" "I" (.int (0 : Int32)) ∧ Sta Z Z.heap "com/example/demarcate/demarcate/Isolation" "READ_UNCOMMITTED" "Lcom/example/demarcate/demarcate/Isolation;" (.ref aREAD_UNCOMMITTED) ∧ Exa Z Z.heap aREAD_UNCOMMITTED "com/example/demarcate/demarcate/Isolation" ∧ Fld Z Z.heap aREAD_UNCOMMITTED "com/example/demarcate/demarcate/Isolation" "jdbcLevel" "I" (.int (1 : Int32)) ∧ Sta Z Z.heap "com/example/demarcate/demarcate/Isolation" "READ_COMMITTED" "Lcom/example/demarcate/demarcate/Isolation;" (.ref aREAD_COMMITTED) ∧ Exa Z Z.heap aREAD_COMMITTED "com/example/demarcate/demarcate/Isolation" ∧ Fld Z Z.heap aREAD_COMMITTED "com/example/demarcate/demarcate/Isolation" "jdbcLevel" "I" (.int (2 : Int32)) ∧ Sta Z Z.heap "com/example/demarcate/demarcate/Isolation" "REPEATABLE_READ" "Lcom/example/demarcate/demarcate/Isolation;" (.ref aREPEATABLE_READ) ∧ Exa Z Z.heap aREPEATABLE_READ "com/example/demarcate/demarcate/Isolation" ∧ Fld Z Z.heap aREPEATABLE_READ "com/example/demarcate/demarcate/Isolation" "jdbcLevel" "I" (.int (4 : Int32)) ∧ Sta Z Z.heap "com/example/demarcate/demarcate/Isolation" "SERIALIZABLE" "Lcom/example/demarcate/demarcate/Isolation;" (.ref aSERIALIZABLE) ∧ Exa Z Z.heap aSERIALIZABLE "com/example/demarcate/demarcate/Isolation" ∧ Fld Z Z.heap aSERIALIZABLE "com/example/demarcate/demarcate/Isolation" "jdbcLevel" "I" (.int (8 : Int32))
theorem d1_0 : decode prog_2_method_4_code 0 = .ok (.aload_n 0, 1) := by decide +kernel
theorem d1_1 : decode prog_2_method_4_code 1 = .ok (.getstatic 3, 3) := by decide +kernel
theorem d1_4 : decode prog_2_method_4_code 4 = .ok (.if_acmp .ne 13, 3) := by decide +kernel
theorem d1_17 : decode prog_2_method_4_code 17 = .ok (.aload_n 0, 1) := by decide +kernel
theorem d1_18 : decode prog_2_method_4_code 18 = .ok (.getfield 38, 3) := by decide +kernel
theorem d1_21 : decode prog_2_method_4_code 21 = .ok (.ireturn, 1) := by decide +kernel
theorem pn : plainName "com/example/demarcate/demarcate/Isolation" = true := by first | (simp [plainName, overriddenIn]; done) | decide +kernel
abbrev MN_0 : MethodName := ⟨"com/example/demarcate/demarcate/Isolation", "jdbcLevel", "()I"⟩
theorem ef_rm1 (m : MethodId) (a1 : Addr) : entryFrame m #[(.ref a1)] 1 = mkF m 0 #[.val (.ref a1)] [] := by first | (simp [entryFrame, mkF, argsToLocals, Value.category]; done) | rfl
def Q_rm1 (n0 : Nat) (Z : State) (aDEFAULT : Addr) (aREAD_UNCOMMITTED : Addr) (aREAD_COMMITTED : Addr) (aREPEATABLE_READ : Addr) (aSERIALIZABLE : Addr) (a1 : Addr) (lv : Int32) (h0 : Heap) (v : Option Value) (h : Heap) (L : List Loc) : Prop := v = some (.int lv) ∧ Fr n0 L ∧ h = h0
set_option maxRecDepth 65536 in
set_option maxHeartbeats 40000000 in
theorem rm1 (l : Launch) (Z : State) (a0 : Array Value) (hw : ∀ d ∈ tables_1, d.before a0 Z = true) (ws : List Jvm.Cond) (aDEFAULT : Addr) (aREAD_UNCOMMITTED : Addr) (aREAD_COMMITTED : Addr) (aREPEATABLE_READ : Addr) (aSERIALIZABLE : Addr) (a1 : Addr) (lv : Int32) (h0 : Heap) (n0 : Nat) (O0 : Old Z n0 h0) (GL : GF Z aDEFAULT aREAD_UNCOMMITTED aREAD_COMMITTED aREPEATABLE_READ aSERIALIZABLE) (E_a1 : Exa Z h0 a1 "com/example/demarcate/demarcate/Isolation") (F_jdbcLevel_a1 : Fld Z h0 a1 "com/example/demarcate/demarcate/Isolation" "jdbcLevel" "I" (.int lv)) (ne_a1_aDEFAULT : a1 ≠ aDEFAULT) :
    MetFree l MN_0 (head1 (Jvm.Cond.code MN_0 prog_2_method_4_code 1 (some .int) :: ws) ({ frames := 0, cells := 0, slots := 0, locals := 0 } : Room)) (fun a U => a = #[(.ref a1)] ∧ Z.Warmed39 U.vm ∧ U.heap = h0) (fun _ _ _ _ _ => True) (fun _ U o U' => ∃ v L, o = .returned v ∧ Q_rm1 n0 Z aDEFAULT aREAD_UNCOMMITTED aREAD_COMMITTED aREPEATABLE_READ aSERIALIZABLE a1 lv h0 v U'.heap L ∧ FrameEnd U o U' L ({ frames := 0, cells := 0, slots := 0, locals := 0 } : Room).cells ({ frames := 0, cells := 0, slots := 0, locals := 0 } : Room).slots) := by
  refine MetFree.of_bodySF (plainFor_of_name pn) hisR ?_
  intro p e s m args below meth c s₁ Bd hml0 hP hK
  obtain ⟨rfl, hZ, hh⟩ := hP
  have hx := Bd.exec
  have hby := Bd.bytes
  have hml : c.maxLocals = 1 := hml0
  have hown : s.vm.findClass "com/example/demarcate/demarcate/Isolation" = some m.cls := findClass_of_methodNamed Bd.named
  have hnm := (name_of_methodNamed Bd.named Bd.method).1
  have X0 : Stand p l e ({ frames := 0, cells := 0, slots := 0, locals := 0 } : Room) s m #[(.ref a1)] below meth c s₁ [] 0 0 := Stand.of_body Bd
  have e0 : s₁.heap = h0 := by rw [← hh, Bd.state]; rfl
  have N0 := Fr.nil n0
  have pre0 : ∀ t, Steps p.tables e below (s₁.setTop (mkF m 0 #[.val (.ref a1)] [])) t → Steps p.tables e below (s₁.setTop (entryFrame m #[(.ref a1)] 1)) t := fun t k => castTop (ef_rm1 m a1) k
  have GL' := GL
  obtain ⟨GSDEFAULT, GEDEFAULT, GFDEFAULT, GSREAD_UNCOMMITTED, GEREAD_UNCOMMITTED, GFREAD_UNCOMMITTED, GSREAD_COMMITTED, GEREAD_COMMITTED, GFREAD_COMMITTED, GSREPEATABLE_READ, GEREPEATABLE_READ, GFREPEATABLE_READ, GSSERIALIZABLE, GESERIALIZABLE, GFSERIALIZABLE⟩ := GL'
  obtain ⟨T1, X1, e1, st1⟩ := getS2 X0 hx hZ hown (host := "") (Or.inl (Wd hw 8 rfl)) Via.refl e0 (GSDEFAULT.ext O0.2) (g := (mkF m 1 #[.val (.ref a1)] [(.ref a1)])) rfl (hb hby d1_1)
  obtain ⟨T2, X2, e2, st2⟩ := getF X1 hx hZ hown (host := "") (Or.inl (Wd hw 10 rfl)) Via.refl e1 F_jdbcLevel_a1 (g := (mkF m 18 #[.val (.ref a1)] [(.ref a1)])) rfl rfl (hb hby d1_18)
  obtain ⟨fs, hr, hrun, hended, hW, hsame⟩ := X2.leave (v := some (.int lv)) (fun h => by rw [Bd.returns] at h; cases h)
  refine ⟨_, _, pre0 _ ?_, hrun, hended, _, _, rfl, ?_, ⟨_, rfl⟩, hW, hsame.mono (by decide) (by decide)⟩
  · show Steps p.tables e below (s₁.setTop (mkF m 0 #[.val (.ref a1)] [])) _
    refine XS.aloadN X0.here hx rfl (hb hby d1_0) rfl rfl ?_
    show Steps p.tables e below (s₁.setTop (mkF m 1 #[.val (.ref a1)] [(.ref a1)])) _
    refine st1 _ ?_
    show Steps p.tables e below (T1.setTop (mkF m 4 #[.val (.ref a1)] [(.ref aDEFAULT), (.ref a1)])) _
    refine Jvm.RoadKit.acmp (g := (mkF m 4 #[.val (.ref a1)] [(.ref aDEFAULT), (.ref a1)])) X1 hx rfl rfl rfl (pc0 := 4) (pc' := 17) (same := false) rfl (hb hby d1_4) rfl (decide_eq_false fun q => ne_a1_aDEFAULT (Value.ref.inj q)) (by decide) (by decide) ?_
    show Steps p.tables e below (T1.setTop (mkF m 17 #[.val (.ref a1)] [])) _
    refine XS.aloadN X1.here hx rfl (hb hby d1_17) rfl rfl ?_
    show Steps p.tables e below (T1.setTop (mkF m 18 #[.val (.ref a1)] [(.ref a1)])) _
    refine st2 _ ?_
    show Steps p.tables e below (T2.setTop (mkF m 21 #[.val (.ref a1)] [(.int lv)])) _
    exact retI X2 hx Bd.returns (hb hby d1_21) hr
  · show Q_rm1 n0 Z aDEFAULT aREAD_UNCOMMITTED aREAD_COMMITTED aREPEATABLE_READ aSERIALIZABLE a1 lv h0 _ T2.heap _
    rw [e2]
    exact ⟨rfl, N0, rfl⟩
theorem pd : parseMethodDescriptor "()I" = some ⟨[], some .int⟩ := by decide +kernel
theorem pnv1 : plainName "com/example/demarcate/demarcate/IsolationJdbcLevelPinLaw" = true := by first | (simp [plainName, overriddenIn]; done) | decide +kernel
theorem ef_rm0 (m : MethodId) (p0 : Int32) : entryFrame m #[(.int p0)] maxLocals = mkF m 0 #[.val (.int p0), .unset, .unset, .unset] [] := by first | (simp [entryFrame, mkF, argsToLocals, Value.category, maxLocals]; done) | rfl
def Q_rm0 (n0 : Nat) (v : Option Value) (h : Heap) (L : List Loc) : Prop := v = some (.int (1 : Int32)) ∧ Fr n0 L
set_option maxRecDepth 65536 in
set_option maxHeartbeats 40000000 in
theorem rm0 (l : Launch) (Z : State) (a0 : Array Value) (hw : ∀ d ∈ tables_1, d.before a0 Z = true) (ws : List Jvm.Cond) (aDEFAULT : Addr) (aREAD_UNCOMMITTED : Addr) (aREAD_COMMITTED : Addr) (aREPEATABLE_READ : Addr) (aSERIALIZABLE : Addr) (p0 : Int32) (h0 : Heap) (n0 : Nat) (O0 : Old Z n0 h0) (GL : GF Z aDEFAULT aREAD_UNCOMMITTED aREAD_COMMITTED aREPEATABLE_READ aSERIALIZABLE) :
    MetFree l x (head1 (Jvm.Cond.code x code maxLocals ret :: ws) room_1) (fun a U => a = #[(.int p0)] ∧ Z.Warmed39 U.vm ∧ U.heap = h0) (fun _ _ _ _ _ => True) (fun _ U o U' => ∃ v L, o = .returned v ∧ Q_rm0 n0 v U'.heap L ∧ FrameEnd U o U' L room_1.cells room_1.slots) := by
  refine MetFree.of_bodySF (plainFor_of_name pnv1) hisR ?_
  intro p e s m args below meth c s₁ Bd hml0 hP hK
  obtain ⟨rfl, hZ, hh⟩ := hP
  have hx := Bd.exec
  have hby := Bd.bytes
  have hml : c.maxLocals = 4 := hml0
  have hown : s.vm.findClass "com/example/demarcate/demarcate/IsolationJdbcLevelPinLaw" = some m.cls := findClass_of_methodNamed Bd.named
  have hnm := (name_of_methodNamed Bd.named Bd.method).1
  have X0 : Stand p l e room_1 s m #[(.int p0)] below meth c s₁ [] 0 0 := Stand.of_body Bd
  have e0 : s₁.heap = h0 := by rw [← hh, Bd.state]; rfl
  have N0 := Fr.nil n0
  have pre0 : ∀ t, Steps p.tables e below (s₁.setTop (mkF m 0 #[.val (.int p0), .unset, .unset, .unset] [])) t → Steps p.tables e below (s₁.setTop (entryFrame m #[(.int p0)] maxLocals)) t := fun t k => castTop (ef_rm0 m p0) k
  have GL' := GL
  obtain ⟨GSDEFAULT, GEDEFAULT, GFDEFAULT, GSREAD_UNCOMMITTED, GEREAD_UNCOMMITTED, GFREAD_UNCOMMITTED, GSREAD_COMMITTED, GEREAD_COMMITTED, GFREAD_COMMITTED, GSREPEATABLE_READ, GEREPEATABLE_READ, GFREPEATABLE_READ, GSSERIALIZABLE, GESERIALIZABLE, GFSERIALIZABLE⟩ := GL'
  have pre2 : ∀ t, Steps p.tables e below (s₁.setTop (mkF m 5 #[.val (.int p0), .val (.int (p0 &&& (3 : Int32))), .unset, .unset] [(.int (p0 &&& (3 : Int32)))])) t → Steps p.tables e below (s₁.setTop (entryFrame m #[(.int p0)] maxLocals)) t := fun t kt => by
    refine pre0 t ?_
    show Steps p.tables e below (s₁.setTop (mkF m 0 #[.val (.int p0), .unset, .unset, .unset] [])) _
    refine XS.iloadN X0.here hx rfl (hb hby at_0) rfl ?_
    show Steps p.tables e below (s₁.setTop (mkF m 1 #[.val (.int p0), .unset, .unset, .unset] [(.int p0)])) _
    refine XS.iconst X0.here hx rfl (hb hby at_1) ?_
    show Steps p.tables e below (s₁.setTop (mkF m 2 #[.val (.int p0), .unset, .unset, .unset] [(.int (3 : Int32)), (.int p0)])) _
    refine XS.iand X0.here hx rfl (hb hby at_2) rfl ?_
    show Steps p.tables e below (s₁.setTop (mkF m 3 #[.val (.int p0), .unset, .unset, .unset] [(.int (p0 &&& (3 : Int32)))])) _
    refine XS.istoreN X0.here hx rfl (hb hby at_3) rfl (l' := #[.val (.int p0), .val (.int (p0 &&& (3 : Int32))), .unset, .unset]) rfl ?_
    show Steps p.tables e below (s₁.setTop (mkF m 4 #[.val (.int p0), .val (.int (p0 &&& (3 : Int32))), .unset, .unset] [])) _
    refine XS.iloadN X0.here hx rfl (hb hby at_4) rfl ?_
    exact kt
  by_cases hc5_1 : (p0 &&& (3 : Int32)) = (0 : Int32)
  · obtain ⟨T3, X3, e3, st3⟩ := getS2 X0 hx hZ hown (host := "") (Or.inl (Wd hw 0 rfl)) Via.refl e0 (GSREAD_UNCOMMITTED.ext O0.2) (g := (mkF m 8 #[.val (.int p0), .val (.int (p0 &&& (3 : Int32))), .unset, .unset] [])) rfl (hb hby at_8)
    have nD : aREAD_UNCOMMITTED ≠ aDEFAULT := Fld.ne GFREAD_UNCOMMITTED GFDEFAULT (by decide)
    obtain ⟨cq4, kq4, q4a, q4b, q4c⟩ := isOf hZ e3 (GEREAD_UNCOMMITTED.ext O0.2)
    obtain ⟨_, _, ⟨T4, L4, k4, n4⟩, -, X4, ⟨Lc4, hQ4, l4, y4, z4⟩, st4⟩ := X3.virtualBack hx (y := MN_0) (z := MN_0) hown (mvT hZ (Wd hw 3 rfl)) (mvT hZ (Wd hw 4 rfl)) (notFace_of_selects (args := #[]) (mvT hZ (Wd hw 6 rfl))) (mvT hZ (Wd hw 6 rfl)) (mvT hZ (Wd hw 5 rfl)) (by decide) (backOf (W := 0) (rm1 l Z a0 hw [] aDEFAULT aREAD_UNCOMMITTED aREAD_COMMITTED aREPEATABLE_READ aSERIALIZABLE (aREAD_UNCOMMITTED) ((1 : Int32)) (h0) n0 O0 GL (GEREAD_UNCOMMITTED.ext O0.2) (GFREAD_UNCOMMITTED.ext O0.2) nD) hZ (Wd hw 7 rfl) (Wd hw 1 rfl) (by decide) (by decide)) q4a q4c (g := (mkF m 53 #[.val (.int p0), .val (.int (p0 &&& (3 : Int32))), .val (.ref aREAD_UNCOMMITTED), .val (.int (1 : Int32))] [(.ref aREAD_UNCOMMITTED)])) rfl (by rw [hml]; rfl) (Steps.refl _) (argsL := []) (rest := []) (lenOf pd rfl) rfl (by show 2 * 0 + _ ≤ _; exact Nat.le_of_eq rfl) (hb hby at_53) (fun _ _ => ⟨rfl, e3, (by decide : 0 + 0 ≤ _), (by decide : 0 + 0 ≤ _)⟩)
    dsimp only [Pt.U, Pt.locs, Pt.cells, Pt.slots] at X4 l4 y4 z4 st4 hQ4
    subst l4 y4 z4
    obtain ⟨rfl, N4q, e4⟩ := hQ4
    have N4 := Fr.app N0 N4q
    obtain ⟨fs, hr, hrun, hended, hW, hsame⟩ := X4.leave (v := some (.int (1 : Int32))) (fun h => by rw [Bd.returns] at h; cases h)
    refine ⟨_, _, pre2 _ ?_, hrun, hended, _, _, rfl, ?_, ⟨_, rfl⟩, hW, hsame.mono (by decide) (by decide)⟩
    · show Steps p.tables e below (s₁.setTop (mkF m 5 #[.val (.int p0), .val (.int (p0 &&& (3 : Int32))), .unset, .unset] [(.int (p0 &&& (3 : Int32)))])) _
      refine XS.ifNo X0.here hx rfl (hb hby at_5) rfl ((if0 _ _).trans (teq hc5_1).2) ?_
      show Steps p.tables e below (s₁.setTop (mkF m 8 #[.val (.int p0), .val (.int (p0 &&& (3 : Int32))), .unset, .unset] [])) _
      refine st3 _ ?_
      show Steps p.tables e below (T3.setTop (mkF m 11 #[.val (.int p0), .val (.int (p0 &&& (3 : Int32))), .unset, .unset] [(.ref aREAD_UNCOMMITTED)])) _
      refine XS.astoreN X3.here hx rfl (hb hby at_11) rfl rfl (l' := #[.val (.int p0), .val (.int (p0 &&& (3 : Int32))), .val (.ref aREAD_UNCOMMITTED), .unset]) rfl ?_
      show Steps p.tables e below (T3.setTop (mkF m 12 #[.val (.int p0), .val (.int (p0 &&& (3 : Int32))), .val (.ref aREAD_UNCOMMITTED), .unset] [])) _
      refine XS.iconst X3.here hx rfl (hb hby at_12) ?_
      show Steps p.tables e below (T3.setTop (mkF m 13 #[.val (.int p0), .val (.int (p0 &&& (3 : Int32))), .val (.ref aREAD_UNCOMMITTED), .unset] [(.int (1 : Int32))])) _
      refine XS.istoreN X3.here hx rfl (hb hby at_13) rfl (l' := #[.val (.int p0), .val (.int (p0 &&& (3 : Int32))), .val (.ref aREAD_UNCOMMITTED), .val (.int (1 : Int32))]) rfl ?_
      show Steps p.tables e below (T3.setTop (mkF m 14 #[.val (.int p0), .val (.int (p0 &&& (3 : Int32))), .val (.ref aREAD_UNCOMMITTED), .val (.int (1 : Int32))] [])) _
      refine XS.goto X3.here hx rfl (pc0 := 14) (pc' := 52) rfl (hb hby at_14) (by decide) (by decide) ?_
      show Steps p.tables e below (T3.setTop (mkF m 52 #[.val (.int p0), .val (.int (p0 &&& (3 : Int32))), .val (.ref aREAD_UNCOMMITTED), .val (.int (1 : Int32))] [])) _
      refine XS.aloadN X3.here hx rfl (hb hby at_52) rfl rfl ?_
      show Steps p.tables e below (T3.setTop (mkF m 53 #[.val (.int p0), .val (.int (p0 &&& (3 : Int32))), .val (.ref aREAD_UNCOMMITTED), .val (.int (1 : Int32))] [(.ref aREAD_UNCOMMITTED)])) _
      refine st4.trans ?_
      show Steps p.tables e below (T4.setTop (mkF m 56 #[.val (.int p0), .val (.int (p0 &&& (3 : Int32))), .val (.ref aREAD_UNCOMMITTED), .val (.int (1 : Int32))] [(.int (1 : Int32))])) _
      refine XS.iloadN X4.here hx rfl (hb hby at_56) rfl ?_
      show Steps p.tables e below (T4.setTop (mkF m 57 #[.val (.int p0), .val (.int (p0 &&& (3 : Int32))), .val (.ref aREAD_UNCOMMITTED), .val (.int (1 : Int32))] [(.int (1 : Int32)), (.int (1 : Int32))])) _
      refine XS.icmpNo X4.here hx rfl (hb hby at_57) rfl (teq (by decide : (1 : Int32) = (1 : Int32))).2 ?_
      show Steps p.tables e below (T4.setTop (mkF m 60 #[.val (.int p0), .val (.int (p0 &&& (3 : Int32))), .val (.ref aREAD_UNCOMMITTED), .val (.int (1 : Int32))] [])) _
      refine XS.iconst X4.here hx rfl (hb hby at_60) ?_
      show Steps p.tables e below (T4.setTop (mkF m 61 #[.val (.int p0), .val (.int (p0 &&& (3 : Int32))), .val (.ref aREAD_UNCOMMITTED), .val (.int (1 : Int32))] [(.int (1 : Int32))])) _
      refine XS.goto X4.here hx rfl (pc0 := 61) (pc' := 65) rfl (hb hby at_61) (by decide) (by decide) ?_
      show Steps p.tables e below (T4.setTop (mkF m 65 #[.val (.int p0), .val (.int (p0 &&& (3 : Int32))), .val (.ref aREAD_UNCOMMITTED), .val (.int (1 : Int32))] [(.int (1 : Int32))])) _
      exact retN X4 hx (t := .boolean) Bd.returns (by simp) (hb hby at_65) hr
    · show Q_rm0 n0 _ T4.heap _
      rw [e4]
      exact ⟨rfl, N4⟩
  · have pre6 : ∀ t, Steps p.tables e below (s₁.setTop (mkF m 19 #[.val (.int p0), .val (.int (p0 &&& (3 : Int32))), .unset, .unset] [(.int (1 : Int32)), (.int (p0 &&& (3 : Int32)))])) t → Steps p.tables e below (s₁.setTop (entryFrame m #[(.int p0)] maxLocals)) t := fun t kt => by
      refine pre2 t ?_
      show Steps p.tables e below (s₁.setTop (mkF m 5 #[.val (.int p0), .val (.int (p0 &&& (3 : Int32))), .unset, .unset] [(.int (p0 &&& (3 : Int32)))])) _
      refine XS.ifYes X0.here hx rfl (pc0 := 5) (pc' := 17) rfl (hb hby at_5) rfl ((if0 _ _).trans (feq hc5_1).2) (by decide) (by decide) ?_
      show Steps p.tables e below (s₁.setTop (mkF m 17 #[.val (.int p0), .val (.int (p0 &&& (3 : Int32))), .unset, .unset] [])) _
      refine XS.iloadN X0.here hx rfl (hb hby at_17) rfl ?_
      show Steps p.tables e below (s₁.setTop (mkF m 18 #[.val (.int p0), .val (.int (p0 &&& (3 : Int32))), .unset, .unset] [(.int (p0 &&& (3 : Int32)))])) _
      refine XS.iconst X0.here hx rfl (hb hby at_18) ?_
      exact kt
    by_cases hc19_5 : (p0 &&& (3 : Int32)) = (1 : Int32)
    · obtain ⟨T7, X7, e7, st7⟩ := getS2 X0 hx hZ hown (host := "") (Or.inl (Wd hw 16 rfl)) Via.refl e0 (GSREAD_COMMITTED.ext O0.2) (g := (mkF m 22 #[.val (.int p0), .val (.int (p0 &&& (3 : Int32))), .unset, .unset] [])) rfl (hb hby at_22)
      have nD : aREAD_COMMITTED ≠ aDEFAULT := Fld.ne GFREAD_COMMITTED GFDEFAULT (by decide)
      obtain ⟨cq8, kq8, q8a, q8b, q8c⟩ := isOf hZ e7 (GEREAD_COMMITTED.ext O0.2)
      obtain ⟨_, _, ⟨T8, L8, k8, n8⟩, -, X8, ⟨Lc8, hQ8, l8, y8, z8⟩, st8⟩ := X7.virtualBack hx (y := MN_0) (z := MN_0) hown (mvT hZ (Wd hw 3 rfl)) (mvT hZ (Wd hw 4 rfl)) (notFace_of_selects (args := #[]) (mvT hZ (Wd hw 6 rfl))) (mvT hZ (Wd hw 6 rfl)) (mvT hZ (Wd hw 5 rfl)) (by decide) (backOf (W := 0) (rm1 l Z a0 hw [] aDEFAULT aREAD_UNCOMMITTED aREAD_COMMITTED aREPEATABLE_READ aSERIALIZABLE (aREAD_COMMITTED) ((2 : Int32)) (h0) n0 O0 GL (GEREAD_COMMITTED.ext O0.2) (GFREAD_COMMITTED.ext O0.2) nD) hZ (Wd hw 7 rfl) (Wd hw 1 rfl) (by decide) (by decide)) q8a q8c (g := (mkF m 53 #[.val (.int p0), .val (.int (p0 &&& (3 : Int32))), .val (.ref aREAD_COMMITTED), .val (.int (2 : Int32))] [(.ref aREAD_COMMITTED)])) rfl (by rw [hml]; rfl) (Steps.refl _) (argsL := []) (rest := []) (lenOf pd rfl) rfl (by show 2 * 0 + _ ≤ _; exact Nat.le_of_eq rfl) (hb hby at_53) (fun _ _ => ⟨rfl, e7, (by decide : 0 + 0 ≤ _), (by decide : 0 + 0 ≤ _)⟩)
      dsimp only [Pt.U, Pt.locs, Pt.cells, Pt.slots] at X8 l8 y8 z8 st8 hQ8
      subst l8 y8 z8
      obtain ⟨rfl, N8q, e8⟩ := hQ8
      have N8 := Fr.app N0 N8q
      obtain ⟨fs, hr, hrun, hended, hW, hsame⟩ := X8.leave (v := some (.int (1 : Int32))) (fun h => by rw [Bd.returns] at h; cases h)
      refine ⟨_, _, pre6 _ ?_, hrun, hended, _, _, rfl, ?_, ⟨_, rfl⟩, hW, hsame.mono (by decide) (by decide)⟩
      · show Steps p.tables e below (s₁.setTop (mkF m 19 #[.val (.int p0), .val (.int (p0 &&& (3 : Int32))), .unset, .unset] [(.int (1 : Int32)), (.int (p0 &&& (3 : Int32)))])) _
        refine XS.icmpNo X0.here hx rfl (hb hby at_19) rfl (teq hc19_5).2 ?_
        show Steps p.tables e below (s₁.setTop (mkF m 22 #[.val (.int p0), .val (.int (p0 &&& (3 : Int32))), .unset, .unset] [])) _
        refine st7 _ ?_
        show Steps p.tables e below (T7.setTop (mkF m 25 #[.val (.int p0), .val (.int (p0 &&& (3 : Int32))), .unset, .unset] [(.ref aREAD_COMMITTED)])) _
        refine XS.astoreN X7.here hx rfl (hb hby at_25) rfl rfl (l' := #[.val (.int p0), .val (.int (p0 &&& (3 : Int32))), .val (.ref aREAD_COMMITTED), .unset]) rfl ?_
        show Steps p.tables e below (T7.setTop (mkF m 26 #[.val (.int p0), .val (.int (p0 &&& (3 : Int32))), .val (.ref aREAD_COMMITTED), .unset] [])) _
        refine XS.iconst X7.here hx rfl (hb hby at_26) ?_
        show Steps p.tables e below (T7.setTop (mkF m 27 #[.val (.int p0), .val (.int (p0 &&& (3 : Int32))), .val (.ref aREAD_COMMITTED), .unset] [(.int (2 : Int32))])) _
        refine XS.istoreN X7.here hx rfl (hb hby at_27) rfl (l' := #[.val (.int p0), .val (.int (p0 &&& (3 : Int32))), .val (.ref aREAD_COMMITTED), .val (.int (2 : Int32))]) rfl ?_
        show Steps p.tables e below (T7.setTop (mkF m 28 #[.val (.int p0), .val (.int (p0 &&& (3 : Int32))), .val (.ref aREAD_COMMITTED), .val (.int (2 : Int32))] [])) _
        refine XS.goto X7.here hx rfl (pc0 := 28) (pc' := 52) rfl (hb hby at_28) (by decide) (by decide) ?_
        show Steps p.tables e below (T7.setTop (mkF m 52 #[.val (.int p0), .val (.int (p0 &&& (3 : Int32))), .val (.ref aREAD_COMMITTED), .val (.int (2 : Int32))] [])) _
        refine XS.aloadN X7.here hx rfl (hb hby at_52) rfl rfl ?_
        show Steps p.tables e below (T7.setTop (mkF m 53 #[.val (.int p0), .val (.int (p0 &&& (3 : Int32))), .val (.ref aREAD_COMMITTED), .val (.int (2 : Int32))] [(.ref aREAD_COMMITTED)])) _
        refine st8.trans ?_
        show Steps p.tables e below (T8.setTop (mkF m 56 #[.val (.int p0), .val (.int (p0 &&& (3 : Int32))), .val (.ref aREAD_COMMITTED), .val (.int (2 : Int32))] [(.int (2 : Int32))])) _
        refine XS.iloadN X8.here hx rfl (hb hby at_56) rfl ?_
        show Steps p.tables e below (T8.setTop (mkF m 57 #[.val (.int p0), .val (.int (p0 &&& (3 : Int32))), .val (.ref aREAD_COMMITTED), .val (.int (2 : Int32))] [(.int (2 : Int32)), (.int (2 : Int32))])) _
        refine XS.icmpNo X8.here hx rfl (hb hby at_57) rfl (teq (by decide : (2 : Int32) = (2 : Int32))).2 ?_
        show Steps p.tables e below (T8.setTop (mkF m 60 #[.val (.int p0), .val (.int (p0 &&& (3 : Int32))), .val (.ref aREAD_COMMITTED), .val (.int (2 : Int32))] [])) _
        refine XS.iconst X8.here hx rfl (hb hby at_60) ?_
        show Steps p.tables e below (T8.setTop (mkF m 61 #[.val (.int p0), .val (.int (p0 &&& (3 : Int32))), .val (.ref aREAD_COMMITTED), .val (.int (2 : Int32))] [(.int (1 : Int32))])) _
        refine XS.goto X8.here hx rfl (pc0 := 61) (pc' := 65) rfl (hb hby at_61) (by decide) (by decide) ?_
        show Steps p.tables e below (T8.setTop (mkF m 65 #[.val (.int p0), .val (.int (p0 &&& (3 : Int32))), .val (.ref aREAD_COMMITTED), .val (.int (2 : Int32))] [(.int (1 : Int32))])) _
        exact retN X8 hx (t := .boolean) Bd.returns (by simp) (hb hby at_65) hr
      · show Q_rm0 n0 _ T8.heap _
        rw [e8]
        exact ⟨rfl, N8⟩
    · have pre10 : ∀ t, Steps p.tables e below (s₁.setTop (mkF m 33 #[.val (.int p0), .val (.int (p0 &&& (3 : Int32))), .unset, .unset] [(.int (2 : Int32)), (.int (p0 &&& (3 : Int32)))])) t → Steps p.tables e below (s₁.setTop (entryFrame m #[(.int p0)] maxLocals)) t := fun t kt => by
        refine pre6 t ?_
        show Steps p.tables e below (s₁.setTop (mkF m 19 #[.val (.int p0), .val (.int (p0 &&& (3 : Int32))), .unset, .unset] [(.int (1 : Int32)), (.int (p0 &&& (3 : Int32)))])) _
        refine XS.icmpYes X0.here hx rfl (pc0 := 19) (pc' := 31) rfl (hb hby at_19) rfl (feq hc19_5).2 (by decide) (by decide) ?_
        show Steps p.tables e below (s₁.setTop (mkF m 31 #[.val (.int p0), .val (.int (p0 &&& (3 : Int32))), .unset, .unset] [])) _
        refine XS.iloadN X0.here hx rfl (hb hby at_31) rfl ?_
        show Steps p.tables e below (s₁.setTop (mkF m 32 #[.val (.int p0), .val (.int (p0 &&& (3 : Int32))), .unset, .unset] [(.int (p0 &&& (3 : Int32)))])) _
        refine XS.iconst X0.here hx rfl (hb hby at_32) ?_
        exact kt
      by_cases hc33_9 : (p0 &&& (3 : Int32)) = (2 : Int32)
      · obtain ⟨T11, X11, e11, st11⟩ := getS2 X0 hx hZ hown (host := "") (Or.inl (Wd hw 14 rfl)) Via.refl e0 (GSREPEATABLE_READ.ext O0.2) (g := (mkF m 36 #[.val (.int p0), .val (.int (p0 &&& (3 : Int32))), .unset, .unset] [])) rfl (hb hby at_36)
        have nD : aREPEATABLE_READ ≠ aDEFAULT := Fld.ne GFREPEATABLE_READ GFDEFAULT (by decide)
        obtain ⟨cq12, kq12, q12a, q12b, q12c⟩ := isOf hZ e11 (GEREPEATABLE_READ.ext O0.2)
        obtain ⟨_, _, ⟨T12, L12, k12, n12⟩, -, X12, ⟨Lc12, hQ12, l12, y12, z12⟩, st12⟩ := X11.virtualBack hx (y := MN_0) (z := MN_0) hown (mvT hZ (Wd hw 3 rfl)) (mvT hZ (Wd hw 4 rfl)) (notFace_of_selects (args := #[]) (mvT hZ (Wd hw 6 rfl))) (mvT hZ (Wd hw 6 rfl)) (mvT hZ (Wd hw 5 rfl)) (by decide) (backOf (W := 0) (rm1 l Z a0 hw [] aDEFAULT aREAD_UNCOMMITTED aREAD_COMMITTED aREPEATABLE_READ aSERIALIZABLE (aREPEATABLE_READ) ((4 : Int32)) (h0) n0 O0 GL (GEREPEATABLE_READ.ext O0.2) (GFREPEATABLE_READ.ext O0.2) nD) hZ (Wd hw 7 rfl) (Wd hw 1 rfl) (by decide) (by decide)) q12a q12c (g := (mkF m 53 #[.val (.int p0), .val (.int (p0 &&& (3 : Int32))), .val (.ref aREPEATABLE_READ), .val (.int (4 : Int32))] [(.ref aREPEATABLE_READ)])) rfl (by rw [hml]; rfl) (Steps.refl _) (argsL := []) (rest := []) (lenOf pd rfl) rfl (by show 2 * 0 + _ ≤ _; exact Nat.le_of_eq rfl) (hb hby at_53) (fun _ _ => ⟨rfl, e11, (by decide : 0 + 0 ≤ _), (by decide : 0 + 0 ≤ _)⟩)
        dsimp only [Pt.U, Pt.locs, Pt.cells, Pt.slots] at X12 l12 y12 z12 st12 hQ12
        subst l12 y12 z12
        obtain ⟨rfl, N12q, e12⟩ := hQ12
        have N12 := Fr.app N0 N12q
        obtain ⟨fs, hr, hrun, hended, hW, hsame⟩ := X12.leave (v := some (.int (1 : Int32))) (fun h => by rw [Bd.returns] at h; cases h)
        refine ⟨_, _, pre10 _ ?_, hrun, hended, _, _, rfl, ?_, ⟨_, rfl⟩, hW, hsame.mono (by decide) (by decide)⟩
        · show Steps p.tables e below (s₁.setTop (mkF m 33 #[.val (.int p0), .val (.int (p0 &&& (3 : Int32))), .unset, .unset] [(.int (2 : Int32)), (.int (p0 &&& (3 : Int32)))])) _
          refine XS.icmpNo X0.here hx rfl (hb hby at_33) rfl (teq hc33_9).2 ?_
          show Steps p.tables e below (s₁.setTop (mkF m 36 #[.val (.int p0), .val (.int (p0 &&& (3 : Int32))), .unset, .unset] [])) _
          refine st11 _ ?_
          show Steps p.tables e below (T11.setTop (mkF m 39 #[.val (.int p0), .val (.int (p0 &&& (3 : Int32))), .unset, .unset] [(.ref aREPEATABLE_READ)])) _
          refine XS.astoreN X11.here hx rfl (hb hby at_39) rfl rfl (l' := #[.val (.int p0), .val (.int (p0 &&& (3 : Int32))), .val (.ref aREPEATABLE_READ), .unset]) rfl ?_
          show Steps p.tables e below (T11.setTop (mkF m 40 #[.val (.int p0), .val (.int (p0 &&& (3 : Int32))), .val (.ref aREPEATABLE_READ), .unset] [])) _
          refine XS.iconst X11.here hx rfl (hb hby at_40) ?_
          show Steps p.tables e below (T11.setTop (mkF m 41 #[.val (.int p0), .val (.int (p0 &&& (3 : Int32))), .val (.ref aREPEATABLE_READ), .unset] [(.int (4 : Int32))])) _
          refine XS.istoreN X11.here hx rfl (hb hby at_41) rfl (l' := #[.val (.int p0), .val (.int (p0 &&& (3 : Int32))), .val (.ref aREPEATABLE_READ), .val (.int (4 : Int32))]) rfl ?_
          show Steps p.tables e below (T11.setTop (mkF m 42 #[.val (.int p0), .val (.int (p0 &&& (3 : Int32))), .val (.ref aREPEATABLE_READ), .val (.int (4 : Int32))] [])) _
          refine XS.goto X11.here hx rfl (pc0 := 42) (pc' := 52) rfl (hb hby at_42) (by decide) (by decide) ?_
          show Steps p.tables e below (T11.setTop (mkF m 52 #[.val (.int p0), .val (.int (p0 &&& (3 : Int32))), .val (.ref aREPEATABLE_READ), .val (.int (4 : Int32))] [])) _
          refine XS.aloadN X11.here hx rfl (hb hby at_52) rfl rfl ?_
          show Steps p.tables e below (T11.setTop (mkF m 53 #[.val (.int p0), .val (.int (p0 &&& (3 : Int32))), .val (.ref aREPEATABLE_READ), .val (.int (4 : Int32))] [(.ref aREPEATABLE_READ)])) _
          refine st12.trans ?_
          show Steps p.tables e below (T12.setTop (mkF m 56 #[.val (.int p0), .val (.int (p0 &&& (3 : Int32))), .val (.ref aREPEATABLE_READ), .val (.int (4 : Int32))] [(.int (4 : Int32))])) _
          refine XS.iloadN X12.here hx rfl (hb hby at_56) rfl ?_
          show Steps p.tables e below (T12.setTop (mkF m 57 #[.val (.int p0), .val (.int (p0 &&& (3 : Int32))), .val (.ref aREPEATABLE_READ), .val (.int (4 : Int32))] [(.int (4 : Int32)), (.int (4 : Int32))])) _
          refine XS.icmpNo X12.here hx rfl (hb hby at_57) rfl (teq (by decide : (4 : Int32) = (4 : Int32))).2 ?_
          show Steps p.tables e below (T12.setTop (mkF m 60 #[.val (.int p0), .val (.int (p0 &&& (3 : Int32))), .val (.ref aREPEATABLE_READ), .val (.int (4 : Int32))] [])) _
          refine XS.iconst X12.here hx rfl (hb hby at_60) ?_
          show Steps p.tables e below (T12.setTop (mkF m 61 #[.val (.int p0), .val (.int (p0 &&& (3 : Int32))), .val (.ref aREPEATABLE_READ), .val (.int (4 : Int32))] [(.int (1 : Int32))])) _
          refine XS.goto X12.here hx rfl (pc0 := 61) (pc' := 65) rfl (hb hby at_61) (by decide) (by decide) ?_
          show Steps p.tables e below (T12.setTop (mkF m 65 #[.val (.int p0), .val (.int (p0 &&& (3 : Int32))), .val (.ref aREPEATABLE_READ), .val (.int (4 : Int32))] [(.int (1 : Int32))])) _
          exact retN X12 hx (t := .boolean) Bd.returns (by simp) (hb hby at_65) hr
        · show Q_rm0 n0 _ T12.heap _
          rw [e12]
          exact ⟨rfl, N12⟩
      · obtain ⟨T13, X13, e13, st13⟩ := getS2 X0 hx hZ hown (host := "") (Or.inl (Wd hw 12 rfl)) Via.refl e0 (GSSERIALIZABLE.ext O0.2) (g := (mkF m 45 #[.val (.int p0), .val (.int (p0 &&& (3 : Int32))), .unset, .unset] [])) rfl (hb hby at_45)
        have nD : aSERIALIZABLE ≠ aDEFAULT := Fld.ne GFSERIALIZABLE GFDEFAULT (by decide)
        obtain ⟨cq14, kq14, q14a, q14b, q14c⟩ := isOf hZ e13 (GESERIALIZABLE.ext O0.2)
        obtain ⟨_, _, ⟨T14, L14, k14, n14⟩, -, X14, ⟨Lc14, hQ14, l14, y14, z14⟩, st14⟩ := X13.virtualBack hx (y := MN_0) (z := MN_0) hown (mvT hZ (Wd hw 3 rfl)) (mvT hZ (Wd hw 4 rfl)) (notFace_of_selects (args := #[]) (mvT hZ (Wd hw 6 rfl))) (mvT hZ (Wd hw 6 rfl)) (mvT hZ (Wd hw 5 rfl)) (by decide) (backOf (W := 0) (rm1 l Z a0 hw [] aDEFAULT aREAD_UNCOMMITTED aREAD_COMMITTED aREPEATABLE_READ aSERIALIZABLE (aSERIALIZABLE) ((8 : Int32)) (h0) n0 O0 GL (GESERIALIZABLE.ext O0.2) (GFSERIALIZABLE.ext O0.2) nD) hZ (Wd hw 7 rfl) (Wd hw 1 rfl) (by decide) (by decide)) q14a q14c (g := (mkF m 53 #[.val (.int p0), .val (.int (p0 &&& (3 : Int32))), .val (.ref aSERIALIZABLE), .val (.int (8 : Int32))] [(.ref aSERIALIZABLE)])) rfl (by rw [hml]; rfl) (Steps.refl _) (argsL := []) (rest := []) (lenOf pd rfl) rfl (by show 2 * 0 + _ ≤ _; exact Nat.le_of_eq rfl) (hb hby at_53) (fun _ _ => ⟨rfl, e13, (by decide : 0 + 0 ≤ _), (by decide : 0 + 0 ≤ _)⟩)
        dsimp only [Pt.U, Pt.locs, Pt.cells, Pt.slots] at X14 l14 y14 z14 st14 hQ14
        subst l14 y14 z14
        obtain ⟨rfl, N14q, e14⟩ := hQ14
        have N14 := Fr.app N0 N14q
        obtain ⟨fs, hr, hrun, hended, hW, hsame⟩ := X14.leave (v := some (.int (1 : Int32))) (fun h => by rw [Bd.returns] at h; cases h)
        refine ⟨_, _, pre10 _ ?_, hrun, hended, _, _, rfl, ?_, ⟨_, rfl⟩, hW, hsame.mono (by decide) (by decide)⟩
        · show Steps p.tables e below (s₁.setTop (mkF m 33 #[.val (.int p0), .val (.int (p0 &&& (3 : Int32))), .unset, .unset] [(.int (2 : Int32)), (.int (p0 &&& (3 : Int32)))])) _
          refine XS.icmpYes X0.here hx rfl (pc0 := 33) (pc' := 45) rfl (hb hby at_33) rfl (feq hc33_9).2 (by decide) (by decide) ?_
          show Steps p.tables e below (s₁.setTop (mkF m 45 #[.val (.int p0), .val (.int (p0 &&& (3 : Int32))), .unset, .unset] [])) _
          refine st13 _ ?_
          show Steps p.tables e below (T13.setTop (mkF m 48 #[.val (.int p0), .val (.int (p0 &&& (3 : Int32))), .unset, .unset] [(.ref aSERIALIZABLE)])) _
          refine XS.astoreN X13.here hx rfl (hb hby at_48) rfl rfl (l' := #[.val (.int p0), .val (.int (p0 &&& (3 : Int32))), .val (.ref aSERIALIZABLE), .unset]) rfl ?_
          show Steps p.tables e below (T13.setTop (mkF m 49 #[.val (.int p0), .val (.int (p0 &&& (3 : Int32))), .val (.ref aSERIALIZABLE), .unset] [])) _
          refine XS.bipush X13.here hx rfl (hb hby at_49) ?_
          show Steps p.tables e below (T13.setTop (mkF m 51 #[.val (.int p0), .val (.int (p0 &&& (3 : Int32))), .val (.ref aSERIALIZABLE), .unset] [(.int (8 : Int32))])) _
          refine XS.istoreN X13.here hx rfl (hb hby at_51) rfl (l' := #[.val (.int p0), .val (.int (p0 &&& (3 : Int32))), .val (.ref aSERIALIZABLE), .val (.int (8 : Int32))]) rfl ?_
          show Steps p.tables e below (T13.setTop (mkF m 52 #[.val (.int p0), .val (.int (p0 &&& (3 : Int32))), .val (.ref aSERIALIZABLE), .val (.int (8 : Int32))] [])) _
          refine XS.aloadN X13.here hx rfl (hb hby at_52) rfl rfl ?_
          show Steps p.tables e below (T13.setTop (mkF m 53 #[.val (.int p0), .val (.int (p0 &&& (3 : Int32))), .val (.ref aSERIALIZABLE), .val (.int (8 : Int32))] [(.ref aSERIALIZABLE)])) _
          refine st14.trans ?_
          show Steps p.tables e below (T14.setTop (mkF m 56 #[.val (.int p0), .val (.int (p0 &&& (3 : Int32))), .val (.ref aSERIALIZABLE), .val (.int (8 : Int32))] [(.int (8 : Int32))])) _
          refine XS.iloadN X14.here hx rfl (hb hby at_56) rfl ?_
          show Steps p.tables e below (T14.setTop (mkF m 57 #[.val (.int p0), .val (.int (p0 &&& (3 : Int32))), .val (.ref aSERIALIZABLE), .val (.int (8 : Int32))] [(.int (8 : Int32)), (.int (8 : Int32))])) _
          refine XS.icmpNo X14.here hx rfl (hb hby at_57) rfl (teq (by decide : (8 : Int32) = (8 : Int32))).2 ?_
          show Steps p.tables e below (T14.setTop (mkF m 60 #[.val (.int p0), .val (.int (p0 &&& (3 : Int32))), .val (.ref aSERIALIZABLE), .val (.int (8 : Int32))] [])) _
          refine XS.iconst X14.here hx rfl (hb hby at_60) ?_
          show Steps p.tables e below (T14.setTop (mkF m 61 #[.val (.int p0), .val (.int (p0 &&& (3 : Int32))), .val (.ref aSERIALIZABLE), .val (.int (8 : Int32))] [(.int (1 : Int32))])) _
          refine XS.goto X14.here hx rfl (pc0 := 61) (pc' := 65) rfl (hb hby at_61) (by decide) (by decide) ?_
          show Steps p.tables e below (T14.setTop (mkF m 65 #[.val (.int p0), .val (.int (p0 &&& (3 : Int32))), .val (.ref aSERIALIZABLE), .val (.int (8 : Int32))] [(.int (1 : Int32))])) _
          exact retN X14 hx (t := .boolean) Bd.returns (by simp) (hb hby at_65) hr
        · show Q_rm0 n0 _ T14.heap _
          rw [e14]
          exact ⟨rfl, N14⟩
set_option maxRecDepth 65536 in
set_option maxHeartbeats 40000000 in
theorem comes_1 {Post : Tables → Env → Array Value → State → Outcome → State → Prop} (hpost : ∀ tb e args s v u, (limb_1_1.after args s (.returned v) u = true ∧ limb_1_2.after args s (.returned v) u = true ∧ True) → FrameEnd s (.returned v) u (Jvm.fieldLocs frame_1_writes args s ++ Jvm.arrayLocs frame_1_arrays args s ++ Jvm.staticLocs frame_1_statics s) 0 0 → Post tb e args s (.returned v) u) :
    ArmFor flags0 classFile x code maxLocals ret World_1 tables_1 room_1 Calls_1 rest_1 Pre_1 Post := by
  intro l hfl _ _ p e ha hc hk s m args below hf hA hF happ hP
  obtain ⟨hcalls, hrest, hpre⟩ := hP
  obtain ⟨-, -, -, hnamed, -, -, -, hat⟩ := (Spec.applies_iff hf).mp happ
  obtain ⟨hg, hn⟩ := and_e (Cond.before_iff.mp (show (Jvm.Cond.and given_1 narrow_1).before args s = true from hpre))
  obtain ⟨gv_l0, gv_r0⟩ := and_e hg
  obtain ⟨w0, rfl⟩ : ∃ w0 : Value, args = #[w0] := by
    have hs : args.size = 1 := by simpa [Cond.value, given_1] using gv_l0
    obtain ⟨L⟩ := args
    match L, hs with
    | [w0], _ => exact ⟨w0, rfl⟩
  have hw := fun d (hd : d ∈ tables_1) => atoms_spec (ws := Jvm.Cond.code x code maxLocals ret :: tables_1) hat d (List.mem_cons_of_mem _ hd)
  have hfit : Fit s := fun {y c} hc i hi => by
    obtain ⟨ha, rfl⟩ := Array.getElem?_eq_some_iff.mp hc
    have q := List.all_eq_true.mp ((Array.all_eq_true_iff_forall_mem.mp hF) _ (Array.getElem_mem ha)) i (List.mem_range.mpr hi)
    simpa [Array.getElem?_eq_getElem hi] using q
  obtain ⟨i0, ei0⟩ := is_v gv_r0
  obtain rfl : w0 = (.int i0) := Option.some.inj ei0
  obtain ⟨nv_l0, nv_r0⟩ := and_e hn
  obtain ⟨nv_l2, nv_r2⟩ := and_e nv_r0
  obtain ⟨nv_l4, nv_r4⟩ := and_e nv_r2
  obtain ⟨nv_l6, nv_r6⟩ := and_e nv_r4
  obtain ⟨nv_l8, nv_r8⟩ := and_e nv_r6
  obtain ⟨nv_l10, nv_r10⟩ := and_e nv_r8
  obtain ⟨nv_l12, nv_r12⟩ := and_e nv_r10
  obtain ⟨nv_l14, nv_r14⟩ := and_e nv_r12
  obtain ⟨nv_l16, nv_r16⟩ := and_e nv_r14
  obtain ⟨nv_l18, nv_r18⟩ := and_e nv_r16
  obtain ⟨nv_l20, nv_r20⟩ := and_e nv_r18
  obtain ⟨nv_l22, nv_r22⟩ := and_e nv_r20
  obtain ⟨nv_l24, nv_r24⟩ := and_e nv_r22
  obtain ⟨nv_l26, nv_r26⟩ := and_e nv_r24
  obtain ⟨aDEFAULT, vDEFAULT⟩ := exa_v nv_l2
  obtain ⟨aREAD_UNCOMMITTED, vREAD_UNCOMMITTED⟩ := exa_v nv_l0
  obtain ⟨aREAD_COMMITTED, vREAD_COMMITTED⟩ := exa_v nv_l22
  obtain ⟨aREPEATABLE_READ, vREPEATABLE_READ⟩ := exa_v nv_l16
  obtain ⟨aSERIALIZABLE, vSERIALIZABLE⟩ := exa_v nv_l10
  have GL : GF s aDEFAULT aREAD_UNCOMMITTED aREAD_COMMITTED aREPEATABLE_READ aSERIALIZABLE := ⟨Sta.start vDEFAULT (Or.inr ⟨(Wd hw 1 rfl), (Wd hw 9 rfl)⟩), Exa.start vDEFAULT nv_l2, Fld.start (own_fi vDEFAULT nv_r26), Sta.start vREAD_UNCOMMITTED (Or.inr ⟨(Wd hw 1 rfl), (Wd hw 2 rfl)⟩), Exa.start vREAD_UNCOMMITTED nv_l0, Fld.start (own_fi vREAD_UNCOMMITTED nv_l8), Sta.start vREAD_COMMITTED (Or.inr ⟨(Wd hw 1 rfl), (Wd hw 17 rfl)⟩), Exa.start vREAD_COMMITTED nv_l22, Fld.start (own_fi vREAD_COMMITTED nv_l26), Sta.start vREPEATABLE_READ (Or.inr ⟨(Wd hw 1 rfl), (Wd hw 15 rfl)⟩), Exa.start vREPEATABLE_READ nv_l16, Fld.start (own_fi vREPEATABLE_READ nv_l20), Sta.start vSERIALIZABLE (Or.inr ⟨(Wd hw 1 rfl), (Wd hw 13 rfl)⟩), Exa.start vSERIALIZABLE nv_l10, Fld.start (own_fi vSERIALIZABLE nv_l14)⟩
  obtain ⟨n, o, h1, h2, h3, _, L, rfl, ⟨rfl, N⟩, hq⟩ := rm0 l s _ hw tables_1 aDEFAULT aREAD_UNCOMMITTED aREAD_COMMITTED aREPEATABLE_READ aSERIALIZABLE i0 s.heap s.heap.size (Old.start s) GL p e ha hc hk s m _ below hf ((Spec.applies_iff_loose hf).mp happ).1 ⟨rfl, State.Warmed39.refl s, rfl⟩ trivial
  refine ⟨n, _, h1, h2, h3, hpost _ _ _ _ _ _ ⟨Cond.after_iff.mpr rfl, Cond.after_iff.mpr (eq_i res_at (Term.int_eval (1)) rfl), trivial⟩ ⟨hq.1, hq.2.1, (hq.2.2.sift fun y hy => Or.inr (N y hy)).mono (by decide) (by decide)⟩⟩
theorem main_1_1 : Claimed_1_1 := comes_1 fun _ _ _ _ _ _ h hF => ⟨h.1, hF⟩
theorem main_1_2 : Claimed_1_2 := comes_1 fun _ _ _ _ _ _ h hF => ⟨h.2.1, hF⟩
end Jvm.Pilot.@@N@@
namespace Jvm.Pilot.@@N@@
open Jvm Jvm.ClassFile Sem Op Lib Jvm.Free Jvm.Stand Jvm.Pilot.@@N@@.Jvm.D
/-! MADE BY PROGRAM (witnessworld.py) out of the Statement's table words and the real class files: 12 classes; the members and pool entries that the words name. The judged class is class 1, her method 1. -/
namespace start1
open Jvm.ClassFile
def u (s : String) : CpInfo := .utf8 (stringToUtf16 s)
/-- a pool by its gaps: so many unusable entries, then the entry; so many at the end -/
def gap : Nat → List CpInfo → List CpInfo
  | 0, r => r
  | n + 1, r => .unusable :: gap n r
def poolList (es : List (Nat × CpInfo)) (last : Nat) : List CpInfo := es.foldr (fun e r => gap e.1 (e.2 :: r)) (gap last [])
def pool (es : List (Nat × CpInfo)) (last : Nat) : Array CpInfo := ⟨poolList es last⟩
def fileOf (pool : Array CpInfo) (this : Nat) (attrs : Array Attribute := #[]) (ms : Array MethodInfo := #[]) (fl : Nat := 33) (sup : Nat := 0) (ifs : Array Nat := #[]) (fds : Array FieldInfo := #[]) : ClassFile where
  minorVersion := 0
  majorVersion := 65
  constantPool := pool
  accessFlags := fl
  thisClass := this
  superClass := sup
  interfaces := ifs
  fields := fds
  methods := ms
  attributes := attrs
def plain (name : String) (sup : Option ClassId) : Class where
  name := name
  kind := .ordinary
  loader := none
  accessFlags := 33
  super := sup
  interfaces := #[]
  cf := none
  fields := #[]
  methods := #[]
  instanceTypes := #[]
  staticTypes := #[]
  resolved := #[]
  callSites := []
  init := .initialized
  statics := none
  mirror := none

def pool0 : Array CpInfo := pool [(5, u "<init>"), (0, u "()V"), (1, .class_ 10), (1, u "java/lang/Object")] 113

def k0m0 : Method := { name := "<init>", desc := "()V", sig := { parameters := [], returnType := none }, accessFlags := 1, code := none }
/-- java/lang/Object -/
def k0 : Class := { plain "java/lang/Object" none with
  accessFlags := 33
  interfaces := #[]
  cf := some (fileOf pool0 8 #[] #[{ accessFlags := 1, nameIndex := 5, descriptorIndex := 6, attributes := #[] }] 33 0 #[] #[])
  fields := #[]
  methods := #[k0m0]
  instanceTypes := #[]
  staticTypes := #[]
  resolved := Array.replicate 124 none
  statics := none }

def pool1 : Array CpInfo := pool [(2, .class_ 4), (1, u "java/lang/Object"), (0, u "<init>"), (0, u "()V"), (0, .fieldref 8 9), (0, .class_ 10), (0, .nameAndType 11 12), (0, u "com/example/demarcate/demarcate/Isolation"), (0, u "READ_UNCOMMITTED"), (0, u "Lcom/example/demarcate/demarcate/Isolation;"), (0, .fieldref 8 14), (0, .nameAndType 15 12), (0, u "READ_COMMITTED"), (0, .fieldref 8 17), (0, .nameAndType 18 12), (0, u "REPEATABLE_READ"), (0, .fieldref 8 20), (0, .nameAndType 21 12), (0, u "SERIALIZABLE"), (0, .methodref 8 23), (0, .nameAndType 24 25), (0, u "jdbcLevel"), (0, u "()I"), (0, .class_ 27), (0, u "com/example/demarcate/demarcate/IsolationJdbcLevelPinLaw"), (2, u "law"), (0, u "(I)Z")] 3

def k1m0 : Method := { name := "<init>", desc := "()V", sig := { parameters := [], returnType := none }, accessFlags := 1, code := none }
def k1c1 : Code := { maxStack := 2, maxLocals := 4, code := code, exceptionTable := #[], attributes := #[] }
def k1m1 : Method := { name := "law", desc := "(I)Z", sig := { parameters := [.int], returnType := some .boolean }, accessFlags := 9, code := some k1c1 }
/-- com/example/demarcate/demarcate/IsolationJdbcLevelPinLaw -/
def k1 : Class := { plain "com/example/demarcate/demarcate/IsolationJdbcLevelPinLaw" (some 0) with
  accessFlags := 49
  interfaces := #[]
  cf := some (fileOf pool1 26 #[] #[{ accessFlags := 1, nameIndex := 5, descriptorIndex := 6, attributes := #[] }, { accessFlags := 9, nameIndex := 30, descriptorIndex := 31, attributes := #[] }] 49 2 #[] #[])
  fields := #[]
  methods := #[k1m0, k1m1]
  instanceTypes := #[]
  staticTypes := #[]
  resolved := Array.replicate 35 none
  statics := none }

def pool2 : Array CpInfo := pool [(1, .class_ 2), (0, u "java/lang/constant/Constable"), (0, .class_ 4), (0, u "java/lang/Object")] 6

/-- java/lang/constant/Constable -/
def k2 : Class := { plain "java/lang/constant/Constable" (some 0) with
  accessFlags := 1537
  interfaces := #[]
  cf := some (fileOf pool2 1 #[] #[] 1537 3 #[] #[])
  fields := #[]
  methods := #[]
  instanceTypes := #[]
  staticTypes := #[]
  resolved := Array.replicate 11 none
  statics := none }

def pool3 : Array CpInfo := pool [(1, .class_ 2), (0, u "java/lang/Comparable"), (0, .class_ 4), (0, u "java/lang/Object")] 7

/-- java/lang/Comparable -/
def k3 : Class := { plain "java/lang/Comparable" (some 0) with
  accessFlags := 1537
  interfaces := #[]
  cf := some (fileOf pool3 1 #[] #[] 1537 3 #[] #[])
  fields := #[]
  methods := #[]
  instanceTypes := #[]
  staticTypes := #[]
  resolved := Array.replicate 12 none
  statics := none }

def pool4 : Array CpInfo := pool [(1, .class_ 2), (0, u "java/io/Serializable"), (0, .class_ 4), (0, u "java/lang/Object")] 2

/-- java/io/Serializable -/
def k4 : Class := { plain "java/io/Serializable" (some 0) with
  accessFlags := 1537
  interfaces := #[]
  cf := some (fileOf pool4 1 #[] #[] 1537 3 #[] #[])
  fields := #[]
  methods := #[]
  instanceTypes := #[]
  staticTypes := #[]
  resolved := Array.replicate 7 none
  statics := none }

def pool5 : Array CpInfo := pool [(2, .class_ 4), (1, u "java/lang/Enum"), (0, u "name"), (0, u "Ljava/lang/String;"), (2, u "ordinal"), (0, u "I"), (1, .class_ 14), (1, u "java/lang/Object"), (4, u "hash"), (86, .class_ 108), (1, u "java/lang/Enum$EnumDesc"), (2, .class_ 112), (0, u "java/lang/constant/Constable"), (0, .class_ 114), (0, u "java/lang/Comparable"), (0, .class_ 116), (0, u "java/io/Serializable")] 87

/-- java/lang/Enum -/
def k5 : Class := { plain "java/lang/Enum" (some 0) with
  accessFlags := 1057
  interfaces := #[2, 3, 4]
  cf := some (fileOf pool5 2 #[.nestMembers #[106]] #[] 1057 12 #[111, 113, 115] #[{ accessFlags := 18, nameIndex := 5, descriptorIndex := 6, attributes := #[] }, { accessFlags := 18, nameIndex := 9, descriptorIndex := 10, attributes := #[] }, { accessFlags := 2, nameIndex := 19, descriptorIndex := 10, attributes := #[] }])
  fields := #[{ name := "name", type := (.object "java/lang/String"), accessFlags := 18, slot := 0, constantValue := 0 }, { name := "ordinal", type := .int, accessFlags := 18, slot := 1, constantValue := 0 }, { name := "hash", type := .int, accessFlags := 2, slot := 2, constantValue := 0 }]
  methods := #[]
  instanceTypes := #[(.object "java/lang/String"), .int, .int]
  staticTypes := #[]
  resolved := Array.replicate 204 none
  statics := none }

def pool6 : Array CpInfo := pool [(1, .class_ 2), (0, u "com/example/demarcate/demarcate/Isolation"), (0, .fieldref 1 4), (0, .nameAndType 5 6), (0, u "DEFAULT"), (0, u "Lcom/example/demarcate/demarcate/Isolation;"), (2, u "READ_UNCOMMITTED"), (2, u "READ_COMMITTED"), (2, u "REPEATABLE_READ"), (2, u "SERIALIZABLE"), (2, u "$VALUES"), (0, u "[Lcom/example/demarcate/demarcate/Isolation;"), (6, .class_ 31), (1, u "java/lang/Enum"), (6, .fieldref 1 39), (0, .nameAndType 40 41), (0, u "jdbcLevel"), (0, u "I"), (28, u "()I")] 6

def k6c0 : Code := { maxStack := 3, maxLocals := 1, code := prog_2_method_4_code, exceptionTable := #[], attributes := #[] }
def k6m0 : Method := { name := "jdbcLevel", desc := "()I", sig := { parameters := [], returnType := some .int }, accessFlags := 1, code := some k6c0 }
/-- com/example/demarcate/demarcate/Isolation -/
def k6 : Class := { plain "com/example/demarcate/demarcate/Isolation" (some 5) with
  accessFlags := 16433
  interfaces := #[]
  cf := some (fileOf pool6 1 #[] #[{ accessFlags := 1, nameIndex := 40, descriptorIndex := 70, attributes := #[] }] 16433 29 #[] #[{ accessFlags := 16409, nameIndex := 5, descriptorIndex := 6, attributes := #[] }, { accessFlags := 16409, nameIndex := 9, descriptorIndex := 6, attributes := #[] }, { accessFlags := 16409, nameIndex := 12, descriptorIndex := 6, attributes := #[] }, { accessFlags := 16409, nameIndex := 15, descriptorIndex := 6, attributes := #[] }, { accessFlags := 16409, nameIndex := 18, descriptorIndex := 6, attributes := #[] }, { accessFlags := 18, nameIndex := 40, descriptorIndex := 41, attributes := #[] }, { accessFlags := 4122, nameIndex := 21, descriptorIndex := 22, attributes := #[] }])
  fields := #[{ name := "DEFAULT", type := (.object "com/example/demarcate/demarcate/Isolation"), accessFlags := 16409, slot := 0, constantValue := 0 }, { name := "READ_UNCOMMITTED", type := (.object "com/example/demarcate/demarcate/Isolation"), accessFlags := 16409, slot := 1, constantValue := 0 }, { name := "READ_COMMITTED", type := (.object "com/example/demarcate/demarcate/Isolation"), accessFlags := 16409, slot := 2, constantValue := 0 }, { name := "REPEATABLE_READ", type := (.object "com/example/demarcate/demarcate/Isolation"), accessFlags := 16409, slot := 3, constantValue := 0 }, { name := "SERIALIZABLE", type := (.object "com/example/demarcate/demarcate/Isolation"), accessFlags := 16409, slot := 4, constantValue := 0 }, { name := "jdbcLevel", type := .int, accessFlags := 18, slot := 3, constantValue := 0 }, { name := "$VALUES", type := (.array (.object "com/example/demarcate/demarcate/Isolation")), accessFlags := 4122, slot := 5, constantValue := 0 }]
  methods := #[k6m0]
  instanceTypes := #[(.object "java/lang/String"), .int, .int, .int]
  staticTypes := #[(.object "com/example/demarcate/demarcate/Isolation"), (.object "com/example/demarcate/demarcate/Isolation"), (.object "com/example/demarcate/demarcate/Isolation"), (.object "com/example/demarcate/demarcate/Isolation"), (.object "com/example/demarcate/demarcate/Isolation"), (.array (.object "com/example/demarcate/demarcate/Isolation"))]
  resolved := Array.replicate 77 none
  statics := some 0 }

def pool7 : Array CpInfo := pool [(1, u "java/lang/Cloneable"), (0, .class_ 1), (0, u "java/lang/Object"), (0, .class_ 3)] 3

/-- java/lang/Cloneable -/
def k7 : Class := { plain "java/lang/Cloneable" (some 0) with
  accessFlags := 1537
  interfaces := #[]
  cf := some (fileOf pool7 2 #[] #[] 1537 4 #[] #[])
  fields := #[]
  methods := #[]
  instanceTypes := #[]
  staticTypes := #[]
  resolved := Array.replicate 8 none
  statics := none }

/-- the primitive byte -/
def k8 : Class := { plain "byte" none with kind := .primitive 'B', accessFlags := 0x411 }
/-- [B -/
def k9 : Class := { plain "[B" (some 0) with kind := .array 8 .byte, interfaces := #[7, 4], accessFlags := 1041 }

/-- the primitive int -/
def k10 : Class := { plain "int" none with kind := .primitive 'I', accessFlags := 0x411 }
/-- [I -/
def k11 : Class := { plain "[I" (some 0) with kind := .array 10 .int, interfaces := #[7, 4], accessFlags := 1041 }

def heap : Heap := #[{ cls := 6, slots := #[.ref 1, .ref 2, .ref 3, .ref 4, .ref 5, .null], vm := .statics 6 },
  { cls := 6, slots := #[.null, .int 0, .int 0, .int 0], vm := .none },
  { cls := 6, slots := #[.null, .int 1, .int 0, .int 1], vm := .none },
  { cls := 6, slots := #[.null, .int 2, .int 0, .int 2], vm := .none },
  { cls := 6, slots := #[.null, .int 3, .int 0, .int 4], vm := .none },
  { cls := 6, slots := #[.null, .int 4, .int 0, .int 8], vm := .none }]
def classes : Array Class := #[k0, k1, k2, k3, k4, k5, k6, k7, k8, k9, k10, k11]
def interned : List (Array UInt16 × Addr) := []
def slotsUsed : Nat := 26
def theMethod : MethodId := ⟨1, 1⟩
def args0 : Array Value := #[.int 5]
def aboutOver (below : List Frame) : State where
  vm := { classes := classes, interned := interned.toArray }
  heap := heap
  slotsUsed := slotsUsed
  threads := #[{ frames := .invoking theMethod args0 :: below }]
def below0 : List Frame := [.native { method := ⟨0, 0⟩, args := #[] }]
def about1 : State := aboutOver below0
def p0 : Program := .bare "" "" ""
def e0 : Env := launch0.env 0 0 0
theorem w_frames : about1.frames = Frame.invoking theMethod args0 :: below0 := rfl
set_option maxRecDepth 65536 in
theorem w_args : argsFit about1.vm theMethod args0 = true := by decide +kernel
set_option maxRecDepth 65536 in
theorem w_heap : heapFits about1 = true := by decide +kernel
set_option maxRecDepth 65536 in
theorem w_runnable : about1.curStatus? = some .runnable := by decide +kernel
set_option maxRecDepth 65536 in
theorem w_alone : about1.alone = true := by decide +kernel
set_option maxRecDepth 65536 in
theorem w_named : about1.methodNamed? x = some theMethod := by decide +kernel
set_option maxRecDepth 65536 in
theorem w_hears : about1.hears theMethod below0 = true := by decide +kernel
set_option maxRecDepth 65536 in
theorem w_ripe : about1.ripe theMethod args0 below0 = true := by decide +kernel
theorem w_running : about1.status = .running := rfl
set_option maxRecDepth 65536 in
theorem w_room : about1.hasRoom e0.platform room_1 = true :=
  launch0.hasRoom_least _ room_1 (by decide +kernel) (by decide +kernel) (by decide +kernel) (by decide +kernel) (by decide +kernel) (by decide +kernel)
theorem allAtoms_all (ts : List Jvm.Cond) (a : Array Jvm.Value) (st : Jvm.State) : (allAtoms ts).before a st = ts.all (fun c => c.before a st) := by
  induction ts with
  | nil => rfl
  | cons c t ih =>
    show (Jvm.Cond.and c (allAtoms t)).before a st = _
    rw [Jvm.Cond.before_and, ih, List.all_cons]
def words1 : List Jvm.Cond := Jvm.Cond.code x code maxLocals ret :: tables_1
/-- a 'code' word, met by the world's own term for the bytes: nothing is compared byte by byte -/
theorem code_word {y : MethodName} {bytes : ByteArray} {mx : Nat} {rt : Option FieldType} {a : Array Value} {s : State} {m : MethodId} {meth : Method} {c : Code} (h1 : s.methodNamed? y = some m) (h2 : s.vm.method? m = some meth) (h3 : meth.code = some c) (h4 : c.code = bytes)
    (h5 : (c.maxLocals == mx && c.exceptionTable.isEmpty && decide (c.maxStack ≤ mostOperands) && decide (meth.sig.returnType = rt) && !meth.locks && decide (parseMethodDescriptor y.desc = some meth.sig)) = true) : (Jvm.Cond.code y bytes mx rt).before a s = true := by
  simp only [Bool.and_eq_true, beq_iff_eq, Bool.not_eq_true', decide_eq_true_eq] at h5
  obtain ⟨⟨⟨⟨⟨g1, g2⟩, g3⟩, g4⟩, g5⟩, g6⟩ := h5
  simp [Cond.before, Cond.holds, Cond.value, h1, h2, h3, h4, g1, g2, g3, g4, g5, g6]
def isCode : Jvm.Cond → Bool
  | .code _ _ _ _ => true
  | _ => false
theorem all_split {L : List Jvm.Cond} {P : Jvm.Cond → Bool} (h1 : L.all (fun c => isCode c || P c) = true) (h2 : ∀ c ∈ L.filter isCode, P c = true) : L.all P = true := by
  refine List.all_eq_true.mpr fun c hc => ?_
  have h := List.all_eq_true.mp h1 c hc
  rcases Bool.eq_false_or_eq_true (isCode c) with hi | hi
  · exact h2 c (List.mem_filter.mpr ⟨hc, hi⟩)
  · simpa [hi] using h
set_option maxRecDepth 65536 in
theorem w_c0 : (Jvm.Cond.code x code maxLocals ret).before args0 about1 = true := code_word (m := ⟨1, 1⟩) (meth := k1m1) (c := k1c1) (by decide +kernel) rfl rfl rfl (by decide +kernel)
set_option maxRecDepth 65536 in
theorem w_c1 : (Jvm.Cond.code ({ cls := "com/example/demarcate/demarcate/Isolation", name := "jdbcLevel", desc := "()I" } : Jvm.MethodName) prog_2_method_4_code (1 : Nat) (Option.some Jvm.ClassFile.FieldType.int)).before args0 about1 = true := code_word (m := ⟨6, 0⟩) (meth := k6m0) (c := k6c0) (by decide +kernel) rfl rfl rfl (by decide +kernel)
def codes1 : List Jvm.Cond := [Jvm.Cond.code x code maxLocals ret, Jvm.Cond.code ({ cls := "com/example/demarcate/demarcate/Isolation", name := "jdbcLevel", desc := "()I" } : Jvm.MethodName) prog_2_method_4_code (1 : Nat) (Option.some Jvm.ClassFile.FieldType.int)]
set_option maxRecDepth 65536 in
theorem codes_eq : words1.filter isCode = codes1 := rfl
theorem w_codes : ∀ c ∈ words1.filter isCode, c.before args0 about1 = true := by
  rw [codes_eq]
  intro c hc
  simp only [codes1, List.mem_cons, List.not_mem_nil, or_false] at hc
  rcases hc with rfl | rfl
  · exact w_c0
  · exact w_c1
set_option maxRecDepth 65536 in
theorem w_t1 : words1.all (fun c => isCode c || c.before args0 about1) = true := by decide +kernel
theorem w_tables : (allAtoms (Jvm.Cond.code x code maxLocals ret :: tables_1)).before args0 about1 = true := by
  rw [allAtoms_all]
  show words1.all (fun c => c.before args0 about1) = true
  refine all_split ?_ w_codes
  rw [w_t1]
set_option maxRecDepth 65536 in
theorem w_case : (Jvm.Cond.and given_1 narrow_1).before args0 about1 = true := by decide +kernel
theorem w_applies : (headSpec (Jvm.Cond.code x code maxLocals ret :: tables_1) room_1).applies x e0.platform about1 = true :=
  (Spec.applies_iff w_frames).mpr ⟨w_running, w_runnable, w_alone, w_named, w_hears, w_ripe, w_room, w_tables⟩
theorem atStart : AtStart classFile x code maxLocals ret World_1 tables_1 room_1 Calls_1 rest_1 Pre_1 launch0 p0 e0 about1 theMethod args0 below0 :=
  ⟨lists_1, trivial, launch0.admits_env _ _ _, launch0.least_env, fairChoices_fair.cas, fairChoices_fair.clock, w_frames, w_args, w_heap, w_applies, trivial, trivial, w_case⟩
end start1
theorem witness_1 : WitnessClaimed_1 := ⟨start1.p0, start1.e0, start1.about1, start1.theMethod, start1.args0, start1.below0, start1.atStart⟩
end Jvm.Pilot.@@N@@
