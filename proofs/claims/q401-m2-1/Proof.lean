import JvmDerived
import JvmDerived.Pilot.@@N@@Statement
import JvmDerived.Pilot.@@N@@Code
set_option linter.unusedVariables false
set_option linter.unusedSimpArgs false
namespace Jvm.RoadKit
open Sem ClassFile Op Lib Jvm.Stand Jvm.Free Jvm.LawKit
section New
variable {p : Program} {l : Launch} {e : Env} {R : Room} {s : State} {m : MethodId} {args : Array Value} {below : List Frame} {meth : Method} {c : Code} {T : State} {locs : List Loc} {cells slots : Nat}
theorem retI (X : Stand p l e R s m args below meth c T locs cells slots) (hx : p.tables.exec = Jvm.exec) {pc : Nat} {Ls : Array Slot} {z : Int32} {rest : List Value} (hret : meth.sig.returnType = some .int) (hd : decode c.code pc = .ok (.ireturn, 1)) {fs : List Frame}
    (hl : ∀ (f : JFrame) (acts : List Action), f.method = m → f.locked = none → f.entered = [] → (doReturn e (T.setTop f) acts (some (.int z))).1 = T.setFrames fs) : Steps p.tables e below (T.setTop (mkF m pc Ls (.int z :: rest))) (T.setFrames fs) := by
  have hm' : T.vm.method? m = some meth := X.method'
  have hn : narrow .int (.int z) = .int z := rfl
  show Steps p.tables e below (T.setTop { method := m, pc := pc, locals := Ls, stack := _ :: rest, locked := none }) _
  jvm_step X.here [X.here.top, hx, hd, hm', hret, hn]
  first | (intro acts; rw [hl _ acts rfl rfl rfl]) | rw [hl _ _ rfl rfl rfl]
  exact Steps.refl _
end New
end Jvm.RoadKit
namespace Jvm.Pilot.@@N@@
open Jvm Jvm.ClassFile Sem Op Lib Jvm.Free Jvm.Stand Jvm.LawKit Jvm.RoadKit Bundle Jvm.Pilot.@@N@@.Jvm.D
theorem Wd {Z : State} {a0 : Array Value} {d : Jvm.Cond} (hw : ∀ d ∈ tables_1, d.before a0 Z = true) (i : Nat) (h : tables_1[i]? = some d) : d.before a0 Z = true := hw _ (List.mem_of_getElem? h)
theorem own_sz {Z : State} {n0 : Nat} {h : Heap} (O : Old Z n0 h) : n0 ≤ h.size := O.1 ▸ O.2.1
theorem own_neArv {Z : State} {h : Heap} {a b : Addr} {k k' : ClassId} {ty ty' : FieldType} {z z' : Int32} {vs vs' : List Value} {d d' : Value} (F : Arv Z h a k ty z vs d) (G : Arv Z h b k' ty' z' vs' d') (hn : ty ≠ ty') : a ≠ b := fun q => by
  subst q
  obtain ⟨c1, ⟨e1, ⟨-, k1, hk1, cp1, hd1⟩, -⟩, -⟩ := F
  obtain ⟨c2, ⟨e2, ⟨-, k2, hk2, cp2, hd2⟩, -⟩, -⟩ := G
  cases e1.symm.trans e2
  cases hk1.symm.trans hk2
  rw [hd1] at hd2
  injection hd2 with _ h2
  exact hn h2
theorem own_fi {args : Array Value} {s : State} {t : Term} {a : Addr} {C n d : String} {k : Int32} (ht : t.eval args s none [] s = some (.ref a)) (h : (Jvm.Cond.eq (Jvm.Term.field t C n d) (Jvm.Term.int k)).value args s none s [] = some true) : s.fieldOf? a C n d = some (.int k) := by
  have e := fld_at (C := C) (n := n) (dd := d) ht
  obtain ⟨v, w, h1, h2, h3, h4⟩ := cmp_v (Or.inl h)
  cases (Term.int_eval k).symm.trans h2
  obtain ⟨z, rfl⟩ := h4
  rw [← e, h1]
  simp only [Cond.value, h1, Term.int_eval] at h
  simpa using h
theorem own_len {args : Array Value} {s : State} {t : Term} {a : Addr} {cl : Cell} {ty : FieldType} {z : Int32} (A : Arr s s.heap a cl ty) (ev : t.eval args s none [] s = some (.ref a)) (h : (Jvm.Cond.eq (Jvm.Term.length t) (Jvm.Term.int z)).value args s none s [] = some true) : cl.slots.size < 2 ^ 31 ∧ cl.slots.size.toInt32 = z := by
  have e := Cond.eq_int (beq_iff_eq.mpr h) (Term.int_eval z)
  have hA : s.arrayAt? a = some cl := IntBox.arrayAt_of A.1 A.2.1 A.2.2
  by_cases q : cl.slots.size < 2 ^ 31
  · refine ⟨q, ?_⟩
    have r := len_f ev hA q
    rw [r] at e
    injection e with e
    injection e
  · exfalso
    simp [Term.eval, ev, hA] at e
    omega
theorem own_eli {args : Array Value} {s : State} {t : Term} {a : Addr} {cl : Cell} {j k : Int32} (hc : s.heap[a]? = some cl) (ev : t.eval args s none [] s = some (.ref a)) (h : (Jvm.Cond.eq (Jvm.Term.elem t (Jvm.Term.int j)) (Jvm.Term.int k)).value args s none s [] = some true) : cl.slots[j.toNatClampNeg]? = some (.int k) :=
  (elem_in (Cond.eq_int (beq_iff_eq.mpr h) (Term.int_eval k)) ev (Term.int_eval j) hc).2
theorem own_elr {args : Array Value} {s : State} {t u : Term} {a b : Addr} {cl : Cell} {j : Int32} (hc : s.heap[a]? = some cl) (ev : t.eval args s none [] s = some (.ref a)) (eu : u.eval args s none [] s = some (.ref b)) (h : (Jvm.Cond.eq (Jvm.Term.elem t (Jvm.Term.int j)) u).value args s none s [] = some true) : cl.slots[j.toNatClampNeg]? = some (.ref b) := by
  obtain ⟨v, w, h1, h2, h3, h4⟩ := cmp_v (Or.inl h)
  cases eu.symm.trans h2
  have hv : v = .ref b := gotT (eq_R h1 h2 h4.2 rfl) h
  rw [hv] at h1
  exact (elem_in h1 ev (Term.int_eval j) hc).2
def GF (Z : State) (kUNCLAIMED : Addr) (kKEPT : Addr) (kRUNNING : Addr) (kCONFLICTING : Addr) (kRAN : Addr) (kUNANSWERED : Addr) (kTAKEN_OVER : Addr) (kROLLED_BACK : Addr) (kUNKEPT : Addr) (oEXECUTED : Addr) (oREPLAYED : Addr) (oIN_PROGRESS : Addr) (oRELEASED : Addr) (oSTORE_UNAVAILABLE : Addr) (oOUTCOME_UNKNOWN : Addr) (aSM : Addr) (kSM : ClassId) : Prop := Sta Z Z.heap "com/example/exact1/exact1/Decision$Kind" "UNCLAIMED" "Lcom/example/exact1/exact1/Decision$Kind;" (.ref kUNCLAIMED) ∧ Exa Z Z.heap kUNCLAIMED "com/example/exact1/exact1/Decision$Kind" ∧ Fld Z Z.heap kUNCLAIMED "java/lang/Enum" "ordinal" "I" (.int (0 : Int32)) ∧ Sta Z Z.heap "com/example/exact1/exact1/Decision$Kind" "KEPT" "Lcom/example/exact1/exact1/Decision$Kind;" (.ref kKEPT) ∧ Exa Z Z.heap kKEPT "com/example/exact1/exact1/Decision$Kind" ∧ Fld Z Z.heap kKEPT "java/lang/Enum" "ordinal" "I" (.int (1 : Int32)) ∧ Sta Z Z.heap "com/example/exact1/exact1/Decision$Kind" "RUNNING" "Lcom/example/exact1/exact1/Decision$Kind;" (.ref kRUNNING) ∧ Exa Z Z.heap kRUNNING "com/example/exact1/exact1/Decision$Kind" ∧ Fld Z Z.heap kRUNNING "java/lang/Enum" "ordinal" "I" (.int (2 : Int32)) ∧ Sta Z Z.heap "com/example/exact1/exact1/Decision$Kind" "CONFLICTING" "Lcom/example/exact1/exact1/Decision$Kind;" (.ref kCONFLICTING) ∧ Exa Z Z.heap kCONFLICTING "com/example/exact1/exact1/Decision$Kind" ∧ Fld Z Z.heap kCONFLICTING "java/lang/Enum" "ordinal" "I" (.int (3 : Int32)) ∧ Sta Z Z.heap "com/example/exact1/exact1/Decision$Kind" "RAN" "Lcom/example/exact1/exact1/Decision$Kind;" (.ref kRAN) ∧ Exa Z Z.heap kRAN "com/example/exact1/exact1/Decision$Kind" ∧ Fld Z Z.heap kRAN "java/lang/Enum" "ordinal" "I" (.int (4 : Int32)) ∧ Sta Z Z.heap "com/example/exact1/exact1/Decision$Kind" "UNANSWERED" "Lcom/example/exact1/exact1/Decision$Kind;" (.ref kUNANSWERED) ∧ Exa Z Z.heap kUNANSWERED "com/example/exact1/exact1/Decision$Kind" ∧ Fld Z Z.heap kUNANSWERED "java/lang/Enum" "ordinal" "I" (.int (5 : Int32)) ∧ Sta Z Z.heap "com/example/exact1/exact1/Decision$Kind" "TAKEN_OVER" "Lcom/example/exact1/exact1/Decision$Kind;" (.ref kTAKEN_OVER) ∧ Exa Z Z.heap kTAKEN_OVER "com/example/exact1/exact1/Decision$Kind" ∧ Fld Z Z.heap kTAKEN_OVER "java/lang/Enum" "ordinal" "I" (.int (6 : Int32)) ∧ Sta Z Z.heap "com/example/exact1/exact1/Decision$Kind" "ROLLED_BACK" "Lcom/example/exact1/exact1/Decision$Kind;" (.ref kROLLED_BACK) ∧ Exa Z Z.heap kROLLED_BACK "com/example/exact1/exact1/Decision$Kind" ∧ Fld Z Z.heap kROLLED_BACK "java/lang/Enum" "ordinal" "I" (.int (7 : Int32)) ∧ Sta Z Z.heap "com/example/exact1/exact1/Decision$Kind" "UNKEPT" "Lcom/example/exact1/exact1/Decision$Kind;" (.ref kUNKEPT) ∧ Exa Z Z.heap kUNKEPT "com/example/exact1/exact1/Decision$Kind" ∧ Fld Z Z.heap kUNKEPT "java/lang/Enum" "ordinal" "I" (.int (8 : Int32)) ∧ Sta Z Z.heap "com/example/exact1/exact1/Audit$Outcome" "EXECUTED" "Lcom/example/exact1/exact1/Audit$Outcome;" (.ref oEXECUTED) ∧ Sta Z Z.heap "com/example/exact1/exact1/Audit$Outcome" "REPLAYED" "Lcom/example/exact1/exact1/Audit$Outcome;" (.ref oREPLAYED) ∧ Sta Z Z.heap "com/example/exact1/exact1/Audit$Outcome" "IN_PROGRESS" "Lcom/example/exact1/exact1/Audit$Outcome;" (.ref oIN_PROGRESS) ∧ Sta Z Z.heap "com/example/exact1/exact1/Audit$Outcome" "RELEASED" "Lcom/example/exact1/exact1/Audit$Outcome;" (.ref oRELEASED) ∧ Sta Z Z.heap "com/example/exact1/exact1/Audit$Outcome" "STORE_UNAVAILABLE" "Lcom/example/exact1/exact1/Audit$Outcome;" (.ref oSTORE_UNAVAILABLE) ∧ Sta Z Z.heap "com/example/exact1/exact1/Audit$Outcome" "OUTCOME_UNKNOWN" "Lcom/example/exact1/exact1/Audit$Outcome;" (.ref oOUTCOME_UNKNOWN) ∧ Sta Z Z.heap "com/example/exact1/exact1/Audit$1" "$SwitchMap$com$example$exact1$exact1$Decision$Kind" "[I" (.ref aSM) ∧ Arv Z Z.heap aSM kSM .int (9 : Int32) [(.int (7 : Int32)), (.int (2 : Int32)), (.int (4 : Int32)), (.int (3 : Int32)), (.int (1 : Int32)), (.int (6 : Int32)), (.int (5 : Int32)), (.int (8 : Int32)), (.int (9 : Int32))] (.int (0 : Int32))
theorem d3_0 : decode jdk_37_method_2_code 0 = .ok (.aload_n 0, 1) := by decide +kernel
theorem d3_1 : decode jdk_37_method_2_code 1 = .ok (.getfield 7, 3) := by decide +kernel
theorem d3_4 : decode jdk_37_method_2_code 4 = .ok (.ireturn, 1) := by decide +kernel
theorem pn : plainName "java/lang/Enum" = true := by first | (simp [plainName, overriddenIn]; done) | decide +kernel
abbrev MN_0 : MethodName := ⟨"java/lang/Enum", "ordinal", "()I"⟩
theorem ef_rm3 (m : MethodId) (a1 : Addr) : entryFrame m #[(.ref a1)] 1 = mkF m 0 #[.val (.ref a1)] [] := by first | (simp [entryFrame, mkF, argsToLocals, Value.category]; done) | rfl
def Q_rm3 (n0 : Nat) (Z : State) (kUNCLAIMED : Addr) (kKEPT : Addr) (kRUNNING : Addr) (kCONFLICTING : Addr) (kRAN : Addr) (kUNANSWERED : Addr) (kTAKEN_OVER : Addr) (kROLLED_BACK : Addr) (kUNKEPT : Addr) (oEXECUTED : Addr) (oREPLAYED : Addr) (oIN_PROGRESS : Addr) (oRELEASED : Addr) (oSTORE_UNAVAILABLE : Addr) (oOUTCOME_UNKNOWN : Addr) (aSM : Addr) (kSM : ClassId) (a1 : Addr) (ov : Int32) (h0 : Heap) (v : Option Value) (h : Heap) (L : List Loc) : Prop := v = some (.int ov) ∧ Fr n0 L ∧ h = h0
set_option maxRecDepth 65536 in
set_option maxHeartbeats 40000000 in
theorem rm3 (l : Launch) (Z : State) (a0 : Array Value) (hw : ∀ d ∈ tables_1, d.before a0 Z = true) (ws : List Jvm.Cond) (kUNCLAIMED : Addr) (kKEPT : Addr) (kRUNNING : Addr) (kCONFLICTING : Addr) (kRAN : Addr) (kUNANSWERED : Addr) (kTAKEN_OVER : Addr) (kROLLED_BACK : Addr) (kUNKEPT : Addr) (oEXECUTED : Addr) (oREPLAYED : Addr) (oIN_PROGRESS : Addr) (oRELEASED : Addr) (oSTORE_UNAVAILABLE : Addr) (oOUTCOME_UNKNOWN : Addr) (aSM : Addr) (kSM : ClassId) (a1 : Addr) (ov : Int32) (h0 : Heap) (n0 : Nat) (O0 : Old Z n0 h0) (GL : GF Z kUNCLAIMED kKEPT kRUNNING kCONFLICTING kRAN kUNANSWERED kTAKEN_OVER kROLLED_BACK kUNKEPT oEXECUTED oREPLAYED oIN_PROGRESS oRELEASED oSTORE_UNAVAILABLE oOUTCOME_UNKNOWN aSM kSM) (F_ordinal_a1 : Fld Z h0 a1 "java/lang/Enum" "ordinal" "I" (.int ov)) :
    MetFree l MN_0 (head1 (Jvm.Cond.code MN_0 jdk_37_method_2_code 1 (some .int) :: ws) ({ frames := 0, cells := 0, slots := 0, locals := 0 } : Room)) (fun a U => a = #[(.ref a1)] ∧ Z.Warmed39 U.vm ∧ U.heap = h0) (fun _ _ _ _ _ => True) (fun _ U o U' => ∃ v L, o = .returned v ∧ Q_rm3 n0 Z kUNCLAIMED kKEPT kRUNNING kCONFLICTING kRAN kUNANSWERED kTAKEN_OVER kROLLED_BACK kUNKEPT oEXECUTED oREPLAYED oIN_PROGRESS oRELEASED oSTORE_UNAVAILABLE oOUTCOME_UNKNOWN aSM kSM a1 ov h0 v U'.heap L ∧ FrameEnd U o U' L ({ frames := 0, cells := 0, slots := 0, locals := 0 } : Room).cells ({ frames := 0, cells := 0, slots := 0, locals := 0 } : Room).slots) := by
  refine MetFree.of_bodySF (plainFor_of_name pn) hisR ?_
  intro p e s m args below meth c s₁ Bd hml0 hP hK
  obtain ⟨rfl, hZ, hh⟩ := hP
  have hx := Bd.exec
  have hby := Bd.bytes
  have hml : c.maxLocals = 1 := hml0
  have hown : s.vm.findClass "java/lang/Enum" = some m.cls := findClass_of_methodNamed Bd.named
  have hnm := (name_of_methodNamed Bd.named Bd.method).1
  have X0 : Stand p l e ({ frames := 0, cells := 0, slots := 0, locals := 0 } : Room) s m #[(.ref a1)] below meth c s₁ [] 0 0 := Stand.of_body Bd
  have e0 : s₁.heap = h0 := by rw [← hh, Bd.state]; rfl
  have N0 := Fr.nil n0
  have pre0 : ∀ t, Steps p.tables e below (s₁.setTop (mkF m 0 #[.val (.ref a1)] [])) t → Steps p.tables e below (s₁.setTop (entryFrame m #[(.ref a1)] 1)) t := fun t k => castTop (ef_rm3 m a1) k
  have GL' := GL
  obtain ⟨GSUNCLAIMED, GEUNCLAIMED, GOUNCLAIMED, GSKEPT, GEKEPT, GOKEPT, GSRUNNING, GERUNNING, GORUNNING, GSCONFLICTING, GECONFLICTING, GOCONFLICTING, GSRAN, GERAN, GORAN, GSUNANSWERED, GEUNANSWERED, GOUNANSWERED, GSTAKEN_OVER, GETAKEN_OVER, GOTAKEN_OVER, GSROLLED_BACK, GEROLLED_BACK, GOROLLED_BACK, GSUNKEPT, GEUNKEPT, GOUNKEPT, HSEXECUTED, HSREPLAYED, HSIN_PROGRESS, HSRELEASED, HSSTORE_UNAVAILABLE, HSOUTCOME_UNKNOWN, GSM, GVM⟩ := GL'
  obtain ⟨T1, X1, e1, st1⟩ := getF X0 hx hZ hown (host := "") (Or.inl (Wd hw 25 rfl)) Via.refl e0 F_ordinal_a1 (g := (mkF m 1 #[.val (.ref a1)] [(.ref a1)])) rfl rfl (hb hby d3_1)
  obtain ⟨fs, hr, hrun, hended, hW, hsame⟩ := X1.leave (v := some (.int ov)) (fun h => by rw [Bd.returns] at h; cases h)
  refine ⟨_, _, pre0 _ ?_, hrun, hended, _, _, rfl, ?_, ⟨_, rfl⟩, hW, hsame.mono (by decide) (by decide)⟩
  · show Steps p.tables e below (s₁.setTop (mkF m 0 #[.val (.ref a1)] [])) _
    refine XS.aloadN X0.here hx rfl (hb hby d3_0) rfl rfl ?_
    show Steps p.tables e below (s₁.setTop (mkF m 1 #[.val (.ref a1)] [(.ref a1)])) _
    refine st1 _ ?_
    show Steps p.tables e below (T1.setTop (mkF m 4 #[.val (.ref a1)] [(.int ov)])) _
    exact retI X1 hx Bd.returns (hb hby d3_4) hr
  · show Q_rm3 n0 Z kUNCLAIMED kKEPT kRUNNING kCONFLICTING kRAN kUNANSWERED kTAKEN_OVER kROLLED_BACK kUNKEPT oEXECUTED oREPLAYED oIN_PROGRESS oRELEASED oSTORE_UNAVAILABLE oOUTCOME_UNKNOWN aSM kSM a1 ov h0 _ T1.heap _
    rw [e1]
    exact ⟨rfl, N0, rfl⟩
theorem d2_0 : decode prog_5_method_4_code 0 = .ok (.getstatic 50, 3) := by decide +kernel
theorem d2_3 : decode prog_5_method_4_code 3 = .ok (.aload_n 0, 1) := by decide +kernel
theorem d2_4 : decode prog_5_method_4_code 4 = .ok (.invokevirtual 56, 3) := by decide +kernel
theorem pd : parseMethodDescriptor "()I" = some ⟨[], some .int⟩ := by decide +kernel
abbrev MN_1 : MethodName := ⟨"com/example/exact1/exact1/Decision$Kind", "ordinal", "()I"⟩
theorem d2_7 : decode prog_5_method_4_code 7 = .ok (.iaload, 1) := by decide +kernel
theorem d2_8 : decode prog_5_method_4_code 8 = .ok (.tableswitch 52 1 9 #[62, 68, 74, 80, 80, 86, 92, 92, 98], 52) := by decide +kernel
theorem d2_100 : decode prog_5_method_4_code 100 = .ok (.getstatic 25, 3) := by decide +kernel
theorem d2_103 : decode prog_5_method_4_code 103 = .ok (.goto 6, 3) := by decide +kernel
theorem d2_109 : decode prog_5_method_4_code 109 = .ok (.areturn, 1) := by decide +kernel
theorem pnv1 : plainName "com/example/exact1/exact1/Audit$Outcome" = true := by first | (simp [plainName, overriddenIn]; done) | decide +kernel
abbrev MN_2 : MethodName := ⟨"com/example/exact1/exact1/Audit$Outcome", "ofRequest", "(Lcom/example/exact1/exact1/Decision$Kind;)Lcom/example/exact1/exact1/Audit$Outcome;"⟩
def Q_rm2_UNCLAIMED (n0 : Nat) (Z : State) (kUNCLAIMED : Addr) (kKEPT : Addr) (kRUNNING : Addr) (kCONFLICTING : Addr) (kRAN : Addr) (kUNANSWERED : Addr) (kTAKEN_OVER : Addr) (kROLLED_BACK : Addr) (kUNKEPT : Addr) (oEXECUTED : Addr) (oREPLAYED : Addr) (oIN_PROGRESS : Addr) (oRELEASED : Addr) (oSTORE_UNAVAILABLE : Addr) (oOUTCOME_UNKNOWN : Addr) (aSM : Addr) (kSM : ClassId) (a1 : Addr) (h0 : Heap) (v : Option Value) (h : Heap) (L : List Loc) : Prop := v = some (.ref oSTORE_UNAVAILABLE) ∧ Fr n0 L ∧ h = h0
set_option maxRecDepth 65536 in
set_option maxHeartbeats 40000000 in
theorem rm2_UNCLAIMED (l : Launch) (Z : State) (a0 : Array Value) (hw : ∀ d ∈ tables_1, d.before a0 Z = true) (ws : List Jvm.Cond) (kUNCLAIMED : Addr) (kKEPT : Addr) (kRUNNING : Addr) (kCONFLICTING : Addr) (kRAN : Addr) (kUNANSWERED : Addr) (kTAKEN_OVER : Addr) (kROLLED_BACK : Addr) (kUNKEPT : Addr) (oEXECUTED : Addr) (oREPLAYED : Addr) (oIN_PROGRESS : Addr) (oRELEASED : Addr) (oSTORE_UNAVAILABLE : Addr) (oOUTCOME_UNKNOWN : Addr) (aSM : Addr) (kSM : ClassId) (a1 : Addr) (h0 : Heap) (n0 : Nat) (O0 : Old Z n0 h0) (GL : GF Z kUNCLAIMED kKEPT kRUNNING kCONFLICTING kRAN kUNANSWERED kTAKEN_OVER kROLLED_BACK kUNKEPT oEXECUTED oREPLAYED oIN_PROGRESS oRELEASED oSTORE_UNAVAILABLE oOUTCOME_UNKNOWN aSM kSM) (E_a1 : Exa Z h0 a1 "com/example/exact1/exact1/Decision$Kind") (F_ordinal_a1 : Fld Z h0 a1 "java/lang/Enum" "ordinal" "I" (.int (0 : Int32))) :
    MetFree l MN_2 (head1 (Jvm.Cond.code MN_2 prog_5_method_4_code 1 (some (.object "com/example/exact1/exact1/Audit$Outcome")) :: ws) ({ frames := 1, cells := 0, slots := 0, locals := 13 } : Room)) (fun a U => a = #[(.ref a1)] ∧ Z.Warmed39 U.vm ∧ U.heap = h0) (fun _ _ _ _ _ => True) (fun _ U o U' => ∃ v L, o = .returned v ∧ Q_rm2_UNCLAIMED n0 Z kUNCLAIMED kKEPT kRUNNING kCONFLICTING kRAN kUNANSWERED kTAKEN_OVER kROLLED_BACK kUNKEPT oEXECUTED oREPLAYED oIN_PROGRESS oRELEASED oSTORE_UNAVAILABLE oOUTCOME_UNKNOWN aSM kSM a1 h0 v U'.heap L ∧ FrameEnd U o U' L ({ frames := 1, cells := 0, slots := 0, locals := 13 } : Room).cells ({ frames := 1, cells := 0, slots := 0, locals := 13 } : Room).slots) := by
  refine MetFree.of_bodySF (plainFor_of_name pnv1) hisR ?_
  intro p e s m args below meth c s₁ Bd hml0 hP hK
  obtain ⟨rfl, hZ, hh⟩ := hP
  have hx := Bd.exec
  have hby := Bd.bytes
  have hml : c.maxLocals = 1 := hml0
  have hown : s.vm.findClass "com/example/exact1/exact1/Audit$Outcome" = some m.cls := findClass_of_methodNamed Bd.named
  have hnm := (name_of_methodNamed Bd.named Bd.method).1
  have X0 : Stand p l e ({ frames := 1, cells := 0, slots := 0, locals := 13 } : Room) s m #[(.ref a1)] below meth c s₁ [] 0 0 := Stand.of_body Bd
  have e0 : s₁.heap = h0 := by rw [← hh, Bd.state]; rfl
  have N0 := Fr.nil n0
  have pre0 : ∀ t, Steps p.tables e below (s₁.setTop (mkF m 0 #[.val (.ref a1)] [])) t → Steps p.tables e below (s₁.setTop (entryFrame m #[(.ref a1)] 1)) t := fun t k => castTop (ef_rm3 m a1) k
  have GL' := GL
  obtain ⟨GSUNCLAIMED, GEUNCLAIMED, GOUNCLAIMED, GSKEPT, GEKEPT, GOKEPT, GSRUNNING, GERUNNING, GORUNNING, GSCONFLICTING, GECONFLICTING, GOCONFLICTING, GSRAN, GERAN, GORAN, GSUNANSWERED, GEUNANSWERED, GOUNANSWERED, GSTAKEN_OVER, GETAKEN_OVER, GOTAKEN_OVER, GSROLLED_BACK, GEROLLED_BACK, GOROLLED_BACK, GSUNKEPT, GEUNKEPT, GOUNKEPT, HSEXECUTED, HSREPLAYED, HSIN_PROGRESS, HSRELEASED, HSSTORE_UNAVAILABLE, HSOUTCOME_UNKNOWN, GSM, GVM⟩ := GL'
  obtain ⟨T1, X1, e1, st1⟩ := getS2 X0 hx hZ hown (host := "") (Or.inl (Wd hw 15 rfl)) Via.refl e0 (GSM.ext O0.2) (g := (mkF m 0 #[.val (.ref a1)] [])) rfl (hb hby d2_0)
  obtain ⟨cq2, kq2, q2a, q2b, q2c⟩ := isOf hZ e1 E_a1
  obtain ⟨_, _, ⟨T2, L2, k2, n2⟩, -, X2, ⟨Lc2, hQ2, l2, y2, z2⟩, st2⟩ := X1.virtualBackUp hx (owner := "java/lang/Enum") (x := MN_1) (y := MN_0) hown (mvT hZ (Wd hw 18 rfl)) (mvT hZ (Wd hw 19 rfl)) (mvT hZ (Wd hw 20 rfl)) (by decide) (mvT hZ (Wd hw 22 rfl)) (mvT hZ (Wd hw 21 rfl)) (backOf (W := 1) (rm3 l Z a0 hw [] kUNCLAIMED kKEPT kRUNNING kCONFLICTING kRAN kUNANSWERED kTAKEN_OVER kROLLED_BACK kUNKEPT oEXECUTED oREPLAYED oIN_PROGRESS oRELEASED oSTORE_UNAVAILABLE oOUTCOME_UNKNOWN aSM kSM (a1) ((0 : Int32)) (h0) n0 O0 GL F_ordinal_a1) hZ (Wd hw 24 rfl) (Wd hw 23 rfl) (by decide) (by decide)) q2a q2c (g := (mkF m 4 #[.val (.ref a1)] [(.ref a1), (.ref aSM)])) rfl (by rw [hml]; rfl) (Steps.refl _) (argsL := []) (rest := [(.ref aSM)]) (lenOf pd rfl) rfl (by show 2 * 0 + _ ≤ _; exact Nat.le_of_eq rfl) (hb hby d2_4) (fun _ _ => ⟨rfl, e1, (by decide : 0 + 0 ≤ _), (by decide : 0 + 0 ≤ _)⟩)
  dsimp only [Pt.U, Pt.locs, Pt.cells, Pt.slots] at X2 l2 y2 z2 st2 hQ2
  subst l2 y2 z2
  obtain ⟨rfl, N2q, e2⟩ := hQ2
  have N2 := Fr.app N0 N2q
  obtain ⟨cl3, Ar3, -, S3, N3_, H3, G3⟩ := (GVM.ext O0.2)
  have hin3 : ¬ ((0 : Int32) < 0 ∨ cl3.slots.size ≤ ((0 : Int32)).toNatClampNeg) := inb_of S3 ⟨(by decide), (by decide)⟩
  have hat3 : cl3.slots[((0 : Int32)).toNatClampNeg]? = some (.int (7 : Int32)) := H3.at hin3 rfl
  obtain ⟨T4, X4, e4, st4⟩ := getS2 X2 hx hZ hown (host := "") (Or.inl (Wd hw 27 rfl)) Via.refl e2 (HSSTORE_UNAVAILABLE.ext O0.2) (g := (mkF m 100 #[.val (.ref a1)] [])) rfl (hb hby d2_100)
  obtain ⟨fs, hr, hrun, hended, hW, hsame⟩ := X4.leave (v := some (.ref oSTORE_UNAVAILABLE)) (fun h => by rw [Bd.returns] at h; cases h)
  refine ⟨_, _, pre0 _ ?_, hrun, hended, _, _, rfl, ?_, ⟨_, rfl⟩, hW, hsame.mono (by decide) (by decide)⟩
  · show Steps p.tables e below (s₁.setTop (mkF m 0 #[.val (.ref a1)] [])) _
    refine st1 _ ?_
    show Steps p.tables e below (T1.setTop (mkF m 3 #[.val (.ref a1)] [(.ref aSM)])) _
    refine XS.aloadN X1.here hx rfl (hb hby d2_3) rfl rfl ?_
    show Steps p.tables e below (T1.setTop (mkF m 4 #[.val (.ref a1)] [(.ref a1), (.ref aSM)])) _
    refine st2.trans ?_
    show Steps p.tables e below (T2.setTop (mkF m 7 #[.val (.ref a1)] [(.int (0 : Int32)), (.ref aSM)])) _
    refine X2.iaload hx (j := (0 : Int32)) (v := (.int (7 : Int32))) (by rw [e2]; exact Ar3.1) (State.isArrayOf_alike hZ.alike Ar3.2.1) Ar3.2.2 hin3 hat3 (g := (mkF m 7 #[.val (.ref a1)] [(.int (0 : Int32)), (.ref aSM)])) rfl rfl (hb hby d2_7) _ ?_
    show Steps p.tables e below (T2.setTop (mkF m 8 #[.val (.ref a1)] [(.int (7 : Int32))])) _
    refine XS.tswIn X2.here hx rfl (o := 92) (pc0 := 8) (pc' := 100) rfl (hb hby d2_8) rfl (by decide) (by decide) (by decide) (by decide) ?_
    show Steps p.tables e below (T2.setTop (mkF m 100 #[.val (.ref a1)] [])) _
    refine st4 _ ?_
    show Steps p.tables e below (T4.setTop (mkF m 103 #[.val (.ref a1)] [(.ref oSTORE_UNAVAILABLE)])) _
    refine XS.goto X4.here hx rfl (pc0 := 103) (pc' := 109) rfl (hb hby d2_103) (by decide) (by decide) ?_
    show Steps p.tables e below (T4.setTop (mkF m 109 #[.val (.ref a1)] [(.ref oSTORE_UNAVAILABLE)])) _
    jvm_step X4.here [X4.here.top, hx, (hb hby d2_109), X4.method', Bd.returns, Value.isRef, FieldType.isReference]
    first | (intro acts; rw [hr _ acts rfl rfl rfl]) | rw [hr _ _ rfl rfl rfl]
    exact Steps.refl _
  · show Q_rm2_UNCLAIMED n0 Z kUNCLAIMED kKEPT kRUNNING kCONFLICTING kRAN kUNANSWERED kTAKEN_OVER kROLLED_BACK kUNKEPT oEXECUTED oREPLAYED oIN_PROGRESS oRELEASED oSTORE_UNAVAILABLE oOUTCOME_UNKNOWN aSM kSM a1 h0 _ T4.heap _
    rw [e4]
    exact ⟨rfl, N2, rfl⟩
theorem d2_76 : decode prog_5_method_4_code 76 = .ok (.getstatic 7, 3) := by decide +kernel
theorem d2_79 : decode prog_5_method_4_code 79 = .ok (.goto 30, 3) := by decide +kernel
def Q_rm2_KEPT (n0 : Nat) (Z : State) (kUNCLAIMED : Addr) (kKEPT : Addr) (kRUNNING : Addr) (kCONFLICTING : Addr) (kRAN : Addr) (kUNANSWERED : Addr) (kTAKEN_OVER : Addr) (kROLLED_BACK : Addr) (kUNKEPT : Addr) (oEXECUTED : Addr) (oREPLAYED : Addr) (oIN_PROGRESS : Addr) (oRELEASED : Addr) (oSTORE_UNAVAILABLE : Addr) (oOUTCOME_UNKNOWN : Addr) (aSM : Addr) (kSM : ClassId) (a1 : Addr) (h0 : Heap) (v : Option Value) (h : Heap) (L : List Loc) : Prop := v = some (.ref oREPLAYED) ∧ Fr n0 L ∧ h = h0
set_option maxRecDepth 65536 in
set_option maxHeartbeats 40000000 in
theorem rm2_KEPT (l : Launch) (Z : State) (a0 : Array Value) (hw : ∀ d ∈ tables_1, d.before a0 Z = true) (ws : List Jvm.Cond) (kUNCLAIMED : Addr) (kKEPT : Addr) (kRUNNING : Addr) (kCONFLICTING : Addr) (kRAN : Addr) (kUNANSWERED : Addr) (kTAKEN_OVER : Addr) (kROLLED_BACK : Addr) (kUNKEPT : Addr) (oEXECUTED : Addr) (oREPLAYED : Addr) (oIN_PROGRESS : Addr) (oRELEASED : Addr) (oSTORE_UNAVAILABLE : Addr) (oOUTCOME_UNKNOWN : Addr) (aSM : Addr) (kSM : ClassId) (a1 : Addr) (h0 : Heap) (n0 : Nat) (O0 : Old Z n0 h0) (GL : GF Z kUNCLAIMED kKEPT kRUNNING kCONFLICTING kRAN kUNANSWERED kTAKEN_OVER kROLLED_BACK kUNKEPT oEXECUTED oREPLAYED oIN_PROGRESS oRELEASED oSTORE_UNAVAILABLE oOUTCOME_UNKNOWN aSM kSM) (E_a1 : Exa Z h0 a1 "com/example/exact1/exact1/Decision$Kind") (F_ordinal_a1 : Fld Z h0 a1 "java/lang/Enum" "ordinal" "I" (.int (1 : Int32))) :
    MetFree l MN_2 (head1 (Jvm.Cond.code MN_2 prog_5_method_4_code 1 (some (.object "com/example/exact1/exact1/Audit$Outcome")) :: ws) ({ frames := 1, cells := 0, slots := 0, locals := 13 } : Room)) (fun a U => a = #[(.ref a1)] ∧ Z.Warmed39 U.vm ∧ U.heap = h0) (fun _ _ _ _ _ => True) (fun _ U o U' => ∃ v L, o = .returned v ∧ Q_rm2_KEPT n0 Z kUNCLAIMED kKEPT kRUNNING kCONFLICTING kRAN kUNANSWERED kTAKEN_OVER kROLLED_BACK kUNKEPT oEXECUTED oREPLAYED oIN_PROGRESS oRELEASED oSTORE_UNAVAILABLE oOUTCOME_UNKNOWN aSM kSM a1 h0 v U'.heap L ∧ FrameEnd U o U' L ({ frames := 1, cells := 0, slots := 0, locals := 13 } : Room).cells ({ frames := 1, cells := 0, slots := 0, locals := 13 } : Room).slots) := by
  refine MetFree.of_bodySF (plainFor_of_name pnv1) hisR ?_
  intro p e s m args below meth c s₁ Bd hml0 hP hK
  obtain ⟨rfl, hZ, hh⟩ := hP
  have hx := Bd.exec
  have hby := Bd.bytes
  have hml : c.maxLocals = 1 := hml0
  have hown : s.vm.findClass "com/example/exact1/exact1/Audit$Outcome" = some m.cls := findClass_of_methodNamed Bd.named
  have hnm := (name_of_methodNamed Bd.named Bd.method).1
  have X0 : Stand p l e ({ frames := 1, cells := 0, slots := 0, locals := 13 } : Room) s m #[(.ref a1)] below meth c s₁ [] 0 0 := Stand.of_body Bd
  have e0 : s₁.heap = h0 := by rw [← hh, Bd.state]; rfl
  have N0 := Fr.nil n0
  have pre0 : ∀ t, Steps p.tables e below (s₁.setTop (mkF m 0 #[.val (.ref a1)] [])) t → Steps p.tables e below (s₁.setTop (entryFrame m #[(.ref a1)] 1)) t := fun t k => castTop (ef_rm3 m a1) k
  have GL' := GL
  obtain ⟨GSUNCLAIMED, GEUNCLAIMED, GOUNCLAIMED, GSKEPT, GEKEPT, GOKEPT, GSRUNNING, GERUNNING, GORUNNING, GSCONFLICTING, GECONFLICTING, GOCONFLICTING, GSRAN, GERAN, GORAN, GSUNANSWERED, GEUNANSWERED, GOUNANSWERED, GSTAKEN_OVER, GETAKEN_OVER, GOTAKEN_OVER, GSROLLED_BACK, GEROLLED_BACK, GOROLLED_BACK, GSUNKEPT, GEUNKEPT, GOUNKEPT, HSEXECUTED, HSREPLAYED, HSIN_PROGRESS, HSRELEASED, HSSTORE_UNAVAILABLE, HSOUTCOME_UNKNOWN, GSM, GVM⟩ := GL'
  obtain ⟨T1, X1, e1, st1⟩ := getS2 X0 hx hZ hown (host := "") (Or.inl (Wd hw 15 rfl)) Via.refl e0 (GSM.ext O0.2) (g := (mkF m 0 #[.val (.ref a1)] [])) rfl (hb hby d2_0)
  obtain ⟨cq2, kq2, q2a, q2b, q2c⟩ := isOf hZ e1 E_a1
  obtain ⟨_, _, ⟨T2, L2, k2, n2⟩, -, X2, ⟨Lc2, hQ2, l2, y2, z2⟩, st2⟩ := X1.virtualBackUp hx (owner := "java/lang/Enum") (x := MN_1) (y := MN_0) hown (mvT hZ (Wd hw 18 rfl)) (mvT hZ (Wd hw 19 rfl)) (mvT hZ (Wd hw 20 rfl)) (by decide) (mvT hZ (Wd hw 22 rfl)) (mvT hZ (Wd hw 21 rfl)) (backOf (W := 1) (rm3 l Z a0 hw [] kUNCLAIMED kKEPT kRUNNING kCONFLICTING kRAN kUNANSWERED kTAKEN_OVER kROLLED_BACK kUNKEPT oEXECUTED oREPLAYED oIN_PROGRESS oRELEASED oSTORE_UNAVAILABLE oOUTCOME_UNKNOWN aSM kSM (a1) ((1 : Int32)) (h0) n0 O0 GL F_ordinal_a1) hZ (Wd hw 24 rfl) (Wd hw 23 rfl) (by decide) (by decide)) q2a q2c (g := (mkF m 4 #[.val (.ref a1)] [(.ref a1), (.ref aSM)])) rfl (by rw [hml]; rfl) (Steps.refl _) (argsL := []) (rest := [(.ref aSM)]) (lenOf pd rfl) rfl (by show 2 * 0 + _ ≤ _; exact Nat.le_of_eq rfl) (hb hby d2_4) (fun _ _ => ⟨rfl, e1, (by decide : 0 + 0 ≤ _), (by decide : 0 + 0 ≤ _)⟩)
  dsimp only [Pt.U, Pt.locs, Pt.cells, Pt.slots] at X2 l2 y2 z2 st2 hQ2
  subst l2 y2 z2
  obtain ⟨rfl, N2q, e2⟩ := hQ2
  have N2 := Fr.app N0 N2q
  obtain ⟨cl3, Ar3, -, S3, N3_, H3, G3⟩ := (GVM.ext O0.2)
  have hin3 : ¬ ((1 : Int32) < 0 ∨ cl3.slots.size ≤ ((1 : Int32)).toNatClampNeg) := inb_of S3 ⟨(by decide), (by decide)⟩
  have hat3 : cl3.slots[((1 : Int32)).toNatClampNeg]? = some (.int (2 : Int32)) := H3.at hin3 rfl
  obtain ⟨T4, X4, e4, st4⟩ := getS2 X2 hx hZ hown (host := "") (Or.inl (Wd hw 31 rfl)) Via.refl e2 (HSREPLAYED.ext O0.2) (g := (mkF m 76 #[.val (.ref a1)] [])) rfl (hb hby d2_76)
  obtain ⟨fs, hr, hrun, hended, hW, hsame⟩ := X4.leave (v := some (.ref oREPLAYED)) (fun h => by rw [Bd.returns] at h; cases h)
  refine ⟨_, _, pre0 _ ?_, hrun, hended, _, _, rfl, ?_, ⟨_, rfl⟩, hW, hsame.mono (by decide) (by decide)⟩
  · show Steps p.tables e below (s₁.setTop (mkF m 0 #[.val (.ref a1)] [])) _
    refine st1 _ ?_
    show Steps p.tables e below (T1.setTop (mkF m 3 #[.val (.ref a1)] [(.ref aSM)])) _
    refine XS.aloadN X1.here hx rfl (hb hby d2_3) rfl rfl ?_
    show Steps p.tables e below (T1.setTop (mkF m 4 #[.val (.ref a1)] [(.ref a1), (.ref aSM)])) _
    refine st2.trans ?_
    show Steps p.tables e below (T2.setTop (mkF m 7 #[.val (.ref a1)] [(.int (1 : Int32)), (.ref aSM)])) _
    refine X2.iaload hx (j := (1 : Int32)) (v := (.int (2 : Int32))) (by rw [e2]; exact Ar3.1) (State.isArrayOf_alike hZ.alike Ar3.2.1) Ar3.2.2 hin3 hat3 (g := (mkF m 7 #[.val (.ref a1)] [(.int (1 : Int32)), (.ref aSM)])) rfl rfl (hb hby d2_7) _ ?_
    show Steps p.tables e below (T2.setTop (mkF m 8 #[.val (.ref a1)] [(.int (2 : Int32))])) _
    refine XS.tswIn X2.here hx rfl (o := 68) (pc0 := 8) (pc' := 76) rfl (hb hby d2_8) rfl (by decide) (by decide) (by decide) (by decide) ?_
    show Steps p.tables e below (T2.setTop (mkF m 76 #[.val (.ref a1)] [])) _
    refine st4 _ ?_
    show Steps p.tables e below (T4.setTop (mkF m 79 #[.val (.ref a1)] [(.ref oREPLAYED)])) _
    refine XS.goto X4.here hx rfl (pc0 := 79) (pc' := 109) rfl (hb hby d2_79) (by decide) (by decide) ?_
    show Steps p.tables e below (T4.setTop (mkF m 109 #[.val (.ref a1)] [(.ref oREPLAYED)])) _
    jvm_step X4.here [X4.here.top, hx, (hb hby d2_109), X4.method', Bd.returns, Value.isRef, FieldType.isReference]
    first | (intro acts; rw [hr _ acts rfl rfl rfl]) | rw [hr _ _ rfl rfl rfl]
    exact Steps.refl _
  · show Q_rm2_KEPT n0 Z kUNCLAIMED kKEPT kRUNNING kCONFLICTING kRAN kUNANSWERED kTAKEN_OVER kROLLED_BACK kUNKEPT oEXECUTED oREPLAYED oIN_PROGRESS oRELEASED oSTORE_UNAVAILABLE oOUTCOME_UNKNOWN aSM kSM a1 h0 _ T4.heap _
    rw [e4]
    exact ⟨rfl, N2, rfl⟩
theorem d2_88 : decode prog_5_method_4_code 88 = .ok (.getstatic 13, 3) := by decide +kernel
theorem d2_91 : decode prog_5_method_4_code 91 = .ok (.goto 18, 3) := by decide +kernel
def Q_rm2_RUNNING (n0 : Nat) (Z : State) (kUNCLAIMED : Addr) (kKEPT : Addr) (kRUNNING : Addr) (kCONFLICTING : Addr) (kRAN : Addr) (kUNANSWERED : Addr) (kTAKEN_OVER : Addr) (kROLLED_BACK : Addr) (kUNKEPT : Addr) (oEXECUTED : Addr) (oREPLAYED : Addr) (oIN_PROGRESS : Addr) (oRELEASED : Addr) (oSTORE_UNAVAILABLE : Addr) (oOUTCOME_UNKNOWN : Addr) (aSM : Addr) (kSM : ClassId) (a1 : Addr) (h0 : Heap) (v : Option Value) (h : Heap) (L : List Loc) : Prop := v = some (.ref oIN_PROGRESS) ∧ Fr n0 L ∧ h = h0
set_option maxRecDepth 65536 in
set_option maxHeartbeats 40000000 in
theorem rm2_RUNNING (l : Launch) (Z : State) (a0 : Array Value) (hw : ∀ d ∈ tables_1, d.before a0 Z = true) (ws : List Jvm.Cond) (kUNCLAIMED : Addr) (kKEPT : Addr) (kRUNNING : Addr) (kCONFLICTING : Addr) (kRAN : Addr) (kUNANSWERED : Addr) (kTAKEN_OVER : Addr) (kROLLED_BACK : Addr) (kUNKEPT : Addr) (oEXECUTED : Addr) (oREPLAYED : Addr) (oIN_PROGRESS : Addr) (oRELEASED : Addr) (oSTORE_UNAVAILABLE : Addr) (oOUTCOME_UNKNOWN : Addr) (aSM : Addr) (kSM : ClassId) (a1 : Addr) (h0 : Heap) (n0 : Nat) (O0 : Old Z n0 h0) (GL : GF Z kUNCLAIMED kKEPT kRUNNING kCONFLICTING kRAN kUNANSWERED kTAKEN_OVER kROLLED_BACK kUNKEPT oEXECUTED oREPLAYED oIN_PROGRESS oRELEASED oSTORE_UNAVAILABLE oOUTCOME_UNKNOWN aSM kSM) (E_a1 : Exa Z h0 a1 "com/example/exact1/exact1/Decision$Kind") (F_ordinal_a1 : Fld Z h0 a1 "java/lang/Enum" "ordinal" "I" (.int (2 : Int32))) :
    MetFree l MN_2 (head1 (Jvm.Cond.code MN_2 prog_5_method_4_code 1 (some (.object "com/example/exact1/exact1/Audit$Outcome")) :: ws) ({ frames := 1, cells := 0, slots := 0, locals := 13 } : Room)) (fun a U => a = #[(.ref a1)] ∧ Z.Warmed39 U.vm ∧ U.heap = h0) (fun _ _ _ _ _ => True) (fun _ U o U' => ∃ v L, o = .returned v ∧ Q_rm2_RUNNING n0 Z kUNCLAIMED kKEPT kRUNNING kCONFLICTING kRAN kUNANSWERED kTAKEN_OVER kROLLED_BACK kUNKEPT oEXECUTED oREPLAYED oIN_PROGRESS oRELEASED oSTORE_UNAVAILABLE oOUTCOME_UNKNOWN aSM kSM a1 h0 v U'.heap L ∧ FrameEnd U o U' L ({ frames := 1, cells := 0, slots := 0, locals := 13 } : Room).cells ({ frames := 1, cells := 0, slots := 0, locals := 13 } : Room).slots) := by
  refine MetFree.of_bodySF (plainFor_of_name pnv1) hisR ?_
  intro p e s m args below meth c s₁ Bd hml0 hP hK
  obtain ⟨rfl, hZ, hh⟩ := hP
  have hx := Bd.exec
  have hby := Bd.bytes
  have hml : c.maxLocals = 1 := hml0
  have hown : s.vm.findClass "com/example/exact1/exact1/Audit$Outcome" = some m.cls := findClass_of_methodNamed Bd.named
  have hnm := (name_of_methodNamed Bd.named Bd.method).1
  have X0 : Stand p l e ({ frames := 1, cells := 0, slots := 0, locals := 13 } : Room) s m #[(.ref a1)] below meth c s₁ [] 0 0 := Stand.of_body Bd
  have e0 : s₁.heap = h0 := by rw [← hh, Bd.state]; rfl
  have N0 := Fr.nil n0
  have pre0 : ∀ t, Steps p.tables e below (s₁.setTop (mkF m 0 #[.val (.ref a1)] [])) t → Steps p.tables e below (s₁.setTop (entryFrame m #[(.ref a1)] 1)) t := fun t k => castTop (ef_rm3 m a1) k
  have GL' := GL
  obtain ⟨GSUNCLAIMED, GEUNCLAIMED, GOUNCLAIMED, GSKEPT, GEKEPT, GOKEPT, GSRUNNING, GERUNNING, GORUNNING, GSCONFLICTING, GECONFLICTING, GOCONFLICTING, GSRAN, GERAN, GORAN, GSUNANSWERED, GEUNANSWERED, GOUNANSWERED, GSTAKEN_OVER, GETAKEN_OVER, GOTAKEN_OVER, GSROLLED_BACK, GEROLLED_BACK, GOROLLED_BACK, GSUNKEPT, GEUNKEPT, GOUNKEPT, HSEXECUTED, HSREPLAYED, HSIN_PROGRESS, HSRELEASED, HSSTORE_UNAVAILABLE, HSOUTCOME_UNKNOWN, GSM, GVM⟩ := GL'
  obtain ⟨T1, X1, e1, st1⟩ := getS2 X0 hx hZ hown (host := "") (Or.inl (Wd hw 15 rfl)) Via.refl e0 (GSM.ext O0.2) (g := (mkF m 0 #[.val (.ref a1)] [])) rfl (hb hby d2_0)
  obtain ⟨cq2, kq2, q2a, q2b, q2c⟩ := isOf hZ e1 E_a1
  obtain ⟨_, _, ⟨T2, L2, k2, n2⟩, -, X2, ⟨Lc2, hQ2, l2, y2, z2⟩, st2⟩ := X1.virtualBackUp hx (owner := "java/lang/Enum") (x := MN_1) (y := MN_0) hown (mvT hZ (Wd hw 18 rfl)) (mvT hZ (Wd hw 19 rfl)) (mvT hZ (Wd hw 20 rfl)) (by decide) (mvT hZ (Wd hw 22 rfl)) (mvT hZ (Wd hw 21 rfl)) (backOf (W := 1) (rm3 l Z a0 hw [] kUNCLAIMED kKEPT kRUNNING kCONFLICTING kRAN kUNANSWERED kTAKEN_OVER kROLLED_BACK kUNKEPT oEXECUTED oREPLAYED oIN_PROGRESS oRELEASED oSTORE_UNAVAILABLE oOUTCOME_UNKNOWN aSM kSM (a1) ((2 : Int32)) (h0) n0 O0 GL F_ordinal_a1) hZ (Wd hw 24 rfl) (Wd hw 23 rfl) (by decide) (by decide)) q2a q2c (g := (mkF m 4 #[.val (.ref a1)] [(.ref a1), (.ref aSM)])) rfl (by rw [hml]; rfl) (Steps.refl _) (argsL := []) (rest := [(.ref aSM)]) (lenOf pd rfl) rfl (by show 2 * 0 + _ ≤ _; exact Nat.le_of_eq rfl) (hb hby d2_4) (fun _ _ => ⟨rfl, e1, (by decide : 0 + 0 ≤ _), (by decide : 0 + 0 ≤ _)⟩)
  dsimp only [Pt.U, Pt.locs, Pt.cells, Pt.slots] at X2 l2 y2 z2 st2 hQ2
  subst l2 y2 z2
  obtain ⟨rfl, N2q, e2⟩ := hQ2
  have N2 := Fr.app N0 N2q
  obtain ⟨cl3, Ar3, -, S3, N3_, H3, G3⟩ := (GVM.ext O0.2)
  have hin3 : ¬ ((2 : Int32) < 0 ∨ cl3.slots.size ≤ ((2 : Int32)).toNatClampNeg) := inb_of S3 ⟨(by decide), (by decide)⟩
  have hat3 : cl3.slots[((2 : Int32)).toNatClampNeg]? = some (.int (4 : Int32)) := H3.at hin3 rfl
  obtain ⟨T4, X4, e4, st4⟩ := getS2 X2 hx hZ hown (host := "") (Or.inl (Wd hw 36 rfl)) Via.refl e2 (HSIN_PROGRESS.ext O0.2) (g := (mkF m 88 #[.val (.ref a1)] [])) rfl (hb hby d2_88)
  obtain ⟨fs, hr, hrun, hended, hW, hsame⟩ := X4.leave (v := some (.ref oIN_PROGRESS)) (fun h => by rw [Bd.returns] at h; cases h)
  refine ⟨_, _, pre0 _ ?_, hrun, hended, _, _, rfl, ?_, ⟨_, rfl⟩, hW, hsame.mono (by decide) (by decide)⟩
  · show Steps p.tables e below (s₁.setTop (mkF m 0 #[.val (.ref a1)] [])) _
    refine st1 _ ?_
    show Steps p.tables e below (T1.setTop (mkF m 3 #[.val (.ref a1)] [(.ref aSM)])) _
    refine XS.aloadN X1.here hx rfl (hb hby d2_3) rfl rfl ?_
    show Steps p.tables e below (T1.setTop (mkF m 4 #[.val (.ref a1)] [(.ref a1), (.ref aSM)])) _
    refine st2.trans ?_
    show Steps p.tables e below (T2.setTop (mkF m 7 #[.val (.ref a1)] [(.int (2 : Int32)), (.ref aSM)])) _
    refine X2.iaload hx (j := (2 : Int32)) (v := (.int (4 : Int32))) (by rw [e2]; exact Ar3.1) (State.isArrayOf_alike hZ.alike Ar3.2.1) Ar3.2.2 hin3 hat3 (g := (mkF m 7 #[.val (.ref a1)] [(.int (2 : Int32)), (.ref aSM)])) rfl rfl (hb hby d2_7) _ ?_
    show Steps p.tables e below (T2.setTop (mkF m 8 #[.val (.ref a1)] [(.int (4 : Int32))])) _
    refine XS.tswIn X2.here hx rfl (o := 80) (pc0 := 8) (pc' := 88) rfl (hb hby d2_8) rfl (by decide) (by decide) (by decide) (by decide) ?_
    show Steps p.tables e below (T2.setTop (mkF m 88 #[.val (.ref a1)] [])) _
    refine st4 _ ?_
    show Steps p.tables e below (T4.setTop (mkF m 91 #[.val (.ref a1)] [(.ref oIN_PROGRESS)])) _
    refine XS.goto X4.here hx rfl (pc0 := 91) (pc' := 109) rfl (hb hby d2_91) (by decide) (by decide) ?_
    show Steps p.tables e below (T4.setTop (mkF m 109 #[.val (.ref a1)] [(.ref oIN_PROGRESS)])) _
    jvm_step X4.here [X4.here.top, hx, (hb hby d2_109), X4.method', Bd.returns, Value.isRef, FieldType.isReference]
    first | (intro acts; rw [hr _ acts rfl rfl rfl]) | rw [hr _ _ rfl rfl rfl]
    exact Steps.refl _
  · show Q_rm2_RUNNING n0 Z kUNCLAIMED kKEPT kRUNNING kCONFLICTING kRAN kUNANSWERED kTAKEN_OVER kROLLED_BACK kUNKEPT oEXECUTED oREPLAYED oIN_PROGRESS oRELEASED oSTORE_UNAVAILABLE oOUTCOME_UNKNOWN aSM kSM a1 h0 _ T4.heap _
    rw [e4]
    exact ⟨rfl, N2, rfl⟩
theorem d2_70 : decode prog_5_method_4_code 70 = .ok (.getstatic 3, 3) := by decide +kernel
theorem d2_73 : decode prog_5_method_4_code 73 = .ok (.goto 36, 3) := by decide +kernel
def Q_rm2_RAN (n0 : Nat) (Z : State) (kUNCLAIMED : Addr) (kKEPT : Addr) (kRUNNING : Addr) (kCONFLICTING : Addr) (kRAN : Addr) (kUNANSWERED : Addr) (kTAKEN_OVER : Addr) (kROLLED_BACK : Addr) (kUNKEPT : Addr) (oEXECUTED : Addr) (oREPLAYED : Addr) (oIN_PROGRESS : Addr) (oRELEASED : Addr) (oSTORE_UNAVAILABLE : Addr) (oOUTCOME_UNKNOWN : Addr) (aSM : Addr) (kSM : ClassId) (a1 : Addr) (h0 : Heap) (v : Option Value) (h : Heap) (L : List Loc) : Prop := v = some (.ref oEXECUTED) ∧ Fr n0 L ∧ h = h0
set_option maxRecDepth 65536 in
set_option maxHeartbeats 40000000 in
theorem rm2_RAN (l : Launch) (Z : State) (a0 : Array Value) (hw : ∀ d ∈ tables_1, d.before a0 Z = true) (ws : List Jvm.Cond) (kUNCLAIMED : Addr) (kKEPT : Addr) (kRUNNING : Addr) (kCONFLICTING : Addr) (kRAN : Addr) (kUNANSWERED : Addr) (kTAKEN_OVER : Addr) (kROLLED_BACK : Addr) (kUNKEPT : Addr) (oEXECUTED : Addr) (oREPLAYED : Addr) (oIN_PROGRESS : Addr) (oRELEASED : Addr) (oSTORE_UNAVAILABLE : Addr) (oOUTCOME_UNKNOWN : Addr) (aSM : Addr) (kSM : ClassId) (a1 : Addr) (h0 : Heap) (n0 : Nat) (O0 : Old Z n0 h0) (GL : GF Z kUNCLAIMED kKEPT kRUNNING kCONFLICTING kRAN kUNANSWERED kTAKEN_OVER kROLLED_BACK kUNKEPT oEXECUTED oREPLAYED oIN_PROGRESS oRELEASED oSTORE_UNAVAILABLE oOUTCOME_UNKNOWN aSM kSM) (E_a1 : Exa Z h0 a1 "com/example/exact1/exact1/Decision$Kind") (F_ordinal_a1 : Fld Z h0 a1 "java/lang/Enum" "ordinal" "I" (.int (4 : Int32))) :
    MetFree l MN_2 (head1 (Jvm.Cond.code MN_2 prog_5_method_4_code 1 (some (.object "com/example/exact1/exact1/Audit$Outcome")) :: ws) ({ frames := 1, cells := 0, slots := 0, locals := 13 } : Room)) (fun a U => a = #[(.ref a1)] ∧ Z.Warmed39 U.vm ∧ U.heap = h0) (fun _ _ _ _ _ => True) (fun _ U o U' => ∃ v L, o = .returned v ∧ Q_rm2_RAN n0 Z kUNCLAIMED kKEPT kRUNNING kCONFLICTING kRAN kUNANSWERED kTAKEN_OVER kROLLED_BACK kUNKEPT oEXECUTED oREPLAYED oIN_PROGRESS oRELEASED oSTORE_UNAVAILABLE oOUTCOME_UNKNOWN aSM kSM a1 h0 v U'.heap L ∧ FrameEnd U o U' L ({ frames := 1, cells := 0, slots := 0, locals := 13 } : Room).cells ({ frames := 1, cells := 0, slots := 0, locals := 13 } : Room).slots) := by
  refine MetFree.of_bodySF (plainFor_of_name pnv1) hisR ?_
  intro p e s m args below meth c s₁ Bd hml0 hP hK
  obtain ⟨rfl, hZ, hh⟩ := hP
  have hx := Bd.exec
  have hby := Bd.bytes
  have hml : c.maxLocals = 1 := hml0
  have hown : s.vm.findClass "com/example/exact1/exact1/Audit$Outcome" = some m.cls := findClass_of_methodNamed Bd.named
  have hnm := (name_of_methodNamed Bd.named Bd.method).1
  have X0 : Stand p l e ({ frames := 1, cells := 0, slots := 0, locals := 13 } : Room) s m #[(.ref a1)] below meth c s₁ [] 0 0 := Stand.of_body Bd
  have e0 : s₁.heap = h0 := by rw [← hh, Bd.state]; rfl
  have N0 := Fr.nil n0
  have pre0 : ∀ t, Steps p.tables e below (s₁.setTop (mkF m 0 #[.val (.ref a1)] [])) t → Steps p.tables e below (s₁.setTop (entryFrame m #[(.ref a1)] 1)) t := fun t k => castTop (ef_rm3 m a1) k
  have GL' := GL
  obtain ⟨GSUNCLAIMED, GEUNCLAIMED, GOUNCLAIMED, GSKEPT, GEKEPT, GOKEPT, GSRUNNING, GERUNNING, GORUNNING, GSCONFLICTING, GECONFLICTING, GOCONFLICTING, GSRAN, GERAN, GORAN, GSUNANSWERED, GEUNANSWERED, GOUNANSWERED, GSTAKEN_OVER, GETAKEN_OVER, GOTAKEN_OVER, GSROLLED_BACK, GEROLLED_BACK, GOROLLED_BACK, GSUNKEPT, GEUNKEPT, GOUNKEPT, HSEXECUTED, HSREPLAYED, HSIN_PROGRESS, HSRELEASED, HSSTORE_UNAVAILABLE, HSOUTCOME_UNKNOWN, GSM, GVM⟩ := GL'
  obtain ⟨T1, X1, e1, st1⟩ := getS2 X0 hx hZ hown (host := "") (Or.inl (Wd hw 15 rfl)) Via.refl e0 (GSM.ext O0.2) (g := (mkF m 0 #[.val (.ref a1)] [])) rfl (hb hby d2_0)
  obtain ⟨cq2, kq2, q2a, q2b, q2c⟩ := isOf hZ e1 E_a1
  obtain ⟨_, _, ⟨T2, L2, k2, n2⟩, -, X2, ⟨Lc2, hQ2, l2, y2, z2⟩, st2⟩ := X1.virtualBackUp hx (owner := "java/lang/Enum") (x := MN_1) (y := MN_0) hown (mvT hZ (Wd hw 18 rfl)) (mvT hZ (Wd hw 19 rfl)) (mvT hZ (Wd hw 20 rfl)) (by decide) (mvT hZ (Wd hw 22 rfl)) (mvT hZ (Wd hw 21 rfl)) (backOf (W := 1) (rm3 l Z a0 hw [] kUNCLAIMED kKEPT kRUNNING kCONFLICTING kRAN kUNANSWERED kTAKEN_OVER kROLLED_BACK kUNKEPT oEXECUTED oREPLAYED oIN_PROGRESS oRELEASED oSTORE_UNAVAILABLE oOUTCOME_UNKNOWN aSM kSM (a1) ((4 : Int32)) (h0) n0 O0 GL F_ordinal_a1) hZ (Wd hw 24 rfl) (Wd hw 23 rfl) (by decide) (by decide)) q2a q2c (g := (mkF m 4 #[.val (.ref a1)] [(.ref a1), (.ref aSM)])) rfl (by rw [hml]; rfl) (Steps.refl _) (argsL := []) (rest := [(.ref aSM)]) (lenOf pd rfl) rfl (by show 2 * 0 + _ ≤ _; exact Nat.le_of_eq rfl) (hb hby d2_4) (fun _ _ => ⟨rfl, e1, (by decide : 0 + 0 ≤ _), (by decide : 0 + 0 ≤ _)⟩)
  dsimp only [Pt.U, Pt.locs, Pt.cells, Pt.slots] at X2 l2 y2 z2 st2 hQ2
  subst l2 y2 z2
  obtain ⟨rfl, N2q, e2⟩ := hQ2
  have N2 := Fr.app N0 N2q
  obtain ⟨cl3, Ar3, -, S3, N3_, H3, G3⟩ := (GVM.ext O0.2)
  have hin3 : ¬ ((4 : Int32) < 0 ∨ cl3.slots.size ≤ ((4 : Int32)).toNatClampNeg) := inb_of S3 ⟨(by decide), (by decide)⟩
  have hat3 : cl3.slots[((4 : Int32)).toNatClampNeg]? = some (.int (1 : Int32)) := H3.at hin3 rfl
  obtain ⟨T4, X4, e4, st4⟩ := getS2 X2 hx hZ hown (host := "") (Or.inl (Wd hw 45 rfl)) Via.refl e2 (HSEXECUTED.ext O0.2) (g := (mkF m 70 #[.val (.ref a1)] [])) rfl (hb hby d2_70)
  obtain ⟨fs, hr, hrun, hended, hW, hsame⟩ := X4.leave (v := some (.ref oEXECUTED)) (fun h => by rw [Bd.returns] at h; cases h)
  refine ⟨_, _, pre0 _ ?_, hrun, hended, _, _, rfl, ?_, ⟨_, rfl⟩, hW, hsame.mono (by decide) (by decide)⟩
  · show Steps p.tables e below (s₁.setTop (mkF m 0 #[.val (.ref a1)] [])) _
    refine st1 _ ?_
    show Steps p.tables e below (T1.setTop (mkF m 3 #[.val (.ref a1)] [(.ref aSM)])) _
    refine XS.aloadN X1.here hx rfl (hb hby d2_3) rfl rfl ?_
    show Steps p.tables e below (T1.setTop (mkF m 4 #[.val (.ref a1)] [(.ref a1), (.ref aSM)])) _
    refine st2.trans ?_
    show Steps p.tables e below (T2.setTop (mkF m 7 #[.val (.ref a1)] [(.int (4 : Int32)), (.ref aSM)])) _
    refine X2.iaload hx (j := (4 : Int32)) (v := (.int (1 : Int32))) (by rw [e2]; exact Ar3.1) (State.isArrayOf_alike hZ.alike Ar3.2.1) Ar3.2.2 hin3 hat3 (g := (mkF m 7 #[.val (.ref a1)] [(.int (4 : Int32)), (.ref aSM)])) rfl rfl (hb hby d2_7) _ ?_
    show Steps p.tables e below (T2.setTop (mkF m 8 #[.val (.ref a1)] [(.int (1 : Int32))])) _
    refine XS.tswIn X2.here hx rfl (o := 62) (pc0 := 8) (pc' := 70) rfl (hb hby d2_8) rfl (by decide) (by decide) (by decide) (by decide) ?_
    show Steps p.tables e below (T2.setTop (mkF m 70 #[.val (.ref a1)] [])) _
    refine st4 _ ?_
    show Steps p.tables e below (T4.setTop (mkF m 73 #[.val (.ref a1)] [(.ref oEXECUTED)])) _
    refine XS.goto X4.here hx rfl (pc0 := 73) (pc' := 109) rfl (hb hby d2_73) (by decide) (by decide) ?_
    show Steps p.tables e below (T4.setTop (mkF m 109 #[.val (.ref a1)] [(.ref oEXECUTED)])) _
    jvm_step X4.here [X4.here.top, hx, (hb hby d2_109), X4.method', Bd.returns, Value.isRef, FieldType.isReference]
    first | (intro acts; rw [hr _ acts rfl rfl rfl]) | rw [hr _ _ rfl rfl rfl]
    exact Steps.refl _
  · show Q_rm2_RAN n0 Z kUNCLAIMED kKEPT kRUNNING kCONFLICTING kRAN kUNANSWERED kTAKEN_OVER kROLLED_BACK kUNKEPT oEXECUTED oREPLAYED oIN_PROGRESS oRELEASED oSTORE_UNAVAILABLE oOUTCOME_UNKNOWN aSM kSM a1 h0 _ T4.heap _
    rw [e4]
    exact ⟨rfl, N2, rfl⟩
theorem d2_94 : decode prog_5_method_4_code 94 = .ok (.getstatic 19, 3) := by decide +kernel
theorem d2_97 : decode prog_5_method_4_code 97 = .ok (.goto 12, 3) := by decide +kernel
def Q_rm2_UNANSWERED (n0 : Nat) (Z : State) (kUNCLAIMED : Addr) (kKEPT : Addr) (kRUNNING : Addr) (kCONFLICTING : Addr) (kRAN : Addr) (kUNANSWERED : Addr) (kTAKEN_OVER : Addr) (kROLLED_BACK : Addr) (kUNKEPT : Addr) (oEXECUTED : Addr) (oREPLAYED : Addr) (oIN_PROGRESS : Addr) (oRELEASED : Addr) (oSTORE_UNAVAILABLE : Addr) (oOUTCOME_UNKNOWN : Addr) (aSM : Addr) (kSM : ClassId) (a1 : Addr) (h0 : Heap) (v : Option Value) (h : Heap) (L : List Loc) : Prop := v = some (.ref oRELEASED) ∧ Fr n0 L ∧ h = h0
set_option maxRecDepth 65536 in
set_option maxHeartbeats 40000000 in
theorem rm2_UNANSWERED (l : Launch) (Z : State) (a0 : Array Value) (hw : ∀ d ∈ tables_1, d.before a0 Z = true) (ws : List Jvm.Cond) (kUNCLAIMED : Addr) (kKEPT : Addr) (kRUNNING : Addr) (kCONFLICTING : Addr) (kRAN : Addr) (kUNANSWERED : Addr) (kTAKEN_OVER : Addr) (kROLLED_BACK : Addr) (kUNKEPT : Addr) (oEXECUTED : Addr) (oREPLAYED : Addr) (oIN_PROGRESS : Addr) (oRELEASED : Addr) (oSTORE_UNAVAILABLE : Addr) (oOUTCOME_UNKNOWN : Addr) (aSM : Addr) (kSM : ClassId) (a1 : Addr) (h0 : Heap) (n0 : Nat) (O0 : Old Z n0 h0) (GL : GF Z kUNCLAIMED kKEPT kRUNNING kCONFLICTING kRAN kUNANSWERED kTAKEN_OVER kROLLED_BACK kUNKEPT oEXECUTED oREPLAYED oIN_PROGRESS oRELEASED oSTORE_UNAVAILABLE oOUTCOME_UNKNOWN aSM kSM) (E_a1 : Exa Z h0 a1 "com/example/exact1/exact1/Decision$Kind") (F_ordinal_a1 : Fld Z h0 a1 "java/lang/Enum" "ordinal" "I" (.int (5 : Int32))) :
    MetFree l MN_2 (head1 (Jvm.Cond.code MN_2 prog_5_method_4_code 1 (some (.object "com/example/exact1/exact1/Audit$Outcome")) :: ws) ({ frames := 1, cells := 0, slots := 0, locals := 13 } : Room)) (fun a U => a = #[(.ref a1)] ∧ Z.Warmed39 U.vm ∧ U.heap = h0) (fun _ _ _ _ _ => True) (fun _ U o U' => ∃ v L, o = .returned v ∧ Q_rm2_UNANSWERED n0 Z kUNCLAIMED kKEPT kRUNNING kCONFLICTING kRAN kUNANSWERED kTAKEN_OVER kROLLED_BACK kUNKEPT oEXECUTED oREPLAYED oIN_PROGRESS oRELEASED oSTORE_UNAVAILABLE oOUTCOME_UNKNOWN aSM kSM a1 h0 v U'.heap L ∧ FrameEnd U o U' L ({ frames := 1, cells := 0, slots := 0, locals := 13 } : Room).cells ({ frames := 1, cells := 0, slots := 0, locals := 13 } : Room).slots) := by
  refine MetFree.of_bodySF (plainFor_of_name pnv1) hisR ?_
  intro p e s m args below meth c s₁ Bd hml0 hP hK
  obtain ⟨rfl, hZ, hh⟩ := hP
  have hx := Bd.exec
  have hby := Bd.bytes
  have hml : c.maxLocals = 1 := hml0
  have hown : s.vm.findClass "com/example/exact1/exact1/Audit$Outcome" = some m.cls := findClass_of_methodNamed Bd.named
  have hnm := (name_of_methodNamed Bd.named Bd.method).1
  have X0 : Stand p l e ({ frames := 1, cells := 0, slots := 0, locals := 13 } : Room) s m #[(.ref a1)] below meth c s₁ [] 0 0 := Stand.of_body Bd
  have e0 : s₁.heap = h0 := by rw [← hh, Bd.state]; rfl
  have N0 := Fr.nil n0
  have pre0 : ∀ t, Steps p.tables e below (s₁.setTop (mkF m 0 #[.val (.ref a1)] [])) t → Steps p.tables e below (s₁.setTop (entryFrame m #[(.ref a1)] 1)) t := fun t k => castTop (ef_rm3 m a1) k
  have GL' := GL
  obtain ⟨GSUNCLAIMED, GEUNCLAIMED, GOUNCLAIMED, GSKEPT, GEKEPT, GOKEPT, GSRUNNING, GERUNNING, GORUNNING, GSCONFLICTING, GECONFLICTING, GOCONFLICTING, GSRAN, GERAN, GORAN, GSUNANSWERED, GEUNANSWERED, GOUNANSWERED, GSTAKEN_OVER, GETAKEN_OVER, GOTAKEN_OVER, GSROLLED_BACK, GEROLLED_BACK, GOROLLED_BACK, GSUNKEPT, GEUNKEPT, GOUNKEPT, HSEXECUTED, HSREPLAYED, HSIN_PROGRESS, HSRELEASED, HSSTORE_UNAVAILABLE, HSOUTCOME_UNKNOWN, GSM, GVM⟩ := GL'
  obtain ⟨T1, X1, e1, st1⟩ := getS2 X0 hx hZ hown (host := "") (Or.inl (Wd hw 15 rfl)) Via.refl e0 (GSM.ext O0.2) (g := (mkF m 0 #[.val (.ref a1)] [])) rfl (hb hby d2_0)
  obtain ⟨cq2, kq2, q2a, q2b, q2c⟩ := isOf hZ e1 E_a1
  obtain ⟨_, _, ⟨T2, L2, k2, n2⟩, -, X2, ⟨Lc2, hQ2, l2, y2, z2⟩, st2⟩ := X1.virtualBackUp hx (owner := "java/lang/Enum") (x := MN_1) (y := MN_0) hown (mvT hZ (Wd hw 18 rfl)) (mvT hZ (Wd hw 19 rfl)) (mvT hZ (Wd hw 20 rfl)) (by decide) (mvT hZ (Wd hw 22 rfl)) (mvT hZ (Wd hw 21 rfl)) (backOf (W := 1) (rm3 l Z a0 hw [] kUNCLAIMED kKEPT kRUNNING kCONFLICTING kRAN kUNANSWERED kTAKEN_OVER kROLLED_BACK kUNKEPT oEXECUTED oREPLAYED oIN_PROGRESS oRELEASED oSTORE_UNAVAILABLE oOUTCOME_UNKNOWN aSM kSM (a1) ((5 : Int32)) (h0) n0 O0 GL F_ordinal_a1) hZ (Wd hw 24 rfl) (Wd hw 23 rfl) (by decide) (by decide)) q2a q2c (g := (mkF m 4 #[.val (.ref a1)] [(.ref a1), (.ref aSM)])) rfl (by rw [hml]; rfl) (Steps.refl _) (argsL := []) (rest := [(.ref aSM)]) (lenOf pd rfl) rfl (by show 2 * 0 + _ ≤ _; exact Nat.le_of_eq rfl) (hb hby d2_4) (fun _ _ => ⟨rfl, e1, (by decide : 0 + 0 ≤ _), (by decide : 0 + 0 ≤ _)⟩)
  dsimp only [Pt.U, Pt.locs, Pt.cells, Pt.slots] at X2 l2 y2 z2 st2 hQ2
  subst l2 y2 z2
  obtain ⟨rfl, N2q, e2⟩ := hQ2
  have N2 := Fr.app N0 N2q
  obtain ⟨cl3, Ar3, -, S3, N3_, H3, G3⟩ := (GVM.ext O0.2)
  have hin3 : ¬ ((5 : Int32) < 0 ∨ cl3.slots.size ≤ ((5 : Int32)).toNatClampNeg) := inb_of S3 ⟨(by decide), (by decide)⟩
  have hat3 : cl3.slots[((5 : Int32)).toNatClampNeg]? = some (.int (6 : Int32)) := H3.at hin3 rfl
  obtain ⟨T4, X4, e4, st4⟩ := getS2 X2 hx hZ hown (host := "") (Or.inl (Wd hw 57 rfl)) Via.refl e2 (HSRELEASED.ext O0.2) (g := (mkF m 94 #[.val (.ref a1)] [])) rfl (hb hby d2_94)
  obtain ⟨fs, hr, hrun, hended, hW, hsame⟩ := X4.leave (v := some (.ref oRELEASED)) (fun h => by rw [Bd.returns] at h; cases h)
  refine ⟨_, _, pre0 _ ?_, hrun, hended, _, _, rfl, ?_, ⟨_, rfl⟩, hW, hsame.mono (by decide) (by decide)⟩
  · show Steps p.tables e below (s₁.setTop (mkF m 0 #[.val (.ref a1)] [])) _
    refine st1 _ ?_
    show Steps p.tables e below (T1.setTop (mkF m 3 #[.val (.ref a1)] [(.ref aSM)])) _
    refine XS.aloadN X1.here hx rfl (hb hby d2_3) rfl rfl ?_
    show Steps p.tables e below (T1.setTop (mkF m 4 #[.val (.ref a1)] [(.ref a1), (.ref aSM)])) _
    refine st2.trans ?_
    show Steps p.tables e below (T2.setTop (mkF m 7 #[.val (.ref a1)] [(.int (5 : Int32)), (.ref aSM)])) _
    refine X2.iaload hx (j := (5 : Int32)) (v := (.int (6 : Int32))) (by rw [e2]; exact Ar3.1) (State.isArrayOf_alike hZ.alike Ar3.2.1) Ar3.2.2 hin3 hat3 (g := (mkF m 7 #[.val (.ref a1)] [(.int (5 : Int32)), (.ref aSM)])) rfl rfl (hb hby d2_7) _ ?_
    show Steps p.tables e below (T2.setTop (mkF m 8 #[.val (.ref a1)] [(.int (6 : Int32))])) _
    refine XS.tswIn X2.here hx rfl (o := 86) (pc0 := 8) (pc' := 94) rfl (hb hby d2_8) rfl (by decide) (by decide) (by decide) (by decide) ?_
    show Steps p.tables e below (T2.setTop (mkF m 94 #[.val (.ref a1)] [])) _
    refine st4 _ ?_
    show Steps p.tables e below (T4.setTop (mkF m 97 #[.val (.ref a1)] [(.ref oRELEASED)])) _
    refine XS.goto X4.here hx rfl (pc0 := 97) (pc' := 109) rfl (hb hby d2_97) (by decide) (by decide) ?_
    show Steps p.tables e below (T4.setTop (mkF m 109 #[.val (.ref a1)] [(.ref oRELEASED)])) _
    jvm_step X4.here [X4.here.top, hx, (hb hby d2_109), X4.method', Bd.returns, Value.isRef, FieldType.isReference]
    first | (intro acts; rw [hr _ acts rfl rfl rfl]) | rw [hr _ _ rfl rfl rfl]
    exact Steps.refl _
  · show Q_rm2_UNANSWERED n0 Z kUNCLAIMED kKEPT kRUNNING kCONFLICTING kRAN kUNANSWERED kTAKEN_OVER kROLLED_BACK kUNKEPT oEXECUTED oREPLAYED oIN_PROGRESS oRELEASED oSTORE_UNAVAILABLE oOUTCOME_UNKNOWN aSM kSM a1 h0 _ T4.heap _
    rw [e4]
    exact ⟨rfl, N2, rfl⟩
def Q_rm2_TAKEN_OVER (n0 : Nat) (Z : State) (kUNCLAIMED : Addr) (kKEPT : Addr) (kRUNNING : Addr) (kCONFLICTING : Addr) (kRAN : Addr) (kUNANSWERED : Addr) (kTAKEN_OVER : Addr) (kROLLED_BACK : Addr) (kUNKEPT : Addr) (oEXECUTED : Addr) (oREPLAYED : Addr) (oIN_PROGRESS : Addr) (oRELEASED : Addr) (oSTORE_UNAVAILABLE : Addr) (oOUTCOME_UNKNOWN : Addr) (aSM : Addr) (kSM : ClassId) (a1 : Addr) (h0 : Heap) (v : Option Value) (h : Heap) (L : List Loc) : Prop := v = some (.ref oIN_PROGRESS) ∧ Fr n0 L ∧ h = h0
set_option maxRecDepth 65536 in
set_option maxHeartbeats 40000000 in
theorem rm2_TAKEN_OVER (l : Launch) (Z : State) (a0 : Array Value) (hw : ∀ d ∈ tables_1, d.before a0 Z = true) (ws : List Jvm.Cond) (kUNCLAIMED : Addr) (kKEPT : Addr) (kRUNNING : Addr) (kCONFLICTING : Addr) (kRAN : Addr) (kUNANSWERED : Addr) (kTAKEN_OVER : Addr) (kROLLED_BACK : Addr) (kUNKEPT : Addr) (oEXECUTED : Addr) (oREPLAYED : Addr) (oIN_PROGRESS : Addr) (oRELEASED : Addr) (oSTORE_UNAVAILABLE : Addr) (oOUTCOME_UNKNOWN : Addr) (aSM : Addr) (kSM : ClassId) (a1 : Addr) (h0 : Heap) (n0 : Nat) (O0 : Old Z n0 h0) (GL : GF Z kUNCLAIMED kKEPT kRUNNING kCONFLICTING kRAN kUNANSWERED kTAKEN_OVER kROLLED_BACK kUNKEPT oEXECUTED oREPLAYED oIN_PROGRESS oRELEASED oSTORE_UNAVAILABLE oOUTCOME_UNKNOWN aSM kSM) (E_a1 : Exa Z h0 a1 "com/example/exact1/exact1/Decision$Kind") (F_ordinal_a1 : Fld Z h0 a1 "java/lang/Enum" "ordinal" "I" (.int (6 : Int32))) :
    MetFree l MN_2 (head1 (Jvm.Cond.code MN_2 prog_5_method_4_code 1 (some (.object "com/example/exact1/exact1/Audit$Outcome")) :: ws) ({ frames := 1, cells := 0, slots := 0, locals := 13 } : Room)) (fun a U => a = #[(.ref a1)] ∧ Z.Warmed39 U.vm ∧ U.heap = h0) (fun _ _ _ _ _ => True) (fun _ U o U' => ∃ v L, o = .returned v ∧ Q_rm2_TAKEN_OVER n0 Z kUNCLAIMED kKEPT kRUNNING kCONFLICTING kRAN kUNANSWERED kTAKEN_OVER kROLLED_BACK kUNKEPT oEXECUTED oREPLAYED oIN_PROGRESS oRELEASED oSTORE_UNAVAILABLE oOUTCOME_UNKNOWN aSM kSM a1 h0 v U'.heap L ∧ FrameEnd U o U' L ({ frames := 1, cells := 0, slots := 0, locals := 13 } : Room).cells ({ frames := 1, cells := 0, slots := 0, locals := 13 } : Room).slots) := by
  refine MetFree.of_bodySF (plainFor_of_name pnv1) hisR ?_
  intro p e s m args below meth c s₁ Bd hml0 hP hK
  obtain ⟨rfl, hZ, hh⟩ := hP
  have hx := Bd.exec
  have hby := Bd.bytes
  have hml : c.maxLocals = 1 := hml0
  have hown : s.vm.findClass "com/example/exact1/exact1/Audit$Outcome" = some m.cls := findClass_of_methodNamed Bd.named
  have hnm := (name_of_methodNamed Bd.named Bd.method).1
  have X0 : Stand p l e ({ frames := 1, cells := 0, slots := 0, locals := 13 } : Room) s m #[(.ref a1)] below meth c s₁ [] 0 0 := Stand.of_body Bd
  have e0 : s₁.heap = h0 := by rw [← hh, Bd.state]; rfl
  have N0 := Fr.nil n0
  have pre0 : ∀ t, Steps p.tables e below (s₁.setTop (mkF m 0 #[.val (.ref a1)] [])) t → Steps p.tables e below (s₁.setTop (entryFrame m #[(.ref a1)] 1)) t := fun t k => castTop (ef_rm3 m a1) k
  have GL' := GL
  obtain ⟨GSUNCLAIMED, GEUNCLAIMED, GOUNCLAIMED, GSKEPT, GEKEPT, GOKEPT, GSRUNNING, GERUNNING, GORUNNING, GSCONFLICTING, GECONFLICTING, GOCONFLICTING, GSRAN, GERAN, GORAN, GSUNANSWERED, GEUNANSWERED, GOUNANSWERED, GSTAKEN_OVER, GETAKEN_OVER, GOTAKEN_OVER, GSROLLED_BACK, GEROLLED_BACK, GOROLLED_BACK, GSUNKEPT, GEUNKEPT, GOUNKEPT, HSEXECUTED, HSREPLAYED, HSIN_PROGRESS, HSRELEASED, HSSTORE_UNAVAILABLE, HSOUTCOME_UNKNOWN, GSM, GVM⟩ := GL'
  obtain ⟨T1, X1, e1, st1⟩ := getS2 X0 hx hZ hown (host := "") (Or.inl (Wd hw 15 rfl)) Via.refl e0 (GSM.ext O0.2) (g := (mkF m 0 #[.val (.ref a1)] [])) rfl (hb hby d2_0)
  obtain ⟨cq2, kq2, q2a, q2b, q2c⟩ := isOf hZ e1 E_a1
  obtain ⟨_, _, ⟨T2, L2, k2, n2⟩, -, X2, ⟨Lc2, hQ2, l2, y2, z2⟩, st2⟩ := X1.virtualBackUp hx (owner := "java/lang/Enum") (x := MN_1) (y := MN_0) hown (mvT hZ (Wd hw 18 rfl)) (mvT hZ (Wd hw 19 rfl)) (mvT hZ (Wd hw 20 rfl)) (by decide) (mvT hZ (Wd hw 22 rfl)) (mvT hZ (Wd hw 21 rfl)) (backOf (W := 1) (rm3 l Z a0 hw [] kUNCLAIMED kKEPT kRUNNING kCONFLICTING kRAN kUNANSWERED kTAKEN_OVER kROLLED_BACK kUNKEPT oEXECUTED oREPLAYED oIN_PROGRESS oRELEASED oSTORE_UNAVAILABLE oOUTCOME_UNKNOWN aSM kSM (a1) ((6 : Int32)) (h0) n0 O0 GL F_ordinal_a1) hZ (Wd hw 24 rfl) (Wd hw 23 rfl) (by decide) (by decide)) q2a q2c (g := (mkF m 4 #[.val (.ref a1)] [(.ref a1), (.ref aSM)])) rfl (by rw [hml]; rfl) (Steps.refl _) (argsL := []) (rest := [(.ref aSM)]) (lenOf pd rfl) rfl (by show 2 * 0 + _ ≤ _; exact Nat.le_of_eq rfl) (hb hby d2_4) (fun _ _ => ⟨rfl, e1, (by decide : 0 + 0 ≤ _), (by decide : 0 + 0 ≤ _)⟩)
  dsimp only [Pt.U, Pt.locs, Pt.cells, Pt.slots] at X2 l2 y2 z2 st2 hQ2
  subst l2 y2 z2
  obtain ⟨rfl, N2q, e2⟩ := hQ2
  have N2 := Fr.app N0 N2q
  obtain ⟨cl3, Ar3, -, S3, N3_, H3, G3⟩ := (GVM.ext O0.2)
  have hin3 : ¬ ((6 : Int32) < 0 ∨ cl3.slots.size ≤ ((6 : Int32)).toNatClampNeg) := inb_of S3 ⟨(by decide), (by decide)⟩
  have hat3 : cl3.slots[((6 : Int32)).toNatClampNeg]? = some (.int (5 : Int32)) := H3.at hin3 rfl
  obtain ⟨T4, X4, e4, st4⟩ := getS2 X2 hx hZ hown (host := "") (Or.inl (Wd hw 36 rfl)) Via.refl e2 (HSIN_PROGRESS.ext O0.2) (g := (mkF m 88 #[.val (.ref a1)] [])) rfl (hb hby d2_88)
  obtain ⟨fs, hr, hrun, hended, hW, hsame⟩ := X4.leave (v := some (.ref oIN_PROGRESS)) (fun h => by rw [Bd.returns] at h; cases h)
  refine ⟨_, _, pre0 _ ?_, hrun, hended, _, _, rfl, ?_, ⟨_, rfl⟩, hW, hsame.mono (by decide) (by decide)⟩
  · show Steps p.tables e below (s₁.setTop (mkF m 0 #[.val (.ref a1)] [])) _
    refine st1 _ ?_
    show Steps p.tables e below (T1.setTop (mkF m 3 #[.val (.ref a1)] [(.ref aSM)])) _
    refine XS.aloadN X1.here hx rfl (hb hby d2_3) rfl rfl ?_
    show Steps p.tables e below (T1.setTop (mkF m 4 #[.val (.ref a1)] [(.ref a1), (.ref aSM)])) _
    refine st2.trans ?_
    show Steps p.tables e below (T2.setTop (mkF m 7 #[.val (.ref a1)] [(.int (6 : Int32)), (.ref aSM)])) _
    refine X2.iaload hx (j := (6 : Int32)) (v := (.int (5 : Int32))) (by rw [e2]; exact Ar3.1) (State.isArrayOf_alike hZ.alike Ar3.2.1) Ar3.2.2 hin3 hat3 (g := (mkF m 7 #[.val (.ref a1)] [(.int (6 : Int32)), (.ref aSM)])) rfl rfl (hb hby d2_7) _ ?_
    show Steps p.tables e below (T2.setTop (mkF m 8 #[.val (.ref a1)] [(.int (5 : Int32))])) _
    refine XS.tswIn X2.here hx rfl (o := 80) (pc0 := 8) (pc' := 88) rfl (hb hby d2_8) rfl (by decide) (by decide) (by decide) (by decide) ?_
    show Steps p.tables e below (T2.setTop (mkF m 88 #[.val (.ref a1)] [])) _
    refine st4 _ ?_
    show Steps p.tables e below (T4.setTop (mkF m 91 #[.val (.ref a1)] [(.ref oIN_PROGRESS)])) _
    refine XS.goto X4.here hx rfl (pc0 := 91) (pc' := 109) rfl (hb hby d2_91) (by decide) (by decide) ?_
    show Steps p.tables e below (T4.setTop (mkF m 109 #[.val (.ref a1)] [(.ref oIN_PROGRESS)])) _
    jvm_step X4.here [X4.here.top, hx, (hb hby d2_109), X4.method', Bd.returns, Value.isRef, FieldType.isReference]
    first | (intro acts; rw [hr _ acts rfl rfl rfl]) | rw [hr _ _ rfl rfl rfl]
    exact Steps.refl _
  · show Q_rm2_TAKEN_OVER n0 Z kUNCLAIMED kKEPT kRUNNING kCONFLICTING kRAN kUNANSWERED kTAKEN_OVER kROLLED_BACK kUNKEPT oEXECUTED oREPLAYED oIN_PROGRESS oRELEASED oSTORE_UNAVAILABLE oOUTCOME_UNKNOWN aSM kSM a1 h0 _ T4.heap _
    rw [e4]
    exact ⟨rfl, N2, rfl⟩
def Q_rm2_ROLLED_BACK (n0 : Nat) (Z : State) (kUNCLAIMED : Addr) (kKEPT : Addr) (kRUNNING : Addr) (kCONFLICTING : Addr) (kRAN : Addr) (kUNANSWERED : Addr) (kTAKEN_OVER : Addr) (kROLLED_BACK : Addr) (kUNKEPT : Addr) (oEXECUTED : Addr) (oREPLAYED : Addr) (oIN_PROGRESS : Addr) (oRELEASED : Addr) (oSTORE_UNAVAILABLE : Addr) (oOUTCOME_UNKNOWN : Addr) (aSM : Addr) (kSM : ClassId) (a1 : Addr) (h0 : Heap) (v : Option Value) (h : Heap) (L : List Loc) : Prop := v = some (.ref oSTORE_UNAVAILABLE) ∧ Fr n0 L ∧ h = h0
set_option maxRecDepth 65536 in
set_option maxHeartbeats 40000000 in
theorem rm2_ROLLED_BACK (l : Launch) (Z : State) (a0 : Array Value) (hw : ∀ d ∈ tables_1, d.before a0 Z = true) (ws : List Jvm.Cond) (kUNCLAIMED : Addr) (kKEPT : Addr) (kRUNNING : Addr) (kCONFLICTING : Addr) (kRAN : Addr) (kUNANSWERED : Addr) (kTAKEN_OVER : Addr) (kROLLED_BACK : Addr) (kUNKEPT : Addr) (oEXECUTED : Addr) (oREPLAYED : Addr) (oIN_PROGRESS : Addr) (oRELEASED : Addr) (oSTORE_UNAVAILABLE : Addr) (oOUTCOME_UNKNOWN : Addr) (aSM : Addr) (kSM : ClassId) (a1 : Addr) (h0 : Heap) (n0 : Nat) (O0 : Old Z n0 h0) (GL : GF Z kUNCLAIMED kKEPT kRUNNING kCONFLICTING kRAN kUNANSWERED kTAKEN_OVER kROLLED_BACK kUNKEPT oEXECUTED oREPLAYED oIN_PROGRESS oRELEASED oSTORE_UNAVAILABLE oOUTCOME_UNKNOWN aSM kSM) (E_a1 : Exa Z h0 a1 "com/example/exact1/exact1/Decision$Kind") (F_ordinal_a1 : Fld Z h0 a1 "java/lang/Enum" "ordinal" "I" (.int (7 : Int32))) :
    MetFree l MN_2 (head1 (Jvm.Cond.code MN_2 prog_5_method_4_code 1 (some (.object "com/example/exact1/exact1/Audit$Outcome")) :: ws) ({ frames := 1, cells := 0, slots := 0, locals := 13 } : Room)) (fun a U => a = #[(.ref a1)] ∧ Z.Warmed39 U.vm ∧ U.heap = h0) (fun _ _ _ _ _ => True) (fun _ U o U' => ∃ v L, o = .returned v ∧ Q_rm2_ROLLED_BACK n0 Z kUNCLAIMED kKEPT kRUNNING kCONFLICTING kRAN kUNANSWERED kTAKEN_OVER kROLLED_BACK kUNKEPT oEXECUTED oREPLAYED oIN_PROGRESS oRELEASED oSTORE_UNAVAILABLE oOUTCOME_UNKNOWN aSM kSM a1 h0 v U'.heap L ∧ FrameEnd U o U' L ({ frames := 1, cells := 0, slots := 0, locals := 13 } : Room).cells ({ frames := 1, cells := 0, slots := 0, locals := 13 } : Room).slots) := by
  refine MetFree.of_bodySF (plainFor_of_name pnv1) hisR ?_
  intro p e s m args below meth c s₁ Bd hml0 hP hK
  obtain ⟨rfl, hZ, hh⟩ := hP
  have hx := Bd.exec
  have hby := Bd.bytes
  have hml : c.maxLocals = 1 := hml0
  have hown : s.vm.findClass "com/example/exact1/exact1/Audit$Outcome" = some m.cls := findClass_of_methodNamed Bd.named
  have hnm := (name_of_methodNamed Bd.named Bd.method).1
  have X0 : Stand p l e ({ frames := 1, cells := 0, slots := 0, locals := 13 } : Room) s m #[(.ref a1)] below meth c s₁ [] 0 0 := Stand.of_body Bd
  have e0 : s₁.heap = h0 := by rw [← hh, Bd.state]; rfl
  have N0 := Fr.nil n0
  have pre0 : ∀ t, Steps p.tables e below (s₁.setTop (mkF m 0 #[.val (.ref a1)] [])) t → Steps p.tables e below (s₁.setTop (entryFrame m #[(.ref a1)] 1)) t := fun t k => castTop (ef_rm3 m a1) k
  have GL' := GL
  obtain ⟨GSUNCLAIMED, GEUNCLAIMED, GOUNCLAIMED, GSKEPT, GEKEPT, GOKEPT, GSRUNNING, GERUNNING, GORUNNING, GSCONFLICTING, GECONFLICTING, GOCONFLICTING, GSRAN, GERAN, GORAN, GSUNANSWERED, GEUNANSWERED, GOUNANSWERED, GSTAKEN_OVER, GETAKEN_OVER, GOTAKEN_OVER, GSROLLED_BACK, GEROLLED_BACK, GOROLLED_BACK, GSUNKEPT, GEUNKEPT, GOUNKEPT, HSEXECUTED, HSREPLAYED, HSIN_PROGRESS, HSRELEASED, HSSTORE_UNAVAILABLE, HSOUTCOME_UNKNOWN, GSM, GVM⟩ := GL'
  obtain ⟨T1, X1, e1, st1⟩ := getS2 X0 hx hZ hown (host := "") (Or.inl (Wd hw 15 rfl)) Via.refl e0 (GSM.ext O0.2) (g := (mkF m 0 #[.val (.ref a1)] [])) rfl (hb hby d2_0)
  obtain ⟨cq2, kq2, q2a, q2b, q2c⟩ := isOf hZ e1 E_a1
  obtain ⟨_, _, ⟨T2, L2, k2, n2⟩, -, X2, ⟨Lc2, hQ2, l2, y2, z2⟩, st2⟩ := X1.virtualBackUp hx (owner := "java/lang/Enum") (x := MN_1) (y := MN_0) hown (mvT hZ (Wd hw 18 rfl)) (mvT hZ (Wd hw 19 rfl)) (mvT hZ (Wd hw 20 rfl)) (by decide) (mvT hZ (Wd hw 22 rfl)) (mvT hZ (Wd hw 21 rfl)) (backOf (W := 1) (rm3 l Z a0 hw [] kUNCLAIMED kKEPT kRUNNING kCONFLICTING kRAN kUNANSWERED kTAKEN_OVER kROLLED_BACK kUNKEPT oEXECUTED oREPLAYED oIN_PROGRESS oRELEASED oSTORE_UNAVAILABLE oOUTCOME_UNKNOWN aSM kSM (a1) ((7 : Int32)) (h0) n0 O0 GL F_ordinal_a1) hZ (Wd hw 24 rfl) (Wd hw 23 rfl) (by decide) (by decide)) q2a q2c (g := (mkF m 4 #[.val (.ref a1)] [(.ref a1), (.ref aSM)])) rfl (by rw [hml]; rfl) (Steps.refl _) (argsL := []) (rest := [(.ref aSM)]) (lenOf pd rfl) rfl (by show 2 * 0 + _ ≤ _; exact Nat.le_of_eq rfl) (hb hby d2_4) (fun _ _ => ⟨rfl, e1, (by decide : 0 + 0 ≤ _), (by decide : 0 + 0 ≤ _)⟩)
  dsimp only [Pt.U, Pt.locs, Pt.cells, Pt.slots] at X2 l2 y2 z2 st2 hQ2
  subst l2 y2 z2
  obtain ⟨rfl, N2q, e2⟩ := hQ2
  have N2 := Fr.app N0 N2q
  obtain ⟨cl3, Ar3, -, S3, N3_, H3, G3⟩ := (GVM.ext O0.2)
  have hin3 : ¬ ((7 : Int32) < 0 ∨ cl3.slots.size ≤ ((7 : Int32)).toNatClampNeg) := inb_of S3 ⟨(by decide), (by decide)⟩
  have hat3 : cl3.slots[((7 : Int32)).toNatClampNeg]? = some (.int (8 : Int32)) := H3.at hin3 rfl
  obtain ⟨T4, X4, e4, st4⟩ := getS2 X2 hx hZ hown (host := "") (Or.inl (Wd hw 27 rfl)) Via.refl e2 (HSSTORE_UNAVAILABLE.ext O0.2) (g := (mkF m 100 #[.val (.ref a1)] [])) rfl (hb hby d2_100)
  obtain ⟨fs, hr, hrun, hended, hW, hsame⟩ := X4.leave (v := some (.ref oSTORE_UNAVAILABLE)) (fun h => by rw [Bd.returns] at h; cases h)
  refine ⟨_, _, pre0 _ ?_, hrun, hended, _, _, rfl, ?_, ⟨_, rfl⟩, hW, hsame.mono (by decide) (by decide)⟩
  · show Steps p.tables e below (s₁.setTop (mkF m 0 #[.val (.ref a1)] [])) _
    refine st1 _ ?_
    show Steps p.tables e below (T1.setTop (mkF m 3 #[.val (.ref a1)] [(.ref aSM)])) _
    refine XS.aloadN X1.here hx rfl (hb hby d2_3) rfl rfl ?_
    show Steps p.tables e below (T1.setTop (mkF m 4 #[.val (.ref a1)] [(.ref a1), (.ref aSM)])) _
    refine st2.trans ?_
    show Steps p.tables e below (T2.setTop (mkF m 7 #[.val (.ref a1)] [(.int (7 : Int32)), (.ref aSM)])) _
    refine X2.iaload hx (j := (7 : Int32)) (v := (.int (8 : Int32))) (by rw [e2]; exact Ar3.1) (State.isArrayOf_alike hZ.alike Ar3.2.1) Ar3.2.2 hin3 hat3 (g := (mkF m 7 #[.val (.ref a1)] [(.int (7 : Int32)), (.ref aSM)])) rfl rfl (hb hby d2_7) _ ?_
    show Steps p.tables e below (T2.setTop (mkF m 8 #[.val (.ref a1)] [(.int (8 : Int32))])) _
    refine XS.tswIn X2.here hx rfl (o := 92) (pc0 := 8) (pc' := 100) rfl (hb hby d2_8) rfl (by decide) (by decide) (by decide) (by decide) ?_
    show Steps p.tables e below (T2.setTop (mkF m 100 #[.val (.ref a1)] [])) _
    refine st4 _ ?_
    show Steps p.tables e below (T4.setTop (mkF m 103 #[.val (.ref a1)] [(.ref oSTORE_UNAVAILABLE)])) _
    refine XS.goto X4.here hx rfl (pc0 := 103) (pc' := 109) rfl (hb hby d2_103) (by decide) (by decide) ?_
    show Steps p.tables e below (T4.setTop (mkF m 109 #[.val (.ref a1)] [(.ref oSTORE_UNAVAILABLE)])) _
    jvm_step X4.here [X4.here.top, hx, (hb hby d2_109), X4.method', Bd.returns, Value.isRef, FieldType.isReference]
    first | (intro acts; rw [hr _ acts rfl rfl rfl]) | rw [hr _ _ rfl rfl rfl]
    exact Steps.refl _
  · show Q_rm2_ROLLED_BACK n0 Z kUNCLAIMED kKEPT kRUNNING kCONFLICTING kRAN kUNANSWERED kTAKEN_OVER kROLLED_BACK kUNKEPT oEXECUTED oREPLAYED oIN_PROGRESS oRELEASED oSTORE_UNAVAILABLE oOUTCOME_UNKNOWN aSM kSM a1 h0 _ T4.heap _
    rw [e4]
    exact ⟨rfl, N2, rfl⟩
theorem d2_106 : decode prog_5_method_4_code 106 = .ok (.getstatic 28, 3) := by decide +kernel
def Q_rm2_UNKEPT (n0 : Nat) (Z : State) (kUNCLAIMED : Addr) (kKEPT : Addr) (kRUNNING : Addr) (kCONFLICTING : Addr) (kRAN : Addr) (kUNANSWERED : Addr) (kTAKEN_OVER : Addr) (kROLLED_BACK : Addr) (kUNKEPT : Addr) (oEXECUTED : Addr) (oREPLAYED : Addr) (oIN_PROGRESS : Addr) (oRELEASED : Addr) (oSTORE_UNAVAILABLE : Addr) (oOUTCOME_UNKNOWN : Addr) (aSM : Addr) (kSM : ClassId) (a1 : Addr) (h0 : Heap) (v : Option Value) (h : Heap) (L : List Loc) : Prop := v = some (.ref oOUTCOME_UNKNOWN) ∧ Fr n0 L ∧ h = h0
set_option maxRecDepth 65536 in
set_option maxHeartbeats 40000000 in
theorem rm2_UNKEPT (l : Launch) (Z : State) (a0 : Array Value) (hw : ∀ d ∈ tables_1, d.before a0 Z = true) (ws : List Jvm.Cond) (kUNCLAIMED : Addr) (kKEPT : Addr) (kRUNNING : Addr) (kCONFLICTING : Addr) (kRAN : Addr) (kUNANSWERED : Addr) (kTAKEN_OVER : Addr) (kROLLED_BACK : Addr) (kUNKEPT : Addr) (oEXECUTED : Addr) (oREPLAYED : Addr) (oIN_PROGRESS : Addr) (oRELEASED : Addr) (oSTORE_UNAVAILABLE : Addr) (oOUTCOME_UNKNOWN : Addr) (aSM : Addr) (kSM : ClassId) (a1 : Addr) (h0 : Heap) (n0 : Nat) (O0 : Old Z n0 h0) (GL : GF Z kUNCLAIMED kKEPT kRUNNING kCONFLICTING kRAN kUNANSWERED kTAKEN_OVER kROLLED_BACK kUNKEPT oEXECUTED oREPLAYED oIN_PROGRESS oRELEASED oSTORE_UNAVAILABLE oOUTCOME_UNKNOWN aSM kSM) (E_a1 : Exa Z h0 a1 "com/example/exact1/exact1/Decision$Kind") (F_ordinal_a1 : Fld Z h0 a1 "java/lang/Enum" "ordinal" "I" (.int (8 : Int32))) :
    MetFree l MN_2 (head1 (Jvm.Cond.code MN_2 prog_5_method_4_code 1 (some (.object "com/example/exact1/exact1/Audit$Outcome")) :: ws) ({ frames := 1, cells := 0, slots := 0, locals := 13 } : Room)) (fun a U => a = #[(.ref a1)] ∧ Z.Warmed39 U.vm ∧ U.heap = h0) (fun _ _ _ _ _ => True) (fun _ U o U' => ∃ v L, o = .returned v ∧ Q_rm2_UNKEPT n0 Z kUNCLAIMED kKEPT kRUNNING kCONFLICTING kRAN kUNANSWERED kTAKEN_OVER kROLLED_BACK kUNKEPT oEXECUTED oREPLAYED oIN_PROGRESS oRELEASED oSTORE_UNAVAILABLE oOUTCOME_UNKNOWN aSM kSM a1 h0 v U'.heap L ∧ FrameEnd U o U' L ({ frames := 1, cells := 0, slots := 0, locals := 13 } : Room).cells ({ frames := 1, cells := 0, slots := 0, locals := 13 } : Room).slots) := by
  refine MetFree.of_bodySF (plainFor_of_name pnv1) hisR ?_
  intro p e s m args below meth c s₁ Bd hml0 hP hK
  obtain ⟨rfl, hZ, hh⟩ := hP
  have hx := Bd.exec
  have hby := Bd.bytes
  have hml : c.maxLocals = 1 := hml0
  have hown : s.vm.findClass "com/example/exact1/exact1/Audit$Outcome" = some m.cls := findClass_of_methodNamed Bd.named
  have hnm := (name_of_methodNamed Bd.named Bd.method).1
  have X0 : Stand p l e ({ frames := 1, cells := 0, slots := 0, locals := 13 } : Room) s m #[(.ref a1)] below meth c s₁ [] 0 0 := Stand.of_body Bd
  have e0 : s₁.heap = h0 := by rw [← hh, Bd.state]; rfl
  have N0 := Fr.nil n0
  have pre0 : ∀ t, Steps p.tables e below (s₁.setTop (mkF m 0 #[.val (.ref a1)] [])) t → Steps p.tables e below (s₁.setTop (entryFrame m #[(.ref a1)] 1)) t := fun t k => castTop (ef_rm3 m a1) k
  have GL' := GL
  obtain ⟨GSUNCLAIMED, GEUNCLAIMED, GOUNCLAIMED, GSKEPT, GEKEPT, GOKEPT, GSRUNNING, GERUNNING, GORUNNING, GSCONFLICTING, GECONFLICTING, GOCONFLICTING, GSRAN, GERAN, GORAN, GSUNANSWERED, GEUNANSWERED, GOUNANSWERED, GSTAKEN_OVER, GETAKEN_OVER, GOTAKEN_OVER, GSROLLED_BACK, GEROLLED_BACK, GOROLLED_BACK, GSUNKEPT, GEUNKEPT, GOUNKEPT, HSEXECUTED, HSREPLAYED, HSIN_PROGRESS, HSRELEASED, HSSTORE_UNAVAILABLE, HSOUTCOME_UNKNOWN, GSM, GVM⟩ := GL'
  obtain ⟨T1, X1, e1, st1⟩ := getS2 X0 hx hZ hown (host := "") (Or.inl (Wd hw 15 rfl)) Via.refl e0 (GSM.ext O0.2) (g := (mkF m 0 #[.val (.ref a1)] [])) rfl (hb hby d2_0)
  obtain ⟨cq2, kq2, q2a, q2b, q2c⟩ := isOf hZ e1 E_a1
  obtain ⟨_, _, ⟨T2, L2, k2, n2⟩, -, X2, ⟨Lc2, hQ2, l2, y2, z2⟩, st2⟩ := X1.virtualBackUp hx (owner := "java/lang/Enum") (x := MN_1) (y := MN_0) hown (mvT hZ (Wd hw 18 rfl)) (mvT hZ (Wd hw 19 rfl)) (mvT hZ (Wd hw 20 rfl)) (by decide) (mvT hZ (Wd hw 22 rfl)) (mvT hZ (Wd hw 21 rfl)) (backOf (W := 1) (rm3 l Z a0 hw [] kUNCLAIMED kKEPT kRUNNING kCONFLICTING kRAN kUNANSWERED kTAKEN_OVER kROLLED_BACK kUNKEPT oEXECUTED oREPLAYED oIN_PROGRESS oRELEASED oSTORE_UNAVAILABLE oOUTCOME_UNKNOWN aSM kSM (a1) ((8 : Int32)) (h0) n0 O0 GL F_ordinal_a1) hZ (Wd hw 24 rfl) (Wd hw 23 rfl) (by decide) (by decide)) q2a q2c (g := (mkF m 4 #[.val (.ref a1)] [(.ref a1), (.ref aSM)])) rfl (by rw [hml]; rfl) (Steps.refl _) (argsL := []) (rest := [(.ref aSM)]) (lenOf pd rfl) rfl (by show 2 * 0 + _ ≤ _; exact Nat.le_of_eq rfl) (hb hby d2_4) (fun _ _ => ⟨rfl, e1, (by decide : 0 + 0 ≤ _), (by decide : 0 + 0 ≤ _)⟩)
  dsimp only [Pt.U, Pt.locs, Pt.cells, Pt.slots] at X2 l2 y2 z2 st2 hQ2
  subst l2 y2 z2
  obtain ⟨rfl, N2q, e2⟩ := hQ2
  have N2 := Fr.app N0 N2q
  obtain ⟨cl3, Ar3, -, S3, N3_, H3, G3⟩ := (GVM.ext O0.2)
  have hin3 : ¬ ((8 : Int32) < 0 ∨ cl3.slots.size ≤ ((8 : Int32)).toNatClampNeg) := inb_of S3 ⟨(by decide), (by decide)⟩
  have hat3 : cl3.slots[((8 : Int32)).toNatClampNeg]? = some (.int (9 : Int32)) := H3.at hin3 rfl
  obtain ⟨T4, X4, e4, st4⟩ := getS2 X2 hx hZ hown (host := "") (Or.inl (Wd hw 50 rfl)) Via.refl e2 (HSOUTCOME_UNKNOWN.ext O0.2) (g := (mkF m 106 #[.val (.ref a1)] [])) rfl (hb hby d2_106)
  obtain ⟨fs, hr, hrun, hended, hW, hsame⟩ := X4.leave (v := some (.ref oOUTCOME_UNKNOWN)) (fun h => by rw [Bd.returns] at h; cases h)
  refine ⟨_, _, pre0 _ ?_, hrun, hended, _, _, rfl, ?_, ⟨_, rfl⟩, hW, hsame.mono (by decide) (by decide)⟩
  · show Steps p.tables e below (s₁.setTop (mkF m 0 #[.val (.ref a1)] [])) _
    refine st1 _ ?_
    show Steps p.tables e below (T1.setTop (mkF m 3 #[.val (.ref a1)] [(.ref aSM)])) _
    refine XS.aloadN X1.here hx rfl (hb hby d2_3) rfl rfl ?_
    show Steps p.tables e below (T1.setTop (mkF m 4 #[.val (.ref a1)] [(.ref a1), (.ref aSM)])) _
    refine st2.trans ?_
    show Steps p.tables e below (T2.setTop (mkF m 7 #[.val (.ref a1)] [(.int (8 : Int32)), (.ref aSM)])) _
    refine X2.iaload hx (j := (8 : Int32)) (v := (.int (9 : Int32))) (by rw [e2]; exact Ar3.1) (State.isArrayOf_alike hZ.alike Ar3.2.1) Ar3.2.2 hin3 hat3 (g := (mkF m 7 #[.val (.ref a1)] [(.int (8 : Int32)), (.ref aSM)])) rfl rfl (hb hby d2_7) _ ?_
    show Steps p.tables e below (T2.setTop (mkF m 8 #[.val (.ref a1)] [(.int (9 : Int32))])) _
    refine XS.tswIn X2.here hx rfl (o := 98) (pc0 := 8) (pc' := 106) rfl (hb hby d2_8) rfl (by decide) (by decide) (by decide) (by decide) ?_
    show Steps p.tables e below (T2.setTop (mkF m 106 #[.val (.ref a1)] [])) _
    refine st4 _ ?_
    show Steps p.tables e below (T4.setTop (mkF m 109 #[.val (.ref a1)] [(.ref oOUTCOME_UNKNOWN)])) _
    jvm_step X4.here [X4.here.top, hx, (hb hby d2_109), X4.method', Bd.returns, Value.isRef, FieldType.isReference]
    first | (intro acts; rw [hr _ acts rfl rfl rfl]) | rw [hr _ _ rfl rfl rfl]
    exact Steps.refl _
  · show Q_rm2_UNKEPT n0 Z kUNCLAIMED kKEPT kRUNNING kCONFLICTING kRAN kUNANSWERED kTAKEN_OVER kROLLED_BACK kUNKEPT oEXECUTED oREPLAYED oIN_PROGRESS oRELEASED oSTORE_UNAVAILABLE oOUTCOME_UNKNOWN aSM kSM a1 h0 _ T4.heap _
    rw [e4]
    exact ⟨rfl, N2, rfl⟩
theorem d1_0 : decode prog_5_method_5_code 0 = .ok (.aload_n 0, 1) := by decide +kernel
theorem d1_1 : decode prog_5_method_5_code 1 = .ok (.getstatic 67, 3) := by decide +kernel
theorem d1_4 : decode prog_5_method_5_code 4 = .ok (.if_acmp .ne 9, 3) := by decide +kernel
theorem d1_13 : decode prog_5_method_5_code 13 = .ok (.aload_n 0, 1) := by decide +kernel
theorem d1_14 : decode prog_5_method_5_code 14 = .ok (.invokestatic 71, 3) := by decide +kernel
theorem pdv1 : parseMethodDescriptor "(Lcom/example/exact1/exact1/Decision$Kind;)Lcom/example/exact1/exact1/Audit$Outcome;" = some ⟨[(.object "com/example/exact1/exact1/Decision$Kind")], some (.object "com/example/exact1/exact1/Audit$Outcome")⟩ := by decide +kernel
theorem d1_17 : decode prog_5_method_5_code 17 = .ok (.areturn, 1) := by decide +kernel
abbrev MN_3 : MethodName := ⟨"com/example/exact1/exact1/Audit$Outcome", "ofEvent", "(Lcom/example/exact1/exact1/Decision$Kind;)Lcom/example/exact1/exact1/Audit$Outcome;"⟩
theorem ef_rm1_UNCLAIMED (m : MethodId)  : entryFrame m #[(.ref kUNCLAIMED)] 1 = mkF m 0 #[.val (.ref kUNCLAIMED)] [] := by first | (simp [entryFrame, mkF, argsToLocals, Value.category]; done) | rfl
def Q_rm1_UNCLAIMED (n0 : Nat) (Z : State) (kUNCLAIMED : Addr) (kKEPT : Addr) (kRUNNING : Addr) (kCONFLICTING : Addr) (kRAN : Addr) (kUNANSWERED : Addr) (kTAKEN_OVER : Addr) (kROLLED_BACK : Addr) (kUNKEPT : Addr) (oEXECUTED : Addr) (oREPLAYED : Addr) (oIN_PROGRESS : Addr) (oRELEASED : Addr) (oSTORE_UNAVAILABLE : Addr) (oOUTCOME_UNKNOWN : Addr) (aSM : Addr) (kSM : ClassId) (h0 : Heap) (v : Option Value) (h : Heap) (L : List Loc) : Prop := v = some (.ref oSTORE_UNAVAILABLE) ∧ Fr n0 L ∧ h = h0
set_option maxRecDepth 65536 in
set_option maxHeartbeats 40000000 in
theorem rm1_UNCLAIMED (l : Launch) (Z : State) (a0 : Array Value) (hw : ∀ d ∈ tables_1, d.before a0 Z = true) (ws : List Jvm.Cond) (kUNCLAIMED : Addr) (kKEPT : Addr) (kRUNNING : Addr) (kCONFLICTING : Addr) (kRAN : Addr) (kUNANSWERED : Addr) (kTAKEN_OVER : Addr) (kROLLED_BACK : Addr) (kUNKEPT : Addr) (oEXECUTED : Addr) (oREPLAYED : Addr) (oIN_PROGRESS : Addr) (oRELEASED : Addr) (oSTORE_UNAVAILABLE : Addr) (oOUTCOME_UNKNOWN : Addr) (aSM : Addr) (kSM : ClassId) (h0 : Heap) (n0 : Nat) (O0 : Old Z n0 h0) (GL : GF Z kUNCLAIMED kKEPT kRUNNING kCONFLICTING kRAN kUNANSWERED kTAKEN_OVER kROLLED_BACK kUNKEPT oEXECUTED oREPLAYED oIN_PROGRESS oRELEASED oSTORE_UNAVAILABLE oOUTCOME_UNKNOWN aSM kSM) :
    MetFree l MN_3 (head1 (Jvm.Cond.code MN_3 prog_5_method_5_code 1 (some (.object "com/example/exact1/exact1/Audit$Outcome")) :: ws) ({ frames := 2, cells := 0, slots := 0, locals := 25 } : Room)) (fun a U => a = #[(.ref kUNCLAIMED)] ∧ Z.Warmed39 U.vm ∧ U.heap = h0) (fun _ _ _ _ _ => True) (fun _ U o U' => ∃ v L, o = .returned v ∧ Q_rm1_UNCLAIMED n0 Z kUNCLAIMED kKEPT kRUNNING kCONFLICTING kRAN kUNANSWERED kTAKEN_OVER kROLLED_BACK kUNKEPT oEXECUTED oREPLAYED oIN_PROGRESS oRELEASED oSTORE_UNAVAILABLE oOUTCOME_UNKNOWN aSM kSM h0 v U'.heap L ∧ FrameEnd U o U' L ({ frames := 2, cells := 0, slots := 0, locals := 25 } : Room).cells ({ frames := 2, cells := 0, slots := 0, locals := 25 } : Room).slots) := by
  refine MetFree.of_bodySF (plainFor_of_name pnv1) hisR ?_
  intro p e s m args below meth c s₁ Bd hml0 hP hK
  obtain ⟨rfl, hZ, hh⟩ := hP
  have hx := Bd.exec
  have hby := Bd.bytes
  have hml : c.maxLocals = 1 := hml0
  have hown : s.vm.findClass "com/example/exact1/exact1/Audit$Outcome" = some m.cls := findClass_of_methodNamed Bd.named
  have hnm := (name_of_methodNamed Bd.named Bd.method).1
  have X0 : Stand p l e ({ frames := 2, cells := 0, slots := 0, locals := 25 } : Room) s m #[(.ref kUNCLAIMED)] below meth c s₁ [] 0 0 := Stand.of_body Bd
  have e0 : s₁.heap = h0 := by rw [← hh, Bd.state]; rfl
  have N0 := Fr.nil n0
  have pre0 : ∀ t, Steps p.tables e below (s₁.setTop (mkF m 0 #[.val (.ref kUNCLAIMED)] [])) t → Steps p.tables e below (s₁.setTop (entryFrame m #[(.ref kUNCLAIMED)] 1)) t := fun t k => castTop (ef_rm1_UNCLAIMED m ) k
  have GL' := GL
  obtain ⟨GSUNCLAIMED, GEUNCLAIMED, GOUNCLAIMED, GSKEPT, GEKEPT, GOKEPT, GSRUNNING, GERUNNING, GORUNNING, GSCONFLICTING, GECONFLICTING, GOCONFLICTING, GSRAN, GERAN, GORAN, GSUNANSWERED, GEUNANSWERED, GOUNANSWERED, GSTAKEN_OVER, GETAKEN_OVER, GOTAKEN_OVER, GSROLLED_BACK, GEROLLED_BACK, GOROLLED_BACK, GSUNKEPT, GEUNKEPT, GOUNKEPT, HSEXECUTED, HSREPLAYED, HSIN_PROGRESS, HSRELEASED, HSSTORE_UNAVAILABLE, HSOUTCOME_UNKNOWN, GSM, GVM⟩ := GL'
  obtain ⟨T1, X1, e1, st1⟩ := getS2 X0 hx hZ hown (host := "") (Or.inl (Wd hw 10 rfl)) Via.refl e0 (GSCONFLICTING.ext O0.2) (g := (mkF m 1 #[.val (.ref kUNCLAIMED)] [(.ref kUNCLAIMED)])) rfl (hb hby d1_1)
  have nC : kUNCLAIMED ≠ kCONFLICTING := Fld.ne GOUNCLAIMED GOCONFLICTING (by decide)
  obtain ⟨_, _, ⟨T2, L2, k2, n2⟩, -, X2, ⟨Lc2, hQ2, l2, y2, z2⟩, st2⟩ := Jvm.LawKit.callS X1 hx (y := MN_2) hown (mvT hZ (Wd hw 12 rfl)) (mvT hZ (Wd hw 13 rfl)) (mvT hZ (Wd hw 5 rfl)) (mvT hZ (Wd hw 14 rfl)) (by decide) (backOf (W := 0) (rm2_UNCLAIMED l Z a0 hw [] kUNCLAIMED kKEPT kRUNNING kCONFLICTING kRAN kUNANSWERED kTAKEN_OVER kROLLED_BACK kUNKEPT oEXECUTED oREPLAYED oIN_PROGRESS oRELEASED oSTORE_UNAVAILABLE oOUTCOME_UNKNOWN aSM kSM (kUNCLAIMED) (h0) n0 O0 GL (GEUNCLAIMED.ext O0.2) (GOUNCLAIMED.ext O0.2)) hZ (Wd hw 14 rfl) (Wd hw 5 rfl) (by decide) (by decide)) (g := (mkF m 14 #[.val (.ref kUNCLAIMED)] [(.ref kUNCLAIMED)])) rfl (by rw [hml]; rfl) (argsL := [(.ref kUNCLAIMED)]) (rest := []) (lenOf pdv1 rfl) rfl (by show 2 * 0 + _ ≤ _; exact Nat.le_of_eq rfl) (hb hby d1_14) (fun _ _ => ⟨rfl, e1, (by decide : 0 + 0 ≤ _), (by decide : 0 + 0 ≤ _)⟩)
  dsimp only [Pt.U, Pt.locs, Pt.cells, Pt.slots] at X2 l2 y2 z2 st2 hQ2
  subst l2 y2 z2
  obtain ⟨rfl, N2q, e2⟩ := hQ2
  have N2 := Fr.app N0 N2q
  obtain ⟨fs, hr, hrun, hended, hW, hsame⟩ := X2.leave (v := some (.ref oSTORE_UNAVAILABLE)) (fun h => by rw [Bd.returns] at h; cases h)
  refine ⟨_, _, pre0 _ ?_, hrun, hended, _, _, rfl, ?_, ⟨_, rfl⟩, hW, hsame.mono (by decide) (by decide)⟩
  · show Steps p.tables e below (s₁.setTop (mkF m 0 #[.val (.ref kUNCLAIMED)] [])) _
    refine XS.aloadN X0.here hx rfl (hb hby d1_0) rfl rfl ?_
    show Steps p.tables e below (s₁.setTop (mkF m 1 #[.val (.ref kUNCLAIMED)] [(.ref kUNCLAIMED)])) _
    refine st1 _ ?_
    show Steps p.tables e below (T1.setTop (mkF m 4 #[.val (.ref kUNCLAIMED)] [(.ref kCONFLICTING), (.ref kUNCLAIMED)])) _
    refine Jvm.RoadKit.acmp (g := (mkF m 4 #[.val (.ref kUNCLAIMED)] [(.ref kCONFLICTING), (.ref kUNCLAIMED)])) X1 hx rfl rfl rfl (pc0 := 4) (pc' := 13) (same := false) rfl (hb hby d1_4) rfl (decide_eq_false fun q => nC (Value.ref.inj q)) (by decide) (by decide) ?_
    show Steps p.tables e below (T1.setTop (mkF m 13 #[.val (.ref kUNCLAIMED)] [])) _
    refine XS.aloadN X1.here hx rfl (hb hby d1_13) rfl rfl ?_
    show Steps p.tables e below (T1.setTop (mkF m 14 #[.val (.ref kUNCLAIMED)] [(.ref kUNCLAIMED)])) _
    refine st2 _ ?_
    show Steps p.tables e below (T2.setTop (mkF m 17 #[.val (.ref kUNCLAIMED)] [(.ref oSTORE_UNAVAILABLE)])) _
    jvm_step X2.here [X2.here.top, hx, (hb hby d1_17), X2.method', Bd.returns, Value.isRef, FieldType.isReference]
    first | (intro acts; rw [hr _ acts rfl rfl rfl]) | rw [hr _ _ rfl rfl rfl]
    exact Steps.refl _
  · show Q_rm1_UNCLAIMED n0 Z kUNCLAIMED kKEPT kRUNNING kCONFLICTING kRAN kUNANSWERED kTAKEN_OVER kROLLED_BACK kUNKEPT oEXECUTED oREPLAYED oIN_PROGRESS oRELEASED oSTORE_UNAVAILABLE oOUTCOME_UNKNOWN aSM kSM h0 _ T2.heap _
    rw [e2]
    exact ⟨rfl, N2, rfl⟩
theorem ef_rm1_KEPT (m : MethodId)  : entryFrame m #[(.ref kKEPT)] 1 = mkF m 0 #[.val (.ref kKEPT)] [] := by first | (simp [entryFrame, mkF, argsToLocals, Value.category]; done) | rfl
def Q_rm1_KEPT (n0 : Nat) (Z : State) (kUNCLAIMED : Addr) (kKEPT : Addr) (kRUNNING : Addr) (kCONFLICTING : Addr) (kRAN : Addr) (kUNANSWERED : Addr) (kTAKEN_OVER : Addr) (kROLLED_BACK : Addr) (kUNKEPT : Addr) (oEXECUTED : Addr) (oREPLAYED : Addr) (oIN_PROGRESS : Addr) (oRELEASED : Addr) (oSTORE_UNAVAILABLE : Addr) (oOUTCOME_UNKNOWN : Addr) (aSM : Addr) (kSM : ClassId) (h0 : Heap) (v : Option Value) (h : Heap) (L : List Loc) : Prop := v = some (.ref oREPLAYED) ∧ Fr n0 L ∧ h = h0
set_option maxRecDepth 65536 in
set_option maxHeartbeats 40000000 in
theorem rm1_KEPT (l : Launch) (Z : State) (a0 : Array Value) (hw : ∀ d ∈ tables_1, d.before a0 Z = true) (ws : List Jvm.Cond) (kUNCLAIMED : Addr) (kKEPT : Addr) (kRUNNING : Addr) (kCONFLICTING : Addr) (kRAN : Addr) (kUNANSWERED : Addr) (kTAKEN_OVER : Addr) (kROLLED_BACK : Addr) (kUNKEPT : Addr) (oEXECUTED : Addr) (oREPLAYED : Addr) (oIN_PROGRESS : Addr) (oRELEASED : Addr) (oSTORE_UNAVAILABLE : Addr) (oOUTCOME_UNKNOWN : Addr) (aSM : Addr) (kSM : ClassId) (h0 : Heap) (n0 : Nat) (O0 : Old Z n0 h0) (GL : GF Z kUNCLAIMED kKEPT kRUNNING kCONFLICTING kRAN kUNANSWERED kTAKEN_OVER kROLLED_BACK kUNKEPT oEXECUTED oREPLAYED oIN_PROGRESS oRELEASED oSTORE_UNAVAILABLE oOUTCOME_UNKNOWN aSM kSM) :
    MetFree l MN_3 (head1 (Jvm.Cond.code MN_3 prog_5_method_5_code 1 (some (.object "com/example/exact1/exact1/Audit$Outcome")) :: ws) ({ frames := 2, cells := 0, slots := 0, locals := 25 } : Room)) (fun a U => a = #[(.ref kKEPT)] ∧ Z.Warmed39 U.vm ∧ U.heap = h0) (fun _ _ _ _ _ => True) (fun _ U o U' => ∃ v L, o = .returned v ∧ Q_rm1_KEPT n0 Z kUNCLAIMED kKEPT kRUNNING kCONFLICTING kRAN kUNANSWERED kTAKEN_OVER kROLLED_BACK kUNKEPT oEXECUTED oREPLAYED oIN_PROGRESS oRELEASED oSTORE_UNAVAILABLE oOUTCOME_UNKNOWN aSM kSM h0 v U'.heap L ∧ FrameEnd U o U' L ({ frames := 2, cells := 0, slots := 0, locals := 25 } : Room).cells ({ frames := 2, cells := 0, slots := 0, locals := 25 } : Room).slots) := by
  refine MetFree.of_bodySF (plainFor_of_name pnv1) hisR ?_
  intro p e s m args below meth c s₁ Bd hml0 hP hK
  obtain ⟨rfl, hZ, hh⟩ := hP
  have hx := Bd.exec
  have hby := Bd.bytes
  have hml : c.maxLocals = 1 := hml0
  have hown : s.vm.findClass "com/example/exact1/exact1/Audit$Outcome" = some m.cls := findClass_of_methodNamed Bd.named
  have hnm := (name_of_methodNamed Bd.named Bd.method).1
  have X0 : Stand p l e ({ frames := 2, cells := 0, slots := 0, locals := 25 } : Room) s m #[(.ref kKEPT)] below meth c s₁ [] 0 0 := Stand.of_body Bd
  have e0 : s₁.heap = h0 := by rw [← hh, Bd.state]; rfl
  have N0 := Fr.nil n0
  have pre0 : ∀ t, Steps p.tables e below (s₁.setTop (mkF m 0 #[.val (.ref kKEPT)] [])) t → Steps p.tables e below (s₁.setTop (entryFrame m #[(.ref kKEPT)] 1)) t := fun t k => castTop (ef_rm1_KEPT m ) k
  have GL' := GL
  obtain ⟨GSUNCLAIMED, GEUNCLAIMED, GOUNCLAIMED, GSKEPT, GEKEPT, GOKEPT, GSRUNNING, GERUNNING, GORUNNING, GSCONFLICTING, GECONFLICTING, GOCONFLICTING, GSRAN, GERAN, GORAN, GSUNANSWERED, GEUNANSWERED, GOUNANSWERED, GSTAKEN_OVER, GETAKEN_OVER, GOTAKEN_OVER, GSROLLED_BACK, GEROLLED_BACK, GOROLLED_BACK, GSUNKEPT, GEUNKEPT, GOUNKEPT, HSEXECUTED, HSREPLAYED, HSIN_PROGRESS, HSRELEASED, HSSTORE_UNAVAILABLE, HSOUTCOME_UNKNOWN, GSM, GVM⟩ := GL'
  obtain ⟨T1, X1, e1, st1⟩ := getS2 X0 hx hZ hown (host := "") (Or.inl (Wd hw 10 rfl)) Via.refl e0 (GSCONFLICTING.ext O0.2) (g := (mkF m 1 #[.val (.ref kKEPT)] [(.ref kKEPT)])) rfl (hb hby d1_1)
  have nC : kKEPT ≠ kCONFLICTING := Fld.ne GOKEPT GOCONFLICTING (by decide)
  obtain ⟨_, _, ⟨T2, L2, k2, n2⟩, -, X2, ⟨Lc2, hQ2, l2, y2, z2⟩, st2⟩ := Jvm.LawKit.callS X1 hx (y := MN_2) hown (mvT hZ (Wd hw 12 rfl)) (mvT hZ (Wd hw 13 rfl)) (mvT hZ (Wd hw 5 rfl)) (mvT hZ (Wd hw 14 rfl)) (by decide) (backOf (W := 0) (rm2_KEPT l Z a0 hw [] kUNCLAIMED kKEPT kRUNNING kCONFLICTING kRAN kUNANSWERED kTAKEN_OVER kROLLED_BACK kUNKEPT oEXECUTED oREPLAYED oIN_PROGRESS oRELEASED oSTORE_UNAVAILABLE oOUTCOME_UNKNOWN aSM kSM (kKEPT) (h0) n0 O0 GL (GEKEPT.ext O0.2) (GOKEPT.ext O0.2)) hZ (Wd hw 14 rfl) (Wd hw 5 rfl) (by decide) (by decide)) (g := (mkF m 14 #[.val (.ref kKEPT)] [(.ref kKEPT)])) rfl (by rw [hml]; rfl) (argsL := [(.ref kKEPT)]) (rest := []) (lenOf pdv1 rfl) rfl (by show 2 * 0 + _ ≤ _; exact Nat.le_of_eq rfl) (hb hby d1_14) (fun _ _ => ⟨rfl, e1, (by decide : 0 + 0 ≤ _), (by decide : 0 + 0 ≤ _)⟩)
  dsimp only [Pt.U, Pt.locs, Pt.cells, Pt.slots] at X2 l2 y2 z2 st2 hQ2
  subst l2 y2 z2
  obtain ⟨rfl, N2q, e2⟩ := hQ2
  have N2 := Fr.app N0 N2q
  obtain ⟨fs, hr, hrun, hended, hW, hsame⟩ := X2.leave (v := some (.ref oREPLAYED)) (fun h => by rw [Bd.returns] at h; cases h)
  refine ⟨_, _, pre0 _ ?_, hrun, hended, _, _, rfl, ?_, ⟨_, rfl⟩, hW, hsame.mono (by decide) (by decide)⟩
  · show Steps p.tables e below (s₁.setTop (mkF m 0 #[.val (.ref kKEPT)] [])) _
    refine XS.aloadN X0.here hx rfl (hb hby d1_0) rfl rfl ?_
    show Steps p.tables e below (s₁.setTop (mkF m 1 #[.val (.ref kKEPT)] [(.ref kKEPT)])) _
    refine st1 _ ?_
    show Steps p.tables e below (T1.setTop (mkF m 4 #[.val (.ref kKEPT)] [(.ref kCONFLICTING), (.ref kKEPT)])) _
    refine Jvm.RoadKit.acmp (g := (mkF m 4 #[.val (.ref kKEPT)] [(.ref kCONFLICTING), (.ref kKEPT)])) X1 hx rfl rfl rfl (pc0 := 4) (pc' := 13) (same := false) rfl (hb hby d1_4) rfl (decide_eq_false fun q => nC (Value.ref.inj q)) (by decide) (by decide) ?_
    show Steps p.tables e below (T1.setTop (mkF m 13 #[.val (.ref kKEPT)] [])) _
    refine XS.aloadN X1.here hx rfl (hb hby d1_13) rfl rfl ?_
    show Steps p.tables e below (T1.setTop (mkF m 14 #[.val (.ref kKEPT)] [(.ref kKEPT)])) _
    refine st2 _ ?_
    show Steps p.tables e below (T2.setTop (mkF m 17 #[.val (.ref kKEPT)] [(.ref oREPLAYED)])) _
    jvm_step X2.here [X2.here.top, hx, (hb hby d1_17), X2.method', Bd.returns, Value.isRef, FieldType.isReference]
    first | (intro acts; rw [hr _ acts rfl rfl rfl]) | rw [hr _ _ rfl rfl rfl]
    exact Steps.refl _
  · show Q_rm1_KEPT n0 Z kUNCLAIMED kKEPT kRUNNING kCONFLICTING kRAN kUNANSWERED kTAKEN_OVER kROLLED_BACK kUNKEPT oEXECUTED oREPLAYED oIN_PROGRESS oRELEASED oSTORE_UNAVAILABLE oOUTCOME_UNKNOWN aSM kSM h0 _ T2.heap _
    rw [e2]
    exact ⟨rfl, N2, rfl⟩
theorem ef_rm1_RUNNING (m : MethodId)  : entryFrame m #[(.ref kRUNNING)] 1 = mkF m 0 #[.val (.ref kRUNNING)] [] := by first | (simp [entryFrame, mkF, argsToLocals, Value.category]; done) | rfl
def Q_rm1_RUNNING (n0 : Nat) (Z : State) (kUNCLAIMED : Addr) (kKEPT : Addr) (kRUNNING : Addr) (kCONFLICTING : Addr) (kRAN : Addr) (kUNANSWERED : Addr) (kTAKEN_OVER : Addr) (kROLLED_BACK : Addr) (kUNKEPT : Addr) (oEXECUTED : Addr) (oREPLAYED : Addr) (oIN_PROGRESS : Addr) (oRELEASED : Addr) (oSTORE_UNAVAILABLE : Addr) (oOUTCOME_UNKNOWN : Addr) (aSM : Addr) (kSM : ClassId) (h0 : Heap) (v : Option Value) (h : Heap) (L : List Loc) : Prop := v = some (.ref oIN_PROGRESS) ∧ Fr n0 L ∧ h = h0
set_option maxRecDepth 65536 in
set_option maxHeartbeats 40000000 in
theorem rm1_RUNNING (l : Launch) (Z : State) (a0 : Array Value) (hw : ∀ d ∈ tables_1, d.before a0 Z = true) (ws : List Jvm.Cond) (kUNCLAIMED : Addr) (kKEPT : Addr) (kRUNNING : Addr) (kCONFLICTING : Addr) (kRAN : Addr) (kUNANSWERED : Addr) (kTAKEN_OVER : Addr) (kROLLED_BACK : Addr) (kUNKEPT : Addr) (oEXECUTED : Addr) (oREPLAYED : Addr) (oIN_PROGRESS : Addr) (oRELEASED : Addr) (oSTORE_UNAVAILABLE : Addr) (oOUTCOME_UNKNOWN : Addr) (aSM : Addr) (kSM : ClassId) (h0 : Heap) (n0 : Nat) (O0 : Old Z n0 h0) (GL : GF Z kUNCLAIMED kKEPT kRUNNING kCONFLICTING kRAN kUNANSWERED kTAKEN_OVER kROLLED_BACK kUNKEPT oEXECUTED oREPLAYED oIN_PROGRESS oRELEASED oSTORE_UNAVAILABLE oOUTCOME_UNKNOWN aSM kSM) :
    MetFree l MN_3 (head1 (Jvm.Cond.code MN_3 prog_5_method_5_code 1 (some (.object "com/example/exact1/exact1/Audit$Outcome")) :: ws) ({ frames := 2, cells := 0, slots := 0, locals := 25 } : Room)) (fun a U => a = #[(.ref kRUNNING)] ∧ Z.Warmed39 U.vm ∧ U.heap = h0) (fun _ _ _ _ _ => True) (fun _ U o U' => ∃ v L, o = .returned v ∧ Q_rm1_RUNNING n0 Z kUNCLAIMED kKEPT kRUNNING kCONFLICTING kRAN kUNANSWERED kTAKEN_OVER kROLLED_BACK kUNKEPT oEXECUTED oREPLAYED oIN_PROGRESS oRELEASED oSTORE_UNAVAILABLE oOUTCOME_UNKNOWN aSM kSM h0 v U'.heap L ∧ FrameEnd U o U' L ({ frames := 2, cells := 0, slots := 0, locals := 25 } : Room).cells ({ frames := 2, cells := 0, slots := 0, locals := 25 } : Room).slots) := by
  refine MetFree.of_bodySF (plainFor_of_name pnv1) hisR ?_
  intro p e s m args below meth c s₁ Bd hml0 hP hK
  obtain ⟨rfl, hZ, hh⟩ := hP
  have hx := Bd.exec
  have hby := Bd.bytes
  have hml : c.maxLocals = 1 := hml0
  have hown : s.vm.findClass "com/example/exact1/exact1/Audit$Outcome" = some m.cls := findClass_of_methodNamed Bd.named
  have hnm := (name_of_methodNamed Bd.named Bd.method).1
  have X0 : Stand p l e ({ frames := 2, cells := 0, slots := 0, locals := 25 } : Room) s m #[(.ref kRUNNING)] below meth c s₁ [] 0 0 := Stand.of_body Bd
  have e0 : s₁.heap = h0 := by rw [← hh, Bd.state]; rfl
  have N0 := Fr.nil n0
  have pre0 : ∀ t, Steps p.tables e below (s₁.setTop (mkF m 0 #[.val (.ref kRUNNING)] [])) t → Steps p.tables e below (s₁.setTop (entryFrame m #[(.ref kRUNNING)] 1)) t := fun t k => castTop (ef_rm1_RUNNING m ) k
  have GL' := GL
  obtain ⟨GSUNCLAIMED, GEUNCLAIMED, GOUNCLAIMED, GSKEPT, GEKEPT, GOKEPT, GSRUNNING, GERUNNING, GORUNNING, GSCONFLICTING, GECONFLICTING, GOCONFLICTING, GSRAN, GERAN, GORAN, GSUNANSWERED, GEUNANSWERED, GOUNANSWERED, GSTAKEN_OVER, GETAKEN_OVER, GOTAKEN_OVER, GSROLLED_BACK, GEROLLED_BACK, GOROLLED_BACK, GSUNKEPT, GEUNKEPT, GOUNKEPT, HSEXECUTED, HSREPLAYED, HSIN_PROGRESS, HSRELEASED, HSSTORE_UNAVAILABLE, HSOUTCOME_UNKNOWN, GSM, GVM⟩ := GL'
  obtain ⟨T1, X1, e1, st1⟩ := getS2 X0 hx hZ hown (host := "") (Or.inl (Wd hw 10 rfl)) Via.refl e0 (GSCONFLICTING.ext O0.2) (g := (mkF m 1 #[.val (.ref kRUNNING)] [(.ref kRUNNING)])) rfl (hb hby d1_1)
  have nC : kRUNNING ≠ kCONFLICTING := Fld.ne GORUNNING GOCONFLICTING (by decide)
  obtain ⟨_, _, ⟨T2, L2, k2, n2⟩, -, X2, ⟨Lc2, hQ2, l2, y2, z2⟩, st2⟩ := Jvm.LawKit.callS X1 hx (y := MN_2) hown (mvT hZ (Wd hw 12 rfl)) (mvT hZ (Wd hw 13 rfl)) (mvT hZ (Wd hw 5 rfl)) (mvT hZ (Wd hw 14 rfl)) (by decide) (backOf (W := 0) (rm2_RUNNING l Z a0 hw [] kUNCLAIMED kKEPT kRUNNING kCONFLICTING kRAN kUNANSWERED kTAKEN_OVER kROLLED_BACK kUNKEPT oEXECUTED oREPLAYED oIN_PROGRESS oRELEASED oSTORE_UNAVAILABLE oOUTCOME_UNKNOWN aSM kSM (kRUNNING) (h0) n0 O0 GL (GERUNNING.ext O0.2) (GORUNNING.ext O0.2)) hZ (Wd hw 14 rfl) (Wd hw 5 rfl) (by decide) (by decide)) (g := (mkF m 14 #[.val (.ref kRUNNING)] [(.ref kRUNNING)])) rfl (by rw [hml]; rfl) (argsL := [(.ref kRUNNING)]) (rest := []) (lenOf pdv1 rfl) rfl (by show 2 * 0 + _ ≤ _; exact Nat.le_of_eq rfl) (hb hby d1_14) (fun _ _ => ⟨rfl, e1, (by decide : 0 + 0 ≤ _), (by decide : 0 + 0 ≤ _)⟩)
  dsimp only [Pt.U, Pt.locs, Pt.cells, Pt.slots] at X2 l2 y2 z2 st2 hQ2
  subst l2 y2 z2
  obtain ⟨rfl, N2q, e2⟩ := hQ2
  have N2 := Fr.app N0 N2q
  obtain ⟨fs, hr, hrun, hended, hW, hsame⟩ := X2.leave (v := some (.ref oIN_PROGRESS)) (fun h => by rw [Bd.returns] at h; cases h)
  refine ⟨_, _, pre0 _ ?_, hrun, hended, _, _, rfl, ?_, ⟨_, rfl⟩, hW, hsame.mono (by decide) (by decide)⟩
  · show Steps p.tables e below (s₁.setTop (mkF m 0 #[.val (.ref kRUNNING)] [])) _
    refine XS.aloadN X0.here hx rfl (hb hby d1_0) rfl rfl ?_
    show Steps p.tables e below (s₁.setTop (mkF m 1 #[.val (.ref kRUNNING)] [(.ref kRUNNING)])) _
    refine st1 _ ?_
    show Steps p.tables e below (T1.setTop (mkF m 4 #[.val (.ref kRUNNING)] [(.ref kCONFLICTING), (.ref kRUNNING)])) _
    refine Jvm.RoadKit.acmp (g := (mkF m 4 #[.val (.ref kRUNNING)] [(.ref kCONFLICTING), (.ref kRUNNING)])) X1 hx rfl rfl rfl (pc0 := 4) (pc' := 13) (same := false) rfl (hb hby d1_4) rfl (decide_eq_false fun q => nC (Value.ref.inj q)) (by decide) (by decide) ?_
    show Steps p.tables e below (T1.setTop (mkF m 13 #[.val (.ref kRUNNING)] [])) _
    refine XS.aloadN X1.here hx rfl (hb hby d1_13) rfl rfl ?_
    show Steps p.tables e below (T1.setTop (mkF m 14 #[.val (.ref kRUNNING)] [(.ref kRUNNING)])) _
    refine st2 _ ?_
    show Steps p.tables e below (T2.setTop (mkF m 17 #[.val (.ref kRUNNING)] [(.ref oIN_PROGRESS)])) _
    jvm_step X2.here [X2.here.top, hx, (hb hby d1_17), X2.method', Bd.returns, Value.isRef, FieldType.isReference]
    first | (intro acts; rw [hr _ acts rfl rfl rfl]) | rw [hr _ _ rfl rfl rfl]
    exact Steps.refl _
  · show Q_rm1_RUNNING n0 Z kUNCLAIMED kKEPT kRUNNING kCONFLICTING kRAN kUNANSWERED kTAKEN_OVER kROLLED_BACK kUNKEPT oEXECUTED oREPLAYED oIN_PROGRESS oRELEASED oSTORE_UNAVAILABLE oOUTCOME_UNKNOWN aSM kSM h0 _ T2.heap _
    rw [e2]
    exact ⟨rfl, N2, rfl⟩
theorem d1_7 : decode prog_5_method_5_code 7 = .ok (.getstatic 7, 3) := by decide +kernel
theorem d1_10 : decode prog_5_method_5_code 10 = .ok (.goto 7, 3) := by decide +kernel
theorem ef_rm1_CONFLICTING (m : MethodId)  : entryFrame m #[(.ref kCONFLICTING)] 1 = mkF m 0 #[.val (.ref kCONFLICTING)] [] := by first | (simp [entryFrame, mkF, argsToLocals, Value.category]; done) | rfl
def Q_rm1_CONFLICTING (n0 : Nat) (Z : State) (kUNCLAIMED : Addr) (kKEPT : Addr) (kRUNNING : Addr) (kCONFLICTING : Addr) (kRAN : Addr) (kUNANSWERED : Addr) (kTAKEN_OVER : Addr) (kROLLED_BACK : Addr) (kUNKEPT : Addr) (oEXECUTED : Addr) (oREPLAYED : Addr) (oIN_PROGRESS : Addr) (oRELEASED : Addr) (oSTORE_UNAVAILABLE : Addr) (oOUTCOME_UNKNOWN : Addr) (aSM : Addr) (kSM : ClassId) (h0 : Heap) (v : Option Value) (h : Heap) (L : List Loc) : Prop := v = some (.ref oREPLAYED) ∧ Fr n0 L ∧ h = h0
set_option maxRecDepth 65536 in
set_option maxHeartbeats 40000000 in
theorem rm1_CONFLICTING (l : Launch) (Z : State) (a0 : Array Value) (hw : ∀ d ∈ tables_1, d.before a0 Z = true) (ws : List Jvm.Cond) (kUNCLAIMED : Addr) (kKEPT : Addr) (kRUNNING : Addr) (kCONFLICTING : Addr) (kRAN : Addr) (kUNANSWERED : Addr) (kTAKEN_OVER : Addr) (kROLLED_BACK : Addr) (kUNKEPT : Addr) (oEXECUTED : Addr) (oREPLAYED : Addr) (oIN_PROGRESS : Addr) (oRELEASED : Addr) (oSTORE_UNAVAILABLE : Addr) (oOUTCOME_UNKNOWN : Addr) (aSM : Addr) (kSM : ClassId) (h0 : Heap) (n0 : Nat) (O0 : Old Z n0 h0) (GL : GF Z kUNCLAIMED kKEPT kRUNNING kCONFLICTING kRAN kUNANSWERED kTAKEN_OVER kROLLED_BACK kUNKEPT oEXECUTED oREPLAYED oIN_PROGRESS oRELEASED oSTORE_UNAVAILABLE oOUTCOME_UNKNOWN aSM kSM) :
    MetFree l MN_3 (head1 (Jvm.Cond.code MN_3 prog_5_method_5_code 1 (some (.object "com/example/exact1/exact1/Audit$Outcome")) :: ws) ({ frames := 0, cells := 0, slots := 0, locals := 0 } : Room)) (fun a U => a = #[(.ref kCONFLICTING)] ∧ Z.Warmed39 U.vm ∧ U.heap = h0) (fun _ _ _ _ _ => True) (fun _ U o U' => ∃ v L, o = .returned v ∧ Q_rm1_CONFLICTING n0 Z kUNCLAIMED kKEPT kRUNNING kCONFLICTING kRAN kUNANSWERED kTAKEN_OVER kROLLED_BACK kUNKEPT oEXECUTED oREPLAYED oIN_PROGRESS oRELEASED oSTORE_UNAVAILABLE oOUTCOME_UNKNOWN aSM kSM h0 v U'.heap L ∧ FrameEnd U o U' L ({ frames := 0, cells := 0, slots := 0, locals := 0 } : Room).cells ({ frames := 0, cells := 0, slots := 0, locals := 0 } : Room).slots) := by
  refine MetFree.of_bodySF (plainFor_of_name pnv1) hisR ?_
  intro p e s m args below meth c s₁ Bd hml0 hP hK
  obtain ⟨rfl, hZ, hh⟩ := hP
  have hx := Bd.exec
  have hby := Bd.bytes
  have hml : c.maxLocals = 1 := hml0
  have hown : s.vm.findClass "com/example/exact1/exact1/Audit$Outcome" = some m.cls := findClass_of_methodNamed Bd.named
  have hnm := (name_of_methodNamed Bd.named Bd.method).1
  have X0 : Stand p l e ({ frames := 0, cells := 0, slots := 0, locals := 0 } : Room) s m #[(.ref kCONFLICTING)] below meth c s₁ [] 0 0 := Stand.of_body Bd
  have e0 : s₁.heap = h0 := by rw [← hh, Bd.state]; rfl
  have N0 := Fr.nil n0
  have pre0 : ∀ t, Steps p.tables e below (s₁.setTop (mkF m 0 #[.val (.ref kCONFLICTING)] [])) t → Steps p.tables e below (s₁.setTop (entryFrame m #[(.ref kCONFLICTING)] 1)) t := fun t k => castTop (ef_rm1_CONFLICTING m ) k
  have GL' := GL
  obtain ⟨GSUNCLAIMED, GEUNCLAIMED, GOUNCLAIMED, GSKEPT, GEKEPT, GOKEPT, GSRUNNING, GERUNNING, GORUNNING, GSCONFLICTING, GECONFLICTING, GOCONFLICTING, GSRAN, GERAN, GORAN, GSUNANSWERED, GEUNANSWERED, GOUNANSWERED, GSTAKEN_OVER, GETAKEN_OVER, GOTAKEN_OVER, GSROLLED_BACK, GEROLLED_BACK, GOROLLED_BACK, GSUNKEPT, GEUNKEPT, GOUNKEPT, HSEXECUTED, HSREPLAYED, HSIN_PROGRESS, HSRELEASED, HSSTORE_UNAVAILABLE, HSOUTCOME_UNKNOWN, GSM, GVM⟩ := GL'
  obtain ⟨T1, X1, e1, st1⟩ := getS2 X0 hx hZ hown (host := "") (Or.inl (Wd hw 10 rfl)) Via.refl e0 (GSCONFLICTING.ext O0.2) (g := (mkF m 1 #[.val (.ref kCONFLICTING)] [(.ref kCONFLICTING)])) rfl (hb hby d1_1)
  obtain ⟨T2, X2, e2, st2⟩ := getS2 X1 hx hZ hown (host := "") (Or.inl (Wd hw 31 rfl)) Via.refl e1 (HSREPLAYED.ext O0.2) (g := (mkF m 7 #[.val (.ref kCONFLICTING)] [])) rfl (hb hby d1_7)
  obtain ⟨fs, hr, hrun, hended, hW, hsame⟩ := X2.leave (v := some (.ref oREPLAYED)) (fun h => by rw [Bd.returns] at h; cases h)
  refine ⟨_, _, pre0 _ ?_, hrun, hended, _, _, rfl, ?_, ⟨_, rfl⟩, hW, hsame.mono (by decide) (by decide)⟩
  · show Steps p.tables e below (s₁.setTop (mkF m 0 #[.val (.ref kCONFLICTING)] [])) _
    refine XS.aloadN X0.here hx rfl (hb hby d1_0) rfl rfl ?_
    show Steps p.tables e below (s₁.setTop (mkF m 1 #[.val (.ref kCONFLICTING)] [(.ref kCONFLICTING)])) _
    refine st1 _ ?_
    show Steps p.tables e below (T1.setTop (mkF m 4 #[.val (.ref kCONFLICTING)] [(.ref kCONFLICTING), (.ref kCONFLICTING)])) _
    refine Jvm.RoadKit.acmp (g := (mkF m 4 #[.val (.ref kCONFLICTING)] [(.ref kCONFLICTING), (.ref kCONFLICTING)])) X1 hx rfl rfl rfl (pc0 := 4) (pc' := 7) (same := true) rfl (hb hby d1_4) rfl (decide_eq_true rfl) (by decide) (by decide) ?_
    show Steps p.tables e below (T1.setTop (mkF m 7 #[.val (.ref kCONFLICTING)] [])) _
    refine st2 _ ?_
    show Steps p.tables e below (T2.setTop (mkF m 10 #[.val (.ref kCONFLICTING)] [(.ref oREPLAYED)])) _
    refine XS.goto X2.here hx rfl (pc0 := 10) (pc' := 17) rfl (hb hby d1_10) (by decide) (by decide) ?_
    show Steps p.tables e below (T2.setTop (mkF m 17 #[.val (.ref kCONFLICTING)] [(.ref oREPLAYED)])) _
    jvm_step X2.here [X2.here.top, hx, (hb hby d1_17), X2.method', Bd.returns, Value.isRef, FieldType.isReference]
    first | (intro acts; rw [hr _ acts rfl rfl rfl]) | rw [hr _ _ rfl rfl rfl]
    exact Steps.refl _
  · show Q_rm1_CONFLICTING n0 Z kUNCLAIMED kKEPT kRUNNING kCONFLICTING kRAN kUNANSWERED kTAKEN_OVER kROLLED_BACK kUNKEPT oEXECUTED oREPLAYED oIN_PROGRESS oRELEASED oSTORE_UNAVAILABLE oOUTCOME_UNKNOWN aSM kSM h0 _ T2.heap _
    rw [e2]
    exact ⟨rfl, N0, rfl⟩
theorem ef_rm1_RAN (m : MethodId)  : entryFrame m #[(.ref kRAN)] 1 = mkF m 0 #[.val (.ref kRAN)] [] := by first | (simp [entryFrame, mkF, argsToLocals, Value.category]; done) | rfl
def Q_rm1_RAN (n0 : Nat) (Z : State) (kUNCLAIMED : Addr) (kKEPT : Addr) (kRUNNING : Addr) (kCONFLICTING : Addr) (kRAN : Addr) (kUNANSWERED : Addr) (kTAKEN_OVER : Addr) (kROLLED_BACK : Addr) (kUNKEPT : Addr) (oEXECUTED : Addr) (oREPLAYED : Addr) (oIN_PROGRESS : Addr) (oRELEASED : Addr) (oSTORE_UNAVAILABLE : Addr) (oOUTCOME_UNKNOWN : Addr) (aSM : Addr) (kSM : ClassId) (h0 : Heap) (v : Option Value) (h : Heap) (L : List Loc) : Prop := v = some (.ref oEXECUTED) ∧ Fr n0 L ∧ h = h0
set_option maxRecDepth 65536 in
set_option maxHeartbeats 40000000 in
theorem rm1_RAN (l : Launch) (Z : State) (a0 : Array Value) (hw : ∀ d ∈ tables_1, d.before a0 Z = true) (ws : List Jvm.Cond) (kUNCLAIMED : Addr) (kKEPT : Addr) (kRUNNING : Addr) (kCONFLICTING : Addr) (kRAN : Addr) (kUNANSWERED : Addr) (kTAKEN_OVER : Addr) (kROLLED_BACK : Addr) (kUNKEPT : Addr) (oEXECUTED : Addr) (oREPLAYED : Addr) (oIN_PROGRESS : Addr) (oRELEASED : Addr) (oSTORE_UNAVAILABLE : Addr) (oOUTCOME_UNKNOWN : Addr) (aSM : Addr) (kSM : ClassId) (h0 : Heap) (n0 : Nat) (O0 : Old Z n0 h0) (GL : GF Z kUNCLAIMED kKEPT kRUNNING kCONFLICTING kRAN kUNANSWERED kTAKEN_OVER kROLLED_BACK kUNKEPT oEXECUTED oREPLAYED oIN_PROGRESS oRELEASED oSTORE_UNAVAILABLE oOUTCOME_UNKNOWN aSM kSM) :
    MetFree l MN_3 (head1 (Jvm.Cond.code MN_3 prog_5_method_5_code 1 (some (.object "com/example/exact1/exact1/Audit$Outcome")) :: ws) ({ frames := 2, cells := 0, slots := 0, locals := 25 } : Room)) (fun a U => a = #[(.ref kRAN)] ∧ Z.Warmed39 U.vm ∧ U.heap = h0) (fun _ _ _ _ _ => True) (fun _ U o U' => ∃ v L, o = .returned v ∧ Q_rm1_RAN n0 Z kUNCLAIMED kKEPT kRUNNING kCONFLICTING kRAN kUNANSWERED kTAKEN_OVER kROLLED_BACK kUNKEPT oEXECUTED oREPLAYED oIN_PROGRESS oRELEASED oSTORE_UNAVAILABLE oOUTCOME_UNKNOWN aSM kSM h0 v U'.heap L ∧ FrameEnd U o U' L ({ frames := 2, cells := 0, slots := 0, locals := 25 } : Room).cells ({ frames := 2, cells := 0, slots := 0, locals := 25 } : Room).slots) := by
  refine MetFree.of_bodySF (plainFor_of_name pnv1) hisR ?_
  intro p e s m args below meth c s₁ Bd hml0 hP hK
  obtain ⟨rfl, hZ, hh⟩ := hP
  have hx := Bd.exec
  have hby := Bd.bytes
  have hml : c.maxLocals = 1 := hml0
  have hown : s.vm.findClass "com/example/exact1/exact1/Audit$Outcome" = some m.cls := findClass_of_methodNamed Bd.named
  have hnm := (name_of_methodNamed Bd.named Bd.method).1
  have X0 : Stand p l e ({ frames := 2, cells := 0, slots := 0, locals := 25 } : Room) s m #[(.ref kRAN)] below meth c s₁ [] 0 0 := Stand.of_body Bd
  have e0 : s₁.heap = h0 := by rw [← hh, Bd.state]; rfl
  have N0 := Fr.nil n0
  have pre0 : ∀ t, Steps p.tables e below (s₁.setTop (mkF m 0 #[.val (.ref kRAN)] [])) t → Steps p.tables e below (s₁.setTop (entryFrame m #[(.ref kRAN)] 1)) t := fun t k => castTop (ef_rm1_RAN m ) k
  have GL' := GL
  obtain ⟨GSUNCLAIMED, GEUNCLAIMED, GOUNCLAIMED, GSKEPT, GEKEPT, GOKEPT, GSRUNNING, GERUNNING, GORUNNING, GSCONFLICTING, GECONFLICTING, GOCONFLICTING, GSRAN, GERAN, GORAN, GSUNANSWERED, GEUNANSWERED, GOUNANSWERED, GSTAKEN_OVER, GETAKEN_OVER, GOTAKEN_OVER, GSROLLED_BACK, GEROLLED_BACK, GOROLLED_BACK, GSUNKEPT, GEUNKEPT, GOUNKEPT, HSEXECUTED, HSREPLAYED, HSIN_PROGRESS, HSRELEASED, HSSTORE_UNAVAILABLE, HSOUTCOME_UNKNOWN, GSM, GVM⟩ := GL'
  obtain ⟨T1, X1, e1, st1⟩ := getS2 X0 hx hZ hown (host := "") (Or.inl (Wd hw 10 rfl)) Via.refl e0 (GSCONFLICTING.ext O0.2) (g := (mkF m 1 #[.val (.ref kRAN)] [(.ref kRAN)])) rfl (hb hby d1_1)
  have nC : kRAN ≠ kCONFLICTING := Fld.ne GORAN GOCONFLICTING (by decide)
  obtain ⟨_, _, ⟨T2, L2, k2, n2⟩, -, X2, ⟨Lc2, hQ2, l2, y2, z2⟩, st2⟩ := Jvm.LawKit.callS X1 hx (y := MN_2) hown (mvT hZ (Wd hw 12 rfl)) (mvT hZ (Wd hw 13 rfl)) (mvT hZ (Wd hw 5 rfl)) (mvT hZ (Wd hw 14 rfl)) (by decide) (backOf (W := 0) (rm2_RAN l Z a0 hw [] kUNCLAIMED kKEPT kRUNNING kCONFLICTING kRAN kUNANSWERED kTAKEN_OVER kROLLED_BACK kUNKEPT oEXECUTED oREPLAYED oIN_PROGRESS oRELEASED oSTORE_UNAVAILABLE oOUTCOME_UNKNOWN aSM kSM (kRAN) (h0) n0 O0 GL (GERAN.ext O0.2) (GORAN.ext O0.2)) hZ (Wd hw 14 rfl) (Wd hw 5 rfl) (by decide) (by decide)) (g := (mkF m 14 #[.val (.ref kRAN)] [(.ref kRAN)])) rfl (by rw [hml]; rfl) (argsL := [(.ref kRAN)]) (rest := []) (lenOf pdv1 rfl) rfl (by show 2 * 0 + _ ≤ _; exact Nat.le_of_eq rfl) (hb hby d1_14) (fun _ _ => ⟨rfl, e1, (by decide : 0 + 0 ≤ _), (by decide : 0 + 0 ≤ _)⟩)
  dsimp only [Pt.U, Pt.locs, Pt.cells, Pt.slots] at X2 l2 y2 z2 st2 hQ2
  subst l2 y2 z2
  obtain ⟨rfl, N2q, e2⟩ := hQ2
  have N2 := Fr.app N0 N2q
  obtain ⟨fs, hr, hrun, hended, hW, hsame⟩ := X2.leave (v := some (.ref oEXECUTED)) (fun h => by rw [Bd.returns] at h; cases h)
  refine ⟨_, _, pre0 _ ?_, hrun, hended, _, _, rfl, ?_, ⟨_, rfl⟩, hW, hsame.mono (by decide) (by decide)⟩
  · show Steps p.tables e below (s₁.setTop (mkF m 0 #[.val (.ref kRAN)] [])) _
    refine XS.aloadN X0.here hx rfl (hb hby d1_0) rfl rfl ?_
    show Steps p.tables e below (s₁.setTop (mkF m 1 #[.val (.ref kRAN)] [(.ref kRAN)])) _
    refine st1 _ ?_
    show Steps p.tables e below (T1.setTop (mkF m 4 #[.val (.ref kRAN)] [(.ref kCONFLICTING), (.ref kRAN)])) _
    refine Jvm.RoadKit.acmp (g := (mkF m 4 #[.val (.ref kRAN)] [(.ref kCONFLICTING), (.ref kRAN)])) X1 hx rfl rfl rfl (pc0 := 4) (pc' := 13) (same := false) rfl (hb hby d1_4) rfl (decide_eq_false fun q => nC (Value.ref.inj q)) (by decide) (by decide) ?_
    show Steps p.tables e below (T1.setTop (mkF m 13 #[.val (.ref kRAN)] [])) _
    refine XS.aloadN X1.here hx rfl (hb hby d1_13) rfl rfl ?_
    show Steps p.tables e below (T1.setTop (mkF m 14 #[.val (.ref kRAN)] [(.ref kRAN)])) _
    refine st2 _ ?_
    show Steps p.tables e below (T2.setTop (mkF m 17 #[.val (.ref kRAN)] [(.ref oEXECUTED)])) _
    jvm_step X2.here [X2.here.top, hx, (hb hby d1_17), X2.method', Bd.returns, Value.isRef, FieldType.isReference]
    first | (intro acts; rw [hr _ acts rfl rfl rfl]) | rw [hr _ _ rfl rfl rfl]
    exact Steps.refl _
  · show Q_rm1_RAN n0 Z kUNCLAIMED kKEPT kRUNNING kCONFLICTING kRAN kUNANSWERED kTAKEN_OVER kROLLED_BACK kUNKEPT oEXECUTED oREPLAYED oIN_PROGRESS oRELEASED oSTORE_UNAVAILABLE oOUTCOME_UNKNOWN aSM kSM h0 _ T2.heap _
    rw [e2]
    exact ⟨rfl, N2, rfl⟩
theorem ef_rm1_UNANSWERED (m : MethodId)  : entryFrame m #[(.ref kUNANSWERED)] 1 = mkF m 0 #[.val (.ref kUNANSWERED)] [] := by first | (simp [entryFrame, mkF, argsToLocals, Value.category]; done) | rfl
def Q_rm1_UNANSWERED (n0 : Nat) (Z : State) (kUNCLAIMED : Addr) (kKEPT : Addr) (kRUNNING : Addr) (kCONFLICTING : Addr) (kRAN : Addr) (kUNANSWERED : Addr) (kTAKEN_OVER : Addr) (kROLLED_BACK : Addr) (kUNKEPT : Addr) (oEXECUTED : Addr) (oREPLAYED : Addr) (oIN_PROGRESS : Addr) (oRELEASED : Addr) (oSTORE_UNAVAILABLE : Addr) (oOUTCOME_UNKNOWN : Addr) (aSM : Addr) (kSM : ClassId) (h0 : Heap) (v : Option Value) (h : Heap) (L : List Loc) : Prop := v = some (.ref oRELEASED) ∧ Fr n0 L ∧ h = h0
set_option maxRecDepth 65536 in
set_option maxHeartbeats 40000000 in
theorem rm1_UNANSWERED (l : Launch) (Z : State) (a0 : Array Value) (hw : ∀ d ∈ tables_1, d.before a0 Z = true) (ws : List Jvm.Cond) (kUNCLAIMED : Addr) (kKEPT : Addr) (kRUNNING : Addr) (kCONFLICTING : Addr) (kRAN : Addr) (kUNANSWERED : Addr) (kTAKEN_OVER : Addr) (kROLLED_BACK : Addr) (kUNKEPT : Addr) (oEXECUTED : Addr) (oREPLAYED : Addr) (oIN_PROGRESS : Addr) (oRELEASED : Addr) (oSTORE_UNAVAILABLE : Addr) (oOUTCOME_UNKNOWN : Addr) (aSM : Addr) (kSM : ClassId) (h0 : Heap) (n0 : Nat) (O0 : Old Z n0 h0) (GL : GF Z kUNCLAIMED kKEPT kRUNNING kCONFLICTING kRAN kUNANSWERED kTAKEN_OVER kROLLED_BACK kUNKEPT oEXECUTED oREPLAYED oIN_PROGRESS oRELEASED oSTORE_UNAVAILABLE oOUTCOME_UNKNOWN aSM kSM) :
    MetFree l MN_3 (head1 (Jvm.Cond.code MN_3 prog_5_method_5_code 1 (some (.object "com/example/exact1/exact1/Audit$Outcome")) :: ws) ({ frames := 2, cells := 0, slots := 0, locals := 25 } : Room)) (fun a U => a = #[(.ref kUNANSWERED)] ∧ Z.Warmed39 U.vm ∧ U.heap = h0) (fun _ _ _ _ _ => True) (fun _ U o U' => ∃ v L, o = .returned v ∧ Q_rm1_UNANSWERED n0 Z kUNCLAIMED kKEPT kRUNNING kCONFLICTING kRAN kUNANSWERED kTAKEN_OVER kROLLED_BACK kUNKEPT oEXECUTED oREPLAYED oIN_PROGRESS oRELEASED oSTORE_UNAVAILABLE oOUTCOME_UNKNOWN aSM kSM h0 v U'.heap L ∧ FrameEnd U o U' L ({ frames := 2, cells := 0, slots := 0, locals := 25 } : Room).cells ({ frames := 2, cells := 0, slots := 0, locals := 25 } : Room).slots) := by
  refine MetFree.of_bodySF (plainFor_of_name pnv1) hisR ?_
  intro p e s m args below meth c s₁ Bd hml0 hP hK
  obtain ⟨rfl, hZ, hh⟩ := hP
  have hx := Bd.exec
  have hby := Bd.bytes
  have hml : c.maxLocals = 1 := hml0
  have hown : s.vm.findClass "com/example/exact1/exact1/Audit$Outcome" = some m.cls := findClass_of_methodNamed Bd.named
  have hnm := (name_of_methodNamed Bd.named Bd.method).1
  have X0 : Stand p l e ({ frames := 2, cells := 0, slots := 0, locals := 25 } : Room) s m #[(.ref kUNANSWERED)] below meth c s₁ [] 0 0 := Stand.of_body Bd
  have e0 : s₁.heap = h0 := by rw [← hh, Bd.state]; rfl
  have N0 := Fr.nil n0
  have pre0 : ∀ t, Steps p.tables e below (s₁.setTop (mkF m 0 #[.val (.ref kUNANSWERED)] [])) t → Steps p.tables e below (s₁.setTop (entryFrame m #[(.ref kUNANSWERED)] 1)) t := fun t k => castTop (ef_rm1_UNANSWERED m ) k
  have GL' := GL
  obtain ⟨GSUNCLAIMED, GEUNCLAIMED, GOUNCLAIMED, GSKEPT, GEKEPT, GOKEPT, GSRUNNING, GERUNNING, GORUNNING, GSCONFLICTING, GECONFLICTING, GOCONFLICTING, GSRAN, GERAN, GORAN, GSUNANSWERED, GEUNANSWERED, GOUNANSWERED, GSTAKEN_OVER, GETAKEN_OVER, GOTAKEN_OVER, GSROLLED_BACK, GEROLLED_BACK, GOROLLED_BACK, GSUNKEPT, GEUNKEPT, GOUNKEPT, HSEXECUTED, HSREPLAYED, HSIN_PROGRESS, HSRELEASED, HSSTORE_UNAVAILABLE, HSOUTCOME_UNKNOWN, GSM, GVM⟩ := GL'
  obtain ⟨T1, X1, e1, st1⟩ := getS2 X0 hx hZ hown (host := "") (Or.inl (Wd hw 10 rfl)) Via.refl e0 (GSCONFLICTING.ext O0.2) (g := (mkF m 1 #[.val (.ref kUNANSWERED)] [(.ref kUNANSWERED)])) rfl (hb hby d1_1)
  have nC : kUNANSWERED ≠ kCONFLICTING := Fld.ne GOUNANSWERED GOCONFLICTING (by decide)
  obtain ⟨_, _, ⟨T2, L2, k2, n2⟩, -, X2, ⟨Lc2, hQ2, l2, y2, z2⟩, st2⟩ := Jvm.LawKit.callS X1 hx (y := MN_2) hown (mvT hZ (Wd hw 12 rfl)) (mvT hZ (Wd hw 13 rfl)) (mvT hZ (Wd hw 5 rfl)) (mvT hZ (Wd hw 14 rfl)) (by decide) (backOf (W := 0) (rm2_UNANSWERED l Z a0 hw [] kUNCLAIMED kKEPT kRUNNING kCONFLICTING kRAN kUNANSWERED kTAKEN_OVER kROLLED_BACK kUNKEPT oEXECUTED oREPLAYED oIN_PROGRESS oRELEASED oSTORE_UNAVAILABLE oOUTCOME_UNKNOWN aSM kSM (kUNANSWERED) (h0) n0 O0 GL (GEUNANSWERED.ext O0.2) (GOUNANSWERED.ext O0.2)) hZ (Wd hw 14 rfl) (Wd hw 5 rfl) (by decide) (by decide)) (g := (mkF m 14 #[.val (.ref kUNANSWERED)] [(.ref kUNANSWERED)])) rfl (by rw [hml]; rfl) (argsL := [(.ref kUNANSWERED)]) (rest := []) (lenOf pdv1 rfl) rfl (by show 2 * 0 + _ ≤ _; exact Nat.le_of_eq rfl) (hb hby d1_14) (fun _ _ => ⟨rfl, e1, (by decide : 0 + 0 ≤ _), (by decide : 0 + 0 ≤ _)⟩)
  dsimp only [Pt.U, Pt.locs, Pt.cells, Pt.slots] at X2 l2 y2 z2 st2 hQ2
  subst l2 y2 z2
  obtain ⟨rfl, N2q, e2⟩ := hQ2
  have N2 := Fr.app N0 N2q
  obtain ⟨fs, hr, hrun, hended, hW, hsame⟩ := X2.leave (v := some (.ref oRELEASED)) (fun h => by rw [Bd.returns] at h; cases h)
  refine ⟨_, _, pre0 _ ?_, hrun, hended, _, _, rfl, ?_, ⟨_, rfl⟩, hW, hsame.mono (by decide) (by decide)⟩
  · show Steps p.tables e below (s₁.setTop (mkF m 0 #[.val (.ref kUNANSWERED)] [])) _
    refine XS.aloadN X0.here hx rfl (hb hby d1_0) rfl rfl ?_
    show Steps p.tables e below (s₁.setTop (mkF m 1 #[.val (.ref kUNANSWERED)] [(.ref kUNANSWERED)])) _
    refine st1 _ ?_
    show Steps p.tables e below (T1.setTop (mkF m 4 #[.val (.ref kUNANSWERED)] [(.ref kCONFLICTING), (.ref kUNANSWERED)])) _
    refine Jvm.RoadKit.acmp (g := (mkF m 4 #[.val (.ref kUNANSWERED)] [(.ref kCONFLICTING), (.ref kUNANSWERED)])) X1 hx rfl rfl rfl (pc0 := 4) (pc' := 13) (same := false) rfl (hb hby d1_4) rfl (decide_eq_false fun q => nC (Value.ref.inj q)) (by decide) (by decide) ?_
    show Steps p.tables e below (T1.setTop (mkF m 13 #[.val (.ref kUNANSWERED)] [])) _
    refine XS.aloadN X1.here hx rfl (hb hby d1_13) rfl rfl ?_
    show Steps p.tables e below (T1.setTop (mkF m 14 #[.val (.ref kUNANSWERED)] [(.ref kUNANSWERED)])) _
    refine st2 _ ?_
    show Steps p.tables e below (T2.setTop (mkF m 17 #[.val (.ref kUNANSWERED)] [(.ref oRELEASED)])) _
    jvm_step X2.here [X2.here.top, hx, (hb hby d1_17), X2.method', Bd.returns, Value.isRef, FieldType.isReference]
    first | (intro acts; rw [hr _ acts rfl rfl rfl]) | rw [hr _ _ rfl rfl rfl]
    exact Steps.refl _
  · show Q_rm1_UNANSWERED n0 Z kUNCLAIMED kKEPT kRUNNING kCONFLICTING kRAN kUNANSWERED kTAKEN_OVER kROLLED_BACK kUNKEPT oEXECUTED oREPLAYED oIN_PROGRESS oRELEASED oSTORE_UNAVAILABLE oOUTCOME_UNKNOWN aSM kSM h0 _ T2.heap _
    rw [e2]
    exact ⟨rfl, N2, rfl⟩
theorem ef_rm1_TAKEN_OVER (m : MethodId)  : entryFrame m #[(.ref kTAKEN_OVER)] 1 = mkF m 0 #[.val (.ref kTAKEN_OVER)] [] := by first | (simp [entryFrame, mkF, argsToLocals, Value.category]; done) | rfl
def Q_rm1_TAKEN_OVER (n0 : Nat) (Z : State) (kUNCLAIMED : Addr) (kKEPT : Addr) (kRUNNING : Addr) (kCONFLICTING : Addr) (kRAN : Addr) (kUNANSWERED : Addr) (kTAKEN_OVER : Addr) (kROLLED_BACK : Addr) (kUNKEPT : Addr) (oEXECUTED : Addr) (oREPLAYED : Addr) (oIN_PROGRESS : Addr) (oRELEASED : Addr) (oSTORE_UNAVAILABLE : Addr) (oOUTCOME_UNKNOWN : Addr) (aSM : Addr) (kSM : ClassId) (h0 : Heap) (v : Option Value) (h : Heap) (L : List Loc) : Prop := v = some (.ref oIN_PROGRESS) ∧ Fr n0 L ∧ h = h0
set_option maxRecDepth 65536 in
set_option maxHeartbeats 40000000 in
theorem rm1_TAKEN_OVER (l : Launch) (Z : State) (a0 : Array Value) (hw : ∀ d ∈ tables_1, d.before a0 Z = true) (ws : List Jvm.Cond) (kUNCLAIMED : Addr) (kKEPT : Addr) (kRUNNING : Addr) (kCONFLICTING : Addr) (kRAN : Addr) (kUNANSWERED : Addr) (kTAKEN_OVER : Addr) (kROLLED_BACK : Addr) (kUNKEPT : Addr) (oEXECUTED : Addr) (oREPLAYED : Addr) (oIN_PROGRESS : Addr) (oRELEASED : Addr) (oSTORE_UNAVAILABLE : Addr) (oOUTCOME_UNKNOWN : Addr) (aSM : Addr) (kSM : ClassId) (h0 : Heap) (n0 : Nat) (O0 : Old Z n0 h0) (GL : GF Z kUNCLAIMED kKEPT kRUNNING kCONFLICTING kRAN kUNANSWERED kTAKEN_OVER kROLLED_BACK kUNKEPT oEXECUTED oREPLAYED oIN_PROGRESS oRELEASED oSTORE_UNAVAILABLE oOUTCOME_UNKNOWN aSM kSM) :
    MetFree l MN_3 (head1 (Jvm.Cond.code MN_3 prog_5_method_5_code 1 (some (.object "com/example/exact1/exact1/Audit$Outcome")) :: ws) ({ frames := 2, cells := 0, slots := 0, locals := 25 } : Room)) (fun a U => a = #[(.ref kTAKEN_OVER)] ∧ Z.Warmed39 U.vm ∧ U.heap = h0) (fun _ _ _ _ _ => True) (fun _ U o U' => ∃ v L, o = .returned v ∧ Q_rm1_TAKEN_OVER n0 Z kUNCLAIMED kKEPT kRUNNING kCONFLICTING kRAN kUNANSWERED kTAKEN_OVER kROLLED_BACK kUNKEPT oEXECUTED oREPLAYED oIN_PROGRESS oRELEASED oSTORE_UNAVAILABLE oOUTCOME_UNKNOWN aSM kSM h0 v U'.heap L ∧ FrameEnd U o U' L ({ frames := 2, cells := 0, slots := 0, locals := 25 } : Room).cells ({ frames := 2, cells := 0, slots := 0, locals := 25 } : Room).slots) := by
  refine MetFree.of_bodySF (plainFor_of_name pnv1) hisR ?_
  intro p e s m args below meth c s₁ Bd hml0 hP hK
  obtain ⟨rfl, hZ, hh⟩ := hP
  have hx := Bd.exec
  have hby := Bd.bytes
  have hml : c.maxLocals = 1 := hml0
  have hown : s.vm.findClass "com/example/exact1/exact1/Audit$Outcome" = some m.cls := findClass_of_methodNamed Bd.named
  have hnm := (name_of_methodNamed Bd.named Bd.method).1
  have X0 : Stand p l e ({ frames := 2, cells := 0, slots := 0, locals := 25 } : Room) s m #[(.ref kTAKEN_OVER)] below meth c s₁ [] 0 0 := Stand.of_body Bd
  have e0 : s₁.heap = h0 := by rw [← hh, Bd.state]; rfl
  have N0 := Fr.nil n0
  have pre0 : ∀ t, Steps p.tables e below (s₁.setTop (mkF m 0 #[.val (.ref kTAKEN_OVER)] [])) t → Steps p.tables e below (s₁.setTop (entryFrame m #[(.ref kTAKEN_OVER)] 1)) t := fun t k => castTop (ef_rm1_TAKEN_OVER m ) k
  have GL' := GL
  obtain ⟨GSUNCLAIMED, GEUNCLAIMED, GOUNCLAIMED, GSKEPT, GEKEPT, GOKEPT, GSRUNNING, GERUNNING, GORUNNING, GSCONFLICTING, GECONFLICTING, GOCONFLICTING, GSRAN, GERAN, GORAN, GSUNANSWERED, GEUNANSWERED, GOUNANSWERED, GSTAKEN_OVER, GETAKEN_OVER, GOTAKEN_OVER, GSROLLED_BACK, GEROLLED_BACK, GOROLLED_BACK, GSUNKEPT, GEUNKEPT, GOUNKEPT, HSEXECUTED, HSREPLAYED, HSIN_PROGRESS, HSRELEASED, HSSTORE_UNAVAILABLE, HSOUTCOME_UNKNOWN, GSM, GVM⟩ := GL'
  obtain ⟨T1, X1, e1, st1⟩ := getS2 X0 hx hZ hown (host := "") (Or.inl (Wd hw 10 rfl)) Via.refl e0 (GSCONFLICTING.ext O0.2) (g := (mkF m 1 #[.val (.ref kTAKEN_OVER)] [(.ref kTAKEN_OVER)])) rfl (hb hby d1_1)
  have nC : kTAKEN_OVER ≠ kCONFLICTING := Fld.ne GOTAKEN_OVER GOCONFLICTING (by decide)
  obtain ⟨_, _, ⟨T2, L2, k2, n2⟩, -, X2, ⟨Lc2, hQ2, l2, y2, z2⟩, st2⟩ := Jvm.LawKit.callS X1 hx (y := MN_2) hown (mvT hZ (Wd hw 12 rfl)) (mvT hZ (Wd hw 13 rfl)) (mvT hZ (Wd hw 5 rfl)) (mvT hZ (Wd hw 14 rfl)) (by decide) (backOf (W := 0) (rm2_TAKEN_OVER l Z a0 hw [] kUNCLAIMED kKEPT kRUNNING kCONFLICTING kRAN kUNANSWERED kTAKEN_OVER kROLLED_BACK kUNKEPT oEXECUTED oREPLAYED oIN_PROGRESS oRELEASED oSTORE_UNAVAILABLE oOUTCOME_UNKNOWN aSM kSM (kTAKEN_OVER) (h0) n0 O0 GL (GETAKEN_OVER.ext O0.2) (GOTAKEN_OVER.ext O0.2)) hZ (Wd hw 14 rfl) (Wd hw 5 rfl) (by decide) (by decide)) (g := (mkF m 14 #[.val (.ref kTAKEN_OVER)] [(.ref kTAKEN_OVER)])) rfl (by rw [hml]; rfl) (argsL := [(.ref kTAKEN_OVER)]) (rest := []) (lenOf pdv1 rfl) rfl (by show 2 * 0 + _ ≤ _; exact Nat.le_of_eq rfl) (hb hby d1_14) (fun _ _ => ⟨rfl, e1, (by decide : 0 + 0 ≤ _), (by decide : 0 + 0 ≤ _)⟩)
  dsimp only [Pt.U, Pt.locs, Pt.cells, Pt.slots] at X2 l2 y2 z2 st2 hQ2
  subst l2 y2 z2
  obtain ⟨rfl, N2q, e2⟩ := hQ2
  have N2 := Fr.app N0 N2q
  obtain ⟨fs, hr, hrun, hended, hW, hsame⟩ := X2.leave (v := some (.ref oIN_PROGRESS)) (fun h => by rw [Bd.returns] at h; cases h)
  refine ⟨_, _, pre0 _ ?_, hrun, hended, _, _, rfl, ?_, ⟨_, rfl⟩, hW, hsame.mono (by decide) (by decide)⟩
  · show Steps p.tables e below (s₁.setTop (mkF m 0 #[.val (.ref kTAKEN_OVER)] [])) _
    refine XS.aloadN X0.here hx rfl (hb hby d1_0) rfl rfl ?_
    show Steps p.tables e below (s₁.setTop (mkF m 1 #[.val (.ref kTAKEN_OVER)] [(.ref kTAKEN_OVER)])) _
    refine st1 _ ?_
    show Steps p.tables e below (T1.setTop (mkF m 4 #[.val (.ref kTAKEN_OVER)] [(.ref kCONFLICTING), (.ref kTAKEN_OVER)])) _
    refine Jvm.RoadKit.acmp (g := (mkF m 4 #[.val (.ref kTAKEN_OVER)] [(.ref kCONFLICTING), (.ref kTAKEN_OVER)])) X1 hx rfl rfl rfl (pc0 := 4) (pc' := 13) (same := false) rfl (hb hby d1_4) rfl (decide_eq_false fun q => nC (Value.ref.inj q)) (by decide) (by decide) ?_
    show Steps p.tables e below (T1.setTop (mkF m 13 #[.val (.ref kTAKEN_OVER)] [])) _
    refine XS.aloadN X1.here hx rfl (hb hby d1_13) rfl rfl ?_
    show Steps p.tables e below (T1.setTop (mkF m 14 #[.val (.ref kTAKEN_OVER)] [(.ref kTAKEN_OVER)])) _
    refine st2 _ ?_
    show Steps p.tables e below (T2.setTop (mkF m 17 #[.val (.ref kTAKEN_OVER)] [(.ref oIN_PROGRESS)])) _
    jvm_step X2.here [X2.here.top, hx, (hb hby d1_17), X2.method', Bd.returns, Value.isRef, FieldType.isReference]
    first | (intro acts; rw [hr _ acts rfl rfl rfl]) | rw [hr _ _ rfl rfl rfl]
    exact Steps.refl _
  · show Q_rm1_TAKEN_OVER n0 Z kUNCLAIMED kKEPT kRUNNING kCONFLICTING kRAN kUNANSWERED kTAKEN_OVER kROLLED_BACK kUNKEPT oEXECUTED oREPLAYED oIN_PROGRESS oRELEASED oSTORE_UNAVAILABLE oOUTCOME_UNKNOWN aSM kSM h0 _ T2.heap _
    rw [e2]
    exact ⟨rfl, N2, rfl⟩
theorem ef_rm1_ROLLED_BACK (m : MethodId)  : entryFrame m #[(.ref kROLLED_BACK)] 1 = mkF m 0 #[.val (.ref kROLLED_BACK)] [] := by first | (simp [entryFrame, mkF, argsToLocals, Value.category]; done) | rfl
def Q_rm1_ROLLED_BACK (n0 : Nat) (Z : State) (kUNCLAIMED : Addr) (kKEPT : Addr) (kRUNNING : Addr) (kCONFLICTING : Addr) (kRAN : Addr) (kUNANSWERED : Addr) (kTAKEN_OVER : Addr) (kROLLED_BACK : Addr) (kUNKEPT : Addr) (oEXECUTED : Addr) (oREPLAYED : Addr) (oIN_PROGRESS : Addr) (oRELEASED : Addr) (oSTORE_UNAVAILABLE : Addr) (oOUTCOME_UNKNOWN : Addr) (aSM : Addr) (kSM : ClassId) (h0 : Heap) (v : Option Value) (h : Heap) (L : List Loc) : Prop := v = some (.ref oSTORE_UNAVAILABLE) ∧ Fr n0 L ∧ h = h0
set_option maxRecDepth 65536 in
set_option maxHeartbeats 40000000 in
theorem rm1_ROLLED_BACK (l : Launch) (Z : State) (a0 : Array Value) (hw : ∀ d ∈ tables_1, d.before a0 Z = true) (ws : List Jvm.Cond) (kUNCLAIMED : Addr) (kKEPT : Addr) (kRUNNING : Addr) (kCONFLICTING : Addr) (kRAN : Addr) (kUNANSWERED : Addr) (kTAKEN_OVER : Addr) (kROLLED_BACK : Addr) (kUNKEPT : Addr) (oEXECUTED : Addr) (oREPLAYED : Addr) (oIN_PROGRESS : Addr) (oRELEASED : Addr) (oSTORE_UNAVAILABLE : Addr) (oOUTCOME_UNKNOWN : Addr) (aSM : Addr) (kSM : ClassId) (h0 : Heap) (n0 : Nat) (O0 : Old Z n0 h0) (GL : GF Z kUNCLAIMED kKEPT kRUNNING kCONFLICTING kRAN kUNANSWERED kTAKEN_OVER kROLLED_BACK kUNKEPT oEXECUTED oREPLAYED oIN_PROGRESS oRELEASED oSTORE_UNAVAILABLE oOUTCOME_UNKNOWN aSM kSM) :
    MetFree l MN_3 (head1 (Jvm.Cond.code MN_3 prog_5_method_5_code 1 (some (.object "com/example/exact1/exact1/Audit$Outcome")) :: ws) ({ frames := 2, cells := 0, slots := 0, locals := 25 } : Room)) (fun a U => a = #[(.ref kROLLED_BACK)] ∧ Z.Warmed39 U.vm ∧ U.heap = h0) (fun _ _ _ _ _ => True) (fun _ U o U' => ∃ v L, o = .returned v ∧ Q_rm1_ROLLED_BACK n0 Z kUNCLAIMED kKEPT kRUNNING kCONFLICTING kRAN kUNANSWERED kTAKEN_OVER kROLLED_BACK kUNKEPT oEXECUTED oREPLAYED oIN_PROGRESS oRELEASED oSTORE_UNAVAILABLE oOUTCOME_UNKNOWN aSM kSM h0 v U'.heap L ∧ FrameEnd U o U' L ({ frames := 2, cells := 0, slots := 0, locals := 25 } : Room).cells ({ frames := 2, cells := 0, slots := 0, locals := 25 } : Room).slots) := by
  refine MetFree.of_bodySF (plainFor_of_name pnv1) hisR ?_
  intro p e s m args below meth c s₁ Bd hml0 hP hK
  obtain ⟨rfl, hZ, hh⟩ := hP
  have hx := Bd.exec
  have hby := Bd.bytes
  have hml : c.maxLocals = 1 := hml0
  have hown : s.vm.findClass "com/example/exact1/exact1/Audit$Outcome" = some m.cls := findClass_of_methodNamed Bd.named
  have hnm := (name_of_methodNamed Bd.named Bd.method).1
  have X0 : Stand p l e ({ frames := 2, cells := 0, slots := 0, locals := 25 } : Room) s m #[(.ref kROLLED_BACK)] below meth c s₁ [] 0 0 := Stand.of_body Bd
  have e0 : s₁.heap = h0 := by rw [← hh, Bd.state]; rfl
  have N0 := Fr.nil n0
  have pre0 : ∀ t, Steps p.tables e below (s₁.setTop (mkF m 0 #[.val (.ref kROLLED_BACK)] [])) t → Steps p.tables e below (s₁.setTop (entryFrame m #[(.ref kROLLED_BACK)] 1)) t := fun t k => castTop (ef_rm1_ROLLED_BACK m ) k
  have GL' := GL
  obtain ⟨GSUNCLAIMED, GEUNCLAIMED, GOUNCLAIMED, GSKEPT, GEKEPT, GOKEPT, GSRUNNING, GERUNNING, GORUNNING, GSCONFLICTING, GECONFLICTING, GOCONFLICTING, GSRAN, GERAN, GORAN, GSUNANSWERED, GEUNANSWERED, GOUNANSWERED, GSTAKEN_OVER, GETAKEN_OVER, GOTAKEN_OVER, GSROLLED_BACK, GEROLLED_BACK, GOROLLED_BACK, GSUNKEPT, GEUNKEPT, GOUNKEPT, HSEXECUTED, HSREPLAYED, HSIN_PROGRESS, HSRELEASED, HSSTORE_UNAVAILABLE, HSOUTCOME_UNKNOWN, GSM, GVM⟩ := GL'
  obtain ⟨T1, X1, e1, st1⟩ := getS2 X0 hx hZ hown (host := "") (Or.inl (Wd hw 10 rfl)) Via.refl e0 (GSCONFLICTING.ext O0.2) (g := (mkF m 1 #[.val (.ref kROLLED_BACK)] [(.ref kROLLED_BACK)])) rfl (hb hby d1_1)
  have nC : kROLLED_BACK ≠ kCONFLICTING := Fld.ne GOROLLED_BACK GOCONFLICTING (by decide)
  obtain ⟨_, _, ⟨T2, L2, k2, n2⟩, -, X2, ⟨Lc2, hQ2, l2, y2, z2⟩, st2⟩ := Jvm.LawKit.callS X1 hx (y := MN_2) hown (mvT hZ (Wd hw 12 rfl)) (mvT hZ (Wd hw 13 rfl)) (mvT hZ (Wd hw 5 rfl)) (mvT hZ (Wd hw 14 rfl)) (by decide) (backOf (W := 0) (rm2_ROLLED_BACK l Z a0 hw [] kUNCLAIMED kKEPT kRUNNING kCONFLICTING kRAN kUNANSWERED kTAKEN_OVER kROLLED_BACK kUNKEPT oEXECUTED oREPLAYED oIN_PROGRESS oRELEASED oSTORE_UNAVAILABLE oOUTCOME_UNKNOWN aSM kSM (kROLLED_BACK) (h0) n0 O0 GL (GEROLLED_BACK.ext O0.2) (GOROLLED_BACK.ext O0.2)) hZ (Wd hw 14 rfl) (Wd hw 5 rfl) (by decide) (by decide)) (g := (mkF m 14 #[.val (.ref kROLLED_BACK)] [(.ref kROLLED_BACK)])) rfl (by rw [hml]; rfl) (argsL := [(.ref kROLLED_BACK)]) (rest := []) (lenOf pdv1 rfl) rfl (by show 2 * 0 + _ ≤ _; exact Nat.le_of_eq rfl) (hb hby d1_14) (fun _ _ => ⟨rfl, e1, (by decide : 0 + 0 ≤ _), (by decide : 0 + 0 ≤ _)⟩)
  dsimp only [Pt.U, Pt.locs, Pt.cells, Pt.slots] at X2 l2 y2 z2 st2 hQ2
  subst l2 y2 z2
  obtain ⟨rfl, N2q, e2⟩ := hQ2
  have N2 := Fr.app N0 N2q
  obtain ⟨fs, hr, hrun, hended, hW, hsame⟩ := X2.leave (v := some (.ref oSTORE_UNAVAILABLE)) (fun h => by rw [Bd.returns] at h; cases h)
  refine ⟨_, _, pre0 _ ?_, hrun, hended, _, _, rfl, ?_, ⟨_, rfl⟩, hW, hsame.mono (by decide) (by decide)⟩
  · show Steps p.tables e below (s₁.setTop (mkF m 0 #[.val (.ref kROLLED_BACK)] [])) _
    refine XS.aloadN X0.here hx rfl (hb hby d1_0) rfl rfl ?_
    show Steps p.tables e below (s₁.setTop (mkF m 1 #[.val (.ref kROLLED_BACK)] [(.ref kROLLED_BACK)])) _
    refine st1 _ ?_
    show Steps p.tables e below (T1.setTop (mkF m 4 #[.val (.ref kROLLED_BACK)] [(.ref kCONFLICTING), (.ref kROLLED_BACK)])) _
    refine Jvm.RoadKit.acmp (g := (mkF m 4 #[.val (.ref kROLLED_BACK)] [(.ref kCONFLICTING), (.ref kROLLED_BACK)])) X1 hx rfl rfl rfl (pc0 := 4) (pc' := 13) (same := false) rfl (hb hby d1_4) rfl (decide_eq_false fun q => nC (Value.ref.inj q)) (by decide) (by decide) ?_
    show Steps p.tables e below (T1.setTop (mkF m 13 #[.val (.ref kROLLED_BACK)] [])) _
    refine XS.aloadN X1.here hx rfl (hb hby d1_13) rfl rfl ?_
    show Steps p.tables e below (T1.setTop (mkF m 14 #[.val (.ref kROLLED_BACK)] [(.ref kROLLED_BACK)])) _
    refine st2 _ ?_
    show Steps p.tables e below (T2.setTop (mkF m 17 #[.val (.ref kROLLED_BACK)] [(.ref oSTORE_UNAVAILABLE)])) _
    jvm_step X2.here [X2.here.top, hx, (hb hby d1_17), X2.method', Bd.returns, Value.isRef, FieldType.isReference]
    first | (intro acts; rw [hr _ acts rfl rfl rfl]) | rw [hr _ _ rfl rfl rfl]
    exact Steps.refl _
  · show Q_rm1_ROLLED_BACK n0 Z kUNCLAIMED kKEPT kRUNNING kCONFLICTING kRAN kUNANSWERED kTAKEN_OVER kROLLED_BACK kUNKEPT oEXECUTED oREPLAYED oIN_PROGRESS oRELEASED oSTORE_UNAVAILABLE oOUTCOME_UNKNOWN aSM kSM h0 _ T2.heap _
    rw [e2]
    exact ⟨rfl, N2, rfl⟩
theorem ef_rm1_UNKEPT (m : MethodId)  : entryFrame m #[(.ref kUNKEPT)] 1 = mkF m 0 #[.val (.ref kUNKEPT)] [] := by first | (simp [entryFrame, mkF, argsToLocals, Value.category]; done) | rfl
def Q_rm1_UNKEPT (n0 : Nat) (Z : State) (kUNCLAIMED : Addr) (kKEPT : Addr) (kRUNNING : Addr) (kCONFLICTING : Addr) (kRAN : Addr) (kUNANSWERED : Addr) (kTAKEN_OVER : Addr) (kROLLED_BACK : Addr) (kUNKEPT : Addr) (oEXECUTED : Addr) (oREPLAYED : Addr) (oIN_PROGRESS : Addr) (oRELEASED : Addr) (oSTORE_UNAVAILABLE : Addr) (oOUTCOME_UNKNOWN : Addr) (aSM : Addr) (kSM : ClassId) (h0 : Heap) (v : Option Value) (h : Heap) (L : List Loc) : Prop := v = some (.ref oOUTCOME_UNKNOWN) ∧ Fr n0 L ∧ h = h0
set_option maxRecDepth 65536 in
set_option maxHeartbeats 40000000 in
theorem rm1_UNKEPT (l : Launch) (Z : State) (a0 : Array Value) (hw : ∀ d ∈ tables_1, d.before a0 Z = true) (ws : List Jvm.Cond) (kUNCLAIMED : Addr) (kKEPT : Addr) (kRUNNING : Addr) (kCONFLICTING : Addr) (kRAN : Addr) (kUNANSWERED : Addr) (kTAKEN_OVER : Addr) (kROLLED_BACK : Addr) (kUNKEPT : Addr) (oEXECUTED : Addr) (oREPLAYED : Addr) (oIN_PROGRESS : Addr) (oRELEASED : Addr) (oSTORE_UNAVAILABLE : Addr) (oOUTCOME_UNKNOWN : Addr) (aSM : Addr) (kSM : ClassId) (h0 : Heap) (n0 : Nat) (O0 : Old Z n0 h0) (GL : GF Z kUNCLAIMED kKEPT kRUNNING kCONFLICTING kRAN kUNANSWERED kTAKEN_OVER kROLLED_BACK kUNKEPT oEXECUTED oREPLAYED oIN_PROGRESS oRELEASED oSTORE_UNAVAILABLE oOUTCOME_UNKNOWN aSM kSM) :
    MetFree l MN_3 (head1 (Jvm.Cond.code MN_3 prog_5_method_5_code 1 (some (.object "com/example/exact1/exact1/Audit$Outcome")) :: ws) ({ frames := 2, cells := 0, slots := 0, locals := 25 } : Room)) (fun a U => a = #[(.ref kUNKEPT)] ∧ Z.Warmed39 U.vm ∧ U.heap = h0) (fun _ _ _ _ _ => True) (fun _ U o U' => ∃ v L, o = .returned v ∧ Q_rm1_UNKEPT n0 Z kUNCLAIMED kKEPT kRUNNING kCONFLICTING kRAN kUNANSWERED kTAKEN_OVER kROLLED_BACK kUNKEPT oEXECUTED oREPLAYED oIN_PROGRESS oRELEASED oSTORE_UNAVAILABLE oOUTCOME_UNKNOWN aSM kSM h0 v U'.heap L ∧ FrameEnd U o U' L ({ frames := 2, cells := 0, slots := 0, locals := 25 } : Room).cells ({ frames := 2, cells := 0, slots := 0, locals := 25 } : Room).slots) := by
  refine MetFree.of_bodySF (plainFor_of_name pnv1) hisR ?_
  intro p e s m args below meth c s₁ Bd hml0 hP hK
  obtain ⟨rfl, hZ, hh⟩ := hP
  have hx := Bd.exec
  have hby := Bd.bytes
  have hml : c.maxLocals = 1 := hml0
  have hown : s.vm.findClass "com/example/exact1/exact1/Audit$Outcome" = some m.cls := findClass_of_methodNamed Bd.named
  have hnm := (name_of_methodNamed Bd.named Bd.method).1
  have X0 : Stand p l e ({ frames := 2, cells := 0, slots := 0, locals := 25 } : Room) s m #[(.ref kUNKEPT)] below meth c s₁ [] 0 0 := Stand.of_body Bd
  have e0 : s₁.heap = h0 := by rw [← hh, Bd.state]; rfl
  have N0 := Fr.nil n0
  have pre0 : ∀ t, Steps p.tables e below (s₁.setTop (mkF m 0 #[.val (.ref kUNKEPT)] [])) t → Steps p.tables e below (s₁.setTop (entryFrame m #[(.ref kUNKEPT)] 1)) t := fun t k => castTop (ef_rm1_UNKEPT m ) k
  have GL' := GL
  obtain ⟨GSUNCLAIMED, GEUNCLAIMED, GOUNCLAIMED, GSKEPT, GEKEPT, GOKEPT, GSRUNNING, GERUNNING, GORUNNING, GSCONFLICTING, GECONFLICTING, GOCONFLICTING, GSRAN, GERAN, GORAN, GSUNANSWERED, GEUNANSWERED, GOUNANSWERED, GSTAKEN_OVER, GETAKEN_OVER, GOTAKEN_OVER, GSROLLED_BACK, GEROLLED_BACK, GOROLLED_BACK, GSUNKEPT, GEUNKEPT, GOUNKEPT, HSEXECUTED, HSREPLAYED, HSIN_PROGRESS, HSRELEASED, HSSTORE_UNAVAILABLE, HSOUTCOME_UNKNOWN, GSM, GVM⟩ := GL'
  obtain ⟨T1, X1, e1, st1⟩ := getS2 X0 hx hZ hown (host := "") (Or.inl (Wd hw 10 rfl)) Via.refl e0 (GSCONFLICTING.ext O0.2) (g := (mkF m 1 #[.val (.ref kUNKEPT)] [(.ref kUNKEPT)])) rfl (hb hby d1_1)
  have nC : kUNKEPT ≠ kCONFLICTING := Fld.ne GOUNKEPT GOCONFLICTING (by decide)
  obtain ⟨_, _, ⟨T2, L2, k2, n2⟩, -, X2, ⟨Lc2, hQ2, l2, y2, z2⟩, st2⟩ := Jvm.LawKit.callS X1 hx (y := MN_2) hown (mvT hZ (Wd hw 12 rfl)) (mvT hZ (Wd hw 13 rfl)) (mvT hZ (Wd hw 5 rfl)) (mvT hZ (Wd hw 14 rfl)) (by decide) (backOf (W := 0) (rm2_UNKEPT l Z a0 hw [] kUNCLAIMED kKEPT kRUNNING kCONFLICTING kRAN kUNANSWERED kTAKEN_OVER kROLLED_BACK kUNKEPT oEXECUTED oREPLAYED oIN_PROGRESS oRELEASED oSTORE_UNAVAILABLE oOUTCOME_UNKNOWN aSM kSM (kUNKEPT) (h0) n0 O0 GL (GEUNKEPT.ext O0.2) (GOUNKEPT.ext O0.2)) hZ (Wd hw 14 rfl) (Wd hw 5 rfl) (by decide) (by decide)) (g := (mkF m 14 #[.val (.ref kUNKEPT)] [(.ref kUNKEPT)])) rfl (by rw [hml]; rfl) (argsL := [(.ref kUNKEPT)]) (rest := []) (lenOf pdv1 rfl) rfl (by show 2 * 0 + _ ≤ _; exact Nat.le_of_eq rfl) (hb hby d1_14) (fun _ _ => ⟨rfl, e1, (by decide : 0 + 0 ≤ _), (by decide : 0 + 0 ≤ _)⟩)
  dsimp only [Pt.U, Pt.locs, Pt.cells, Pt.slots] at X2 l2 y2 z2 st2 hQ2
  subst l2 y2 z2
  obtain ⟨rfl, N2q, e2⟩ := hQ2
  have N2 := Fr.app N0 N2q
  obtain ⟨fs, hr, hrun, hended, hW, hsame⟩ := X2.leave (v := some (.ref oOUTCOME_UNKNOWN)) (fun h => by rw [Bd.returns] at h; cases h)
  refine ⟨_, _, pre0 _ ?_, hrun, hended, _, _, rfl, ?_, ⟨_, rfl⟩, hW, hsame.mono (by decide) (by decide)⟩
  · show Steps p.tables e below (s₁.setTop (mkF m 0 #[.val (.ref kUNKEPT)] [])) _
    refine XS.aloadN X0.here hx rfl (hb hby d1_0) rfl rfl ?_
    show Steps p.tables e below (s₁.setTop (mkF m 1 #[.val (.ref kUNKEPT)] [(.ref kUNKEPT)])) _
    refine st1 _ ?_
    show Steps p.tables e below (T1.setTop (mkF m 4 #[.val (.ref kUNKEPT)] [(.ref kCONFLICTING), (.ref kUNKEPT)])) _
    refine Jvm.RoadKit.acmp (g := (mkF m 4 #[.val (.ref kUNKEPT)] [(.ref kCONFLICTING), (.ref kUNKEPT)])) X1 hx rfl rfl rfl (pc0 := 4) (pc' := 13) (same := false) rfl (hb hby d1_4) rfl (decide_eq_false fun q => nC (Value.ref.inj q)) (by decide) (by decide) ?_
    show Steps p.tables e below (T1.setTop (mkF m 13 #[.val (.ref kUNKEPT)] [])) _
    refine XS.aloadN X1.here hx rfl (hb hby d1_13) rfl rfl ?_
    show Steps p.tables e below (T1.setTop (mkF m 14 #[.val (.ref kUNKEPT)] [(.ref kUNKEPT)])) _
    refine st2 _ ?_
    show Steps p.tables e below (T2.setTop (mkF m 17 #[.val (.ref kUNKEPT)] [(.ref oOUTCOME_UNKNOWN)])) _
    jvm_step X2.here [X2.here.top, hx, (hb hby d1_17), X2.method', Bd.returns, Value.isRef, FieldType.isReference]
    first | (intro acts; rw [hr _ acts rfl rfl rfl]) | rw [hr _ _ rfl rfl rfl]
    exact Steps.refl _
  · show Q_rm1_UNKEPT n0 Z kUNCLAIMED kKEPT kRUNNING kCONFLICTING kRAN kUNANSWERED kTAKEN_OVER kROLLED_BACK kUNKEPT oEXECUTED oREPLAYED oIN_PROGRESS oRELEASED oSTORE_UNAVAILABLE oOUTCOME_UNKNOWN aSM kSM h0 _ T2.heap _
    rw [e2]
    exact ⟨rfl, N2, rfl⟩
theorem pnv2 : plainName "com/example/exact1/exact1/OutcomeOfEventPinLaw" = true := by first | (simp [plainName, overriddenIn]; done) | decide +kernel
theorem ef_rm0 (m : MethodId) (p0 : Int32) : entryFrame m #[(.int p0)] maxLocals = mkF m 0 #[.val (.int p0), .unset, .unset, .unset, .unset] [] := by first | (simp [entryFrame, mkF, argsToLocals, Value.category, maxLocals]; done) | rfl
def Q_rm0 (n0 : Nat) (v : Option Value) (h : Heap) (L : List Loc) : Prop := v = some (.int (1 : Int32)) ∧ Fr n0 L
set_option maxRecDepth 65536 in
set_option maxHeartbeats 40000000 in
theorem rm0 (l : Launch) (Z : State) (a0 : Array Value) (hw : ∀ d ∈ tables_1, d.before a0 Z = true) (ws : List Jvm.Cond) (kUNCLAIMED : Addr) (kKEPT : Addr) (kRUNNING : Addr) (kCONFLICTING : Addr) (kRAN : Addr) (kUNANSWERED : Addr) (kTAKEN_OVER : Addr) (kROLLED_BACK : Addr) (kUNKEPT : Addr) (oEXECUTED : Addr) (oREPLAYED : Addr) (oIN_PROGRESS : Addr) (oRELEASED : Addr) (oSTORE_UNAVAILABLE : Addr) (oOUTCOME_UNKNOWN : Addr) (aSM : Addr) (kSM : ClassId) (p0 : Int32) (h0 : Heap) (n0 : Nat) (O0 : Old Z n0 h0) (GL : GF Z kUNCLAIMED kKEPT kRUNNING kCONFLICTING kRAN kUNANSWERED kTAKEN_OVER kROLLED_BACK kUNKEPT oEXECUTED oREPLAYED oIN_PROGRESS oRELEASED oSTORE_UNAVAILABLE oOUTCOME_UNKNOWN aSM kSM) :
    MetFree l x (head1 (Jvm.Cond.code x code maxLocals ret :: ws) room_1) (fun a U => a = #[(.int p0)] ∧ Z.Warmed39 U.vm ∧ U.heap = h0) (fun _ _ _ _ _ => True) (fun _ U o U' => ∃ v L, o = .returned v ∧ Q_rm0 n0 v U'.heap L ∧ FrameEnd U o U' L room_1.cells room_1.slots) := by
  refine MetFree.of_bodySF (plainFor_of_name pnv2) hisR ?_
  intro p e s m args below meth c s₁ Bd hml0 hP hK
  obtain ⟨rfl, hZ, hh⟩ := hP
  have hx := Bd.exec
  have hby := Bd.bytes
  have hml : c.maxLocals = 5 := hml0
  have hown : s.vm.findClass "com/example/exact1/exact1/OutcomeOfEventPinLaw" = some m.cls := findClass_of_methodNamed Bd.named
  have hnm := (name_of_methodNamed Bd.named Bd.method).1
  have X0 : Stand p l e room_1 s m #[(.int p0)] below meth c s₁ [] 0 0 := Stand.of_body Bd
  have e0 : s₁.heap = h0 := by rw [← hh, Bd.state]; rfl
  have N0 := Fr.nil n0
  have pre0 : ∀ t, Steps p.tables e below (s₁.setTop (mkF m 0 #[.val (.int p0), .unset, .unset, .unset, .unset] [])) t → Steps p.tables e below (s₁.setTop (entryFrame m #[(.int p0)] maxLocals)) t := fun t k => castTop (ef_rm0 m p0) k
  have GL' := GL
  obtain ⟨GSUNCLAIMED, GEUNCLAIMED, GOUNCLAIMED, GSKEPT, GEKEPT, GOKEPT, GSRUNNING, GERUNNING, GORUNNING, GSCONFLICTING, GECONFLICTING, GOCONFLICTING, GSRAN, GERAN, GORAN, GSUNANSWERED, GEUNANSWERED, GOUNANSWERED, GSTAKEN_OVER, GETAKEN_OVER, GOTAKEN_OVER, GSROLLED_BACK, GEROLLED_BACK, GOROLLED_BACK, GSUNKEPT, GEUNKEPT, GOUNKEPT, HSEXECUTED, HSREPLAYED, HSIN_PROGRESS, HSRELEASED, HSSTORE_UNAVAILABLE, HSOUTCOME_UNKNOWN, GSM, GVM⟩ := GL'
  have pre2 : ∀ t, Steps p.tables e below (s₁.setTop (mkF m 9 #[.val (.int p0), .val (.int ((p0 &&& (2147483647 : Int32)) % (9 : Int32))), .unset, .unset, .unset] [(.int ((p0 &&& (2147483647 : Int32)) % (9 : Int32)))])) t → Steps p.tables e below (s₁.setTop (entryFrame m #[(.int p0)] maxLocals)) t := fun t kt => by
    refine pre0 t ?_
    show Steps p.tables e below (s₁.setTop (mkF m 0 #[.val (.int p0), .unset, .unset, .unset, .unset] [])) _
    refine XS.iloadN X0.here hx rfl (hb hby at_0) rfl ?_
    show Steps p.tables e below (s₁.setTop (mkF m 1 #[.val (.int p0), .unset, .unset, .unset, .unset] [(.int p0)])) _
    refine X0.ldcInt hx hown (mvT hZ (Wd hw 0 rfl)) (g := (mkF m 1 #[.val (.int p0), .unset, .unset, .unset, .unset] [(.int p0)])) rfl (hb hby at_1) _ ?_
    show Steps p.tables e below (s₁.setTop (mkF m 3 #[.val (.int p0), .unset, .unset, .unset, .unset] [(.int (2147483647 : Int32)), (.int p0)])) _
    refine XS.iand X0.here hx rfl (hb hby at_3) rfl ?_
    show Steps p.tables e below (s₁.setTop (mkF m 4 #[.val (.int p0), .unset, .unset, .unset, .unset] [(.int (p0 &&& (2147483647 : Int32)))])) _
    refine XS.bipush X0.here hx rfl (hb hby at_4) ?_
    show Steps p.tables e below (s₁.setTop (mkF m 6 #[.val (.int p0), .unset, .unset, .unset, .unset] [(.int (9 : Int32)), (.int (p0 &&& (2147483647 : Int32)))])) _
    refine Jvm.RoadKit.iremM X0 hx rfl (hb hby at_6) rfl (by decide) ?_
    show Steps p.tables e below (s₁.setTop (mkF m 7 #[.val (.int p0), .unset, .unset, .unset, .unset] [(.int ((p0 &&& (2147483647 : Int32)) % (9 : Int32)))])) _
    refine XS.istoreN X0.here hx rfl (hb hby at_7) rfl (l' := #[.val (.int p0), .val (.int ((p0 &&& (2147483647 : Int32)) % (9 : Int32))), .unset, .unset, .unset]) rfl ?_
    show Steps p.tables e below (s₁.setTop (mkF m 8 #[.val (.int p0), .val (.int ((p0 &&& (2147483647 : Int32)) % (9 : Int32))), .unset, .unset, .unset] [])) _
    refine XS.iloadN X0.here hx rfl (hb hby at_8) rfl ?_
    exact kt
  by_cases hc9_1 : ((p0 &&& (2147483647 : Int32)) % (9 : Int32)) = (0 : Int32)
  · obtain ⟨T3, X3, e3, st3⟩ := getS2 X0 hx hZ hown (host := "") (Or.inl (Wd hw 1 rfl)) Via.refl e0 (GSUNCLAIMED.ext O0.2) (g := (mkF m 12 #[.val (.int p0), .val (.int ((p0 &&& (2147483647 : Int32)) % (9 : Int32))), .unset, .unset, .unset] [])) rfl (hb hby at_12)
    obtain ⟨T4, X4, e4, st4⟩ := getS2 X3 hx hZ hown (host := "") (Or.inl (Wd hw 4 rfl)) Via.refl e3 (HSSTORE_UNAVAILABLE.ext O0.2) (g := (mkF m 16 #[.val (.int p0), .val (.int ((p0 &&& (2147483647 : Int32)) % (9 : Int32))), .val (.ref kUNCLAIMED), .unset, .unset] [])) rfl (hb hby at_16)
    obtain ⟨_, _, ⟨T5, L5, k5, n5⟩, -, X5, ⟨Lc5, hQ5, l5, y5, z5⟩, st5⟩ := Jvm.LawKit.callS X4 hx (y := MN_3) hown (mvT hZ (Wd hw 7 rfl)) (mvT hZ (Wd hw 8 rfl)) (mvT hZ (Wd hw 5 rfl)) (mvT hZ (Wd hw 9 rfl)) (by decide) (backOf (W := 0) (rm1_UNCLAIMED l Z a0 hw [] kUNCLAIMED kKEPT kRUNNING kCONFLICTING kRAN kUNANSWERED kTAKEN_OVER kROLLED_BACK kUNKEPT oEXECUTED oREPLAYED oIN_PROGRESS oRELEASED oSTORE_UNAVAILABLE oOUTCOME_UNKNOWN aSM kSM  (h0) n0 O0 GL) hZ (Wd hw 9 rfl) (Wd hw 5 rfl) (by decide) (by decide)) (g := (mkF m 146 #[.val (.int p0), .val (.int ((p0 &&& (2147483647 : Int32)) % (9 : Int32))), .val (.ref kUNCLAIMED), .val (.ref oSTORE_UNAVAILABLE), .unset] [(.ref kUNCLAIMED)])) rfl (by rw [hml]; rfl) (argsL := [(.ref kUNCLAIMED)]) (rest := []) (lenOf pdv1 rfl) rfl (by show 2 * 0 + _ ≤ _; exact Nat.le_of_eq rfl) (hb hby at_146) (fun _ _ => ⟨rfl, e4, (by decide : 0 + 0 ≤ _), (by decide : 0 + 0 ≤ _)⟩)
    dsimp only [Pt.U, Pt.locs, Pt.cells, Pt.slots] at X5 l5 y5 z5 st5 hQ5
    subst l5 y5 z5
    obtain ⟨rfl, N5q, e5⟩ := hQ5
    have N5 := Fr.app N0 N5q
    obtain ⟨fs, hr, hrun, hended, hW, hsame⟩ := X5.leave (v := some (.int (1 : Int32))) (fun h => by rw [Bd.returns] at h; cases h)
    refine ⟨_, _, pre2 _ ?_, hrun, hended, _, _, rfl, ?_, ⟨_, rfl⟩, hW, hsame.mono (by decide) (by decide)⟩
    · show Steps p.tables e below (s₁.setTop (mkF m 9 #[.val (.int p0), .val (.int ((p0 &&& (2147483647 : Int32)) % (9 : Int32))), .unset, .unset, .unset] [(.int ((p0 &&& (2147483647 : Int32)) % (9 : Int32)))])) _
      refine XS.ifNo X0.here hx rfl (hb hby at_9) rfl ((if0 _ _).trans (teq hc9_1).2) ?_
      show Steps p.tables e below (s₁.setTop (mkF m 12 #[.val (.int p0), .val (.int ((p0 &&& (2147483647 : Int32)) % (9 : Int32))), .unset, .unset, .unset] [])) _
      refine st3 _ ?_
      show Steps p.tables e below (T3.setTop (mkF m 15 #[.val (.int p0), .val (.int ((p0 &&& (2147483647 : Int32)) % (9 : Int32))), .unset, .unset, .unset] [(.ref kUNCLAIMED)])) _
      refine XS.astoreN X3.here hx rfl (hb hby at_15) rfl rfl (l' := #[.val (.int p0), .val (.int ((p0 &&& (2147483647 : Int32)) % (9 : Int32))), .val (.ref kUNCLAIMED), .unset, .unset]) rfl ?_
      show Steps p.tables e below (T3.setTop (mkF m 16 #[.val (.int p0), .val (.int ((p0 &&& (2147483647 : Int32)) % (9 : Int32))), .val (.ref kUNCLAIMED), .unset, .unset] [])) _
      refine st4 _ ?_
      show Steps p.tables e below (T4.setTop (mkF m 19 #[.val (.int p0), .val (.int ((p0 &&& (2147483647 : Int32)) % (9 : Int32))), .val (.ref kUNCLAIMED), .unset, .unset] [(.ref oSTORE_UNAVAILABLE)])) _
      refine XS.astoreN X4.here hx rfl (hb hby at_19) rfl rfl (l' := #[.val (.int p0), .val (.int ((p0 &&& (2147483647 : Int32)) % (9 : Int32))), .val (.ref kUNCLAIMED), .val (.ref oSTORE_UNAVAILABLE), .unset]) rfl ?_
      show Steps p.tables e below (T4.setTop (mkF m 20 #[.val (.int p0), .val (.int ((p0 &&& (2147483647 : Int32)) % (9 : Int32))), .val (.ref kUNCLAIMED), .val (.ref oSTORE_UNAVAILABLE), .unset] [])) _
      refine XS.goto X4.here hx rfl (pc0 := 20) (pc' := 145) rfl (hb hby at_20) (by decide) (by decide) ?_
      show Steps p.tables e below (T4.setTop (mkF m 145 #[.val (.int p0), .val (.int ((p0 &&& (2147483647 : Int32)) % (9 : Int32))), .val (.ref kUNCLAIMED), .val (.ref oSTORE_UNAVAILABLE), .unset] [])) _
      refine XS.aloadN X4.here hx rfl (hb hby at_145) rfl rfl ?_
      show Steps p.tables e below (T4.setTop (mkF m 146 #[.val (.int p0), .val (.int ((p0 &&& (2147483647 : Int32)) % (9 : Int32))), .val (.ref kUNCLAIMED), .val (.ref oSTORE_UNAVAILABLE), .unset] [(.ref kUNCLAIMED)])) _
      refine st5 _ ?_
      show Steps p.tables e below (T5.setTop (mkF m 149 #[.val (.int p0), .val (.int ((p0 &&& (2147483647 : Int32)) % (9 : Int32))), .val (.ref kUNCLAIMED), .val (.ref oSTORE_UNAVAILABLE), .unset] [(.ref oSTORE_UNAVAILABLE)])) _
      refine XS.astore X5.here hx rfl (hb hby at_149) rfl rfl (l' := #[.val (.int p0), .val (.int ((p0 &&& (2147483647 : Int32)) % (9 : Int32))), .val (.ref kUNCLAIMED), .val (.ref oSTORE_UNAVAILABLE), .val (.ref oSTORE_UNAVAILABLE)]) rfl ?_
      show Steps p.tables e below (T5.setTop (mkF m 151 #[.val (.int p0), .val (.int ((p0 &&& (2147483647 : Int32)) % (9 : Int32))), .val (.ref kUNCLAIMED), .val (.ref oSTORE_UNAVAILABLE), .val (.ref oSTORE_UNAVAILABLE)] [])) _
      refine XS.aload X5.here hx rfl (hb hby at_151) rfl rfl ?_
      show Steps p.tables e below (T5.setTop (mkF m 153 #[.val (.int p0), .val (.int ((p0 &&& (2147483647 : Int32)) % (9 : Int32))), .val (.ref kUNCLAIMED), .val (.ref oSTORE_UNAVAILABLE), .val (.ref oSTORE_UNAVAILABLE)] [(.ref oSTORE_UNAVAILABLE)])) _
      refine XS.aloadN X5.here hx rfl (hb hby at_153) rfl rfl ?_
      show Steps p.tables e below (T5.setTop (mkF m 154 #[.val (.int p0), .val (.int ((p0 &&& (2147483647 : Int32)) % (9 : Int32))), .val (.ref kUNCLAIMED), .val (.ref oSTORE_UNAVAILABLE), .val (.ref oSTORE_UNAVAILABLE)] [(.ref oSTORE_UNAVAILABLE), (.ref oSTORE_UNAVAILABLE)])) _
      refine Jvm.RoadKit.acmp (g := (mkF m 154 #[.val (.int p0), .val (.int ((p0 &&& (2147483647 : Int32)) % (9 : Int32))), .val (.ref kUNCLAIMED), .val (.ref oSTORE_UNAVAILABLE), .val (.ref oSTORE_UNAVAILABLE)] [(.ref oSTORE_UNAVAILABLE), (.ref oSTORE_UNAVAILABLE)])) X5 hx rfl rfl rfl (pc0 := 154) (pc' := 157) (same := true) rfl (hb hby at_154) rfl (decide_eq_true rfl) (by decide) (by decide) ?_
      show Steps p.tables e below (T5.setTop (mkF m 157 #[.val (.int p0), .val (.int ((p0 &&& (2147483647 : Int32)) % (9 : Int32))), .val (.ref kUNCLAIMED), .val (.ref oSTORE_UNAVAILABLE), .val (.ref oSTORE_UNAVAILABLE)] [])) _
      refine XS.iconst X5.here hx rfl (hb hby at_157) ?_
      show Steps p.tables e below (T5.setTop (mkF m 158 #[.val (.int p0), .val (.int ((p0 &&& (2147483647 : Int32)) % (9 : Int32))), .val (.ref kUNCLAIMED), .val (.ref oSTORE_UNAVAILABLE), .val (.ref oSTORE_UNAVAILABLE)] [(.int (1 : Int32))])) _
      refine XS.goto X5.here hx rfl (pc0 := 158) (pc' := 162) rfl (hb hby at_158) (by decide) (by decide) ?_
      show Steps p.tables e below (T5.setTop (mkF m 162 #[.val (.int p0), .val (.int ((p0 &&& (2147483647 : Int32)) % (9 : Int32))), .val (.ref kUNCLAIMED), .val (.ref oSTORE_UNAVAILABLE), .val (.ref oSTORE_UNAVAILABLE)] [(.int (1 : Int32))])) _
      exact retN X5 hx (t := .boolean) Bd.returns (by simp) (hb hby at_162) hr
    · show Q_rm0 n0 _ T5.heap _
      rw [e5]
      exact ⟨rfl, N5⟩
  · have pre7 : ∀ t, Steps p.tables e below (s₁.setTop (mkF m 25 #[.val (.int p0), .val (.int ((p0 &&& (2147483647 : Int32)) % (9 : Int32))), .unset, .unset, .unset] [(.int (1 : Int32)), (.int ((p0 &&& (2147483647 : Int32)) % (9 : Int32)))])) t → Steps p.tables e below (s₁.setTop (entryFrame m #[(.int p0)] maxLocals)) t := fun t kt => by
      refine pre2 t ?_
      show Steps p.tables e below (s₁.setTop (mkF m 9 #[.val (.int p0), .val (.int ((p0 &&& (2147483647 : Int32)) % (9 : Int32))), .unset, .unset, .unset] [(.int ((p0 &&& (2147483647 : Int32)) % (9 : Int32)))])) _
      refine XS.ifYes X0.here hx rfl (pc0 := 9) (pc' := 23) rfl (hb hby at_9) rfl ((if0 _ _).trans (feq hc9_1).2) (by decide) (by decide) ?_
      show Steps p.tables e below (s₁.setTop (mkF m 23 #[.val (.int p0), .val (.int ((p0 &&& (2147483647 : Int32)) % (9 : Int32))), .unset, .unset, .unset] [])) _
      refine XS.iloadN X0.here hx rfl (hb hby at_23) rfl ?_
      show Steps p.tables e below (s₁.setTop (mkF m 24 #[.val (.int p0), .val (.int ((p0 &&& (2147483647 : Int32)) % (9 : Int32))), .unset, .unset, .unset] [(.int ((p0 &&& (2147483647 : Int32)) % (9 : Int32)))])) _
      refine XS.iconst X0.here hx rfl (hb hby at_24) ?_
      exact kt
    by_cases hc25_6 : ((p0 &&& (2147483647 : Int32)) % (9 : Int32)) = (1 : Int32)
    · obtain ⟨T8, X8, e8, st8⟩ := getS2 X0 hx hZ hown (host := "") (Or.inl (Wd hw 37 rfl)) Via.refl e0 (GSKEPT.ext O0.2) (g := (mkF m 28 #[.val (.int p0), .val (.int ((p0 &&& (2147483647 : Int32)) % (9 : Int32))), .unset, .unset, .unset] [])) rfl (hb hby at_28)
      obtain ⟨T9, X9, e9, st9⟩ := getS2 X8 hx hZ hown (host := "") (Or.inl (Wd hw 29 rfl)) Via.refl e8 (HSREPLAYED.ext O0.2) (g := (mkF m 32 #[.val (.int p0), .val (.int ((p0 &&& (2147483647 : Int32)) % (9 : Int32))), .val (.ref kKEPT), .unset, .unset] [])) rfl (hb hby at_32)
      obtain ⟨_, _, ⟨T10, L10, k10, n10⟩, -, X10, ⟨Lc10, hQ10, l10, y10, z10⟩, st10⟩ := Jvm.LawKit.callS X9 hx (y := MN_3) hown (mvT hZ (Wd hw 7 rfl)) (mvT hZ (Wd hw 8 rfl)) (mvT hZ (Wd hw 5 rfl)) (mvT hZ (Wd hw 9 rfl)) (by decide) (backOf (W := 0) (rm1_KEPT l Z a0 hw [] kUNCLAIMED kKEPT kRUNNING kCONFLICTING kRAN kUNANSWERED kTAKEN_OVER kROLLED_BACK kUNKEPT oEXECUTED oREPLAYED oIN_PROGRESS oRELEASED oSTORE_UNAVAILABLE oOUTCOME_UNKNOWN aSM kSM  (h0) n0 O0 GL) hZ (Wd hw 9 rfl) (Wd hw 5 rfl) (by decide) (by decide)) (g := (mkF m 146 #[.val (.int p0), .val (.int ((p0 &&& (2147483647 : Int32)) % (9 : Int32))), .val (.ref kKEPT), .val (.ref oREPLAYED), .unset] [(.ref kKEPT)])) rfl (by rw [hml]; rfl) (argsL := [(.ref kKEPT)]) (rest := []) (lenOf pdv1 rfl) rfl (by show 2 * 0 + _ ≤ _; exact Nat.le_of_eq rfl) (hb hby at_146) (fun _ _ => ⟨rfl, e9, (by decide : 0 + 0 ≤ _), (by decide : 0 + 0 ≤ _)⟩)
      dsimp only [Pt.U, Pt.locs, Pt.cells, Pt.slots] at X10 l10 y10 z10 st10 hQ10
      subst l10 y10 z10
      obtain ⟨rfl, N10q, e10⟩ := hQ10
      have N10 := Fr.app N0 N10q
      obtain ⟨fs, hr, hrun, hended, hW, hsame⟩ := X10.leave (v := some (.int (1 : Int32))) (fun h => by rw [Bd.returns] at h; cases h)
      refine ⟨_, _, pre7 _ ?_, hrun, hended, _, _, rfl, ?_, ⟨_, rfl⟩, hW, hsame.mono (by decide) (by decide)⟩
      · show Steps p.tables e below (s₁.setTop (mkF m 25 #[.val (.int p0), .val (.int ((p0 &&& (2147483647 : Int32)) % (9 : Int32))), .unset, .unset, .unset] [(.int (1 : Int32)), (.int ((p0 &&& (2147483647 : Int32)) % (9 : Int32)))])) _
        refine XS.icmpNo X0.here hx rfl (hb hby at_25) rfl (teq hc25_6).2 ?_
        show Steps p.tables e below (s₁.setTop (mkF m 28 #[.val (.int p0), .val (.int ((p0 &&& (2147483647 : Int32)) % (9 : Int32))), .unset, .unset, .unset] [])) _
        refine st8 _ ?_
        show Steps p.tables e below (T8.setTop (mkF m 31 #[.val (.int p0), .val (.int ((p0 &&& (2147483647 : Int32)) % (9 : Int32))), .unset, .unset, .unset] [(.ref kKEPT)])) _
        refine XS.astoreN X8.here hx rfl (hb hby at_31) rfl rfl (l' := #[.val (.int p0), .val (.int ((p0 &&& (2147483647 : Int32)) % (9 : Int32))), .val (.ref kKEPT), .unset, .unset]) rfl ?_
        show Steps p.tables e below (T8.setTop (mkF m 32 #[.val (.int p0), .val (.int ((p0 &&& (2147483647 : Int32)) % (9 : Int32))), .val (.ref kKEPT), .unset, .unset] [])) _
        refine st9 _ ?_
        show Steps p.tables e below (T9.setTop (mkF m 35 #[.val (.int p0), .val (.int ((p0 &&& (2147483647 : Int32)) % (9 : Int32))), .val (.ref kKEPT), .unset, .unset] [(.ref oREPLAYED)])) _
        refine XS.astoreN X9.here hx rfl (hb hby at_35) rfl rfl (l' := #[.val (.int p0), .val (.int ((p0 &&& (2147483647 : Int32)) % (9 : Int32))), .val (.ref kKEPT), .val (.ref oREPLAYED), .unset]) rfl ?_
        show Steps p.tables e below (T9.setTop (mkF m 36 #[.val (.int p0), .val (.int ((p0 &&& (2147483647 : Int32)) % (9 : Int32))), .val (.ref kKEPT), .val (.ref oREPLAYED), .unset] [])) _
        refine XS.goto X9.here hx rfl (pc0 := 36) (pc' := 145) rfl (hb hby at_36) (by decide) (by decide) ?_
        show Steps p.tables e below (T9.setTop (mkF m 145 #[.val (.int p0), .val (.int ((p0 &&& (2147483647 : Int32)) % (9 : Int32))), .val (.ref kKEPT), .val (.ref oREPLAYED), .unset] [])) _
        refine XS.aloadN X9.here hx rfl (hb hby at_145) rfl rfl ?_
        show Steps p.tables e below (T9.setTop (mkF m 146 #[.val (.int p0), .val (.int ((p0 &&& (2147483647 : Int32)) % (9 : Int32))), .val (.ref kKEPT), .val (.ref oREPLAYED), .unset] [(.ref kKEPT)])) _
        refine st10 _ ?_
        show Steps p.tables e below (T10.setTop (mkF m 149 #[.val (.int p0), .val (.int ((p0 &&& (2147483647 : Int32)) % (9 : Int32))), .val (.ref kKEPT), .val (.ref oREPLAYED), .unset] [(.ref oREPLAYED)])) _
        refine XS.astore X10.here hx rfl (hb hby at_149) rfl rfl (l' := #[.val (.int p0), .val (.int ((p0 &&& (2147483647 : Int32)) % (9 : Int32))), .val (.ref kKEPT), .val (.ref oREPLAYED), .val (.ref oREPLAYED)]) rfl ?_
        show Steps p.tables e below (T10.setTop (mkF m 151 #[.val (.int p0), .val (.int ((p0 &&& (2147483647 : Int32)) % (9 : Int32))), .val (.ref kKEPT), .val (.ref oREPLAYED), .val (.ref oREPLAYED)] [])) _
        refine XS.aload X10.here hx rfl (hb hby at_151) rfl rfl ?_
        show Steps p.tables e below (T10.setTop (mkF m 153 #[.val (.int p0), .val (.int ((p0 &&& (2147483647 : Int32)) % (9 : Int32))), .val (.ref kKEPT), .val (.ref oREPLAYED), .val (.ref oREPLAYED)] [(.ref oREPLAYED)])) _
        refine XS.aloadN X10.here hx rfl (hb hby at_153) rfl rfl ?_
        show Steps p.tables e below (T10.setTop (mkF m 154 #[.val (.int p0), .val (.int ((p0 &&& (2147483647 : Int32)) % (9 : Int32))), .val (.ref kKEPT), .val (.ref oREPLAYED), .val (.ref oREPLAYED)] [(.ref oREPLAYED), (.ref oREPLAYED)])) _
        refine Jvm.RoadKit.acmp (g := (mkF m 154 #[.val (.int p0), .val (.int ((p0 &&& (2147483647 : Int32)) % (9 : Int32))), .val (.ref kKEPT), .val (.ref oREPLAYED), .val (.ref oREPLAYED)] [(.ref oREPLAYED), (.ref oREPLAYED)])) X10 hx rfl rfl rfl (pc0 := 154) (pc' := 157) (same := true) rfl (hb hby at_154) rfl (decide_eq_true rfl) (by decide) (by decide) ?_
        show Steps p.tables e below (T10.setTop (mkF m 157 #[.val (.int p0), .val (.int ((p0 &&& (2147483647 : Int32)) % (9 : Int32))), .val (.ref kKEPT), .val (.ref oREPLAYED), .val (.ref oREPLAYED)] [])) _
        refine XS.iconst X10.here hx rfl (hb hby at_157) ?_
        show Steps p.tables e below (T10.setTop (mkF m 158 #[.val (.int p0), .val (.int ((p0 &&& (2147483647 : Int32)) % (9 : Int32))), .val (.ref kKEPT), .val (.ref oREPLAYED), .val (.ref oREPLAYED)] [(.int (1 : Int32))])) _
        refine XS.goto X10.here hx rfl (pc0 := 158) (pc' := 162) rfl (hb hby at_158) (by decide) (by decide) ?_
        show Steps p.tables e below (T10.setTop (mkF m 162 #[.val (.int p0), .val (.int ((p0 &&& (2147483647 : Int32)) % (9 : Int32))), .val (.ref kKEPT), .val (.ref oREPLAYED), .val (.ref oREPLAYED)] [(.int (1 : Int32))])) _
        exact retN X10 hx (t := .boolean) Bd.returns (by simp) (hb hby at_162) hr
      · show Q_rm0 n0 _ T10.heap _
        rw [e10]
        exact ⟨rfl, N10⟩
    · have pre12 : ∀ t, Steps p.tables e below (s₁.setTop (mkF m 41 #[.val (.int p0), .val (.int ((p0 &&& (2147483647 : Int32)) % (9 : Int32))), .unset, .unset, .unset] [(.int (2 : Int32)), (.int ((p0 &&& (2147483647 : Int32)) % (9 : Int32)))])) t → Steps p.tables e below (s₁.setTop (entryFrame m #[(.int p0)] maxLocals)) t := fun t kt => by
        refine pre7 t ?_
        show Steps p.tables e below (s₁.setTop (mkF m 25 #[.val (.int p0), .val (.int ((p0 &&& (2147483647 : Int32)) % (9 : Int32))), .unset, .unset, .unset] [(.int (1 : Int32)), (.int ((p0 &&& (2147483647 : Int32)) % (9 : Int32)))])) _
        refine XS.icmpYes X0.here hx rfl (pc0 := 25) (pc' := 39) rfl (hb hby at_25) rfl (feq hc25_6).2 (by decide) (by decide) ?_
        show Steps p.tables e below (s₁.setTop (mkF m 39 #[.val (.int p0), .val (.int ((p0 &&& (2147483647 : Int32)) % (9 : Int32))), .unset, .unset, .unset] [])) _
        refine XS.iloadN X0.here hx rfl (hb hby at_39) rfl ?_
        show Steps p.tables e below (s₁.setTop (mkF m 40 #[.val (.int p0), .val (.int ((p0 &&& (2147483647 : Int32)) % (9 : Int32))), .unset, .unset, .unset] [(.int ((p0 &&& (2147483647 : Int32)) % (9 : Int32)))])) _
        refine XS.iconst X0.here hx rfl (hb hby at_40) ?_
        exact kt
      by_cases hc41_11 : ((p0 &&& (2147483647 : Int32)) % (9 : Int32)) = (2 : Int32)
      · obtain ⟨T13, X13, e13, st13⟩ := getS2 X0 hx hZ hown (host := "") (Or.inl (Wd hw 32 rfl)) Via.refl e0 (GSRUNNING.ext O0.2) (g := (mkF m 44 #[.val (.int p0), .val (.int ((p0 &&& (2147483647 : Int32)) % (9 : Int32))), .unset, .unset, .unset] [])) rfl (hb hby at_44)
        obtain ⟨T14, X14, e14, st14⟩ := getS2 X13 hx hZ hown (host := "") (Or.inl (Wd hw 34 rfl)) Via.refl e13 (HSIN_PROGRESS.ext O0.2) (g := (mkF m 48 #[.val (.int p0), .val (.int ((p0 &&& (2147483647 : Int32)) % (9 : Int32))), .val (.ref kRUNNING), .unset, .unset] [])) rfl (hb hby at_48)
        obtain ⟨_, _, ⟨T15, L15, k15, n15⟩, -, X15, ⟨Lc15, hQ15, l15, y15, z15⟩, st15⟩ := Jvm.LawKit.callS X14 hx (y := MN_3) hown (mvT hZ (Wd hw 7 rfl)) (mvT hZ (Wd hw 8 rfl)) (mvT hZ (Wd hw 5 rfl)) (mvT hZ (Wd hw 9 rfl)) (by decide) (backOf (W := 0) (rm1_RUNNING l Z a0 hw [] kUNCLAIMED kKEPT kRUNNING kCONFLICTING kRAN kUNANSWERED kTAKEN_OVER kROLLED_BACK kUNKEPT oEXECUTED oREPLAYED oIN_PROGRESS oRELEASED oSTORE_UNAVAILABLE oOUTCOME_UNKNOWN aSM kSM  (h0) n0 O0 GL) hZ (Wd hw 9 rfl) (Wd hw 5 rfl) (by decide) (by decide)) (g := (mkF m 146 #[.val (.int p0), .val (.int ((p0 &&& (2147483647 : Int32)) % (9 : Int32))), .val (.ref kRUNNING), .val (.ref oIN_PROGRESS), .unset] [(.ref kRUNNING)])) rfl (by rw [hml]; rfl) (argsL := [(.ref kRUNNING)]) (rest := []) (lenOf pdv1 rfl) rfl (by show 2 * 0 + _ ≤ _; exact Nat.le_of_eq rfl) (hb hby at_146) (fun _ _ => ⟨rfl, e14, (by decide : 0 + 0 ≤ _), (by decide : 0 + 0 ≤ _)⟩)
        dsimp only [Pt.U, Pt.locs, Pt.cells, Pt.slots] at X15 l15 y15 z15 st15 hQ15
        subst l15 y15 z15
        obtain ⟨rfl, N15q, e15⟩ := hQ15
        have N15 := Fr.app N0 N15q
        obtain ⟨fs, hr, hrun, hended, hW, hsame⟩ := X15.leave (v := some (.int (1 : Int32))) (fun h => by rw [Bd.returns] at h; cases h)
        refine ⟨_, _, pre12 _ ?_, hrun, hended, _, _, rfl, ?_, ⟨_, rfl⟩, hW, hsame.mono (by decide) (by decide)⟩
        · show Steps p.tables e below (s₁.setTop (mkF m 41 #[.val (.int p0), .val (.int ((p0 &&& (2147483647 : Int32)) % (9 : Int32))), .unset, .unset, .unset] [(.int (2 : Int32)), (.int ((p0 &&& (2147483647 : Int32)) % (9 : Int32)))])) _
          refine XS.icmpNo X0.here hx rfl (hb hby at_41) rfl (teq hc41_11).2 ?_
          show Steps p.tables e below (s₁.setTop (mkF m 44 #[.val (.int p0), .val (.int ((p0 &&& (2147483647 : Int32)) % (9 : Int32))), .unset, .unset, .unset] [])) _
          refine st13 _ ?_
          show Steps p.tables e below (T13.setTop (mkF m 47 #[.val (.int p0), .val (.int ((p0 &&& (2147483647 : Int32)) % (9 : Int32))), .unset, .unset, .unset] [(.ref kRUNNING)])) _
          refine XS.astoreN X13.here hx rfl (hb hby at_47) rfl rfl (l' := #[.val (.int p0), .val (.int ((p0 &&& (2147483647 : Int32)) % (9 : Int32))), .val (.ref kRUNNING), .unset, .unset]) rfl ?_
          show Steps p.tables e below (T13.setTop (mkF m 48 #[.val (.int p0), .val (.int ((p0 &&& (2147483647 : Int32)) % (9 : Int32))), .val (.ref kRUNNING), .unset, .unset] [])) _
          refine st14 _ ?_
          show Steps p.tables e below (T14.setTop (mkF m 51 #[.val (.int p0), .val (.int ((p0 &&& (2147483647 : Int32)) % (9 : Int32))), .val (.ref kRUNNING), .unset, .unset] [(.ref oIN_PROGRESS)])) _
          refine XS.astoreN X14.here hx rfl (hb hby at_51) rfl rfl (l' := #[.val (.int p0), .val (.int ((p0 &&& (2147483647 : Int32)) % (9 : Int32))), .val (.ref kRUNNING), .val (.ref oIN_PROGRESS), .unset]) rfl ?_
          show Steps p.tables e below (T14.setTop (mkF m 52 #[.val (.int p0), .val (.int ((p0 &&& (2147483647 : Int32)) % (9 : Int32))), .val (.ref kRUNNING), .val (.ref oIN_PROGRESS), .unset] [])) _
          refine XS.goto X14.here hx rfl (pc0 := 52) (pc' := 145) rfl (hb hby at_52) (by decide) (by decide) ?_
          show Steps p.tables e below (T14.setTop (mkF m 145 #[.val (.int p0), .val (.int ((p0 &&& (2147483647 : Int32)) % (9 : Int32))), .val (.ref kRUNNING), .val (.ref oIN_PROGRESS), .unset] [])) _
          refine XS.aloadN X14.here hx rfl (hb hby at_145) rfl rfl ?_
          show Steps p.tables e below (T14.setTop (mkF m 146 #[.val (.int p0), .val (.int ((p0 &&& (2147483647 : Int32)) % (9 : Int32))), .val (.ref kRUNNING), .val (.ref oIN_PROGRESS), .unset] [(.ref kRUNNING)])) _
          refine st15 _ ?_
          show Steps p.tables e below (T15.setTop (mkF m 149 #[.val (.int p0), .val (.int ((p0 &&& (2147483647 : Int32)) % (9 : Int32))), .val (.ref kRUNNING), .val (.ref oIN_PROGRESS), .unset] [(.ref oIN_PROGRESS)])) _
          refine XS.astore X15.here hx rfl (hb hby at_149) rfl rfl (l' := #[.val (.int p0), .val (.int ((p0 &&& (2147483647 : Int32)) % (9 : Int32))), .val (.ref kRUNNING), .val (.ref oIN_PROGRESS), .val (.ref oIN_PROGRESS)]) rfl ?_
          show Steps p.tables e below (T15.setTop (mkF m 151 #[.val (.int p0), .val (.int ((p0 &&& (2147483647 : Int32)) % (9 : Int32))), .val (.ref kRUNNING), .val (.ref oIN_PROGRESS), .val (.ref oIN_PROGRESS)] [])) _
          refine XS.aload X15.here hx rfl (hb hby at_151) rfl rfl ?_
          show Steps p.tables e below (T15.setTop (mkF m 153 #[.val (.int p0), .val (.int ((p0 &&& (2147483647 : Int32)) % (9 : Int32))), .val (.ref kRUNNING), .val (.ref oIN_PROGRESS), .val (.ref oIN_PROGRESS)] [(.ref oIN_PROGRESS)])) _
          refine XS.aloadN X15.here hx rfl (hb hby at_153) rfl rfl ?_
          show Steps p.tables e below (T15.setTop (mkF m 154 #[.val (.int p0), .val (.int ((p0 &&& (2147483647 : Int32)) % (9 : Int32))), .val (.ref kRUNNING), .val (.ref oIN_PROGRESS), .val (.ref oIN_PROGRESS)] [(.ref oIN_PROGRESS), (.ref oIN_PROGRESS)])) _
          refine Jvm.RoadKit.acmp (g := (mkF m 154 #[.val (.int p0), .val (.int ((p0 &&& (2147483647 : Int32)) % (9 : Int32))), .val (.ref kRUNNING), .val (.ref oIN_PROGRESS), .val (.ref oIN_PROGRESS)] [(.ref oIN_PROGRESS), (.ref oIN_PROGRESS)])) X15 hx rfl rfl rfl (pc0 := 154) (pc' := 157) (same := true) rfl (hb hby at_154) rfl (decide_eq_true rfl) (by decide) (by decide) ?_
          show Steps p.tables e below (T15.setTop (mkF m 157 #[.val (.int p0), .val (.int ((p0 &&& (2147483647 : Int32)) % (9 : Int32))), .val (.ref kRUNNING), .val (.ref oIN_PROGRESS), .val (.ref oIN_PROGRESS)] [])) _
          refine XS.iconst X15.here hx rfl (hb hby at_157) ?_
          show Steps p.tables e below (T15.setTop (mkF m 158 #[.val (.int p0), .val (.int ((p0 &&& (2147483647 : Int32)) % (9 : Int32))), .val (.ref kRUNNING), .val (.ref oIN_PROGRESS), .val (.ref oIN_PROGRESS)] [(.int (1 : Int32))])) _
          refine XS.goto X15.here hx rfl (pc0 := 158) (pc' := 162) rfl (hb hby at_158) (by decide) (by decide) ?_
          show Steps p.tables e below (T15.setTop (mkF m 162 #[.val (.int p0), .val (.int ((p0 &&& (2147483647 : Int32)) % (9 : Int32))), .val (.ref kRUNNING), .val (.ref oIN_PROGRESS), .val (.ref oIN_PROGRESS)] [(.int (1 : Int32))])) _
          exact retN X15 hx (t := .boolean) Bd.returns (by simp) (hb hby at_162) hr
        · show Q_rm0 n0 _ T15.heap _
          rw [e15]
          exact ⟨rfl, N15⟩
      · have pre17 : ∀ t, Steps p.tables e below (s₁.setTop (mkF m 57 #[.val (.int p0), .val (.int ((p0 &&& (2147483647 : Int32)) % (9 : Int32))), .unset, .unset, .unset] [(.int (3 : Int32)), (.int ((p0 &&& (2147483647 : Int32)) % (9 : Int32)))])) t → Steps p.tables e below (s₁.setTop (entryFrame m #[(.int p0)] maxLocals)) t := fun t kt => by
          refine pre12 t ?_
          show Steps p.tables e below (s₁.setTop (mkF m 41 #[.val (.int p0), .val (.int ((p0 &&& (2147483647 : Int32)) % (9 : Int32))), .unset, .unset, .unset] [(.int (2 : Int32)), (.int ((p0 &&& (2147483647 : Int32)) % (9 : Int32)))])) _
          refine XS.icmpYes X0.here hx rfl (pc0 := 41) (pc' := 55) rfl (hb hby at_41) rfl (feq hc41_11).2 (by decide) (by decide) ?_
          show Steps p.tables e below (s₁.setTop (mkF m 55 #[.val (.int p0), .val (.int ((p0 &&& (2147483647 : Int32)) % (9 : Int32))), .unset, .unset, .unset] [])) _
          refine XS.iloadN X0.here hx rfl (hb hby at_55) rfl ?_
          show Steps p.tables e below (s₁.setTop (mkF m 56 #[.val (.int p0), .val (.int ((p0 &&& (2147483647 : Int32)) % (9 : Int32))), .unset, .unset, .unset] [(.int ((p0 &&& (2147483647 : Int32)) % (9 : Int32)))])) _
          refine XS.iconst X0.here hx rfl (hb hby at_56) ?_
          exact kt
        by_cases hc57_16 : ((p0 &&& (2147483647 : Int32)) % (9 : Int32)) = (3 : Int32)
        · obtain ⟨T18, X18, e18, st18⟩ := getS2 X0 hx hZ hown (host := "") (Or.inl (Wd hw 28 rfl)) Via.refl e0 (GSCONFLICTING.ext O0.2) (g := (mkF m 60 #[.val (.int p0), .val (.int ((p0 &&& (2147483647 : Int32)) % (9 : Int32))), .unset, .unset, .unset] [])) rfl (hb hby at_60)
          obtain ⟨T19, X19, e19, st19⟩ := getS2 X18 hx hZ hown (host := "") (Or.inl (Wd hw 29 rfl)) Via.refl e18 (HSREPLAYED.ext O0.2) (g := (mkF m 64 #[.val (.int p0), .val (.int ((p0 &&& (2147483647 : Int32)) % (9 : Int32))), .val (.ref kCONFLICTING), .unset, .unset] [])) rfl (hb hby at_64)
          obtain ⟨_, _, ⟨T20, L20, k20, n20⟩, -, X20, ⟨Lc20, hQ20, l20, y20, z20⟩, st20⟩ := Jvm.LawKit.callS X19 hx (y := MN_3) hown (mvT hZ (Wd hw 7 rfl)) (mvT hZ (Wd hw 8 rfl)) (mvT hZ (Wd hw 5 rfl)) (mvT hZ (Wd hw 9 rfl)) (by decide) (backOf (W := 0) (rm1_CONFLICTING l Z a0 hw [] kUNCLAIMED kKEPT kRUNNING kCONFLICTING kRAN kUNANSWERED kTAKEN_OVER kROLLED_BACK kUNKEPT oEXECUTED oREPLAYED oIN_PROGRESS oRELEASED oSTORE_UNAVAILABLE oOUTCOME_UNKNOWN aSM kSM  (h0) n0 O0 GL) hZ (Wd hw 9 rfl) (Wd hw 5 rfl) (by decide) (by decide)) (g := (mkF m 146 #[.val (.int p0), .val (.int ((p0 &&& (2147483647 : Int32)) % (9 : Int32))), .val (.ref kCONFLICTING), .val (.ref oREPLAYED), .unset] [(.ref kCONFLICTING)])) rfl (by rw [hml]; rfl) (argsL := [(.ref kCONFLICTING)]) (rest := []) (lenOf pdv1 rfl) rfl (by show 2 * 0 + _ ≤ _; exact Nat.le_of_eq rfl) (hb hby at_146) (fun _ _ => ⟨rfl, e19, (by decide : 0 + 0 ≤ _), (by decide : 0 + 0 ≤ _)⟩)
          dsimp only [Pt.U, Pt.locs, Pt.cells, Pt.slots] at X20 l20 y20 z20 st20 hQ20
          subst l20 y20 z20
          obtain ⟨rfl, N20q, e20⟩ := hQ20
          have N20 := Fr.app N0 N20q
          obtain ⟨fs, hr, hrun, hended, hW, hsame⟩ := X20.leave (v := some (.int (1 : Int32))) (fun h => by rw [Bd.returns] at h; cases h)
          refine ⟨_, _, pre17 _ ?_, hrun, hended, _, _, rfl, ?_, ⟨_, rfl⟩, hW, hsame.mono (by decide) (by decide)⟩
          · show Steps p.tables e below (s₁.setTop (mkF m 57 #[.val (.int p0), .val (.int ((p0 &&& (2147483647 : Int32)) % (9 : Int32))), .unset, .unset, .unset] [(.int (3 : Int32)), (.int ((p0 &&& (2147483647 : Int32)) % (9 : Int32)))])) _
            refine XS.icmpNo X0.here hx rfl (hb hby at_57) rfl (teq hc57_16).2 ?_
            show Steps p.tables e below (s₁.setTop (mkF m 60 #[.val (.int p0), .val (.int ((p0 &&& (2147483647 : Int32)) % (9 : Int32))), .unset, .unset, .unset] [])) _
            refine st18 _ ?_
            show Steps p.tables e below (T18.setTop (mkF m 63 #[.val (.int p0), .val (.int ((p0 &&& (2147483647 : Int32)) % (9 : Int32))), .unset, .unset, .unset] [(.ref kCONFLICTING)])) _
            refine XS.astoreN X18.here hx rfl (hb hby at_63) rfl rfl (l' := #[.val (.int p0), .val (.int ((p0 &&& (2147483647 : Int32)) % (9 : Int32))), .val (.ref kCONFLICTING), .unset, .unset]) rfl ?_
            show Steps p.tables e below (T18.setTop (mkF m 64 #[.val (.int p0), .val (.int ((p0 &&& (2147483647 : Int32)) % (9 : Int32))), .val (.ref kCONFLICTING), .unset, .unset] [])) _
            refine st19 _ ?_
            show Steps p.tables e below (T19.setTop (mkF m 67 #[.val (.int p0), .val (.int ((p0 &&& (2147483647 : Int32)) % (9 : Int32))), .val (.ref kCONFLICTING), .unset, .unset] [(.ref oREPLAYED)])) _
            refine XS.astoreN X19.here hx rfl (hb hby at_67) rfl rfl (l' := #[.val (.int p0), .val (.int ((p0 &&& (2147483647 : Int32)) % (9 : Int32))), .val (.ref kCONFLICTING), .val (.ref oREPLAYED), .unset]) rfl ?_
            show Steps p.tables e below (T19.setTop (mkF m 68 #[.val (.int p0), .val (.int ((p0 &&& (2147483647 : Int32)) % (9 : Int32))), .val (.ref kCONFLICTING), .val (.ref oREPLAYED), .unset] [])) _
            refine XS.goto X19.here hx rfl (pc0 := 68) (pc' := 145) rfl (hb hby at_68) (by decide) (by decide) ?_
            show Steps p.tables e below (T19.setTop (mkF m 145 #[.val (.int p0), .val (.int ((p0 &&& (2147483647 : Int32)) % (9 : Int32))), .val (.ref kCONFLICTING), .val (.ref oREPLAYED), .unset] [])) _
            refine XS.aloadN X19.here hx rfl (hb hby at_145) rfl rfl ?_
            show Steps p.tables e below (T19.setTop (mkF m 146 #[.val (.int p0), .val (.int ((p0 &&& (2147483647 : Int32)) % (9 : Int32))), .val (.ref kCONFLICTING), .val (.ref oREPLAYED), .unset] [(.ref kCONFLICTING)])) _
            refine st20 _ ?_
            show Steps p.tables e below (T20.setTop (mkF m 149 #[.val (.int p0), .val (.int ((p0 &&& (2147483647 : Int32)) % (9 : Int32))), .val (.ref kCONFLICTING), .val (.ref oREPLAYED), .unset] [(.ref oREPLAYED)])) _
            refine XS.astore X20.here hx rfl (hb hby at_149) rfl rfl (l' := #[.val (.int p0), .val (.int ((p0 &&& (2147483647 : Int32)) % (9 : Int32))), .val (.ref kCONFLICTING), .val (.ref oREPLAYED), .val (.ref oREPLAYED)]) rfl ?_
            show Steps p.tables e below (T20.setTop (mkF m 151 #[.val (.int p0), .val (.int ((p0 &&& (2147483647 : Int32)) % (9 : Int32))), .val (.ref kCONFLICTING), .val (.ref oREPLAYED), .val (.ref oREPLAYED)] [])) _
            refine XS.aload X20.here hx rfl (hb hby at_151) rfl rfl ?_
            show Steps p.tables e below (T20.setTop (mkF m 153 #[.val (.int p0), .val (.int ((p0 &&& (2147483647 : Int32)) % (9 : Int32))), .val (.ref kCONFLICTING), .val (.ref oREPLAYED), .val (.ref oREPLAYED)] [(.ref oREPLAYED)])) _
            refine XS.aloadN X20.here hx rfl (hb hby at_153) rfl rfl ?_
            show Steps p.tables e below (T20.setTop (mkF m 154 #[.val (.int p0), .val (.int ((p0 &&& (2147483647 : Int32)) % (9 : Int32))), .val (.ref kCONFLICTING), .val (.ref oREPLAYED), .val (.ref oREPLAYED)] [(.ref oREPLAYED), (.ref oREPLAYED)])) _
            refine Jvm.RoadKit.acmp (g := (mkF m 154 #[.val (.int p0), .val (.int ((p0 &&& (2147483647 : Int32)) % (9 : Int32))), .val (.ref kCONFLICTING), .val (.ref oREPLAYED), .val (.ref oREPLAYED)] [(.ref oREPLAYED), (.ref oREPLAYED)])) X20 hx rfl rfl rfl (pc0 := 154) (pc' := 157) (same := true) rfl (hb hby at_154) rfl (decide_eq_true rfl) (by decide) (by decide) ?_
            show Steps p.tables e below (T20.setTop (mkF m 157 #[.val (.int p0), .val (.int ((p0 &&& (2147483647 : Int32)) % (9 : Int32))), .val (.ref kCONFLICTING), .val (.ref oREPLAYED), .val (.ref oREPLAYED)] [])) _
            refine XS.iconst X20.here hx rfl (hb hby at_157) ?_
            show Steps p.tables e below (T20.setTop (mkF m 158 #[.val (.int p0), .val (.int ((p0 &&& (2147483647 : Int32)) % (9 : Int32))), .val (.ref kCONFLICTING), .val (.ref oREPLAYED), .val (.ref oREPLAYED)] [(.int (1 : Int32))])) _
            refine XS.goto X20.here hx rfl (pc0 := 158) (pc' := 162) rfl (hb hby at_158) (by decide) (by decide) ?_
            show Steps p.tables e below (T20.setTop (mkF m 162 #[.val (.int p0), .val (.int ((p0 &&& (2147483647 : Int32)) % (9 : Int32))), .val (.ref kCONFLICTING), .val (.ref oREPLAYED), .val (.ref oREPLAYED)] [(.int (1 : Int32))])) _
            exact retN X20 hx (t := .boolean) Bd.returns (by simp) (hb hby at_162) hr
          · show Q_rm0 n0 _ T20.heap _
            rw [e20]
            exact ⟨rfl, N20⟩
        · have pre22 : ∀ t, Steps p.tables e below (s₁.setTop (mkF m 73 #[.val (.int p0), .val (.int ((p0 &&& (2147483647 : Int32)) % (9 : Int32))), .unset, .unset, .unset] [(.int (4 : Int32)), (.int ((p0 &&& (2147483647 : Int32)) % (9 : Int32)))])) t → Steps p.tables e below (s₁.setTop (entryFrame m #[(.int p0)] maxLocals)) t := fun t kt => by
            refine pre17 t ?_
            show Steps p.tables e below (s₁.setTop (mkF m 57 #[.val (.int p0), .val (.int ((p0 &&& (2147483647 : Int32)) % (9 : Int32))), .unset, .unset, .unset] [(.int (3 : Int32)), (.int ((p0 &&& (2147483647 : Int32)) % (9 : Int32)))])) _
            refine XS.icmpYes X0.here hx rfl (pc0 := 57) (pc' := 71) rfl (hb hby at_57) rfl (feq hc57_16).2 (by decide) (by decide) ?_
            show Steps p.tables e below (s₁.setTop (mkF m 71 #[.val (.int p0), .val (.int ((p0 &&& (2147483647 : Int32)) % (9 : Int32))), .unset, .unset, .unset] [])) _
            refine XS.iloadN X0.here hx rfl (hb hby at_71) rfl ?_
            show Steps p.tables e below (s₁.setTop (mkF m 72 #[.val (.int p0), .val (.int ((p0 &&& (2147483647 : Int32)) % (9 : Int32))), .unset, .unset, .unset] [(.int ((p0 &&& (2147483647 : Int32)) % (9 : Int32)))])) _
            refine XS.iconst X0.here hx rfl (hb hby at_72) ?_
            exact kt
          by_cases hc73_21 : ((p0 &&& (2147483647 : Int32)) % (9 : Int32)) = (4 : Int32)
          · obtain ⟨T23, X23, e23, st23⟩ := getS2 X0 hx hZ hown (host := "") (Or.inl (Wd hw 41 rfl)) Via.refl e0 (GSRAN.ext O0.2) (g := (mkF m 76 #[.val (.int p0), .val (.int ((p0 &&& (2147483647 : Int32)) % (9 : Int32))), .unset, .unset, .unset] [])) rfl (hb hby at_76)
            obtain ⟨T24, X24, e24, st24⟩ := getS2 X23 hx hZ hown (host := "") (Or.inl (Wd hw 43 rfl)) Via.refl e23 (HSEXECUTED.ext O0.2) (g := (mkF m 80 #[.val (.int p0), .val (.int ((p0 &&& (2147483647 : Int32)) % (9 : Int32))), .val (.ref kRAN), .unset, .unset] [])) rfl (hb hby at_80)
            obtain ⟨_, _, ⟨T25, L25, k25, n25⟩, -, X25, ⟨Lc25, hQ25, l25, y25, z25⟩, st25⟩ := Jvm.LawKit.callS X24 hx (y := MN_3) hown (mvT hZ (Wd hw 7 rfl)) (mvT hZ (Wd hw 8 rfl)) (mvT hZ (Wd hw 5 rfl)) (mvT hZ (Wd hw 9 rfl)) (by decide) (backOf (W := 0) (rm1_RAN l Z a0 hw [] kUNCLAIMED kKEPT kRUNNING kCONFLICTING kRAN kUNANSWERED kTAKEN_OVER kROLLED_BACK kUNKEPT oEXECUTED oREPLAYED oIN_PROGRESS oRELEASED oSTORE_UNAVAILABLE oOUTCOME_UNKNOWN aSM kSM  (h0) n0 O0 GL) hZ (Wd hw 9 rfl) (Wd hw 5 rfl) (by decide) (by decide)) (g := (mkF m 146 #[.val (.int p0), .val (.int ((p0 &&& (2147483647 : Int32)) % (9 : Int32))), .val (.ref kRAN), .val (.ref oEXECUTED), .unset] [(.ref kRAN)])) rfl (by rw [hml]; rfl) (argsL := [(.ref kRAN)]) (rest := []) (lenOf pdv1 rfl) rfl (by show 2 * 0 + _ ≤ _; exact Nat.le_of_eq rfl) (hb hby at_146) (fun _ _ => ⟨rfl, e24, (by decide : 0 + 0 ≤ _), (by decide : 0 + 0 ≤ _)⟩)
            dsimp only [Pt.U, Pt.locs, Pt.cells, Pt.slots] at X25 l25 y25 z25 st25 hQ25
            subst l25 y25 z25
            obtain ⟨rfl, N25q, e25⟩ := hQ25
            have N25 := Fr.app N0 N25q
            obtain ⟨fs, hr, hrun, hended, hW, hsame⟩ := X25.leave (v := some (.int (1 : Int32))) (fun h => by rw [Bd.returns] at h; cases h)
            refine ⟨_, _, pre22 _ ?_, hrun, hended, _, _, rfl, ?_, ⟨_, rfl⟩, hW, hsame.mono (by decide) (by decide)⟩
            · show Steps p.tables e below (s₁.setTop (mkF m 73 #[.val (.int p0), .val (.int ((p0 &&& (2147483647 : Int32)) % (9 : Int32))), .unset, .unset, .unset] [(.int (4 : Int32)), (.int ((p0 &&& (2147483647 : Int32)) % (9 : Int32)))])) _
              refine XS.icmpNo X0.here hx rfl (hb hby at_73) rfl (teq hc73_21).2 ?_
              show Steps p.tables e below (s₁.setTop (mkF m 76 #[.val (.int p0), .val (.int ((p0 &&& (2147483647 : Int32)) % (9 : Int32))), .unset, .unset, .unset] [])) _
              refine st23 _ ?_
              show Steps p.tables e below (T23.setTop (mkF m 79 #[.val (.int p0), .val (.int ((p0 &&& (2147483647 : Int32)) % (9 : Int32))), .unset, .unset, .unset] [(.ref kRAN)])) _
              refine XS.astoreN X23.here hx rfl (hb hby at_79) rfl rfl (l' := #[.val (.int p0), .val (.int ((p0 &&& (2147483647 : Int32)) % (9 : Int32))), .val (.ref kRAN), .unset, .unset]) rfl ?_
              show Steps p.tables e below (T23.setTop (mkF m 80 #[.val (.int p0), .val (.int ((p0 &&& (2147483647 : Int32)) % (9 : Int32))), .val (.ref kRAN), .unset, .unset] [])) _
              refine st24 _ ?_
              show Steps p.tables e below (T24.setTop (mkF m 83 #[.val (.int p0), .val (.int ((p0 &&& (2147483647 : Int32)) % (9 : Int32))), .val (.ref kRAN), .unset, .unset] [(.ref oEXECUTED)])) _
              refine XS.astoreN X24.here hx rfl (hb hby at_83) rfl rfl (l' := #[.val (.int p0), .val (.int ((p0 &&& (2147483647 : Int32)) % (9 : Int32))), .val (.ref kRAN), .val (.ref oEXECUTED), .unset]) rfl ?_
              show Steps p.tables e below (T24.setTop (mkF m 84 #[.val (.int p0), .val (.int ((p0 &&& (2147483647 : Int32)) % (9 : Int32))), .val (.ref kRAN), .val (.ref oEXECUTED), .unset] [])) _
              refine XS.goto X24.here hx rfl (pc0 := 84) (pc' := 145) rfl (hb hby at_84) (by decide) (by decide) ?_
              show Steps p.tables e below (T24.setTop (mkF m 145 #[.val (.int p0), .val (.int ((p0 &&& (2147483647 : Int32)) % (9 : Int32))), .val (.ref kRAN), .val (.ref oEXECUTED), .unset] [])) _
              refine XS.aloadN X24.here hx rfl (hb hby at_145) rfl rfl ?_
              show Steps p.tables e below (T24.setTop (mkF m 146 #[.val (.int p0), .val (.int ((p0 &&& (2147483647 : Int32)) % (9 : Int32))), .val (.ref kRAN), .val (.ref oEXECUTED), .unset] [(.ref kRAN)])) _
              refine st25 _ ?_
              show Steps p.tables e below (T25.setTop (mkF m 149 #[.val (.int p0), .val (.int ((p0 &&& (2147483647 : Int32)) % (9 : Int32))), .val (.ref kRAN), .val (.ref oEXECUTED), .unset] [(.ref oEXECUTED)])) _
              refine XS.astore X25.here hx rfl (hb hby at_149) rfl rfl (l' := #[.val (.int p0), .val (.int ((p0 &&& (2147483647 : Int32)) % (9 : Int32))), .val (.ref kRAN), .val (.ref oEXECUTED), .val (.ref oEXECUTED)]) rfl ?_
              show Steps p.tables e below (T25.setTop (mkF m 151 #[.val (.int p0), .val (.int ((p0 &&& (2147483647 : Int32)) % (9 : Int32))), .val (.ref kRAN), .val (.ref oEXECUTED), .val (.ref oEXECUTED)] [])) _
              refine XS.aload X25.here hx rfl (hb hby at_151) rfl rfl ?_
              show Steps p.tables e below (T25.setTop (mkF m 153 #[.val (.int p0), .val (.int ((p0 &&& (2147483647 : Int32)) % (9 : Int32))), .val (.ref kRAN), .val (.ref oEXECUTED), .val (.ref oEXECUTED)] [(.ref oEXECUTED)])) _
              refine XS.aloadN X25.here hx rfl (hb hby at_153) rfl rfl ?_
              show Steps p.tables e below (T25.setTop (mkF m 154 #[.val (.int p0), .val (.int ((p0 &&& (2147483647 : Int32)) % (9 : Int32))), .val (.ref kRAN), .val (.ref oEXECUTED), .val (.ref oEXECUTED)] [(.ref oEXECUTED), (.ref oEXECUTED)])) _
              refine Jvm.RoadKit.acmp (g := (mkF m 154 #[.val (.int p0), .val (.int ((p0 &&& (2147483647 : Int32)) % (9 : Int32))), .val (.ref kRAN), .val (.ref oEXECUTED), .val (.ref oEXECUTED)] [(.ref oEXECUTED), (.ref oEXECUTED)])) X25 hx rfl rfl rfl (pc0 := 154) (pc' := 157) (same := true) rfl (hb hby at_154) rfl (decide_eq_true rfl) (by decide) (by decide) ?_
              show Steps p.tables e below (T25.setTop (mkF m 157 #[.val (.int p0), .val (.int ((p0 &&& (2147483647 : Int32)) % (9 : Int32))), .val (.ref kRAN), .val (.ref oEXECUTED), .val (.ref oEXECUTED)] [])) _
              refine XS.iconst X25.here hx rfl (hb hby at_157) ?_
              show Steps p.tables e below (T25.setTop (mkF m 158 #[.val (.int p0), .val (.int ((p0 &&& (2147483647 : Int32)) % (9 : Int32))), .val (.ref kRAN), .val (.ref oEXECUTED), .val (.ref oEXECUTED)] [(.int (1 : Int32))])) _
              refine XS.goto X25.here hx rfl (pc0 := 158) (pc' := 162) rfl (hb hby at_158) (by decide) (by decide) ?_
              show Steps p.tables e below (T25.setTop (mkF m 162 #[.val (.int p0), .val (.int ((p0 &&& (2147483647 : Int32)) % (9 : Int32))), .val (.ref kRAN), .val (.ref oEXECUTED), .val (.ref oEXECUTED)] [(.int (1 : Int32))])) _
              exact retN X25 hx (t := .boolean) Bd.returns (by simp) (hb hby at_162) hr
            · show Q_rm0 n0 _ T25.heap _
              rw [e25]
              exact ⟨rfl, N25⟩
          · have pre27 : ∀ t, Steps p.tables e below (s₁.setTop (mkF m 89 #[.val (.int p0), .val (.int ((p0 &&& (2147483647 : Int32)) % (9 : Int32))), .unset, .unset, .unset] [(.int (5 : Int32)), (.int ((p0 &&& (2147483647 : Int32)) % (9 : Int32)))])) t → Steps p.tables e below (s₁.setTop (entryFrame m #[(.int p0)] maxLocals)) t := fun t kt => by
              refine pre22 t ?_
              show Steps p.tables e below (s₁.setTop (mkF m 73 #[.val (.int p0), .val (.int ((p0 &&& (2147483647 : Int32)) % (9 : Int32))), .unset, .unset, .unset] [(.int (4 : Int32)), (.int ((p0 &&& (2147483647 : Int32)) % (9 : Int32)))])) _
              refine XS.icmpYes X0.here hx rfl (pc0 := 73) (pc' := 87) rfl (hb hby at_73) rfl (feq hc73_21).2 (by decide) (by decide) ?_
              show Steps p.tables e below (s₁.setTop (mkF m 87 #[.val (.int p0), .val (.int ((p0 &&& (2147483647 : Int32)) % (9 : Int32))), .unset, .unset, .unset] [])) _
              refine XS.iloadN X0.here hx rfl (hb hby at_87) rfl ?_
              show Steps p.tables e below (s₁.setTop (mkF m 88 #[.val (.int p0), .val (.int ((p0 &&& (2147483647 : Int32)) % (9 : Int32))), .unset, .unset, .unset] [(.int ((p0 &&& (2147483647 : Int32)) % (9 : Int32)))])) _
              refine XS.iconst X0.here hx rfl (hb hby at_88) ?_
              exact kt
            by_cases hc89_26 : ((p0 &&& (2147483647 : Int32)) % (9 : Int32)) = (5 : Int32)
            · obtain ⟨T28, X28, e28, st28⟩ := getS2 X0 hx hZ hown (host := "") (Or.inl (Wd hw 53 rfl)) Via.refl e0 (GSUNANSWERED.ext O0.2) (g := (mkF m 92 #[.val (.int p0), .val (.int ((p0 &&& (2147483647 : Int32)) % (9 : Int32))), .unset, .unset, .unset] [])) rfl (hb hby at_92)
              obtain ⟨T29, X29, e29, st29⟩ := getS2 X28 hx hZ hown (host := "") (Or.inl (Wd hw 55 rfl)) Via.refl e28 (HSRELEASED.ext O0.2) (g := (mkF m 96 #[.val (.int p0), .val (.int ((p0 &&& (2147483647 : Int32)) % (9 : Int32))), .val (.ref kUNANSWERED), .unset, .unset] [])) rfl (hb hby at_96)
              obtain ⟨_, _, ⟨T30, L30, k30, n30⟩, -, X30, ⟨Lc30, hQ30, l30, y30, z30⟩, st30⟩ := Jvm.LawKit.callS X29 hx (y := MN_3) hown (mvT hZ (Wd hw 7 rfl)) (mvT hZ (Wd hw 8 rfl)) (mvT hZ (Wd hw 5 rfl)) (mvT hZ (Wd hw 9 rfl)) (by decide) (backOf (W := 0) (rm1_UNANSWERED l Z a0 hw [] kUNCLAIMED kKEPT kRUNNING kCONFLICTING kRAN kUNANSWERED kTAKEN_OVER kROLLED_BACK kUNKEPT oEXECUTED oREPLAYED oIN_PROGRESS oRELEASED oSTORE_UNAVAILABLE oOUTCOME_UNKNOWN aSM kSM  (h0) n0 O0 GL) hZ (Wd hw 9 rfl) (Wd hw 5 rfl) (by decide) (by decide)) (g := (mkF m 146 #[.val (.int p0), .val (.int ((p0 &&& (2147483647 : Int32)) % (9 : Int32))), .val (.ref kUNANSWERED), .val (.ref oRELEASED), .unset] [(.ref kUNANSWERED)])) rfl (by rw [hml]; rfl) (argsL := [(.ref kUNANSWERED)]) (rest := []) (lenOf pdv1 rfl) rfl (by show 2 * 0 + _ ≤ _; exact Nat.le_of_eq rfl) (hb hby at_146) (fun _ _ => ⟨rfl, e29, (by decide : 0 + 0 ≤ _), (by decide : 0 + 0 ≤ _)⟩)
              dsimp only [Pt.U, Pt.locs, Pt.cells, Pt.slots] at X30 l30 y30 z30 st30 hQ30
              subst l30 y30 z30
              obtain ⟨rfl, N30q, e30⟩ := hQ30
              have N30 := Fr.app N0 N30q
              obtain ⟨fs, hr, hrun, hended, hW, hsame⟩ := X30.leave (v := some (.int (1 : Int32))) (fun h => by rw [Bd.returns] at h; cases h)
              refine ⟨_, _, pre27 _ ?_, hrun, hended, _, _, rfl, ?_, ⟨_, rfl⟩, hW, hsame.mono (by decide) (by decide)⟩
              · show Steps p.tables e below (s₁.setTop (mkF m 89 #[.val (.int p0), .val (.int ((p0 &&& (2147483647 : Int32)) % (9 : Int32))), .unset, .unset, .unset] [(.int (5 : Int32)), (.int ((p0 &&& (2147483647 : Int32)) % (9 : Int32)))])) _
                refine XS.icmpNo X0.here hx rfl (hb hby at_89) rfl (teq hc89_26).2 ?_
                show Steps p.tables e below (s₁.setTop (mkF m 92 #[.val (.int p0), .val (.int ((p0 &&& (2147483647 : Int32)) % (9 : Int32))), .unset, .unset, .unset] [])) _
                refine st28 _ ?_
                show Steps p.tables e below (T28.setTop (mkF m 95 #[.val (.int p0), .val (.int ((p0 &&& (2147483647 : Int32)) % (9 : Int32))), .unset, .unset, .unset] [(.ref kUNANSWERED)])) _
                refine XS.astoreN X28.here hx rfl (hb hby at_95) rfl rfl (l' := #[.val (.int p0), .val (.int ((p0 &&& (2147483647 : Int32)) % (9 : Int32))), .val (.ref kUNANSWERED), .unset, .unset]) rfl ?_
                show Steps p.tables e below (T28.setTop (mkF m 96 #[.val (.int p0), .val (.int ((p0 &&& (2147483647 : Int32)) % (9 : Int32))), .val (.ref kUNANSWERED), .unset, .unset] [])) _
                refine st29 _ ?_
                show Steps p.tables e below (T29.setTop (mkF m 99 #[.val (.int p0), .val (.int ((p0 &&& (2147483647 : Int32)) % (9 : Int32))), .val (.ref kUNANSWERED), .unset, .unset] [(.ref oRELEASED)])) _
                refine XS.astoreN X29.here hx rfl (hb hby at_99) rfl rfl (l' := #[.val (.int p0), .val (.int ((p0 &&& (2147483647 : Int32)) % (9 : Int32))), .val (.ref kUNANSWERED), .val (.ref oRELEASED), .unset]) rfl ?_
                show Steps p.tables e below (T29.setTop (mkF m 100 #[.val (.int p0), .val (.int ((p0 &&& (2147483647 : Int32)) % (9 : Int32))), .val (.ref kUNANSWERED), .val (.ref oRELEASED), .unset] [])) _
                refine XS.goto X29.here hx rfl (pc0 := 100) (pc' := 145) rfl (hb hby at_100) (by decide) (by decide) ?_
                show Steps p.tables e below (T29.setTop (mkF m 145 #[.val (.int p0), .val (.int ((p0 &&& (2147483647 : Int32)) % (9 : Int32))), .val (.ref kUNANSWERED), .val (.ref oRELEASED), .unset] [])) _
                refine XS.aloadN X29.here hx rfl (hb hby at_145) rfl rfl ?_
                show Steps p.tables e below (T29.setTop (mkF m 146 #[.val (.int p0), .val (.int ((p0 &&& (2147483647 : Int32)) % (9 : Int32))), .val (.ref kUNANSWERED), .val (.ref oRELEASED), .unset] [(.ref kUNANSWERED)])) _
                refine st30 _ ?_
                show Steps p.tables e below (T30.setTop (mkF m 149 #[.val (.int p0), .val (.int ((p0 &&& (2147483647 : Int32)) % (9 : Int32))), .val (.ref kUNANSWERED), .val (.ref oRELEASED), .unset] [(.ref oRELEASED)])) _
                refine XS.astore X30.here hx rfl (hb hby at_149) rfl rfl (l' := #[.val (.int p0), .val (.int ((p0 &&& (2147483647 : Int32)) % (9 : Int32))), .val (.ref kUNANSWERED), .val (.ref oRELEASED), .val (.ref oRELEASED)]) rfl ?_
                show Steps p.tables e below (T30.setTop (mkF m 151 #[.val (.int p0), .val (.int ((p0 &&& (2147483647 : Int32)) % (9 : Int32))), .val (.ref kUNANSWERED), .val (.ref oRELEASED), .val (.ref oRELEASED)] [])) _
                refine XS.aload X30.here hx rfl (hb hby at_151) rfl rfl ?_
                show Steps p.tables e below (T30.setTop (mkF m 153 #[.val (.int p0), .val (.int ((p0 &&& (2147483647 : Int32)) % (9 : Int32))), .val (.ref kUNANSWERED), .val (.ref oRELEASED), .val (.ref oRELEASED)] [(.ref oRELEASED)])) _
                refine XS.aloadN X30.here hx rfl (hb hby at_153) rfl rfl ?_
                show Steps p.tables e below (T30.setTop (mkF m 154 #[.val (.int p0), .val (.int ((p0 &&& (2147483647 : Int32)) % (9 : Int32))), .val (.ref kUNANSWERED), .val (.ref oRELEASED), .val (.ref oRELEASED)] [(.ref oRELEASED), (.ref oRELEASED)])) _
                refine Jvm.RoadKit.acmp (g := (mkF m 154 #[.val (.int p0), .val (.int ((p0 &&& (2147483647 : Int32)) % (9 : Int32))), .val (.ref kUNANSWERED), .val (.ref oRELEASED), .val (.ref oRELEASED)] [(.ref oRELEASED), (.ref oRELEASED)])) X30 hx rfl rfl rfl (pc0 := 154) (pc' := 157) (same := true) rfl (hb hby at_154) rfl (decide_eq_true rfl) (by decide) (by decide) ?_
                show Steps p.tables e below (T30.setTop (mkF m 157 #[.val (.int p0), .val (.int ((p0 &&& (2147483647 : Int32)) % (9 : Int32))), .val (.ref kUNANSWERED), .val (.ref oRELEASED), .val (.ref oRELEASED)] [])) _
                refine XS.iconst X30.here hx rfl (hb hby at_157) ?_
                show Steps p.tables e below (T30.setTop (mkF m 158 #[.val (.int p0), .val (.int ((p0 &&& (2147483647 : Int32)) % (9 : Int32))), .val (.ref kUNANSWERED), .val (.ref oRELEASED), .val (.ref oRELEASED)] [(.int (1 : Int32))])) _
                refine XS.goto X30.here hx rfl (pc0 := 158) (pc' := 162) rfl (hb hby at_158) (by decide) (by decide) ?_
                show Steps p.tables e below (T30.setTop (mkF m 162 #[.val (.int p0), .val (.int ((p0 &&& (2147483647 : Int32)) % (9 : Int32))), .val (.ref kUNANSWERED), .val (.ref oRELEASED), .val (.ref oRELEASED)] [(.int (1 : Int32))])) _
                exact retN X30 hx (t := .boolean) Bd.returns (by simp) (hb hby at_162) hr
              · show Q_rm0 n0 _ T30.heap _
                rw [e30]
                exact ⟨rfl, N30⟩
            · have pre32 : ∀ t, Steps p.tables e below (s₁.setTop (mkF m 106 #[.val (.int p0), .val (.int ((p0 &&& (2147483647 : Int32)) % (9 : Int32))), .unset, .unset, .unset] [(.int (6 : Int32)), (.int ((p0 &&& (2147483647 : Int32)) % (9 : Int32)))])) t → Steps p.tables e below (s₁.setTop (entryFrame m #[(.int p0)] maxLocals)) t := fun t kt => by
                refine pre27 t ?_
                show Steps p.tables e below (s₁.setTop (mkF m 89 #[.val (.int p0), .val (.int ((p0 &&& (2147483647 : Int32)) % (9 : Int32))), .unset, .unset, .unset] [(.int (5 : Int32)), (.int ((p0 &&& (2147483647 : Int32)) % (9 : Int32)))])) _
                refine XS.icmpYes X0.here hx rfl (pc0 := 89) (pc' := 103) rfl (hb hby at_89) rfl (feq hc89_26).2 (by decide) (by decide) ?_
                show Steps p.tables e below (s₁.setTop (mkF m 103 #[.val (.int p0), .val (.int ((p0 &&& (2147483647 : Int32)) % (9 : Int32))), .unset, .unset, .unset] [])) _
                refine XS.iloadN X0.here hx rfl (hb hby at_103) rfl ?_
                show Steps p.tables e below (s₁.setTop (mkF m 104 #[.val (.int p0), .val (.int ((p0 &&& (2147483647 : Int32)) % (9 : Int32))), .unset, .unset, .unset] [(.int ((p0 &&& (2147483647 : Int32)) % (9 : Int32)))])) _
                refine XS.bipush X0.here hx rfl (hb hby at_104) ?_
                exact kt
              by_cases hc106_31 : ((p0 &&& (2147483647 : Int32)) % (9 : Int32)) = (6 : Int32)
              · obtain ⟨T33, X33, e33, st33⟩ := getS2 X0 hx hZ hown (host := "") (Or.inl (Wd hw 51 rfl)) Via.refl e0 (GSTAKEN_OVER.ext O0.2) (g := (mkF m 109 #[.val (.int p0), .val (.int ((p0 &&& (2147483647 : Int32)) % (9 : Int32))), .unset, .unset, .unset] [])) rfl (hb hby at_109)
                obtain ⟨T34, X34, e34, st34⟩ := getS2 X33 hx hZ hown (host := "") (Or.inl (Wd hw 34 rfl)) Via.refl e33 (HSIN_PROGRESS.ext O0.2) (g := (mkF m 113 #[.val (.int p0), .val (.int ((p0 &&& (2147483647 : Int32)) % (9 : Int32))), .val (.ref kTAKEN_OVER), .unset, .unset] [])) rfl (hb hby at_113)
                obtain ⟨_, _, ⟨T35, L35, k35, n35⟩, -, X35, ⟨Lc35, hQ35, l35, y35, z35⟩, st35⟩ := Jvm.LawKit.callS X34 hx (y := MN_3) hown (mvT hZ (Wd hw 7 rfl)) (mvT hZ (Wd hw 8 rfl)) (mvT hZ (Wd hw 5 rfl)) (mvT hZ (Wd hw 9 rfl)) (by decide) (backOf (W := 0) (rm1_TAKEN_OVER l Z a0 hw [] kUNCLAIMED kKEPT kRUNNING kCONFLICTING kRAN kUNANSWERED kTAKEN_OVER kROLLED_BACK kUNKEPT oEXECUTED oREPLAYED oIN_PROGRESS oRELEASED oSTORE_UNAVAILABLE oOUTCOME_UNKNOWN aSM kSM  (h0) n0 O0 GL) hZ (Wd hw 9 rfl) (Wd hw 5 rfl) (by decide) (by decide)) (g := (mkF m 146 #[.val (.int p0), .val (.int ((p0 &&& (2147483647 : Int32)) % (9 : Int32))), .val (.ref kTAKEN_OVER), .val (.ref oIN_PROGRESS), .unset] [(.ref kTAKEN_OVER)])) rfl (by rw [hml]; rfl) (argsL := [(.ref kTAKEN_OVER)]) (rest := []) (lenOf pdv1 rfl) rfl (by show 2 * 0 + _ ≤ _; exact Nat.le_of_eq rfl) (hb hby at_146) (fun _ _ => ⟨rfl, e34, (by decide : 0 + 0 ≤ _), (by decide : 0 + 0 ≤ _)⟩)
                dsimp only [Pt.U, Pt.locs, Pt.cells, Pt.slots] at X35 l35 y35 z35 st35 hQ35
                subst l35 y35 z35
                obtain ⟨rfl, N35q, e35⟩ := hQ35
                have N35 := Fr.app N0 N35q
                obtain ⟨fs, hr, hrun, hended, hW, hsame⟩ := X35.leave (v := some (.int (1 : Int32))) (fun h => by rw [Bd.returns] at h; cases h)
                refine ⟨_, _, pre32 _ ?_, hrun, hended, _, _, rfl, ?_, ⟨_, rfl⟩, hW, hsame.mono (by decide) (by decide)⟩
                · show Steps p.tables e below (s₁.setTop (mkF m 106 #[.val (.int p0), .val (.int ((p0 &&& (2147483647 : Int32)) % (9 : Int32))), .unset, .unset, .unset] [(.int (6 : Int32)), (.int ((p0 &&& (2147483647 : Int32)) % (9 : Int32)))])) _
                  refine XS.icmpNo X0.here hx rfl (hb hby at_106) rfl (teq hc106_31).2 ?_
                  show Steps p.tables e below (s₁.setTop (mkF m 109 #[.val (.int p0), .val (.int ((p0 &&& (2147483647 : Int32)) % (9 : Int32))), .unset, .unset, .unset] [])) _
                  refine st33 _ ?_
                  show Steps p.tables e below (T33.setTop (mkF m 112 #[.val (.int p0), .val (.int ((p0 &&& (2147483647 : Int32)) % (9 : Int32))), .unset, .unset, .unset] [(.ref kTAKEN_OVER)])) _
                  refine XS.astoreN X33.here hx rfl (hb hby at_112) rfl rfl (l' := #[.val (.int p0), .val (.int ((p0 &&& (2147483647 : Int32)) % (9 : Int32))), .val (.ref kTAKEN_OVER), .unset, .unset]) rfl ?_
                  show Steps p.tables e below (T33.setTop (mkF m 113 #[.val (.int p0), .val (.int ((p0 &&& (2147483647 : Int32)) % (9 : Int32))), .val (.ref kTAKEN_OVER), .unset, .unset] [])) _
                  refine st34 _ ?_
                  show Steps p.tables e below (T34.setTop (mkF m 116 #[.val (.int p0), .val (.int ((p0 &&& (2147483647 : Int32)) % (9 : Int32))), .val (.ref kTAKEN_OVER), .unset, .unset] [(.ref oIN_PROGRESS)])) _
                  refine XS.astoreN X34.here hx rfl (hb hby at_116) rfl rfl (l' := #[.val (.int p0), .val (.int ((p0 &&& (2147483647 : Int32)) % (9 : Int32))), .val (.ref kTAKEN_OVER), .val (.ref oIN_PROGRESS), .unset]) rfl ?_
                  show Steps p.tables e below (T34.setTop (mkF m 117 #[.val (.int p0), .val (.int ((p0 &&& (2147483647 : Int32)) % (9 : Int32))), .val (.ref kTAKEN_OVER), .val (.ref oIN_PROGRESS), .unset] [])) _
                  refine XS.goto X34.here hx rfl (pc0 := 117) (pc' := 145) rfl (hb hby at_117) (by decide) (by decide) ?_
                  show Steps p.tables e below (T34.setTop (mkF m 145 #[.val (.int p0), .val (.int ((p0 &&& (2147483647 : Int32)) % (9 : Int32))), .val (.ref kTAKEN_OVER), .val (.ref oIN_PROGRESS), .unset] [])) _
                  refine XS.aloadN X34.here hx rfl (hb hby at_145) rfl rfl ?_
                  show Steps p.tables e below (T34.setTop (mkF m 146 #[.val (.int p0), .val (.int ((p0 &&& (2147483647 : Int32)) % (9 : Int32))), .val (.ref kTAKEN_OVER), .val (.ref oIN_PROGRESS), .unset] [(.ref kTAKEN_OVER)])) _
                  refine st35 _ ?_
                  show Steps p.tables e below (T35.setTop (mkF m 149 #[.val (.int p0), .val (.int ((p0 &&& (2147483647 : Int32)) % (9 : Int32))), .val (.ref kTAKEN_OVER), .val (.ref oIN_PROGRESS), .unset] [(.ref oIN_PROGRESS)])) _
                  refine XS.astore X35.here hx rfl (hb hby at_149) rfl rfl (l' := #[.val (.int p0), .val (.int ((p0 &&& (2147483647 : Int32)) % (9 : Int32))), .val (.ref kTAKEN_OVER), .val (.ref oIN_PROGRESS), .val (.ref oIN_PROGRESS)]) rfl ?_
                  show Steps p.tables e below (T35.setTop (mkF m 151 #[.val (.int p0), .val (.int ((p0 &&& (2147483647 : Int32)) % (9 : Int32))), .val (.ref kTAKEN_OVER), .val (.ref oIN_PROGRESS), .val (.ref oIN_PROGRESS)] [])) _
                  refine XS.aload X35.here hx rfl (hb hby at_151) rfl rfl ?_
                  show Steps p.tables e below (T35.setTop (mkF m 153 #[.val (.int p0), .val (.int ((p0 &&& (2147483647 : Int32)) % (9 : Int32))), .val (.ref kTAKEN_OVER), .val (.ref oIN_PROGRESS), .val (.ref oIN_PROGRESS)] [(.ref oIN_PROGRESS)])) _
                  refine XS.aloadN X35.here hx rfl (hb hby at_153) rfl rfl ?_
                  show Steps p.tables e below (T35.setTop (mkF m 154 #[.val (.int p0), .val (.int ((p0 &&& (2147483647 : Int32)) % (9 : Int32))), .val (.ref kTAKEN_OVER), .val (.ref oIN_PROGRESS), .val (.ref oIN_PROGRESS)] [(.ref oIN_PROGRESS), (.ref oIN_PROGRESS)])) _
                  refine Jvm.RoadKit.acmp (g := (mkF m 154 #[.val (.int p0), .val (.int ((p0 &&& (2147483647 : Int32)) % (9 : Int32))), .val (.ref kTAKEN_OVER), .val (.ref oIN_PROGRESS), .val (.ref oIN_PROGRESS)] [(.ref oIN_PROGRESS), (.ref oIN_PROGRESS)])) X35 hx rfl rfl rfl (pc0 := 154) (pc' := 157) (same := true) rfl (hb hby at_154) rfl (decide_eq_true rfl) (by decide) (by decide) ?_
                  show Steps p.tables e below (T35.setTop (mkF m 157 #[.val (.int p0), .val (.int ((p0 &&& (2147483647 : Int32)) % (9 : Int32))), .val (.ref kTAKEN_OVER), .val (.ref oIN_PROGRESS), .val (.ref oIN_PROGRESS)] [])) _
                  refine XS.iconst X35.here hx rfl (hb hby at_157) ?_
                  show Steps p.tables e below (T35.setTop (mkF m 158 #[.val (.int p0), .val (.int ((p0 &&& (2147483647 : Int32)) % (9 : Int32))), .val (.ref kTAKEN_OVER), .val (.ref oIN_PROGRESS), .val (.ref oIN_PROGRESS)] [(.int (1 : Int32))])) _
                  refine XS.goto X35.here hx rfl (pc0 := 158) (pc' := 162) rfl (hb hby at_158) (by decide) (by decide) ?_
                  show Steps p.tables e below (T35.setTop (mkF m 162 #[.val (.int p0), .val (.int ((p0 &&& (2147483647 : Int32)) % (9 : Int32))), .val (.ref kTAKEN_OVER), .val (.ref oIN_PROGRESS), .val (.ref oIN_PROGRESS)] [(.int (1 : Int32))])) _
                  exact retN X35 hx (t := .boolean) Bd.returns (by simp) (hb hby at_162) hr
                · show Q_rm0 n0 _ T35.heap _
                  rw [e35]
                  exact ⟨rfl, N35⟩
              · have pre37 : ∀ t, Steps p.tables e below (s₁.setTop (mkF m 123 #[.val (.int p0), .val (.int ((p0 &&& (2147483647 : Int32)) % (9 : Int32))), .unset, .unset, .unset] [(.int (7 : Int32)), (.int ((p0 &&& (2147483647 : Int32)) % (9 : Int32)))])) t → Steps p.tables e below (s₁.setTop (entryFrame m #[(.int p0)] maxLocals)) t := fun t kt => by
                  refine pre32 t ?_
                  show Steps p.tables e below (s₁.setTop (mkF m 106 #[.val (.int p0), .val (.int ((p0 &&& (2147483647 : Int32)) % (9 : Int32))), .unset, .unset, .unset] [(.int (6 : Int32)), (.int ((p0 &&& (2147483647 : Int32)) % (9 : Int32)))])) _
                  refine XS.icmpYes X0.here hx rfl (pc0 := 106) (pc' := 120) rfl (hb hby at_106) rfl (feq hc106_31).2 (by decide) (by decide) ?_
                  show Steps p.tables e below (s₁.setTop (mkF m 120 #[.val (.int p0), .val (.int ((p0 &&& (2147483647 : Int32)) % (9 : Int32))), .unset, .unset, .unset] [])) _
                  refine XS.iloadN X0.here hx rfl (hb hby at_120) rfl ?_
                  show Steps p.tables e below (s₁.setTop (mkF m 121 #[.val (.int p0), .val (.int ((p0 &&& (2147483647 : Int32)) % (9 : Int32))), .unset, .unset, .unset] [(.int ((p0 &&& (2147483647 : Int32)) % (9 : Int32)))])) _
                  refine XS.bipush X0.here hx rfl (hb hby at_121) ?_
                  exact kt
                by_cases hc123_36 : ((p0 &&& (2147483647 : Int32)) % (9 : Int32)) = (7 : Int32)
                · obtain ⟨T38, X38, e38, st38⟩ := getS2 X0 hx hZ hown (host := "") (Or.inl (Wd hw 39 rfl)) Via.refl e0 (GSROLLED_BACK.ext O0.2) (g := (mkF m 126 #[.val (.int p0), .val (.int ((p0 &&& (2147483647 : Int32)) % (9 : Int32))), .unset, .unset, .unset] [])) rfl (hb hby at_126)
                  obtain ⟨T39, X39, e39, st39⟩ := getS2 X38 hx hZ hown (host := "") (Or.inl (Wd hw 4 rfl)) Via.refl e38 (HSSTORE_UNAVAILABLE.ext O0.2) (g := (mkF m 130 #[.val (.int p0), .val (.int ((p0 &&& (2147483647 : Int32)) % (9 : Int32))), .val (.ref kROLLED_BACK), .unset, .unset] [])) rfl (hb hby at_130)
                  obtain ⟨_, _, ⟨T40, L40, k40, n40⟩, -, X40, ⟨Lc40, hQ40, l40, y40, z40⟩, st40⟩ := Jvm.LawKit.callS X39 hx (y := MN_3) hown (mvT hZ (Wd hw 7 rfl)) (mvT hZ (Wd hw 8 rfl)) (mvT hZ (Wd hw 5 rfl)) (mvT hZ (Wd hw 9 rfl)) (by decide) (backOf (W := 0) (rm1_ROLLED_BACK l Z a0 hw [] kUNCLAIMED kKEPT kRUNNING kCONFLICTING kRAN kUNANSWERED kTAKEN_OVER kROLLED_BACK kUNKEPT oEXECUTED oREPLAYED oIN_PROGRESS oRELEASED oSTORE_UNAVAILABLE oOUTCOME_UNKNOWN aSM kSM  (h0) n0 O0 GL) hZ (Wd hw 9 rfl) (Wd hw 5 rfl) (by decide) (by decide)) (g := (mkF m 146 #[.val (.int p0), .val (.int ((p0 &&& (2147483647 : Int32)) % (9 : Int32))), .val (.ref kROLLED_BACK), .val (.ref oSTORE_UNAVAILABLE), .unset] [(.ref kROLLED_BACK)])) rfl (by rw [hml]; rfl) (argsL := [(.ref kROLLED_BACK)]) (rest := []) (lenOf pdv1 rfl) rfl (by show 2 * 0 + _ ≤ _; exact Nat.le_of_eq rfl) (hb hby at_146) (fun _ _ => ⟨rfl, e39, (by decide : 0 + 0 ≤ _), (by decide : 0 + 0 ≤ _)⟩)
                  dsimp only [Pt.U, Pt.locs, Pt.cells, Pt.slots] at X40 l40 y40 z40 st40 hQ40
                  subst l40 y40 z40
                  obtain ⟨rfl, N40q, e40⟩ := hQ40
                  have N40 := Fr.app N0 N40q
                  obtain ⟨fs, hr, hrun, hended, hW, hsame⟩ := X40.leave (v := some (.int (1 : Int32))) (fun h => by rw [Bd.returns] at h; cases h)
                  refine ⟨_, _, pre37 _ ?_, hrun, hended, _, _, rfl, ?_, ⟨_, rfl⟩, hW, hsame.mono (by decide) (by decide)⟩
                  · show Steps p.tables e below (s₁.setTop (mkF m 123 #[.val (.int p0), .val (.int ((p0 &&& (2147483647 : Int32)) % (9 : Int32))), .unset, .unset, .unset] [(.int (7 : Int32)), (.int ((p0 &&& (2147483647 : Int32)) % (9 : Int32)))])) _
                    refine XS.icmpNo X0.here hx rfl (hb hby at_123) rfl (teq hc123_36).2 ?_
                    show Steps p.tables e below (s₁.setTop (mkF m 126 #[.val (.int p0), .val (.int ((p0 &&& (2147483647 : Int32)) % (9 : Int32))), .unset, .unset, .unset] [])) _
                    refine st38 _ ?_
                    show Steps p.tables e below (T38.setTop (mkF m 129 #[.val (.int p0), .val (.int ((p0 &&& (2147483647 : Int32)) % (9 : Int32))), .unset, .unset, .unset] [(.ref kROLLED_BACK)])) _
                    refine XS.astoreN X38.here hx rfl (hb hby at_129) rfl rfl (l' := #[.val (.int p0), .val (.int ((p0 &&& (2147483647 : Int32)) % (9 : Int32))), .val (.ref kROLLED_BACK), .unset, .unset]) rfl ?_
                    show Steps p.tables e below (T38.setTop (mkF m 130 #[.val (.int p0), .val (.int ((p0 &&& (2147483647 : Int32)) % (9 : Int32))), .val (.ref kROLLED_BACK), .unset, .unset] [])) _
                    refine st39 _ ?_
                    show Steps p.tables e below (T39.setTop (mkF m 133 #[.val (.int p0), .val (.int ((p0 &&& (2147483647 : Int32)) % (9 : Int32))), .val (.ref kROLLED_BACK), .unset, .unset] [(.ref oSTORE_UNAVAILABLE)])) _
                    refine XS.astoreN X39.here hx rfl (hb hby at_133) rfl rfl (l' := #[.val (.int p0), .val (.int ((p0 &&& (2147483647 : Int32)) % (9 : Int32))), .val (.ref kROLLED_BACK), .val (.ref oSTORE_UNAVAILABLE), .unset]) rfl ?_
                    show Steps p.tables e below (T39.setTop (mkF m 134 #[.val (.int p0), .val (.int ((p0 &&& (2147483647 : Int32)) % (9 : Int32))), .val (.ref kROLLED_BACK), .val (.ref oSTORE_UNAVAILABLE), .unset] [])) _
                    refine XS.goto X39.here hx rfl (pc0 := 134) (pc' := 145) rfl (hb hby at_134) (by decide) (by decide) ?_
                    show Steps p.tables e below (T39.setTop (mkF m 145 #[.val (.int p0), .val (.int ((p0 &&& (2147483647 : Int32)) % (9 : Int32))), .val (.ref kROLLED_BACK), .val (.ref oSTORE_UNAVAILABLE), .unset] [])) _
                    refine XS.aloadN X39.here hx rfl (hb hby at_145) rfl rfl ?_
                    show Steps p.tables e below (T39.setTop (mkF m 146 #[.val (.int p0), .val (.int ((p0 &&& (2147483647 : Int32)) % (9 : Int32))), .val (.ref kROLLED_BACK), .val (.ref oSTORE_UNAVAILABLE), .unset] [(.ref kROLLED_BACK)])) _
                    refine st40 _ ?_
                    show Steps p.tables e below (T40.setTop (mkF m 149 #[.val (.int p0), .val (.int ((p0 &&& (2147483647 : Int32)) % (9 : Int32))), .val (.ref kROLLED_BACK), .val (.ref oSTORE_UNAVAILABLE), .unset] [(.ref oSTORE_UNAVAILABLE)])) _
                    refine XS.astore X40.here hx rfl (hb hby at_149) rfl rfl (l' := #[.val (.int p0), .val (.int ((p0 &&& (2147483647 : Int32)) % (9 : Int32))), .val (.ref kROLLED_BACK), .val (.ref oSTORE_UNAVAILABLE), .val (.ref oSTORE_UNAVAILABLE)]) rfl ?_
                    show Steps p.tables e below (T40.setTop (mkF m 151 #[.val (.int p0), .val (.int ((p0 &&& (2147483647 : Int32)) % (9 : Int32))), .val (.ref kROLLED_BACK), .val (.ref oSTORE_UNAVAILABLE), .val (.ref oSTORE_UNAVAILABLE)] [])) _
                    refine XS.aload X40.here hx rfl (hb hby at_151) rfl rfl ?_
                    show Steps p.tables e below (T40.setTop (mkF m 153 #[.val (.int p0), .val (.int ((p0 &&& (2147483647 : Int32)) % (9 : Int32))), .val (.ref kROLLED_BACK), .val (.ref oSTORE_UNAVAILABLE), .val (.ref oSTORE_UNAVAILABLE)] [(.ref oSTORE_UNAVAILABLE)])) _
                    refine XS.aloadN X40.here hx rfl (hb hby at_153) rfl rfl ?_
                    show Steps p.tables e below (T40.setTop (mkF m 154 #[.val (.int p0), .val (.int ((p0 &&& (2147483647 : Int32)) % (9 : Int32))), .val (.ref kROLLED_BACK), .val (.ref oSTORE_UNAVAILABLE), .val (.ref oSTORE_UNAVAILABLE)] [(.ref oSTORE_UNAVAILABLE), (.ref oSTORE_UNAVAILABLE)])) _
                    refine Jvm.RoadKit.acmp (g := (mkF m 154 #[.val (.int p0), .val (.int ((p0 &&& (2147483647 : Int32)) % (9 : Int32))), .val (.ref kROLLED_BACK), .val (.ref oSTORE_UNAVAILABLE), .val (.ref oSTORE_UNAVAILABLE)] [(.ref oSTORE_UNAVAILABLE), (.ref oSTORE_UNAVAILABLE)])) X40 hx rfl rfl rfl (pc0 := 154) (pc' := 157) (same := true) rfl (hb hby at_154) rfl (decide_eq_true rfl) (by decide) (by decide) ?_
                    show Steps p.tables e below (T40.setTop (mkF m 157 #[.val (.int p0), .val (.int ((p0 &&& (2147483647 : Int32)) % (9 : Int32))), .val (.ref kROLLED_BACK), .val (.ref oSTORE_UNAVAILABLE), .val (.ref oSTORE_UNAVAILABLE)] [])) _
                    refine XS.iconst X40.here hx rfl (hb hby at_157) ?_
                    show Steps p.tables e below (T40.setTop (mkF m 158 #[.val (.int p0), .val (.int ((p0 &&& (2147483647 : Int32)) % (9 : Int32))), .val (.ref kROLLED_BACK), .val (.ref oSTORE_UNAVAILABLE), .val (.ref oSTORE_UNAVAILABLE)] [(.int (1 : Int32))])) _
                    refine XS.goto X40.here hx rfl (pc0 := 158) (pc' := 162) rfl (hb hby at_158) (by decide) (by decide) ?_
                    show Steps p.tables e below (T40.setTop (mkF m 162 #[.val (.int p0), .val (.int ((p0 &&& (2147483647 : Int32)) % (9 : Int32))), .val (.ref kROLLED_BACK), .val (.ref oSTORE_UNAVAILABLE), .val (.ref oSTORE_UNAVAILABLE)] [(.int (1 : Int32))])) _
                    exact retN X40 hx (t := .boolean) Bd.returns (by simp) (hb hby at_162) hr
                  · show Q_rm0 n0 _ T40.heap _
                    rw [e40]
                    exact ⟨rfl, N40⟩
                · obtain ⟨T41, X41, e41, st41⟩ := getS2 X0 hx hZ hown (host := "") (Or.inl (Wd hw 46 rfl)) Via.refl e0 (GSUNKEPT.ext O0.2) (g := (mkF m 137 #[.val (.int p0), .val (.int ((p0 &&& (2147483647 : Int32)) % (9 : Int32))), .unset, .unset, .unset] [])) rfl (hb hby at_137)
                  obtain ⟨T42, X42, e42, st42⟩ := getS2 X41 hx hZ hown (host := "") (Or.inl (Wd hw 48 rfl)) Via.refl e41 (HSOUTCOME_UNKNOWN.ext O0.2) (g := (mkF m 141 #[.val (.int p0), .val (.int ((p0 &&& (2147483647 : Int32)) % (9 : Int32))), .val (.ref kUNKEPT), .unset, .unset] [])) rfl (hb hby at_141)
                  obtain ⟨_, _, ⟨T43, L43, k43, n43⟩, -, X43, ⟨Lc43, hQ43, l43, y43, z43⟩, st43⟩ := Jvm.LawKit.callS X42 hx (y := MN_3) hown (mvT hZ (Wd hw 7 rfl)) (mvT hZ (Wd hw 8 rfl)) (mvT hZ (Wd hw 5 rfl)) (mvT hZ (Wd hw 9 rfl)) (by decide) (backOf (W := 0) (rm1_UNKEPT l Z a0 hw [] kUNCLAIMED kKEPT kRUNNING kCONFLICTING kRAN kUNANSWERED kTAKEN_OVER kROLLED_BACK kUNKEPT oEXECUTED oREPLAYED oIN_PROGRESS oRELEASED oSTORE_UNAVAILABLE oOUTCOME_UNKNOWN aSM kSM  (h0) n0 O0 GL) hZ (Wd hw 9 rfl) (Wd hw 5 rfl) (by decide) (by decide)) (g := (mkF m 146 #[.val (.int p0), .val (.int ((p0 &&& (2147483647 : Int32)) % (9 : Int32))), .val (.ref kUNKEPT), .val (.ref oOUTCOME_UNKNOWN), .unset] [(.ref kUNKEPT)])) rfl (by rw [hml]; rfl) (argsL := [(.ref kUNKEPT)]) (rest := []) (lenOf pdv1 rfl) rfl (by show 2 * 0 + _ ≤ _; exact Nat.le_of_eq rfl) (hb hby at_146) (fun _ _ => ⟨rfl, e42, (by decide : 0 + 0 ≤ _), (by decide : 0 + 0 ≤ _)⟩)
                  dsimp only [Pt.U, Pt.locs, Pt.cells, Pt.slots] at X43 l43 y43 z43 st43 hQ43
                  subst l43 y43 z43
                  obtain ⟨rfl, N43q, e43⟩ := hQ43
                  have N43 := Fr.app N0 N43q
                  obtain ⟨fs, hr, hrun, hended, hW, hsame⟩ := X43.leave (v := some (.int (1 : Int32))) (fun h => by rw [Bd.returns] at h; cases h)
                  refine ⟨_, _, pre37 _ ?_, hrun, hended, _, _, rfl, ?_, ⟨_, rfl⟩, hW, hsame.mono (by decide) (by decide)⟩
                  · show Steps p.tables e below (s₁.setTop (mkF m 123 #[.val (.int p0), .val (.int ((p0 &&& (2147483647 : Int32)) % (9 : Int32))), .unset, .unset, .unset] [(.int (7 : Int32)), (.int ((p0 &&& (2147483647 : Int32)) % (9 : Int32)))])) _
                    refine XS.icmpYes X0.here hx rfl (pc0 := 123) (pc' := 137) rfl (hb hby at_123) rfl (feq hc123_36).2 (by decide) (by decide) ?_
                    show Steps p.tables e below (s₁.setTop (mkF m 137 #[.val (.int p0), .val (.int ((p0 &&& (2147483647 : Int32)) % (9 : Int32))), .unset, .unset, .unset] [])) _
                    refine st41 _ ?_
                    show Steps p.tables e below (T41.setTop (mkF m 140 #[.val (.int p0), .val (.int ((p0 &&& (2147483647 : Int32)) % (9 : Int32))), .unset, .unset, .unset] [(.ref kUNKEPT)])) _
                    refine XS.astoreN X41.here hx rfl (hb hby at_140) rfl rfl (l' := #[.val (.int p0), .val (.int ((p0 &&& (2147483647 : Int32)) % (9 : Int32))), .val (.ref kUNKEPT), .unset, .unset]) rfl ?_
                    show Steps p.tables e below (T41.setTop (mkF m 141 #[.val (.int p0), .val (.int ((p0 &&& (2147483647 : Int32)) % (9 : Int32))), .val (.ref kUNKEPT), .unset, .unset] [])) _
                    refine st42 _ ?_
                    show Steps p.tables e below (T42.setTop (mkF m 144 #[.val (.int p0), .val (.int ((p0 &&& (2147483647 : Int32)) % (9 : Int32))), .val (.ref kUNKEPT), .unset, .unset] [(.ref oOUTCOME_UNKNOWN)])) _
                    refine XS.astoreN X42.here hx rfl (hb hby at_144) rfl rfl (l' := #[.val (.int p0), .val (.int ((p0 &&& (2147483647 : Int32)) % (9 : Int32))), .val (.ref kUNKEPT), .val (.ref oOUTCOME_UNKNOWN), .unset]) rfl ?_
                    show Steps p.tables e below (T42.setTop (mkF m 145 #[.val (.int p0), .val (.int ((p0 &&& (2147483647 : Int32)) % (9 : Int32))), .val (.ref kUNKEPT), .val (.ref oOUTCOME_UNKNOWN), .unset] [])) _
                    refine XS.aloadN X42.here hx rfl (hb hby at_145) rfl rfl ?_
                    show Steps p.tables e below (T42.setTop (mkF m 146 #[.val (.int p0), .val (.int ((p0 &&& (2147483647 : Int32)) % (9 : Int32))), .val (.ref kUNKEPT), .val (.ref oOUTCOME_UNKNOWN), .unset] [(.ref kUNKEPT)])) _
                    refine st43 _ ?_
                    show Steps p.tables e below (T43.setTop (mkF m 149 #[.val (.int p0), .val (.int ((p0 &&& (2147483647 : Int32)) % (9 : Int32))), .val (.ref kUNKEPT), .val (.ref oOUTCOME_UNKNOWN), .unset] [(.ref oOUTCOME_UNKNOWN)])) _
                    refine XS.astore X43.here hx rfl (hb hby at_149) rfl rfl (l' := #[.val (.int p0), .val (.int ((p0 &&& (2147483647 : Int32)) % (9 : Int32))), .val (.ref kUNKEPT), .val (.ref oOUTCOME_UNKNOWN), .val (.ref oOUTCOME_UNKNOWN)]) rfl ?_
                    show Steps p.tables e below (T43.setTop (mkF m 151 #[.val (.int p0), .val (.int ((p0 &&& (2147483647 : Int32)) % (9 : Int32))), .val (.ref kUNKEPT), .val (.ref oOUTCOME_UNKNOWN), .val (.ref oOUTCOME_UNKNOWN)] [])) _
                    refine XS.aload X43.here hx rfl (hb hby at_151) rfl rfl ?_
                    show Steps p.tables e below (T43.setTop (mkF m 153 #[.val (.int p0), .val (.int ((p0 &&& (2147483647 : Int32)) % (9 : Int32))), .val (.ref kUNKEPT), .val (.ref oOUTCOME_UNKNOWN), .val (.ref oOUTCOME_UNKNOWN)] [(.ref oOUTCOME_UNKNOWN)])) _
                    refine XS.aloadN X43.here hx rfl (hb hby at_153) rfl rfl ?_
                    show Steps p.tables e below (T43.setTop (mkF m 154 #[.val (.int p0), .val (.int ((p0 &&& (2147483647 : Int32)) % (9 : Int32))), .val (.ref kUNKEPT), .val (.ref oOUTCOME_UNKNOWN), .val (.ref oOUTCOME_UNKNOWN)] [(.ref oOUTCOME_UNKNOWN), (.ref oOUTCOME_UNKNOWN)])) _
                    refine Jvm.RoadKit.acmp (g := (mkF m 154 #[.val (.int p0), .val (.int ((p0 &&& (2147483647 : Int32)) % (9 : Int32))), .val (.ref kUNKEPT), .val (.ref oOUTCOME_UNKNOWN), .val (.ref oOUTCOME_UNKNOWN)] [(.ref oOUTCOME_UNKNOWN), (.ref oOUTCOME_UNKNOWN)])) X43 hx rfl rfl rfl (pc0 := 154) (pc' := 157) (same := true) rfl (hb hby at_154) rfl (decide_eq_true rfl) (by decide) (by decide) ?_
                    show Steps p.tables e below (T43.setTop (mkF m 157 #[.val (.int p0), .val (.int ((p0 &&& (2147483647 : Int32)) % (9 : Int32))), .val (.ref kUNKEPT), .val (.ref oOUTCOME_UNKNOWN), .val (.ref oOUTCOME_UNKNOWN)] [])) _
                    refine XS.iconst X43.here hx rfl (hb hby at_157) ?_
                    show Steps p.tables e below (T43.setTop (mkF m 158 #[.val (.int p0), .val (.int ((p0 &&& (2147483647 : Int32)) % (9 : Int32))), .val (.ref kUNKEPT), .val (.ref oOUTCOME_UNKNOWN), .val (.ref oOUTCOME_UNKNOWN)] [(.int (1 : Int32))])) _
                    refine XS.goto X43.here hx rfl (pc0 := 158) (pc' := 162) rfl (hb hby at_158) (by decide) (by decide) ?_
                    show Steps p.tables e below (T43.setTop (mkF m 162 #[.val (.int p0), .val (.int ((p0 &&& (2147483647 : Int32)) % (9 : Int32))), .val (.ref kUNKEPT), .val (.ref oOUTCOME_UNKNOWN), .val (.ref oOUTCOME_UNKNOWN)] [(.int (1 : Int32))])) _
                    exact retN X43 hx (t := .boolean) Bd.returns (by simp) (hb hby at_162) hr
                  · show Q_rm0 n0 _ T43.heap _
                    rw [e43]
                    exact ⟨rfl, N43⟩
set_option maxRecDepth 65536 in
set_option maxHeartbeats 40000000 in
theorem comes_1 {Post : Tables → Env → Array Value → State → Outcome → State → Prop} (hpost : ∀ tb e args s v u, (limb_1_1.after args s (.returned v) u = true ∧ limb_1_2.after args s (.returned v) u = true ∧ True) → FrameEnd s (.returned v) u (Jvm.fieldLocs frame_1_writes args s ++ Jvm.arrayLocs frame_1_arrays args s ++ Jvm.staticLocs frame_1_statics s) 0 0 → Post tb e args s (.returned v) u) :
    ArmFor flags0 classFile x code maxLocals ret World_1 tables_1 room_1 Calls_1 rest_1 Pre_1 Post := by
  intro l hfl _ _ p e ha hc hk s m args below hf hA hF happ hP
  obtain ⟨hcalls, hrest, hpre⟩ := hP
  obtain ⟨-, -, -, hnamed, -, -, -, hat⟩ := (Spec.applies_iff hf).mp happ
  obtain ⟨hg, hn⟩ := and_e (Cond.before_iff.mp (show (Jvm.Cond.and given_1 narrow_1).before args s = true from hpre))
  obtain ⟨gv_l0, gv_r0⟩ := and_e hg
  obtain ⟨w0, rfl⟩ : ∃ w0 : Value, args = #[w0] := by
    have hs : args.size = 1 := by simpa [Cond.value, given_1] using gv_l0
    obtain ⟨L⟩ := args
    match L, hs with
    | [w0], _ => exact ⟨w0, rfl⟩
  have hw := fun d (hd : d ∈ tables_1) => atoms_spec (ws := Jvm.Cond.code x code maxLocals ret :: tables_1) hat d (List.mem_cons_of_mem _ hd)
  have hfit : Fit s := fun {y c} hc i hi => by
    obtain ⟨ha, rfl⟩ := Array.getElem?_eq_some_iff.mp hc
    have q := List.all_eq_true.mp ((Array.all_eq_true_iff_forall_mem.mp hF) _ (Array.getElem_mem ha)) i (List.mem_range.mpr hi)
    simpa [Array.getElem?_eq_getElem hi] using q
  obtain ⟨i0, ei0⟩ := is_v gv_r0
  obtain rfl : w0 = (.int i0) := Option.some.inj ei0
  obtain ⟨nv_l0, nv_r0⟩ := and_e hn
  obtain ⟨nv_l2, nv_r2⟩ := and_e nv_r0
  obtain ⟨nv_l4, nv_r4⟩ := and_e nv_r2
  obtain ⟨nv_l6, nv_r6⟩ := and_e nv_r4
  obtain ⟨nv_l8, nv_r8⟩ := and_e nv_r6
  obtain ⟨nv_l10, nv_r10⟩ := and_e nv_r8
  obtain ⟨nv_l12, nv_r12⟩ := and_e nv_r10
  obtain ⟨nv_l14, nv_r14⟩ := and_e nv_r12
  obtain ⟨nv_l16, nv_r16⟩ := and_e nv_r14
  obtain ⟨nv_l18, nv_r18⟩ := and_e nv_r16
  obtain ⟨nv_l20, nv_r20⟩ := and_e nv_r18
  obtain ⟨nv_l22, nv_r22⟩ := and_e nv_r20
  obtain ⟨nv_l24, nv_r24⟩ := and_e nv_r22
  obtain ⟨nv_l26, nv_r26⟩ := and_e nv_r24
  obtain ⟨nv_l28, nv_r28⟩ := and_e nv_r26
  obtain ⟨nv_l30, nv_r30⟩ := and_e nv_r28
  obtain ⟨nv_l32, nv_r32⟩ := and_e nv_r30
  obtain ⟨nv_l34, nv_r34⟩ := and_e nv_r32
  obtain ⟨nv_l36, nv_r36⟩ := and_e nv_r34
  obtain ⟨nv_l38, nv_r38⟩ := and_e nv_r36
  obtain ⟨nv_l40, nv_r40⟩ := and_e nv_r38
  obtain ⟨nv_l42, nv_r42⟩ := and_e nv_r40
  obtain ⟨nv_l44, nv_r44⟩ := and_e nv_r42
  obtain ⟨nv_l46, nv_r46⟩ := and_e nv_r44
  obtain ⟨nv_l48, nv_r48⟩ := and_e nv_r46
  obtain ⟨nv_l50, nv_r50⟩ := and_e nv_r48
  obtain ⟨nv_l52, nv_r52⟩ := and_e nv_r50
  obtain ⟨nv_l54, nv_r54⟩ := and_e nv_r52
  obtain ⟨nv_l56, nv_r56⟩ := and_e nv_r54
  obtain ⟨nv_l58, nv_r58⟩ := and_e nv_r56
  obtain ⟨nv_l60, nv_r60⟩ := and_e nv_r58
  obtain ⟨nv_l62, nv_r62⟩ := and_e nv_r60
  obtain ⟨nv_l64, nv_r64⟩ := and_e nv_r62
  obtain ⟨nv_l66, nv_r66⟩ := and_e nv_r64
  obtain ⟨kUNCLAIMED, vUNCLAIMED⟩ := exa_v nv_l0
  obtain ⟨kKEPT, vKEPT⟩ := exa_v nv_l22
  obtain ⟨kRUNNING, vRUNNING⟩ := exa_v nv_l16
  obtain ⟨kCONFLICTING, vCONFLICTING⟩ := exa_v nv_l4
  obtain ⟨kRAN, vRAN⟩ := exa_v nv_l30
  obtain ⟨kUNANSWERED, vUNANSWERED⟩ := exa_v nv_l46
  obtain ⟨kTAKEN_OVER, vTAKEN_OVER⟩ := exa_v nv_l42
  obtain ⟨kROLLED_BACK, vROLLED_BACK⟩ := exa_v nv_l26
  obtain ⟨kUNKEPT, vUNKEPT⟩ := exa_v nv_l36
  obtain ⟨oEXECUTED, uEXECUTED⟩ := exa_v nv_l32
  obtain ⟨oREPLAYED, uREPLAYED⟩ := exa_v nv_l14
  obtain ⟨oIN_PROGRESS, uIN_PROGRESS⟩ := exa_v nv_l18
  obtain ⟨oRELEASED, uRELEASED⟩ := exa_v nv_l48
  obtain ⟨oSTORE_UNAVAILABLE, uSTORE_UNAVAILABLE⟩ := exa_v nv_l2
  obtain ⟨oOUTCOME_UNKNOWN, uOUTCOME_UNKNOWN⟩ := exa_v nv_l38
  obtain ⟨aSM, vSM⟩ := arr_v nv_l10
  obtain ⟨cSM, ASM⟩ := Arr.start vSM nv_l10
  obtain ⟨zSM, ySM⟩ := own_len ASM vSM nv_l12
  have GL : GF s kUNCLAIMED kKEPT kRUNNING kCONFLICTING kRAN kUNANSWERED kTAKEN_OVER kROLLED_BACK kUNKEPT oEXECUTED oREPLAYED oIN_PROGRESS oRELEASED oSTORE_UNAVAILABLE oOUTCOME_UNKNOWN aSM cSM.cls := ⟨Sta.start vUNCLAIMED (Or.inr ⟨(Wd hw 2 rfl), (Wd hw 3 rfl)⟩), Exa.start vUNCLAIMED nv_l0, Fld.start (own_fi vUNCLAIMED nv_l6), Sta.start vKEPT (Or.inr ⟨(Wd hw 2 rfl), (Wd hw 38 rfl)⟩), Exa.start vKEPT nv_l22, Fld.start (own_fi vKEPT nv_l24), Sta.start vRUNNING (Or.inr ⟨(Wd hw 2 rfl), (Wd hw 33 rfl)⟩), Exa.start vRUNNING nv_l16, Fld.start (own_fi vRUNNING nv_l20), Sta.start vCONFLICTING (Or.inr ⟨(Wd hw 2 rfl), (Wd hw 11 rfl)⟩), Exa.start vCONFLICTING nv_l4, Fld.start (own_fi vCONFLICTING nv_l8), Sta.start vRAN (Or.inr ⟨(Wd hw 2 rfl), (Wd hw 42 rfl)⟩), Exa.start vRAN nv_l30, Fld.start (own_fi vRAN nv_l34), Sta.start vUNANSWERED (Or.inr ⟨(Wd hw 2 rfl), (Wd hw 54 rfl)⟩), Exa.start vUNANSWERED nv_l46, Fld.start (own_fi vUNANSWERED nv_l50), Sta.start vTAKEN_OVER (Or.inr ⟨(Wd hw 2 rfl), (Wd hw 52 rfl)⟩), Exa.start vTAKEN_OVER nv_l42, Fld.start (own_fi vTAKEN_OVER nv_l44), Sta.start vROLLED_BACK (Or.inr ⟨(Wd hw 2 rfl), (Wd hw 40 rfl)⟩), Exa.start vROLLED_BACK nv_l26, Fld.start (own_fi vROLLED_BACK nv_l28), Sta.start vUNKEPT (Or.inr ⟨(Wd hw 2 rfl), (Wd hw 47 rfl)⟩), Exa.start vUNKEPT nv_l36, Fld.start (own_fi vUNKEPT nv_l40), Sta.start uEXECUTED (Or.inr ⟨(Wd hw 5 rfl), (Wd hw 44 rfl)⟩), Sta.start uREPLAYED (Or.inr ⟨(Wd hw 5 rfl), (Wd hw 30 rfl)⟩), Sta.start uIN_PROGRESS (Or.inr ⟨(Wd hw 5 rfl), (Wd hw 35 rfl)⟩), Sta.start uRELEASED (Or.inr ⟨(Wd hw 5 rfl), (Wd hw 56 rfl)⟩), Sta.start uSTORE_UNAVAILABLE (Or.inr ⟨(Wd hw 5 rfl), (Wd hw 6 rfl)⟩), Sta.start uOUTCOME_UNKNOWN (Or.inr ⟨(Wd hw 5 rfl), (Wd hw 49 rfl)⟩), Sta.start vSM (Or.inr ⟨(Wd hw 16 rfl), (Wd hw 17 rfl)⟩), Arv.start hfit ASM zSM ySM (by decide) rfl ⟨own_eli (j := (0 : Int32)) ASM.1 vSM nv_l52, own_eli (j := (1 : Int32)) ASM.1 vSM nv_l54, own_eli (j := (2 : Int32)) ASM.1 vSM nv_l56, own_eli (j := (3 : Int32)) ASM.1 vSM nv_l58, own_eli (j := (4 : Int32)) ASM.1 vSM nv_l60, own_eli (j := (5 : Int32)) ASM.1 vSM nv_l62, own_eli (j := (6 : Int32)) ASM.1 vSM nv_l64, own_eli (j := (7 : Int32)) ASM.1 vSM nv_l66, own_eli (j := (8 : Int32)) ASM.1 vSM nv_r66, trivial⟩⟩
  obtain ⟨n, o, h1, h2, h3, _, L, rfl, ⟨rfl, N⟩, hq⟩ := rm0 l s _ hw tables_1 kUNCLAIMED kKEPT kRUNNING kCONFLICTING kRAN kUNANSWERED kTAKEN_OVER kROLLED_BACK kUNKEPT oEXECUTED oREPLAYED oIN_PROGRESS oRELEASED oSTORE_UNAVAILABLE oOUTCOME_UNKNOWN aSM cSM.cls i0 s.heap s.heap.size (Old.start s) GL p e ha hc hk s m _ below hf ((Spec.applies_iff_loose hf).mp happ).1 ⟨rfl, State.Warmed39.refl s, rfl⟩ trivial
  refine ⟨n, _, h1, h2, h3, hpost _ _ _ _ _ _ ⟨Cond.after_iff.mpr rfl, Cond.after_iff.mpr (eq_i res_at (Term.int_eval (1)) rfl), trivial⟩ ⟨hq.1, hq.2.1, (hq.2.2.sift fun y hy => Or.inr (N y hy)).mono (by decide) (by decide)⟩⟩
theorem main_1_1 : Claimed_1_1 := comes_1 fun _ _ _ _ _ _ h hF => ⟨h.1, hF⟩
theorem main_1_2 : Claimed_1_2 := comes_1 fun _ _ _ _ _ _ h hF => ⟨h.2.1, hF⟩
end Jvm.Pilot.@@N@@
namespace Jvm.Pilot.@@N@@
open Jvm Jvm.ClassFile Sem Op Lib Jvm.Free Jvm.Stand Jvm.Pilot.@@N@@.Jvm.D
/-! MADE BY PROGRAM (witnessworld.py) out of the Statement's table words and the real class files: 14 classes; the members and pool entries that the words name. The judged class is class 1, her method 1. -/
namespace start1
open Jvm.ClassFile
def u (s : String) : CpInfo := .utf8 (stringToUtf16 s)
/-- a pool by its gaps: so many unusable entries, then the entry; so many at the end -/
def gap : Nat → List CpInfo → List CpInfo
  | 0, r => r
  | n + 1, r => .unusable :: gap n r
def poolList (es : List (Nat × CpInfo)) (last : Nat) : List CpInfo := es.foldr (fun e r => gap e.1 (e.2 :: r)) (gap last [])
def pool (es : List (Nat × CpInfo)) (last : Nat) : Array CpInfo := ⟨poolList es last⟩
def fileOf (pool : Array CpInfo) (this : Nat) (attrs : Array Attribute := #[]) (ms : Array MethodInfo := #[]) (fl : Nat := 33) (sup : Nat := 0) (ifs : Array Nat := #[]) (fds : Array FieldInfo := #[]) : ClassFile where
  minorVersion := 0
  majorVersion := 65
  constantPool := pool
  accessFlags := fl
  thisClass := this
  superClass := sup
  interfaces := ifs
  fields := fds
  methods := ms
  attributes := attrs
def plain (name : String) (sup : Option ClassId) : Class where
  name := name
  kind := .ordinary
  loader := none
  accessFlags := 33
  super := sup
  interfaces := #[]
  cf := none
  fields := #[]
  methods := #[]
  instanceTypes := #[]
  staticTypes := #[]
  resolved := #[]
  callSites := []
  init := .initialized
  statics := none
  mirror := none

def pool0 : Array CpInfo := pool [(5, u "<init>"), (0, u "()V"), (1, .class_ 10), (1, u "java/lang/Object")] 113

def k0m0 : Method := { name := "<init>", desc := "()V", sig := { parameters := [], returnType := none }, accessFlags := 1, code := none }
/-- java/lang/Object -/
def k0 : Class := { plain "java/lang/Object" none with
  accessFlags := 33
  interfaces := #[]
  cf := some (fileOf pool0 8 #[] #[{ accessFlags := 1, nameIndex := 5, descriptorIndex := 6, attributes := #[] }] 33 0 #[] #[])
  fields := #[]
  methods := #[k0m0]
  instanceTypes := #[]
  staticTypes := #[]
  resolved := Array.replicate 124 none
  statics := none }

def pool1 : Array CpInfo := pool [(2, .class_ 4), (1, u "java/lang/Object"), (0, u "<init>"), (0, u "()V"), (0, .integer 2147483647), (0, .fieldref 9 10), (0, .class_ 11), (0, .nameAndType 12 13), (0, u "com/example/exact1/exact1/Decision$Kind"), (0, u "UNCLAIMED"), (0, u "Lcom/example/exact1/exact1/Decision$Kind;"), (0, .fieldref 15 16), (0, .class_ 17), (0, .nameAndType 18 19), (0, u "com/example/exact1/exact1/Audit$Outcome"), (0, u "STORE_UNAVAILABLE"), (0, u "Lcom/example/exact1/exact1/Audit$Outcome;"), (0, .fieldref 9 21), (0, .nameAndType 22 13), (0, u "KEPT"), (0, .fieldref 15 24), (0, .nameAndType 25 19), (0, u "REPLAYED"), (0, .fieldref 9 27), (0, .nameAndType 28 13), (0, u "RUNNING"), (0, .fieldref 15 30), (0, .nameAndType 31 19), (0, u "IN_PROGRESS"), (0, .fieldref 9 33), (0, .nameAndType 34 13), (0, u "CONFLICTING"), (0, .fieldref 9 36), (0, .nameAndType 37 13), (0, u "RAN"), (0, .fieldref 15 39), (0, .nameAndType 40 19), (0, u "EXECUTED"), (0, .fieldref 9 42), (0, .nameAndType 43 13), (0, u "UNANSWERED"), (0, .fieldref 15 45), (0, .nameAndType 46 19), (0, u "RELEASED"), (0, .fieldref 9 48), (0, .nameAndType 49 13), (0, u "TAKEN_OVER"), (0, .fieldref 9 51), (0, .nameAndType 52 13), (0, u "ROLLED_BACK"), (0, .fieldref 9 54), (0, .nameAndType 55 13), (0, u "UNKEPT"), (0, .fieldref 15 57), (0, .nameAndType 58 19), (0, u "OUTCOME_UNKNOWN"), (0, .methodref 15 60), (0, .nameAndType 61 62), (0, u "ofEvent"), (0, u "(Lcom/example/exact1/exact1/Decision$Kind;)Lcom/example/exact1/exact1/Audit$Outcome;"), (0, .class_ 64), (0, u "com/example/exact1/exact1/OutcomeOfEventPinLaw"), (2, u "law"), (0, u "(I)Z")] 10

def k1m0 : Method := { name := "<init>", desc := "()V", sig := { parameters := [], returnType := none }, accessFlags := 2, code := none }
def k1c1 : Code := { maxStack := 2, maxLocals := 5, code := code, exceptionTable := #[], attributes := #[] }
def k1m1 : Method := { name := "law", desc := "(I)Z", sig := { parameters := [.int], returnType := some .boolean }, accessFlags := 9, code := some k1c1 }
/-- com/example/exact1/exact1/OutcomeOfEventPinLaw -/
def k1 : Class := { plain "com/example/exact1/exact1/OutcomeOfEventPinLaw" (some 0) with
  accessFlags := 49
  interfaces := #[]
  cf := some (fileOf pool1 63 #[] #[{ accessFlags := 2, nameIndex := 5, descriptorIndex := 6, attributes := #[] }, { accessFlags := 9, nameIndex := 67, descriptorIndex := 68, attributes := #[] }] 49 2 #[] #[])
  fields := #[]
  methods := #[k1m0, k1m1]
  instanceTypes := #[]
  staticTypes := #[]
  resolved := Array.replicate 79 none
  statics := none }

def pool2 : Array CpInfo := pool [(1, .class_ 2), (0, u "java/lang/constant/Constable"), (0, .class_ 4), (0, u "java/lang/Object")] 6

/-- java/lang/constant/Constable -/
def k2 : Class := { plain "java/lang/constant/Constable" (some 0) with
  accessFlags := 1537
  interfaces := #[]
  cf := some (fileOf pool2 1 #[] #[] 1537 3 #[] #[])
  fields := #[]
  methods := #[]
  instanceTypes := #[]
  staticTypes := #[]
  resolved := Array.replicate 11 none
  statics := none }

def pool3 : Array CpInfo := pool [(1, .class_ 2), (0, u "java/lang/Comparable"), (0, .class_ 4), (0, u "java/lang/Object")] 7

/-- java/lang/Comparable -/
def k3 : Class := { plain "java/lang/Comparable" (some 0) with
  accessFlags := 1537
  interfaces := #[]
  cf := some (fileOf pool3 1 #[] #[] 1537 3 #[] #[])
  fields := #[]
  methods := #[]
  instanceTypes := #[]
  staticTypes := #[]
  resolved := Array.replicate 12 none
  statics := none }

def pool4 : Array CpInfo := pool [(1, .class_ 2), (0, u "java/io/Serializable"), (0, .class_ 4), (0, u "java/lang/Object")] 2

/-- java/io/Serializable -/
def k4 : Class := { plain "java/io/Serializable" (some 0) with
  accessFlags := 1537
  interfaces := #[]
  cf := some (fileOf pool4 1 #[] #[] 1537 3 #[] #[])
  fields := #[]
  methods := #[]
  instanceTypes := #[]
  staticTypes := #[]
  resolved := Array.replicate 7 none
  statics := none }

def pool5 : Array CpInfo := pool [(2, .class_ 4), (1, u "java/lang/Enum"), (0, u "name"), (0, u "Ljava/lang/String;"), (0, .fieldref 2 8), (0, .nameAndType 9 10), (0, u "ordinal"), (0, u "I"), (1, .class_ 14), (1, u "java/lang/Object"), (4, u "hash"), (86, .class_ 108), (1, u "java/lang/Enum$EnumDesc"), (2, .class_ 112), (0, u "java/lang/constant/Constable"), (0, .class_ 114), (0, u "java/lang/Comparable"), (0, .class_ 116), (0, u "java/io/Serializable"), (9, u "()I")] 77

def k5c0 : Code := { maxStack := 1, maxLocals := 1, code := jdk_37_method_2_code, exceptionTable := #[], attributes := #[] }
def k5m0 : Method := { name := "ordinal", desc := "()I", sig := { parameters := [], returnType := some .int }, accessFlags := 17, code := some k5c0 }
/-- java/lang/Enum -/
def k5 : Class := { plain "java/lang/Enum" (some 0) with
  accessFlags := 1057
  interfaces := #[2, 3, 4]
  cf := some (fileOf pool5 2 #[.nestMembers #[106]] #[{ accessFlags := 17, nameIndex := 9, descriptorIndex := 126, attributes := #[] }] 1057 12 #[111, 113, 115] #[{ accessFlags := 18, nameIndex := 5, descriptorIndex := 6, attributes := #[] }, { accessFlags := 18, nameIndex := 9, descriptorIndex := 10, attributes := #[] }, { accessFlags := 2, nameIndex := 19, descriptorIndex := 10, attributes := #[] }])
  fields := #[{ name := "name", type := (.object "java/lang/String"), accessFlags := 18, slot := 0, constantValue := 0 }, { name := "ordinal", type := .int, accessFlags := 18, slot := 1, constantValue := 0 }, { name := "hash", type := .int, accessFlags := 2, slot := 2, constantValue := 0 }]
  methods := #[k5m0]
  instanceTypes := #[(.object "java/lang/String"), .int, .int]
  staticTypes := #[]
  resolved := Array.replicate 204 none
  statics := none }

def pool6 : Array CpInfo := pool [(1, .class_ 2), (0, u "com/example/exact1/exact1/Decision$Kind"), (2, u "UNCLAIMED"), (0, u "Lcom/example/exact1/exact1/Decision$Kind;"), (2, u "KEPT"), (2, u "RUNNING"), (2, u "CONFLICTING"), (2, u "RAN"), (2, u "UNANSWERED"), (2, u "TAKEN_OVER"), (2, u "ROLLED_BACK"), (2, u "UNKEPT"), (2, u "$VALUES"), (0, u "[Lcom/example/exact1/exact1/Decision$Kind;"), (6, .class_ 43), (1, u "java/lang/Enum"), (32, .class_ 77), (0, u "com/example/exact1/exact1/Decision")] 2

/-- com/example/exact1/exact1/Decision$Kind -/
def k6 : Class := { plain "com/example/exact1/exact1/Decision$Kind" (some 5) with
  accessFlags := 16432
  interfaces := #[]
  cf := some (fileOf pool6 1 #[.nestHost 76] #[] 16432 41 #[] #[{ accessFlags := 16409, nameIndex := 5, descriptorIndex := 6, attributes := #[] }, { accessFlags := 16409, nameIndex := 9, descriptorIndex := 6, attributes := #[] }, { accessFlags := 16409, nameIndex := 12, descriptorIndex := 6, attributes := #[] }, { accessFlags := 16409, nameIndex := 15, descriptorIndex := 6, attributes := #[] }, { accessFlags := 16409, nameIndex := 18, descriptorIndex := 6, attributes := #[] }, { accessFlags := 16409, nameIndex := 21, descriptorIndex := 6, attributes := #[] }, { accessFlags := 16409, nameIndex := 24, descriptorIndex := 6, attributes := #[] }, { accessFlags := 16409, nameIndex := 27, descriptorIndex := 6, attributes := #[] }, { accessFlags := 16409, nameIndex := 30, descriptorIndex := 6, attributes := #[] }, { accessFlags := 4122, nameIndex := 33, descriptorIndex := 34, attributes := #[] }])
  fields := #[{ name := "UNCLAIMED", type := (.object "com/example/exact1/exact1/Decision$Kind"), accessFlags := 16409, slot := 0, constantValue := 0 }, { name := "KEPT", type := (.object "com/example/exact1/exact1/Decision$Kind"), accessFlags := 16409, slot := 1, constantValue := 0 }, { name := "RUNNING", type := (.object "com/example/exact1/exact1/Decision$Kind"), accessFlags := 16409, slot := 2, constantValue := 0 }, { name := "CONFLICTING", type := (.object "com/example/exact1/exact1/Decision$Kind"), accessFlags := 16409, slot := 3, constantValue := 0 }, { name := "RAN", type := (.object "com/example/exact1/exact1/Decision$Kind"), accessFlags := 16409, slot := 4, constantValue := 0 }, { name := "UNANSWERED", type := (.object "com/example/exact1/exact1/Decision$Kind"), accessFlags := 16409, slot := 5, constantValue := 0 }, { name := "TAKEN_OVER", type := (.object "com/example/exact1/exact1/Decision$Kind"), accessFlags := 16409, slot := 6, constantValue := 0 }, { name := "ROLLED_BACK", type := (.object "com/example/exact1/exact1/Decision$Kind"), accessFlags := 16409, slot := 7, constantValue := 0 }, { name := "UNKEPT", type := (.object "com/example/exact1/exact1/Decision$Kind"), accessFlags := 16409, slot := 8, constantValue := 0 }, { name := "$VALUES", type := (.array (.object "com/example/exact1/exact1/Decision$Kind")), accessFlags := 4122, slot := 9, constantValue := 0 }]
  methods := #[]
  instanceTypes := #[(.object "java/lang/String"), .int, .int]
  staticTypes := #[(.object "com/example/exact1/exact1/Decision$Kind"), (.object "com/example/exact1/exact1/Decision$Kind"), (.object "com/example/exact1/exact1/Decision$Kind"), (.object "com/example/exact1/exact1/Decision$Kind"), (.object "com/example/exact1/exact1/Decision$Kind"), (.object "com/example/exact1/exact1/Decision$Kind"), (.object "com/example/exact1/exact1/Decision$Kind"), (.object "com/example/exact1/exact1/Decision$Kind"), (.object "com/example/exact1/exact1/Decision$Kind"), (.array (.object "com/example/exact1/exact1/Decision$Kind"))]
  resolved := Array.replicate 80 none
  statics := some 0 }

def pool7 : Array CpInfo := pool [(1, .class_ 2), (0, u "com/example/exact1/exact1/Audit$Outcome"), (0, .fieldref 1 4), (0, .nameAndType 5 6), (0, u "EXECUTED"), (0, u "Lcom/example/exact1/exact1/Audit$Outcome;"), (0, .fieldref 1 8), (0, .nameAndType 9 6), (0, u "REPLAYED"), (2, u "CONFLICT"), (0, .fieldref 1 14), (0, .nameAndType 15 6), (0, u "IN_PROGRESS"), (2, u "REJECTED"), (0, .fieldref 1 20), (0, .nameAndType 21 6), (0, u "RELEASED"), (2, u "THROTTLED"), (0, .fieldref 1 26), (0, .nameAndType 27 6), (0, u "STORE_UNAVAILABLE"), (0, .fieldref 1 29), (0, .nameAndType 30 6), (0, u "OUTCOME_UNKNOWN"), (2, u "$VALUES"), (0, u "[Lcom/example/exact1/exact1/Audit$Outcome;"), (6, .class_ 43), (1, u "java/lang/Enum"), (6, .fieldref 51 52), (0, .class_ 53), (0, .nameAndType 54 55), (0, u "com/example/exact1/exact1/Audit$1"), (0, u "$SwitchMap$com$example$exact1$exact1$Decision$Kind"), (0, u "[I"), (0, .methodref 57 58), (0, .class_ 59), (0, .nameAndType 60 61), (0, u "com/example/exact1/exact1/Decision$Kind"), (0, u "ordinal"), (0, u "()I"), (5, .fieldref 57 68), (0, .nameAndType 69 70), (0, u "CONFLICTING"), (0, u "Lcom/example/exact1/exact1/Decision$Kind;"), (0, .methodref 1 72), (0, .nameAndType 73 74), (0, u "ofRequest"), (0, u "(Lcom/example/exact1/exact1/Decision$Kind;)Lcom/example/exact1/exact1/Audit$Outcome;"), (22, u "ofEvent"), (5, .class_ 104), (0, u "com/example/exact1/exact1/Audit")] 5

def k7c0 : Code := { maxStack := 4, maxLocals := 1, code := prog_5_method_4_code, exceptionTable := #[], attributes := #[] }
def k7m0 : Method := { name := "ofRequest", desc := "(Lcom/example/exact1/exact1/Decision$Kind;)Lcom/example/exact1/exact1/Audit$Outcome;", sig := { parameters := [(.object "com/example/exact1/exact1/Decision$Kind")], returnType := some (.object "com/example/exact1/exact1/Audit$Outcome") }, accessFlags := 8, code := some k7c0 }
def k7c1 : Code := { maxStack := 2, maxLocals := 1, code := prog_5_method_5_code, exceptionTable := #[], attributes := #[] }
def k7m1 : Method := { name := "ofEvent", desc := "(Lcom/example/exact1/exact1/Decision$Kind;)Lcom/example/exact1/exact1/Audit$Outcome;", sig := { parameters := [(.object "com/example/exact1/exact1/Decision$Kind")], returnType := some (.object "com/example/exact1/exact1/Audit$Outcome") }, accessFlags := 8, code := some k7c1 }
/-- com/example/exact1/exact1/Audit$Outcome -/
def k7 : Class := { plain "com/example/exact1/exact1/Audit$Outcome" (some 5) with
  accessFlags := 16432
  interfaces := #[]
  cf := some (fileOf pool7 1 #[.nestHost 103] #[{ accessFlags := 8, nameIndex := 73, descriptorIndex := 74, attributes := #[] }, { accessFlags := 8, nameIndex := 97, descriptorIndex := 74, attributes := #[] }] 16432 41 #[] #[{ accessFlags := 16409, nameIndex := 5, descriptorIndex := 6, attributes := #[] }, { accessFlags := 16409, nameIndex := 9, descriptorIndex := 6, attributes := #[] }, { accessFlags := 16409, nameIndex := 12, descriptorIndex := 6, attributes := #[] }, { accessFlags := 16409, nameIndex := 15, descriptorIndex := 6, attributes := #[] }, { accessFlags := 16409, nameIndex := 18, descriptorIndex := 6, attributes := #[] }, { accessFlags := 16409, nameIndex := 21, descriptorIndex := 6, attributes := #[] }, { accessFlags := 16409, nameIndex := 24, descriptorIndex := 6, attributes := #[] }, { accessFlags := 16409, nameIndex := 27, descriptorIndex := 6, attributes := #[] }, { accessFlags := 16409, nameIndex := 30, descriptorIndex := 6, attributes := #[] }, { accessFlags := 4122, nameIndex := 33, descriptorIndex := 34, attributes := #[] }])
  fields := #[{ name := "EXECUTED", type := (.object "com/example/exact1/exact1/Audit$Outcome"), accessFlags := 16409, slot := 0, constantValue := 0 }, { name := "REPLAYED", type := (.object "com/example/exact1/exact1/Audit$Outcome"), accessFlags := 16409, slot := 1, constantValue := 0 }, { name := "CONFLICT", type := (.object "com/example/exact1/exact1/Audit$Outcome"), accessFlags := 16409, slot := 2, constantValue := 0 }, { name := "IN_PROGRESS", type := (.object "com/example/exact1/exact1/Audit$Outcome"), accessFlags := 16409, slot := 3, constantValue := 0 }, { name := "REJECTED", type := (.object "com/example/exact1/exact1/Audit$Outcome"), accessFlags := 16409, slot := 4, constantValue := 0 }, { name := "RELEASED", type := (.object "com/example/exact1/exact1/Audit$Outcome"), accessFlags := 16409, slot := 5, constantValue := 0 }, { name := "THROTTLED", type := (.object "com/example/exact1/exact1/Audit$Outcome"), accessFlags := 16409, slot := 6, constantValue := 0 }, { name := "STORE_UNAVAILABLE", type := (.object "com/example/exact1/exact1/Audit$Outcome"), accessFlags := 16409, slot := 7, constantValue := 0 }, { name := "OUTCOME_UNKNOWN", type := (.object "com/example/exact1/exact1/Audit$Outcome"), accessFlags := 16409, slot := 8, constantValue := 0 }, { name := "$VALUES", type := (.array (.object "com/example/exact1/exact1/Audit$Outcome")), accessFlags := 4122, slot := 9, constantValue := 0 }]
  methods := #[k7m0, k7m1]
  instanceTypes := #[(.object "java/lang/String"), .int, .int]
  staticTypes := #[(.object "com/example/exact1/exact1/Audit$Outcome"), (.object "com/example/exact1/exact1/Audit$Outcome"), (.object "com/example/exact1/exact1/Audit$Outcome"), (.object "com/example/exact1/exact1/Audit$Outcome"), (.object "com/example/exact1/exact1/Audit$Outcome"), (.object "com/example/exact1/exact1/Audit$Outcome"), (.object "com/example/exact1/exact1/Audit$Outcome"), (.object "com/example/exact1/exact1/Audit$Outcome"), (.object "com/example/exact1/exact1/Audit$Outcome"), (.array (.object "com/example/exact1/exact1/Audit$Outcome"))]
  resolved := Array.replicate 110 none
  statics := some 1 }

def pool8 : Array CpInfo := pool [(8, .class_ 10), (1, u "com/example/exact1/exact1/Audit$1"), (0, u "$SwitchMap$com$example$exact1$exact1$Decision$Kind"), (0, u "[I"), (34, .class_ 48), (0, u "java/lang/Object"), (8, .class_ 58), (0, u "com/example/exact1/exact1/Audit")] 5

/-- com/example/exact1/exact1/Audit$1 -/
def k8 : Class := { plain "com/example/exact1/exact1/Audit$1" (some 0) with
  accessFlags := 4128
  interfaces := #[]
  cf := some (fileOf pool8 8 #[.nestHost 57] #[] 4128 47 #[] #[{ accessFlags := 4120, nameIndex := 11, descriptorIndex := 12, attributes := #[] }])
  fields := #[{ name := "$SwitchMap$com$example$exact1$exact1$Decision$Kind", type := (.array .int), accessFlags := 4120, slot := 0, constantValue := 0 }]
  methods := #[]
  instanceTypes := #[]
  staticTypes := #[(.array .int)]
  resolved := Array.replicate 64 none
  statics := some 2 }

def pool9 : Array CpInfo := pool [(1, u "java/lang/Cloneable"), (0, .class_ 1), (0, u "java/lang/Object"), (0, .class_ 3)] 3

/-- java/lang/Cloneable -/
def k9 : Class := { plain "java/lang/Cloneable" (some 0) with
  accessFlags := 1537
  interfaces := #[]
  cf := some (fileOf pool9 2 #[] #[] 1537 4 #[] #[])
  fields := #[]
  methods := #[]
  instanceTypes := #[]
  staticTypes := #[]
  resolved := Array.replicate 8 none
  statics := none }

/-- the primitive byte -/
def k10 : Class := { plain "byte" none with kind := .primitive 'B', accessFlags := 0x411 }
/-- [B -/
def k11 : Class := { plain "[B" (some 0) with kind := .array 10 .byte, interfaces := #[9, 4], accessFlags := 1041 }

/-- the primitive int -/
def k12 : Class := { plain "int" none with kind := .primitive 'I', accessFlags := 0x411 }
/-- [I -/
def k13 : Class := { plain "[I" (some 0) with kind := .array 12 .int, interfaces := #[9, 4], accessFlags := 1041 }

def heap : Heap := #[{ cls := 6, slots := #[.ref 3, .ref 4, .ref 5, .ref 6, .ref 7, .ref 8, .ref 9, .ref 10, .ref 11, .null], vm := .statics 6 },
  { cls := 7, slots := #[.ref 12, .ref 13, .null, .ref 14, .null, .ref 15, .null, .ref 16, .ref 17, .null], vm := .statics 7 },
  { cls := 8, slots := #[.ref 18], vm := .statics 8 },
  { cls := 6, slots := #[.null, .int 0, .int 0], vm := .none },
  { cls := 6, slots := #[.null, .int 1, .int 0], vm := .none },
  { cls := 6, slots := #[.null, .int 2, .int 0], vm := .none },
  { cls := 6, slots := #[.null, .int 3, .int 0], vm := .none },
  { cls := 6, slots := #[.null, .int 4, .int 0], vm := .none },
  { cls := 6, slots := #[.null, .int 5, .int 0], vm := .none },
  { cls := 6, slots := #[.null, .int 6, .int 0], vm := .none },
  { cls := 6, slots := #[.null, .int 7, .int 0], vm := .none },
  { cls := 6, slots := #[.null, .int 8, .int 0], vm := .none },
  { cls := 7, slots := #[.null, .int 0, .int 0], vm := .none },
  { cls := 7, slots := #[.null, .int 1, .int 0], vm := .none },
  { cls := 7, slots := #[.null, .int 2, .int 0], vm := .none },
  { cls := 7, slots := #[.null, .int 3, .int 0], vm := .none },
  { cls := 7, slots := #[.null, .int 4, .int 0], vm := .none },
  { cls := 7, slots := #[.null, .int 5, .int 0], vm := .none },
  { cls := 13, slots := #[.int 7, .int 2, .int 4, .int 3, .int 1, .int 6, .int 5, .int 8, .int 9], vm := .none }]
def classes : Array Class := #[k0, k1, k2, k3, k4, k5, k6, k7, k8, k9, k10, k11, k12, k13]
def interned : List (Array UInt16 × Addr) := []
def slotsUsed : Nat := 75
def theMethod : MethodId := ⟨1, 1⟩
def args0 : Array Value := #[.int 5]
def aboutOver (below : List Frame) : State where
  vm := { classes := classes, interned := interned.toArray }
  heap := heap
  slotsUsed := slotsUsed
  threads := #[{ frames := .invoking theMethod args0 :: below }]
def below0 : List Frame := [.native { method := ⟨0, 0⟩, args := #[] }]
def about1 : State := aboutOver below0
def p0 : Program := .bare "" "" ""
def e0 : Env := launch0.env 0 0 0
theorem w_frames : about1.frames = Frame.invoking theMethod args0 :: below0 := rfl
set_option maxRecDepth 65536 in
theorem w_args : argsFit about1.vm theMethod args0 = true := by decide +kernel
set_option maxRecDepth 65536 in
theorem w_heap : heapFits about1 = true := by decide +kernel
set_option maxRecDepth 65536 in
theorem w_runnable : about1.curStatus? = some .runnable := by decide +kernel
set_option maxRecDepth 65536 in
theorem w_alone : about1.alone = true := by decide +kernel
set_option maxRecDepth 65536 in
theorem w_named : about1.methodNamed? x = some theMethod := by decide +kernel
set_option maxRecDepth 65536 in
theorem w_hears : about1.hears theMethod below0 = true := by decide +kernel
set_option maxRecDepth 65536 in
theorem w_ripe : about1.ripe theMethod args0 below0 = true := by decide +kernel
theorem w_running : about1.status = .running := rfl
set_option maxRecDepth 65536 in
theorem w_room : about1.hasRoom e0.platform room_1 = true :=
  launch0.hasRoom_least _ room_1 (by decide +kernel) (by decide +kernel) (by decide +kernel) (by decide +kernel) (by decide +kernel) (by decide +kernel)
theorem allAtoms_all (ts : List Jvm.Cond) (a : Array Jvm.Value) (st : Jvm.State) : (allAtoms ts).before a st = ts.all (fun c => c.before a st) := by
  induction ts with
  | nil => rfl
  | cons c t ih =>
    show (Jvm.Cond.and c (allAtoms t)).before a st = _
    rw [Jvm.Cond.before_and, ih, List.all_cons]
def words1 : List Jvm.Cond := Jvm.Cond.code x code maxLocals ret :: tables_1
/-- a 'code' word, met by the world's own term for the bytes: nothing is compared byte by byte -/
theorem code_word {y : MethodName} {bytes : ByteArray} {mx : Nat} {rt : Option FieldType} {a : Array Value} {s : State} {m : MethodId} {meth : Method} {c : Code} (h1 : s.methodNamed? y = some m) (h2 : s.vm.method? m = some meth) (h3 : meth.code = some c) (h4 : c.code = bytes)
    (h5 : (c.maxLocals == mx && c.exceptionTable.isEmpty && decide (c.maxStack ≤ mostOperands) && decide (meth.sig.returnType = rt) && !meth.locks && decide (parseMethodDescriptor y.desc = some meth.sig)) = true) : (Jvm.Cond.code y bytes mx rt).before a s = true := by
  simp only [Bool.and_eq_true, beq_iff_eq, Bool.not_eq_true', decide_eq_true_eq] at h5
  obtain ⟨⟨⟨⟨⟨g1, g2⟩, g3⟩, g4⟩, g5⟩, g6⟩ := h5
  simp [Cond.before, Cond.holds, Cond.value, h1, h2, h3, h4, g1, g2, g3, g4, g5, g6]
def isCode : Jvm.Cond → Bool
  | .code _ _ _ _ => true
  | _ => false
theorem all_split {L : List Jvm.Cond} {P : Jvm.Cond → Bool} (h1 : L.all (fun c => isCode c || P c) = true) (h2 : ∀ c ∈ L.filter isCode, P c = true) : L.all P = true := by
  refine List.all_eq_true.mpr fun c hc => ?_
  have h := List.all_eq_true.mp h1 c hc
  rcases Bool.eq_false_or_eq_true (isCode c) with hi | hi
  · exact h2 c (List.mem_filter.mpr ⟨hc, hi⟩)
  · simpa [hi] using h
set_option maxRecDepth 65536 in
theorem w_c0 : (Jvm.Cond.code x code maxLocals ret).before args0 about1 = true := code_word (m := ⟨1, 1⟩) (meth := k1m1) (c := k1c1) (by decide +kernel) rfl rfl rfl (by decide +kernel)
set_option maxRecDepth 65536 in
theorem w_c1 : (Jvm.Cond.code ({ cls := "com/example/exact1/exact1/Audit$Outcome", name := "ofEvent", desc := "(Lcom/example/exact1/exact1/Decision$Kind;)Lcom/example/exact1/exact1/Audit$Outcome;" } : Jvm.MethodName) prog_5_method_5_code (1 : Nat) (Option.some (Jvm.ClassFile.FieldType.object "com/example/exact1/exact1/Audit$Outcome"))).before args0 about1 = true := code_word (m := ⟨7, 1⟩) (meth := k7m1) (c := k7c1) (by decide +kernel) rfl rfl rfl (by decide +kernel)
set_option maxRecDepth 65536 in
theorem w_c2 : (Jvm.Cond.code ({ cls := "com/example/exact1/exact1/Audit$Outcome", name := "ofRequest", desc := "(Lcom/example/exact1/exact1/Decision$Kind;)Lcom/example/exact1/exact1/Audit$Outcome;" } : Jvm.MethodName) prog_5_method_4_code (1 : Nat) (Option.some (Jvm.ClassFile.FieldType.object "com/example/exact1/exact1/Audit$Outcome"))).before args0 about1 = true := code_word (m := ⟨7, 0⟩) (meth := k7m0) (c := k7c0) (by decide +kernel) rfl rfl rfl (by decide +kernel)
set_option maxRecDepth 65536 in
theorem w_c3 : (Jvm.Cond.code ({ cls := "java/lang/Enum", name := "ordinal", desc := "()I" } : Jvm.MethodName) jdk_37_method_2_code (1 : Nat) (Option.some Jvm.ClassFile.FieldType.int)).before args0 about1 = true := code_word (m := ⟨5, 0⟩) (meth := k5m0) (c := k5c0) (by decide +kernel) rfl rfl rfl (by decide +kernel)
def codes1 : List Jvm.Cond := [Jvm.Cond.code x code maxLocals ret, Jvm.Cond.code ({ cls := "com/example/exact1/exact1/Audit$Outcome", name := "ofEvent", desc := "(Lcom/example/exact1/exact1/Decision$Kind;)Lcom/example/exact1/exact1/Audit$Outcome;" } : Jvm.MethodName) prog_5_method_5_code (1 : Nat) (Option.some (Jvm.ClassFile.FieldType.object "com/example/exact1/exact1/Audit$Outcome")), Jvm.Cond.code ({ cls := "com/example/exact1/exact1/Audit$Outcome", name := "ofRequest", desc := "(Lcom/example/exact1/exact1/Decision$Kind;)Lcom/example/exact1/exact1/Audit$Outcome;" } : Jvm.MethodName) prog_5_method_4_code (1 : Nat) (Option.some (Jvm.ClassFile.FieldType.object "com/example/exact1/exact1/Audit$Outcome")), Jvm.Cond.code ({ cls := "java/lang/Enum", name := "ordinal", desc := "()I" } : Jvm.MethodName) jdk_37_method_2_code (1 : Nat) (Option.some Jvm.ClassFile.FieldType.int)]
set_option maxRecDepth 65536 in
theorem codes_eq : words1.filter isCode = codes1 := rfl
theorem w_codes : ∀ c ∈ words1.filter isCode, c.before args0 about1 = true := by
  rw [codes_eq]
  intro c hc
  simp only [codes1, List.mem_cons, List.not_mem_nil, or_false] at hc
  rcases hc with rfl | rfl | rfl | rfl
  · exact w_c0
  · exact w_c1
  · exact w_c2
  · exact w_c3
set_option maxRecDepth 65536 in
theorem w_t1 : (words1.take 24).all (fun c => isCode c || c.before args0 about1) = true := by decide +kernel
set_option maxRecDepth 65536 in
theorem w_t2 : ((words1.drop 24).take 24).all (fun c => isCode c || c.before args0 about1) = true := by decide +kernel
set_option maxRecDepth 65536 in
theorem w_t3 : ((words1.drop 24).drop 24).all (fun c => isCode c || c.before args0 about1) = true := by decide +kernel
theorem w_tables : (allAtoms (Jvm.Cond.code x code maxLocals ret :: tables_1)).before args0 about1 = true := by
  rw [allAtoms_all]
  show words1.all (fun c => c.before args0 about1) = true
  refine all_split ?_ w_codes
  rw [← List.take_append_drop 24 words1, List.all_append, w_t1, ← List.take_append_drop 24 (words1.drop 24), List.all_append, w_t2, w_t3]
  rfl
set_option maxRecDepth 65536 in
theorem w_case : (Jvm.Cond.and given_1 narrow_1).before args0 about1 = true := by decide +kernel
theorem w_applies : (headSpec (Jvm.Cond.code x code maxLocals ret :: tables_1) room_1).applies x e0.platform about1 = true :=
  (Spec.applies_iff w_frames).mpr ⟨w_running, w_runnable, w_alone, w_named, w_hears, w_ripe, w_room, w_tables⟩
theorem atStart : AtStart classFile x code maxLocals ret World_1 tables_1 room_1 Calls_1 rest_1 Pre_1 launch0 p0 e0 about1 theMethod args0 below0 :=
  ⟨lists_1, trivial, launch0.admits_env _ _ _, launch0.least_env, fairChoices_fair.cas, fairChoices_fair.clock, w_frames, w_args, w_heap, w_applies, trivial, trivial, w_case⟩
end start1
theorem witness_1 : WitnessClaimed_1 := ⟨start1.p0, start1.e0, start1.about1, start1.theMethod, start1.args0, start1.below0, start1.atStart⟩
end Jvm.Pilot.@@N@@
