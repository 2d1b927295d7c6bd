import JvmDerived
import JvmDerived.Pilot.@@N@@Statement
import JvmDerived.Pilot.@@N@@Code
set_option linter.unusedVariables false
set_option linter.unusedSimpArgs false
@@BLOCK:NumsL.lean.txt@@
namespace Jvm.RoadKit
open Sem ClassFile Op Lib Jvm.Stand Jvm.Free Jvm.LawKit
section New
variable {p : Program} {l : Launch} {e : Env} {R : Room} {s : State} {m : MethodId} {args : Array Value} {below : List Frame} {meth : Method} {c : Code} {T : State} {locs : List Loc} {cells slots : Nat}
theorem retI (X : Stand p l e R s m args below meth c T locs cells slots) (hx : p.tables.exec = Jvm.exec) {pc : Nat} {Ls : Array Slot} {z : Int32} {rest : List Value} (hret : meth.sig.returnType = some .int) (hd : decode c.code pc = .ok (.ireturn, 1)) {fs : List Frame}
    (hl : ∀ (f : JFrame) (acts : List Action), f.method = m → f.locked = none → f.entered = [] → (doReturn e (T.setTop f) acts (some (.int z))).1 = T.setFrames fs) : Steps p.tables e below (T.setTop (mkF m pc Ls (.int z :: rest))) (T.setFrames fs) := by
  have hm' : T.vm.method? m = some meth := X.method'
  have hn : narrow .int (.int z) = .int z := rfl
  show Steps p.tables e below (T.setTop { method := m, pc := pc, locals := Ls, stack := _ :: rest, locked := none }) _
  jvm_step X.here [X.here.top, hx, hd, hm', hret, hn]
  first | (intro acts; rw [hl _ acts rfl rfl rfl]) | rw [hl _ _ rfl rfl rfl]
  exact Steps.refl _
end New
end Jvm.RoadKit
namespace Jvm.Pilot.@@N@@
open Jvm Jvm.ClassFile Sem Op Lib Jvm.Free Jvm.Stand Jvm.LawKit Jvm.RoadKit Bundle Jvm.Pilot.@@N@@.Jvm.D
theorem Wd {Z : State} {a0 : Array Value} {d : Jvm.Cond} (hw : ∀ d ∈ tables_1, d.before a0 Z = true) (i : Nat) (h : tables_1[i]? = some d) : d.before a0 Z = true := hw _ (List.mem_of_getElem? h)
theorem own_sz {Z : State} {n0 : Nat} {h : Heap} (O : Old Z n0 h) : n0 ≤ h.size := O.1 ▸ O.2.1
theorem own_neArv {Z : State} {h : Heap} {a b : Addr} {k k' : ClassId} {ty ty' : FieldType} {z z' : Int32} {vs vs' : List Value} {d d' : Value} (F : Arv Z h a k ty z vs d) (G : Arv Z h b k' ty' z' vs' d') (hn : ty ≠ ty') : a ≠ b := fun q => by
  subst q
  obtain ⟨c1, ⟨e1, ⟨-, k1, hk1, cp1, hd1⟩, -⟩, -⟩ := F
  obtain ⟨c2, ⟨e2, ⟨-, k2, hk2, cp2, hd2⟩, -⟩, -⟩ := G
  cases e1.symm.trans e2
  cases hk1.symm.trans hk2
  rw [hd1] at hd2
  injection hd2 with _ h2
  exact hn h2
theorem own_fi {args : Array Value} {s : State} {t : Term} {a : Addr} {C n d : String} {k : Int32} (ht : t.eval args s none [] s = some (.ref a)) (h : (Jvm.Cond.eq (Jvm.Term.field t C n d) (Jvm.Term.int k)).value args s none s [] = some true) : s.fieldOf? a C n d = some (.int k) := by
  have e := fld_at (C := C) (n := n) (dd := d) ht
  obtain ⟨v, w, h1, h2, h3, h4⟩ := cmp_v (Or.inl h)
  cases (Term.int_eval k).symm.trans h2
  obtain ⟨z, rfl⟩ := h4
  rw [← e, h1]
  simp only [Cond.value, h1, Term.int_eval] at h
  simpa using h
theorem own_len {args : Array Value} {s : State} {t : Term} {a : Addr} {cl : Cell} {ty : FieldType} {z : Int32} (A : Arr s s.heap a cl ty) (ev : t.eval args s none [] s = some (.ref a)) (h : (Jvm.Cond.eq (Jvm.Term.length t) (Jvm.Term.int z)).value args s none s [] = some true) : cl.slots.size < 2 ^ 31 ∧ cl.slots.size.toInt32 = z := by
  have e := Cond.eq_int (beq_iff_eq.mpr h) (Term.int_eval z)
  have hA : s.arrayAt? a = some cl := IntBox.arrayAt_of A.1 A.2.1 A.2.2
  by_cases q : cl.slots.size < 2 ^ 31
  · refine ⟨q, ?_⟩
    have r := len_f ev hA q
    rw [r] at e
    injection e with e
    injection e
  · exfalso
    simp [Term.eval, ev, hA] at e
    omega
theorem own_eli {args : Array Value} {s : State} {t : Term} {a : Addr} {cl : Cell} {j k : Int32} (hc : s.heap[a]? = some cl) (ev : t.eval args s none [] s = some (.ref a)) (h : (Jvm.Cond.eq (Jvm.Term.elem t (Jvm.Term.int j)) (Jvm.Term.int k)).value args s none s [] = some true) : cl.slots[j.toNatClampNeg]? = some (.int k) :=
  (elem_in (Cond.eq_int (beq_iff_eq.mpr h) (Term.int_eval k)) ev (Term.int_eval j) hc).2
theorem own_elr {args : Array Value} {s : State} {t u : Term} {a b : Addr} {cl : Cell} {j : Int32} (hc : s.heap[a]? = some cl) (ev : t.eval args s none [] s = some (.ref a)) (eu : u.eval args s none [] s = some (.ref b)) (h : (Jvm.Cond.eq (Jvm.Term.elem t (Jvm.Term.int j)) u).value args s none s [] = some true) : cl.slots[j.toNatClampNeg]? = some (.ref b) := by
  obtain ⟨v, w, h1, h2, h3, h4⟩ := cmp_v (Or.inl h)
  cases eu.symm.trans h2
  have hv : v = .ref b := gotT (eq_R h1 h2 h4.2 rfl) h
  rw [hv] at h1
  exact (elem_in h1 ev (Term.int_eval j) hc).2
theorem own_shr0 (x : Int32) : x >>> ((0 : Int32) &&& 31) = x := by
  have h : ((0 : Int32) &&& 31) = 0 := by decide
  rw [h]
  apply Int32.toBitVec_inj.mp
  simp
theorem own_b2 (x : Int32) : (x.toInt8.toInt32).toInt8.toInt32 = x.toInt8.toInt32 := by
  have h : x.toInt8.toInt32.toInt8 = x.toInt8 := by
    apply Int8.toInt_inj.mp
    rw [Int32.toInt_toInt8, Int8.toInt_toInt32]
    have h2 := x.toInt8.toInt_lt; have h3 := x.toInt8.le_toInt
    rw [Int.bmod_eq_of_le] <;> omega
  rw [h]
theorem own_nari2c (x : Int32) : nar .char (x.toUInt32.toUInt16.toUInt32.toInt32) = x.toUInt32.toUInt16.toUInt32.toInt32 := by
  show (x.toUInt32.toUInt16.toUInt32.toInt32).toUInt32.toUInt16.toUInt32.toInt32 = _
  rw [UInt32.toUInt32_toInt32, UInt16.toUInt16_toUInt32]
theorem own_nar255 (x : Int32) : nar .char (x &&& (255 : Int32)) = x &&& (255 : Int32) := i2c_mask x
theorem own_and255 (x : Int32) : ¬ ((255 : Int32) < x &&& (255 : Int32)) ∧ ¬ (x &&& (255 : Int32) < (0 : Int32)) := by
  have e := Jvm.Kit.i32_mask x 255 (k := 8) (by decide) (by decide)
  have h1 := Int.emod_nonneg x.toInt (show (2 : Int) ^ 8 ≠ 0 by decide)
  have h2 := Int.emod_lt_of_pos x.toInt (show (0 : Int) < 2 ^ 8 by decide)
  have e1 : (255 : Int32).toInt = 255 := rfl
  have e0 : (0 : Int32).toInt = 0 := rfl
  constructor <;> rw [Int32.lt_iff_toInt_lt] <;> omega
theorem own_utf (c : Int32) (h : nar .char c = c) : nar .char ((((c.toInt8.toInt32) &&& (255 : Int32)) <<< ((0 : Int32) &&& 31) ||| ((((c >>> ((8 : Int32) &&& 31)).toInt8.toInt32) &&& (255 : Int32)) <<< ((8 : Int32) &&& 31))).toUInt32.toUInt16.toUInt32.toInt32) = c := by
  have h8 : ((8 : Int32) &&& 31) = 8 := by decide
  have h0 : ((0 : Int32) &&& 31) = 0 := by decide
  rw [h8, h0]
  refine Eq.trans ?_ h
  simp only [nar]
  apply Int32.toBitVec_inj.mp
  have e8 : (8 : Int32).toBitVec.smod 32 = 8#32 := by decide
  have e0 : (0 : Int32).toBitVec.smod 32 = 0#32 := by decide
  have e255 : (255 : Int32).toBitVec = 255#32 := by decide
  show BitVec.setWidth 32 (BitVec.setWidth 16 (BitVec.setWidth 32 (BitVec.setWidth 16 (((BitVec.signExtend 32 (BitVec.signExtend 8 c.toBitVec) &&& (255 : Int32).toBitVec) <<< ((0 : Int32).toBitVec.smod 32)) ||| ((BitVec.signExtend 32 (BitVec.signExtend 8 (c.toBitVec.sshiftRight' ((8 : Int32).toBitVec.smod 32))) &&& (255 : Int32).toBitVec) <<< ((8 : Int32).toBitVec.smod 32)))))) = BitVec.setWidth 32 (BitVec.setWidth 16 c.toBitVec)
  rw [e8, e0, e255]
  generalize c.toBitVec = x
  apply BitVec.eq_of_getLsbD_eq
  intro i hi
  have q : ∀ k, k < 32 → (255#32).getLsbD k = decide (k < 8) := by decide
  have q' : ∀ k (h : k < 32), (255#32)[k] = decide (k < 8) := fun k h => (BitVec.getLsbD_eq_getElem h).symm.trans (q k h)
  simp only [BitVec.getLsbD_setWidth, BitVec.getLsbD_or, BitVec.getLsbD_and, BitVec.getLsbD_signExtend, BitVec.shiftLeft_eq', BitVec.getLsbD_shiftLeft, BitVec.sshiftRight_eq', BitVec.getLsbD_sshiftRight, BitVec.toNat_ofNat, hi]
  by_cases i16 : i < 16
  · by_cases i8 : i < 8
    · have : ¬ (32 ≤ i) := by omega
      simp [i16, i8, hi, q']
    · have a1 : i - 8 < 8 := by omega
      have a2 : i - 8 < 32 := by omega
      have a3 : 8 + (i - 8) = i := by omega
      have a4 : ¬ (32 ≤ i - 8) := by omega
      simp [i16, i8, hi, a1, a2, a3, a4, q']
  · simp [i16]
def EL1 : List (String × Nat) := [("java/lang/String", 7)]
theorem own_EW {Z : State} {a0 : Array Value} (hw : ∀ d ∈ tables_1, d.before a0 Z = true) : EW Z a0 EL1 := (EW.cons (Wd hw 116 rfl) (by decide) EW.nil)
theorem own_wS {Z : State} {a0 : Array Value} (hw : ∀ d ∈ tables_1, d.before a0 Z = true) : ∀ a ∈ Bundle.stringAtoms, a.before a0 Z = true := fun d hd => by
  simp only [Bundle.stringAtoms, List.mem_cons, List.not_mem_nil, or_false] at hd
  rcases hd with rfl | rfl | rfl | rfl | rfl | rfl | rfl
  · exact (Wd hw 7 rfl)
  · exact (Wd hw 6 rfl)
  · exact (Wd hw 24 rfl)
  · exact (Wd hw 34 rfl)
  · exact (Wd hw 32 rfl)
  · exact (Wd hw 117 rfl)
  · exact (Wd hw 118 rfl)
theorem own_safeS {Z : State} {EL : List (String × Nat)} {vm : Vm} {h : Heap} {a : Addr} (hal : Z.vm.Alike vm) (H : CHv Z EL vm h) (F : Fld Z h a "java/lang/String" "value" "[B" .null) (E : Exa Z h a "java/lang/String") : Safe Z EL vm h a := fun ⟨p, hp, u, a', hb, q, hq, S, hy⟩ => by
  obtain ⟨cS, ⟨⟨s1, s2, s3, ⟨cv, kv, iv, s4, s4'⟩, -, s6, -, s8, -, s10, s11, -⟩, hfS, hcS⟩, ⟨kS, k1, k2, k3⟩, -⟩ := S
  obtain ⟨cell, cf, k, i, f, f1, f2, f3, f4, f5, f6, f7⟩ := F
  rcases hy with rfl | rfl
  · cases s1.symm.trans f1
    obtain ⟨kv', z4⟩ := ff_back (U := Wst Z vm h) hal s4
    cases z4.symm.trans f2
    cases s8.symm.trans f7
  · obtain ⟨c2, k2', e1, e2, e3, e4, e5⟩ := E
    cases s10.symm.trans e1
    obtain ⟨hst, k9, hk9, comp, hkind9⟩ := s11
    obtain ⟨kz', hkz', ekz⟩ := hal.2.2 _ _ e3
    have h9 : k9 = kz' := Option.some.inj (hk9.symm.trans hkz')
    have hfS' : vm.findClass "java/lang/String" = some cS := hfS
    rw [hal.findClass] at hfS'
    have hc : q.SA.cls = cS := Option.some.inj (e2.symm.trans hfS')
    have h8 : kz' = kS := Option.some.inj (hkz'.symm.trans (hc ▸ k1))
    rw [h9, h8, k2] at hkind9
    cases hkind9
def GF (Z : State) (cS : Int32) (aRS : Addr) (aEM : Addr) (aUS : Addr) (aSS : Addr) : Prop := Sta Z Z.heap "java/lang/String" "COMPACT_STRINGS" "Z" (.int cS) ∧ ¬ (cS = (0 : Int32)) ∧ Sta Z Z.heap "com/example/metaloom/metaloom/store/Rejection$Reason" "INVALID" "Lcom/example/metaloom/metaloom/store/Rejection$Reason;" (.ref aRS) ∧ Sta Z Z.heap "java/util/OptionalInt" "EMPTY" "Ljava/util/OptionalInt;" (.ref aEM) ∧ Exa Z Z.heap aEM "java/util/OptionalInt" ∧ Fld Z Z.heap aEM "java/util/OptionalInt" "isPresent" "Z" (.int 0) ∧ Sta Z Z.heap "java/lang/Throwable" "UNASSIGNED_STACK" "[Ljava/lang/StackTraceElement;" (.ref aUS) ∧ Sta Z Z.heap "java/lang/Throwable" "SUPPRESSED_SENTINEL" "Ljava/util/List;" (.ref aSS) ∧ Sta Z Z.heap "java/lang/StringUTF16" "$assertionsDisabled" "Z" (.int 1) ∧ Sta Z Z.heap "java/lang/StringUTF16" "HI_BYTE_SHIFT" "I" (.int 0) ∧ Sta Z Z.heap "java/lang/StringUTF16" "LO_BYTE_SHIFT" "I" (.int 8)
theorem d6_0 : decode jdk_52_method_21_code 0 = .ok (.iconst 0, 1) := by decide +kernel
theorem d6_1 : decode jdk_52_method_21_code 1 = .ok (.istore 5, 2) := by decide +kernel
theorem d6_3 : decode jdk_52_method_21_code 3 = .ok (.iload 5, 2) := by decide +kernel
theorem d6_5 : decode jdk_52_method_21_code 5 = .ok (.iload 4, 2) := by decide +kernel
theorem d6_7 : decode jdk_52_method_21_code 7 = .ok (.if_icmp .ge 37, 3) := by decide +kernel
theorem d6_10 : decode jdk_52_method_21_code 10 = .ok (.aload_n 0, 1) := by decide +kernel
theorem d6_11 : decode jdk_52_method_21_code 11 = .ok (.iload_n 1, 1) := by decide +kernel
theorem d6_12 : decode jdk_52_method_21_code 12 = .ok (.caload, 1) := by decide +kernel
theorem d6_13 : decode jdk_52_method_21_code 13 = .ok (.istore 6, 2) := by decide +kernel
theorem d6_15 : decode jdk_52_method_21_code 15 = .ok (.iload 6, 2) := by decide +kernel
theorem d6_17 : decode jdk_52_method_21_code 17 = .ok (.sipush 255, 3) := by decide +kernel
theorem d6_20 : decode jdk_52_method_21_code 20 = .ok (.if_icmp .le 6, 3) := by decide +kernel
theorem d6_26 : decode jdk_52_method_21_code 26 = .ok (.aload_n 2, 1) := by decide +kernel
theorem d6_27 : decode jdk_52_method_21_code 27 = .ok (.iload_n 3, 1) := by decide +kernel
theorem d6_28 : decode jdk_52_method_21_code 28 = .ok (.iload 6, 2) := by decide +kernel
theorem d6_30 : decode jdk_52_method_21_code 30 = .ok (.i2b, 1) := by decide +kernel
theorem d6_31 : decode jdk_52_method_21_code 31 = .ok (.bastore, 1) := by decide +kernel
theorem d6_32 : decode jdk_52_method_21_code 32 = .ok (.iinc 1 1, 3) := by decide +kernel
theorem d6_35 : decode jdk_52_method_21_code 35 = .ok (.iinc 3 1, 3) := by decide +kernel
theorem d6_38 : decode jdk_52_method_21_code 38 = .ok (.iinc 5 1, 3) := by decide +kernel
theorem d6_41 : decode jdk_52_method_21_code 41 = .ok (.goto (-38), 3) := by decide +kernel
theorem d6_44 : decode jdk_52_method_21_code 44 = .ok (.iload 4, 2) := by decide +kernel
theorem d6_46 : decode jdk_52_method_21_code 46 = .ok (.ireturn, 1) := by decide +kernel
theorem pn : plainName "java/lang/StringUTF16" = true := by first | (simp [plainName, overriddenIn]; done) | decide +kernel
abbrev MN_0 : MethodName := ⟨"java/lang/StringUTF16", "compress", "([CI[BII)I"⟩
theorem ef_rmC2_1 (m : MethodId) (a0c : Addr) (a2b : Addr) : entryFrame m #[(.ref a0c), (.int 0), (.ref a2b), (.int 0), (.int 1)] 7 = mkF m 0 #[.val (.ref a0c), .val (.int 0), .val (.ref a2b), .val (.int 0), .val (.int 1), .unset, .unset] [] := by first | (simp [entryFrame, mkF, argsToLocals, Value.category]; done) | rfl
def Q_rmC2_1 (n0 : Nat) (Z : State) (cS : Int32) (aRS : Addr) (aEM : Addr) (aUS : Addr) (aSS : Addr) (a0c : Addr) (a2b : Addr) (k0 : ClassId) (k2 : ClassId) (c0 : Int32) (h0 : Heap) (v : Option Value) (h : Heap) (L : List Loc) : Prop := v = some (.int 1) ∧ Fr n0 L ∧ Keep h0 h [a2b] ∧ (Arv Z h a2b k2 .byte (1 : Int32) [(.int (c0.toInt8.toInt32))] (.int 0))
set_option maxRecDepth 65536 in
set_option maxHeartbeats 40000000 in
theorem rmC2_1 (l : Launch) (Z : State) (a0 : Array Value) (hw : ∀ d ∈ tables_1, d.before a0 Z = true) (ws : List Jvm.Cond) (cS : Int32) (aRS : Addr) (aEM : Addr) (aUS : Addr) (aSS : Addr) (a0c : Addr) (a2b : Addr) (k0 : ClassId) (k2 : ClassId) (c0 : Int32) (h0 : Heap) (n0 : Nat) (O0 : Old Z n0 h0) (GL : GF Z cS aRS aEM aUS aSS) (V_a0c : Arv Z h0 a0c k0 .char (1 : Int32) [(.int c0)] (.int 0)) (V_a2b : Arv Z h0 a2b k2 .byte (1 : Int32) [(.int 0)] (.int 0)) (g_a2b : n0 ≤ a2b) (hc0 : ¬ ((255 : Int32) < c0)) :
    MetFree l MN_0 (head1 (Jvm.Cond.code MN_0 jdk_52_method_21_code 7 (some .int) :: ws) ({ frames := 0, cells := 0, slots := 0, locals := 0 } : Room)) (fun a U => a = #[(.ref a0c), (.int 0), (.ref a2b), (.int 0), (.int 1)] ∧ Z.Warmed39 U.vm ∧ U.heap = h0) (fun _ _ _ _ _ => True) (fun _ U o U' => ∃ v L, o = .returned v ∧ Q_rmC2_1 n0 Z cS aRS aEM aUS aSS a0c a2b k0 k2 c0 h0 v U'.heap L ∧ FrameEnd U o U' L ({ frames := 0, cells := 0, slots := 0, locals := 0 } : Room).cells ({ frames := 0, cells := 0, slots := 0, locals := 0 } : Room).slots) := by
  refine MetFree.of_bodySF (plainFor_of_name pn) hisR ?_
  intro p e s m args below meth c s₁ Bd hml0 hP hK
  obtain ⟨rfl, hZ, hh⟩ := hP
  have hx := Bd.exec
  have hby := Bd.bytes
  have hml : c.maxLocals = 7 := hml0
  have hown : s.vm.findClass "java/lang/StringUTF16" = some m.cls := findClass_of_methodNamed Bd.named
  have hnm := (name_of_methodNamed Bd.named Bd.method).1
  have X0 : Stand p l e ({ frames := 0, cells := 0, slots := 0, locals := 0 } : Room) s m #[(.ref a0c), (.int 0), (.ref a2b), (.int 0), (.int 1)] below meth c s₁ [] 0 0 := Stand.of_body Bd
  have e0 : s₁.heap = h0 := by rw [← hh, Bd.state]; rfl
  have N0 := Fr.nil n0
  have pre0 : ∀ t, Steps p.tables e below (s₁.setTop (mkF m 0 #[.val (.ref a0c), .val (.int 0), .val (.ref a2b), .val (.int 0), .val (.int 1), .unset, .unset] [])) t → Steps p.tables e below (s₁.setTop (entryFrame m #[(.ref a0c), (.int 0), (.ref a2b), (.int 0), (.int 1)] 7)) t := fun t k => castTop (ef_rmC2_1 m a0c a2b) k
  have GL' := GL
  obtain ⟨GCS, GCP, GSR, GSE, GEE, GFE, GSU, GSS, GA16, GHI, GLO⟩ := GL'
  obtain ⟨cl1, Ar1, -, S1, N1_, H1, G1⟩ := id (V_a0c)
  have hin1 : ¬ ((0 : Int32) < 0 ∨ cl1.slots.size ≤ ((0 : Int32)).toNatClampNeg) := inb_of S1 ⟨(by decide), (by decide)⟩
  have hat1 : cl1.slots[((0 : Int32)).toNatClampNeg]? = some (.int c0) := H1.at hin1 rfl
  obtain ⟨cl2, Ar2, q2, S2, N2_, H2, G2⟩ := id (V_a2b)
  have hin2 : ¬ ((0 : Int32) < 0 ∨ cl2.slots.size ≤ ((0 : Int32)).toNatClampNeg) := inb_of S2 ⟨(by decide), (by decide)⟩
  obtain ⟨T2, h2, X2, e2, W2, st2⟩ := stB X0 hx hZ e0 Ar2 (j := (0 : Int32)) hin2 (g := (mkF m 31 #[.val (.ref a0c), .val (.int 0), .val (.ref a2b), .val (.int 0), .val (.int 1), .val (.int 0), .val (.int c0)] [(.int (c0.toInt8.toInt32)), (.int 0), (.ref a2b)])) rfl rfl (hb hby d6_31)
  have K2 : Keep h0 h2 [a2b] := (Keep.refl h0 [a2b]).wr W2 (Or.inl (List.mem_of_getElem? (i := 0) rfl))
  have O2 := O0.wr W2 g_a2b
  have N2 := Fr.snoc X2 N0 g_a2b
  have V2' : Arv Z h2 a2b k2 .byte (1 : Int32) [(.int ((c0.toInt8.toInt32)).toInt8.toInt32)] (.int 0) := Arv.set Ar2 q2 S2 N2_ H2 G2 (fits_nar_byte _) W2 0 rfl (Nat.le_of_ble_eq_true rfl)
  have V2 : Arv Z h2 a2b k2 .byte (1 : Int32) [(.int (c0.toInt8.toInt32))] (.int 0) := by
    rw [own_b2 c0] at V2'
    exact V2'
  obtain ⟨fs, hr, hrun, hended, hW, hsame⟩ := X2.leave (v := some (.int 1)) (fun h => by rw [Bd.returns] at h; cases h)
  refine ⟨_, _, pre0 _ ?_, hrun, hended, _, _, rfl, ?_, ⟨_, rfl⟩, hW, hsame.mono (by decide) (by decide)⟩
  · show Steps p.tables e below (s₁.setTop (mkF m 0 #[.val (.ref a0c), .val (.int 0), .val (.ref a2b), .val (.int 0), .val (.int 1), .unset, .unset] [])) _
    refine XS.iconst X0.here hx rfl (hb hby d6_0) ?_
    refine XS.istore X0.here hx rfl (hb hby d6_1) rfl (l' := #[.val (.ref a0c), .val (.int 0), .val (.ref a2b), .val (.int 0), .val (.int 1), .val (.int 0), .unset]) rfl ?_
    refine XS.iload X0.here hx rfl (hb hby d6_3) rfl ?_
    refine XS.iload X0.here hx rfl (hb hby d6_5) rfl ?_
    show Steps p.tables e below (s₁.setTop (mkF m 7 #[.val (.ref a0c), .val (.int 0), .val (.ref a2b), .val (.int 0), .val (.int 1), .val (.int 0), .unset] [(.int 1), (.int 0)])) _
    refine XS.icmpNo X0.here hx rfl (hb hby d6_7) rfl (tlt (by decide : (0 : Int32) < (1 : Int32))).2.1 ?_
    refine XS.aloadN X0.here hx rfl (hb hby d6_10) rfl rfl ?_
    refine XS.iloadN X0.here hx rfl (hb hby d6_11) rfl ?_
    show Steps p.tables e below (s₁.setTop (mkF m 12 #[.val (.ref a0c), .val (.int 0), .val (.ref a2b), .val (.int 0), .val (.int 1), .val (.int 0), .unset] [(.int 0), (.ref a0c)])) _
    refine X0.caload hx (j := (0 : Int32)) (v := (.int c0)) (by rw [e0]; exact Ar1.1) (State.isArrayOf_alike hZ.alike Ar1.2.1) Ar1.2.2 hin1 hat1 (g := (mkF m 12 #[.val (.ref a0c), .val (.int 0), .val (.ref a2b), .val (.int 0), .val (.int 1), .val (.int 0), .unset] [(.int 0), (.ref a0c)])) rfl rfl (hb hby d6_12) _ ?_
    show Steps p.tables e below (s₁.setTop (mkF m 13 #[.val (.ref a0c), .val (.int 0), .val (.ref a2b), .val (.int 0), .val (.int 1), .val (.int 0), .unset] [(.int c0)])) _
    refine XS.istore X0.here hx rfl (hb hby d6_13) rfl (l' := #[.val (.ref a0c), .val (.int 0), .val (.ref a2b), .val (.int 0), .val (.int 1), .val (.int 0), .val (.int c0)]) rfl ?_
    refine XS.iload X0.here hx rfl (hb hby d6_15) rfl ?_
    refine XS.sipush X0.here hx rfl (hb hby d6_17) ?_
    refine XS.icmpYes X0.here hx rfl (pc0 := 20) (pc' := 26) rfl (hb hby d6_20) rfl (flt hc0).2.2.2 (by decide) (by decide) ?_
    show Steps p.tables e below (s₁.setTop (mkF m 26 #[.val (.ref a0c), .val (.int 0), .val (.ref a2b), .val (.int 0), .val (.int 1), .val (.int 0), .val (.int c0)] [])) _
    refine XS.aloadN X0.here hx rfl (hb hby d6_26) rfl rfl ?_
    refine XS.iloadN X0.here hx rfl (hb hby d6_27) rfl ?_
    refine XS.iload X0.here hx rfl (hb hby d6_28) rfl ?_
    refine XS.i2b X0.here hx rfl (hb hby d6_30) rfl ?_
    show Steps p.tables e below (s₁.setTop (mkF m 31 #[.val (.ref a0c), .val (.int 0), .val (.ref a2b), .val (.int 0), .val (.int 1), .val (.int 0), .val (.int c0)] [(.int (c0.toInt8.toInt32)), (.int 0), (.ref a2b)])) _
    refine st2 _ ?_
    show Steps p.tables e below (T2.setTop (mkF m 32 #[.val (.ref a0c), .val (.int 0), .val (.ref a2b), .val (.int 0), .val (.int 1), .val (.int 0), .val (.int c0)] [])) _
    refine XS.iinc X2.here hx rfl (hb hby d6_32) rfl (l' := #[.val (.ref a0c), .val (.int 1), .val (.ref a2b), .val (.int 0), .val (.int 1), .val (.int 0), .val (.int c0)]) rfl ?_
    refine XS.iinc X2.here hx rfl (hb hby d6_35) rfl (l' := #[.val (.ref a0c), .val (.int 1), .val (.ref a2b), .val (.int 1), .val (.int 1), .val (.int 0), .val (.int c0)]) rfl ?_
    refine XS.iinc X2.here hx rfl (hb hby d6_38) rfl (l' := #[.val (.ref a0c), .val (.int 1), .val (.ref a2b), .val (.int 1), .val (.int 1), .val (.int 1), .val (.int c0)]) rfl ?_
    refine XS.goto X2.here hx rfl (pc0 := 41) (pc' := 3) rfl (hb hby d6_41) (by decide) (by decide) ?_
    show Steps p.tables e below (T2.setTop (mkF m 3 #[.val (.ref a0c), .val (.int 1), .val (.ref a2b), .val (.int 1), .val (.int 1), .val (.int 1), .val (.int c0)] [])) _
    refine XS.iload X2.here hx rfl (hb hby d6_3) rfl ?_
    refine XS.iload X2.here hx rfl (hb hby d6_5) rfl ?_
    refine XS.icmpYes X2.here hx rfl (pc0 := 7) (pc' := 44) rfl (hb hby d6_7) rfl (flt (by decide : ¬ ((1 : Int32) < (1 : Int32)))).2.1 (by decide) (by decide) ?_
    refine XS.iload X2.here hx rfl (hb hby d6_44) rfl ?_
    show Steps p.tables e below (T2.setTop (mkF m 46 #[.val (.ref a0c), .val (.int 1), .val (.ref a2b), .val (.int 1), .val (.int 1), .val (.int 1), .val (.int c0)] [(.int 1)])) _
    exact retI X2 hx Bd.returns (hb hby d6_46) hr
  · show Q_rmC2_1 n0 Z cS aRS aEM aUS aSS a0c a2b k0 k2 c0 h0 _ T2.heap _
    rw [e2]
    exact ⟨rfl, N2, K2, V2⟩
theorem d5_0 : decode jdk_52_method_16_code 0 = .ok (.iload_n 2, 1) := by decide +kernel
theorem d5_1 : decode jdk_52_method_16_code 1 = .ok (.newarray .byte, 2) := by decide +kernel
theorem d5_3 : decode jdk_52_method_16_code 3 = .ok (.astore_n 3, 1) := by decide +kernel
theorem d5_4 : decode jdk_52_method_16_code 4 = .ok (.aload_n 0, 1) := by decide +kernel
theorem d5_5 : decode jdk_52_method_16_code 5 = .ok (.iload_n 1, 1) := by decide +kernel
theorem d5_6 : decode jdk_52_method_16_code 6 = .ok (.aload_n 3, 1) := by decide +kernel
theorem d5_7 : decode jdk_52_method_16_code 7 = .ok (.iconst 0, 1) := by decide +kernel
theorem d5_8 : decode jdk_52_method_16_code 8 = .ok (.iload_n 2, 1) := by decide +kernel
theorem d5_9 : decode jdk_52_method_16_code 9 = .ok (.invokestatic 115, 3) := by decide +kernel
theorem pd : parseMethodDescriptor "([CI[BII)I" = some ⟨[(.array .char), .int, (.array .byte), .int, .int], some .int⟩ := by decide +kernel
theorem d5_12 : decode jdk_52_method_16_code 12 = .ok (.istore 4, 2) := by decide +kernel
theorem d5_14 : decode jdk_52_method_16_code 14 = .ok (.iload 4, 2) := by decide +kernel
theorem d5_16 : decode jdk_52_method_16_code 16 = .ok (.iload_n 2, 1) := by decide +kernel
theorem d5_17 : decode jdk_52_method_16_code 17 = .ok (.if_icmp .eq 40, 3) := by decide +kernel
theorem d5_57 : decode jdk_52_method_16_code 57 = .ok (.aload_n 3, 1) := by decide +kernel
theorem d5_58 : decode jdk_52_method_16_code 58 = .ok (.areturn, 1) := by decide +kernel
abbrev MN_1 : MethodName := ⟨"java/lang/StringUTF16", "compress", "([CII)[B"⟩
theorem ef_rmC1_1 (m : MethodId) (a0c : Addr) : entryFrame m #[(.ref a0c), (.int 0), (.int 1)] 6 = mkF m 0 #[.val (.ref a0c), .val (.int 0), .val (.int 1), .unset, .unset, .unset] [] := by first | (simp [entryFrame, mkF, argsToLocals, Value.category]; done) | rfl
def Q_rmC1_1 (n0 : Nat) (Z : State) (cS : Int32) (aRS : Addr) (aEM : Addr) (aUS : Addr) (aSS : Addr) (a0c : Addr) (k0 : ClassId) (c0 : Int32) (h0 : Heap) (v : Option Value) (h : Heap) (L : List Loc) : Prop := ∃ b : Addr, ∃ kb : ClassId, v = some (.ref b) ∧ Fr n0 L ∧ Keep h0 h [] ∧ (h0.size ≤ b) ∧ (Exa Z h b "[B") ∧ (Arv Z h b kb .byte (1 : Int32) [(.int (c0.toInt8.toInt32))] (.int 0))
set_option maxRecDepth 65536 in
set_option maxHeartbeats 40000000 in
theorem rmC1_1 (l : Launch) (Z : State) (a0 : Array Value) (hw : ∀ d ∈ tables_1, d.before a0 Z = true) (ws : List Jvm.Cond) (cS : Int32) (aRS : Addr) (aEM : Addr) (aUS : Addr) (aSS : Addr) (a0c : Addr) (k0 : ClassId) (c0 : Int32) (h0 : Heap) (n0 : Nat) (O0 : Old Z n0 h0) (GL : GF Z cS aRS aEM aUS aSS) (V_a0c : Arv Z h0 a0c k0 .char (1 : Int32) [(.int c0)] (.int 0)) (hc0 : ¬ ((255 : Int32) < c0)) :
    MetFree l MN_1 (head1 (Jvm.Cond.code MN_1 jdk_52_method_16_code 6 (some (.array .byte)) :: ws) ({ frames := 1, cells := 1, slots := 1, locals := 18 } : Room)) (fun a U => a = #[(.ref a0c), (.int 0), (.int 1)] ∧ Z.Warmed39 U.vm ∧ U.heap = h0) (fun _ _ _ _ _ => True) (fun _ U o U' => ∃ v L, o = .returned v ∧ Q_rmC1_1 n0 Z cS aRS aEM aUS aSS a0c k0 c0 h0 v U'.heap L ∧ FrameEnd U o U' L ({ frames := 1, cells := 1, slots := 1, locals := 18 } : Room).cells ({ frames := 1, cells := 1, slots := 1, locals := 18 } : Room).slots) := by
  refine MetFree.of_bodySF (plainFor_of_name pn) hisR ?_
  intro p e s m args below meth c s₁ Bd hml0 hP hK
  obtain ⟨rfl, hZ, hh⟩ := hP
  have hx := Bd.exec
  have hby := Bd.bytes
  have hml : c.maxLocals = 6 := hml0
  have hown : s.vm.findClass "java/lang/StringUTF16" = some m.cls := findClass_of_methodNamed Bd.named
  have hnm := (name_of_methodNamed Bd.named Bd.method).1
  have X0 : Stand p l e ({ frames := 1, cells := 1, slots := 1, locals := 18 } : Room) s m #[(.ref a0c), (.int 0), (.int 1)] below meth c s₁ [] 0 0 := Stand.of_body Bd
  have e0 : s₁.heap = h0 := by rw [← hh, Bd.state]; rfl
  have N0 := Fr.nil n0
  have pre0 : ∀ t, Steps p.tables e below (s₁.setTop (mkF m 0 #[.val (.ref a0c), .val (.int 0), .val (.int 1), .unset, .unset, .unset] [])) t → Steps p.tables e below (s₁.setTop (entryFrame m #[(.ref a0c), (.int 0), (.int 1)] 6)) t := fun t k => castTop (ef_rmC1_1 m a0c) k
  have GL' := GL
  obtain ⟨GCS, GCP, GSR, GSE, GEE, GFE, GSU, GSS, GA16, GHI, GLO⟩ := GL'
  obtain ⟨T1, h1, k1, X1, e1, E1, A1, A1', st1⟩ := newPE X0 hx hZ (Wd hw 24 rfl) e0 (g := (mkF m 1 #[.val (.ref a0c), .val (.int 0), .val (.int 1), .unset, .unset, .unset] [(.int 1)])) rfl (hb hby d5_1) rfl (by decide) (cap := 1) (by decide) (by decide) (by decide) (by decide) (ad := "[B") rfl
  obtain ⟨b1, g1⟩ : ∃ z, z = h0.size := ⟨_, rfl⟩
  rw [← g1] at A1 A1' st1
  have g_b1 : n0 ≤ b1 := Nat.le_trans (own_sz O0) (Nat.le_of_eq g1.symm)
  have sz_b1 : h0.size ≤ b1 := Nat.le_trans (Keep.refl h0 []).1 (Nat.le_of_eq g1.symm)
  have K1 : Keep h0 h1 [] := (Keep.refl h0 []).ext E1
  have O1 := O0.ext E1
  have V_b1 : Arv Z h1 b1 k1 .byte (1 : Int32) [(.int 0)] (.int 0) := (Arv.new A1 (by decide)).pad (pad_rep [] (.int 0) 1)
  obtain ⟨_, _, ⟨T2, L2, k2, n2⟩, -, X2, ⟨Lc2, hQ2, l2, y2, z2⟩, st2⟩ := Jvm.LawKit.callS X1 hx (y := MN_0) hown (mvT hZ (Wd hw 25 rfl)) (mvT hZ (Wd hw 26 rfl)) (mvT hZ (Wd hw 22 rfl)) (mvT hZ (Wd hw 27 rfl)) (by decide) (backOf (W := 0) (rmC2_1 l Z a0 hw [] cS aRS aEM aUS aSS (a0c) (b1) (k0) (k1) (c0) (h1) n0 O1 GL (V_a0c.ext E1) V_b1 g_b1 hc0) hZ (Wd hw 27 rfl) (Wd hw 22 rfl) (by decide) (by decide)) (g := (mkF m 9 #[.val (.ref a0c), .val (.int 0), .val (.int 1), .val (.ref b1), .unset, .unset] [(.int 1), (.int 0), (.ref b1), (.int 0), (.ref a0c)])) rfl (by rw [hml]; rfl) (argsL := [(.ref a0c), (.int 0), (.ref b1), (.int 0), (.int 1)]) (rest := []) (lenOf pd rfl) rfl (by show 2 * 0 + _ ≤ _; exact Nat.le_of_eq rfl) (hb hby d5_9) (fun _ _ => ⟨rfl, e1, (by decide : 1 + 0 ≤ _), (by decide : 1 + 0 ≤ _)⟩)
  dsimp only [Pt.U, Pt.locs, Pt.cells, Pt.slots] at X2 l2 y2 z2 st2 hQ2
  subst l2 y2 z2
  obtain ⟨rfl, N2q, Kc2, P2_0⟩ := hQ2
  have K2 : Keep h0 T2.heap [] := K1.trans Kc2 (allS (Or.inr sz_b1) all0)
  have O2 := O1.keep Kc2 (allS g_b1 all0)
  have N2 := Fr.app N0 N2q
  obtain ⟨fs, hr, hrun, hended, hW, hsame⟩ := X2.leave (v := some (.ref b1)) (fun h => by rw [Bd.returns] at h; cases h)
  refine ⟨_, _, pre0 _ ?_, hrun, hended, _, _, rfl, ?_, ⟨_, rfl⟩, hW, hsame.mono (by decide) (by decide)⟩
  · show Steps p.tables e below (s₁.setTop (mkF m 0 #[.val (.ref a0c), .val (.int 0), .val (.int 1), .unset, .unset, .unset] [])) _
    refine XS.iloadN X0.here hx rfl (hb hby d5_0) rfl ?_
    show Steps p.tables e below (s₁.setTop (mkF m 1 #[.val (.ref a0c), .val (.int 0), .val (.int 1), .unset, .unset, .unset] [(.int 1)])) _
    refine st1 _ ?_
    show Steps p.tables e below (T1.setTop (mkF m 3 #[.val (.ref a0c), .val (.int 0), .val (.int 1), .unset, .unset, .unset] [(.ref b1)])) _
    refine XS.astoreN X1.here hx rfl (hb hby d5_3) rfl rfl (l' := #[.val (.ref a0c), .val (.int 0), .val (.int 1), .val (.ref b1), .unset, .unset]) rfl ?_
    refine XS.aloadN X1.here hx rfl (hb hby d5_4) rfl rfl ?_
    refine XS.iloadN X1.here hx rfl (hb hby d5_5) rfl ?_
    refine XS.aloadN X1.here hx rfl (hb hby d5_6) rfl rfl ?_
    show Steps p.tables e below (T1.setTop (mkF m 7 #[.val (.ref a0c), .val (.int 0), .val (.int 1), .val (.ref b1), .unset, .unset] [(.ref b1), (.int 0), (.ref a0c)])) _
    refine XS.iconst X1.here hx rfl (hb hby d5_7) ?_
    refine XS.iloadN X1.here hx rfl (hb hby d5_8) rfl ?_
    show Steps p.tables e below (T1.setTop (mkF m 9 #[.val (.ref a0c), .val (.int 0), .val (.int 1), .val (.ref b1), .unset, .unset] [(.int 1), (.int 0), (.ref b1), (.int 0), (.ref a0c)])) _
    refine st2 _ ?_
    show Steps p.tables e below (T2.setTop (mkF m 12 #[.val (.ref a0c), .val (.int 0), .val (.int 1), .val (.ref b1), .unset, .unset] [(.int 1)])) _
    refine XS.istore X2.here hx rfl (hb hby d5_12) rfl (l' := #[.val (.ref a0c), .val (.int 0), .val (.int 1), .val (.ref b1), .val (.int 1), .unset]) rfl ?_
    refine XS.iload X2.here hx rfl (hb hby d5_14) rfl ?_
    refine XS.iloadN X2.here hx rfl (hb hby d5_16) rfl ?_
    refine XS.icmpYes X2.here hx rfl (pc0 := 17) (pc' := 57) rfl (hb hby d5_17) rfl (teq (by decide : (1 : Int32) = (1 : Int32))).1 (by decide) (by decide) ?_
    show Steps p.tables e below (T2.setTop (mkF m 57 #[.val (.ref a0c), .val (.int 0), .val (.int 1), .val (.ref b1), .val (.int 1), .unset] [])) _
    refine XS.aloadN X2.here hx rfl (hb hby d5_57) rfl rfl ?_
    show Steps p.tables e below (T2.setTop (mkF m 58 #[.val (.ref a0c), .val (.int 0), .val (.int 1), .val (.ref b1), .val (.int 1), .unset] [(.ref b1)])) _
    jvm_step X2.here [X2.here.top, hx, (hb hby d5_58), X2.method', Bd.returns, Value.isRef, FieldType.isReference]
    first | (intro acts; rw [hr _ acts rfl rfl rfl]) | rw [hr _ _ rfl rfl rfl]
    exact Steps.refl _
  · show Q_rmC1_1 n0 Z cS aRS aEM aUS aSS a0c k0 c0 h0 _ T2.heap _
    exact ⟨b1, k1, rfl, N2, K2, sz_b1, (A1'.keep Kc2), P2_0⟩
theorem d6_23 : decode jdk_52_method_21_code 23 = .ok (.iload 5, 2) := by decide +kernel
theorem d6_25 : decode jdk_52_method_21_code 25 = .ok (.ireturn, 1) := by decide +kernel
def Q_rmC2_1u0 (n0 : Nat) (Z : State) (cS : Int32) (aRS : Addr) (aEM : Addr) (aUS : Addr) (aSS : Addr) (a0c : Addr) (a2b : Addr) (k0 : ClassId) (k2 : ClassId) (c0 : Int32) (h0 : Heap) (v : Option Value) (h : Heap) (L : List Loc) : Prop := v = some (.int 0) ∧ Fr n0 L ∧ Keep h0 h [a2b] ∧ (Arv Z h a2b k2 .byte (1 : Int32) [(.int 0)] (.int 0))
set_option maxRecDepth 65536 in
set_option maxHeartbeats 40000000 in
theorem rmC2_1u0 (l : Launch) (Z : State) (a0 : Array Value) (hw : ∀ d ∈ tables_1, d.before a0 Z = true) (ws : List Jvm.Cond) (cS : Int32) (aRS : Addr) (aEM : Addr) (aUS : Addr) (aSS : Addr) (a0c : Addr) (a2b : Addr) (k0 : ClassId) (k2 : ClassId) (c0 : Int32) (h0 : Heap) (n0 : Nat) (O0 : Old Z n0 h0) (GL : GF Z cS aRS aEM aUS aSS) (V_a0c : Arv Z h0 a0c k0 .char (1 : Int32) [(.int c0)] (.int 0)) (V_a2b : Arv Z h0 a2b k2 .byte (1 : Int32) [(.int 0)] (.int 0)) (g_a2b : n0 ≤ a2b) (hcj : (255 : Int32) < c0) :
    MetFree l MN_0 (head1 (Jvm.Cond.code MN_0 jdk_52_method_21_code 7 (some .int) :: ws) ({ frames := 0, cells := 0, slots := 0, locals := 0 } : Room)) (fun a U => a = #[(.ref a0c), (.int 0), (.ref a2b), (.int 0), (.int 1)] ∧ Z.Warmed39 U.vm ∧ U.heap = h0) (fun _ _ _ _ _ => True) (fun _ U o U' => ∃ v L, o = .returned v ∧ Q_rmC2_1u0 n0 Z cS aRS aEM aUS aSS a0c a2b k0 k2 c0 h0 v U'.heap L ∧ FrameEnd U o U' L ({ frames := 0, cells := 0, slots := 0, locals := 0 } : Room).cells ({ frames := 0, cells := 0, slots := 0, locals := 0 } : Room).slots) := by
  refine MetFree.of_bodySF (plainFor_of_name pn) hisR ?_
  intro p e s m args below meth c s₁ Bd hml0 hP hK
  obtain ⟨rfl, hZ, hh⟩ := hP
  have hx := Bd.exec
  have hby := Bd.bytes
  have hml : c.maxLocals = 7 := hml0
  have hown : s.vm.findClass "java/lang/StringUTF16" = some m.cls := findClass_of_methodNamed Bd.named
  have hnm := (name_of_methodNamed Bd.named Bd.method).1
  have X0 : Stand p l e ({ frames := 0, cells := 0, slots := 0, locals := 0 } : Room) s m #[(.ref a0c), (.int 0), (.ref a2b), (.int 0), (.int 1)] below meth c s₁ [] 0 0 := Stand.of_body Bd
  have e0 : s₁.heap = h0 := by rw [← hh, Bd.state]; rfl
  have N0 := Fr.nil n0
  have pre0 : ∀ t, Steps p.tables e below (s₁.setTop (mkF m 0 #[.val (.ref a0c), .val (.int 0), .val (.ref a2b), .val (.int 0), .val (.int 1), .unset, .unset] [])) t → Steps p.tables e below (s₁.setTop (entryFrame m #[(.ref a0c), (.int 0), (.ref a2b), (.int 0), (.int 1)] 7)) t := fun t k => castTop (ef_rmC2_1 m a0c a2b) k
  have GL' := GL
  obtain ⟨GCS, GCP, GSR, GSE, GEE, GFE, GSU, GSS, GA16, GHI, GLO⟩ := GL'
  obtain ⟨cl1, Ar1, -, S1, N1_, H1, G1⟩ := id (V_a0c)
  have hin1 : ¬ ((0 : Int32) < 0 ∨ cl1.slots.size ≤ ((0 : Int32)).toNatClampNeg) := inb_of S1 ⟨(by decide), (by decide)⟩
  have hat1 : cl1.slots[((0 : Int32)).toNatClampNeg]? = some (.int c0) := H1.at hin1 rfl
  obtain ⟨fs, hr, hrun, hended, hW, hsame⟩ := X0.leave (v := some (.int 0)) (fun h => by rw [Bd.returns] at h; cases h)
  refine ⟨_, _, pre0 _ ?_, hrun, hended, _, _, rfl, ?_, ⟨_, rfl⟩, hW, hsame.mono (by decide) (by decide)⟩
  · show Steps p.tables e below (s₁.setTop (mkF m 0 #[.val (.ref a0c), .val (.int 0), .val (.ref a2b), .val (.int 0), .val (.int 1), .unset, .unset] [])) _
    refine XS.iconst X0.here hx rfl (hb hby d6_0) ?_
    refine XS.istore X0.here hx rfl (hb hby d6_1) rfl (l' := #[.val (.ref a0c), .val (.int 0), .val (.ref a2b), .val (.int 0), .val (.int 1), .val (.int 0), .unset]) rfl ?_
    refine XS.iload X0.here hx rfl (hb hby d6_3) rfl ?_
    refine XS.iload X0.here hx rfl (hb hby d6_5) rfl ?_
    show Steps p.tables e below (s₁.setTop (mkF m 7 #[.val (.ref a0c), .val (.int 0), .val (.ref a2b), .val (.int 0), .val (.int 1), .val (.int 0), .unset] [(.int 1), (.int 0)])) _
    refine XS.icmpNo X0.here hx rfl (hb hby d6_7) rfl (tlt (by decide : (0 : Int32) < (1 : Int32))).2.1 ?_
    refine XS.aloadN X0.here hx rfl (hb hby d6_10) rfl rfl ?_
    refine XS.iloadN X0.here hx rfl (hb hby d6_11) rfl ?_
    show Steps p.tables e below (s₁.setTop (mkF m 12 #[.val (.ref a0c), .val (.int 0), .val (.ref a2b), .val (.int 0), .val (.int 1), .val (.int 0), .unset] [(.int 0), (.ref a0c)])) _
    refine X0.caload hx (j := (0 : Int32)) (v := (.int c0)) (by rw [e0]; exact Ar1.1) (State.isArrayOf_alike hZ.alike Ar1.2.1) Ar1.2.2 hin1 hat1 (g := (mkF m 12 #[.val (.ref a0c), .val (.int 0), .val (.ref a2b), .val (.int 0), .val (.int 1), .val (.int 0), .unset] [(.int 0), (.ref a0c)])) rfl rfl (hb hby d6_12) _ ?_
    show Steps p.tables e below (s₁.setTop (mkF m 13 #[.val (.ref a0c), .val (.int 0), .val (.ref a2b), .val (.int 0), .val (.int 1), .val (.int 0), .unset] [(.int c0)])) _
    refine XS.istore X0.here hx rfl (hb hby d6_13) rfl (l' := #[.val (.ref a0c), .val (.int 0), .val (.ref a2b), .val (.int 0), .val (.int 1), .val (.int 0), .val (.int c0)]) rfl ?_
    refine XS.iload X0.here hx rfl (hb hby d6_15) rfl ?_
    refine XS.sipush X0.here hx rfl (hb hby d6_17) ?_
    refine XS.icmpNo X0.here hx rfl (hb hby d6_20) rfl (tlt hcj).2.2.2 ?_
    show Steps p.tables e below (s₁.setTop (mkF m 23 #[.val (.ref a0c), .val (.int 0), .val (.ref a2b), .val (.int 0), .val (.int 1), .val (.int 0), .val (.int c0)] [])) _
    refine XS.iload X0.here hx rfl (hb hby d6_23) rfl ?_
    show Steps p.tables e below (s₁.setTop (mkF m 25 #[.val (.ref a0c), .val (.int 0), .val (.ref a2b), .val (.int 0), .val (.int 1), .val (.int 0), .val (.int c0)] [(.int 0)])) _
    exact retI X0 hx Bd.returns (hb hby d6_25) hr
  · show Q_rmC2_1u0 n0 Z cS aRS aEM aUS aSS a0c a2b k0 k2 c0 h0 _ s₁.heap _
    rw [e0]
    exact ⟨rfl, N0, (Keep.refl h0 [a2b]), V_a2b⟩
theorem d22_0 : decode jdk_52_method_3_code 0 = .ok (.iload_n 0, 1) := by decide +kernel
theorem d22_1 : decode jdk_52_method_3_code 1 = .ok (.ifCond .ge 11, 3) := by decide +kernel
theorem d22_12 : decode jdk_52_method_3_code 12 = .ok (.iload_n 0, 1) := by decide +kernel
theorem d22_13 : decode jdk_52_method_3_code 13 = .ok (.ldc 20, 2) := by decide +kernel
theorem d22_15 : decode jdk_52_method_3_code 15 = .ok (.if_icmp .lt 40, 3) := by decide +kernel
theorem d22_55 : decode jdk_52_method_3_code 55 = .ok (.iload_n 0, 1) := by decide +kernel
theorem d22_56 : decode jdk_52_method_3_code 56 = .ok (.iconst 1, 1) := by decide +kernel
theorem d22_57 : decode jdk_52_method_3_code 57 = .ok (.ishl, 1) := by decide +kernel
theorem d22_58 : decode jdk_52_method_3_code 58 = .ok (.ireturn, 1) := by decide +kernel
abbrev MN_2 : MethodName := ⟨"java/lang/StringUTF16", "newBytesLength", "(I)I"⟩
theorem ef_rmNbl1 (m : MethodId)  : entryFrame m #[(.int 1)] 1 = mkF m 0 #[.val (.int 1)] [] := by first | (simp [entryFrame, mkF, argsToLocals, Value.category]; done) | rfl
def Q_rmNbl1 (n0 : Nat) (Z : State) (cS : Int32) (aRS : Addr) (aEM : Addr) (aUS : Addr) (aSS : Addr) (h0 : Heap) (v : Option Value) (h : Heap) (L : List Loc) : Prop := v = some (.int 2) ∧ Fr n0 L ∧ h = h0
set_option maxRecDepth 65536 in
set_option maxHeartbeats 40000000 in
theorem rmNbl1 (l : Launch) (Z : State) (a0 : Array Value) (hw : ∀ d ∈ tables_1, d.before a0 Z = true) (ws : List Jvm.Cond) (cS : Int32) (aRS : Addr) (aEM : Addr) (aUS : Addr) (aSS : Addr) (h0 : Heap) (n0 : Nat) (O0 : Old Z n0 h0) (GL : GF Z cS aRS aEM aUS aSS) :
    MetFree l MN_2 (head1 (Jvm.Cond.code MN_2 jdk_52_method_3_code 1 (some .int) :: ws) ({ frames := 0, cells := 0, slots := 0, locals := 0 } : Room)) (fun a U => a = #[(.int 1)] ∧ Z.Warmed39 U.vm ∧ U.heap = h0) (fun _ _ _ _ _ => True) (fun _ U o U' => ∃ v L, o = .returned v ∧ Q_rmNbl1 n0 Z cS aRS aEM aUS aSS h0 v U'.heap L ∧ FrameEnd U o U' L ({ frames := 0, cells := 0, slots := 0, locals := 0 } : Room).cells ({ frames := 0, cells := 0, slots := 0, locals := 0 } : Room).slots) := by
  refine MetFree.of_bodySF (plainFor_of_name pn) hisR ?_
  intro p e s m args below meth c s₁ Bd hml0 hP hK
  obtain ⟨rfl, hZ, hh⟩ := hP
  have hx := Bd.exec
  have hby := Bd.bytes
  have hml : c.maxLocals = 1 := hml0
  have hown : s.vm.findClass "java/lang/StringUTF16" = some m.cls := findClass_of_methodNamed Bd.named
  have hnm := (name_of_methodNamed Bd.named Bd.method).1
  have X0 : Stand p l e ({ frames := 0, cells := 0, slots := 0, locals := 0 } : Room) s m #[(.int 1)] below meth c s₁ [] 0 0 := Stand.of_body Bd
  have e0 : s₁.heap = h0 := by rw [← hh, Bd.state]; rfl
  have N0 := Fr.nil n0
  have pre0 : ∀ t, Steps p.tables e below (s₁.setTop (mkF m 0 #[.val (.int 1)] [])) t → Steps p.tables e below (s₁.setTop (entryFrame m #[(.int 1)] 1)) t := fun t k => castTop (ef_rmNbl1 m ) k
  have GL' := GL
  obtain ⟨GCS, GCP, GSR, GSE, GEE, GFE, GSU, GSS, GA16, GHI, GLO⟩ := GL'
  obtain ⟨fs, hr, hrun, hended, hW, hsame⟩ := X0.leave (v := some (.int 2)) (fun h => by rw [Bd.returns] at h; cases h)
  refine ⟨_, _, pre0 _ ?_, hrun, hended, _, _, rfl, ?_, ⟨_, rfl⟩, hW, hsame.mono (by decide) (by decide)⟩
  · show Steps p.tables e below (s₁.setTop (mkF m 0 #[.val (.int 1)] [])) _
    refine XS.iloadN X0.here hx rfl (hb hby d22_0) rfl ?_
    refine XS.ifYes X0.here hx rfl (pc0 := 1) (pc' := 12) rfl (hb hby d22_1) rfl ((if0 _ _).trans (flt (by decide : ¬ ((1 : Int32) < (0 : Int32)))).2.1) (by decide) (by decide) ?_
    refine XS.iloadN X0.here hx rfl (hb hby d22_12) rfl ?_
    show Steps p.tables e below (s₁.setTop (mkF m 13 #[.val (.int 1)] [(.int 1)])) _
    refine X0.ldcInt hx hown (mvT hZ (Wd hw 128 rfl)) (g := (mkF m 13 #[.val (.int 1)] [(.int 1)])) rfl (hb hby d22_13) _ ?_
    show Steps p.tables e below (s₁.setTop (mkF m 15 #[.val (.int 1)] [(.int 1073741823), (.int 1)])) _
    refine XS.icmpYes X0.here hx rfl (pc0 := 15) (pc' := 55) rfl (hb hby d22_15) rfl (tlt (by decide : (1 : Int32) < (1073741823 : Int32))).1 (by decide) (by decide) ?_
    refine XS.iloadN X0.here hx rfl (hb hby d22_55) rfl ?_
    refine XS.iconst X0.here hx rfl (hb hby d22_56) ?_
    refine XS.ishl X0.here hx rfl (hb hby d22_57) rfl ?_
    show Steps p.tables e below (s₁.setTop (mkF m 58 #[.val (.int 1)] [(.int 2)])) _
    exact retI X0 hx Bd.returns (hb hby d22_58) hr
  · show Q_rmNbl1 n0 Z cS aRS aEM aUS aSS h0 _ s₁.heap _
    rw [e0]
    exact ⟨rfl, N0, rfl⟩
theorem d21_0 : decode jdk_52_method_2_code 0 = .ok (.iload_n 0, 1) := by decide +kernel
theorem d21_1 : decode jdk_52_method_2_code 1 = .ok (.invokestatic 11, 3) := by decide +kernel
theorem pdv1 : parseMethodDescriptor "(I)I" = some ⟨[.int], some .int⟩ := by decide +kernel
theorem d21_4 : decode jdk_52_method_2_code 4 = .ok (.newarray .byte, 2) := by decide +kernel
theorem d21_6 : decode jdk_52_method_2_code 6 = .ok (.areturn, 1) := by decide +kernel
abbrev MN_3 : MethodName := ⟨"java/lang/StringUTF16", "newBytesFor", "(I)[B"⟩
def Q_rmNbf1 (n0 : Nat) (Z : State) (cS : Int32) (aRS : Addr) (aEM : Addr) (aUS : Addr) (aSS : Addr) (h0 : Heap) (v : Option Value) (h : Heap) (L : List Loc) : Prop := ∃ b : Addr, ∃ kb : ClassId, v = some (.ref b) ∧ Fr n0 L ∧ Keep h0 h [] ∧ (h0.size ≤ b) ∧ (Exa Z h b "[B") ∧ (Arv Z h b kb .byte (2 : Int32) [(.int 0), (.int 0)] (.int 0))
set_option maxRecDepth 65536 in
set_option maxHeartbeats 40000000 in
theorem rmNbf1 (l : Launch) (Z : State) (a0 : Array Value) (hw : ∀ d ∈ tables_1, d.before a0 Z = true) (ws : List Jvm.Cond) (cS : Int32) (aRS : Addr) (aEM : Addr) (aUS : Addr) (aSS : Addr) (h0 : Heap) (n0 : Nat) (O0 : Old Z n0 h0) (GL : GF Z cS aRS aEM aUS aSS) :
    MetFree l MN_3 (head1 (Jvm.Cond.code MN_3 jdk_52_method_2_code 1 (some (.array .byte)) :: ws) ({ frames := 1, cells := 1, slots := 2, locals := 12 } : Room)) (fun a U => a = #[(.int 1)] ∧ Z.Warmed39 U.vm ∧ U.heap = h0) (fun _ _ _ _ _ => True) (fun _ U o U' => ∃ v L, o = .returned v ∧ Q_rmNbf1 n0 Z cS aRS aEM aUS aSS h0 v U'.heap L ∧ FrameEnd U o U' L ({ frames := 1, cells := 1, slots := 2, locals := 12 } : Room).cells ({ frames := 1, cells := 1, slots := 2, locals := 12 } : Room).slots) := by
  refine MetFree.of_bodySF (plainFor_of_name pn) hisR ?_
  intro p e s m args below meth c s₁ Bd hml0 hP hK
  obtain ⟨rfl, hZ, hh⟩ := hP
  have hx := Bd.exec
  have hby := Bd.bytes
  have hml : c.maxLocals = 1 := hml0
  have hown : s.vm.findClass "java/lang/StringUTF16" = some m.cls := findClass_of_methodNamed Bd.named
  have hnm := (name_of_methodNamed Bd.named Bd.method).1
  have X0 : Stand p l e ({ frames := 1, cells := 1, slots := 2, locals := 12 } : Room) s m #[(.int 1)] below meth c s₁ [] 0 0 := Stand.of_body Bd
  have e0 : s₁.heap = h0 := by rw [← hh, Bd.state]; rfl
  have N0 := Fr.nil n0
  have pre0 : ∀ t, Steps p.tables e below (s₁.setTop (mkF m 0 #[.val (.int 1)] [])) t → Steps p.tables e below (s₁.setTop (entryFrame m #[(.int 1)] 1)) t := fun t k => castTop (ef_rmNbl1 m ) k
  have GL' := GL
  obtain ⟨GCS, GCP, GSR, GSE, GEE, GFE, GSU, GSS, GA16, GHI, GLO⟩ := GL'
  obtain ⟨_, _, ⟨T1, L1, k1, n1⟩, -, X1, ⟨Lc1, hQ1, l1, y1, z1⟩, st1⟩ := Jvm.LawKit.callS X0 hx (y := MN_2) hown (mvT hZ (Wd hw 125 rfl)) (mvT hZ (Wd hw 126 rfl)) (mvT hZ (Wd hw 22 rfl)) (mvT hZ (Wd hw 127 rfl)) (by decide) (backOf (W := 0) (rmNbl1 l Z a0 hw [] cS aRS aEM aUS aSS  (h0) n0 O0 GL) hZ (Wd hw 127 rfl) (Wd hw 22 rfl) (by decide) (by decide)) (g := (mkF m 1 #[.val (.int 1)] [(.int 1)])) rfl (by rw [hml]; rfl) (argsL := [(.int 1)]) (rest := []) (lenOf pdv1 rfl) rfl (by show 2 * 0 + _ ≤ _; exact Nat.le_of_eq rfl) (hb hby d21_1) (fun _ _ => ⟨rfl, e0, (by decide : 0 + 0 ≤ _), (by decide : 0 + 0 ≤ _)⟩)
  dsimp only [Pt.U, Pt.locs, Pt.cells, Pt.slots] at X1 l1 y1 z1 st1 hQ1
  subst l1 y1 z1
  obtain ⟨rfl, N1q, e1⟩ := hQ1
  have N1 := Fr.app N0 N1q
  obtain ⟨T2, h2, k2, X2, e2, E2, A2, A2', st2⟩ := newPE X1 hx hZ (Wd hw 24 rfl) e1 (g := (mkF m 4 #[.val (.int 1)] [(.int 2)])) rfl (hb hby d21_4) rfl (by decide) (cap := 2) (by decide) (by decide) (by decide) (by decide) (ad := "[B") rfl
  obtain ⟨b2, g2⟩ : ∃ z, z = h0.size := ⟨_, rfl⟩
  rw [← g2] at A2 A2' st2
  have g_b2 : n0 ≤ b2 := Nat.le_trans (own_sz O0) (Nat.le_of_eq g2.symm)
  have sz_b2 : h0.size ≤ b2 := Nat.le_trans (Keep.refl h0 []).1 (Nat.le_of_eq g2.symm)
  have K2 : Keep h0 h2 [] := (Keep.refl h0 []).ext E2
  have O2 := O0.ext E2
  have V_b2 : Arv Z h2 b2 k2 .byte (2 : Int32) [(.int 0), (.int 0)] (.int 0) := (Arv.new A2 (by decide)).pad (pad_rep [] (.int 0) 2)
  obtain ⟨fs, hr, hrun, hended, hW, hsame⟩ := X2.leave (v := some (.ref b2)) (fun h => by rw [Bd.returns] at h; cases h)
  refine ⟨_, _, pre0 _ ?_, hrun, hended, _, _, rfl, ?_, ⟨_, rfl⟩, hW, hsame.mono (by decide) (by decide)⟩
  · show Steps p.tables e below (s₁.setTop (mkF m 0 #[.val (.int 1)] [])) _
    refine XS.iloadN X0.here hx rfl (hb hby d21_0) rfl ?_
    show Steps p.tables e below (s₁.setTop (mkF m 1 #[.val (.int 1)] [(.int 1)])) _
    refine st1 _ ?_
    show Steps p.tables e below (T1.setTop (mkF m 4 #[.val (.int 1)] [(.int 2)])) _
    refine st2 _ ?_
    show Steps p.tables e below (T2.setTop (mkF m 6 #[.val (.int 1)] [(.ref b2)])) _
    jvm_step X2.here [X2.here.top, hx, (hb hby d21_6), X2.method', Bd.returns, Value.isRef, FieldType.isReference]
    first | (intro acts; rw [hr _ acts rfl rfl rfl]) | rw [hr _ _ rfl rfl rfl]
    exact Steps.refl _
  · show Q_rmNbf1 n0 Z cS aRS aEM aUS aSS h0 _ T2.heap _
    rw [e2]
    exact ⟨b2, k2, rfl, N1, K2, sz_b2, A2', V_b2⟩
theorem d23_0 : decode jdk_52_method_4_code 0 = .ok (.getstatic 44, 3) := by decide +kernel
theorem d23_3 : decode jdk_52_method_4_code 3 = .ok (.ifCond .ne 25, 3) := by decide +kernel
theorem d23_28 : decode jdk_52_method_4_code 28 = .ok (.iload_n 1, 1) := by decide +kernel
theorem d23_29 : decode jdk_52_method_4_code 29 = .ok (.iconst 1, 1) := by decide +kernel
theorem d23_30 : decode jdk_52_method_4_code 30 = .ok (.ishl, 1) := by decide +kernel
theorem d23_31 : decode jdk_52_method_4_code 31 = .ok (.istore_n 1, 1) := by decide +kernel
theorem d23_32 : decode jdk_52_method_4_code 32 = .ok (.aload_n 0, 1) := by decide +kernel
theorem d23_33 : decode jdk_52_method_4_code 33 = .ok (.iload_n 1, 1) := by decide +kernel
theorem d23_34 : decode jdk_52_method_4_code 34 = .ok (.iinc 1 1, 3) := by decide +kernel
theorem d23_37 : decode jdk_52_method_4_code 37 = .ok (.iload_n 2, 1) := by decide +kernel
theorem d23_38 : decode jdk_52_method_4_code 38 = .ok (.getstatic 59, 3) := by decide +kernel
theorem d23_41 : decode jdk_52_method_4_code 41 = .ok (.ishr, 1) := by decide +kernel
theorem d23_42 : decode jdk_52_method_4_code 42 = .ok (.i2b, 1) := by decide +kernel
theorem d23_43 : decode jdk_52_method_4_code 43 = .ok (.bastore, 1) := by decide +kernel
theorem d23_44 : decode jdk_52_method_4_code 44 = .ok (.aload_n 0, 1) := by decide +kernel
theorem d23_45 : decode jdk_52_method_4_code 45 = .ok (.iload_n 1, 1) := by decide +kernel
theorem d23_46 : decode jdk_52_method_4_code 46 = .ok (.iload_n 2, 1) := by decide +kernel
theorem d23_47 : decode jdk_52_method_4_code 47 = .ok (.getstatic 63, 3) := by decide +kernel
theorem d23_50 : decode jdk_52_method_4_code 50 = .ok (.ishr, 1) := by decide +kernel
theorem d23_51 : decode jdk_52_method_4_code 51 = .ok (.i2b, 1) := by decide +kernel
theorem d23_52 : decode jdk_52_method_4_code 52 = .ok (.bastore, 1) := by decide +kernel
theorem d23_53 : decode jdk_52_method_4_code 53 = .ok (.return_, 1) := by decide +kernel
abbrev MN_4 : MethodName := ⟨"java/lang/StringUTF16", "putChar", "([BII)V"⟩
theorem ef_rmPc1_0 (m : MethodId) (a0b : Addr) (c0 : Int32) : entryFrame m #[(.ref a0b), (.int 0), (.int c0)] 3 = mkF m 0 #[.val (.ref a0b), .val (.int 0), .val (.int c0)] [] := by first | (simp [entryFrame, mkF, argsToLocals, Value.category]; done) | rfl
def Q_rmPc1_0 (n0 : Nat) (Z : State) (cS : Int32) (aRS : Addr) (aEM : Addr) (aUS : Addr) (aSS : Addr) (a0b : Addr) (c0 : Int32) (k0 : ClassId) (y0 : Int32) (y1 : Int32) (h0 : Heap) (v : Option Value) (h : Heap) (L : List Loc) : Prop := v = none ∧ Fr n0 L ∧ Keep h0 h [a0b] ∧ (Arv Z h a0b k0 .byte (2 : Int32) [(.int (c0.toInt8.toInt32)), (.int ((c0 >>> ((8 : Int32) &&& 31)).toInt8.toInt32))] (.int 0))
set_option maxRecDepth 65536 in
set_option maxHeartbeats 40000000 in
theorem rmPc1_0 (l : Launch) (Z : State) (a0 : Array Value) (hw : ∀ d ∈ tables_1, d.before a0 Z = true) (ws : List Jvm.Cond) (cS : Int32) (aRS : Addr) (aEM : Addr) (aUS : Addr) (aSS : Addr) (a0b : Addr) (c0 : Int32) (k0 : ClassId) (y0 : Int32) (y1 : Int32) (h0 : Heap) (n0 : Nat) (O0 : Old Z n0 h0) (GL : GF Z cS aRS aEM aUS aSS) (V_a0b : Arv Z h0 a0b k0 .byte (2 : Int32) [(.int y0), (.int y1)] (.int 0)) (g_a0b : n0 ≤ a0b) :
    MetFree l MN_4 (head1 (Jvm.Cond.code MN_4 jdk_52_method_4_code 3 none :: ws) ({ frames := 0, cells := 0, slots := 0, locals := 0 } : Room)) (fun a U => a = #[(.ref a0b), (.int 0), (.int c0)] ∧ Z.Warmed39 U.vm ∧ U.heap = h0) (fun _ _ _ _ _ => True) (fun _ U o U' => ∃ v L, o = .returned v ∧ Q_rmPc1_0 n0 Z cS aRS aEM aUS aSS a0b c0 k0 y0 y1 h0 v U'.heap L ∧ FrameEnd U o U' L ({ frames := 0, cells := 0, slots := 0, locals := 0 } : Room).cells ({ frames := 0, cells := 0, slots := 0, locals := 0 } : Room).slots) := by
  refine MetFree.of_bodySF (plainFor_of_name pn) hisR ?_
  intro p e s m args below meth c s₁ Bd hml0 hP hK
  obtain ⟨rfl, hZ, hh⟩ := hP
  have hx := Bd.exec
  have hby := Bd.bytes
  have hml : c.maxLocals = 3 := hml0
  have hown : s.vm.findClass "java/lang/StringUTF16" = some m.cls := findClass_of_methodNamed Bd.named
  have hnm := (name_of_methodNamed Bd.named Bd.method).1
  have X0 : Stand p l e ({ frames := 0, cells := 0, slots := 0, locals := 0 } : Room) s m #[(.ref a0b), (.int 0), (.int c0)] below meth c s₁ [] 0 0 := Stand.of_body Bd
  have e0 : s₁.heap = h0 := by rw [← hh, Bd.state]; rfl
  have N0 := Fr.nil n0
  have pre0 : ∀ t, Steps p.tables e below (s₁.setTop (mkF m 0 #[.val (.ref a0b), .val (.int 0), .val (.int c0)] [])) t → Steps p.tables e below (s₁.setTop (entryFrame m #[(.ref a0b), (.int 0), (.int c0)] 3)) t := fun t k => castTop (ef_rmPc1_0 m a0b c0) k
  have GL' := GL
  obtain ⟨GCS, GCP, GSR, GSE, GEE, GFE, GSU, GSS, GA16, GHI, GLO⟩ := GL'
  obtain ⟨T1, X1, e1, st1⟩ := getS2 X0 hx hZ hown (host := "") (Or.inl (Wd hw 132 rfl)) Via.refl e0 (GA16.ext O0.2) (g := (mkF m 0 #[.val (.ref a0b), .val (.int 0), .val (.int c0)] [])) rfl (hb hby d23_0)
  obtain ⟨T2, X2, e2, st2⟩ := getS2 X1 hx hZ hown (host := "") (Or.inl (Wd hw 133 rfl)) Via.refl e1 (GHI.ext O0.2) (g := (mkF m 38 #[.val (.ref a0b), .val (.int 1), .val (.int c0)] [(.int c0), (.int 0), (.ref a0b)])) rfl (hb hby d23_38)
  obtain ⟨cl3, Ar3, q3, S3, N3_, H3, G3⟩ := id (V_a0b)
  have hin3 : ¬ ((0 : Int32) < 0 ∨ cl3.slots.size ≤ ((0 : Int32)).toNatClampNeg) := inb_of S3 ⟨(by decide), (by decide)⟩
  obtain ⟨T3, h3, X3, e3, W3, st3⟩ := stB X2 hx hZ e2 Ar3 (j := (0 : Int32)) hin3 (g := (mkF m 43 #[.val (.ref a0b), .val (.int 1), .val (.int c0)] [(.int (c0.toInt8.toInt32)), (.int 0), (.ref a0b)])) rfl rfl (hb hby d23_43)
  have K3 : Keep h0 h3 [a0b] := (Keep.refl h0 [a0b]).wr W3 (Or.inl (List.mem_of_getElem? (i := 0) rfl))
  have O3 := O0.wr W3 g_a0b
  have N3 := Fr.snoc X3 N0 g_a0b
  have V3' : Arv Z h3 a0b k0 .byte (2 : Int32) [(.int ((c0.toInt8.toInt32)).toInt8.toInt32), (.int y1)] (.int 0) := Arv.set Ar3 q3 S3 N3_ H3 G3 (fits_nar_byte _) W3 0 rfl (Nat.le_of_ble_eq_true rfl)
  have V3 : Arv Z h3 a0b k0 .byte (2 : Int32) [(.int (c0.toInt8.toInt32)), (.int y1)] (.int 0) := by
    rw [own_b2 c0] at V3'
    exact V3'
  obtain ⟨T4, X4, e4, st4⟩ := getS2 X3 hx hZ hown (host := "") (Or.inl (Wd hw 134 rfl)) Via.refl e3 (GLO.ext O3.2) (g := (mkF m 47 #[.val (.ref a0b), .val (.int 1), .val (.int c0)] [(.int c0), (.int 1), (.ref a0b)])) rfl (hb hby d23_47)
  obtain ⟨cl5, Ar5, q5, S5, N5_, H5, G5⟩ := id (V3)
  have hin5 : ¬ ((1 : Int32) < 0 ∨ cl5.slots.size ≤ ((1 : Int32)).toNatClampNeg) := inb_of S5 ⟨(by decide), (by decide)⟩
  obtain ⟨T5, h5, X5, e5, W5, st5⟩ := stB X4 hx hZ e4 Ar5 (j := (1 : Int32)) hin5 (g := (mkF m 52 #[.val (.ref a0b), .val (.int 1), .val (.int c0)] [(.int ((c0 >>> ((8 : Int32) &&& 31)).toInt8.toInt32)), (.int 1), (.ref a0b)])) rfl rfl (hb hby d23_52)
  have K5 : Keep h0 h5 [a0b] := K3.wr W5 (Or.inl (List.mem_of_getElem? (i := 0) rfl))
  have O5 := O3.wr W5 g_a0b
  have N5 := Fr.snoc X5 N3 g_a0b
  have V5' : Arv Z h5 a0b k0 .byte (2 : Int32) [(.int (c0.toInt8.toInt32)), (.int (((c0 >>> ((8 : Int32) &&& 31)).toInt8.toInt32)).toInt8.toInt32)] (.int 0) := Arv.set Ar5 q5 S5 N5_ H5 G5 (fits_nar_byte _) W5 1 rfl (Nat.le_of_ble_eq_true rfl)
  have V5 : Arv Z h5 a0b k0 .byte (2 : Int32) [(.int (c0.toInt8.toInt32)), (.int ((c0 >>> ((8 : Int32) &&& 31)).toInt8.toInt32))] (.int 0) := by
    rw [own_b2 (c0 >>> ((8 : Int32) &&& 31))] at V5'
    exact V5'
  obtain ⟨fs, hr, hrun, hended, hW, hsame⟩ := X5.leave (v := none) (fun _ => rfl)
  refine ⟨_, _, pre0 _ ?_, hrun, hended, _, _, rfl, ?_, ⟨_, rfl⟩, hW, hsame.mono (by decide) (by decide)⟩
  · show Steps p.tables e below (s₁.setTop (mkF m 0 #[.val (.ref a0b), .val (.int 0), .val (.int c0)] [])) _
    refine st1 _ ?_
    show Steps p.tables e below (T1.setTop (mkF m 3 #[.val (.ref a0b), .val (.int 0), .val (.int c0)] [(.int 1)])) _
    refine XS.ifYes X1.here hx rfl (pc0 := 3) (pc' := 28) rfl (hb hby d23_3) rfl ((if0 _ _).trans (feq (by decide : ¬ ((1 : Int32) = (0 : Int32)))).2) (by decide) (by decide) ?_
    refine XS.iloadN X1.here hx rfl (hb hby d23_28) rfl ?_
    refine XS.iconst X1.here hx rfl (hb hby d23_29) ?_
    refine XS.ishl X1.here hx rfl (hb hby d23_30) rfl ?_
    show Steps p.tables e below (T1.setTop (mkF m 31 #[.val (.ref a0b), .val (.int 0), .val (.int c0)] [(.int 0)])) _
    refine XS.istoreN X1.here hx rfl (hb hby d23_31) rfl (l' := #[.val (.ref a0b), .val (.int 0), .val (.int c0)]) rfl ?_
    refine XS.aloadN X1.here hx rfl (hb hby d23_32) rfl rfl ?_
    refine XS.iloadN X1.here hx rfl (hb hby d23_33) rfl ?_
    refine XS.iinc X1.here hx rfl (hb hby d23_34) rfl (l' := #[.val (.ref a0b), .val (.int 1), .val (.int c0)]) rfl ?_
    show Steps p.tables e below (T1.setTop (mkF m 37 #[.val (.ref a0b), .val (.int 1), .val (.int c0)] [(.int 0), (.ref a0b)])) _
    refine XS.iloadN X1.here hx rfl (hb hby d23_37) rfl ?_
    show Steps p.tables e below (T1.setTop (mkF m 38 #[.val (.ref a0b), .val (.int 1), .val (.int c0)] [(.int c0), (.int 0), (.ref a0b)])) _
    refine st2 _ ?_
    show Steps p.tables e below (T2.setTop (mkF m 41 #[.val (.ref a0b), .val (.int 1), .val (.int c0)] [(.int 0), (.int c0), (.int 0), (.ref a0b)])) _
    refine XS.ishr X2.here hx rfl (hb hby d23_41) rfl ?_
    rw [own_shr0 c0]
    show Steps p.tables e below (T2.setTop (mkF m 42 #[.val (.ref a0b), .val (.int 1), .val (.int c0)] [(.int c0), (.int 0), (.ref a0b)])) _
    refine XS.i2b X2.here hx rfl (hb hby d23_42) rfl ?_
    show Steps p.tables e below (T2.setTop (mkF m 43 #[.val (.ref a0b), .val (.int 1), .val (.int c0)] [(.int (c0.toInt8.toInt32)), (.int 0), (.ref a0b)])) _
    refine st3 _ ?_
    show Steps p.tables e below (T3.setTop (mkF m 44 #[.val (.ref a0b), .val (.int 1), .val (.int c0)] [])) _
    refine XS.aloadN X3.here hx rfl (hb hby d23_44) rfl rfl ?_
    refine XS.iloadN X3.here hx rfl (hb hby d23_45) rfl ?_
    refine XS.iloadN X3.here hx rfl (hb hby d23_46) rfl ?_
    show Steps p.tables e below (T3.setTop (mkF m 47 #[.val (.ref a0b), .val (.int 1), .val (.int c0)] [(.int c0), (.int 1), (.ref a0b)])) _
    refine st4 _ ?_
    show Steps p.tables e below (T4.setTop (mkF m 50 #[.val (.ref a0b), .val (.int 1), .val (.int c0)] [(.int 8), (.int c0), (.int 1), (.ref a0b)])) _
    refine XS.ishr X4.here hx rfl (hb hby d23_50) rfl ?_
    refine XS.i2b X4.here hx rfl (hb hby d23_51) rfl ?_
    show Steps p.tables e below (T4.setTop (mkF m 52 #[.val (.ref a0b), .val (.int 1), .val (.int c0)] [(.int ((c0 >>> ((8 : Int32) &&& 31)).toInt8.toInt32)), (.int 1), (.ref a0b)])) _
    refine st5 _ ?_
    show Steps p.tables e below (T5.setTop (mkF m 53 #[.val (.ref a0b), .val (.int 1), .val (.int c0)] [])) _
    exact X5.returnOut hx Bd.returns (hb hby d23_53) hr
  · show Q_rmPc1_0 n0 Z cS aRS aEM aUS aSS a0b c0 k0 y0 y1 h0 _ T5.heap _
    rw [e5]
    exact ⟨rfl, N5, K5, V5⟩
theorem d20_0 : decode jdk_52_method_14_code 0 = .ok (.iload_n 2, 1) := by decide +kernel
theorem d20_1 : decode jdk_52_method_14_code 1 = .ok (.invokestatic 107, 3) := by decide +kernel
theorem pdv2 : parseMethodDescriptor "(I)[B" = some ⟨[.int], some (.array .byte)⟩ := by decide +kernel
theorem d20_4 : decode jdk_52_method_14_code 4 = .ok (.astore_n 3, 1) := by decide +kernel
theorem d20_5 : decode jdk_52_method_14_code 5 = .ok (.iconst 0, 1) := by decide +kernel
theorem d20_6 : decode jdk_52_method_14_code 6 = .ok (.istore 4, 2) := by decide +kernel
theorem d20_8 : decode jdk_52_method_14_code 8 = .ok (.iload 4, 2) := by decide +kernel
theorem d20_10 : decode jdk_52_method_14_code 10 = .ok (.iload_n 2, 1) := by decide +kernel
theorem d20_11 : decode jdk_52_method_14_code 11 = .ok (.if_icmp .ge 21, 3) := by decide +kernel
theorem d20_14 : decode jdk_52_method_14_code 14 = .ok (.aload_n 3, 1) := by decide +kernel
theorem d20_15 : decode jdk_52_method_14_code 15 = .ok (.iload 4, 2) := by decide +kernel
theorem d20_17 : decode jdk_52_method_14_code 17 = .ok (.aload_n 0, 1) := by decide +kernel
theorem d20_18 : decode jdk_52_method_14_code 18 = .ok (.iload_n 1, 1) := by decide +kernel
theorem d20_19 : decode jdk_52_method_14_code 19 = .ok (.caload, 1) := by decide +kernel
theorem d20_20 : decode jdk_52_method_14_code 20 = .ok (.invokestatic 111, 3) := by decide +kernel
theorem pdv3 : parseMethodDescriptor "([BII)V" = some ⟨[(.array .byte), .int, .int], none⟩ := by decide +kernel
theorem d20_23 : decode jdk_52_method_14_code 23 = .ok (.iinc 1 1, 3) := by decide +kernel
theorem d20_26 : decode jdk_52_method_14_code 26 = .ok (.iinc 4 1, 3) := by decide +kernel
theorem d20_29 : decode jdk_52_method_14_code 29 = .ok (.goto (-21), 3) := by decide +kernel
theorem d20_32 : decode jdk_52_method_14_code 32 = .ok (.aload_n 3, 1) := by decide +kernel
theorem d20_33 : decode jdk_52_method_14_code 33 = .ok (.areturn, 1) := by decide +kernel
abbrev MN_5 : MethodName := ⟨"java/lang/StringUTF16", "toBytes", "([CII)[B"⟩
theorem ef_rmTb1 (m : MethodId) (a0c : Addr) : entryFrame m #[(.ref a0c), (.int 0), (.int 1)] 5 = mkF m 0 #[.val (.ref a0c), .val (.int 0), .val (.int 1), .unset, .unset] [] := by first | (simp [entryFrame, mkF, argsToLocals, Value.category]; done) | rfl
def Q_rmTb1 (n0 : Nat) (Z : State) (cS : Int32) (aRS : Addr) (aEM : Addr) (aUS : Addr) (aSS : Addr) (a0c : Addr) (k0 : ClassId) (c0 : Int32) (h0 : Heap) (v : Option Value) (h : Heap) (L : List Loc) : Prop := ∃ b : Addr, ∃ kb : ClassId, v = some (.ref b) ∧ Fr n0 L ∧ Keep h0 h [] ∧ (h0.size ≤ b) ∧ (Exa Z h b "[B") ∧ (Arv Z h b kb .byte (2 : Int32) [(.int (c0.toInt8.toInt32)), (.int ((c0 >>> ((8 : Int32) &&& 31)).toInt8.toInt32))] (.int 0))
set_option maxRecDepth 65536 in
set_option maxHeartbeats 40000000 in
theorem rmTb1 (l : Launch) (Z : State) (a0 : Array Value) (hw : ∀ d ∈ tables_1, d.before a0 Z = true) (ws : List Jvm.Cond) (cS : Int32) (aRS : Addr) (aEM : Addr) (aUS : Addr) (aSS : Addr) (a0c : Addr) (k0 : ClassId) (c0 : Int32) (h0 : Heap) (n0 : Nat) (O0 : Old Z n0 h0) (GL : GF Z cS aRS aEM aUS aSS) (V_a0c : Arv Z h0 a0c k0 .char (1 : Int32) [(.int c0)] (.int 0)) :
    MetFree l MN_5 (head1 (Jvm.Cond.code MN_5 jdk_52_method_14_code 5 (some (.array .byte)) :: ws) ({ frames := 2, cells := 1, slots := 2, locals := 24 } : Room)) (fun a U => a = #[(.ref a0c), (.int 0), (.int 1)] ∧ Z.Warmed39 U.vm ∧ U.heap = h0) (fun _ _ _ _ _ => True) (fun _ U o U' => ∃ v L, o = .returned v ∧ Q_rmTb1 n0 Z cS aRS aEM aUS aSS a0c k0 c0 h0 v U'.heap L ∧ FrameEnd U o U' L ({ frames := 2, cells := 1, slots := 2, locals := 24 } : Room).cells ({ frames := 2, cells := 1, slots := 2, locals := 24 } : Room).slots) := by
  refine MetFree.of_bodySF (plainFor_of_name pn) hisR ?_
  intro p e s m args below meth c s₁ Bd hml0 hP hK
  obtain ⟨rfl, hZ, hh⟩ := hP
  have hx := Bd.exec
  have hby := Bd.bytes
  have hml : c.maxLocals = 5 := hml0
  have hown : s.vm.findClass "java/lang/StringUTF16" = some m.cls := findClass_of_methodNamed Bd.named
  have hnm := (name_of_methodNamed Bd.named Bd.method).1
  have X0 : Stand p l e ({ frames := 2, cells := 1, slots := 2, locals := 24 } : Room) s m #[(.ref a0c), (.int 0), (.int 1)] below meth c s₁ [] 0 0 := Stand.of_body Bd
  have e0 : s₁.heap = h0 := by rw [← hh, Bd.state]; rfl
  have N0 := Fr.nil n0
  have pre0 : ∀ t, Steps p.tables e below (s₁.setTop (mkF m 0 #[.val (.ref a0c), .val (.int 0), .val (.int 1), .unset, .unset] [])) t → Steps p.tables e below (s₁.setTop (entryFrame m #[(.ref a0c), (.int 0), (.int 1)] 5)) t := fun t k => castTop (ef_rmTb1 m a0c) k
  have GL' := GL
  obtain ⟨GCS, GCP, GSR, GSE, GEE, GFE, GSU, GSS, GA16, GHI, GLO⟩ := GL'
  obtain ⟨_, _, ⟨T1, L1, k1, n1⟩, -, X1, ⟨Lc1, hQ1, l1, y1, z1⟩, st1⟩ := Jvm.LawKit.callS X0 hx (y := MN_3) hown (mvT hZ (Wd hw 122 rfl)) (mvT hZ (Wd hw 123 rfl)) (mvT hZ (Wd hw 22 rfl)) (mvT hZ (Wd hw 124 rfl)) (by decide) (backOf (W := 0) (rmNbf1 l Z a0 hw [] cS aRS aEM aUS aSS  (h0) n0 O0 GL) hZ (Wd hw 124 rfl) (Wd hw 22 rfl) (by decide) (by decide)) (g := (mkF m 1 #[.val (.ref a0c), .val (.int 0), .val (.int 1), .unset, .unset] [(.int 1)])) rfl (by rw [hml]; rfl) (argsL := [(.int 1)]) (rest := []) (lenOf pdv2 rfl) rfl (by show 2 * 0 + _ ≤ _; exact Nat.le_of_eq rfl) (hb hby d20_1) (fun _ _ => ⟨rfl, e0, (by decide : 0 + 1 ≤ _), (by decide : 0 + 2 ≤ _)⟩)
  dsimp only [Pt.U, Pt.locs, Pt.cells, Pt.slots] at X1 l1 y1 z1 st1 hQ1
  subst l1 y1 z1
  obtain ⟨b_1, kb_1, rfl, N1q, Kc1, P1_0, P1_1, P1_2⟩ := hQ1
  have K1 : Keep h0 T1.heap [] := (Keep.refl h0 []).trans Kc1 all0
  have O1 := O0.keep Kc1 all0
  have g_b_1 : n0 ≤ b_1 := Nat.le_trans (own_sz O0) P1_0
  have sz_b_1 : h0.size ≤ b_1 := Nat.le_trans (Keep.refl h0 []).1 P1_0
  have N1 := Fr.app N0 N1q
  obtain ⟨cl2, Ar2, -, S2, N2_, H2, G2⟩ := id ((V_a0c.keep Kc1 nin0))
  have hin2 : ¬ ((0 : Int32) < 0 ∨ cl2.slots.size ≤ ((0 : Int32)).toNatClampNeg) := inb_of S2 ⟨(by decide), (by decide)⟩
  have hat2 : cl2.slots[((0 : Int32)).toNatClampNeg]? = some (.int c0) := H2.at hin2 rfl
  obtain ⟨_, _, ⟨T3, L3, k3, n3⟩, -, X3, ⟨Lc3, hQ3, l3, y3, z3⟩, st3⟩ := Jvm.LawKit.callS X1 hx (y := MN_4) hown (mvT hZ (Wd hw 129 rfl)) (mvT hZ (Wd hw 130 rfl)) (mvT hZ (Wd hw 22 rfl)) (mvT hZ (Wd hw 131 rfl)) (by decide) (backOf (W := 0) (rmPc1_0 l Z a0 hw [] cS aRS aEM aUS aSS (b_1) (c0) (kb_1) ((0 : Int32)) ((0 : Int32)) (T1.heap) n0 O1 GL P1_2 g_b_1) hZ (Wd hw 131 rfl) (Wd hw 22 rfl) (by decide) (by decide)) (g := (mkF m 20 #[.val (.ref a0c), .val (.int 0), .val (.int 1), .val (.ref b_1), .val (.int 0)] [(.int c0), (.int 0), (.ref b_1)])) rfl (by rw [hml]; rfl) (argsL := [(.ref b_1), (.int 0), (.int c0)]) (rest := []) (lenOf pdv3 rfl) rfl (by show 2 * 0 + _ ≤ _; exact Nat.le_of_eq rfl) (hb hby d20_20) (fun _ _ => ⟨rfl, rfl, (by decide : 1 + 0 ≤ _), (by decide : 2 + 0 ≤ _)⟩)
  dsimp only [Pt.U, Pt.locs, Pt.cells, Pt.slots] at X3 l3 y3 z3 st3 hQ3
  subst l3 y3 z3
  obtain ⟨rfl, N3q, Kc3, P3_0⟩ := hQ3
  have K3 : Keep h0 T3.heap [] := K1.trans Kc3 (allS (Or.inr sz_b_1) all0)
  have O3 := O1.keep Kc3 (allS g_b_1 all0)
  have N3 := Fr.app N1 N3q
  obtain ⟨fs, hr, hrun, hended, hW, hsame⟩ := X3.leave (v := some (.ref b_1)) (fun h => by rw [Bd.returns] at h; cases h)
  refine ⟨_, _, pre0 _ ?_, hrun, hended, _, _, rfl, ?_, ⟨_, rfl⟩, hW, hsame.mono (by decide) (by decide)⟩
  · show Steps p.tables e below (s₁.setTop (mkF m 0 #[.val (.ref a0c), .val (.int 0), .val (.int 1), .unset, .unset] [])) _
    refine XS.iloadN X0.here hx rfl (hb hby d20_0) rfl ?_
    show Steps p.tables e below (s₁.setTop (mkF m 1 #[.val (.ref a0c), .val (.int 0), .val (.int 1), .unset, .unset] [(.int 1)])) _
    refine st1 _ ?_
    show Steps p.tables e below (T1.setTop (mkF m 4 #[.val (.ref a0c), .val (.int 0), .val (.int 1), .unset, .unset] [(.ref b_1)])) _
    refine XS.astoreN X1.here hx rfl (hb hby d20_4) rfl rfl (l' := #[.val (.ref a0c), .val (.int 0), .val (.int 1), .val (.ref b_1), .unset]) rfl ?_
    refine XS.iconst X1.here hx rfl (hb hby d20_5) ?_
    refine XS.istore X1.here hx rfl (hb hby d20_6) rfl (l' := #[.val (.ref a0c), .val (.int 0), .val (.int 1), .val (.ref b_1), .val (.int 0)]) rfl ?_
    refine XS.iload X1.here hx rfl (hb hby d20_8) rfl ?_
    show Steps p.tables e below (T1.setTop (mkF m 10 #[.val (.ref a0c), .val (.int 0), .val (.int 1), .val (.ref b_1), .val (.int 0)] [(.int 0)])) _
    refine XS.iloadN X1.here hx rfl (hb hby d20_10) rfl ?_
    refine XS.icmpNo X1.here hx rfl (hb hby d20_11) rfl (tlt (by decide : (0 : Int32) < (1 : Int32))).2.1 ?_
    refine XS.aloadN X1.here hx rfl (hb hby d20_14) rfl rfl ?_
    refine XS.iload X1.here hx rfl (hb hby d20_15) rfl ?_
    show Steps p.tables e below (T1.setTop (mkF m 17 #[.val (.ref a0c), .val (.int 0), .val (.int 1), .val (.ref b_1), .val (.int 0)] [(.int 0), (.ref b_1)])) _
    refine XS.aloadN X1.here hx rfl (hb hby d20_17) rfl rfl ?_
    refine XS.iloadN X1.here hx rfl (hb hby d20_18) rfl ?_
    show Steps p.tables e below (T1.setTop (mkF m 19 #[.val (.ref a0c), .val (.int 0), .val (.int 1), .val (.ref b_1), .val (.int 0)] [(.int 0), (.ref a0c), (.int 0), (.ref b_1)])) _
    refine X1.caload hx (j := (0 : Int32)) (v := (.int c0)) Ar2.1 (State.isArrayOf_alike hZ.alike Ar2.2.1) Ar2.2.2 hin2 hat2 (g := (mkF m 19 #[.val (.ref a0c), .val (.int 0), .val (.int 1), .val (.ref b_1), .val (.int 0)] [(.int 0), (.ref a0c), (.int 0), (.ref b_1)])) rfl rfl (hb hby d20_19) _ ?_
    show Steps p.tables e below (T1.setTop (mkF m 20 #[.val (.ref a0c), .val (.int 0), .val (.int 1), .val (.ref b_1), .val (.int 0)] [(.int c0), (.int 0), (.ref b_1)])) _
    refine st3 _ ?_
    show Steps p.tables e below (T3.setTop (mkF m 23 #[.val (.ref a0c), .val (.int 0), .val (.int 1), .val (.ref b_1), .val (.int 0)] [])) _
    refine XS.iinc X3.here hx rfl (hb hby d20_23) rfl (l' := #[.val (.ref a0c), .val (.int 1), .val (.int 1), .val (.ref b_1), .val (.int 0)]) rfl ?_
    refine XS.iinc X3.here hx rfl (hb hby d20_26) rfl (l' := #[.val (.ref a0c), .val (.int 1), .val (.int 1), .val (.ref b_1), .val (.int 1)]) rfl ?_
    refine XS.goto X3.here hx rfl (pc0 := 29) (pc' := 8) rfl (hb hby d20_29) (by decide) (by decide) ?_
    refine XS.iload X3.here hx rfl (hb hby d20_8) rfl ?_
    show Steps p.tables e below (T3.setTop (mkF m 10 #[.val (.ref a0c), .val (.int 1), .val (.int 1), .val (.ref b_1), .val (.int 1)] [(.int 1)])) _
    refine XS.iloadN X3.here hx rfl (hb hby d20_10) rfl ?_
    refine XS.icmpYes X3.here hx rfl (pc0 := 11) (pc' := 32) rfl (hb hby d20_11) rfl (flt (by decide : ¬ ((1 : Int32) < (1 : Int32)))).2.1 (by decide) (by decide) ?_
    refine XS.aloadN X3.here hx rfl (hb hby d20_32) rfl rfl ?_
    show Steps p.tables e below (T3.setTop (mkF m 33 #[.val (.ref a0c), .val (.int 1), .val (.int 1), .val (.ref b_1), .val (.int 1)] [(.ref b_1)])) _
    jvm_step X3.here [X3.here.top, hx, (hb hby d20_33), X3.method', Bd.returns, Value.isRef, FieldType.isReference]
    first | (intro acts; rw [hr _ acts rfl rfl rfl]) | rw [hr _ _ rfl rfl rfl]
    exact Steps.refl _
  · show Q_rmTb1 n0 Z cS aRS aEM aUS aSS a0c k0 c0 h0 _ T3.heap _
    exact ⟨b_1, kb_1, rfl, N3, K3, sz_b_1, (P1_1.keep Kc3), P3_0⟩
theorem d24_0 : decode jdk_52_method_5_code 0 = .ok (.getstatic 44, 3) := by decide +kernel
theorem d24_3 : decode jdk_52_method_5_code 3 = .ok (.ifCond .ne 25, 3) := by decide +kernel
theorem d24_28 : decode jdk_52_method_5_code 28 = .ok (.iload_n 1, 1) := by decide +kernel
theorem d24_29 : decode jdk_52_method_5_code 29 = .ok (.iconst 1, 1) := by decide +kernel
theorem d24_30 : decode jdk_52_method_5_code 30 = .ok (.ishl, 1) := by decide +kernel
theorem d24_31 : decode jdk_52_method_5_code 31 = .ok (.istore_n 1, 1) := by decide +kernel
theorem d24_32 : decode jdk_52_method_5_code 32 = .ok (.aload_n 0, 1) := by decide +kernel
theorem d24_33 : decode jdk_52_method_5_code 33 = .ok (.iload_n 1, 1) := by decide +kernel
theorem d24_34 : decode jdk_52_method_5_code 34 = .ok (.iinc 1 1, 3) := by decide +kernel
theorem d24_37 : decode jdk_52_method_5_code 37 = .ok (.baload, 1) := by decide +kernel
theorem d24_38 : decode jdk_52_method_5_code 38 = .ok (.sipush 255, 3) := by decide +kernel
theorem d24_41 : decode jdk_52_method_5_code 41 = .ok (.iand, 1) := by decide +kernel
theorem d24_42 : decode jdk_52_method_5_code 42 = .ok (.getstatic 59, 3) := by decide +kernel
theorem d24_45 : decode jdk_52_method_5_code 45 = .ok (.ishl, 1) := by decide +kernel
theorem d24_46 : decode jdk_52_method_5_code 46 = .ok (.aload_n 0, 1) := by decide +kernel
theorem d24_47 : decode jdk_52_method_5_code 47 = .ok (.iload_n 1, 1) := by decide +kernel
theorem d24_48 : decode jdk_52_method_5_code 48 = .ok (.baload, 1) := by decide +kernel
theorem d24_49 : decode jdk_52_method_5_code 49 = .ok (.sipush 255, 3) := by decide +kernel
theorem d24_52 : decode jdk_52_method_5_code 52 = .ok (.iand, 1) := by decide +kernel
theorem d24_53 : decode jdk_52_method_5_code 53 = .ok (.getstatic 63, 3) := by decide +kernel
theorem d24_56 : decode jdk_52_method_5_code 56 = .ok (.ishl, 1) := by decide +kernel
theorem d24_57 : decode jdk_52_method_5_code 57 = .ok (.ior, 1) := by decide +kernel
theorem d24_58 : decode jdk_52_method_5_code 58 = .ok (.i2c, 1) := by decide +kernel
theorem d24_59 : decode jdk_52_method_5_code 59 = .ok (.ireturn, 1) := by decide +kernel
abbrev MN_6 : MethodName := ⟨"java/lang/StringUTF16", "getChar", "([BI)C"⟩
theorem ef_rmGc1_0 (m : MethodId) (a0b : Addr) : entryFrame m #[(.ref a0b), (.int 0)] 2 = mkF m 0 #[.val (.ref a0b), .val (.int 0)] [] := by first | (simp [entryFrame, mkF, argsToLocals, Value.category]; done) | rfl
def Q_rmGc1_0 (n0 : Nat) (Z : State) (cS : Int32) (aRS : Addr) (aEM : Addr) (aUS : Addr) (aSS : Addr) (a0b : Addr) (k0 : ClassId) (c0 : Int32) (h0 : Heap) (v : Option Value) (h : Heap) (L : List Loc) : Prop := v = some (.int c0) ∧ Fr n0 L ∧ h = h0
set_option maxRecDepth 65536 in
set_option maxHeartbeats 40000000 in
theorem rmGc1_0 (l : Launch) (Z : State) (a0 : Array Value) (hw : ∀ d ∈ tables_1, d.before a0 Z = true) (ws : List Jvm.Cond) (cS : Int32) (aRS : Addr) (aEM : Addr) (aUS : Addr) (aSS : Addr) (a0b : Addr) (k0 : ClassId) (c0 : Int32) (h0 : Heap) (n0 : Nat) (O0 : Old Z n0 h0) (GL : GF Z cS aRS aEM aUS aSS) (V_a0b : Arv Z h0 a0b k0 .byte (2 : Int32) [(.int (c0.toInt8.toInt32)), (.int ((c0 >>> ((8 : Int32) &&& 31)).toInt8.toInt32))] (.int 0)) (hn : nar .char c0 = c0) :
    MetFree l MN_6 (head1 (Jvm.Cond.code MN_6 jdk_52_method_5_code 2 (some .char) :: ws) ({ frames := 0, cells := 0, slots := 0, locals := 0 } : Room)) (fun a U => a = #[(.ref a0b), (.int 0)] ∧ Z.Warmed39 U.vm ∧ U.heap = h0) (fun _ _ _ _ _ => True) (fun _ U o U' => ∃ v L, o = .returned v ∧ Q_rmGc1_0 n0 Z cS aRS aEM aUS aSS a0b k0 c0 h0 v U'.heap L ∧ FrameEnd U o U' L ({ frames := 0, cells := 0, slots := 0, locals := 0 } : Room).cells ({ frames := 0, cells := 0, slots := 0, locals := 0 } : Room).slots) := by
  refine MetFree.of_bodySF (plainFor_of_name pn) hisR ?_
  intro p e s m args below meth c s₁ Bd hml0 hP hK
  obtain ⟨rfl, hZ, hh⟩ := hP
  have hx := Bd.exec
  have hby := Bd.bytes
  have hml : c.maxLocals = 2 := hml0
  have hown : s.vm.findClass "java/lang/StringUTF16" = some m.cls := findClass_of_methodNamed Bd.named
  have hnm := (name_of_methodNamed Bd.named Bd.method).1
  have X0 : Stand p l e ({ frames := 0, cells := 0, slots := 0, locals := 0 } : Room) s m #[(.ref a0b), (.int 0)] below meth c s₁ [] 0 0 := Stand.of_body Bd
  have e0 : s₁.heap = h0 := by rw [← hh, Bd.state]; rfl
  have N0 := Fr.nil n0
  have pre0 : ∀ t, Steps p.tables e below (s₁.setTop (mkF m 0 #[.val (.ref a0b), .val (.int 0)] [])) t → Steps p.tables e below (s₁.setTop (entryFrame m #[(.ref a0b), (.int 0)] 2)) t := fun t k => castTop (ef_rmGc1_0 m a0b) k
  have GL' := GL
  obtain ⟨GCS, GCP, GSR, GSE, GEE, GFE, GSU, GSS, GA16, GHI, GLO⟩ := GL'
  obtain ⟨T1, X1, e1, st1⟩ := getS2 X0 hx hZ hown (host := "") (Or.inl (Wd hw 132 rfl)) Via.refl e0 (GA16.ext O0.2) (g := (mkF m 0 #[.val (.ref a0b), .val (.int 0)] [])) rfl (hb hby d24_0)
  obtain ⟨cl2, Ar2, -, S2, N2_, H2, G2⟩ := id (V_a0b)
  have hin2 : ¬ ((0 : Int32) < 0 ∨ cl2.slots.size ≤ ((0 : Int32)).toNatClampNeg) := inb_of S2 ⟨(by decide), (by decide)⟩
  have hat2 : cl2.slots[((0 : Int32)).toNatClampNeg]? = some (.int (c0.toInt8.toInt32)) := H2.at hin2 rfl
  obtain ⟨T3, X3, e3, st3⟩ := getS2 X1 hx hZ hown (host := "") (Or.inl (Wd hw 133 rfl)) Via.refl e1 (GHI.ext O0.2) (g := (mkF m 42 #[.val (.ref a0b), .val (.int 1)] [(.int ((c0.toInt8.toInt32) &&& (255 : Int32)))])) rfl (hb hby d24_42)
  obtain ⟨cl4, Ar4, -, S4, N4_, H4, G4⟩ := id (V_a0b)
  have hin4 : ¬ ((1 : Int32) < 0 ∨ cl4.slots.size ≤ ((1 : Int32)).toNatClampNeg) := inb_of S4 ⟨(by decide), (by decide)⟩
  have hat4 : cl4.slots[((1 : Int32)).toNatClampNeg]? = some (.int ((c0 >>> ((8 : Int32) &&& 31)).toInt8.toInt32)) := H4.at hin4 rfl
  obtain ⟨T5, X5, e5, st5⟩ := getS2 X3 hx hZ hown (host := "") (Or.inl (Wd hw 134 rfl)) Via.refl e3 (GLO.ext O0.2) (g := (mkF m 53 #[.val (.ref a0b), .val (.int 1)] [(.int (((c0 >>> ((8 : Int32) &&& 31)).toInt8.toInt32) &&& (255 : Int32))), (.int (((c0.toInt8.toInt32) &&& (255 : Int32)) <<< ((0 : Int32) &&& 31)))])) rfl (hb hby d24_53)
  obtain ⟨fs, hr, hrun, hended, hW, hsame⟩ := X5.leave (v := some (.int (nar .char (((((c0.toInt8.toInt32) &&& (255 : Int32)) <<< ((0 : Int32) &&& 31)) ||| ((((c0 >>> ((8 : Int32) &&& 31)).toInt8.toInt32) &&& (255 : Int32)) <<< ((8 : Int32) &&& 31))).toUInt32.toUInt16.toUInt32.toInt32)))) (fun h => by rw [Bd.returns] at h; cases h)
  refine ⟨_, _, pre0 _ ?_, hrun, hended, _, _, rfl, ?_, ⟨_, rfl⟩, hW, hsame.mono (by decide) (by decide)⟩
  · show Steps p.tables e below (s₁.setTop (mkF m 0 #[.val (.ref a0b), .val (.int 0)] [])) _
    refine st1 _ ?_
    show Steps p.tables e below (T1.setTop (mkF m 3 #[.val (.ref a0b), .val (.int 0)] [(.int 1)])) _
    refine XS.ifYes X1.here hx rfl (pc0 := 3) (pc' := 28) rfl (hb hby d24_3) rfl ((if0 _ _).trans (feq (by decide : ¬ ((1 : Int32) = (0 : Int32)))).2) (by decide) (by decide) ?_
    refine XS.iloadN X1.here hx rfl (hb hby d24_28) rfl ?_
    refine XS.iconst X1.here hx rfl (hb hby d24_29) ?_
    refine XS.ishl X1.here hx rfl (hb hby d24_30) rfl ?_
    show Steps p.tables e below (T1.setTop (mkF m 31 #[.val (.ref a0b), .val (.int 0)] [(.int 0)])) _
    refine XS.istoreN X1.here hx rfl (hb hby d24_31) rfl (l' := #[.val (.ref a0b), .val (.int 0)]) rfl ?_
    refine XS.aloadN X1.here hx rfl (hb hby d24_32) rfl rfl ?_
    refine XS.iloadN X1.here hx rfl (hb hby d24_33) rfl ?_
    refine XS.iinc X1.here hx rfl (hb hby d24_34) rfl (l' := #[.val (.ref a0b), .val (.int 1)]) rfl ?_
    show Steps p.tables e below (T1.setTop (mkF m 37 #[.val (.ref a0b), .val (.int 1)] [(.int 0), (.ref a0b)])) _
    refine X1.baloadBytes hx (j := (0 : Int32)) (v := (.int (c0.toInt8.toInt32))) (by rw [e1]; exact Ar2.1) (State.isArrayOf_alike hZ.alike Ar2.2.1) Ar2.2.2 hin2 hat2 (g := (mkF m 37 #[.val (.ref a0b), .val (.int 1)] [(.int 0), (.ref a0b)])) rfl rfl (hb hby d24_37) _ ?_
    show Steps p.tables e below (T1.setTop (mkF m 38 #[.val (.ref a0b), .val (.int 1)] [(.int (c0.toInt8.toInt32))])) _
    refine XS.sipush X1.here hx rfl (hb hby d24_38) ?_
    refine XS.iand X1.here hx rfl (hb hby d24_41) rfl ?_
    show Steps p.tables e below (T1.setTop (mkF m 42 #[.val (.ref a0b), .val (.int 1)] [(.int ((c0.toInt8.toInt32) &&& (255 : Int32)))])) _
    refine st3 _ ?_
    show Steps p.tables e below (T3.setTop (mkF m 45 #[.val (.ref a0b), .val (.int 1)] [(.int 0), (.int ((c0.toInt8.toInt32) &&& (255 : Int32)))])) _
    refine XS.ishl X3.here hx rfl (hb hby d24_45) rfl ?_
    refine XS.aloadN X3.here hx rfl (hb hby d24_46) rfl rfl ?_
    refine XS.iloadN X3.here hx rfl (hb hby d24_47) rfl ?_
    show Steps p.tables e below (T3.setTop (mkF m 48 #[.val (.ref a0b), .val (.int 1)] [(.int 1), (.ref a0b), (.int (((c0.toInt8.toInt32) &&& (255 : Int32)) <<< ((0 : Int32) &&& 31)))])) _
    refine X3.baloadBytes hx (j := (1 : Int32)) (v := (.int ((c0 >>> ((8 : Int32) &&& 31)).toInt8.toInt32))) (by rw [e3]; exact Ar4.1) (State.isArrayOf_alike hZ.alike Ar4.2.1) Ar4.2.2 hin4 hat4 (g := (mkF m 48 #[.val (.ref a0b), .val (.int 1)] [(.int 1), (.ref a0b), (.int (((c0.toInt8.toInt32) &&& (255 : Int32)) <<< ((0 : Int32) &&& 31)))])) rfl rfl (hb hby d24_48) _ ?_
    show Steps p.tables e below (T3.setTop (mkF m 49 #[.val (.ref a0b), .val (.int 1)] [(.int ((c0 >>> ((8 : Int32) &&& 31)).toInt8.toInt32)), (.int (((c0.toInt8.toInt32) &&& (255 : Int32)) <<< ((0 : Int32) &&& 31)))])) _
    refine XS.sipush X3.here hx rfl (hb hby d24_49) ?_
    refine XS.iand X3.here hx rfl (hb hby d24_52) rfl ?_
    show Steps p.tables e below (T3.setTop (mkF m 53 #[.val (.ref a0b), .val (.int 1)] [(.int (((c0 >>> ((8 : Int32) &&& 31)).toInt8.toInt32) &&& (255 : Int32))), (.int (((c0.toInt8.toInt32) &&& (255 : Int32)) <<< ((0 : Int32) &&& 31)))])) _
    refine st5 _ ?_
    show Steps p.tables e below (T5.setTop (mkF m 56 #[.val (.ref a0b), .val (.int 1)] [(.int 8), (.int (((c0 >>> ((8 : Int32) &&& 31)).toInt8.toInt32) &&& (255 : Int32))), (.int (((c0.toInt8.toInt32) &&& (255 : Int32)) <<< ((0 : Int32) &&& 31)))])) _
    refine XS.ishl X5.here hx rfl (hb hby d24_56) rfl ?_
    refine XS.ior X5.here hx rfl (hb hby d24_57) rfl ?_
    refine XS.i2c X5.here hx rfl (hb hby d24_58) rfl ?_
    show Steps p.tables e below (T5.setTop (mkF m 59 #[.val (.ref a0b), .val (.int 1)] [(.int (((((c0.toInt8.toInt32) &&& (255 : Int32)) <<< ((0 : Int32) &&& 31)) ||| ((((c0 >>> ((8 : Int32) &&& 31)).toInt8.toInt32) &&& (255 : Int32)) <<< ((8 : Int32) &&& 31))).toUInt32.toUInt16.toUInt32.toInt32))])) _
    exact retN X5 hx (t := .char) Bd.returns (by simp) (hb hby d24_59) hr
  · show Q_rmGc1_0 n0 Z cS aRS aEM aUS aSS a0b k0 c0 h0 _ T5.heap _
    rw [e5]
    exact ⟨(congrArg (fun z => some (Value.int z)) (own_utf c0 hn)), N0, rfl⟩
theorem d5_20 : decode jdk_52_method_16_code 20 = .ok (.aload_n 0, 1) := by decide +kernel
theorem d5_21 : decode jdk_52_method_16_code 21 = .ok (.iload_n 1, 1) := by decide +kernel
theorem d5_22 : decode jdk_52_method_16_code 22 = .ok (.iload_n 2, 1) := by decide +kernel
theorem d5_23 : decode jdk_52_method_16_code 23 = .ok (.invokestatic 119, 3) := by decide +kernel
theorem pdv4 : parseMethodDescriptor "([CII)[B" = some ⟨[(.array .char), .int, .int], some (.array .byte)⟩ := by decide +kernel
theorem d5_26 : decode jdk_52_method_16_code 26 = .ok (.astore 5, 2) := by decide +kernel
theorem d5_28 : decode jdk_52_method_16_code 28 = .ok (.aload 5, 2) := by decide +kernel
theorem d5_30 : decode jdk_52_method_16_code 30 = .ok (.iload 4, 2) := by decide +kernel
theorem d5_32 : decode jdk_52_method_16_code 32 = .ok (.invokestatic 71, 3) := by decide +kernel
theorem pdv5 : parseMethodDescriptor "([BI)C" = some ⟨[(.array .byte), .int], some .char⟩ := by decide +kernel
theorem d5_35 : decode jdk_52_method_16_code 35 = .ok (.sipush 255, 3) := by decide +kernel
theorem d5_38 : decode jdk_52_method_16_code 38 = .ok (.if_icmp .gt 16, 3) := by decide +kernel
theorem d5_54 : decode jdk_52_method_16_code 54 = .ok (.aload 5, 2) := by decide +kernel
theorem d5_56 : decode jdk_52_method_16_code 56 = .ok (.areturn, 1) := by decide +kernel
def Q_rmC1_1u0 (n0 : Nat) (Z : State) (cS : Int32) (aRS : Addr) (aEM : Addr) (aUS : Addr) (aSS : Addr) (a0c : Addr) (k0 : ClassId) (c0 : Int32) (h0 : Heap) (v : Option Value) (h : Heap) (L : List Loc) : Prop := ∃ b : Addr, ∃ kb : ClassId, v = some (.ref b) ∧ Fr n0 L ∧ Keep h0 h [] ∧ (h0.size ≤ b) ∧ (Exa Z h b "[B") ∧ (Arv Z h b kb .byte (2 : Int32) [(.int (c0.toInt8.toInt32)), (.int ((c0 >>> ((8 : Int32) &&& 31)).toInt8.toInt32))] (.int 0))
set_option maxRecDepth 65536 in
set_option maxHeartbeats 40000000 in
theorem rmC1_1u0 (l : Launch) (Z : State) (a0 : Array Value) (hw : ∀ d ∈ tables_1, d.before a0 Z = true) (ws : List Jvm.Cond) (cS : Int32) (aRS : Addr) (aEM : Addr) (aUS : Addr) (aSS : Addr) (a0c : Addr) (k0 : ClassId) (c0 : Int32) (h0 : Heap) (n0 : Nat) (O0 : Old Z n0 h0) (GL : GF Z cS aRS aEM aUS aSS) (V_a0c : Arv Z h0 a0c k0 .char (1 : Int32) [(.int c0)] (.int 0)) (hcj : (255 : Int32) < c0) (hnj : nar .char c0 = c0) :
    MetFree l MN_1 (head1 (Jvm.Cond.code MN_1 jdk_52_method_16_code 6 (some (.array .byte)) :: ws) ({ frames := 3, cells := 2, slots := 3, locals := 40 } : Room)) (fun a U => a = #[(.ref a0c), (.int 0), (.int 1)] ∧ Z.Warmed39 U.vm ∧ U.heap = h0) (fun _ _ _ _ _ => True) (fun _ U o U' => ∃ v L, o = .returned v ∧ Q_rmC1_1u0 n0 Z cS aRS aEM aUS aSS a0c k0 c0 h0 v U'.heap L ∧ FrameEnd U o U' L ({ frames := 3, cells := 2, slots := 3, locals := 40 } : Room).cells ({ frames := 3, cells := 2, slots := 3, locals := 40 } : Room).slots) := by
  refine MetFree.of_bodySF (plainFor_of_name pn) hisR ?_
  intro p e s m args below meth c s₁ Bd hml0 hP hK
  obtain ⟨rfl, hZ, hh⟩ := hP
  have hx := Bd.exec
  have hby := Bd.bytes
  have hml : c.maxLocals = 6 := hml0
  have hown : s.vm.findClass "java/lang/StringUTF16" = some m.cls := findClass_of_methodNamed Bd.named
  have hnm := (name_of_methodNamed Bd.named Bd.method).1
  have X0 : Stand p l e ({ frames := 3, cells := 2, slots := 3, locals := 40 } : Room) s m #[(.ref a0c), (.int 0), (.int 1)] below meth c s₁ [] 0 0 := Stand.of_body Bd
  have e0 : s₁.heap = h0 := by rw [← hh, Bd.state]; rfl
  have N0 := Fr.nil n0
  have pre0 : ∀ t, Steps p.tables e below (s₁.setTop (mkF m 0 #[.val (.ref a0c), .val (.int 0), .val (.int 1), .unset, .unset, .unset] [])) t → Steps p.tables e below (s₁.setTop (entryFrame m #[(.ref a0c), (.int 0), (.int 1)] 6)) t := fun t k => castTop (ef_rmC1_1 m a0c) k
  have GL' := GL
  obtain ⟨GCS, GCP, GSR, GSE, GEE, GFE, GSU, GSS, GA16, GHI, GLO⟩ := GL'
  obtain ⟨T1, h1, k1, X1, e1, E1, A1, A1', st1⟩ := newPE X0 hx hZ (Wd hw 24 rfl) e0 (g := (mkF m 1 #[.val (.ref a0c), .val (.int 0), .val (.int 1), .unset, .unset, .unset] [(.int 1)])) rfl (hb hby d5_1) rfl (by decide) (cap := 1) (by decide) (by decide) (by decide) (by decide) (ad := "[B") rfl
  obtain ⟨b1, g1⟩ : ∃ z, z = h0.size := ⟨_, rfl⟩
  rw [← g1] at A1 A1' st1
  have g_b1 : n0 ≤ b1 := Nat.le_trans (own_sz O0) (Nat.le_of_eq g1.symm)
  have sz_b1 : h0.size ≤ b1 := Nat.le_trans (Keep.refl h0 []).1 (Nat.le_of_eq g1.symm)
  have K1 : Keep h0 h1 [] := (Keep.refl h0 []).ext E1
  have O1 := O0.ext E1
  have V_b1 : Arv Z h1 b1 k1 .byte (1 : Int32) [(.int 0)] (.int 0) := (Arv.new A1 (by decide)).pad (pad_rep [] (.int 0) 1)
  obtain ⟨_, _, ⟨T2, L2, k2, n2⟩, -, X2, ⟨Lc2, hQ2, l2, y2, z2⟩, st2⟩ := Jvm.LawKit.callS X1 hx (y := MN_0) hown (mvT hZ (Wd hw 25 rfl)) (mvT hZ (Wd hw 26 rfl)) (mvT hZ (Wd hw 22 rfl)) (mvT hZ (Wd hw 27 rfl)) (by decide) (backOf (W := 0) (rmC2_1u0 l Z a0 hw [] cS aRS aEM aUS aSS (a0c) (b1) (k0) (k1) (c0) (h1) n0 O1 GL (V_a0c.ext E1) V_b1 g_b1 hcj) hZ (Wd hw 27 rfl) (Wd hw 22 rfl) (by decide) (by decide)) (g := (mkF m 9 #[.val (.ref a0c), .val (.int 0), .val (.int 1), .val (.ref b1), .unset, .unset] [(.int 1), (.int 0), (.ref b1), (.int 0), (.ref a0c)])) rfl (by rw [hml]; rfl) (argsL := [(.ref a0c), (.int 0), (.ref b1), (.int 0), (.int 1)]) (rest := []) (lenOf pd rfl) rfl (by show 2 * 0 + _ ≤ _; exact Nat.le_of_eq rfl) (hb hby d5_9) (fun _ _ => ⟨rfl, e1, (by decide : 1 + 0 ≤ _), (by decide : 1 + 0 ≤ _)⟩)
  dsimp only [Pt.U, Pt.locs, Pt.cells, Pt.slots] at X2 l2 y2 z2 st2 hQ2
  subst l2 y2 z2
  obtain ⟨rfl, N2q, Kc2, P2_0⟩ := hQ2
  have K2 : Keep h0 T2.heap [] := K1.trans Kc2 (allS (Or.inr sz_b1) all0)
  have O2 := O1.keep Kc2 (allS g_b1 all0)
  have N2 := Fr.app N0 N2q
  obtain ⟨_, _, ⟨T3, L3, k3, n3⟩, -, X3, ⟨Lc3, hQ3, l3, y3, z3⟩, st3⟩ := Jvm.LawKit.callS X2 hx (y := MN_5) hown (mvT hZ (Wd hw 119 rfl)) (mvT hZ (Wd hw 120 rfl)) (mvT hZ (Wd hw 22 rfl)) (mvT hZ (Wd hw 121 rfl)) (by decide) (backOf (W := 0) (rmTb1 l Z a0 hw [] cS aRS aEM aUS aSS (a0c) (k0) (c0) (T2.heap) n0 O2 GL ((V_a0c.ext E1).keep Kc2 (ninS (Nat.ne_of_lt (Nat.lt_of_lt_of_le V_a0c.lt (Nat.le_of_eq g1.symm))) nin0))) hZ (Wd hw 121 rfl) (Wd hw 22 rfl) (by decide) (by decide)) (g := (mkF m 23 #[.val (.ref a0c), .val (.int 0), .val (.int 1), .val (.ref b1), .val (.int 0), .unset] [(.int 1), (.int 0), (.ref a0c)])) rfl (by rw [hml]; rfl) (argsL := [(.ref a0c), (.int 0), (.int 1)]) (rest := []) (lenOf pdv4 rfl) rfl (by show 2 * 0 + _ ≤ _; exact Nat.le_of_eq rfl) (hb hby d5_23) (fun _ _ => ⟨rfl, rfl, (by decide : 1 + 1 ≤ _), (by decide : 1 + 2 ≤ _)⟩)
  dsimp only [Pt.U, Pt.locs, Pt.cells, Pt.slots] at X3 l3 y3 z3 st3 hQ3
  subst l3 y3 z3
  obtain ⟨b_3, kb_3, rfl, N3q, Kc3, P3_0, P3_1, P3_2⟩ := hQ3
  have K3 : Keep h0 T3.heap [] := K2.trans Kc3 all0
  have O3 := O2.keep Kc3 all0
  have g_b_3 : n0 ≤ b_3 := Nat.le_trans (own_sz O2) P3_0
  have sz_b_3 : h0.size ≤ b_3 := Nat.le_trans K2.1 P3_0
  have N3 := Fr.app N2 N3q
  obtain ⟨_, _, ⟨T4, L4, k4, n4⟩, -, X4, ⟨Lc4, hQ4, l4, y4, z4⟩, st4⟩ := Jvm.LawKit.callS X3 hx (y := MN_6) hown (mvT hZ (Wd hw 135 rfl)) (mvT hZ (Wd hw 136 rfl)) (mvT hZ (Wd hw 22 rfl)) (mvT hZ (Wd hw 137 rfl)) (by decide) (backOf (W := 0) (rmGc1_0 l Z a0 hw [] cS aRS aEM aUS aSS (b_3) (kb_3) (c0) (T3.heap) n0 O3 GL P3_2 hnj) hZ (Wd hw 137 rfl) (Wd hw 22 rfl) (by decide) (by decide)) (g := (mkF m 32 #[.val (.ref a0c), .val (.int 0), .val (.int 1), .val (.ref b1), .val (.int 0), .val (.ref b_3)] [(.int 0), (.ref b_3)])) rfl (by rw [hml]; rfl) (argsL := [(.ref b_3), (.int 0)]) (rest := []) (lenOf pdv5 rfl) rfl (by show 2 * 0 + _ ≤ _; exact Nat.le_of_eq rfl) (hb hby d5_32) (fun _ _ => ⟨rfl, rfl, (by decide : 2 + 0 ≤ _), (by decide : 3 + 0 ≤ _)⟩)
  dsimp only [Pt.U, Pt.locs, Pt.cells, Pt.slots] at X4 l4 y4 z4 st4 hQ4
  subst l4 y4 z4
  obtain ⟨rfl, N4q, e4⟩ := hQ4
  have N4 := Fr.app N3 N4q
  obtain ⟨fs, hr, hrun, hended, hW, hsame⟩ := X4.leave (v := some (.ref b_3)) (fun h => by rw [Bd.returns] at h; cases h)
  refine ⟨_, _, pre0 _ ?_, hrun, hended, _, _, rfl, ?_, ⟨_, rfl⟩, hW, hsame.mono (by decide) (by decide)⟩
  · show Steps p.tables e below (s₁.setTop (mkF m 0 #[.val (.ref a0c), .val (.int 0), .val (.int 1), .unset, .unset, .unset] [])) _
    refine XS.iloadN X0.here hx rfl (hb hby d5_0) rfl ?_
    show Steps p.tables e below (s₁.setTop (mkF m 1 #[.val (.ref a0c), .val (.int 0), .val (.int 1), .unset, .unset, .unset] [(.int 1)])) _
    refine st1 _ ?_
    show Steps p.tables e below (T1.setTop (mkF m 3 #[.val (.ref a0c), .val (.int 0), .val (.int 1), .unset, .unset, .unset] [(.ref b1)])) _
    refine XS.astoreN X1.here hx rfl (hb hby d5_3) rfl rfl (l' := #[.val (.ref a0c), .val (.int 0), .val (.int 1), .val (.ref b1), .unset, .unset]) rfl ?_
    refine XS.aloadN X1.here hx rfl (hb hby d5_4) rfl rfl ?_
    refine XS.iloadN X1.here hx rfl (hb hby d5_5) rfl ?_
    refine XS.aloadN X1.here hx rfl (hb hby d5_6) rfl rfl ?_
    show Steps p.tables e below (T1.setTop (mkF m 7 #[.val (.ref a0c), .val (.int 0), .val (.int 1), .val (.ref b1), .unset, .unset] [(.ref b1), (.int 0), (.ref a0c)])) _
    refine XS.iconst X1.here hx rfl (hb hby d5_7) ?_
    refine XS.iloadN X1.here hx rfl (hb hby d5_8) rfl ?_
    show Steps p.tables e below (T1.setTop (mkF m 9 #[.val (.ref a0c), .val (.int 0), .val (.int 1), .val (.ref b1), .unset, .unset] [(.int 1), (.int 0), (.ref b1), (.int 0), (.ref a0c)])) _
    refine st2 _ ?_
    show Steps p.tables e below (T2.setTop (mkF m 12 #[.val (.ref a0c), .val (.int 0), .val (.int 1), .val (.ref b1), .unset, .unset] [(.int 0)])) _
    refine XS.istore X2.here hx rfl (hb hby d5_12) rfl (l' := #[.val (.ref a0c), .val (.int 0), .val (.int 1), .val (.ref b1), .val (.int 0), .unset]) rfl ?_
    refine XS.iload X2.here hx rfl (hb hby d5_14) rfl ?_
    refine XS.iloadN X2.here hx rfl (hb hby d5_16) rfl ?_
    refine XS.icmpNo X2.here hx rfl (hb hby d5_17) rfl (feq (by decide : ¬ ((0 : Int32) = (1 : Int32)))).1 ?_
    show Steps p.tables e below (T2.setTop (mkF m 20 #[.val (.ref a0c), .val (.int 0), .val (.int 1), .val (.ref b1), .val (.int 0), .unset] [])) _
    refine XS.aloadN X2.here hx rfl (hb hby d5_20) rfl rfl ?_
    refine XS.iloadN X2.here hx rfl (hb hby d5_21) rfl ?_
    refine XS.iloadN X2.here hx rfl (hb hby d5_22) rfl ?_
    show Steps p.tables e below (T2.setTop (mkF m 23 #[.val (.ref a0c), .val (.int 0), .val (.int 1), .val (.ref b1), .val (.int 0), .unset] [(.int 1), (.int 0), (.ref a0c)])) _
    refine st3 _ ?_
    show Steps p.tables e below (T3.setTop (mkF m 26 #[.val (.ref a0c), .val (.int 0), .val (.int 1), .val (.ref b1), .val (.int 0), .unset] [(.ref b_3)])) _
    refine XS.astore X3.here hx rfl (hb hby d5_26) rfl rfl (l' := #[.val (.ref a0c), .val (.int 0), .val (.int 1), .val (.ref b1), .val (.int 0), .val (.ref b_3)]) rfl ?_
    refine XS.aload X3.here hx rfl (hb hby d5_28) rfl rfl ?_
    refine XS.iload X3.here hx rfl (hb hby d5_30) rfl ?_
    show Steps p.tables e below (T3.setTop (mkF m 32 #[.val (.ref a0c), .val (.int 0), .val (.int 1), .val (.ref b1), .val (.int 0), .val (.ref b_3)] [(.int 0), (.ref b_3)])) _
    refine st4 _ ?_
    show Steps p.tables e below (T4.setTop (mkF m 35 #[.val (.ref a0c), .val (.int 0), .val (.int 1), .val (.ref b1), .val (.int 0), .val (.ref b_3)] [(.int c0)])) _
    refine XS.sipush X4.here hx rfl (hb hby d5_35) ?_
    refine XS.icmpYes X4.here hx rfl (pc0 := 38) (pc' := 54) rfl (hb hby d5_38) rfl (tlt hcj).2.2.1 (by decide) (by decide) ?_
    refine XS.aload X4.here hx rfl (hb hby d5_54) rfl rfl ?_
    show Steps p.tables e below (T4.setTop (mkF m 56 #[.val (.ref a0c), .val (.int 0), .val (.int 1), .val (.ref b1), .val (.int 0), .val (.ref b_3)] [(.ref b_3)])) _
    jvm_step X4.here [X4.here.top, hx, (hb hby d5_56), X4.method', Bd.returns, Value.isRef, FieldType.isReference]
    first | (intro acts; rw [hr _ acts rfl rfl rfl]) | rw [hr _ _ rfl rfl rfl]
    exact Steps.refl _
  · show Q_rmC1_1u0 n0 Z cS aRS aEM aUS aSS a0c k0 c0 h0 _ T4.heap _
    rw [e4]
    exact ⟨b_3, kb_3, rfl, N4, K3, sz_b_3, P3_1, P3_2⟩
theorem ef_rmC2_2 (m : MethodId) (a0c : Addr) (a2b : Addr) : entryFrame m #[(.ref a0c), (.int 0), (.ref a2b), (.int 0), (.int 2)] 7 = mkF m 0 #[.val (.ref a0c), .val (.int 0), .val (.ref a2b), .val (.int 0), .val (.int 2), .unset, .unset] [] := by first | (simp [entryFrame, mkF, argsToLocals, Value.category]; done) | rfl
def Q_rmC2_2 (n0 : Nat) (Z : State) (cS : Int32) (aRS : Addr) (aEM : Addr) (aUS : Addr) (aSS : Addr) (a0c : Addr) (a2b : Addr) (k0 : ClassId) (k2 : ClassId) (c0 : Int32) (c1 : Int32) (h0 : Heap) (v : Option Value) (h : Heap) (L : List Loc) : Prop := v = some (.int 2) ∧ Fr n0 L ∧ Keep h0 h [a2b] ∧ (Arv Z h a2b k2 .byte (2 : Int32) [(.int (c0.toInt8.toInt32)), (.int (c1.toInt8.toInt32))] (.int 0))
set_option maxRecDepth 65536 in
set_option maxHeartbeats 40000000 in
theorem rmC2_2 (l : Launch) (Z : State) (a0 : Array Value) (hw : ∀ d ∈ tables_1, d.before a0 Z = true) (ws : List Jvm.Cond) (cS : Int32) (aRS : Addr) (aEM : Addr) (aUS : Addr) (aSS : Addr) (a0c : Addr) (a2b : Addr) (k0 : ClassId) (k2 : ClassId) (c0 : Int32) (c1 : Int32) (h0 : Heap) (n0 : Nat) (O0 : Old Z n0 h0) (GL : GF Z cS aRS aEM aUS aSS) (V_a0c : Arv Z h0 a0c k0 .char (2 : Int32) [(.int c0), (.int c1)] (.int 0)) (V_a2b : Arv Z h0 a2b k2 .byte (2 : Int32) [(.int 0), (.int 0)] (.int 0)) (g_a2b : n0 ≤ a2b) (hc0 : ¬ ((255 : Int32) < c0)) (hc1 : ¬ ((255 : Int32) < c1)) :
    MetFree l MN_0 (head1 (Jvm.Cond.code MN_0 jdk_52_method_21_code 7 (some .int) :: ws) ({ frames := 0, cells := 0, slots := 0, locals := 0 } : Room)) (fun a U => a = #[(.ref a0c), (.int 0), (.ref a2b), (.int 0), (.int 2)] ∧ Z.Warmed39 U.vm ∧ U.heap = h0) (fun _ _ _ _ _ => True) (fun _ U o U' => ∃ v L, o = .returned v ∧ Q_rmC2_2 n0 Z cS aRS aEM aUS aSS a0c a2b k0 k2 c0 c1 h0 v U'.heap L ∧ FrameEnd U o U' L ({ frames := 0, cells := 0, slots := 0, locals := 0 } : Room).cells ({ frames := 0, cells := 0, slots := 0, locals := 0 } : Room).slots) := by
  refine MetFree.of_bodySF (plainFor_of_name pn) hisR ?_
  intro p e s m args below meth c s₁ Bd hml0 hP hK
  obtain ⟨rfl, hZ, hh⟩ := hP
  have hx := Bd.exec
  have hby := Bd.bytes
  have hml : c.maxLocals = 7 := hml0
  have hown : s.vm.findClass "java/lang/StringUTF16" = some m.cls := findClass_of_methodNamed Bd.named
  have hnm := (name_of_methodNamed Bd.named Bd.method).1
  have X0 : Stand p l e ({ frames := 0, cells := 0, slots := 0, locals := 0 } : Room) s m #[(.ref a0c), (.int 0), (.ref a2b), (.int 0), (.int 2)] below meth c s₁ [] 0 0 := Stand.of_body Bd
  have e0 : s₁.heap = h0 := by rw [← hh, Bd.state]; rfl
  have N0 := Fr.nil n0
  have pre0 : ∀ t, Steps p.tables e below (s₁.setTop (mkF m 0 #[.val (.ref a0c), .val (.int 0), .val (.ref a2b), .val (.int 0), .val (.int 2), .unset, .unset] [])) t → Steps p.tables e below (s₁.setTop (entryFrame m #[(.ref a0c), (.int 0), (.ref a2b), (.int 0), (.int 2)] 7)) t := fun t k => castTop (ef_rmC2_2 m a0c a2b) k
  have GL' := GL
  obtain ⟨GCS, GCP, GSR, GSE, GEE, GFE, GSU, GSS, GA16, GHI, GLO⟩ := GL'
  obtain ⟨cl1, Ar1, -, S1, N1_, H1, G1⟩ := id (V_a0c)
  have hin1 : ¬ ((0 : Int32) < 0 ∨ cl1.slots.size ≤ ((0 : Int32)).toNatClampNeg) := inb_of S1 ⟨(by decide), (by decide)⟩
  have hat1 : cl1.slots[((0 : Int32)).toNatClampNeg]? = some (.int c0) := H1.at hin1 rfl
  obtain ⟨cl2, Ar2, q2, S2, N2_, H2, G2⟩ := id (V_a2b)
  have hin2 : ¬ ((0 : Int32) < 0 ∨ cl2.slots.size ≤ ((0 : Int32)).toNatClampNeg) := inb_of S2 ⟨(by decide), (by decide)⟩
  obtain ⟨T2, h2, X2, e2, W2, st2⟩ := stB X0 hx hZ e0 Ar2 (j := (0 : Int32)) hin2 (g := (mkF m 31 #[.val (.ref a0c), .val (.int 0), .val (.ref a2b), .val (.int 0), .val (.int 2), .val (.int 0), .val (.int c0)] [(.int (c0.toInt8.toInt32)), (.int 0), (.ref a2b)])) rfl rfl (hb hby d6_31)
  have K2 : Keep h0 h2 [a2b] := (Keep.refl h0 [a2b]).wr W2 (Or.inl (List.mem_of_getElem? (i := 0) rfl))
  have O2 := O0.wr W2 g_a2b
  have N2 := Fr.snoc X2 N0 g_a2b
  have V2' : Arv Z h2 a2b k2 .byte (2 : Int32) [(.int ((c0.toInt8.toInt32)).toInt8.toInt32), (.int 0)] (.int 0) := Arv.set Ar2 q2 S2 N2_ H2 G2 (fits_nar_byte _) W2 0 rfl (Nat.le_of_ble_eq_true rfl)
  have V2 : Arv Z h2 a2b k2 .byte (2 : Int32) [(.int (c0.toInt8.toInt32)), (.int 0)] (.int 0) := by
    rw [own_b2 c0] at V2'
    exact V2'
  obtain ⟨cl3, Ar3, -, S3, N3_, H3, G3⟩ := id ((V_a0c.other W2 (own_neArv V_a0c V_a2b (by decide))))
  have hin3 : ¬ ((1 : Int32) < 0 ∨ cl3.slots.size ≤ ((1 : Int32)).toNatClampNeg) := inb_of S3 ⟨(by decide), (by decide)⟩
  have hat3 : cl3.slots[((1 : Int32)).toNatClampNeg]? = some (.int c1) := H3.at hin3 rfl
  obtain ⟨cl4, Ar4, q4, S4, N4_, H4, G4⟩ := id (V2)
  have hin4 : ¬ ((1 : Int32) < 0 ∨ cl4.slots.size ≤ ((1 : Int32)).toNatClampNeg) := inb_of S4 ⟨(by decide), (by decide)⟩
  obtain ⟨T4, h4, X4, e4, W4, st4⟩ := stB X2 hx hZ e2 Ar4 (j := (1 : Int32)) hin4 (g := (mkF m 31 #[.val (.ref a0c), .val (.int 1), .val (.ref a2b), .val (.int 1), .val (.int 2), .val (.int 1), .val (.int c1)] [(.int (c1.toInt8.toInt32)), (.int 1), (.ref a2b)])) rfl rfl (hb hby d6_31)
  have K4 : Keep h0 h4 [a2b] := K2.wr W4 (Or.inl (List.mem_of_getElem? (i := 0) rfl))
  have O4 := O2.wr W4 g_a2b
  have N4 := Fr.snoc X4 N2 g_a2b
  have V4' : Arv Z h4 a2b k2 .byte (2 : Int32) [(.int (c0.toInt8.toInt32)), (.int ((c1.toInt8.toInt32)).toInt8.toInt32)] (.int 0) := Arv.set Ar4 q4 S4 N4_ H4 G4 (fits_nar_byte _) W4 1 rfl (Nat.le_of_ble_eq_true rfl)
  have V4 : Arv Z h4 a2b k2 .byte (2 : Int32) [(.int (c0.toInt8.toInt32)), (.int (c1.toInt8.toInt32))] (.int 0) := by
    rw [own_b2 c1] at V4'
    exact V4'
  obtain ⟨fs, hr, hrun, hended, hW, hsame⟩ := X4.leave (v := some (.int 2)) (fun h => by rw [Bd.returns] at h; cases h)
  refine ⟨_, _, pre0 _ ?_, hrun, hended, _, _, rfl, ?_, ⟨_, rfl⟩, hW, hsame.mono (by decide) (by decide)⟩
  · show Steps p.tables e below (s₁.setTop (mkF m 0 #[.val (.ref a0c), .val (.int 0), .val (.ref a2b), .val (.int 0), .val (.int 2), .unset, .unset] [])) _
    refine XS.iconst X0.here hx rfl (hb hby d6_0) ?_
    refine XS.istore X0.here hx rfl (hb hby d6_1) rfl (l' := #[.val (.ref a0c), .val (.int 0), .val (.ref a2b), .val (.int 0), .val (.int 2), .val (.int 0), .unset]) rfl ?_
    refine XS.iload X0.here hx rfl (hb hby d6_3) rfl ?_
    refine XS.iload X0.here hx rfl (hb hby d6_5) rfl ?_
    show Steps p.tables e below (s₁.setTop (mkF m 7 #[.val (.ref a0c), .val (.int 0), .val (.ref a2b), .val (.int 0), .val (.int 2), .val (.int 0), .unset] [(.int 2), (.int 0)])) _
    refine XS.icmpNo X0.here hx rfl (hb hby d6_7) rfl (tlt (by decide : (0 : Int32) < (2 : Int32))).2.1 ?_
    refine XS.aloadN X0.here hx rfl (hb hby d6_10) rfl rfl ?_
    refine XS.iloadN X0.here hx rfl (hb hby d6_11) rfl ?_
    show Steps p.tables e below (s₁.setTop (mkF m 12 #[.val (.ref a0c), .val (.int 0), .val (.ref a2b), .val (.int 0), .val (.int 2), .val (.int 0), .unset] [(.int 0), (.ref a0c)])) _
    refine X0.caload hx (j := (0 : Int32)) (v := (.int c0)) (by rw [e0]; exact Ar1.1) (State.isArrayOf_alike hZ.alike Ar1.2.1) Ar1.2.2 hin1 hat1 (g := (mkF m 12 #[.val (.ref a0c), .val (.int 0), .val (.ref a2b), .val (.int 0), .val (.int 2), .val (.int 0), .unset] [(.int 0), (.ref a0c)])) rfl rfl (hb hby d6_12) _ ?_
    show Steps p.tables e below (s₁.setTop (mkF m 13 #[.val (.ref a0c), .val (.int 0), .val (.ref a2b), .val (.int 0), .val (.int 2), .val (.int 0), .unset] [(.int c0)])) _
    refine XS.istore X0.here hx rfl (hb hby d6_13) rfl (l' := #[.val (.ref a0c), .val (.int 0), .val (.ref a2b), .val (.int 0), .val (.int 2), .val (.int 0), .val (.int c0)]) rfl ?_
    refine XS.iload X0.here hx rfl (hb hby d6_15) rfl ?_
    refine XS.sipush X0.here hx rfl (hb hby d6_17) ?_
    refine XS.icmpYes X0.here hx rfl (pc0 := 20) (pc' := 26) rfl (hb hby d6_20) rfl (flt hc0).2.2.2 (by decide) (by decide) ?_
    show Steps p.tables e below (s₁.setTop (mkF m 26 #[.val (.ref a0c), .val (.int 0), .val (.ref a2b), .val (.int 0), .val (.int 2), .val (.int 0), .val (.int c0)] [])) _
    refine XS.aloadN X0.here hx rfl (hb hby d6_26) rfl rfl ?_
    refine XS.iloadN X0.here hx rfl (hb hby d6_27) rfl ?_
    refine XS.iload X0.here hx rfl (hb hby d6_28) rfl ?_
    refine XS.i2b X0.here hx rfl (hb hby d6_30) rfl ?_
    show Steps p.tables e below (s₁.setTop (mkF m 31 #[.val (.ref a0c), .val (.int 0), .val (.ref a2b), .val (.int 0), .val (.int 2), .val (.int 0), .val (.int c0)] [(.int (c0.toInt8.toInt32)), (.int 0), (.ref a2b)])) _
    refine st2 _ ?_
    show Steps p.tables e below (T2.setTop (mkF m 32 #[.val (.ref a0c), .val (.int 0), .val (.ref a2b), .val (.int 0), .val (.int 2), .val (.int 0), .val (.int c0)] [])) _
    refine XS.iinc X2.here hx rfl (hb hby d6_32) rfl (l' := #[.val (.ref a0c), .val (.int 1), .val (.ref a2b), .val (.int 0), .val (.int 2), .val (.int 0), .val (.int c0)]) rfl ?_
    refine XS.iinc X2.here hx rfl (hb hby d6_35) rfl (l' := #[.val (.ref a0c), .val (.int 1), .val (.ref a2b), .val (.int 1), .val (.int 2), .val (.int 0), .val (.int c0)]) rfl ?_
    refine XS.iinc X2.here hx rfl (hb hby d6_38) rfl (l' := #[.val (.ref a0c), .val (.int 1), .val (.ref a2b), .val (.int 1), .val (.int 2), .val (.int 1), .val (.int c0)]) rfl ?_
    refine XS.goto X2.here hx rfl (pc0 := 41) (pc' := 3) rfl (hb hby d6_41) (by decide) (by decide) ?_
    show Steps p.tables e below (T2.setTop (mkF m 3 #[.val (.ref a0c), .val (.int 1), .val (.ref a2b), .val (.int 1), .val (.int 2), .val (.int 1), .val (.int c0)] [])) _
    refine XS.iload X2.here hx rfl (hb hby d6_3) rfl ?_
    refine XS.iload X2.here hx rfl (hb hby d6_5) rfl ?_
    refine XS.icmpNo X2.here hx rfl (hb hby d6_7) rfl (tlt (by decide : (1 : Int32) < (2 : Int32))).2.1 ?_
    refine XS.aloadN X2.here hx rfl (hb hby d6_10) rfl rfl ?_
    show Steps p.tables e below (T2.setTop (mkF m 11 #[.val (.ref a0c), .val (.int 1), .val (.ref a2b), .val (.int 1), .val (.int 2), .val (.int 1), .val (.int c0)] [(.ref a0c)])) _
    refine XS.iloadN X2.here hx rfl (hb hby d6_11) rfl ?_
    show Steps p.tables e below (T2.setTop (mkF m 12 #[.val (.ref a0c), .val (.int 1), .val (.ref a2b), .val (.int 1), .val (.int 2), .val (.int 1), .val (.int c0)] [(.int 1), (.ref a0c)])) _
    refine X2.caload hx (j := (1 : Int32)) (v := (.int c1)) (by rw [e2]; exact Ar3.1) (State.isArrayOf_alike hZ.alike Ar3.2.1) Ar3.2.2 hin3 hat3 (g := (mkF m 12 #[.val (.ref a0c), .val (.int 1), .val (.ref a2b), .val (.int 1), .val (.int 2), .val (.int 1), .val (.int c0)] [(.int 1), (.ref a0c)])) rfl rfl (hb hby d6_12) _ ?_
    show Steps p.tables e below (T2.setTop (mkF m 13 #[.val (.ref a0c), .val (.int 1), .val (.ref a2b), .val (.int 1), .val (.int 2), .val (.int 1), .val (.int c0)] [(.int c1)])) _
    refine XS.istore X2.here hx rfl (hb hby d6_13) rfl (l' := #[.val (.ref a0c), .val (.int 1), .val (.ref a2b), .val (.int 1), .val (.int 2), .val (.int 1), .val (.int c1)]) rfl ?_
    refine XS.iload X2.here hx rfl (hb hby d6_15) rfl ?_
    refine XS.sipush X2.here hx rfl (hb hby d6_17) ?_
    refine XS.icmpYes X2.here hx rfl (pc0 := 20) (pc' := 26) rfl (hb hby d6_20) rfl (flt hc1).2.2.2 (by decide) (by decide) ?_
    show Steps p.tables e below (T2.setTop (mkF m 26 #[.val (.ref a0c), .val (.int 1), .val (.ref a2b), .val (.int 1), .val (.int 2), .val (.int 1), .val (.int c1)] [])) _
    refine XS.aloadN X2.here hx rfl (hb hby d6_26) rfl rfl ?_
    refine XS.iloadN X2.here hx rfl (hb hby d6_27) rfl ?_
    refine XS.iload X2.here hx rfl (hb hby d6_28) rfl ?_
    refine XS.i2b X2.here hx rfl (hb hby d6_30) rfl ?_
    show Steps p.tables e below (T2.setTop (mkF m 31 #[.val (.ref a0c), .val (.int 1), .val (.ref a2b), .val (.int 1), .val (.int 2), .val (.int 1), .val (.int c1)] [(.int (c1.toInt8.toInt32)), (.int 1), (.ref a2b)])) _
    refine st4 _ ?_
    show Steps p.tables e below (T4.setTop (mkF m 32 #[.val (.ref a0c), .val (.int 1), .val (.ref a2b), .val (.int 1), .val (.int 2), .val (.int 1), .val (.int c1)] [])) _
    refine XS.iinc X4.here hx rfl (hb hby d6_32) rfl (l' := #[.val (.ref a0c), .val (.int 2), .val (.ref a2b), .val (.int 1), .val (.int 2), .val (.int 1), .val (.int c1)]) rfl ?_
    refine XS.iinc X4.here hx rfl (hb hby d6_35) rfl (l' := #[.val (.ref a0c), .val (.int 2), .val (.ref a2b), .val (.int 2), .val (.int 2), .val (.int 1), .val (.int c1)]) rfl ?_
    refine XS.iinc X4.here hx rfl (hb hby d6_38) rfl (l' := #[.val (.ref a0c), .val (.int 2), .val (.ref a2b), .val (.int 2), .val (.int 2), .val (.int 2), .val (.int c1)]) rfl ?_
    refine XS.goto X4.here hx rfl (pc0 := 41) (pc' := 3) rfl (hb hby d6_41) (by decide) (by decide) ?_
    show Steps p.tables e below (T4.setTop (mkF m 3 #[.val (.ref a0c), .val (.int 2), .val (.ref a2b), .val (.int 2), .val (.int 2), .val (.int 2), .val (.int c1)] [])) _
    refine XS.iload X4.here hx rfl (hb hby d6_3) rfl ?_
    refine XS.iload X4.here hx rfl (hb hby d6_5) rfl ?_
    refine XS.icmpYes X4.here hx rfl (pc0 := 7) (pc' := 44) rfl (hb hby d6_7) rfl (flt (by decide : ¬ ((2 : Int32) < (2 : Int32)))).2.1 (by decide) (by decide) ?_
    refine XS.iload X4.here hx rfl (hb hby d6_44) rfl ?_
    show Steps p.tables e below (T4.setTop (mkF m 46 #[.val (.ref a0c), .val (.int 2), .val (.ref a2b), .val (.int 2), .val (.int 2), .val (.int 2), .val (.int c1)] [(.int 2)])) _
    exact retI X4 hx Bd.returns (hb hby d6_46) hr
  · show Q_rmC2_2 n0 Z cS aRS aEM aUS aSS a0c a2b k0 k2 c0 c1 h0 _ T4.heap _
    rw [e4]
    exact ⟨rfl, N4, K4, V4⟩
theorem ef_rmC1_2 (m : MethodId) (a0c : Addr) : entryFrame m #[(.ref a0c), (.int 0), (.int 2)] 6 = mkF m 0 #[.val (.ref a0c), .val (.int 0), .val (.int 2), .unset, .unset, .unset] [] := by first | (simp [entryFrame, mkF, argsToLocals, Value.category]; done) | rfl
def Q_rmC1_2 (n0 : Nat) (Z : State) (cS : Int32) (aRS : Addr) (aEM : Addr) (aUS : Addr) (aSS : Addr) (a0c : Addr) (k0 : ClassId) (c0 : Int32) (c1 : Int32) (h0 : Heap) (v : Option Value) (h : Heap) (L : List Loc) : Prop := ∃ b : Addr, ∃ kb : ClassId, v = some (.ref b) ∧ Fr n0 L ∧ Keep h0 h [] ∧ (h0.size ≤ b) ∧ (Exa Z h b "[B") ∧ (Arv Z h b kb .byte (2 : Int32) [(.int (c0.toInt8.toInt32)), (.int (c1.toInt8.toInt32))] (.int 0))
set_option maxRecDepth 65536 in
set_option maxHeartbeats 40000000 in
theorem rmC1_2 (l : Launch) (Z : State) (a0 : Array Value) (hw : ∀ d ∈ tables_1, d.before a0 Z = true) (ws : List Jvm.Cond) (cS : Int32) (aRS : Addr) (aEM : Addr) (aUS : Addr) (aSS : Addr) (a0c : Addr) (k0 : ClassId) (c0 : Int32) (c1 : Int32) (h0 : Heap) (n0 : Nat) (O0 : Old Z n0 h0) (GL : GF Z cS aRS aEM aUS aSS) (V_a0c : Arv Z h0 a0c k0 .char (2 : Int32) [(.int c0), (.int c1)] (.int 0)) (hc0 : ¬ ((255 : Int32) < c0)) (hc1 : ¬ ((255 : Int32) < c1)) :
    MetFree l MN_1 (head1 (Jvm.Cond.code MN_1 jdk_52_method_16_code 6 (some (.array .byte)) :: ws) ({ frames := 1, cells := 1, slots := 2, locals := 18 } : Room)) (fun a U => a = #[(.ref a0c), (.int 0), (.int 2)] ∧ Z.Warmed39 U.vm ∧ U.heap = h0) (fun _ _ _ _ _ => True) (fun _ U o U' => ∃ v L, o = .returned v ∧ Q_rmC1_2 n0 Z cS aRS aEM aUS aSS a0c k0 c0 c1 h0 v U'.heap L ∧ FrameEnd U o U' L ({ frames := 1, cells := 1, slots := 2, locals := 18 } : Room).cells ({ frames := 1, cells := 1, slots := 2, locals := 18 } : Room).slots) := by
  refine MetFree.of_bodySF (plainFor_of_name pn) hisR ?_
  intro p e s m args below meth c s₁ Bd hml0 hP hK
  obtain ⟨rfl, hZ, hh⟩ := hP
  have hx := Bd.exec
  have hby := Bd.bytes
  have hml : c.maxLocals = 6 := hml0
  have hown : s.vm.findClass "java/lang/StringUTF16" = some m.cls := findClass_of_methodNamed Bd.named
  have hnm := (name_of_methodNamed Bd.named Bd.method).1
  have X0 : Stand p l e ({ frames := 1, cells := 1, slots := 2, locals := 18 } : Room) s m #[(.ref a0c), (.int 0), (.int 2)] below meth c s₁ [] 0 0 := Stand.of_body Bd
  have e0 : s₁.heap = h0 := by rw [← hh, Bd.state]; rfl
  have N0 := Fr.nil n0
  have pre0 : ∀ t, Steps p.tables e below (s₁.setTop (mkF m 0 #[.val (.ref a0c), .val (.int 0), .val (.int 2), .unset, .unset, .unset] [])) t → Steps p.tables e below (s₁.setTop (entryFrame m #[(.ref a0c), (.int 0), (.int 2)] 6)) t := fun t k => castTop (ef_rmC1_2 m a0c) k
  have GL' := GL
  obtain ⟨GCS, GCP, GSR, GSE, GEE, GFE, GSU, GSS, GA16, GHI, GLO⟩ := GL'
  obtain ⟨T1, h1, k1, X1, e1, E1, A1, A1', st1⟩ := newPE X0 hx hZ (Wd hw 24 rfl) e0 (g := (mkF m 1 #[.val (.ref a0c), .val (.int 0), .val (.int 2), .unset, .unset, .unset] [(.int 2)])) rfl (hb hby d5_1) rfl (by decide) (cap := 2) (by decide) (by decide) (by decide) (by decide) (ad := "[B") rfl
  obtain ⟨b1, g1⟩ : ∃ z, z = h0.size := ⟨_, rfl⟩
  rw [← g1] at A1 A1' st1
  have g_b1 : n0 ≤ b1 := Nat.le_trans (own_sz O0) (Nat.le_of_eq g1.symm)
  have sz_b1 : h0.size ≤ b1 := Nat.le_trans (Keep.refl h0 []).1 (Nat.le_of_eq g1.symm)
  have K1 : Keep h0 h1 [] := (Keep.refl h0 []).ext E1
  have O1 := O0.ext E1
  have V_b1 : Arv Z h1 b1 k1 .byte (2 : Int32) [(.int 0), (.int 0)] (.int 0) := (Arv.new A1 (by decide)).pad (pad_rep [] (.int 0) 2)
  obtain ⟨_, _, ⟨T2, L2, k2, n2⟩, -, X2, ⟨Lc2, hQ2, l2, y2, z2⟩, st2⟩ := Jvm.LawKit.callS X1 hx (y := MN_0) hown (mvT hZ (Wd hw 25 rfl)) (mvT hZ (Wd hw 26 rfl)) (mvT hZ (Wd hw 22 rfl)) (mvT hZ (Wd hw 27 rfl)) (by decide) (backOf (W := 0) (rmC2_2 l Z a0 hw [] cS aRS aEM aUS aSS (a0c) (b1) (k0) (k1) (c0) (c1) (h1) n0 O1 GL (V_a0c.ext E1) V_b1 g_b1 hc0 hc1) hZ (Wd hw 27 rfl) (Wd hw 22 rfl) (by decide) (by decide)) (g := (mkF m 9 #[.val (.ref a0c), .val (.int 0), .val (.int 2), .val (.ref b1), .unset, .unset] [(.int 2), (.int 0), (.ref b1), (.int 0), (.ref a0c)])) rfl (by rw [hml]; rfl) (argsL := [(.ref a0c), (.int 0), (.ref b1), (.int 0), (.int 2)]) (rest := []) (lenOf pd rfl) rfl (by show 2 * 0 + _ ≤ _; exact Nat.le_of_eq rfl) (hb hby d5_9) (fun _ _ => ⟨rfl, e1, (by decide : 1 + 0 ≤ _), (by decide : 2 + 0 ≤ _)⟩)
  dsimp only [Pt.U, Pt.locs, Pt.cells, Pt.slots] at X2 l2 y2 z2 st2 hQ2
  subst l2 y2 z2
  obtain ⟨rfl, N2q, Kc2, P2_0⟩ := hQ2
  have K2 : Keep h0 T2.heap [] := K1.trans Kc2 (allS (Or.inr sz_b1) all0)
  have O2 := O1.keep Kc2 (allS g_b1 all0)
  have N2 := Fr.app N0 N2q
  obtain ⟨fs, hr, hrun, hended, hW, hsame⟩ := X2.leave (v := some (.ref b1)) (fun h => by rw [Bd.returns] at h; cases h)
  refine ⟨_, _, pre0 _ ?_, hrun, hended, _, _, rfl, ?_, ⟨_, rfl⟩, hW, hsame.mono (by decide) (by decide)⟩
  · show Steps p.tables e below (s₁.setTop (mkF m 0 #[.val (.ref a0c), .val (.int 0), .val (.int 2), .unset, .unset, .unset] [])) _
    refine XS.iloadN X0.here hx rfl (hb hby d5_0) rfl ?_
    show Steps p.tables e below (s₁.setTop (mkF m 1 #[.val (.ref a0c), .val (.int 0), .val (.int 2), .unset, .unset, .unset] [(.int 2)])) _
    refine st1 _ ?_
    show Steps p.tables e below (T1.setTop (mkF m 3 #[.val (.ref a0c), .val (.int 0), .val (.int 2), .unset, .unset, .unset] [(.ref b1)])) _
    refine XS.astoreN X1.here hx rfl (hb hby d5_3) rfl rfl (l' := #[.val (.ref a0c), .val (.int 0), .val (.int 2), .val (.ref b1), .unset, .unset]) rfl ?_
    refine XS.aloadN X1.here hx rfl (hb hby d5_4) rfl rfl ?_
    refine XS.iloadN X1.here hx rfl (hb hby d5_5) rfl ?_
    refine XS.aloadN X1.here hx rfl (hb hby d5_6) rfl rfl ?_
    show Steps p.tables e below (T1.setTop (mkF m 7 #[.val (.ref a0c), .val (.int 0), .val (.int 2), .val (.ref b1), .unset, .unset] [(.ref b1), (.int 0), (.ref a0c)])) _
    refine XS.iconst X1.here hx rfl (hb hby d5_7) ?_
    refine XS.iloadN X1.here hx rfl (hb hby d5_8) rfl ?_
    show Steps p.tables e below (T1.setTop (mkF m 9 #[.val (.ref a0c), .val (.int 0), .val (.int 2), .val (.ref b1), .unset, .unset] [(.int 2), (.int 0), (.ref b1), (.int 0), (.ref a0c)])) _
    refine st2 _ ?_
    show Steps p.tables e below (T2.setTop (mkF m 12 #[.val (.ref a0c), .val (.int 0), .val (.int 2), .val (.ref b1), .unset, .unset] [(.int 2)])) _
    refine XS.istore X2.here hx rfl (hb hby d5_12) rfl (l' := #[.val (.ref a0c), .val (.int 0), .val (.int 2), .val (.ref b1), .val (.int 2), .unset]) rfl ?_
    refine XS.iload X2.here hx rfl (hb hby d5_14) rfl ?_
    refine XS.iloadN X2.here hx rfl (hb hby d5_16) rfl ?_
    refine XS.icmpYes X2.here hx rfl (pc0 := 17) (pc' := 57) rfl (hb hby d5_17) rfl (teq (by decide : (2 : Int32) = (2 : Int32))).1 (by decide) (by decide) ?_
    show Steps p.tables e below (T2.setTop (mkF m 57 #[.val (.ref a0c), .val (.int 0), .val (.int 2), .val (.ref b1), .val (.int 2), .unset] [])) _
    refine XS.aloadN X2.here hx rfl (hb hby d5_57) rfl rfl ?_
    show Steps p.tables e below (T2.setTop (mkF m 58 #[.val (.ref a0c), .val (.int 0), .val (.int 2), .val (.ref b1), .val (.int 2), .unset] [(.ref b1)])) _
    jvm_step X2.here [X2.here.top, hx, (hb hby d5_58), X2.method', Bd.returns, Value.isRef, FieldType.isReference]
    first | (intro acts; rw [hr _ acts rfl rfl rfl]) | rw [hr _ _ rfl rfl rfl]
    exact Steps.refl _
  · show Q_rmC1_2 n0 Z cS aRS aEM aUS aSS a0c k0 c0 c1 h0 _ T2.heap _
    exact ⟨b1, k1, rfl, N2, K2, sz_b1, (A1'.keep Kc2), P2_0⟩
def Q_rmC2_2u0 (n0 : Nat) (Z : State) (cS : Int32) (aRS : Addr) (aEM : Addr) (aUS : Addr) (aSS : Addr) (a0c : Addr) (a2b : Addr) (k0 : ClassId) (k2 : ClassId) (c0 : Int32) (c1 : Int32) (h0 : Heap) (v : Option Value) (h : Heap) (L : List Loc) : Prop := v = some (.int 0) ∧ Fr n0 L ∧ Keep h0 h [a2b] ∧ (Arv Z h a2b k2 .byte (2 : Int32) [(.int 0), (.int 0)] (.int 0))
set_option maxRecDepth 65536 in
set_option maxHeartbeats 40000000 in
theorem rmC2_2u0 (l : Launch) (Z : State) (a0 : Array Value) (hw : ∀ d ∈ tables_1, d.before a0 Z = true) (ws : List Jvm.Cond) (cS : Int32) (aRS : Addr) (aEM : Addr) (aUS : Addr) (aSS : Addr) (a0c : Addr) (a2b : Addr) (k0 : ClassId) (k2 : ClassId) (c0 : Int32) (c1 : Int32) (h0 : Heap) (n0 : Nat) (O0 : Old Z n0 h0) (GL : GF Z cS aRS aEM aUS aSS) (V_a0c : Arv Z h0 a0c k0 .char (2 : Int32) [(.int c0), (.int c1)] (.int 0)) (V_a2b : Arv Z h0 a2b k2 .byte (2 : Int32) [(.int 0), (.int 0)] (.int 0)) (g_a2b : n0 ≤ a2b) (hcj : (255 : Int32) < c0) :
    MetFree l MN_0 (head1 (Jvm.Cond.code MN_0 jdk_52_method_21_code 7 (some .int) :: ws) ({ frames := 0, cells := 0, slots := 0, locals := 0 } : Room)) (fun a U => a = #[(.ref a0c), (.int 0), (.ref a2b), (.int 0), (.int 2)] ∧ Z.Warmed39 U.vm ∧ U.heap = h0) (fun _ _ _ _ _ => True) (fun _ U o U' => ∃ v L, o = .returned v ∧ Q_rmC2_2u0 n0 Z cS aRS aEM aUS aSS a0c a2b k0 k2 c0 c1 h0 v U'.heap L ∧ FrameEnd U o U' L ({ frames := 0, cells := 0, slots := 0, locals := 0 } : Room).cells ({ frames := 0, cells := 0, slots := 0, locals := 0 } : Room).slots) := by
  refine MetFree.of_bodySF (plainFor_of_name pn) hisR ?_
  intro p e s m args below meth c s₁ Bd hml0 hP hK
  obtain ⟨rfl, hZ, hh⟩ := hP
  have hx := Bd.exec
  have hby := Bd.bytes
  have hml : c.maxLocals = 7 := hml0
  have hown : s.vm.findClass "java/lang/StringUTF16" = some m.cls := findClass_of_methodNamed Bd.named
  have hnm := (name_of_methodNamed Bd.named Bd.method).1
  have X0 : Stand p l e ({ frames := 0, cells := 0, slots := 0, locals := 0 } : Room) s m #[(.ref a0c), (.int 0), (.ref a2b), (.int 0), (.int 2)] below meth c s₁ [] 0 0 := Stand.of_body Bd
  have e0 : s₁.heap = h0 := by rw [← hh, Bd.state]; rfl
  have N0 := Fr.nil n0
  have pre0 : ∀ t, Steps p.tables e below (s₁.setTop (mkF m 0 #[.val (.ref a0c), .val (.int 0), .val (.ref a2b), .val (.int 0), .val (.int 2), .unset, .unset] [])) t → Steps p.tables e below (s₁.setTop (entryFrame m #[(.ref a0c), (.int 0), (.ref a2b), (.int 0), (.int 2)] 7)) t := fun t k => castTop (ef_rmC2_2 m a0c a2b) k
  have GL' := GL
  obtain ⟨GCS, GCP, GSR, GSE, GEE, GFE, GSU, GSS, GA16, GHI, GLO⟩ := GL'
  obtain ⟨cl1, Ar1, -, S1, N1_, H1, G1⟩ := id (V_a0c)
  have hin1 : ¬ ((0 : Int32) < 0 ∨ cl1.slots.size ≤ ((0 : Int32)).toNatClampNeg) := inb_of S1 ⟨(by decide), (by decide)⟩
  have hat1 : cl1.slots[((0 : Int32)).toNatClampNeg]? = some (.int c0) := H1.at hin1 rfl
  obtain ⟨fs, hr, hrun, hended, hW, hsame⟩ := X0.leave (v := some (.int 0)) (fun h => by rw [Bd.returns] at h; cases h)
  refine ⟨_, _, pre0 _ ?_, hrun, hended, _, _, rfl, ?_, ⟨_, rfl⟩, hW, hsame.mono (by decide) (by decide)⟩
  · show Steps p.tables e below (s₁.setTop (mkF m 0 #[.val (.ref a0c), .val (.int 0), .val (.ref a2b), .val (.int 0), .val (.int 2), .unset, .unset] [])) _
    refine XS.iconst X0.here hx rfl (hb hby d6_0) ?_
    refine XS.istore X0.here hx rfl (hb hby d6_1) rfl (l' := #[.val (.ref a0c), .val (.int 0), .val (.ref a2b), .val (.int 0), .val (.int 2), .val (.int 0), .unset]) rfl ?_
    refine XS.iload X0.here hx rfl (hb hby d6_3) rfl ?_
    refine XS.iload X0.here hx rfl (hb hby d6_5) rfl ?_
    show Steps p.tables e below (s₁.setTop (mkF m 7 #[.val (.ref a0c), .val (.int 0), .val (.ref a2b), .val (.int 0), .val (.int 2), .val (.int 0), .unset] [(.int 2), (.int 0)])) _
    refine XS.icmpNo X0.here hx rfl (hb hby d6_7) rfl (tlt (by decide : (0 : Int32) < (2 : Int32))).2.1 ?_
    refine XS.aloadN X0.here hx rfl (hb hby d6_10) rfl rfl ?_
    refine XS.iloadN X0.here hx rfl (hb hby d6_11) rfl ?_
    show Steps p.tables e below (s₁.setTop (mkF m 12 #[.val (.ref a0c), .val (.int 0), .val (.ref a2b), .val (.int 0), .val (.int 2), .val (.int 0), .unset] [(.int 0), (.ref a0c)])) _
    refine X0.caload hx (j := (0 : Int32)) (v := (.int c0)) (by rw [e0]; exact Ar1.1) (State.isArrayOf_alike hZ.alike Ar1.2.1) Ar1.2.2 hin1 hat1 (g := (mkF m 12 #[.val (.ref a0c), .val (.int 0), .val (.ref a2b), .val (.int 0), .val (.int 2), .val (.int 0), .unset] [(.int 0), (.ref a0c)])) rfl rfl (hb hby d6_12) _ ?_
    show Steps p.tables e below (s₁.setTop (mkF m 13 #[.val (.ref a0c), .val (.int 0), .val (.ref a2b), .val (.int 0), .val (.int 2), .val (.int 0), .unset] [(.int c0)])) _
    refine XS.istore X0.here hx rfl (hb hby d6_13) rfl (l' := #[.val (.ref a0c), .val (.int 0), .val (.ref a2b), .val (.int 0), .val (.int 2), .val (.int 0), .val (.int c0)]) rfl ?_
    refine XS.iload X0.here hx rfl (hb hby d6_15) rfl ?_
    refine XS.sipush X0.here hx rfl (hb hby d6_17) ?_
    refine XS.icmpNo X0.here hx rfl (hb hby d6_20) rfl (tlt hcj).2.2.2 ?_
    show Steps p.tables e below (s₁.setTop (mkF m 23 #[.val (.ref a0c), .val (.int 0), .val (.ref a2b), .val (.int 0), .val (.int 2), .val (.int 0), .val (.int c0)] [])) _
    refine XS.iload X0.here hx rfl (hb hby d6_23) rfl ?_
    show Steps p.tables e below (s₁.setTop (mkF m 25 #[.val (.ref a0c), .val (.int 0), .val (.ref a2b), .val (.int 0), .val (.int 2), .val (.int 0), .val (.int c0)] [(.int 0)])) _
    exact retI X0 hx Bd.returns (hb hby d6_25) hr
  · show Q_rmC2_2u0 n0 Z cS aRS aEM aUS aSS a0c a2b k0 k2 c0 c1 h0 _ s₁.heap _
    rw [e0]
    exact ⟨rfl, N0, (Keep.refl h0 [a2b]), V_a2b⟩
theorem ef_rmNbl2 (m : MethodId)  : entryFrame m #[(.int 2)] 1 = mkF m 0 #[.val (.int 2)] [] := by first | (simp [entryFrame, mkF, argsToLocals, Value.category]; done) | rfl
def Q_rmNbl2 (n0 : Nat) (Z : State) (cS : Int32) (aRS : Addr) (aEM : Addr) (aUS : Addr) (aSS : Addr) (h0 : Heap) (v : Option Value) (h : Heap) (L : List Loc) : Prop := v = some (.int 4) ∧ Fr n0 L ∧ h = h0
set_option maxRecDepth 65536 in
set_option maxHeartbeats 40000000 in
theorem rmNbl2 (l : Launch) (Z : State) (a0 : Array Value) (hw : ∀ d ∈ tables_1, d.before a0 Z = true) (ws : List Jvm.Cond) (cS : Int32) (aRS : Addr) (aEM : Addr) (aUS : Addr) (aSS : Addr) (h0 : Heap) (n0 : Nat) (O0 : Old Z n0 h0) (GL : GF Z cS aRS aEM aUS aSS) :
    MetFree l MN_2 (head1 (Jvm.Cond.code MN_2 jdk_52_method_3_code 1 (some .int) :: ws) ({ frames := 0, cells := 0, slots := 0, locals := 0 } : Room)) (fun a U => a = #[(.int 2)] ∧ Z.Warmed39 U.vm ∧ U.heap = h0) (fun _ _ _ _ _ => True) (fun _ U o U' => ∃ v L, o = .returned v ∧ Q_rmNbl2 n0 Z cS aRS aEM aUS aSS h0 v U'.heap L ∧ FrameEnd U o U' L ({ frames := 0, cells := 0, slots := 0, locals := 0 } : Room).cells ({ frames := 0, cells := 0, slots := 0, locals := 0 } : Room).slots) := by
  refine MetFree.of_bodySF (plainFor_of_name pn) hisR ?_
  intro p e s m args below meth c s₁ Bd hml0 hP hK
  obtain ⟨rfl, hZ, hh⟩ := hP
  have hx := Bd.exec
  have hby := Bd.bytes
  have hml : c.maxLocals = 1 := hml0
  have hown : s.vm.findClass "java/lang/StringUTF16" = some m.cls := findClass_of_methodNamed Bd.named
  have hnm := (name_of_methodNamed Bd.named Bd.method).1
  have X0 : Stand p l e ({ frames := 0, cells := 0, slots := 0, locals := 0 } : Room) s m #[(.int 2)] below meth c s₁ [] 0 0 := Stand.of_body Bd
  have e0 : s₁.heap = h0 := by rw [← hh, Bd.state]; rfl
  have N0 := Fr.nil n0
  have pre0 : ∀ t, Steps p.tables e below (s₁.setTop (mkF m 0 #[.val (.int 2)] [])) t → Steps p.tables e below (s₁.setTop (entryFrame m #[(.int 2)] 1)) t := fun t k => castTop (ef_rmNbl2 m ) k
  have GL' := GL
  obtain ⟨GCS, GCP, GSR, GSE, GEE, GFE, GSU, GSS, GA16, GHI, GLO⟩ := GL'
  obtain ⟨fs, hr, hrun, hended, hW, hsame⟩ := X0.leave (v := some (.int 4)) (fun h => by rw [Bd.returns] at h; cases h)
  refine ⟨_, _, pre0 _ ?_, hrun, hended, _, _, rfl, ?_, ⟨_, rfl⟩, hW, hsame.mono (by decide) (by decide)⟩
  · show Steps p.tables e below (s₁.setTop (mkF m 0 #[.val (.int 2)] [])) _
    refine XS.iloadN X0.here hx rfl (hb hby d22_0) rfl ?_
    refine XS.ifYes X0.here hx rfl (pc0 := 1) (pc' := 12) rfl (hb hby d22_1) rfl ((if0 _ _).trans (flt (by decide : ¬ ((2 : Int32) < (0 : Int32)))).2.1) (by decide) (by decide) ?_
    refine XS.iloadN X0.here hx rfl (hb hby d22_12) rfl ?_
    show Steps p.tables e below (s₁.setTop (mkF m 13 #[.val (.int 2)] [(.int 2)])) _
    refine X0.ldcInt hx hown (mvT hZ (Wd hw 128 rfl)) (g := (mkF m 13 #[.val (.int 2)] [(.int 2)])) rfl (hb hby d22_13) _ ?_
    show Steps p.tables e below (s₁.setTop (mkF m 15 #[.val (.int 2)] [(.int 1073741823), (.int 2)])) _
    refine XS.icmpYes X0.here hx rfl (pc0 := 15) (pc' := 55) rfl (hb hby d22_15) rfl (tlt (by decide : (2 : Int32) < (1073741823 : Int32))).1 (by decide) (by decide) ?_
    refine XS.iloadN X0.here hx rfl (hb hby d22_55) rfl ?_
    refine XS.iconst X0.here hx rfl (hb hby d22_56) ?_
    refine XS.ishl X0.here hx rfl (hb hby d22_57) rfl ?_
    show Steps p.tables e below (s₁.setTop (mkF m 58 #[.val (.int 2)] [(.int 4)])) _
    exact retI X0 hx Bd.returns (hb hby d22_58) hr
  · show Q_rmNbl2 n0 Z cS aRS aEM aUS aSS h0 _ s₁.heap _
    rw [e0]
    exact ⟨rfl, N0, rfl⟩
def Q_rmNbf2 (n0 : Nat) (Z : State) (cS : Int32) (aRS : Addr) (aEM : Addr) (aUS : Addr) (aSS : Addr) (h0 : Heap) (v : Option Value) (h : Heap) (L : List Loc) : Prop := ∃ b : Addr, ∃ kb : ClassId, v = some (.ref b) ∧ Fr n0 L ∧ Keep h0 h [] ∧ (h0.size ≤ b) ∧ (Exa Z h b "[B") ∧ (Arv Z h b kb .byte (4 : Int32) [(.int 0), (.int 0), (.int 0), (.int 0)] (.int 0))
set_option maxRecDepth 65536 in
set_option maxHeartbeats 40000000 in
theorem rmNbf2 (l : Launch) (Z : State) (a0 : Array Value) (hw : ∀ d ∈ tables_1, d.before a0 Z = true) (ws : List Jvm.Cond) (cS : Int32) (aRS : Addr) (aEM : Addr) (aUS : Addr) (aSS : Addr) (h0 : Heap) (n0 : Nat) (O0 : Old Z n0 h0) (GL : GF Z cS aRS aEM aUS aSS) :
    MetFree l MN_3 (head1 (Jvm.Cond.code MN_3 jdk_52_method_2_code 1 (some (.array .byte)) :: ws) ({ frames := 1, cells := 1, slots := 4, locals := 12 } : Room)) (fun a U => a = #[(.int 2)] ∧ Z.Warmed39 U.vm ∧ U.heap = h0) (fun _ _ _ _ _ => True) (fun _ U o U' => ∃ v L, o = .returned v ∧ Q_rmNbf2 n0 Z cS aRS aEM aUS aSS h0 v U'.heap L ∧ FrameEnd U o U' L ({ frames := 1, cells := 1, slots := 4, locals := 12 } : Room).cells ({ frames := 1, cells := 1, slots := 4, locals := 12 } : Room).slots) := by
  refine MetFree.of_bodySF (plainFor_of_name pn) hisR ?_
  intro p e s m args below meth c s₁ Bd hml0 hP hK
  obtain ⟨rfl, hZ, hh⟩ := hP
  have hx := Bd.exec
  have hby := Bd.bytes
  have hml : c.maxLocals = 1 := hml0
  have hown : s.vm.findClass "java/lang/StringUTF16" = some m.cls := findClass_of_methodNamed Bd.named
  have hnm := (name_of_methodNamed Bd.named Bd.method).1
  have X0 : Stand p l e ({ frames := 1, cells := 1, slots := 4, locals := 12 } : Room) s m #[(.int 2)] below meth c s₁ [] 0 0 := Stand.of_body Bd
  have e0 : s₁.heap = h0 := by rw [← hh, Bd.state]; rfl
  have N0 := Fr.nil n0
  have pre0 : ∀ t, Steps p.tables e below (s₁.setTop (mkF m 0 #[.val (.int 2)] [])) t → Steps p.tables e below (s₁.setTop (entryFrame m #[(.int 2)] 1)) t := fun t k => castTop (ef_rmNbl2 m ) k
  have GL' := GL
  obtain ⟨GCS, GCP, GSR, GSE, GEE, GFE, GSU, GSS, GA16, GHI, GLO⟩ := GL'
  obtain ⟨_, _, ⟨T1, L1, k1, n1⟩, -, X1, ⟨Lc1, hQ1, l1, y1, z1⟩, st1⟩ := Jvm.LawKit.callS X0 hx (y := MN_2) hown (mvT hZ (Wd hw 125 rfl)) (mvT hZ (Wd hw 126 rfl)) (mvT hZ (Wd hw 22 rfl)) (mvT hZ (Wd hw 127 rfl)) (by decide) (backOf (W := 0) (rmNbl2 l Z a0 hw [] cS aRS aEM aUS aSS  (h0) n0 O0 GL) hZ (Wd hw 127 rfl) (Wd hw 22 rfl) (by decide) (by decide)) (g := (mkF m 1 #[.val (.int 2)] [(.int 2)])) rfl (by rw [hml]; rfl) (argsL := [(.int 2)]) (rest := []) (lenOf pdv1 rfl) rfl (by show 2 * 0 + _ ≤ _; exact Nat.le_of_eq rfl) (hb hby d21_1) (fun _ _ => ⟨rfl, e0, (by decide : 0 + 0 ≤ _), (by decide : 0 + 0 ≤ _)⟩)
  dsimp only [Pt.U, Pt.locs, Pt.cells, Pt.slots] at X1 l1 y1 z1 st1 hQ1
  subst l1 y1 z1
  obtain ⟨rfl, N1q, e1⟩ := hQ1
  have N1 := Fr.app N0 N1q
  obtain ⟨T2, h2, k2, X2, e2, E2, A2, A2', st2⟩ := newPE X1 hx hZ (Wd hw 24 rfl) e1 (g := (mkF m 4 #[.val (.int 2)] [(.int 4)])) rfl (hb hby d21_4) rfl (by decide) (cap := 4) (by decide) (by decide) (by decide) (by decide) (ad := "[B") rfl
  obtain ⟨b2, g2⟩ : ∃ z, z = h0.size := ⟨_, rfl⟩
  rw [← g2] at A2 A2' st2
  have g_b2 : n0 ≤ b2 := Nat.le_trans (own_sz O0) (Nat.le_of_eq g2.symm)
  have sz_b2 : h0.size ≤ b2 := Nat.le_trans (Keep.refl h0 []).1 (Nat.le_of_eq g2.symm)
  have K2 : Keep h0 h2 [] := (Keep.refl h0 []).ext E2
  have O2 := O0.ext E2
  have V_b2 : Arv Z h2 b2 k2 .byte (4 : Int32) [(.int 0), (.int 0), (.int 0), (.int 0)] (.int 0) := (Arv.new A2 (by decide)).pad (pad_rep [] (.int 0) 4)
  obtain ⟨fs, hr, hrun, hended, hW, hsame⟩ := X2.leave (v := some (.ref b2)) (fun h => by rw [Bd.returns] at h; cases h)
  refine ⟨_, _, pre0 _ ?_, hrun, hended, _, _, rfl, ?_, ⟨_, rfl⟩, hW, hsame.mono (by decide) (by decide)⟩
  · show Steps p.tables e below (s₁.setTop (mkF m 0 #[.val (.int 2)] [])) _
    refine XS.iloadN X0.here hx rfl (hb hby d21_0) rfl ?_
    show Steps p.tables e below (s₁.setTop (mkF m 1 #[.val (.int 2)] [(.int 2)])) _
    refine st1 _ ?_
    show Steps p.tables e below (T1.setTop (mkF m 4 #[.val (.int 2)] [(.int 4)])) _
    refine st2 _ ?_
    show Steps p.tables e below (T2.setTop (mkF m 6 #[.val (.int 2)] [(.ref b2)])) _
    jvm_step X2.here [X2.here.top, hx, (hb hby d21_6), X2.method', Bd.returns, Value.isRef, FieldType.isReference]
    first | (intro acts; rw [hr _ acts rfl rfl rfl]) | rw [hr _ _ rfl rfl rfl]
    exact Steps.refl _
  · show Q_rmNbf2 n0 Z cS aRS aEM aUS aSS h0 _ T2.heap _
    rw [e2]
    exact ⟨b2, k2, rfl, N1, K2, sz_b2, A2', V_b2⟩
def Q_rmPc2_0 (n0 : Nat) (Z : State) (cS : Int32) (aRS : Addr) (aEM : Addr) (aUS : Addr) (aSS : Addr) (a0b : Addr) (c0 : Int32) (k0 : ClassId) (y0 : Int32) (y1 : Int32) (y2 : Int32) (y3 : Int32) (h0 : Heap) (v : Option Value) (h : Heap) (L : List Loc) : Prop := v = none ∧ Fr n0 L ∧ Keep h0 h [a0b] ∧ (Arv Z h a0b k0 .byte (4 : Int32) [(.int (c0.toInt8.toInt32)), (.int ((c0 >>> ((8 : Int32) &&& 31)).toInt8.toInt32)), (.int y2), (.int y3)] (.int 0))
set_option maxRecDepth 65536 in
set_option maxHeartbeats 40000000 in
theorem rmPc2_0 (l : Launch) (Z : State) (a0 : Array Value) (hw : ∀ d ∈ tables_1, d.before a0 Z = true) (ws : List Jvm.Cond) (cS : Int32) (aRS : Addr) (aEM : Addr) (aUS : Addr) (aSS : Addr) (a0b : Addr) (c0 : Int32) (k0 : ClassId) (y0 : Int32) (y1 : Int32) (y2 : Int32) (y3 : Int32) (h0 : Heap) (n0 : Nat) (O0 : Old Z n0 h0) (GL : GF Z cS aRS aEM aUS aSS) (V_a0b : Arv Z h0 a0b k0 .byte (4 : Int32) [(.int y0), (.int y1), (.int y2), (.int y3)] (.int 0)) (g_a0b : n0 ≤ a0b) :
    MetFree l MN_4 (head1 (Jvm.Cond.code MN_4 jdk_52_method_4_code 3 none :: ws) ({ frames := 0, cells := 0, slots := 0, locals := 0 } : Room)) (fun a U => a = #[(.ref a0b), (.int 0), (.int c0)] ∧ Z.Warmed39 U.vm ∧ U.heap = h0) (fun _ _ _ _ _ => True) (fun _ U o U' => ∃ v L, o = .returned v ∧ Q_rmPc2_0 n0 Z cS aRS aEM aUS aSS a0b c0 k0 y0 y1 y2 y3 h0 v U'.heap L ∧ FrameEnd U o U' L ({ frames := 0, cells := 0, slots := 0, locals := 0 } : Room).cells ({ frames := 0, cells := 0, slots := 0, locals := 0 } : Room).slots) := by
  refine MetFree.of_bodySF (plainFor_of_name pn) hisR ?_
  intro p e s m args below meth c s₁ Bd hml0 hP hK
  obtain ⟨rfl, hZ, hh⟩ := hP
  have hx := Bd.exec
  have hby := Bd.bytes
  have hml : c.maxLocals = 3 := hml0
  have hown : s.vm.findClass "java/lang/StringUTF16" = some m.cls := findClass_of_methodNamed Bd.named
  have hnm := (name_of_methodNamed Bd.named Bd.method).1
  have X0 : Stand p l e ({ frames := 0, cells := 0, slots := 0, locals := 0 } : Room) s m #[(.ref a0b), (.int 0), (.int c0)] below meth c s₁ [] 0 0 := Stand.of_body Bd
  have e0 : s₁.heap = h0 := by rw [← hh, Bd.state]; rfl
  have N0 := Fr.nil n0
  have pre0 : ∀ t, Steps p.tables e below (s₁.setTop (mkF m 0 #[.val (.ref a0b), .val (.int 0), .val (.int c0)] [])) t → Steps p.tables e below (s₁.setTop (entryFrame m #[(.ref a0b), (.int 0), (.int c0)] 3)) t := fun t k => castTop (ef_rmPc1_0 m a0b c0) k
  have GL' := GL
  obtain ⟨GCS, GCP, GSR, GSE, GEE, GFE, GSU, GSS, GA16, GHI, GLO⟩ := GL'
  obtain ⟨T1, X1, e1, st1⟩ := getS2 X0 hx hZ hown (host := "") (Or.inl (Wd hw 132 rfl)) Via.refl e0 (GA16.ext O0.2) (g := (mkF m 0 #[.val (.ref a0b), .val (.int 0), .val (.int c0)] [])) rfl (hb hby d23_0)
  obtain ⟨T2, X2, e2, st2⟩ := getS2 X1 hx hZ hown (host := "") (Or.inl (Wd hw 133 rfl)) Via.refl e1 (GHI.ext O0.2) (g := (mkF m 38 #[.val (.ref a0b), .val (.int 1), .val (.int c0)] [(.int c0), (.int 0), (.ref a0b)])) rfl (hb hby d23_38)
  obtain ⟨cl3, Ar3, q3, S3, N3_, H3, G3⟩ := id (V_a0b)
  have hin3 : ¬ ((0 : Int32) < 0 ∨ cl3.slots.size ≤ ((0 : Int32)).toNatClampNeg) := inb_of S3 ⟨(by decide), (by decide)⟩
  obtain ⟨T3, h3, X3, e3, W3, st3⟩ := stB X2 hx hZ e2 Ar3 (j := (0 : Int32)) hin3 (g := (mkF m 43 #[.val (.ref a0b), .val (.int 1), .val (.int c0)] [(.int (c0.toInt8.toInt32)), (.int 0), (.ref a0b)])) rfl rfl (hb hby d23_43)
  have K3 : Keep h0 h3 [a0b] := (Keep.refl h0 [a0b]).wr W3 (Or.inl (List.mem_of_getElem? (i := 0) rfl))
  have O3 := O0.wr W3 g_a0b
  have N3 := Fr.snoc X3 N0 g_a0b
  have V3' : Arv Z h3 a0b k0 .byte (4 : Int32) [(.int ((c0.toInt8.toInt32)).toInt8.toInt32), (.int y1), (.int y2), (.int y3)] (.int 0) := Arv.set Ar3 q3 S3 N3_ H3 G3 (fits_nar_byte _) W3 0 rfl (Nat.le_of_ble_eq_true rfl)
  have V3 : Arv Z h3 a0b k0 .byte (4 : Int32) [(.int (c0.toInt8.toInt32)), (.int y1), (.int y2), (.int y3)] (.int 0) := by
    rw [own_b2 c0] at V3'
    exact V3'
  obtain ⟨T4, X4, e4, st4⟩ := getS2 X3 hx hZ hown (host := "") (Or.inl (Wd hw 134 rfl)) Via.refl e3 (GLO.ext O3.2) (g := (mkF m 47 #[.val (.ref a0b), .val (.int 1), .val (.int c0)] [(.int c0), (.int 1), (.ref a0b)])) rfl (hb hby d23_47)
  obtain ⟨cl5, Ar5, q5, S5, N5_, H5, G5⟩ := id (V3)
  have hin5 : ¬ ((1 : Int32) < 0 ∨ cl5.slots.size ≤ ((1 : Int32)).toNatClampNeg) := inb_of S5 ⟨(by decide), (by decide)⟩
  obtain ⟨T5, h5, X5, e5, W5, st5⟩ := stB X4 hx hZ e4 Ar5 (j := (1 : Int32)) hin5 (g := (mkF m 52 #[.val (.ref a0b), .val (.int 1), .val (.int c0)] [(.int ((c0 >>> ((8 : Int32) &&& 31)).toInt8.toInt32)), (.int 1), (.ref a0b)])) rfl rfl (hb hby d23_52)
  have K5 : Keep h0 h5 [a0b] := K3.wr W5 (Or.inl (List.mem_of_getElem? (i := 0) rfl))
  have O5 := O3.wr W5 g_a0b
  have N5 := Fr.snoc X5 N3 g_a0b
  have V5' : Arv Z h5 a0b k0 .byte (4 : Int32) [(.int (c0.toInt8.toInt32)), (.int (((c0 >>> ((8 : Int32) &&& 31)).toInt8.toInt32)).toInt8.toInt32), (.int y2), (.int y3)] (.int 0) := Arv.set Ar5 q5 S5 N5_ H5 G5 (fits_nar_byte _) W5 1 rfl (Nat.le_of_ble_eq_true rfl)
  have V5 : Arv Z h5 a0b k0 .byte (4 : Int32) [(.int (c0.toInt8.toInt32)), (.int ((c0 >>> ((8 : Int32) &&& 31)).toInt8.toInt32)), (.int y2), (.int y3)] (.int 0) := by
    rw [own_b2 (c0 >>> ((8 : Int32) &&& 31))] at V5'
    exact V5'
  obtain ⟨fs, hr, hrun, hended, hW, hsame⟩ := X5.leave (v := none) (fun _ => rfl)
  refine ⟨_, _, pre0 _ ?_, hrun, hended, _, _, rfl, ?_, ⟨_, rfl⟩, hW, hsame.mono (by decide) (by decide)⟩
  · show Steps p.tables e below (s₁.setTop (mkF m 0 #[.val (.ref a0b), .val (.int 0), .val (.int c0)] [])) _
    refine st1 _ ?_
    show Steps p.tables e below (T1.setTop (mkF m 3 #[.val (.ref a0b), .val (.int 0), .val (.int c0)] [(.int 1)])) _
    refine XS.ifYes X1.here hx rfl (pc0 := 3) (pc' := 28) rfl (hb hby d23_3) rfl ((if0 _ _).trans (feq (by decide : ¬ ((1 : Int32) = (0 : Int32)))).2) (by decide) (by decide) ?_
    refine XS.iloadN X1.here hx rfl (hb hby d23_28) rfl ?_
    refine XS.iconst X1.here hx rfl (hb hby d23_29) ?_
    refine XS.ishl X1.here hx rfl (hb hby d23_30) rfl ?_
    show Steps p.tables e below (T1.setTop (mkF m 31 #[.val (.ref a0b), .val (.int 0), .val (.int c0)] [(.int 0)])) _
    refine XS.istoreN X1.here hx rfl (hb hby d23_31) rfl (l' := #[.val (.ref a0b), .val (.int 0), .val (.int c0)]) rfl ?_
    refine XS.aloadN X1.here hx rfl (hb hby d23_32) rfl rfl ?_
    refine XS.iloadN X1.here hx rfl (hb hby d23_33) rfl ?_
    refine XS.iinc X1.here hx rfl (hb hby d23_34) rfl (l' := #[.val (.ref a0b), .val (.int 1), .val (.int c0)]) rfl ?_
    show Steps p.tables e below (T1.setTop (mkF m 37 #[.val (.ref a0b), .val (.int 1), .val (.int c0)] [(.int 0), (.ref a0b)])) _
    refine XS.iloadN X1.here hx rfl (hb hby d23_37) rfl ?_
    show Steps p.tables e below (T1.setTop (mkF m 38 #[.val (.ref a0b), .val (.int 1), .val (.int c0)] [(.int c0), (.int 0), (.ref a0b)])) _
    refine st2 _ ?_
    show Steps p.tables e below (T2.setTop (mkF m 41 #[.val (.ref a0b), .val (.int 1), .val (.int c0)] [(.int 0), (.int c0), (.int 0), (.ref a0b)])) _
    refine XS.ishr X2.here hx rfl (hb hby d23_41) rfl ?_
    rw [own_shr0 c0]
    show Steps p.tables e below (T2.setTop (mkF m 42 #[.val (.ref a0b), .val (.int 1), .val (.int c0)] [(.int c0), (.int 0), (.ref a0b)])) _
    refine XS.i2b X2.here hx rfl (hb hby d23_42) rfl ?_
    show Steps p.tables e below (T2.setTop (mkF m 43 #[.val (.ref a0b), .val (.int 1), .val (.int c0)] [(.int (c0.toInt8.toInt32)), (.int 0), (.ref a0b)])) _
    refine st3 _ ?_
    show Steps p.tables e below (T3.setTop (mkF m 44 #[.val (.ref a0b), .val (.int 1), .val (.int c0)] [])) _
    refine XS.aloadN X3.here hx rfl (hb hby d23_44) rfl rfl ?_
    refine XS.iloadN X3.here hx rfl (hb hby d23_45) rfl ?_
    refine XS.iloadN X3.here hx rfl (hb hby d23_46) rfl ?_
    show Steps p.tables e below (T3.setTop (mkF m 47 #[.val (.ref a0b), .val (.int 1), .val (.int c0)] [(.int c0), (.int 1), (.ref a0b)])) _
    refine st4 _ ?_
    show Steps p.tables e below (T4.setTop (mkF m 50 #[.val (.ref a0b), .val (.int 1), .val (.int c0)] [(.int 8), (.int c0), (.int 1), (.ref a0b)])) _
    refine XS.ishr X4.here hx rfl (hb hby d23_50) rfl ?_
    refine XS.i2b X4.here hx rfl (hb hby d23_51) rfl ?_
    show Steps p.tables e below (T4.setTop (mkF m 52 #[.val (.ref a0b), .val (.int 1), .val (.int c0)] [(.int ((c0 >>> ((8 : Int32) &&& 31)).toInt8.toInt32)), (.int 1), (.ref a0b)])) _
    refine st5 _ ?_
    show Steps p.tables e below (T5.setTop (mkF m 53 #[.val (.ref a0b), .val (.int 1), .val (.int c0)] [])) _
    exact X5.returnOut hx Bd.returns (hb hby d23_53) hr
  · show Q_rmPc2_0 n0 Z cS aRS aEM aUS aSS a0b c0 k0 y0 y1 y2 y3 h0 _ T5.heap _
    rw [e5]
    exact ⟨rfl, N5, K5, V5⟩
theorem ef_rmPc2_1 (m : MethodId) (a0b : Addr) (c0 : Int32) : entryFrame m #[(.ref a0b), (.int 1), (.int c0)] 3 = mkF m 0 #[.val (.ref a0b), .val (.int 1), .val (.int c0)] [] := by first | (simp [entryFrame, mkF, argsToLocals, Value.category]; done) | rfl
def Q_rmPc2_1 (n0 : Nat) (Z : State) (cS : Int32) (aRS : Addr) (aEM : Addr) (aUS : Addr) (aSS : Addr) (a0b : Addr) (c0 : Int32) (k0 : ClassId) (y0 : Int32) (y1 : Int32) (y2 : Int32) (y3 : Int32) (h0 : Heap) (v : Option Value) (h : Heap) (L : List Loc) : Prop := v = none ∧ Fr n0 L ∧ Keep h0 h [a0b] ∧ (Arv Z h a0b k0 .byte (4 : Int32) [(.int y0), (.int y1), (.int (c0.toInt8.toInt32)), (.int ((c0 >>> ((8 : Int32) &&& 31)).toInt8.toInt32))] (.int 0))
set_option maxRecDepth 65536 in
set_option maxHeartbeats 40000000 in
theorem rmPc2_1 (l : Launch) (Z : State) (a0 : Array Value) (hw : ∀ d ∈ tables_1, d.before a0 Z = true) (ws : List Jvm.Cond) (cS : Int32) (aRS : Addr) (aEM : Addr) (aUS : Addr) (aSS : Addr) (a0b : Addr) (c0 : Int32) (k0 : ClassId) (y0 : Int32) (y1 : Int32) (y2 : Int32) (y3 : Int32) (h0 : Heap) (n0 : Nat) (O0 : Old Z n0 h0) (GL : GF Z cS aRS aEM aUS aSS) (V_a0b : Arv Z h0 a0b k0 .byte (4 : Int32) [(.int y0), (.int y1), (.int y2), (.int y3)] (.int 0)) (g_a0b : n0 ≤ a0b) :
    MetFree l MN_4 (head1 (Jvm.Cond.code MN_4 jdk_52_method_4_code 3 none :: ws) ({ frames := 0, cells := 0, slots := 0, locals := 0 } : Room)) (fun a U => a = #[(.ref a0b), (.int 1), (.int c0)] ∧ Z.Warmed39 U.vm ∧ U.heap = h0) (fun _ _ _ _ _ => True) (fun _ U o U' => ∃ v L, o = .returned v ∧ Q_rmPc2_1 n0 Z cS aRS aEM aUS aSS a0b c0 k0 y0 y1 y2 y3 h0 v U'.heap L ∧ FrameEnd U o U' L ({ frames := 0, cells := 0, slots := 0, locals := 0 } : Room).cells ({ frames := 0, cells := 0, slots := 0, locals := 0 } : Room).slots) := by
  refine MetFree.of_bodySF (plainFor_of_name pn) hisR ?_
  intro p e s m args below meth c s₁ Bd hml0 hP hK
  obtain ⟨rfl, hZ, hh⟩ := hP
  have hx := Bd.exec
  have hby := Bd.bytes
  have hml : c.maxLocals = 3 := hml0
  have hown : s.vm.findClass "java/lang/StringUTF16" = some m.cls := findClass_of_methodNamed Bd.named
  have hnm := (name_of_methodNamed Bd.named Bd.method).1
  have X0 : Stand p l e ({ frames := 0, cells := 0, slots := 0, locals := 0 } : Room) s m #[(.ref a0b), (.int 1), (.int c0)] below meth c s₁ [] 0 0 := Stand.of_body Bd
  have e0 : s₁.heap = h0 := by rw [← hh, Bd.state]; rfl
  have N0 := Fr.nil n0
  have pre0 : ∀ t, Steps p.tables e below (s₁.setTop (mkF m 0 #[.val (.ref a0b), .val (.int 1), .val (.int c0)] [])) t → Steps p.tables e below (s₁.setTop (entryFrame m #[(.ref a0b), (.int 1), (.int c0)] 3)) t := fun t k => castTop (ef_rmPc2_1 m a0b c0) k
  have GL' := GL
  obtain ⟨GCS, GCP, GSR, GSE, GEE, GFE, GSU, GSS, GA16, GHI, GLO⟩ := GL'
  obtain ⟨T1, X1, e1, st1⟩ := getS2 X0 hx hZ hown (host := "") (Or.inl (Wd hw 132 rfl)) Via.refl e0 (GA16.ext O0.2) (g := (mkF m 0 #[.val (.ref a0b), .val (.int 1), .val (.int c0)] [])) rfl (hb hby d23_0)
  obtain ⟨T2, X2, e2, st2⟩ := getS2 X1 hx hZ hown (host := "") (Or.inl (Wd hw 133 rfl)) Via.refl e1 (GHI.ext O0.2) (g := (mkF m 38 #[.val (.ref a0b), .val (.int 3), .val (.int c0)] [(.int c0), (.int 2), (.ref a0b)])) rfl (hb hby d23_38)
  obtain ⟨cl3, Ar3, q3, S3, N3_, H3, G3⟩ := id (V_a0b)
  have hin3 : ¬ ((2 : Int32) < 0 ∨ cl3.slots.size ≤ ((2 : Int32)).toNatClampNeg) := inb_of S3 ⟨(by decide), (by decide)⟩
  obtain ⟨T3, h3, X3, e3, W3, st3⟩ := stB X2 hx hZ e2 Ar3 (j := (2 : Int32)) hin3 (g := (mkF m 43 #[.val (.ref a0b), .val (.int 3), .val (.int c0)] [(.int (c0.toInt8.toInt32)), (.int 2), (.ref a0b)])) rfl rfl (hb hby d23_43)
  have K3 : Keep h0 h3 [a0b] := (Keep.refl h0 [a0b]).wr W3 (Or.inl (List.mem_of_getElem? (i := 0) rfl))
  have O3 := O0.wr W3 g_a0b
  have N3 := Fr.snoc X3 N0 g_a0b
  have V3' : Arv Z h3 a0b k0 .byte (4 : Int32) [(.int y0), (.int y1), (.int ((c0.toInt8.toInt32)).toInt8.toInt32), (.int y3)] (.int 0) := Arv.set Ar3 q3 S3 N3_ H3 G3 (fits_nar_byte _) W3 2 rfl (Nat.le_of_ble_eq_true rfl)
  have V3 : Arv Z h3 a0b k0 .byte (4 : Int32) [(.int y0), (.int y1), (.int (c0.toInt8.toInt32)), (.int y3)] (.int 0) := by
    rw [own_b2 c0] at V3'
    exact V3'
  obtain ⟨T4, X4, e4, st4⟩ := getS2 X3 hx hZ hown (host := "") (Or.inl (Wd hw 134 rfl)) Via.refl e3 (GLO.ext O3.2) (g := (mkF m 47 #[.val (.ref a0b), .val (.int 3), .val (.int c0)] [(.int c0), (.int 3), (.ref a0b)])) rfl (hb hby d23_47)
  obtain ⟨cl5, Ar5, q5, S5, N5_, H5, G5⟩ := id (V3)
  have hin5 : ¬ ((3 : Int32) < 0 ∨ cl5.slots.size ≤ ((3 : Int32)).toNatClampNeg) := inb_of S5 ⟨(by decide), (by decide)⟩
  obtain ⟨T5, h5, X5, e5, W5, st5⟩ := stB X4 hx hZ e4 Ar5 (j := (3 : Int32)) hin5 (g := (mkF m 52 #[.val (.ref a0b), .val (.int 3), .val (.int c0)] [(.int ((c0 >>> ((8 : Int32) &&& 31)).toInt8.toInt32)), (.int 3), (.ref a0b)])) rfl rfl (hb hby d23_52)
  have K5 : Keep h0 h5 [a0b] := K3.wr W5 (Or.inl (List.mem_of_getElem? (i := 0) rfl))
  have O5 := O3.wr W5 g_a0b
  have N5 := Fr.snoc X5 N3 g_a0b
  have V5' : Arv Z h5 a0b k0 .byte (4 : Int32) [(.int y0), (.int y1), (.int (c0.toInt8.toInt32)), (.int (((c0 >>> ((8 : Int32) &&& 31)).toInt8.toInt32)).toInt8.toInt32)] (.int 0) := Arv.set Ar5 q5 S5 N5_ H5 G5 (fits_nar_byte _) W5 3 rfl (Nat.le_of_ble_eq_true rfl)
  have V5 : Arv Z h5 a0b k0 .byte (4 : Int32) [(.int y0), (.int y1), (.int (c0.toInt8.toInt32)), (.int ((c0 >>> ((8 : Int32) &&& 31)).toInt8.toInt32))] (.int 0) := by
    rw [own_b2 (c0 >>> ((8 : Int32) &&& 31))] at V5'
    exact V5'
  obtain ⟨fs, hr, hrun, hended, hW, hsame⟩ := X5.leave (v := none) (fun _ => rfl)
  refine ⟨_, _, pre0 _ ?_, hrun, hended, _, _, rfl, ?_, ⟨_, rfl⟩, hW, hsame.mono (by decide) (by decide)⟩
  · show Steps p.tables e below (s₁.setTop (mkF m 0 #[.val (.ref a0b), .val (.int 1), .val (.int c0)] [])) _
    refine st1 _ ?_
    show Steps p.tables e below (T1.setTop (mkF m 3 #[.val (.ref a0b), .val (.int 1), .val (.int c0)] [(.int 1)])) _
    refine XS.ifYes X1.here hx rfl (pc0 := 3) (pc' := 28) rfl (hb hby d23_3) rfl ((if0 _ _).trans (feq (by decide : ¬ ((1 : Int32) = (0 : Int32)))).2) (by decide) (by decide) ?_
    refine XS.iloadN X1.here hx rfl (hb hby d23_28) rfl ?_
    refine XS.iconst X1.here hx rfl (hb hby d23_29) ?_
    refine XS.ishl X1.here hx rfl (hb hby d23_30) rfl ?_
    show Steps p.tables e below (T1.setTop (mkF m 31 #[.val (.ref a0b), .val (.int 1), .val (.int c0)] [(.int 2)])) _
    refine XS.istoreN X1.here hx rfl (hb hby d23_31) rfl (l' := #[.val (.ref a0b), .val (.int 2), .val (.int c0)]) rfl ?_
    refine XS.aloadN X1.here hx rfl (hb hby d23_32) rfl rfl ?_
    refine XS.iloadN X1.here hx rfl (hb hby d23_33) rfl ?_
    refine XS.iinc X1.here hx rfl (hb hby d23_34) rfl (l' := #[.val (.ref a0b), .val (.int 3), .val (.int c0)]) rfl ?_
    show Steps p.tables e below (T1.setTop (mkF m 37 #[.val (.ref a0b), .val (.int 3), .val (.int c0)] [(.int 2), (.ref a0b)])) _
    refine XS.iloadN X1.here hx rfl (hb hby d23_37) rfl ?_
    show Steps p.tables e below (T1.setTop (mkF m 38 #[.val (.ref a0b), .val (.int 3), .val (.int c0)] [(.int c0), (.int 2), (.ref a0b)])) _
    refine st2 _ ?_
    show Steps p.tables e below (T2.setTop (mkF m 41 #[.val (.ref a0b), .val (.int 3), .val (.int c0)] [(.int 0), (.int c0), (.int 2), (.ref a0b)])) _
    refine XS.ishr X2.here hx rfl (hb hby d23_41) rfl ?_
    rw [own_shr0 c0]
    show Steps p.tables e below (T2.setTop (mkF m 42 #[.val (.ref a0b), .val (.int 3), .val (.int c0)] [(.int c0), (.int 2), (.ref a0b)])) _
    refine XS.i2b X2.here hx rfl (hb hby d23_42) rfl ?_
    show Steps p.tables e below (T2.setTop (mkF m 43 #[.val (.ref a0b), .val (.int 3), .val (.int c0)] [(.int (c0.toInt8.toInt32)), (.int 2), (.ref a0b)])) _
    refine st3 _ ?_
    show Steps p.tables e below (T3.setTop (mkF m 44 #[.val (.ref a0b), .val (.int 3), .val (.int c0)] [])) _
    refine XS.aloadN X3.here hx rfl (hb hby d23_44) rfl rfl ?_
    refine XS.iloadN X3.here hx rfl (hb hby d23_45) rfl ?_
    refine XS.iloadN X3.here hx rfl (hb hby d23_46) rfl ?_
    show Steps p.tables e below (T3.setTop (mkF m 47 #[.val (.ref a0b), .val (.int 3), .val (.int c0)] [(.int c0), (.int 3), (.ref a0b)])) _
    refine st4 _ ?_
    show Steps p.tables e below (T4.setTop (mkF m 50 #[.val (.ref a0b), .val (.int 3), .val (.int c0)] [(.int 8), (.int c0), (.int 3), (.ref a0b)])) _
    refine XS.ishr X4.here hx rfl (hb hby d23_50) rfl ?_
    refine XS.i2b X4.here hx rfl (hb hby d23_51) rfl ?_
    show Steps p.tables e below (T4.setTop (mkF m 52 #[.val (.ref a0b), .val (.int 3), .val (.int c0)] [(.int ((c0 >>> ((8 : Int32) &&& 31)).toInt8.toInt32)), (.int 3), (.ref a0b)])) _
    refine st5 _ ?_
    show Steps p.tables e below (T5.setTop (mkF m 53 #[.val (.ref a0b), .val (.int 3), .val (.int c0)] [])) _
    exact X5.returnOut hx Bd.returns (hb hby d23_53) hr
  · show Q_rmPc2_1 n0 Z cS aRS aEM aUS aSS a0b c0 k0 y0 y1 y2 y3 h0 _ T5.heap _
    rw [e5]
    exact ⟨rfl, N5, K5, V5⟩
theorem ef_rmTb2 (m : MethodId) (a0c : Addr) : entryFrame m #[(.ref a0c), (.int 0), (.int 2)] 5 = mkF m 0 #[.val (.ref a0c), .val (.int 0), .val (.int 2), .unset, .unset] [] := by first | (simp [entryFrame, mkF, argsToLocals, Value.category]; done) | rfl
def Q_rmTb2 (n0 : Nat) (Z : State) (cS : Int32) (aRS : Addr) (aEM : Addr) (aUS : Addr) (aSS : Addr) (a0c : Addr) (k0 : ClassId) (c0 : Int32) (c1 : Int32) (h0 : Heap) (v : Option Value) (h : Heap) (L : List Loc) : Prop := ∃ b : Addr, ∃ kb : ClassId, v = some (.ref b) ∧ Fr n0 L ∧ Keep h0 h [] ∧ (h0.size ≤ b) ∧ (Exa Z h b "[B") ∧ (Arv Z h b kb .byte (4 : Int32) [(.int (c0.toInt8.toInt32)), (.int ((c0 >>> ((8 : Int32) &&& 31)).toInt8.toInt32)), (.int (c1.toInt8.toInt32)), (.int ((c1 >>> ((8 : Int32) &&& 31)).toInt8.toInt32))] (.int 0))
set_option maxRecDepth 65536 in
set_option maxHeartbeats 40000000 in
theorem rmTb2 (l : Launch) (Z : State) (a0 : Array Value) (hw : ∀ d ∈ tables_1, d.before a0 Z = true) (ws : List Jvm.Cond) (cS : Int32) (aRS : Addr) (aEM : Addr) (aUS : Addr) (aSS : Addr) (a0c : Addr) (k0 : ClassId) (c0 : Int32) (c1 : Int32) (h0 : Heap) (n0 : Nat) (O0 : Old Z n0 h0) (GL : GF Z cS aRS aEM aUS aSS) (V_a0c : Arv Z h0 a0c k0 .char (2 : Int32) [(.int c0), (.int c1)] (.int 0)) :
    MetFree l MN_5 (head1 (Jvm.Cond.code MN_5 jdk_52_method_14_code 5 (some (.array .byte)) :: ws) ({ frames := 2, cells := 1, slots := 4, locals := 24 } : Room)) (fun a U => a = #[(.ref a0c), (.int 0), (.int 2)] ∧ Z.Warmed39 U.vm ∧ U.heap = h0) (fun _ _ _ _ _ => True) (fun _ U o U' => ∃ v L, o = .returned v ∧ Q_rmTb2 n0 Z cS aRS aEM aUS aSS a0c k0 c0 c1 h0 v U'.heap L ∧ FrameEnd U o U' L ({ frames := 2, cells := 1, slots := 4, locals := 24 } : Room).cells ({ frames := 2, cells := 1, slots := 4, locals := 24 } : Room).slots) := by
  refine MetFree.of_bodySF (plainFor_of_name pn) hisR ?_
  intro p e s m args below meth c s₁ Bd hml0 hP hK
  obtain ⟨rfl, hZ, hh⟩ := hP
  have hx := Bd.exec
  have hby := Bd.bytes
  have hml : c.maxLocals = 5 := hml0
  have hown : s.vm.findClass "java/lang/StringUTF16" = some m.cls := findClass_of_methodNamed Bd.named
  have hnm := (name_of_methodNamed Bd.named Bd.method).1
  have X0 : Stand p l e ({ frames := 2, cells := 1, slots := 4, locals := 24 } : Room) s m #[(.ref a0c), (.int 0), (.int 2)] below meth c s₁ [] 0 0 := Stand.of_body Bd
  have e0 : s₁.heap = h0 := by rw [← hh, Bd.state]; rfl
  have N0 := Fr.nil n0
  have pre0 : ∀ t, Steps p.tables e below (s₁.setTop (mkF m 0 #[.val (.ref a0c), .val (.int 0), .val (.int 2), .unset, .unset] [])) t → Steps p.tables e below (s₁.setTop (entryFrame m #[(.ref a0c), (.int 0), (.int 2)] 5)) t := fun t k => castTop (ef_rmTb2 m a0c) k
  have GL' := GL
  obtain ⟨GCS, GCP, GSR, GSE, GEE, GFE, GSU, GSS, GA16, GHI, GLO⟩ := GL'
  obtain ⟨_, _, ⟨T1, L1, k1, n1⟩, -, X1, ⟨Lc1, hQ1, l1, y1, z1⟩, st1⟩ := Jvm.LawKit.callS X0 hx (y := MN_3) hown (mvT hZ (Wd hw 122 rfl)) (mvT hZ (Wd hw 123 rfl)) (mvT hZ (Wd hw 22 rfl)) (mvT hZ (Wd hw 124 rfl)) (by decide) (backOf (W := 0) (rmNbf2 l Z a0 hw [] cS aRS aEM aUS aSS  (h0) n0 O0 GL) hZ (Wd hw 124 rfl) (Wd hw 22 rfl) (by decide) (by decide)) (g := (mkF m 1 #[.val (.ref a0c), .val (.int 0), .val (.int 2), .unset, .unset] [(.int 2)])) rfl (by rw [hml]; rfl) (argsL := [(.int 2)]) (rest := []) (lenOf pdv2 rfl) rfl (by show 2 * 0 + _ ≤ _; exact Nat.le_of_eq rfl) (hb hby d20_1) (fun _ _ => ⟨rfl, e0, (by decide : 0 + 1 ≤ _), (by decide : 0 + 4 ≤ _)⟩)
  dsimp only [Pt.U, Pt.locs, Pt.cells, Pt.slots] at X1 l1 y1 z1 st1 hQ1
  subst l1 y1 z1
  obtain ⟨b_1, kb_1, rfl, N1q, Kc1, P1_0, P1_1, P1_2⟩ := hQ1
  have K1 : Keep h0 T1.heap [] := (Keep.refl h0 []).trans Kc1 all0
  have O1 := O0.keep Kc1 all0
  have g_b_1 : n0 ≤ b_1 := Nat.le_trans (own_sz O0) P1_0
  have sz_b_1 : h0.size ≤ b_1 := Nat.le_trans (Keep.refl h0 []).1 P1_0
  have N1 := Fr.app N0 N1q
  obtain ⟨cl2, Ar2, -, S2, N2_, H2, G2⟩ := id ((V_a0c.keep Kc1 nin0))
  have hin2 : ¬ ((0 : Int32) < 0 ∨ cl2.slots.size ≤ ((0 : Int32)).toNatClampNeg) := inb_of S2 ⟨(by decide), (by decide)⟩
  have hat2 : cl2.slots[((0 : Int32)).toNatClampNeg]? = some (.int c0) := H2.at hin2 rfl
  obtain ⟨_, _, ⟨T3, L3, k3, n3⟩, -, X3, ⟨Lc3, hQ3, l3, y3, z3⟩, st3⟩ := Jvm.LawKit.callS X1 hx (y := MN_4) hown (mvT hZ (Wd hw 129 rfl)) (mvT hZ (Wd hw 130 rfl)) (mvT hZ (Wd hw 22 rfl)) (mvT hZ (Wd hw 131 rfl)) (by decide) (backOf (W := 0) (rmPc2_0 l Z a0 hw [] cS aRS aEM aUS aSS (b_1) (c0) (kb_1) ((0 : Int32)) ((0 : Int32)) ((0 : Int32)) ((0 : Int32)) (T1.heap) n0 O1 GL P1_2 g_b_1) hZ (Wd hw 131 rfl) (Wd hw 22 rfl) (by decide) (by decide)) (g := (mkF m 20 #[.val (.ref a0c), .val (.int 0), .val (.int 2), .val (.ref b_1), .val (.int 0)] [(.int c0), (.int 0), (.ref b_1)])) rfl (by rw [hml]; rfl) (argsL := [(.ref b_1), (.int 0), (.int c0)]) (rest := []) (lenOf pdv3 rfl) rfl (by show 2 * 0 + _ ≤ _; exact Nat.le_of_eq rfl) (hb hby d20_20) (fun _ _ => ⟨rfl, rfl, (by decide : 1 + 0 ≤ _), (by decide : 4 + 0 ≤ _)⟩)
  dsimp only [Pt.U, Pt.locs, Pt.cells, Pt.slots] at X3 l3 y3 z3 st3 hQ3
  subst l3 y3 z3
  obtain ⟨rfl, N3q, Kc3, P3_0⟩ := hQ3
  have K3 : Keep h0 T3.heap [] := K1.trans Kc3 (allS (Or.inr sz_b_1) all0)
  have O3 := O1.keep Kc3 (allS g_b_1 all0)
  have N3 := Fr.app N1 N3q
  obtain ⟨cl4, Ar4, -, S4, N4_, H4, G4⟩ := id (((V_a0c.keep Kc1 nin0).keep Kc3 (ninS (Nat.ne_of_lt (Nat.lt_of_lt_of_le V_a0c.lt P1_0)) nin0)))
  have hin4 : ¬ ((1 : Int32) < 0 ∨ cl4.slots.size ≤ ((1 : Int32)).toNatClampNeg) := inb_of S4 ⟨(by decide), (by decide)⟩
  have hat4 : cl4.slots[((1 : Int32)).toNatClampNeg]? = some (.int c1) := H4.at hin4 rfl
  obtain ⟨_, _, ⟨T5, L5, k5, n5⟩, -, X5, ⟨Lc5, hQ5, l5, y5, z5⟩, st5⟩ := Jvm.LawKit.callS X3 hx (y := MN_4) hown (mvT hZ (Wd hw 129 rfl)) (mvT hZ (Wd hw 130 rfl)) (mvT hZ (Wd hw 22 rfl)) (mvT hZ (Wd hw 131 rfl)) (by decide) (backOf (W := 0) (rmPc2_1 l Z a0 hw [] cS aRS aEM aUS aSS (b_1) (c1) (kb_1) ((c0.toInt8.toInt32)) (((c0 >>> ((8 : Int32) &&& 31)).toInt8.toInt32)) ((0 : Int32)) ((0 : Int32)) (T3.heap) n0 O3 GL P3_0 g_b_1) hZ (Wd hw 131 rfl) (Wd hw 22 rfl) (by decide) (by decide)) (g := (mkF m 20 #[.val (.ref a0c), .val (.int 1), .val (.int 2), .val (.ref b_1), .val (.int 1)] [(.int c1), (.int 1), (.ref b_1)])) rfl (by rw [hml]; rfl) (argsL := [(.ref b_1), (.int 1), (.int c1)]) (rest := []) (lenOf pdv3 rfl) rfl (by show 2 * 0 + _ ≤ _; exact Nat.le_of_eq rfl) (hb hby d20_20) (fun _ _ => ⟨rfl, rfl, (by decide : 1 + 0 ≤ _), (by decide : 4 + 0 ≤ _)⟩)
  dsimp only [Pt.U, Pt.locs, Pt.cells, Pt.slots] at X5 l5 y5 z5 st5 hQ5
  subst l5 y5 z5
  obtain ⟨rfl, N5q, Kc5, P5_0⟩ := hQ5
  have K5 : Keep h0 T5.heap [] := K3.trans Kc5 (allS (Or.inr sz_b_1) all0)
  have O5 := O3.keep Kc5 (allS g_b_1 all0)
  have N5 := Fr.app N3 N5q
  obtain ⟨fs, hr, hrun, hended, hW, hsame⟩ := X5.leave (v := some (.ref b_1)) (fun h => by rw [Bd.returns] at h; cases h)
  refine ⟨_, _, pre0 _ ?_, hrun, hended, _, _, rfl, ?_, ⟨_, rfl⟩, hW, hsame.mono (by decide) (by decide)⟩
  · show Steps p.tables e below (s₁.setTop (mkF m 0 #[.val (.ref a0c), .val (.int 0), .val (.int 2), .unset, .unset] [])) _
    refine XS.iloadN X0.here hx rfl (hb hby d20_0) rfl ?_
    show Steps p.tables e below (s₁.setTop (mkF m 1 #[.val (.ref a0c), .val (.int 0), .val (.int 2), .unset, .unset] [(.int 2)])) _
    refine st1 _ ?_
    show Steps p.tables e below (T1.setTop (mkF m 4 #[.val (.ref a0c), .val (.int 0), .val (.int 2), .unset, .unset] [(.ref b_1)])) _
    refine XS.astoreN X1.here hx rfl (hb hby d20_4) rfl rfl (l' := #[.val (.ref a0c), .val (.int 0), .val (.int 2), .val (.ref b_1), .unset]) rfl ?_
    refine XS.iconst X1.here hx rfl (hb hby d20_5) ?_
    refine XS.istore X1.here hx rfl (hb hby d20_6) rfl (l' := #[.val (.ref a0c), .val (.int 0), .val (.int 2), .val (.ref b_1), .val (.int 0)]) rfl ?_
    refine XS.iload X1.here hx rfl (hb hby d20_8) rfl ?_
    show Steps p.tables e below (T1.setTop (mkF m 10 #[.val (.ref a0c), .val (.int 0), .val (.int 2), .val (.ref b_1), .val (.int 0)] [(.int 0)])) _
    refine XS.iloadN X1.here hx rfl (hb hby d20_10) rfl ?_
    refine XS.icmpNo X1.here hx rfl (hb hby d20_11) rfl (tlt (by decide : (0 : Int32) < (2 : Int32))).2.1 ?_
    refine XS.aloadN X1.here hx rfl (hb hby d20_14) rfl rfl ?_
    refine XS.iload X1.here hx rfl (hb hby d20_15) rfl ?_
    show Steps p.tables e below (T1.setTop (mkF m 17 #[.val (.ref a0c), .val (.int 0), .val (.int 2), .val (.ref b_1), .val (.int 0)] [(.int 0), (.ref b_1)])) _
    refine XS.aloadN X1.here hx rfl (hb hby d20_17) rfl rfl ?_
    refine XS.iloadN X1.here hx rfl (hb hby d20_18) rfl ?_
    show Steps p.tables e below (T1.setTop (mkF m 19 #[.val (.ref a0c), .val (.int 0), .val (.int 2), .val (.ref b_1), .val (.int 0)] [(.int 0), (.ref a0c), (.int 0), (.ref b_1)])) _
    refine X1.caload hx (j := (0 : Int32)) (v := (.int c0)) Ar2.1 (State.isArrayOf_alike hZ.alike Ar2.2.1) Ar2.2.2 hin2 hat2 (g := (mkF m 19 #[.val (.ref a0c), .val (.int 0), .val (.int 2), .val (.ref b_1), .val (.int 0)] [(.int 0), (.ref a0c), (.int 0), (.ref b_1)])) rfl rfl (hb hby d20_19) _ ?_
    show Steps p.tables e below (T1.setTop (mkF m 20 #[.val (.ref a0c), .val (.int 0), .val (.int 2), .val (.ref b_1), .val (.int 0)] [(.int c0), (.int 0), (.ref b_1)])) _
    refine st3 _ ?_
    show Steps p.tables e below (T3.setTop (mkF m 23 #[.val (.ref a0c), .val (.int 0), .val (.int 2), .val (.ref b_1), .val (.int 0)] [])) _
    refine XS.iinc X3.here hx rfl (hb hby d20_23) rfl (l' := #[.val (.ref a0c), .val (.int 1), .val (.int 2), .val (.ref b_1), .val (.int 0)]) rfl ?_
    refine XS.iinc X3.here hx rfl (hb hby d20_26) rfl (l' := #[.val (.ref a0c), .val (.int 1), .val (.int 2), .val (.ref b_1), .val (.int 1)]) rfl ?_
    refine XS.goto X3.here hx rfl (pc0 := 29) (pc' := 8) rfl (hb hby d20_29) (by decide) (by decide) ?_
    refine XS.iload X3.here hx rfl (hb hby d20_8) rfl ?_
    show Steps p.tables e below (T3.setTop (mkF m 10 #[.val (.ref a0c), .val (.int 1), .val (.int 2), .val (.ref b_1), .val (.int 1)] [(.int 1)])) _
    refine XS.iloadN X3.here hx rfl (hb hby d20_10) rfl ?_
    refine XS.icmpNo X3.here hx rfl (hb hby d20_11) rfl (tlt (by decide : (1 : Int32) < (2 : Int32))).2.1 ?_
    refine XS.aloadN X3.here hx rfl (hb hby d20_14) rfl rfl ?_
    refine XS.iload X3.here hx rfl (hb hby d20_15) rfl ?_
    show Steps p.tables e below (T3.setTop (mkF m 17 #[.val (.ref a0c), .val (.int 1), .val (.int 2), .val (.ref b_1), .val (.int 1)] [(.int 1), (.ref b_1)])) _
    refine XS.aloadN X3.here hx rfl (hb hby d20_17) rfl rfl ?_
    refine XS.iloadN X3.here hx rfl (hb hby d20_18) rfl ?_
    show Steps p.tables e below (T3.setTop (mkF m 19 #[.val (.ref a0c), .val (.int 1), .val (.int 2), .val (.ref b_1), .val (.int 1)] [(.int 1), (.ref a0c), (.int 1), (.ref b_1)])) _
    refine X3.caload hx (j := (1 : Int32)) (v := (.int c1)) Ar4.1 (State.isArrayOf_alike hZ.alike Ar4.2.1) Ar4.2.2 hin4 hat4 (g := (mkF m 19 #[.val (.ref a0c), .val (.int 1), .val (.int 2), .val (.ref b_1), .val (.int 1)] [(.int 1), (.ref a0c), (.int 1), (.ref b_1)])) rfl rfl (hb hby d20_19) _ ?_
    show Steps p.tables e below (T3.setTop (mkF m 20 #[.val (.ref a0c), .val (.int 1), .val (.int 2), .val (.ref b_1), .val (.int 1)] [(.int c1), (.int 1), (.ref b_1)])) _
    refine st5 _ ?_
    show Steps p.tables e below (T5.setTop (mkF m 23 #[.val (.ref a0c), .val (.int 1), .val (.int 2), .val (.ref b_1), .val (.int 1)] [])) _
    refine XS.iinc X5.here hx rfl (hb hby d20_23) rfl (l' := #[.val (.ref a0c), .val (.int 2), .val (.int 2), .val (.ref b_1), .val (.int 1)]) rfl ?_
    refine XS.iinc X5.here hx rfl (hb hby d20_26) rfl (l' := #[.val (.ref a0c), .val (.int 2), .val (.int 2), .val (.ref b_1), .val (.int 2)]) rfl ?_
    refine XS.goto X5.here hx rfl (pc0 := 29) (pc' := 8) rfl (hb hby d20_29) (by decide) (by decide) ?_
    refine XS.iload X5.here hx rfl (hb hby d20_8) rfl ?_
    show Steps p.tables e below (T5.setTop (mkF m 10 #[.val (.ref a0c), .val (.int 2), .val (.int 2), .val (.ref b_1), .val (.int 2)] [(.int 2)])) _
    refine XS.iloadN X5.here hx rfl (hb hby d20_10) rfl ?_
    refine XS.icmpYes X5.here hx rfl (pc0 := 11) (pc' := 32) rfl (hb hby d20_11) rfl (flt (by decide : ¬ ((2 : Int32) < (2 : Int32)))).2.1 (by decide) (by decide) ?_
    refine XS.aloadN X5.here hx rfl (hb hby d20_32) rfl rfl ?_
    show Steps p.tables e below (T5.setTop (mkF m 33 #[.val (.ref a0c), .val (.int 2), .val (.int 2), .val (.ref b_1), .val (.int 2)] [(.ref b_1)])) _
    jvm_step X5.here [X5.here.top, hx, (hb hby d20_33), X5.method', Bd.returns, Value.isRef, FieldType.isReference]
    first | (intro acts; rw [hr _ acts rfl rfl rfl]) | rw [hr _ _ rfl rfl rfl]
    exact Steps.refl _
  · show Q_rmTb2 n0 Z cS aRS aEM aUS aSS a0c k0 c0 c1 h0 _ T5.heap _
    exact ⟨b_1, kb_1, rfl, N5, K5, sz_b_1, ((P1_1.keep Kc3).keep Kc5), P5_0⟩
def Q_rmGc2_0 (n0 : Nat) (Z : State) (cS : Int32) (aRS : Addr) (aEM : Addr) (aUS : Addr) (aSS : Addr) (a0b : Addr) (k0 : ClassId) (c0 : Int32) (y2 : Int32) (y3 : Int32) (h0 : Heap) (v : Option Value) (h : Heap) (L : List Loc) : Prop := v = some (.int c0) ∧ Fr n0 L ∧ h = h0
set_option maxRecDepth 65536 in
set_option maxHeartbeats 40000000 in
theorem rmGc2_0 (l : Launch) (Z : State) (a0 : Array Value) (hw : ∀ d ∈ tables_1, d.before a0 Z = true) (ws : List Jvm.Cond) (cS : Int32) (aRS : Addr) (aEM : Addr) (aUS : Addr) (aSS : Addr) (a0b : Addr) (k0 : ClassId) (c0 : Int32) (y2 : Int32) (y3 : Int32) (h0 : Heap) (n0 : Nat) (O0 : Old Z n0 h0) (GL : GF Z cS aRS aEM aUS aSS) (V_a0b : Arv Z h0 a0b k0 .byte (4 : Int32) [(.int (c0.toInt8.toInt32)), (.int ((c0 >>> ((8 : Int32) &&& 31)).toInt8.toInt32)), (.int y2), (.int y3)] (.int 0)) (hn : nar .char c0 = c0) :
    MetFree l MN_6 (head1 (Jvm.Cond.code MN_6 jdk_52_method_5_code 2 (some .char) :: ws) ({ frames := 0, cells := 0, slots := 0, locals := 0 } : Room)) (fun a U => a = #[(.ref a0b), (.int 0)] ∧ Z.Warmed39 U.vm ∧ U.heap = h0) (fun _ _ _ _ _ => True) (fun _ U o U' => ∃ v L, o = .returned v ∧ Q_rmGc2_0 n0 Z cS aRS aEM aUS aSS a0b k0 c0 y2 y3 h0 v U'.heap L ∧ FrameEnd U o U' L ({ frames := 0, cells := 0, slots := 0, locals := 0 } : Room).cells ({ frames := 0, cells := 0, slots := 0, locals := 0 } : Room).slots) := by
  refine MetFree.of_bodySF (plainFor_of_name pn) hisR ?_
  intro p e s m args below meth c s₁ Bd hml0 hP hK
  obtain ⟨rfl, hZ, hh⟩ := hP
  have hx := Bd.exec
  have hby := Bd.bytes
  have hml : c.maxLocals = 2 := hml0
  have hown : s.vm.findClass "java/lang/StringUTF16" = some m.cls := findClass_of_methodNamed Bd.named
  have hnm := (name_of_methodNamed Bd.named Bd.method).1
  have X0 : Stand p l e ({ frames := 0, cells := 0, slots := 0, locals := 0 } : Room) s m #[(.ref a0b), (.int 0)] below meth c s₁ [] 0 0 := Stand.of_body Bd
  have e0 : s₁.heap = h0 := by rw [← hh, Bd.state]; rfl
  have N0 := Fr.nil n0
  have pre0 : ∀ t, Steps p.tables e below (s₁.setTop (mkF m 0 #[.val (.ref a0b), .val (.int 0)] [])) t → Steps p.tables e below (s₁.setTop (entryFrame m #[(.ref a0b), (.int 0)] 2)) t := fun t k => castTop (ef_rmGc1_0 m a0b) k
  have GL' := GL
  obtain ⟨GCS, GCP, GSR, GSE, GEE, GFE, GSU, GSS, GA16, GHI, GLO⟩ := GL'
  obtain ⟨T1, X1, e1, st1⟩ := getS2 X0 hx hZ hown (host := "") (Or.inl (Wd hw 132 rfl)) Via.refl e0 (GA16.ext O0.2) (g := (mkF m 0 #[.val (.ref a0b), .val (.int 0)] [])) rfl (hb hby d24_0)
  obtain ⟨cl2, Ar2, -, S2, N2_, H2, G2⟩ := id (V_a0b)
  have hin2 : ¬ ((0 : Int32) < 0 ∨ cl2.slots.size ≤ ((0 : Int32)).toNatClampNeg) := inb_of S2 ⟨(by decide), (by decide)⟩
  have hat2 : cl2.slots[((0 : Int32)).toNatClampNeg]? = some (.int (c0.toInt8.toInt32)) := H2.at hin2 rfl
  obtain ⟨T3, X3, e3, st3⟩ := getS2 X1 hx hZ hown (host := "") (Or.inl (Wd hw 133 rfl)) Via.refl e1 (GHI.ext O0.2) (g := (mkF m 42 #[.val (.ref a0b), .val (.int 1)] [(.int ((c0.toInt8.toInt32) &&& (255 : Int32)))])) rfl (hb hby d24_42)
  obtain ⟨cl4, Ar4, -, S4, N4_, H4, G4⟩ := id (V_a0b)
  have hin4 : ¬ ((1 : Int32) < 0 ∨ cl4.slots.size ≤ ((1 : Int32)).toNatClampNeg) := inb_of S4 ⟨(by decide), (by decide)⟩
  have hat4 : cl4.slots[((1 : Int32)).toNatClampNeg]? = some (.int ((c0 >>> ((8 : Int32) &&& 31)).toInt8.toInt32)) := H4.at hin4 rfl
  obtain ⟨T5, X5, e5, st5⟩ := getS2 X3 hx hZ hown (host := "") (Or.inl (Wd hw 134 rfl)) Via.refl e3 (GLO.ext O0.2) (g := (mkF m 53 #[.val (.ref a0b), .val (.int 1)] [(.int (((c0 >>> ((8 : Int32) &&& 31)).toInt8.toInt32) &&& (255 : Int32))), (.int (((c0.toInt8.toInt32) &&& (255 : Int32)) <<< ((0 : Int32) &&& 31)))])) rfl (hb hby d24_53)
  obtain ⟨fs, hr, hrun, hended, hW, hsame⟩ := X5.leave (v := some (.int (nar .char (((((c0.toInt8.toInt32) &&& (255 : Int32)) <<< ((0 : Int32) &&& 31)) ||| ((((c0 >>> ((8 : Int32) &&& 31)).toInt8.toInt32) &&& (255 : Int32)) <<< ((8 : Int32) &&& 31))).toUInt32.toUInt16.toUInt32.toInt32)))) (fun h => by rw [Bd.returns] at h; cases h)
  refine ⟨_, _, pre0 _ ?_, hrun, hended, _, _, rfl, ?_, ⟨_, rfl⟩, hW, hsame.mono (by decide) (by decide)⟩
  · show Steps p.tables e below (s₁.setTop (mkF m 0 #[.val (.ref a0b), .val (.int 0)] [])) _
    refine st1 _ ?_
    show Steps p.tables e below (T1.setTop (mkF m 3 #[.val (.ref a0b), .val (.int 0)] [(.int 1)])) _
    refine XS.ifYes X1.here hx rfl (pc0 := 3) (pc' := 28) rfl (hb hby d24_3) rfl ((if0 _ _).trans (feq (by decide : ¬ ((1 : Int32) = (0 : Int32)))).2) (by decide) (by decide) ?_
    refine XS.iloadN X1.here hx rfl (hb hby d24_28) rfl ?_
    refine XS.iconst X1.here hx rfl (hb hby d24_29) ?_
    refine XS.ishl X1.here hx rfl (hb hby d24_30) rfl ?_
    show Steps p.tables e below (T1.setTop (mkF m 31 #[.val (.ref a0b), .val (.int 0)] [(.int 0)])) _
    refine XS.istoreN X1.here hx rfl (hb hby d24_31) rfl (l' := #[.val (.ref a0b), .val (.int 0)]) rfl ?_
    refine XS.aloadN X1.here hx rfl (hb hby d24_32) rfl rfl ?_
    refine XS.iloadN X1.here hx rfl (hb hby d24_33) rfl ?_
    refine XS.iinc X1.here hx rfl (hb hby d24_34) rfl (l' := #[.val (.ref a0b), .val (.int 1)]) rfl ?_
    show Steps p.tables e below (T1.setTop (mkF m 37 #[.val (.ref a0b), .val (.int 1)] [(.int 0), (.ref a0b)])) _
    refine X1.baloadBytes hx (j := (0 : Int32)) (v := (.int (c0.toInt8.toInt32))) (by rw [e1]; exact Ar2.1) (State.isArrayOf_alike hZ.alike Ar2.2.1) Ar2.2.2 hin2 hat2 (g := (mkF m 37 #[.val (.ref a0b), .val (.int 1)] [(.int 0), (.ref a0b)])) rfl rfl (hb hby d24_37) _ ?_
    show Steps p.tables e below (T1.setTop (mkF m 38 #[.val (.ref a0b), .val (.int 1)] [(.int (c0.toInt8.toInt32))])) _
    refine XS.sipush X1.here hx rfl (hb hby d24_38) ?_
    refine XS.iand X1.here hx rfl (hb hby d24_41) rfl ?_
    show Steps p.tables e below (T1.setTop (mkF m 42 #[.val (.ref a0b), .val (.int 1)] [(.int ((c0.toInt8.toInt32) &&& (255 : Int32)))])) _
    refine st3 _ ?_
    show Steps p.tables e below (T3.setTop (mkF m 45 #[.val (.ref a0b), .val (.int 1)] [(.int 0), (.int ((c0.toInt8.toInt32) &&& (255 : Int32)))])) _
    refine XS.ishl X3.here hx rfl (hb hby d24_45) rfl ?_
    refine XS.aloadN X3.here hx rfl (hb hby d24_46) rfl rfl ?_
    refine XS.iloadN X3.here hx rfl (hb hby d24_47) rfl ?_
    show Steps p.tables e below (T3.setTop (mkF m 48 #[.val (.ref a0b), .val (.int 1)] [(.int 1), (.ref a0b), (.int (((c0.toInt8.toInt32) &&& (255 : Int32)) <<< ((0 : Int32) &&& 31)))])) _
    refine X3.baloadBytes hx (j := (1 : Int32)) (v := (.int ((c0 >>> ((8 : Int32) &&& 31)).toInt8.toInt32))) (by rw [e3]; exact Ar4.1) (State.isArrayOf_alike hZ.alike Ar4.2.1) Ar4.2.2 hin4 hat4 (g := (mkF m 48 #[.val (.ref a0b), .val (.int 1)] [(.int 1), (.ref a0b), (.int (((c0.toInt8.toInt32) &&& (255 : Int32)) <<< ((0 : Int32) &&& 31)))])) rfl rfl (hb hby d24_48) _ ?_
    show Steps p.tables e below (T3.setTop (mkF m 49 #[.val (.ref a0b), .val (.int 1)] [(.int ((c0 >>> ((8 : Int32) &&& 31)).toInt8.toInt32)), (.int (((c0.toInt8.toInt32) &&& (255 : Int32)) <<< ((0 : Int32) &&& 31)))])) _
    refine XS.sipush X3.here hx rfl (hb hby d24_49) ?_
    refine XS.iand X3.here hx rfl (hb hby d24_52) rfl ?_
    show Steps p.tables e below (T3.setTop (mkF m 53 #[.val (.ref a0b), .val (.int 1)] [(.int (((c0 >>> ((8 : Int32) &&& 31)).toInt8.toInt32) &&& (255 : Int32))), (.int (((c0.toInt8.toInt32) &&& (255 : Int32)) <<< ((0 : Int32) &&& 31)))])) _
    refine st5 _ ?_
    show Steps p.tables e below (T5.setTop (mkF m 56 #[.val (.ref a0b), .val (.int 1)] [(.int 8), (.int (((c0 >>> ((8 : Int32) &&& 31)).toInt8.toInt32) &&& (255 : Int32))), (.int (((c0.toInt8.toInt32) &&& (255 : Int32)) <<< ((0 : Int32) &&& 31)))])) _
    refine XS.ishl X5.here hx rfl (hb hby d24_56) rfl ?_
    refine XS.ior X5.here hx rfl (hb hby d24_57) rfl ?_
    refine XS.i2c X5.here hx rfl (hb hby d24_58) rfl ?_
    show Steps p.tables e below (T5.setTop (mkF m 59 #[.val (.ref a0b), .val (.int 1)] [(.int (((((c0.toInt8.toInt32) &&& (255 : Int32)) <<< ((0 : Int32) &&& 31)) ||| ((((c0 >>> ((8 : Int32) &&& 31)).toInt8.toInt32) &&& (255 : Int32)) <<< ((8 : Int32) &&& 31))).toUInt32.toUInt16.toUInt32.toInt32))])) _
    exact retN X5 hx (t := .char) Bd.returns (by simp) (hb hby d24_59) hr
  · show Q_rmGc2_0 n0 Z cS aRS aEM aUS aSS a0b k0 c0 y2 y3 h0 _ T5.heap _
    rw [e5]
    exact ⟨(congrArg (fun z => some (Value.int z)) (own_utf c0 hn)), N0, rfl⟩
def Q_rmC1_2u0 (n0 : Nat) (Z : State) (cS : Int32) (aRS : Addr) (aEM : Addr) (aUS : Addr) (aSS : Addr) (a0c : Addr) (k0 : ClassId) (c0 : Int32) (c1 : Int32) (h0 : Heap) (v : Option Value) (h : Heap) (L : List Loc) : Prop := ∃ b : Addr, ∃ kb : ClassId, v = some (.ref b) ∧ Fr n0 L ∧ Keep h0 h [] ∧ (h0.size ≤ b) ∧ (Exa Z h b "[B") ∧ (Arv Z h b kb .byte (4 : Int32) [(.int (c0.toInt8.toInt32)), (.int ((c0 >>> ((8 : Int32) &&& 31)).toInt8.toInt32)), (.int (c1.toInt8.toInt32)), (.int ((c1 >>> ((8 : Int32) &&& 31)).toInt8.toInt32))] (.int 0))
set_option maxRecDepth 65536 in
set_option maxHeartbeats 40000000 in
theorem rmC1_2u0 (l : Launch) (Z : State) (a0 : Array Value) (hw : ∀ d ∈ tables_1, d.before a0 Z = true) (ws : List Jvm.Cond) (cS : Int32) (aRS : Addr) (aEM : Addr) (aUS : Addr) (aSS : Addr) (a0c : Addr) (k0 : ClassId) (c0 : Int32) (c1 : Int32) (h0 : Heap) (n0 : Nat) (O0 : Old Z n0 h0) (GL : GF Z cS aRS aEM aUS aSS) (V_a0c : Arv Z h0 a0c k0 .char (2 : Int32) [(.int c0), (.int c1)] (.int 0)) (hcj : (255 : Int32) < c0) (hnj : nar .char c0 = c0) :
    MetFree l MN_1 (head1 (Jvm.Cond.code MN_1 jdk_52_method_16_code 6 (some (.array .byte)) :: ws) ({ frames := 3, cells := 2, slots := 6, locals := 40 } : Room)) (fun a U => a = #[(.ref a0c), (.int 0), (.int 2)] ∧ Z.Warmed39 U.vm ∧ U.heap = h0) (fun _ _ _ _ _ => True) (fun _ U o U' => ∃ v L, o = .returned v ∧ Q_rmC1_2u0 n0 Z cS aRS aEM aUS aSS a0c k0 c0 c1 h0 v U'.heap L ∧ FrameEnd U o U' L ({ frames := 3, cells := 2, slots := 6, locals := 40 } : Room).cells ({ frames := 3, cells := 2, slots := 6, locals := 40 } : Room).slots) := by
  refine MetFree.of_bodySF (plainFor_of_name pn) hisR ?_
  intro p e s m args below meth c s₁ Bd hml0 hP hK
  obtain ⟨rfl, hZ, hh⟩ := hP
  have hx := Bd.exec
  have hby := Bd.bytes
  have hml : c.maxLocals = 6 := hml0
  have hown : s.vm.findClass "java/lang/StringUTF16" = some m.cls := findClass_of_methodNamed Bd.named
  have hnm := (name_of_methodNamed Bd.named Bd.method).1
  have X0 : Stand p l e ({ frames := 3, cells := 2, slots := 6, locals := 40 } : Room) s m #[(.ref a0c), (.int 0), (.int 2)] below meth c s₁ [] 0 0 := Stand.of_body Bd
  have e0 : s₁.heap = h0 := by rw [← hh, Bd.state]; rfl
  have N0 := Fr.nil n0
  have pre0 : ∀ t, Steps p.tables e below (s₁.setTop (mkF m 0 #[.val (.ref a0c), .val (.int 0), .val (.int 2), .unset, .unset, .unset] [])) t → Steps p.tables e below (s₁.setTop (entryFrame m #[(.ref a0c), (.int 0), (.int 2)] 6)) t := fun t k => castTop (ef_rmC1_2 m a0c) k
  have GL' := GL
  obtain ⟨GCS, GCP, GSR, GSE, GEE, GFE, GSU, GSS, GA16, GHI, GLO⟩ := GL'
  obtain ⟨T1, h1, k1, X1, e1, E1, A1, A1', st1⟩ := newPE X0 hx hZ (Wd hw 24 rfl) e0 (g := (mkF m 1 #[.val (.ref a0c), .val (.int 0), .val (.int 2), .unset, .unset, .unset] [(.int 2)])) rfl (hb hby d5_1) rfl (by decide) (cap := 2) (by decide) (by decide) (by decide) (by decide) (ad := "[B") rfl
  obtain ⟨b1, g1⟩ : ∃ z, z = h0.size := ⟨_, rfl⟩
  rw [← g1] at A1 A1' st1
  have g_b1 : n0 ≤ b1 := Nat.le_trans (own_sz O0) (Nat.le_of_eq g1.symm)
  have sz_b1 : h0.size ≤ b1 := Nat.le_trans (Keep.refl h0 []).1 (Nat.le_of_eq g1.symm)
  have K1 : Keep h0 h1 [] := (Keep.refl h0 []).ext E1
  have O1 := O0.ext E1
  have V_b1 : Arv Z h1 b1 k1 .byte (2 : Int32) [(.int 0), (.int 0)] (.int 0) := (Arv.new A1 (by decide)).pad (pad_rep [] (.int 0) 2)
  obtain ⟨_, _, ⟨T2, L2, k2, n2⟩, -, X2, ⟨Lc2, hQ2, l2, y2, z2⟩, st2⟩ := Jvm.LawKit.callS X1 hx (y := MN_0) hown (mvT hZ (Wd hw 25 rfl)) (mvT hZ (Wd hw 26 rfl)) (mvT hZ (Wd hw 22 rfl)) (mvT hZ (Wd hw 27 rfl)) (by decide) (backOf (W := 0) (rmC2_2u0 l Z a0 hw [] cS aRS aEM aUS aSS (a0c) (b1) (k0) (k1) (c0) (c1) (h1) n0 O1 GL (V_a0c.ext E1) V_b1 g_b1 hcj) hZ (Wd hw 27 rfl) (Wd hw 22 rfl) (by decide) (by decide)) (g := (mkF m 9 #[.val (.ref a0c), .val (.int 0), .val (.int 2), .val (.ref b1), .unset, .unset] [(.int 2), (.int 0), (.ref b1), (.int 0), (.ref a0c)])) rfl (by rw [hml]; rfl) (argsL := [(.ref a0c), (.int 0), (.ref b1), (.int 0), (.int 2)]) (rest := []) (lenOf pd rfl) rfl (by show 2 * 0 + _ ≤ _; exact Nat.le_of_eq rfl) (hb hby d5_9) (fun _ _ => ⟨rfl, e1, (by decide : 1 + 0 ≤ _), (by decide : 2 + 0 ≤ _)⟩)
  dsimp only [Pt.U, Pt.locs, Pt.cells, Pt.slots] at X2 l2 y2 z2 st2 hQ2
  subst l2 y2 z2
  obtain ⟨rfl, N2q, Kc2, P2_0⟩ := hQ2
  have K2 : Keep h0 T2.heap [] := K1.trans Kc2 (allS (Or.inr sz_b1) all0)
  have O2 := O1.keep Kc2 (allS g_b1 all0)
  have N2 := Fr.app N0 N2q
  obtain ⟨_, _, ⟨T3, L3, k3, n3⟩, -, X3, ⟨Lc3, hQ3, l3, y3, z3⟩, st3⟩ := Jvm.LawKit.callS X2 hx (y := MN_5) hown (mvT hZ (Wd hw 119 rfl)) (mvT hZ (Wd hw 120 rfl)) (mvT hZ (Wd hw 22 rfl)) (mvT hZ (Wd hw 121 rfl)) (by decide) (backOf (W := 0) (rmTb2 l Z a0 hw [] cS aRS aEM aUS aSS (a0c) (k0) (c0) (c1) (T2.heap) n0 O2 GL ((V_a0c.ext E1).keep Kc2 (ninS (Nat.ne_of_lt (Nat.lt_of_lt_of_le V_a0c.lt (Nat.le_of_eq g1.symm))) nin0))) hZ (Wd hw 121 rfl) (Wd hw 22 rfl) (by decide) (by decide)) (g := (mkF m 23 #[.val (.ref a0c), .val (.int 0), .val (.int 2), .val (.ref b1), .val (.int 0), .unset] [(.int 2), (.int 0), (.ref a0c)])) rfl (by rw [hml]; rfl) (argsL := [(.ref a0c), (.int 0), (.int 2)]) (rest := []) (lenOf pdv4 rfl) rfl (by show 2 * 0 + _ ≤ _; exact Nat.le_of_eq rfl) (hb hby d5_23) (fun _ _ => ⟨rfl, rfl, (by decide : 1 + 1 ≤ _), (by decide : 2 + 4 ≤ _)⟩)
  dsimp only [Pt.U, Pt.locs, Pt.cells, Pt.slots] at X3 l3 y3 z3 st3 hQ3
  subst l3 y3 z3
  obtain ⟨b_3, kb_3, rfl, N3q, Kc3, P3_0, P3_1, P3_2⟩ := hQ3
  have K3 : Keep h0 T3.heap [] := K2.trans Kc3 all0
  have O3 := O2.keep Kc3 all0
  have g_b_3 : n0 ≤ b_3 := Nat.le_trans (own_sz O2) P3_0
  have sz_b_3 : h0.size ≤ b_3 := Nat.le_trans K2.1 P3_0
  have N3 := Fr.app N2 N3q
  obtain ⟨_, _, ⟨T4, L4, k4, n4⟩, -, X4, ⟨Lc4, hQ4, l4, y4, z4⟩, st4⟩ := Jvm.LawKit.callS X3 hx (y := MN_6) hown (mvT hZ (Wd hw 135 rfl)) (mvT hZ (Wd hw 136 rfl)) (mvT hZ (Wd hw 22 rfl)) (mvT hZ (Wd hw 137 rfl)) (by decide) (backOf (W := 0) (rmGc2_0 l Z a0 hw [] cS aRS aEM aUS aSS (b_3) (kb_3) (c0) ((c1.toInt8.toInt32)) (((c1 >>> ((8 : Int32) &&& 31)).toInt8.toInt32)) (T3.heap) n0 O3 GL P3_2 hnj) hZ (Wd hw 137 rfl) (Wd hw 22 rfl) (by decide) (by decide)) (g := (mkF m 32 #[.val (.ref a0c), .val (.int 0), .val (.int 2), .val (.ref b1), .val (.int 0), .val (.ref b_3)] [(.int 0), (.ref b_3)])) rfl (by rw [hml]; rfl) (argsL := [(.ref b_3), (.int 0)]) (rest := []) (lenOf pdv5 rfl) rfl (by show 2 * 0 + _ ≤ _; exact Nat.le_of_eq rfl) (hb hby d5_32) (fun _ _ => ⟨rfl, rfl, (by decide : 2 + 0 ≤ _), (by decide : 6 + 0 ≤ _)⟩)
  dsimp only [Pt.U, Pt.locs, Pt.cells, Pt.slots] at X4 l4 y4 z4 st4 hQ4
  subst l4 y4 z4
  obtain ⟨rfl, N4q, e4⟩ := hQ4
  have N4 := Fr.app N3 N4q
  obtain ⟨fs, hr, hrun, hended, hW, hsame⟩ := X4.leave (v := some (.ref b_3)) (fun h => by rw [Bd.returns] at h; cases h)
  refine ⟨_, _, pre0 _ ?_, hrun, hended, _, _, rfl, ?_, ⟨_, rfl⟩, hW, hsame.mono (by decide) (by decide)⟩
  · show Steps p.tables e below (s₁.setTop (mkF m 0 #[.val (.ref a0c), .val (.int 0), .val (.int 2), .unset, .unset, .unset] [])) _
    refine XS.iloadN X0.here hx rfl (hb hby d5_0) rfl ?_
    show Steps p.tables e below (s₁.setTop (mkF m 1 #[.val (.ref a0c), .val (.int 0), .val (.int 2), .unset, .unset, .unset] [(.int 2)])) _
    refine st1 _ ?_
    show Steps p.tables e below (T1.setTop (mkF m 3 #[.val (.ref a0c), .val (.int 0), .val (.int 2), .unset, .unset, .unset] [(.ref b1)])) _
    refine XS.astoreN X1.here hx rfl (hb hby d5_3) rfl rfl (l' := #[.val (.ref a0c), .val (.int 0), .val (.int 2), .val (.ref b1), .unset, .unset]) rfl ?_
    refine XS.aloadN X1.here hx rfl (hb hby d5_4) rfl rfl ?_
    refine XS.iloadN X1.here hx rfl (hb hby d5_5) rfl ?_
    refine XS.aloadN X1.here hx rfl (hb hby d5_6) rfl rfl ?_
    show Steps p.tables e below (T1.setTop (mkF m 7 #[.val (.ref a0c), .val (.int 0), .val (.int 2), .val (.ref b1), .unset, .unset] [(.ref b1), (.int 0), (.ref a0c)])) _
    refine XS.iconst X1.here hx rfl (hb hby d5_7) ?_
    refine XS.iloadN X1.here hx rfl (hb hby d5_8) rfl ?_
    show Steps p.tables e below (T1.setTop (mkF m 9 #[.val (.ref a0c), .val (.int 0), .val (.int 2), .val (.ref b1), .unset, .unset] [(.int 2), (.int 0), (.ref b1), (.int 0), (.ref a0c)])) _
    refine st2 _ ?_
    show Steps p.tables e below (T2.setTop (mkF m 12 #[.val (.ref a0c), .val (.int 0), .val (.int 2), .val (.ref b1), .unset, .unset] [(.int 0)])) _
    refine XS.istore X2.here hx rfl (hb hby d5_12) rfl (l' := #[.val (.ref a0c), .val (.int 0), .val (.int 2), .val (.ref b1), .val (.int 0), .unset]) rfl ?_
    refine XS.iload X2.here hx rfl (hb hby d5_14) rfl ?_
    refine XS.iloadN X2.here hx rfl (hb hby d5_16) rfl ?_
    refine XS.icmpNo X2.here hx rfl (hb hby d5_17) rfl (feq (by decide : ¬ ((0 : Int32) = (2 : Int32)))).1 ?_
    show Steps p.tables e below (T2.setTop (mkF m 20 #[.val (.ref a0c), .val (.int 0), .val (.int 2), .val (.ref b1), .val (.int 0), .unset] [])) _
    refine XS.aloadN X2.here hx rfl (hb hby d5_20) rfl rfl ?_
    refine XS.iloadN X2.here hx rfl (hb hby d5_21) rfl ?_
    refine XS.iloadN X2.here hx rfl (hb hby d5_22) rfl ?_
    show Steps p.tables e below (T2.setTop (mkF m 23 #[.val (.ref a0c), .val (.int 0), .val (.int 2), .val (.ref b1), .val (.int 0), .unset] [(.int 2), (.int 0), (.ref a0c)])) _
    refine st3 _ ?_
    show Steps p.tables e below (T3.setTop (mkF m 26 #[.val (.ref a0c), .val (.int 0), .val (.int 2), .val (.ref b1), .val (.int 0), .unset] [(.ref b_3)])) _
    refine XS.astore X3.here hx rfl (hb hby d5_26) rfl rfl (l' := #[.val (.ref a0c), .val (.int 0), .val (.int 2), .val (.ref b1), .val (.int 0), .val (.ref b_3)]) rfl ?_
    refine XS.aload X3.here hx rfl (hb hby d5_28) rfl rfl ?_
    refine XS.iload X3.here hx rfl (hb hby d5_30) rfl ?_
    show Steps p.tables e below (T3.setTop (mkF m 32 #[.val (.ref a0c), .val (.int 0), .val (.int 2), .val (.ref b1), .val (.int 0), .val (.ref b_3)] [(.int 0), (.ref b_3)])) _
    refine st4 _ ?_
    show Steps p.tables e below (T4.setTop (mkF m 35 #[.val (.ref a0c), .val (.int 0), .val (.int 2), .val (.ref b1), .val (.int 0), .val (.ref b_3)] [(.int c0)])) _
    refine XS.sipush X4.here hx rfl (hb hby d5_35) ?_
    refine XS.icmpYes X4.here hx rfl (pc0 := 38) (pc' := 54) rfl (hb hby d5_38) rfl (tlt hcj).2.2.1 (by decide) (by decide) ?_
    refine XS.aload X4.here hx rfl (hb hby d5_54) rfl rfl ?_
    show Steps p.tables e below (T4.setTop (mkF m 56 #[.val (.ref a0c), .val (.int 0), .val (.int 2), .val (.ref b1), .val (.int 0), .val (.ref b_3)] [(.ref b_3)])) _
    jvm_step X4.here [X4.here.top, hx, (hb hby d5_56), X4.method', Bd.returns, Value.isRef, FieldType.isReference]
    first | (intro acts; rw [hr _ acts rfl rfl rfl]) | rw [hr _ _ rfl rfl rfl]
    exact Steps.refl _
  · show Q_rmC1_2u0 n0 Z cS aRS aEM aUS aSS a0c k0 c0 c1 h0 _ T4.heap _
    rw [e4]
    exact ⟨b_3, kb_3, rfl, N4, K3, sz_b_3, P3_1, P3_2⟩
def Q_rmC2_2u1 (n0 : Nat) (Z : State) (cS : Int32) (aRS : Addr) (aEM : Addr) (aUS : Addr) (aSS : Addr) (a0c : Addr) (a2b : Addr) (k0 : ClassId) (k2 : ClassId) (c0 : Int32) (c1 : Int32) (h0 : Heap) (v : Option Value) (h : Heap) (L : List Loc) : Prop := v = some (.int 1) ∧ Fr n0 L ∧ Keep h0 h [a2b] ∧ (Arv Z h a2b k2 .byte (2 : Int32) [(.int (c0.toInt8.toInt32)), (.int 0)] (.int 0))
set_option maxRecDepth 65536 in
set_option maxHeartbeats 40000000 in
theorem rmC2_2u1 (l : Launch) (Z : State) (a0 : Array Value) (hw : ∀ d ∈ tables_1, d.before a0 Z = true) (ws : List Jvm.Cond) (cS : Int32) (aRS : Addr) (aEM : Addr) (aUS : Addr) (aSS : Addr) (a0c : Addr) (a2b : Addr) (k0 : ClassId) (k2 : ClassId) (c0 : Int32) (c1 : Int32) (h0 : Heap) (n0 : Nat) (O0 : Old Z n0 h0) (GL : GF Z cS aRS aEM aUS aSS) (V_a0c : Arv Z h0 a0c k0 .char (2 : Int32) [(.int c0), (.int c1)] (.int 0)) (V_a2b : Arv Z h0 a2b k2 .byte (2 : Int32) [(.int 0), (.int 0)] (.int 0)) (g_a2b : n0 ≤ a2b) (hc0 : ¬ ((255 : Int32) < c0)) (hcj : (255 : Int32) < c1) :
    MetFree l MN_0 (head1 (Jvm.Cond.code MN_0 jdk_52_method_21_code 7 (some .int) :: ws) ({ frames := 0, cells := 0, slots := 0, locals := 0 } : Room)) (fun a U => a = #[(.ref a0c), (.int 0), (.ref a2b), (.int 0), (.int 2)] ∧ Z.Warmed39 U.vm ∧ U.heap = h0) (fun _ _ _ _ _ => True) (fun _ U o U' => ∃ v L, o = .returned v ∧ Q_rmC2_2u1 n0 Z cS aRS aEM aUS aSS a0c a2b k0 k2 c0 c1 h0 v U'.heap L ∧ FrameEnd U o U' L ({ frames := 0, cells := 0, slots := 0, locals := 0 } : Room).cells ({ frames := 0, cells := 0, slots := 0, locals := 0 } : Room).slots) := by
  refine MetFree.of_bodySF (plainFor_of_name pn) hisR ?_
  intro p e s m args below meth c s₁ Bd hml0 hP hK
  obtain ⟨rfl, hZ, hh⟩ := hP
  have hx := Bd.exec
  have hby := Bd.bytes
  have hml : c.maxLocals = 7 := hml0
  have hown : s.vm.findClass "java/lang/StringUTF16" = some m.cls := findClass_of_methodNamed Bd.named
  have hnm := (name_of_methodNamed Bd.named Bd.method).1
  have X0 : Stand p l e ({ frames := 0, cells := 0, slots := 0, locals := 0 } : Room) s m #[(.ref a0c), (.int 0), (.ref a2b), (.int 0), (.int 2)] below meth c s₁ [] 0 0 := Stand.of_body Bd
  have e0 : s₁.heap = h0 := by rw [← hh, Bd.state]; rfl
  have N0 := Fr.nil n0
  have pre0 : ∀ t, Steps p.tables e below (s₁.setTop (mkF m 0 #[.val (.ref a0c), .val (.int 0), .val (.ref a2b), .val (.int 0), .val (.int 2), .unset, .unset] [])) t → Steps p.tables e below (s₁.setTop (entryFrame m #[(.ref a0c), (.int 0), (.ref a2b), (.int 0), (.int 2)] 7)) t := fun t k => castTop (ef_rmC2_2 m a0c a2b) k
  have GL' := GL
  obtain ⟨GCS, GCP, GSR, GSE, GEE, GFE, GSU, GSS, GA16, GHI, GLO⟩ := GL'
  obtain ⟨cl1, Ar1, -, S1, N1_, H1, G1⟩ := id (V_a0c)
  have hin1 : ¬ ((0 : Int32) < 0 ∨ cl1.slots.size ≤ ((0 : Int32)).toNatClampNeg) := inb_of S1 ⟨(by decide), (by decide)⟩
  have hat1 : cl1.slots[((0 : Int32)).toNatClampNeg]? = some (.int c0) := H1.at hin1 rfl
  obtain ⟨cl2, Ar2, q2, S2, N2_, H2, G2⟩ := id (V_a2b)
  have hin2 : ¬ ((0 : Int32) < 0 ∨ cl2.slots.size ≤ ((0 : Int32)).toNatClampNeg) := inb_of S2 ⟨(by decide), (by decide)⟩
  obtain ⟨T2, h2, X2, e2, W2, st2⟩ := stB X0 hx hZ e0 Ar2 (j := (0 : Int32)) hin2 (g := (mkF m 31 #[.val (.ref a0c), .val (.int 0), .val (.ref a2b), .val (.int 0), .val (.int 2), .val (.int 0), .val (.int c0)] [(.int (c0.toInt8.toInt32)), (.int 0), (.ref a2b)])) rfl rfl (hb hby d6_31)
  have K2 : Keep h0 h2 [a2b] := (Keep.refl h0 [a2b]).wr W2 (Or.inl (List.mem_of_getElem? (i := 0) rfl))
  have O2 := O0.wr W2 g_a2b
  have N2 := Fr.snoc X2 N0 g_a2b
  have V2' : Arv Z h2 a2b k2 .byte (2 : Int32) [(.int ((c0.toInt8.toInt32)).toInt8.toInt32), (.int 0)] (.int 0) := Arv.set Ar2 q2 S2 N2_ H2 G2 (fits_nar_byte _) W2 0 rfl (Nat.le_of_ble_eq_true rfl)
  have V2 : Arv Z h2 a2b k2 .byte (2 : Int32) [(.int (c0.toInt8.toInt32)), (.int 0)] (.int 0) := by
    rw [own_b2 c0] at V2'
    exact V2'
  obtain ⟨cl3, Ar3, -, S3, N3_, H3, G3⟩ := id ((V_a0c.other W2 (own_neArv V_a0c V_a2b (by decide))))
  have hin3 : ¬ ((1 : Int32) < 0 ∨ cl3.slots.size ≤ ((1 : Int32)).toNatClampNeg) := inb_of S3 ⟨(by decide), (by decide)⟩
  have hat3 : cl3.slots[((1 : Int32)).toNatClampNeg]? = some (.int c1) := H3.at hin3 rfl
  obtain ⟨fs, hr, hrun, hended, hW, hsame⟩ := X2.leave (v := some (.int 1)) (fun h => by rw [Bd.returns] at h; cases h)
  refine ⟨_, _, pre0 _ ?_, hrun, hended, _, _, rfl, ?_, ⟨_, rfl⟩, hW, hsame.mono (by decide) (by decide)⟩
  · show Steps p.tables e below (s₁.setTop (mkF m 0 #[.val (.ref a0c), .val (.int 0), .val (.ref a2b), .val (.int 0), .val (.int 2), .unset, .unset] [])) _
    refine XS.iconst X0.here hx rfl (hb hby d6_0) ?_
    refine XS.istore X0.here hx rfl (hb hby d6_1) rfl (l' := #[.val (.ref a0c), .val (.int 0), .val (.ref a2b), .val (.int 0), .val (.int 2), .val (.int 0), .unset]) rfl ?_
    refine XS.iload X0.here hx rfl (hb hby d6_3) rfl ?_
    refine XS.iload X0.here hx rfl (hb hby d6_5) rfl ?_
    show Steps p.tables e below (s₁.setTop (mkF m 7 #[.val (.ref a0c), .val (.int 0), .val (.ref a2b), .val (.int 0), .val (.int 2), .val (.int 0), .unset] [(.int 2), (.int 0)])) _
    refine XS.icmpNo X0.here hx rfl (hb hby d6_7) rfl (tlt (by decide : (0 : Int32) < (2 : Int32))).2.1 ?_
    refine XS.aloadN X0.here hx rfl (hb hby d6_10) rfl rfl ?_
    refine XS.iloadN X0.here hx rfl (hb hby d6_11) rfl ?_
    show Steps p.tables e below (s₁.setTop (mkF m 12 #[.val (.ref a0c), .val (.int 0), .val (.ref a2b), .val (.int 0), .val (.int 2), .val (.int 0), .unset] [(.int 0), (.ref a0c)])) _
    refine X0.caload hx (j := (0 : Int32)) (v := (.int c0)) (by rw [e0]; exact Ar1.1) (State.isArrayOf_alike hZ.alike Ar1.2.1) Ar1.2.2 hin1 hat1 (g := (mkF m 12 #[.val (.ref a0c), .val (.int 0), .val (.ref a2b), .val (.int 0), .val (.int 2), .val (.int 0), .unset] [(.int 0), (.ref a0c)])) rfl rfl (hb hby d6_12) _ ?_
    show Steps p.tables e below (s₁.setTop (mkF m 13 #[.val (.ref a0c), .val (.int 0), .val (.ref a2b), .val (.int 0), .val (.int 2), .val (.int 0), .unset] [(.int c0)])) _
    refine XS.istore X0.here hx rfl (hb hby d6_13) rfl (l' := #[.val (.ref a0c), .val (.int 0), .val (.ref a2b), .val (.int 0), .val (.int 2), .val (.int 0), .val (.int c0)]) rfl ?_
    refine XS.iload X0.here hx rfl (hb hby d6_15) rfl ?_
    refine XS.sipush X0.here hx rfl (hb hby d6_17) ?_
    refine XS.icmpYes X0.here hx rfl (pc0 := 20) (pc' := 26) rfl (hb hby d6_20) rfl (flt hc0).2.2.2 (by decide) (by decide) ?_
    show Steps p.tables e below (s₁.setTop (mkF m 26 #[.val (.ref a0c), .val (.int 0), .val (.ref a2b), .val (.int 0), .val (.int 2), .val (.int 0), .val (.int c0)] [])) _
    refine XS.aloadN X0.here hx rfl (hb hby d6_26) rfl rfl ?_
    refine XS.iloadN X0.here hx rfl (hb hby d6_27) rfl ?_
    refine XS.iload X0.here hx rfl (hb hby d6_28) rfl ?_
    refine XS.i2b X0.here hx rfl (hb hby d6_30) rfl ?_
    show Steps p.tables e below (s₁.setTop (mkF m 31 #[.val (.ref a0c), .val (.int 0), .val (.ref a2b), .val (.int 0), .val (.int 2), .val (.int 0), .val (.int c0)] [(.int (c0.toInt8.toInt32)), (.int 0), (.ref a2b)])) _
    refine st2 _ ?_
    show Steps p.tables e below (T2.setTop (mkF m 32 #[.val (.ref a0c), .val (.int 0), .val (.ref a2b), .val (.int 0), .val (.int 2), .val (.int 0), .val (.int c0)] [])) _
    refine XS.iinc X2.here hx rfl (hb hby d6_32) rfl (l' := #[.val (.ref a0c), .val (.int 1), .val (.ref a2b), .val (.int 0), .val (.int 2), .val (.int 0), .val (.int c0)]) rfl ?_
    refine XS.iinc X2.here hx rfl (hb hby d6_35) rfl (l' := #[.val (.ref a0c), .val (.int 1), .val (.ref a2b), .val (.int 1), .val (.int 2), .val (.int 0), .val (.int c0)]) rfl ?_
    refine XS.iinc X2.here hx rfl (hb hby d6_38) rfl (l' := #[.val (.ref a0c), .val (.int 1), .val (.ref a2b), .val (.int 1), .val (.int 2), .val (.int 1), .val (.int c0)]) rfl ?_
    refine XS.goto X2.here hx rfl (pc0 := 41) (pc' := 3) rfl (hb hby d6_41) (by decide) (by decide) ?_
    show Steps p.tables e below (T2.setTop (mkF m 3 #[.val (.ref a0c), .val (.int 1), .val (.ref a2b), .val (.int 1), .val (.int 2), .val (.int 1), .val (.int c0)] [])) _
    refine XS.iload X2.here hx rfl (hb hby d6_3) rfl ?_
    refine XS.iload X2.here hx rfl (hb hby d6_5) rfl ?_
    refine XS.icmpNo X2.here hx rfl (hb hby d6_7) rfl (tlt (by decide : (1 : Int32) < (2 : Int32))).2.1 ?_
    refine XS.aloadN X2.here hx rfl (hb hby d6_10) rfl rfl ?_
    show Steps p.tables e below (T2.setTop (mkF m 11 #[.val (.ref a0c), .val (.int 1), .val (.ref a2b), .val (.int 1), .val (.int 2), .val (.int 1), .val (.int c0)] [(.ref a0c)])) _
    refine XS.iloadN X2.here hx rfl (hb hby d6_11) rfl ?_
    show Steps p.tables e below (T2.setTop (mkF m 12 #[.val (.ref a0c), .val (.int 1), .val (.ref a2b), .val (.int 1), .val (.int 2), .val (.int 1), .val (.int c0)] [(.int 1), (.ref a0c)])) _
    refine X2.caload hx (j := (1 : Int32)) (v := (.int c1)) (by rw [e2]; exact Ar3.1) (State.isArrayOf_alike hZ.alike Ar3.2.1) Ar3.2.2 hin3 hat3 (g := (mkF m 12 #[.val (.ref a0c), .val (.int 1), .val (.ref a2b), .val (.int 1), .val (.int 2), .val (.int 1), .val (.int c0)] [(.int 1), (.ref a0c)])) rfl rfl (hb hby d6_12) _ ?_
    show Steps p.tables e below (T2.setTop (mkF m 13 #[.val (.ref a0c), .val (.int 1), .val (.ref a2b), .val (.int 1), .val (.int 2), .val (.int 1), .val (.int c0)] [(.int c1)])) _
    refine XS.istore X2.here hx rfl (hb hby d6_13) rfl (l' := #[.val (.ref a0c), .val (.int 1), .val (.ref a2b), .val (.int 1), .val (.int 2), .val (.int 1), .val (.int c1)]) rfl ?_
    refine XS.iload X2.here hx rfl (hb hby d6_15) rfl ?_
    refine XS.sipush X2.here hx rfl (hb hby d6_17) ?_
    refine XS.icmpNo X2.here hx rfl (hb hby d6_20) rfl (tlt hcj).2.2.2 ?_
    show Steps p.tables e below (T2.setTop (mkF m 23 #[.val (.ref a0c), .val (.int 1), .val (.ref a2b), .val (.int 1), .val (.int 2), .val (.int 1), .val (.int c1)] [])) _
    refine XS.iload X2.here hx rfl (hb hby d6_23) rfl ?_
    show Steps p.tables e below (T2.setTop (mkF m 25 #[.val (.ref a0c), .val (.int 1), .val (.ref a2b), .val (.int 1), .val (.int 2), .val (.int 1), .val (.int c1)] [(.int 1)])) _
    exact retI X2 hx Bd.returns (hb hby d6_25) hr
  · show Q_rmC2_2u1 n0 Z cS aRS aEM aUS aSS a0c a2b k0 k2 c0 c1 h0 _ T2.heap _
    rw [e2]
    exact ⟨rfl, N2, K2, V2⟩
theorem ef_rmGc2_1 (m : MethodId) (a0b : Addr) : entryFrame m #[(.ref a0b), (.int 1)] 2 = mkF m 0 #[.val (.ref a0b), .val (.int 1)] [] := by first | (simp [entryFrame, mkF, argsToLocals, Value.category]; done) | rfl
def Q_rmGc2_1 (n0 : Nat) (Z : State) (cS : Int32) (aRS : Addr) (aEM : Addr) (aUS : Addr) (aSS : Addr) (a0b : Addr) (k0 : ClassId) (c0 : Int32) (y0 : Int32) (y1 : Int32) (h0 : Heap) (v : Option Value) (h : Heap) (L : List Loc) : Prop := v = some (.int c0) ∧ Fr n0 L ∧ h = h0
set_option maxRecDepth 65536 in
set_option maxHeartbeats 40000000 in
theorem rmGc2_1 (l : Launch) (Z : State) (a0 : Array Value) (hw : ∀ d ∈ tables_1, d.before a0 Z = true) (ws : List Jvm.Cond) (cS : Int32) (aRS : Addr) (aEM : Addr) (aUS : Addr) (aSS : Addr) (a0b : Addr) (k0 : ClassId) (c0 : Int32) (y0 : Int32) (y1 : Int32) (h0 : Heap) (n0 : Nat) (O0 : Old Z n0 h0) (GL : GF Z cS aRS aEM aUS aSS) (V_a0b : Arv Z h0 a0b k0 .byte (4 : Int32) [(.int y0), (.int y1), (.int (c0.toInt8.toInt32)), (.int ((c0 >>> ((8 : Int32) &&& 31)).toInt8.toInt32))] (.int 0)) (hn : nar .char c0 = c0) :
    MetFree l MN_6 (head1 (Jvm.Cond.code MN_6 jdk_52_method_5_code 2 (some .char) :: ws) ({ frames := 0, cells := 0, slots := 0, locals := 0 } : Room)) (fun a U => a = #[(.ref a0b), (.int 1)] ∧ Z.Warmed39 U.vm ∧ U.heap = h0) (fun _ _ _ _ _ => True) (fun _ U o U' => ∃ v L, o = .returned v ∧ Q_rmGc2_1 n0 Z cS aRS aEM aUS aSS a0b k0 c0 y0 y1 h0 v U'.heap L ∧ FrameEnd U o U' L ({ frames := 0, cells := 0, slots := 0, locals := 0 } : Room).cells ({ frames := 0, cells := 0, slots := 0, locals := 0 } : Room).slots) := by
  refine MetFree.of_bodySF (plainFor_of_name pn) hisR ?_
  intro p e s m args below meth c s₁ Bd hml0 hP hK
  obtain ⟨rfl, hZ, hh⟩ := hP
  have hx := Bd.exec
  have hby := Bd.bytes
  have hml : c.maxLocals = 2 := hml0
  have hown : s.vm.findClass "java/lang/StringUTF16" = some m.cls := findClass_of_methodNamed Bd.named
  have hnm := (name_of_methodNamed Bd.named Bd.method).1
  have X0 : Stand p l e ({ frames := 0, cells := 0, slots := 0, locals := 0 } : Room) s m #[(.ref a0b), (.int 1)] below meth c s₁ [] 0 0 := Stand.of_body Bd
  have e0 : s₁.heap = h0 := by rw [← hh, Bd.state]; rfl
  have N0 := Fr.nil n0
  have pre0 : ∀ t, Steps p.tables e below (s₁.setTop (mkF m 0 #[.val (.ref a0b), .val (.int 1)] [])) t → Steps p.tables e below (s₁.setTop (entryFrame m #[(.ref a0b), (.int 1)] 2)) t := fun t k => castTop (ef_rmGc2_1 m a0b) k
  have GL' := GL
  obtain ⟨GCS, GCP, GSR, GSE, GEE, GFE, GSU, GSS, GA16, GHI, GLO⟩ := GL'
  obtain ⟨T1, X1, e1, st1⟩ := getS2 X0 hx hZ hown (host := "") (Or.inl (Wd hw 132 rfl)) Via.refl e0 (GA16.ext O0.2) (g := (mkF m 0 #[.val (.ref a0b), .val (.int 1)] [])) rfl (hb hby d24_0)
  obtain ⟨cl2, Ar2, -, S2, N2_, H2, G2⟩ := id (V_a0b)
  have hin2 : ¬ ((2 : Int32) < 0 ∨ cl2.slots.size ≤ ((2 : Int32)).toNatClampNeg) := inb_of S2 ⟨(by decide), (by decide)⟩
  have hat2 : cl2.slots[((2 : Int32)).toNatClampNeg]? = some (.int (c0.toInt8.toInt32)) := H2.at hin2 rfl
  obtain ⟨T3, X3, e3, st3⟩ := getS2 X1 hx hZ hown (host := "") (Or.inl (Wd hw 133 rfl)) Via.refl e1 (GHI.ext O0.2) (g := (mkF m 42 #[.val (.ref a0b), .val (.int 3)] [(.int ((c0.toInt8.toInt32) &&& (255 : Int32)))])) rfl (hb hby d24_42)
  obtain ⟨cl4, Ar4, -, S4, N4_, H4, G4⟩ := id (V_a0b)
  have hin4 : ¬ ((3 : Int32) < 0 ∨ cl4.slots.size ≤ ((3 : Int32)).toNatClampNeg) := inb_of S4 ⟨(by decide), (by decide)⟩
  have hat4 : cl4.slots[((3 : Int32)).toNatClampNeg]? = some (.int ((c0 >>> ((8 : Int32) &&& 31)).toInt8.toInt32)) := H4.at hin4 rfl
  obtain ⟨T5, X5, e5, st5⟩ := getS2 X3 hx hZ hown (host := "") (Or.inl (Wd hw 134 rfl)) Via.refl e3 (GLO.ext O0.2) (g := (mkF m 53 #[.val (.ref a0b), .val (.int 3)] [(.int (((c0 >>> ((8 : Int32) &&& 31)).toInt8.toInt32) &&& (255 : Int32))), (.int (((c0.toInt8.toInt32) &&& (255 : Int32)) <<< ((0 : Int32) &&& 31)))])) rfl (hb hby d24_53)
  obtain ⟨fs, hr, hrun, hended, hW, hsame⟩ := X5.leave (v := some (.int (nar .char (((((c0.toInt8.toInt32) &&& (255 : Int32)) <<< ((0 : Int32) &&& 31)) ||| ((((c0 >>> ((8 : Int32) &&& 31)).toInt8.toInt32) &&& (255 : Int32)) <<< ((8 : Int32) &&& 31))).toUInt32.toUInt16.toUInt32.toInt32)))) (fun h => by rw [Bd.returns] at h; cases h)
  refine ⟨_, _, pre0 _ ?_, hrun, hended, _, _, rfl, ?_, ⟨_, rfl⟩, hW, hsame.mono (by decide) (by decide)⟩
  · show Steps p.tables e below (s₁.setTop (mkF m 0 #[.val (.ref a0b), .val (.int 1)] [])) _
    refine st1 _ ?_
    show Steps p.tables e below (T1.setTop (mkF m 3 #[.val (.ref a0b), .val (.int 1)] [(.int 1)])) _
    refine XS.ifYes X1.here hx rfl (pc0 := 3) (pc' := 28) rfl (hb hby d24_3) rfl ((if0 _ _).trans (feq (by decide : ¬ ((1 : Int32) = (0 : Int32)))).2) (by decide) (by decide) ?_
    refine XS.iloadN X1.here hx rfl (hb hby d24_28) rfl ?_
    refine XS.iconst X1.here hx rfl (hb hby d24_29) ?_
    refine XS.ishl X1.here hx rfl (hb hby d24_30) rfl ?_
    show Steps p.tables e below (T1.setTop (mkF m 31 #[.val (.ref a0b), .val (.int 1)] [(.int 2)])) _
    refine XS.istoreN X1.here hx rfl (hb hby d24_31) rfl (l' := #[.val (.ref a0b), .val (.int 2)]) rfl ?_
    refine XS.aloadN X1.here hx rfl (hb hby d24_32) rfl rfl ?_
    refine XS.iloadN X1.here hx rfl (hb hby d24_33) rfl ?_
    refine XS.iinc X1.here hx rfl (hb hby d24_34) rfl (l' := #[.val (.ref a0b), .val (.int 3)]) rfl ?_
    show Steps p.tables e below (T1.setTop (mkF m 37 #[.val (.ref a0b), .val (.int 3)] [(.int 2), (.ref a0b)])) _
    refine X1.baloadBytes hx (j := (2 : Int32)) (v := (.int (c0.toInt8.toInt32))) (by rw [e1]; exact Ar2.1) (State.isArrayOf_alike hZ.alike Ar2.2.1) Ar2.2.2 hin2 hat2 (g := (mkF m 37 #[.val (.ref a0b), .val (.int 3)] [(.int 2), (.ref a0b)])) rfl rfl (hb hby d24_37) _ ?_
    show Steps p.tables e below (T1.setTop (mkF m 38 #[.val (.ref a0b), .val (.int 3)] [(.int (c0.toInt8.toInt32))])) _
    refine XS.sipush X1.here hx rfl (hb hby d24_38) ?_
    refine XS.iand X1.here hx rfl (hb hby d24_41) rfl ?_
    show Steps p.tables e below (T1.setTop (mkF m 42 #[.val (.ref a0b), .val (.int 3)] [(.int ((c0.toInt8.toInt32) &&& (255 : Int32)))])) _
    refine st3 _ ?_
    show Steps p.tables e below (T3.setTop (mkF m 45 #[.val (.ref a0b), .val (.int 3)] [(.int 0), (.int ((c0.toInt8.toInt32) &&& (255 : Int32)))])) _
    refine XS.ishl X3.here hx rfl (hb hby d24_45) rfl ?_
    refine XS.aloadN X3.here hx rfl (hb hby d24_46) rfl rfl ?_
    refine XS.iloadN X3.here hx rfl (hb hby d24_47) rfl ?_
    show Steps p.tables e below (T3.setTop (mkF m 48 #[.val (.ref a0b), .val (.int 3)] [(.int 3), (.ref a0b), (.int (((c0.toInt8.toInt32) &&& (255 : Int32)) <<< ((0 : Int32) &&& 31)))])) _
    refine X3.baloadBytes hx (j := (3 : Int32)) (v := (.int ((c0 >>> ((8 : Int32) &&& 31)).toInt8.toInt32))) (by rw [e3]; exact Ar4.1) (State.isArrayOf_alike hZ.alike Ar4.2.1) Ar4.2.2 hin4 hat4 (g := (mkF m 48 #[.val (.ref a0b), .val (.int 3)] [(.int 3), (.ref a0b), (.int (((c0.toInt8.toInt32) &&& (255 : Int32)) <<< ((0 : Int32) &&& 31)))])) rfl rfl (hb hby d24_48) _ ?_
    show Steps p.tables e below (T3.setTop (mkF m 49 #[.val (.ref a0b), .val (.int 3)] [(.int ((c0 >>> ((8 : Int32) &&& 31)).toInt8.toInt32)), (.int (((c0.toInt8.toInt32) &&& (255 : Int32)) <<< ((0 : Int32) &&& 31)))])) _
    refine XS.sipush X3.here hx rfl (hb hby d24_49) ?_
    refine XS.iand X3.here hx rfl (hb hby d24_52) rfl ?_
    show Steps p.tables e below (T3.setTop (mkF m 53 #[.val (.ref a0b), .val (.int 3)] [(.int (((c0 >>> ((8 : Int32) &&& 31)).toInt8.toInt32) &&& (255 : Int32))), (.int (((c0.toInt8.toInt32) &&& (255 : Int32)) <<< ((0 : Int32) &&& 31)))])) _
    refine st5 _ ?_
    show Steps p.tables e below (T5.setTop (mkF m 56 #[.val (.ref a0b), .val (.int 3)] [(.int 8), (.int (((c0 >>> ((8 : Int32) &&& 31)).toInt8.toInt32) &&& (255 : Int32))), (.int (((c0.toInt8.toInt32) &&& (255 : Int32)) <<< ((0 : Int32) &&& 31)))])) _
    refine XS.ishl X5.here hx rfl (hb hby d24_56) rfl ?_
    refine XS.ior X5.here hx rfl (hb hby d24_57) rfl ?_
    refine XS.i2c X5.here hx rfl (hb hby d24_58) rfl ?_
    show Steps p.tables e below (T5.setTop (mkF m 59 #[.val (.ref a0b), .val (.int 3)] [(.int (((((c0.toInt8.toInt32) &&& (255 : Int32)) <<< ((0 : Int32) &&& 31)) ||| ((((c0 >>> ((8 : Int32) &&& 31)).toInt8.toInt32) &&& (255 : Int32)) <<< ((8 : Int32) &&& 31))).toUInt32.toUInt16.toUInt32.toInt32))])) _
    exact retN X5 hx (t := .char) Bd.returns (by simp) (hb hby d24_59) hr
  · show Q_rmGc2_1 n0 Z cS aRS aEM aUS aSS a0b k0 c0 y0 y1 h0 _ T5.heap _
    rw [e5]
    exact ⟨(congrArg (fun z => some (Value.int z)) (own_utf c0 hn)), N0, rfl⟩
def Q_rmC1_2u1 (n0 : Nat) (Z : State) (cS : Int32) (aRS : Addr) (aEM : Addr) (aUS : Addr) (aSS : Addr) (a0c : Addr) (k0 : ClassId) (c0 : Int32) (c1 : Int32) (h0 : Heap) (v : Option Value) (h : Heap) (L : List Loc) : Prop := ∃ b : Addr, ∃ kb : ClassId, v = some (.ref b) ∧ Fr n0 L ∧ Keep h0 h [] ∧ (h0.size ≤ b) ∧ (Exa Z h b "[B") ∧ (Arv Z h b kb .byte (4 : Int32) [(.int (c0.toInt8.toInt32)), (.int ((c0 >>> ((8 : Int32) &&& 31)).toInt8.toInt32)), (.int (c1.toInt8.toInt32)), (.int ((c1 >>> ((8 : Int32) &&& 31)).toInt8.toInt32))] (.int 0))
set_option maxRecDepth 65536 in
set_option maxHeartbeats 40000000 in
theorem rmC1_2u1 (l : Launch) (Z : State) (a0 : Array Value) (hw : ∀ d ∈ tables_1, d.before a0 Z = true) (ws : List Jvm.Cond) (cS : Int32) (aRS : Addr) (aEM : Addr) (aUS : Addr) (aSS : Addr) (a0c : Addr) (k0 : ClassId) (c0 : Int32) (c1 : Int32) (h0 : Heap) (n0 : Nat) (O0 : Old Z n0 h0) (GL : GF Z cS aRS aEM aUS aSS) (V_a0c : Arv Z h0 a0c k0 .char (2 : Int32) [(.int c0), (.int c1)] (.int 0)) (hc0 : ¬ ((255 : Int32) < c0)) (hcj : (255 : Int32) < c1) (hnj : nar .char c1 = c1) :
    MetFree l MN_1 (head1 (Jvm.Cond.code MN_1 jdk_52_method_16_code 6 (some (.array .byte)) :: ws) ({ frames := 3, cells := 2, slots := 6, locals := 40 } : Room)) (fun a U => a = #[(.ref a0c), (.int 0), (.int 2)] ∧ Z.Warmed39 U.vm ∧ U.heap = h0) (fun _ _ _ _ _ => True) (fun _ U o U' => ∃ v L, o = .returned v ∧ Q_rmC1_2u1 n0 Z cS aRS aEM aUS aSS a0c k0 c0 c1 h0 v U'.heap L ∧ FrameEnd U o U' L ({ frames := 3, cells := 2, slots := 6, locals := 40 } : Room).cells ({ frames := 3, cells := 2, slots := 6, locals := 40 } : Room).slots) := by
  refine MetFree.of_bodySF (plainFor_of_name pn) hisR ?_
  intro p e s m args below meth c s₁ Bd hml0 hP hK
  obtain ⟨rfl, hZ, hh⟩ := hP
  have hx := Bd.exec
  have hby := Bd.bytes
  have hml : c.maxLocals = 6 := hml0
  have hown : s.vm.findClass "java/lang/StringUTF16" = some m.cls := findClass_of_methodNamed Bd.named
  have hnm := (name_of_methodNamed Bd.named Bd.method).1
  have X0 : Stand p l e ({ frames := 3, cells := 2, slots := 6, locals := 40 } : Room) s m #[(.ref a0c), (.int 0), (.int 2)] below meth c s₁ [] 0 0 := Stand.of_body Bd
  have e0 : s₁.heap = h0 := by rw [← hh, Bd.state]; rfl
  have N0 := Fr.nil n0
  have pre0 : ∀ t, Steps p.tables e below (s₁.setTop (mkF m 0 #[.val (.ref a0c), .val (.int 0), .val (.int 2), .unset, .unset, .unset] [])) t → Steps p.tables e below (s₁.setTop (entryFrame m #[(.ref a0c), (.int 0), (.int 2)] 6)) t := fun t k => castTop (ef_rmC1_2 m a0c) k
  have GL' := GL
  obtain ⟨GCS, GCP, GSR, GSE, GEE, GFE, GSU, GSS, GA16, GHI, GLO⟩ := GL'
  obtain ⟨T1, h1, k1, X1, e1, E1, A1, A1', st1⟩ := newPE X0 hx hZ (Wd hw 24 rfl) e0 (g := (mkF m 1 #[.val (.ref a0c), .val (.int 0), .val (.int 2), .unset, .unset, .unset] [(.int 2)])) rfl (hb hby d5_1) rfl (by decide) (cap := 2) (by decide) (by decide) (by decide) (by decide) (ad := "[B") rfl
  obtain ⟨b1, g1⟩ : ∃ z, z = h0.size := ⟨_, rfl⟩
  rw [← g1] at A1 A1' st1
  have g_b1 : n0 ≤ b1 := Nat.le_trans (own_sz O0) (Nat.le_of_eq g1.symm)
  have sz_b1 : h0.size ≤ b1 := Nat.le_trans (Keep.refl h0 []).1 (Nat.le_of_eq g1.symm)
  have K1 : Keep h0 h1 [] := (Keep.refl h0 []).ext E1
  have O1 := O0.ext E1
  have V_b1 : Arv Z h1 b1 k1 .byte (2 : Int32) [(.int 0), (.int 0)] (.int 0) := (Arv.new A1 (by decide)).pad (pad_rep [] (.int 0) 2)
  obtain ⟨_, _, ⟨T2, L2, k2, n2⟩, -, X2, ⟨Lc2, hQ2, l2, y2, z2⟩, st2⟩ := Jvm.LawKit.callS X1 hx (y := MN_0) hown (mvT hZ (Wd hw 25 rfl)) (mvT hZ (Wd hw 26 rfl)) (mvT hZ (Wd hw 22 rfl)) (mvT hZ (Wd hw 27 rfl)) (by decide) (backOf (W := 0) (rmC2_2u1 l Z a0 hw [] cS aRS aEM aUS aSS (a0c) (b1) (k0) (k1) (c0) (c1) (h1) n0 O1 GL (V_a0c.ext E1) V_b1 g_b1 hc0 hcj) hZ (Wd hw 27 rfl) (Wd hw 22 rfl) (by decide) (by decide)) (g := (mkF m 9 #[.val (.ref a0c), .val (.int 0), .val (.int 2), .val (.ref b1), .unset, .unset] [(.int 2), (.int 0), (.ref b1), (.int 0), (.ref a0c)])) rfl (by rw [hml]; rfl) (argsL := [(.ref a0c), (.int 0), (.ref b1), (.int 0), (.int 2)]) (rest := []) (lenOf pd rfl) rfl (by show 2 * 0 + _ ≤ _; exact Nat.le_of_eq rfl) (hb hby d5_9) (fun _ _ => ⟨rfl, e1, (by decide : 1 + 0 ≤ _), (by decide : 2 + 0 ≤ _)⟩)
  dsimp only [Pt.U, Pt.locs, Pt.cells, Pt.slots] at X2 l2 y2 z2 st2 hQ2
  subst l2 y2 z2
  obtain ⟨rfl, N2q, Kc2, P2_0⟩ := hQ2
  have K2 : Keep h0 T2.heap [] := K1.trans Kc2 (allS (Or.inr sz_b1) all0)
  have O2 := O1.keep Kc2 (allS g_b1 all0)
  have N2 := Fr.app N0 N2q
  obtain ⟨_, _, ⟨T3, L3, k3, n3⟩, -, X3, ⟨Lc3, hQ3, l3, y3, z3⟩, st3⟩ := Jvm.LawKit.callS X2 hx (y := MN_5) hown (mvT hZ (Wd hw 119 rfl)) (mvT hZ (Wd hw 120 rfl)) (mvT hZ (Wd hw 22 rfl)) (mvT hZ (Wd hw 121 rfl)) (by decide) (backOf (W := 0) (rmTb2 l Z a0 hw [] cS aRS aEM aUS aSS (a0c) (k0) (c0) (c1) (T2.heap) n0 O2 GL ((V_a0c.ext E1).keep Kc2 (ninS (Nat.ne_of_lt (Nat.lt_of_lt_of_le V_a0c.lt (Nat.le_of_eq g1.symm))) nin0))) hZ (Wd hw 121 rfl) (Wd hw 22 rfl) (by decide) (by decide)) (g := (mkF m 23 #[.val (.ref a0c), .val (.int 0), .val (.int 2), .val (.ref b1), .val (.int 1), .unset] [(.int 2), (.int 0), (.ref a0c)])) rfl (by rw [hml]; rfl) (argsL := [(.ref a0c), (.int 0), (.int 2)]) (rest := []) (lenOf pdv4 rfl) rfl (by show 2 * 0 + _ ≤ _; exact Nat.le_of_eq rfl) (hb hby d5_23) (fun _ _ => ⟨rfl, rfl, (by decide : 1 + 1 ≤ _), (by decide : 2 + 4 ≤ _)⟩)
  dsimp only [Pt.U, Pt.locs, Pt.cells, Pt.slots] at X3 l3 y3 z3 st3 hQ3
  subst l3 y3 z3
  obtain ⟨b_3, kb_3, rfl, N3q, Kc3, P3_0, P3_1, P3_2⟩ := hQ3
  have K3 : Keep h0 T3.heap [] := K2.trans Kc3 all0
  have O3 := O2.keep Kc3 all0
  have g_b_3 : n0 ≤ b_3 := Nat.le_trans (own_sz O2) P3_0
  have sz_b_3 : h0.size ≤ b_3 := Nat.le_trans K2.1 P3_0
  have N3 := Fr.app N2 N3q
  obtain ⟨_, _, ⟨T4, L4, k4, n4⟩, -, X4, ⟨Lc4, hQ4, l4, y4, z4⟩, st4⟩ := Jvm.LawKit.callS X3 hx (y := MN_6) hown (mvT hZ (Wd hw 135 rfl)) (mvT hZ (Wd hw 136 rfl)) (mvT hZ (Wd hw 22 rfl)) (mvT hZ (Wd hw 137 rfl)) (by decide) (backOf (W := 0) (rmGc2_1 l Z a0 hw [] cS aRS aEM aUS aSS (b_3) (kb_3) (c1) ((c0.toInt8.toInt32)) (((c0 >>> ((8 : Int32) &&& 31)).toInt8.toInt32)) (T3.heap) n0 O3 GL P3_2 hnj) hZ (Wd hw 137 rfl) (Wd hw 22 rfl) (by decide) (by decide)) (g := (mkF m 32 #[.val (.ref a0c), .val (.int 0), .val (.int 2), .val (.ref b1), .val (.int 1), .val (.ref b_3)] [(.int 1), (.ref b_3)])) rfl (by rw [hml]; rfl) (argsL := [(.ref b_3), (.int 1)]) (rest := []) (lenOf pdv5 rfl) rfl (by show 2 * 0 + _ ≤ _; exact Nat.le_of_eq rfl) (hb hby d5_32) (fun _ _ => ⟨rfl, rfl, (by decide : 2 + 0 ≤ _), (by decide : 6 + 0 ≤ _)⟩)
  dsimp only [Pt.U, Pt.locs, Pt.cells, Pt.slots] at X4 l4 y4 z4 st4 hQ4
  subst l4 y4 z4
  obtain ⟨rfl, N4q, e4⟩ := hQ4
  have N4 := Fr.app N3 N4q
  obtain ⟨fs, hr, hrun, hended, hW, hsame⟩ := X4.leave (v := some (.ref b_3)) (fun h => by rw [Bd.returns] at h; cases h)
  refine ⟨_, _, pre0 _ ?_, hrun, hended, _, _, rfl, ?_, ⟨_, rfl⟩, hW, hsame.mono (by decide) (by decide)⟩
  · show Steps p.tables e below (s₁.setTop (mkF m 0 #[.val (.ref a0c), .val (.int 0), .val (.int 2), .unset, .unset, .unset] [])) _
    refine XS.iloadN X0.here hx rfl (hb hby d5_0) rfl ?_
    show Steps p.tables e below (s₁.setTop (mkF m 1 #[.val (.ref a0c), .val (.int 0), .val (.int 2), .unset, .unset, .unset] [(.int 2)])) _
    refine st1 _ ?_
    show Steps p.tables e below (T1.setTop (mkF m 3 #[.val (.ref a0c), .val (.int 0), .val (.int 2), .unset, .unset, .unset] [(.ref b1)])) _
    refine XS.astoreN X1.here hx rfl (hb hby d5_3) rfl rfl (l' := #[.val (.ref a0c), .val (.int 0), .val (.int 2), .val (.ref b1), .unset, .unset]) rfl ?_
    refine XS.aloadN X1.here hx rfl (hb hby d5_4) rfl rfl ?_
    refine XS.iloadN X1.here hx rfl (hb hby d5_5) rfl ?_
    refine XS.aloadN X1.here hx rfl (hb hby d5_6) rfl rfl ?_
    show Steps p.tables e below (T1.setTop (mkF m 7 #[.val (.ref a0c), .val (.int 0), .val (.int 2), .val (.ref b1), .unset, .unset] [(.ref b1), (.int 0), (.ref a0c)])) _
    refine XS.iconst X1.here hx rfl (hb hby d5_7) ?_
    refine XS.iloadN X1.here hx rfl (hb hby d5_8) rfl ?_
    show Steps p.tables e below (T1.setTop (mkF m 9 #[.val (.ref a0c), .val (.int 0), .val (.int 2), .val (.ref b1), .unset, .unset] [(.int 2), (.int 0), (.ref b1), (.int 0), (.ref a0c)])) _
    refine st2 _ ?_
    show Steps p.tables e below (T2.setTop (mkF m 12 #[.val (.ref a0c), .val (.int 0), .val (.int 2), .val (.ref b1), .unset, .unset] [(.int 1)])) _
    refine XS.istore X2.here hx rfl (hb hby d5_12) rfl (l' := #[.val (.ref a0c), .val (.int 0), .val (.int 2), .val (.ref b1), .val (.int 1), .unset]) rfl ?_
    refine XS.iload X2.here hx rfl (hb hby d5_14) rfl ?_
    refine XS.iloadN X2.here hx rfl (hb hby d5_16) rfl ?_
    refine XS.icmpNo X2.here hx rfl (hb hby d5_17) rfl (feq (by decide : ¬ ((1 : Int32) = (2 : Int32)))).1 ?_
    show Steps p.tables e below (T2.setTop (mkF m 20 #[.val (.ref a0c), .val (.int 0), .val (.int 2), .val (.ref b1), .val (.int 1), .unset] [])) _
    refine XS.aloadN X2.here hx rfl (hb hby d5_20) rfl rfl ?_
    refine XS.iloadN X2.here hx rfl (hb hby d5_21) rfl ?_
    refine XS.iloadN X2.here hx rfl (hb hby d5_22) rfl ?_
    show Steps p.tables e below (T2.setTop (mkF m 23 #[.val (.ref a0c), .val (.int 0), .val (.int 2), .val (.ref b1), .val (.int 1), .unset] [(.int 2), (.int 0), (.ref a0c)])) _
    refine st3 _ ?_
    show Steps p.tables e below (T3.setTop (mkF m 26 #[.val (.ref a0c), .val (.int 0), .val (.int 2), .val (.ref b1), .val (.int 1), .unset] [(.ref b_3)])) _
    refine XS.astore X3.here hx rfl (hb hby d5_26) rfl rfl (l' := #[.val (.ref a0c), .val (.int 0), .val (.int 2), .val (.ref b1), .val (.int 1), .val (.ref b_3)]) rfl ?_
    refine XS.aload X3.here hx rfl (hb hby d5_28) rfl rfl ?_
    refine XS.iload X3.here hx rfl (hb hby d5_30) rfl ?_
    show Steps p.tables e below (T3.setTop (mkF m 32 #[.val (.ref a0c), .val (.int 0), .val (.int 2), .val (.ref b1), .val (.int 1), .val (.ref b_3)] [(.int 1), (.ref b_3)])) _
    refine st4 _ ?_
    show Steps p.tables e below (T4.setTop (mkF m 35 #[.val (.ref a0c), .val (.int 0), .val (.int 2), .val (.ref b1), .val (.int 1), .val (.ref b_3)] [(.int c1)])) _
    refine XS.sipush X4.here hx rfl (hb hby d5_35) ?_
    refine XS.icmpYes X4.here hx rfl (pc0 := 38) (pc' := 54) rfl (hb hby d5_38) rfl (tlt hcj).2.2.1 (by decide) (by decide) ?_
    refine XS.aload X4.here hx rfl (hb hby d5_54) rfl rfl ?_
    show Steps p.tables e below (T4.setTop (mkF m 56 #[.val (.ref a0c), .val (.int 0), .val (.int 2), .val (.ref b1), .val (.int 1), .val (.ref b_3)] [(.ref b_3)])) _
    jvm_step X4.here [X4.here.top, hx, (hb hby d5_56), X4.method', Bd.returns, Value.isRef, FieldType.isReference]
    first | (intro acts; rw [hr _ acts rfl rfl rfl]) | rw [hr _ _ rfl rfl rfl]
    exact Steps.refl _
  · show Q_rmC1_2u1 n0 Z cS aRS aEM aUS aSS a0c k0 c0 c1 h0 _ T4.heap _
    rw [e4]
    exact ⟨b_3, kb_3, rfl, N4, K3, sz_b_3, P3_1, P3_2⟩
theorem ef_rmC2_3 (m : MethodId) (a0c : Addr) (a2b : Addr) : entryFrame m #[(.ref a0c), (.int 0), (.ref a2b), (.int 0), (.int 3)] 7 = mkF m 0 #[.val (.ref a0c), .val (.int 0), .val (.ref a2b), .val (.int 0), .val (.int 3), .unset, .unset] [] := by first | (simp [entryFrame, mkF, argsToLocals, Value.category]; done) | rfl
def Q_rmC2_3 (n0 : Nat) (Z : State) (cS : Int32) (aRS : Addr) (aEM : Addr) (aUS : Addr) (aSS : Addr) (a0c : Addr) (a2b : Addr) (k0 : ClassId) (k2 : ClassId) (c0 : Int32) (c1 : Int32) (c2 : Int32) (h0 : Heap) (v : Option Value) (h : Heap) (L : List Loc) : Prop := v = some (.int 3) ∧ Fr n0 L ∧ Keep h0 h [a2b] ∧ (Arv Z h a2b k2 .byte (3 : Int32) [(.int (c0.toInt8.toInt32)), (.int (c1.toInt8.toInt32)), (.int (c2.toInt8.toInt32))] (.int 0))
set_option maxRecDepth 65536 in
set_option maxHeartbeats 40000000 in
theorem rmC2_3 (l : Launch) (Z : State) (a0 : Array Value) (hw : ∀ d ∈ tables_1, d.before a0 Z = true) (ws : List Jvm.Cond) (cS : Int32) (aRS : Addr) (aEM : Addr) (aUS : Addr) (aSS : Addr) (a0c : Addr) (a2b : Addr) (k0 : ClassId) (k2 : ClassId) (c0 : Int32) (c1 : Int32) (c2 : Int32) (h0 : Heap) (n0 : Nat) (O0 : Old Z n0 h0) (GL : GF Z cS aRS aEM aUS aSS) (V_a0c : Arv Z h0 a0c k0 .char (3 : Int32) [(.int c0), (.int c1), (.int c2)] (.int 0)) (V_a2b : Arv Z h0 a2b k2 .byte (3 : Int32) [(.int 0), (.int 0), (.int 0)] (.int 0)) (g_a2b : n0 ≤ a2b) (hc0 : ¬ ((255 : Int32) < c0)) (hc1 : ¬ ((255 : Int32) < c1)) (hc2 : ¬ ((255 : Int32) < c2)) :
    MetFree l MN_0 (head1 (Jvm.Cond.code MN_0 jdk_52_method_21_code 7 (some .int) :: ws) ({ frames := 0, cells := 0, slots := 0, locals := 0 } : Room)) (fun a U => a = #[(.ref a0c), (.int 0), (.ref a2b), (.int 0), (.int 3)] ∧ Z.Warmed39 U.vm ∧ U.heap = h0) (fun _ _ _ _ _ => True) (fun _ U o U' => ∃ v L, o = .returned v ∧ Q_rmC2_3 n0 Z cS aRS aEM aUS aSS a0c a2b k0 k2 c0 c1 c2 h0 v U'.heap L ∧ FrameEnd U o U' L ({ frames := 0, cells := 0, slots := 0, locals := 0 } : Room).cells ({ frames := 0, cells := 0, slots := 0, locals := 0 } : Room).slots) := by
  refine MetFree.of_bodySF (plainFor_of_name pn) hisR ?_
  intro p e s m args below meth c s₁ Bd hml0 hP hK
  obtain ⟨rfl, hZ, hh⟩ := hP
  have hx := Bd.exec
  have hby := Bd.bytes
  have hml : c.maxLocals = 7 := hml0
  have hown : s.vm.findClass "java/lang/StringUTF16" = some m.cls := findClass_of_methodNamed Bd.named
  have hnm := (name_of_methodNamed Bd.named Bd.method).1
  have X0 : Stand p l e ({ frames := 0, cells := 0, slots := 0, locals := 0 } : Room) s m #[(.ref a0c), (.int 0), (.ref a2b), (.int 0), (.int 3)] below meth c s₁ [] 0 0 := Stand.of_body Bd
  have e0 : s₁.heap = h0 := by rw [← hh, Bd.state]; rfl
  have N0 := Fr.nil n0
  have pre0 : ∀ t, Steps p.tables e below (s₁.setTop (mkF m 0 #[.val (.ref a0c), .val (.int 0), .val (.ref a2b), .val (.int 0), .val (.int 3), .unset, .unset] [])) t → Steps p.tables e below (s₁.setTop (entryFrame m #[(.ref a0c), (.int 0), (.ref a2b), (.int 0), (.int 3)] 7)) t := fun t k => castTop (ef_rmC2_3 m a0c a2b) k
  have GL' := GL
  obtain ⟨GCS, GCP, GSR, GSE, GEE, GFE, GSU, GSS, GA16, GHI, GLO⟩ := GL'
  obtain ⟨cl1, Ar1, -, S1, N1_, H1, G1⟩ := id (V_a0c)
  have hin1 : ¬ ((0 : Int32) < 0 ∨ cl1.slots.size ≤ ((0 : Int32)).toNatClampNeg) := inb_of S1 ⟨(by decide), (by decide)⟩
  have hat1 : cl1.slots[((0 : Int32)).toNatClampNeg]? = some (.int c0) := H1.at hin1 rfl
  obtain ⟨cl2, Ar2, q2, S2, N2_, H2, G2⟩ := id (V_a2b)
  have hin2 : ¬ ((0 : Int32) < 0 ∨ cl2.slots.size ≤ ((0 : Int32)).toNatClampNeg) := inb_of S2 ⟨(by decide), (by decide)⟩
  obtain ⟨T2, h2, X2, e2, W2, st2⟩ := stB X0 hx hZ e0 Ar2 (j := (0 : Int32)) hin2 (g := (mkF m 31 #[.val (.ref a0c), .val (.int 0), .val (.ref a2b), .val (.int 0), .val (.int 3), .val (.int 0), .val (.int c0)] [(.int (c0.toInt8.toInt32)), (.int 0), (.ref a2b)])) rfl rfl (hb hby d6_31)
  have K2 : Keep h0 h2 [a2b] := (Keep.refl h0 [a2b]).wr W2 (Or.inl (List.mem_of_getElem? (i := 0) rfl))
  have O2 := O0.wr W2 g_a2b
  have N2 := Fr.snoc X2 N0 g_a2b
  have V2' : Arv Z h2 a2b k2 .byte (3 : Int32) [(.int ((c0.toInt8.toInt32)).toInt8.toInt32), (.int 0), (.int 0)] (.int 0) := Arv.set Ar2 q2 S2 N2_ H2 G2 (fits_nar_byte _) W2 0 rfl (Nat.le_of_ble_eq_true rfl)
  have V2 : Arv Z h2 a2b k2 .byte (3 : Int32) [(.int (c0.toInt8.toInt32)), (.int 0), (.int 0)] (.int 0) := by
    rw [own_b2 c0] at V2'
    exact V2'
  obtain ⟨cl3, Ar3, -, S3, N3_, H3, G3⟩ := id ((V_a0c.other W2 (own_neArv V_a0c V_a2b (by decide))))
  have hin3 : ¬ ((1 : Int32) < 0 ∨ cl3.slots.size ≤ ((1 : Int32)).toNatClampNeg) := inb_of S3 ⟨(by decide), (by decide)⟩
  have hat3 : cl3.slots[((1 : Int32)).toNatClampNeg]? = some (.int c1) := H3.at hin3 rfl
  obtain ⟨cl4, Ar4, q4, S4, N4_, H4, G4⟩ := id (V2)
  have hin4 : ¬ ((1 : Int32) < 0 ∨ cl4.slots.size ≤ ((1 : Int32)).toNatClampNeg) := inb_of S4 ⟨(by decide), (by decide)⟩
  obtain ⟨T4, h4, X4, e4, W4, st4⟩ := stB X2 hx hZ e2 Ar4 (j := (1 : Int32)) hin4 (g := (mkF m 31 #[.val (.ref a0c), .val (.int 1), .val (.ref a2b), .val (.int 1), .val (.int 3), .val (.int 1), .val (.int c1)] [(.int (c1.toInt8.toInt32)), (.int 1), (.ref a2b)])) rfl rfl (hb hby d6_31)
  have K4 : Keep h0 h4 [a2b] := K2.wr W4 (Or.inl (List.mem_of_getElem? (i := 0) rfl))
  have O4 := O2.wr W4 g_a2b
  have N4 := Fr.snoc X4 N2 g_a2b
  have V4' : Arv Z h4 a2b k2 .byte (3 : Int32) [(.int (c0.toInt8.toInt32)), (.int ((c1.toInt8.toInt32)).toInt8.toInt32), (.int 0)] (.int 0) := Arv.set Ar4 q4 S4 N4_ H4 G4 (fits_nar_byte _) W4 1 rfl (Nat.le_of_ble_eq_true rfl)
  have V4 : Arv Z h4 a2b k2 .byte (3 : Int32) [(.int (c0.toInt8.toInt32)), (.int (c1.toInt8.toInt32)), (.int 0)] (.int 0) := by
    rw [own_b2 c1] at V4'
    exact V4'
  obtain ⟨cl5, Ar5, -, S5, N5_, H5, G5⟩ := id (((V_a0c.other W2 (own_neArv V_a0c V_a2b (by decide))).other W4 (own_neArv V_a0c V_a2b (by decide))))
  have hin5 : ¬ ((2 : Int32) < 0 ∨ cl5.slots.size ≤ ((2 : Int32)).toNatClampNeg) := inb_of S5 ⟨(by decide), (by decide)⟩
  have hat5 : cl5.slots[((2 : Int32)).toNatClampNeg]? = some (.int c2) := H5.at hin5 rfl
  obtain ⟨cl6, Ar6, q6, S6, N6_, H6, G6⟩ := id (V4)
  have hin6 : ¬ ((2 : Int32) < 0 ∨ cl6.slots.size ≤ ((2 : Int32)).toNatClampNeg) := inb_of S6 ⟨(by decide), (by decide)⟩
  obtain ⟨T6, h6, X6, e6, W6, st6⟩ := stB X4 hx hZ e4 Ar6 (j := (2 : Int32)) hin6 (g := (mkF m 31 #[.val (.ref a0c), .val (.int 2), .val (.ref a2b), .val (.int 2), .val (.int 3), .val (.int 2), .val (.int c2)] [(.int (c2.toInt8.toInt32)), (.int 2), (.ref a2b)])) rfl rfl (hb hby d6_31)
  have K6 : Keep h0 h6 [a2b] := K4.wr W6 (Or.inl (List.mem_of_getElem? (i := 0) rfl))
  have O6 := O4.wr W6 g_a2b
  have N6 := Fr.snoc X6 N4 g_a2b
  have V6' : Arv Z h6 a2b k2 .byte (3 : Int32) [(.int (c0.toInt8.toInt32)), (.int (c1.toInt8.toInt32)), (.int ((c2.toInt8.toInt32)).toInt8.toInt32)] (.int 0) := Arv.set Ar6 q6 S6 N6_ H6 G6 (fits_nar_byte _) W6 2 rfl (Nat.le_of_ble_eq_true rfl)
  have V6 : Arv Z h6 a2b k2 .byte (3 : Int32) [(.int (c0.toInt8.toInt32)), (.int (c1.toInt8.toInt32)), (.int (c2.toInt8.toInt32))] (.int 0) := by
    rw [own_b2 c2] at V6'
    exact V6'
  obtain ⟨fs, hr, hrun, hended, hW, hsame⟩ := X6.leave (v := some (.int 3)) (fun h => by rw [Bd.returns] at h; cases h)
  refine ⟨_, _, pre0 _ ?_, hrun, hended, _, _, rfl, ?_, ⟨_, rfl⟩, hW, hsame.mono (by decide) (by decide)⟩
  · show Steps p.tables e below (s₁.setTop (mkF m 0 #[.val (.ref a0c), .val (.int 0), .val (.ref a2b), .val (.int 0), .val (.int 3), .unset, .unset] [])) _
    refine XS.iconst X0.here hx rfl (hb hby d6_0) ?_
    refine XS.istore X0.here hx rfl (hb hby d6_1) rfl (l' := #[.val (.ref a0c), .val (.int 0), .val (.ref a2b), .val (.int 0), .val (.int 3), .val (.int 0), .unset]) rfl ?_
    refine XS.iload X0.here hx rfl (hb hby d6_3) rfl ?_
    refine XS.iload X0.here hx rfl (hb hby d6_5) rfl ?_
    show Steps p.tables e below (s₁.setTop (mkF m 7 #[.val (.ref a0c), .val (.int 0), .val (.ref a2b), .val (.int 0), .val (.int 3), .val (.int 0), .unset] [(.int 3), (.int 0)])) _
    refine XS.icmpNo X0.here hx rfl (hb hby d6_7) rfl (tlt (by decide : (0 : Int32) < (3 : Int32))).2.1 ?_
    refine XS.aloadN X0.here hx rfl (hb hby d6_10) rfl rfl ?_
    refine XS.iloadN X0.here hx rfl (hb hby d6_11) rfl ?_
    show Steps p.tables e below (s₁.setTop (mkF m 12 #[.val (.ref a0c), .val (.int 0), .val (.ref a2b), .val (.int 0), .val (.int 3), .val (.int 0), .unset] [(.int 0), (.ref a0c)])) _
    refine X0.caload hx (j := (0 : Int32)) (v := (.int c0)) (by rw [e0]; exact Ar1.1) (State.isArrayOf_alike hZ.alike Ar1.2.1) Ar1.2.2 hin1 hat1 (g := (mkF m 12 #[.val (.ref a0c), .val (.int 0), .val (.ref a2b), .val (.int 0), .val (.int 3), .val (.int 0), .unset] [(.int 0), (.ref a0c)])) rfl rfl (hb hby d6_12) _ ?_
    show Steps p.tables e below (s₁.setTop (mkF m 13 #[.val (.ref a0c), .val (.int 0), .val (.ref a2b), .val (.int 0), .val (.int 3), .val (.int 0), .unset] [(.int c0)])) _
    refine XS.istore X0.here hx rfl (hb hby d6_13) rfl (l' := #[.val (.ref a0c), .val (.int 0), .val (.ref a2b), .val (.int 0), .val (.int 3), .val (.int 0), .val (.int c0)]) rfl ?_
    refine XS.iload X0.here hx rfl (hb hby d6_15) rfl ?_
    refine XS.sipush X0.here hx rfl (hb hby d6_17) ?_
    refine XS.icmpYes X0.here hx rfl (pc0 := 20) (pc' := 26) rfl (hb hby d6_20) rfl (flt hc0).2.2.2 (by decide) (by decide) ?_
    show Steps p.tables e below (s₁.setTop (mkF m 26 #[.val (.ref a0c), .val (.int 0), .val (.ref a2b), .val (.int 0), .val (.int 3), .val (.int 0), .val (.int c0)] [])) _
    refine XS.aloadN X0.here hx rfl (hb hby d6_26) rfl rfl ?_
    refine XS.iloadN X0.here hx rfl (hb hby d6_27) rfl ?_
    refine XS.iload X0.here hx rfl (hb hby d6_28) rfl ?_
    refine XS.i2b X0.here hx rfl (hb hby d6_30) rfl ?_
    show Steps p.tables e below (s₁.setTop (mkF m 31 #[.val (.ref a0c), .val (.int 0), .val (.ref a2b), .val (.int 0), .val (.int 3), .val (.int 0), .val (.int c0)] [(.int (c0.toInt8.toInt32)), (.int 0), (.ref a2b)])) _
    refine st2 _ ?_
    show Steps p.tables e below (T2.setTop (mkF m 32 #[.val (.ref a0c), .val (.int 0), .val (.ref a2b), .val (.int 0), .val (.int 3), .val (.int 0), .val (.int c0)] [])) _
    refine XS.iinc X2.here hx rfl (hb hby d6_32) rfl (l' := #[.val (.ref a0c), .val (.int 1), .val (.ref a2b), .val (.int 0), .val (.int 3), .val (.int 0), .val (.int c0)]) rfl ?_
    refine XS.iinc X2.here hx rfl (hb hby d6_35) rfl (l' := #[.val (.ref a0c), .val (.int 1), .val (.ref a2b), .val (.int 1), .val (.int 3), .val (.int 0), .val (.int c0)]) rfl ?_
    refine XS.iinc X2.here hx rfl (hb hby d6_38) rfl (l' := #[.val (.ref a0c), .val (.int 1), .val (.ref a2b), .val (.int 1), .val (.int 3), .val (.int 1), .val (.int c0)]) rfl ?_
    refine XS.goto X2.here hx rfl (pc0 := 41) (pc' := 3) rfl (hb hby d6_41) (by decide) (by decide) ?_
    show Steps p.tables e below (T2.setTop (mkF m 3 #[.val (.ref a0c), .val (.int 1), .val (.ref a2b), .val (.int 1), .val (.int 3), .val (.int 1), .val (.int c0)] [])) _
    refine XS.iload X2.here hx rfl (hb hby d6_3) rfl ?_
    refine XS.iload X2.here hx rfl (hb hby d6_5) rfl ?_
    refine XS.icmpNo X2.here hx rfl (hb hby d6_7) rfl (tlt (by decide : (1 : Int32) < (3 : Int32))).2.1 ?_
    refine XS.aloadN X2.here hx rfl (hb hby d6_10) rfl rfl ?_
    show Steps p.tables e below (T2.setTop (mkF m 11 #[.val (.ref a0c), .val (.int 1), .val (.ref a2b), .val (.int 1), .val (.int 3), .val (.int 1), .val (.int c0)] [(.ref a0c)])) _
    refine XS.iloadN X2.here hx rfl (hb hby d6_11) rfl ?_
    show Steps p.tables e below (T2.setTop (mkF m 12 #[.val (.ref a0c), .val (.int 1), .val (.ref a2b), .val (.int 1), .val (.int 3), .val (.int 1), .val (.int c0)] [(.int 1), (.ref a0c)])) _
    refine X2.caload hx (j := (1 : Int32)) (v := (.int c1)) (by rw [e2]; exact Ar3.1) (State.isArrayOf_alike hZ.alike Ar3.2.1) Ar3.2.2 hin3 hat3 (g := (mkF m 12 #[.val (.ref a0c), .val (.int 1), .val (.ref a2b), .val (.int 1), .val (.int 3), .val (.int 1), .val (.int c0)] [(.int 1), (.ref a0c)])) rfl rfl (hb hby d6_12) _ ?_
    show Steps p.tables e below (T2.setTop (mkF m 13 #[.val (.ref a0c), .val (.int 1), .val (.ref a2b), .val (.int 1), .val (.int 3), .val (.int 1), .val (.int c0)] [(.int c1)])) _
    refine XS.istore X2.here hx rfl (hb hby d6_13) rfl (l' := #[.val (.ref a0c), .val (.int 1), .val (.ref a2b), .val (.int 1), .val (.int 3), .val (.int 1), .val (.int c1)]) rfl ?_
    refine XS.iload X2.here hx rfl (hb hby d6_15) rfl ?_
    refine XS.sipush X2.here hx rfl (hb hby d6_17) ?_
    refine XS.icmpYes X2.here hx rfl (pc0 := 20) (pc' := 26) rfl (hb hby d6_20) rfl (flt hc1).2.2.2 (by decide) (by decide) ?_
    show Steps p.tables e below (T2.setTop (mkF m 26 #[.val (.ref a0c), .val (.int 1), .val (.ref a2b), .val (.int 1), .val (.int 3), .val (.int 1), .val (.int c1)] [])) _
    refine XS.aloadN X2.here hx rfl (hb hby d6_26) rfl rfl ?_
    refine XS.iloadN X2.here hx rfl (hb hby d6_27) rfl ?_
    refine XS.iload X2.here hx rfl (hb hby d6_28) rfl ?_
    refine XS.i2b X2.here hx rfl (hb hby d6_30) rfl ?_
    show Steps p.tables e below (T2.setTop (mkF m 31 #[.val (.ref a0c), .val (.int 1), .val (.ref a2b), .val (.int 1), .val (.int 3), .val (.int 1), .val (.int c1)] [(.int (c1.toInt8.toInt32)), (.int 1), (.ref a2b)])) _
    refine st4 _ ?_
    show Steps p.tables e below (T4.setTop (mkF m 32 #[.val (.ref a0c), .val (.int 1), .val (.ref a2b), .val (.int 1), .val (.int 3), .val (.int 1), .val (.int c1)] [])) _
    refine XS.iinc X4.here hx rfl (hb hby d6_32) rfl (l' := #[.val (.ref a0c), .val (.int 2), .val (.ref a2b), .val (.int 1), .val (.int 3), .val (.int 1), .val (.int c1)]) rfl ?_
    refine XS.iinc X4.here hx rfl (hb hby d6_35) rfl (l' := #[.val (.ref a0c), .val (.int 2), .val (.ref a2b), .val (.int 2), .val (.int 3), .val (.int 1), .val (.int c1)]) rfl ?_
    refine XS.iinc X4.here hx rfl (hb hby d6_38) rfl (l' := #[.val (.ref a0c), .val (.int 2), .val (.ref a2b), .val (.int 2), .val (.int 3), .val (.int 2), .val (.int c1)]) rfl ?_
    refine XS.goto X4.here hx rfl (pc0 := 41) (pc' := 3) rfl (hb hby d6_41) (by decide) (by decide) ?_
    show Steps p.tables e below (T4.setTop (mkF m 3 #[.val (.ref a0c), .val (.int 2), .val (.ref a2b), .val (.int 2), .val (.int 3), .val (.int 2), .val (.int c1)] [])) _
    refine XS.iload X4.here hx rfl (hb hby d6_3) rfl ?_
    refine XS.iload X4.here hx rfl (hb hby d6_5) rfl ?_
    refine XS.icmpNo X4.here hx rfl (hb hby d6_7) rfl (tlt (by decide : (2 : Int32) < (3 : Int32))).2.1 ?_
    refine XS.aloadN X4.here hx rfl (hb hby d6_10) rfl rfl ?_
    show Steps p.tables e below (T4.setTop (mkF m 11 #[.val (.ref a0c), .val (.int 2), .val (.ref a2b), .val (.int 2), .val (.int 3), .val (.int 2), .val (.int c1)] [(.ref a0c)])) _
    refine XS.iloadN X4.here hx rfl (hb hby d6_11) rfl ?_
    show Steps p.tables e below (T4.setTop (mkF m 12 #[.val (.ref a0c), .val (.int 2), .val (.ref a2b), .val (.int 2), .val (.int 3), .val (.int 2), .val (.int c1)] [(.int 2), (.ref a0c)])) _
    refine X4.caload hx (j := (2 : Int32)) (v := (.int c2)) (by rw [e4]; exact Ar5.1) (State.isArrayOf_alike hZ.alike Ar5.2.1) Ar5.2.2 hin5 hat5 (g := (mkF m 12 #[.val (.ref a0c), .val (.int 2), .val (.ref a2b), .val (.int 2), .val (.int 3), .val (.int 2), .val (.int c1)] [(.int 2), (.ref a0c)])) rfl rfl (hb hby d6_12) _ ?_
    show Steps p.tables e below (T4.setTop (mkF m 13 #[.val (.ref a0c), .val (.int 2), .val (.ref a2b), .val (.int 2), .val (.int 3), .val (.int 2), .val (.int c1)] [(.int c2)])) _
    refine XS.istore X4.here hx rfl (hb hby d6_13) rfl (l' := #[.val (.ref a0c), .val (.int 2), .val (.ref a2b), .val (.int 2), .val (.int 3), .val (.int 2), .val (.int c2)]) rfl ?_
    refine XS.iload X4.here hx rfl (hb hby d6_15) rfl ?_
    refine XS.sipush X4.here hx rfl (hb hby d6_17) ?_
    refine XS.icmpYes X4.here hx rfl (pc0 := 20) (pc' := 26) rfl (hb hby d6_20) rfl (flt hc2).2.2.2 (by decide) (by decide) ?_
    show Steps p.tables e below (T4.setTop (mkF m 26 #[.val (.ref a0c), .val (.int 2), .val (.ref a2b), .val (.int 2), .val (.int 3), .val (.int 2), .val (.int c2)] [])) _
    refine XS.aloadN X4.here hx rfl (hb hby d6_26) rfl rfl ?_
    refine XS.iloadN X4.here hx rfl (hb hby d6_27) rfl ?_
    refine XS.iload X4.here hx rfl (hb hby d6_28) rfl ?_
    refine XS.i2b X4.here hx rfl (hb hby d6_30) rfl ?_
    show Steps p.tables e below (T4.setTop (mkF m 31 #[.val (.ref a0c), .val (.int 2), .val (.ref a2b), .val (.int 2), .val (.int 3), .val (.int 2), .val (.int c2)] [(.int (c2.toInt8.toInt32)), (.int 2), (.ref a2b)])) _
    refine st6 _ ?_
    show Steps p.tables e below (T6.setTop (mkF m 32 #[.val (.ref a0c), .val (.int 2), .val (.ref a2b), .val (.int 2), .val (.int 3), .val (.int 2), .val (.int c2)] [])) _
    refine XS.iinc X6.here hx rfl (hb hby d6_32) rfl (l' := #[.val (.ref a0c), .val (.int 3), .val (.ref a2b), .val (.int 2), .val (.int 3), .val (.int 2), .val (.int c2)]) rfl ?_
    refine XS.iinc X6.here hx rfl (hb hby d6_35) rfl (l' := #[.val (.ref a0c), .val (.int 3), .val (.ref a2b), .val (.int 3), .val (.int 3), .val (.int 2), .val (.int c2)]) rfl ?_
    refine XS.iinc X6.here hx rfl (hb hby d6_38) rfl (l' := #[.val (.ref a0c), .val (.int 3), .val (.ref a2b), .val (.int 3), .val (.int 3), .val (.int 3), .val (.int c2)]) rfl ?_
    refine XS.goto X6.here hx rfl (pc0 := 41) (pc' := 3) rfl (hb hby d6_41) (by decide) (by decide) ?_
    show Steps p.tables e below (T6.setTop (mkF m 3 #[.val (.ref a0c), .val (.int 3), .val (.ref a2b), .val (.int 3), .val (.int 3), .val (.int 3), .val (.int c2)] [])) _
    refine XS.iload X6.here hx rfl (hb hby d6_3) rfl ?_
    refine XS.iload X6.here hx rfl (hb hby d6_5) rfl ?_
    refine XS.icmpYes X6.here hx rfl (pc0 := 7) (pc' := 44) rfl (hb hby d6_7) rfl (flt (by decide : ¬ ((3 : Int32) < (3 : Int32)))).2.1 (by decide) (by decide) ?_
    refine XS.iload X6.here hx rfl (hb hby d6_44) rfl ?_
    show Steps p.tables e below (T6.setTop (mkF m 46 #[.val (.ref a0c), .val (.int 3), .val (.ref a2b), .val (.int 3), .val (.int 3), .val (.int 3), .val (.int c2)] [(.int 3)])) _
    exact retI X6 hx Bd.returns (hb hby d6_46) hr
  · show Q_rmC2_3 n0 Z cS aRS aEM aUS aSS a0c a2b k0 k2 c0 c1 c2 h0 _ T6.heap _
    rw [e6]
    exact ⟨rfl, N6, K6, V6⟩
theorem ef_rmC1_3 (m : MethodId) (a0c : Addr) : entryFrame m #[(.ref a0c), (.int 0), (.int 3)] 6 = mkF m 0 #[.val (.ref a0c), .val (.int 0), .val (.int 3), .unset, .unset, .unset] [] := by first | (simp [entryFrame, mkF, argsToLocals, Value.category]; done) | rfl
def Q_rmC1_3 (n0 : Nat) (Z : State) (cS : Int32) (aRS : Addr) (aEM : Addr) (aUS : Addr) (aSS : Addr) (a0c : Addr) (k0 : ClassId) (c0 : Int32) (c1 : Int32) (c2 : Int32) (h0 : Heap) (v : Option Value) (h : Heap) (L : List Loc) : Prop := ∃ b : Addr, ∃ kb : ClassId, v = some (.ref b) ∧ Fr n0 L ∧ Keep h0 h [] ∧ (h0.size ≤ b) ∧ (Exa Z h b "[B") ∧ (Arv Z h b kb .byte (3 : Int32) [(.int (c0.toInt8.toInt32)), (.int (c1.toInt8.toInt32)), (.int (c2.toInt8.toInt32))] (.int 0))
set_option maxRecDepth 65536 in
set_option maxHeartbeats 40000000 in
theorem rmC1_3 (l : Launch) (Z : State) (a0 : Array Value) (hw : ∀ d ∈ tables_1, d.before a0 Z = true) (ws : List Jvm.Cond) (cS : Int32) (aRS : Addr) (aEM : Addr) (aUS : Addr) (aSS : Addr) (a0c : Addr) (k0 : ClassId) (c0 : Int32) (c1 : Int32) (c2 : Int32) (h0 : Heap) (n0 : Nat) (O0 : Old Z n0 h0) (GL : GF Z cS aRS aEM aUS aSS) (V_a0c : Arv Z h0 a0c k0 .char (3 : Int32) [(.int c0), (.int c1), (.int c2)] (.int 0)) (hc0 : ¬ ((255 : Int32) < c0)) (hc1 : ¬ ((255 : Int32) < c1)) (hc2 : ¬ ((255 : Int32) < c2)) :
    MetFree l MN_1 (head1 (Jvm.Cond.code MN_1 jdk_52_method_16_code 6 (some (.array .byte)) :: ws) ({ frames := 1, cells := 1, slots := 3, locals := 18 } : Room)) (fun a U => a = #[(.ref a0c), (.int 0), (.int 3)] ∧ Z.Warmed39 U.vm ∧ U.heap = h0) (fun _ _ _ _ _ => True) (fun _ U o U' => ∃ v L, o = .returned v ∧ Q_rmC1_3 n0 Z cS aRS aEM aUS aSS a0c k0 c0 c1 c2 h0 v U'.heap L ∧ FrameEnd U o U' L ({ frames := 1, cells := 1, slots := 3, locals := 18 } : Room).cells ({ frames := 1, cells := 1, slots := 3, locals := 18 } : Room).slots) := by
  refine MetFree.of_bodySF (plainFor_of_name pn) hisR ?_
  intro p e s m args below meth c s₁ Bd hml0 hP hK
  obtain ⟨rfl, hZ, hh⟩ := hP
  have hx := Bd.exec
  have hby := Bd.bytes
  have hml : c.maxLocals = 6 := hml0
  have hown : s.vm.findClass "java/lang/StringUTF16" = some m.cls := findClass_of_methodNamed Bd.named
  have hnm := (name_of_methodNamed Bd.named Bd.method).1
  have X0 : Stand p l e ({ frames := 1, cells := 1, slots := 3, locals := 18 } : Room) s m #[(.ref a0c), (.int 0), (.int 3)] below meth c s₁ [] 0 0 := Stand.of_body Bd
  have e0 : s₁.heap = h0 := by rw [← hh, Bd.state]; rfl
  have N0 := Fr.nil n0
  have pre0 : ∀ t, Steps p.tables e below (s₁.setTop (mkF m 0 #[.val (.ref a0c), .val (.int 0), .val (.int 3), .unset, .unset, .unset] [])) t → Steps p.tables e below (s₁.setTop (entryFrame m #[(.ref a0c), (.int 0), (.int 3)] 6)) t := fun t k => castTop (ef_rmC1_3 m a0c) k
  have GL' := GL
  obtain ⟨GCS, GCP, GSR, GSE, GEE, GFE, GSU, GSS, GA16, GHI, GLO⟩ := GL'
  obtain ⟨T1, h1, k1, X1, e1, E1, A1, A1', st1⟩ := newPE X0 hx hZ (Wd hw 24 rfl) e0 (g := (mkF m 1 #[.val (.ref a0c), .val (.int 0), .val (.int 3), .unset, .unset, .unset] [(.int 3)])) rfl (hb hby d5_1) rfl (by decide) (cap := 3) (by decide) (by decide) (by decide) (by decide) (ad := "[B") rfl
  obtain ⟨b1, g1⟩ : ∃ z, z = h0.size := ⟨_, rfl⟩
  rw [← g1] at A1 A1' st1
  have g_b1 : n0 ≤ b1 := Nat.le_trans (own_sz O0) (Nat.le_of_eq g1.symm)
  have sz_b1 : h0.size ≤ b1 := Nat.le_trans (Keep.refl h0 []).1 (Nat.le_of_eq g1.symm)
  have K1 : Keep h0 h1 [] := (Keep.refl h0 []).ext E1
  have O1 := O0.ext E1
  have V_b1 : Arv Z h1 b1 k1 .byte (3 : Int32) [(.int 0), (.int 0), (.int 0)] (.int 0) := (Arv.new A1 (by decide)).pad (pad_rep [] (.int 0) 3)
  obtain ⟨_, _, ⟨T2, L2, k2, n2⟩, -, X2, ⟨Lc2, hQ2, l2, y2, z2⟩, st2⟩ := Jvm.LawKit.callS X1 hx (y := MN_0) hown (mvT hZ (Wd hw 25 rfl)) (mvT hZ (Wd hw 26 rfl)) (mvT hZ (Wd hw 22 rfl)) (mvT hZ (Wd hw 27 rfl)) (by decide) (backOf (W := 0) (rmC2_3 l Z a0 hw [] cS aRS aEM aUS aSS (a0c) (b1) (k0) (k1) (c0) (c1) (c2) (h1) n0 O1 GL (V_a0c.ext E1) V_b1 g_b1 hc0 hc1 hc2) hZ (Wd hw 27 rfl) (Wd hw 22 rfl) (by decide) (by decide)) (g := (mkF m 9 #[.val (.ref a0c), .val (.int 0), .val (.int 3), .val (.ref b1), .unset, .unset] [(.int 3), (.int 0), (.ref b1), (.int 0), (.ref a0c)])) rfl (by rw [hml]; rfl) (argsL := [(.ref a0c), (.int 0), (.ref b1), (.int 0), (.int 3)]) (rest := []) (lenOf pd rfl) rfl (by show 2 * 0 + _ ≤ _; exact Nat.le_of_eq rfl) (hb hby d5_9) (fun _ _ => ⟨rfl, e1, (by decide : 1 + 0 ≤ _), (by decide : 3 + 0 ≤ _)⟩)
  dsimp only [Pt.U, Pt.locs, Pt.cells, Pt.slots] at X2 l2 y2 z2 st2 hQ2
  subst l2 y2 z2
  obtain ⟨rfl, N2q, Kc2, P2_0⟩ := hQ2
  have K2 : Keep h0 T2.heap [] := K1.trans Kc2 (allS (Or.inr sz_b1) all0)
  have O2 := O1.keep Kc2 (allS g_b1 all0)
  have N2 := Fr.app N0 N2q
  obtain ⟨fs, hr, hrun, hended, hW, hsame⟩ := X2.leave (v := some (.ref b1)) (fun h => by rw [Bd.returns] at h; cases h)
  refine ⟨_, _, pre0 _ ?_, hrun, hended, _, _, rfl, ?_, ⟨_, rfl⟩, hW, hsame.mono (by decide) (by decide)⟩
  · show Steps p.tables e below (s₁.setTop (mkF m 0 #[.val (.ref a0c), .val (.int 0), .val (.int 3), .unset, .unset, .unset] [])) _
    refine XS.iloadN X0.here hx rfl (hb hby d5_0) rfl ?_
    show Steps p.tables e below (s₁.setTop (mkF m 1 #[.val (.ref a0c), .val (.int 0), .val (.int 3), .unset, .unset, .unset] [(.int 3)])) _
    refine st1 _ ?_
    show Steps p.tables e below (T1.setTop (mkF m 3 #[.val (.ref a0c), .val (.int 0), .val (.int 3), .unset, .unset, .unset] [(.ref b1)])) _
    refine XS.astoreN X1.here hx rfl (hb hby d5_3) rfl rfl (l' := #[.val (.ref a0c), .val (.int 0), .val (.int 3), .val (.ref b1), .unset, .unset]) rfl ?_
    refine XS.aloadN X1.here hx rfl (hb hby d5_4) rfl rfl ?_
    refine XS.iloadN X1.here hx rfl (hb hby d5_5) rfl ?_
    refine XS.aloadN X1.here hx rfl (hb hby d5_6) rfl rfl ?_
    show Steps p.tables e below (T1.setTop (mkF m 7 #[.val (.ref a0c), .val (.int 0), .val (.int 3), .val (.ref b1), .unset, .unset] [(.ref b1), (.int 0), (.ref a0c)])) _
    refine XS.iconst X1.here hx rfl (hb hby d5_7) ?_
    refine XS.iloadN X1.here hx rfl (hb hby d5_8) rfl ?_
    show Steps p.tables e below (T1.setTop (mkF m 9 #[.val (.ref a0c), .val (.int 0), .val (.int 3), .val (.ref b1), .unset, .unset] [(.int 3), (.int 0), (.ref b1), (.int 0), (.ref a0c)])) _
    refine st2 _ ?_
    show Steps p.tables e below (T2.setTop (mkF m 12 #[.val (.ref a0c), .val (.int 0), .val (.int 3), .val (.ref b1), .unset, .unset] [(.int 3)])) _
    refine XS.istore X2.here hx rfl (hb hby d5_12) rfl (l' := #[.val (.ref a0c), .val (.int 0), .val (.int 3), .val (.ref b1), .val (.int 3), .unset]) rfl ?_
    refine XS.iload X2.here hx rfl (hb hby d5_14) rfl ?_
    refine XS.iloadN X2.here hx rfl (hb hby d5_16) rfl ?_
    refine XS.icmpYes X2.here hx rfl (pc0 := 17) (pc' := 57) rfl (hb hby d5_17) rfl (teq (by decide : (3 : Int32) = (3 : Int32))).1 (by decide) (by decide) ?_
    show Steps p.tables e below (T2.setTop (mkF m 57 #[.val (.ref a0c), .val (.int 0), .val (.int 3), .val (.ref b1), .val (.int 3), .unset] [])) _
    refine XS.aloadN X2.here hx rfl (hb hby d5_57) rfl rfl ?_
    show Steps p.tables e below (T2.setTop (mkF m 58 #[.val (.ref a0c), .val (.int 0), .val (.int 3), .val (.ref b1), .val (.int 3), .unset] [(.ref b1)])) _
    jvm_step X2.here [X2.here.top, hx, (hb hby d5_58), X2.method', Bd.returns, Value.isRef, FieldType.isReference]
    first | (intro acts; rw [hr _ acts rfl rfl rfl]) | rw [hr _ _ rfl rfl rfl]
    exact Steps.refl _
  · show Q_rmC1_3 n0 Z cS aRS aEM aUS aSS a0c k0 c0 c1 c2 h0 _ T2.heap _
    exact ⟨b1, k1, rfl, N2, K2, sz_b1, (A1'.keep Kc2), P2_0⟩
def Q_rmC2_3u0 (n0 : Nat) (Z : State) (cS : Int32) (aRS : Addr) (aEM : Addr) (aUS : Addr) (aSS : Addr) (a0c : Addr) (a2b : Addr) (k0 : ClassId) (k2 : ClassId) (c0 : Int32) (c1 : Int32) (c2 : Int32) (h0 : Heap) (v : Option Value) (h : Heap) (L : List Loc) : Prop := v = some (.int 0) ∧ Fr n0 L ∧ Keep h0 h [a2b] ∧ (Arv Z h a2b k2 .byte (3 : Int32) [(.int 0), (.int 0), (.int 0)] (.int 0))
set_option maxRecDepth 65536 in
set_option maxHeartbeats 40000000 in
theorem rmC2_3u0 (l : Launch) (Z : State) (a0 : Array Value) (hw : ∀ d ∈ tables_1, d.before a0 Z = true) (ws : List Jvm.Cond) (cS : Int32) (aRS : Addr) (aEM : Addr) (aUS : Addr) (aSS : Addr) (a0c : Addr) (a2b : Addr) (k0 : ClassId) (k2 : ClassId) (c0 : Int32) (c1 : Int32) (c2 : Int32) (h0 : Heap) (n0 : Nat) (O0 : Old Z n0 h0) (GL : GF Z cS aRS aEM aUS aSS) (V_a0c : Arv Z h0 a0c k0 .char (3 : Int32) [(.int c0), (.int c1), (.int c2)] (.int 0)) (V_a2b : Arv Z h0 a2b k2 .byte (3 : Int32) [(.int 0), (.int 0), (.int 0)] (.int 0)) (g_a2b : n0 ≤ a2b) (hcj : (255 : Int32) < c0) :
    MetFree l MN_0 (head1 (Jvm.Cond.code MN_0 jdk_52_method_21_code 7 (some .int) :: ws) ({ frames := 0, cells := 0, slots := 0, locals := 0 } : Room)) (fun a U => a = #[(.ref a0c), (.int 0), (.ref a2b), (.int 0), (.int 3)] ∧ Z.Warmed39 U.vm ∧ U.heap = h0) (fun _ _ _ _ _ => True) (fun _ U o U' => ∃ v L, o = .returned v ∧ Q_rmC2_3u0 n0 Z cS aRS aEM aUS aSS a0c a2b k0 k2 c0 c1 c2 h0 v U'.heap L ∧ FrameEnd U o U' L ({ frames := 0, cells := 0, slots := 0, locals := 0 } : Room).cells ({ frames := 0, cells := 0, slots := 0, locals := 0 } : Room).slots) := by
  refine MetFree.of_bodySF (plainFor_of_name pn) hisR ?_
  intro p e s m args below meth c s₁ Bd hml0 hP hK
  obtain ⟨rfl, hZ, hh⟩ := hP
  have hx := Bd.exec
  have hby := Bd.bytes
  have hml : c.maxLocals = 7 := hml0
  have hown : s.vm.findClass "java/lang/StringUTF16" = some m.cls := findClass_of_methodNamed Bd.named
  have hnm := (name_of_methodNamed Bd.named Bd.method).1
  have X0 : Stand p l e ({ frames := 0, cells := 0, slots := 0, locals := 0 } : Room) s m #[(.ref a0c), (.int 0), (.ref a2b), (.int 0), (.int 3)] below meth c s₁ [] 0 0 := Stand.of_body Bd
  have e0 : s₁.heap = h0 := by rw [← hh, Bd.state]; rfl
  have N0 := Fr.nil n0
  have pre0 : ∀ t, Steps p.tables e below (s₁.setTop (mkF m 0 #[.val (.ref a0c), .val (.int 0), .val (.ref a2b), .val (.int 0), .val (.int 3), .unset, .unset] [])) t → Steps p.tables e below (s₁.setTop (entryFrame m #[(.ref a0c), (.int 0), (.ref a2b), (.int 0), (.int 3)] 7)) t := fun t k => castTop (ef_rmC2_3 m a0c a2b) k
  have GL' := GL
  obtain ⟨GCS, GCP, GSR, GSE, GEE, GFE, GSU, GSS, GA16, GHI, GLO⟩ := GL'
  obtain ⟨cl1, Ar1, -, S1, N1_, H1, G1⟩ := id (V_a0c)
  have hin1 : ¬ ((0 : Int32) < 0 ∨ cl1.slots.size ≤ ((0 : Int32)).toNatClampNeg) := inb_of S1 ⟨(by decide), (by decide)⟩
  have hat1 : cl1.slots[((0 : Int32)).toNatClampNeg]? = some (.int c0) := H1.at hin1 rfl
  obtain ⟨fs, hr, hrun, hended, hW, hsame⟩ := X0.leave (v := some (.int 0)) (fun h => by rw [Bd.returns] at h; cases h)
  refine ⟨_, _, pre0 _ ?_, hrun, hended, _, _, rfl, ?_, ⟨_, rfl⟩, hW, hsame.mono (by decide) (by decide)⟩
  · show Steps p.tables e below (s₁.setTop (mkF m 0 #[.val (.ref a0c), .val (.int 0), .val (.ref a2b), .val (.int 0), .val (.int 3), .unset, .unset] [])) _
    refine XS.iconst X0.here hx rfl (hb hby d6_0) ?_
    refine XS.istore X0.here hx rfl (hb hby d6_1) rfl (l' := #[.val (.ref a0c), .val (.int 0), .val (.ref a2b), .val (.int 0), .val (.int 3), .val (.int 0), .unset]) rfl ?_
    refine XS.iload X0.here hx rfl (hb hby d6_3) rfl ?_
    refine XS.iload X0.here hx rfl (hb hby d6_5) rfl ?_
    show Steps p.tables e below (s₁.setTop (mkF m 7 #[.val (.ref a0c), .val (.int 0), .val (.ref a2b), .val (.int 0), .val (.int 3), .val (.int 0), .unset] [(.int 3), (.int 0)])) _
    refine XS.icmpNo X0.here hx rfl (hb hby d6_7) rfl (tlt (by decide : (0 : Int32) < (3 : Int32))).2.1 ?_
    refine XS.aloadN X0.here hx rfl (hb hby d6_10) rfl rfl ?_
    refine XS.iloadN X0.here hx rfl (hb hby d6_11) rfl ?_
    show Steps p.tables e below (s₁.setTop (mkF m 12 #[.val (.ref a0c), .val (.int 0), .val (.ref a2b), .val (.int 0), .val (.int 3), .val (.int 0), .unset] [(.int 0), (.ref a0c)])) _
    refine X0.caload hx (j := (0 : Int32)) (v := (.int c0)) (by rw [e0]; exact Ar1.1) (State.isArrayOf_alike hZ.alike Ar1.2.1) Ar1.2.2 hin1 hat1 (g := (mkF m 12 #[.val (.ref a0c), .val (.int 0), .val (.ref a2b), .val (.int 0), .val (.int 3), .val (.int 0), .unset] [(.int 0), (.ref a0c)])) rfl rfl (hb hby d6_12) _ ?_
    show Steps p.tables e below (s₁.setTop (mkF m 13 #[.val (.ref a0c), .val (.int 0), .val (.ref a2b), .val (.int 0), .val (.int 3), .val (.int 0), .unset] [(.int c0)])) _
    refine XS.istore X0.here hx rfl (hb hby d6_13) rfl (l' := #[.val (.ref a0c), .val (.int 0), .val (.ref a2b), .val (.int 0), .val (.int 3), .val (.int 0), .val (.int c0)]) rfl ?_
    refine XS.iload X0.here hx rfl (hb hby d6_15) rfl ?_
    refine XS.sipush X0.here hx rfl (hb hby d6_17) ?_
    refine XS.icmpNo X0.here hx rfl (hb hby d6_20) rfl (tlt hcj).2.2.2 ?_
    show Steps p.tables e below (s₁.setTop (mkF m 23 #[.val (.ref a0c), .val (.int 0), .val (.ref a2b), .val (.int 0), .val (.int 3), .val (.int 0), .val (.int c0)] [])) _
    refine XS.iload X0.here hx rfl (hb hby d6_23) rfl ?_
    show Steps p.tables e below (s₁.setTop (mkF m 25 #[.val (.ref a0c), .val (.int 0), .val (.ref a2b), .val (.int 0), .val (.int 3), .val (.int 0), .val (.int c0)] [(.int 0)])) _
    exact retI X0 hx Bd.returns (hb hby d6_25) hr
  · show Q_rmC2_3u0 n0 Z cS aRS aEM aUS aSS a0c a2b k0 k2 c0 c1 c2 h0 _ s₁.heap _
    rw [e0]
    exact ⟨rfl, N0, (Keep.refl h0 [a2b]), V_a2b⟩
theorem ef_rmNbl3 (m : MethodId)  : entryFrame m #[(.int 3)] 1 = mkF m 0 #[.val (.int 3)] [] := by first | (simp [entryFrame, mkF, argsToLocals, Value.category]; done) | rfl
def Q_rmNbl3 (n0 : Nat) (Z : State) (cS : Int32) (aRS : Addr) (aEM : Addr) (aUS : Addr) (aSS : Addr) (h0 : Heap) (v : Option Value) (h : Heap) (L : List Loc) : Prop := v = some (.int 6) ∧ Fr n0 L ∧ h = h0
set_option maxRecDepth 65536 in
set_option maxHeartbeats 40000000 in
theorem rmNbl3 (l : Launch) (Z : State) (a0 : Array Value) (hw : ∀ d ∈ tables_1, d.before a0 Z = true) (ws : List Jvm.Cond) (cS : Int32) (aRS : Addr) (aEM : Addr) (aUS : Addr) (aSS : Addr) (h0 : Heap) (n0 : Nat) (O0 : Old Z n0 h0) (GL : GF Z cS aRS aEM aUS aSS) :
    MetFree l MN_2 (head1 (Jvm.Cond.code MN_2 jdk_52_method_3_code 1 (some .int) :: ws) ({ frames := 0, cells := 0, slots := 0, locals := 0 } : Room)) (fun a U => a = #[(.int 3)] ∧ Z.Warmed39 U.vm ∧ U.heap = h0) (fun _ _ _ _ _ => True) (fun _ U o U' => ∃ v L, o = .returned v ∧ Q_rmNbl3 n0 Z cS aRS aEM aUS aSS h0 v U'.heap L ∧ FrameEnd U o U' L ({ frames := 0, cells := 0, slots := 0, locals := 0 } : Room).cells ({ frames := 0, cells := 0, slots := 0, locals := 0 } : Room).slots) := by
  refine MetFree.of_bodySF (plainFor_of_name pn) hisR ?_
  intro p e s m args below meth c s₁ Bd hml0 hP hK
  obtain ⟨rfl, hZ, hh⟩ := hP
  have hx := Bd.exec
  have hby := Bd.bytes
  have hml : c.maxLocals = 1 := hml0
  have hown : s.vm.findClass "java/lang/StringUTF16" = some m.cls := findClass_of_methodNamed Bd.named
  have hnm := (name_of_methodNamed Bd.named Bd.method).1
  have X0 : Stand p l e ({ frames := 0, cells := 0, slots := 0, locals := 0 } : Room) s m #[(.int 3)] below meth c s₁ [] 0 0 := Stand.of_body Bd
  have e0 : s₁.heap = h0 := by rw [← hh, Bd.state]; rfl
  have N0 := Fr.nil n0
  have pre0 : ∀ t, Steps p.tables e below (s₁.setTop (mkF m 0 #[.val (.int 3)] [])) t → Steps p.tables e below (s₁.setTop (entryFrame m #[(.int 3)] 1)) t := fun t k => castTop (ef_rmNbl3 m ) k
  have GL' := GL
  obtain ⟨GCS, GCP, GSR, GSE, GEE, GFE, GSU, GSS, GA16, GHI, GLO⟩ := GL'
  obtain ⟨fs, hr, hrun, hended, hW, hsame⟩ := X0.leave (v := some (.int 6)) (fun h => by rw [Bd.returns] at h; cases h)
  refine ⟨_, _, pre0 _ ?_, hrun, hended, _, _, rfl, ?_, ⟨_, rfl⟩, hW, hsame.mono (by decide) (by decide)⟩
  · show Steps p.tables e below (s₁.setTop (mkF m 0 #[.val (.int 3)] [])) _
    refine XS.iloadN X0.here hx rfl (hb hby d22_0) rfl ?_
    refine XS.ifYes X0.here hx rfl (pc0 := 1) (pc' := 12) rfl (hb hby d22_1) rfl ((if0 _ _).trans (flt (by decide : ¬ ((3 : Int32) < (0 : Int32)))).2.1) (by decide) (by decide) ?_
    refine XS.iloadN X0.here hx rfl (hb hby d22_12) rfl ?_
    show Steps p.tables e below (s₁.setTop (mkF m 13 #[.val (.int 3)] [(.int 3)])) _
    refine X0.ldcInt hx hown (mvT hZ (Wd hw 128 rfl)) (g := (mkF m 13 #[.val (.int 3)] [(.int 3)])) rfl (hb hby d22_13) _ ?_
    show Steps p.tables e below (s₁.setTop (mkF m 15 #[.val (.int 3)] [(.int 1073741823), (.int 3)])) _
    refine XS.icmpYes X0.here hx rfl (pc0 := 15) (pc' := 55) rfl (hb hby d22_15) rfl (tlt (by decide : (3 : Int32) < (1073741823 : Int32))).1 (by decide) (by decide) ?_
    refine XS.iloadN X0.here hx rfl (hb hby d22_55) rfl ?_
    refine XS.iconst X0.here hx rfl (hb hby d22_56) ?_
    refine XS.ishl X0.here hx rfl (hb hby d22_57) rfl ?_
    show Steps p.tables e below (s₁.setTop (mkF m 58 #[.val (.int 3)] [(.int 6)])) _
    exact retI X0 hx Bd.returns (hb hby d22_58) hr
  · show Q_rmNbl3 n0 Z cS aRS aEM aUS aSS h0 _ s₁.heap _
    rw [e0]
    exact ⟨rfl, N0, rfl⟩
def Q_rmNbf3 (n0 : Nat) (Z : State) (cS : Int32) (aRS : Addr) (aEM : Addr) (aUS : Addr) (aSS : Addr) (h0 : Heap) (v : Option Value) (h : Heap) (L : List Loc) : Prop := ∃ b : Addr, ∃ kb : ClassId, v = some (.ref b) ∧ Fr n0 L ∧ Keep h0 h [] ∧ (h0.size ≤ b) ∧ (Exa Z h b "[B") ∧ (Arv Z h b kb .byte (6 : Int32) [(.int 0), (.int 0), (.int 0), (.int 0), (.int 0), (.int 0)] (.int 0))
set_option maxRecDepth 65536 in
set_option maxHeartbeats 40000000 in
theorem rmNbf3 (l : Launch) (Z : State) (a0 : Array Value) (hw : ∀ d ∈ tables_1, d.before a0 Z = true) (ws : List Jvm.Cond) (cS : Int32) (aRS : Addr) (aEM : Addr) (aUS : Addr) (aSS : Addr) (h0 : Heap) (n0 : Nat) (O0 : Old Z n0 h0) (GL : GF Z cS aRS aEM aUS aSS) :
    MetFree l MN_3 (head1 (Jvm.Cond.code MN_3 jdk_52_method_2_code 1 (some (.array .byte)) :: ws) ({ frames := 1, cells := 1, slots := 6, locals := 12 } : Room)) (fun a U => a = #[(.int 3)] ∧ Z.Warmed39 U.vm ∧ U.heap = h0) (fun _ _ _ _ _ => True) (fun _ U o U' => ∃ v L, o = .returned v ∧ Q_rmNbf3 n0 Z cS aRS aEM aUS aSS h0 v U'.heap L ∧ FrameEnd U o U' L ({ frames := 1, cells := 1, slots := 6, locals := 12 } : Room).cells ({ frames := 1, cells := 1, slots := 6, locals := 12 } : Room).slots) := by
  refine MetFree.of_bodySF (plainFor_of_name pn) hisR ?_
  intro p e s m args below meth c s₁ Bd hml0 hP hK
  obtain ⟨rfl, hZ, hh⟩ := hP
  have hx := Bd.exec
  have hby := Bd.bytes
  have hml : c.maxLocals = 1 := hml0
  have hown : s.vm.findClass "java/lang/StringUTF16" = some m.cls := findClass_of_methodNamed Bd.named
  have hnm := (name_of_methodNamed Bd.named Bd.method).1
  have X0 : Stand p l e ({ frames := 1, cells := 1, slots := 6, locals := 12 } : Room) s m #[(.int 3)] below meth c s₁ [] 0 0 := Stand.of_body Bd
  have e0 : s₁.heap = h0 := by rw [← hh, Bd.state]; rfl
  have N0 := Fr.nil n0
  have pre0 : ∀ t, Steps p.tables e below (s₁.setTop (mkF m 0 #[.val (.int 3)] [])) t → Steps p.tables e below (s₁.setTop (entryFrame m #[(.int 3)] 1)) t := fun t k => castTop (ef_rmNbl3 m ) k
  have GL' := GL
  obtain ⟨GCS, GCP, GSR, GSE, GEE, GFE, GSU, GSS, GA16, GHI, GLO⟩ := GL'
  obtain ⟨_, _, ⟨T1, L1, k1, n1⟩, -, X1, ⟨Lc1, hQ1, l1, y1, z1⟩, st1⟩ := Jvm.LawKit.callS X0 hx (y := MN_2) hown (mvT hZ (Wd hw 125 rfl)) (mvT hZ (Wd hw 126 rfl)) (mvT hZ (Wd hw 22 rfl)) (mvT hZ (Wd hw 127 rfl)) (by decide) (backOf (W := 0) (rmNbl3 l Z a0 hw [] cS aRS aEM aUS aSS  (h0) n0 O0 GL) hZ (Wd hw 127 rfl) (Wd hw 22 rfl) (by decide) (by decide)) (g := (mkF m 1 #[.val (.int 3)] [(.int 3)])) rfl (by rw [hml]; rfl) (argsL := [(.int 3)]) (rest := []) (lenOf pdv1 rfl) rfl (by show 2 * 0 + _ ≤ _; exact Nat.le_of_eq rfl) (hb hby d21_1) (fun _ _ => ⟨rfl, e0, (by decide : 0 + 0 ≤ _), (by decide : 0 + 0 ≤ _)⟩)
  dsimp only [Pt.U, Pt.locs, Pt.cells, Pt.slots] at X1 l1 y1 z1 st1 hQ1
  subst l1 y1 z1
  obtain ⟨rfl, N1q, e1⟩ := hQ1
  have N1 := Fr.app N0 N1q
  obtain ⟨T2, h2, k2, X2, e2, E2, A2, A2', st2⟩ := newPE X1 hx hZ (Wd hw 24 rfl) e1 (g := (mkF m 4 #[.val (.int 3)] [(.int 6)])) rfl (hb hby d21_4) rfl (by decide) (cap := 6) (by decide) (by decide) (by decide) (by decide) (ad := "[B") rfl
  obtain ⟨b2, g2⟩ : ∃ z, z = h0.size := ⟨_, rfl⟩
  rw [← g2] at A2 A2' st2
  have g_b2 : n0 ≤ b2 := Nat.le_trans (own_sz O0) (Nat.le_of_eq g2.symm)
  have sz_b2 : h0.size ≤ b2 := Nat.le_trans (Keep.refl h0 []).1 (Nat.le_of_eq g2.symm)
  have K2 : Keep h0 h2 [] := (Keep.refl h0 []).ext E2
  have O2 := O0.ext E2
  have V_b2 : Arv Z h2 b2 k2 .byte (6 : Int32) [(.int 0), (.int 0), (.int 0), (.int 0), (.int 0), (.int 0)] (.int 0) := (Arv.new A2 (by decide)).pad (pad_rep [] (.int 0) 6)
  obtain ⟨fs, hr, hrun, hended, hW, hsame⟩ := X2.leave (v := some (.ref b2)) (fun h => by rw [Bd.returns] at h; cases h)
  refine ⟨_, _, pre0 _ ?_, hrun, hended, _, _, rfl, ?_, ⟨_, rfl⟩, hW, hsame.mono (by decide) (by decide)⟩
  · show Steps p.tables e below (s₁.setTop (mkF m 0 #[.val (.int 3)] [])) _
    refine XS.iloadN X0.here hx rfl (hb hby d21_0) rfl ?_
    show Steps p.tables e below (s₁.setTop (mkF m 1 #[.val (.int 3)] [(.int 3)])) _
    refine st1 _ ?_
    show Steps p.tables e below (T1.setTop (mkF m 4 #[.val (.int 3)] [(.int 6)])) _
    refine st2 _ ?_
    show Steps p.tables e below (T2.setTop (mkF m 6 #[.val (.int 3)] [(.ref b2)])) _
    jvm_step X2.here [X2.here.top, hx, (hb hby d21_6), X2.method', Bd.returns, Value.isRef, FieldType.isReference]
    first | (intro acts; rw [hr _ acts rfl rfl rfl]) | rw [hr _ _ rfl rfl rfl]
    exact Steps.refl _
  · show Q_rmNbf3 n0 Z cS aRS aEM aUS aSS h0 _ T2.heap _
    rw [e2]
    exact ⟨b2, k2, rfl, N1, K2, sz_b2, A2', V_b2⟩
def Q_rmPc3_0 (n0 : Nat) (Z : State) (cS : Int32) (aRS : Addr) (aEM : Addr) (aUS : Addr) (aSS : Addr) (a0b : Addr) (c0 : Int32) (k0 : ClassId) (y0 : Int32) (y1 : Int32) (y2 : Int32) (y3 : Int32) (y4 : Int32) (y5 : Int32) (h0 : Heap) (v : Option Value) (h : Heap) (L : List Loc) : Prop := v = none ∧ Fr n0 L ∧ Keep h0 h [a0b] ∧ (Arv Z h a0b k0 .byte (6 : Int32) [(.int (c0.toInt8.toInt32)), (.int ((c0 >>> ((8 : Int32) &&& 31)).toInt8.toInt32)), (.int y2), (.int y3), (.int y4), (.int y5)] (.int 0))
set_option maxRecDepth 65536 in
set_option maxHeartbeats 40000000 in
theorem rmPc3_0 (l : Launch) (Z : State) (a0 : Array Value) (hw : ∀ d ∈ tables_1, d.before a0 Z = true) (ws : List Jvm.Cond) (cS : Int32) (aRS : Addr) (aEM : Addr) (aUS : Addr) (aSS : Addr) (a0b : Addr) (c0 : Int32) (k0 : ClassId) (y0 : Int32) (y1 : Int32) (y2 : Int32) (y3 : Int32) (y4 : Int32) (y5 : Int32) (h0 : Heap) (n0 : Nat) (O0 : Old Z n0 h0) (GL : GF Z cS aRS aEM aUS aSS) (V_a0b : Arv Z h0 a0b k0 .byte (6 : Int32) [(.int y0), (.int y1), (.int y2), (.int y3), (.int y4), (.int y5)] (.int 0)) (g_a0b : n0 ≤ a0b) :
    MetFree l MN_4 (head1 (Jvm.Cond.code MN_4 jdk_52_method_4_code 3 none :: ws) ({ frames := 0, cells := 0, slots := 0, locals := 0 } : Room)) (fun a U => a = #[(.ref a0b), (.int 0), (.int c0)] ∧ Z.Warmed39 U.vm ∧ U.heap = h0) (fun _ _ _ _ _ => True) (fun _ U o U' => ∃ v L, o = .returned v ∧ Q_rmPc3_0 n0 Z cS aRS aEM aUS aSS a0b c0 k0 y0 y1 y2 y3 y4 y5 h0 v U'.heap L ∧ FrameEnd U o U' L ({ frames := 0, cells := 0, slots := 0, locals := 0 } : Room).cells ({ frames := 0, cells := 0, slots := 0, locals := 0 } : Room).slots) := by
  refine MetFree.of_bodySF (plainFor_of_name pn) hisR ?_
  intro p e s m args below meth c s₁ Bd hml0 hP hK
  obtain ⟨rfl, hZ, hh⟩ := hP
  have hx := Bd.exec
  have hby := Bd.bytes
  have hml : c.maxLocals = 3 := hml0
  have hown : s.vm.findClass "java/lang/StringUTF16" = some m.cls := findClass_of_methodNamed Bd.named
  have hnm := (name_of_methodNamed Bd.named Bd.method).1
  have X0 : Stand p l e ({ frames := 0, cells := 0, slots := 0, locals := 0 } : Room) s m #[(.ref a0b), (.int 0), (.int c0)] below meth c s₁ [] 0 0 := Stand.of_body Bd
  have e0 : s₁.heap = h0 := by rw [← hh, Bd.state]; rfl
  have N0 := Fr.nil n0
  have pre0 : ∀ t, Steps p.tables e below (s₁.setTop (mkF m 0 #[.val (.ref a0b), .val (.int 0), .val (.int c0)] [])) t → Steps p.tables e below (s₁.setTop (entryFrame m #[(.ref a0b), (.int 0), (.int c0)] 3)) t := fun t k => castTop (ef_rmPc1_0 m a0b c0) k
  have GL' := GL
  obtain ⟨GCS, GCP, GSR, GSE, GEE, GFE, GSU, GSS, GA16, GHI, GLO⟩ := GL'
  obtain ⟨T1, X1, e1, st1⟩ := getS2 X0 hx hZ hown (host := "") (Or.inl (Wd hw 132 rfl)) Via.refl e0 (GA16.ext O0.2) (g := (mkF m 0 #[.val (.ref a0b), .val (.int 0), .val (.int c0)] [])) rfl (hb hby d23_0)
  obtain ⟨T2, X2, e2, st2⟩ := getS2 X1 hx hZ hown (host := "") (Or.inl (Wd hw 133 rfl)) Via.refl e1 (GHI.ext O0.2) (g := (mkF m 38 #[.val (.ref a0b), .val (.int 1), .val (.int c0)] [(.int c0), (.int 0), (.ref a0b)])) rfl (hb hby d23_38)
  obtain ⟨cl3, Ar3, q3, S3, N3_, H3, G3⟩ := id (V_a0b)
  have hin3 : ¬ ((0 : Int32) < 0 ∨ cl3.slots.size ≤ ((0 : Int32)).toNatClampNeg) := inb_of S3 ⟨(by decide), (by decide)⟩
  obtain ⟨T3, h3, X3, e3, W3, st3⟩ := stB X2 hx hZ e2 Ar3 (j := (0 : Int32)) hin3 (g := (mkF m 43 #[.val (.ref a0b), .val (.int 1), .val (.int c0)] [(.int (c0.toInt8.toInt32)), (.int 0), (.ref a0b)])) rfl rfl (hb hby d23_43)
  have K3 : Keep h0 h3 [a0b] := (Keep.refl h0 [a0b]).wr W3 (Or.inl (List.mem_of_getElem? (i := 0) rfl))
  have O3 := O0.wr W3 g_a0b
  have N3 := Fr.snoc X3 N0 g_a0b
  have V3' : Arv Z h3 a0b k0 .byte (6 : Int32) [(.int ((c0.toInt8.toInt32)).toInt8.toInt32), (.int y1), (.int y2), (.int y3), (.int y4), (.int y5)] (.int 0) := Arv.set Ar3 q3 S3 N3_ H3 G3 (fits_nar_byte _) W3 0 rfl (Nat.le_of_ble_eq_true rfl)
  have V3 : Arv Z h3 a0b k0 .byte (6 : Int32) [(.int (c0.toInt8.toInt32)), (.int y1), (.int y2), (.int y3), (.int y4), (.int y5)] (.int 0) := by
    rw [own_b2 c0] at V3'
    exact V3'
  obtain ⟨T4, X4, e4, st4⟩ := getS2 X3 hx hZ hown (host := "") (Or.inl (Wd hw 134 rfl)) Via.refl e3 (GLO.ext O3.2) (g := (mkF m 47 #[.val (.ref a0b), .val (.int 1), .val (.int c0)] [(.int c0), (.int 1), (.ref a0b)])) rfl (hb hby d23_47)
  obtain ⟨cl5, Ar5, q5, S5, N5_, H5, G5⟩ := id (V3)
  have hin5 : ¬ ((1 : Int32) < 0 ∨ cl5.slots.size ≤ ((1 : Int32)).toNatClampNeg) := inb_of S5 ⟨(by decide), (by decide)⟩
  obtain ⟨T5, h5, X5, e5, W5, st5⟩ := stB X4 hx hZ e4 Ar5 (j := (1 : Int32)) hin5 (g := (mkF m 52 #[.val (.ref a0b), .val (.int 1), .val (.int c0)] [(.int ((c0 >>> ((8 : Int32) &&& 31)).toInt8.toInt32)), (.int 1), (.ref a0b)])) rfl rfl (hb hby d23_52)
  have K5 : Keep h0 h5 [a0b] := K3.wr W5 (Or.inl (List.mem_of_getElem? (i := 0) rfl))
  have O5 := O3.wr W5 g_a0b
  have N5 := Fr.snoc X5 N3 g_a0b
  have V5' : Arv Z h5 a0b k0 .byte (6 : Int32) [(.int (c0.toInt8.toInt32)), (.int (((c0 >>> ((8 : Int32) &&& 31)).toInt8.toInt32)).toInt8.toInt32), (.int y2), (.int y3), (.int y4), (.int y5)] (.int 0) := Arv.set Ar5 q5 S5 N5_ H5 G5 (fits_nar_byte _) W5 1 rfl (Nat.le_of_ble_eq_true rfl)
  have V5 : Arv Z h5 a0b k0 .byte (6 : Int32) [(.int (c0.toInt8.toInt32)), (.int ((c0 >>> ((8 : Int32) &&& 31)).toInt8.toInt32)), (.int y2), (.int y3), (.int y4), (.int y5)] (.int 0) := by
    rw [own_b2 (c0 >>> ((8 : Int32) &&& 31))] at V5'
    exact V5'
  obtain ⟨fs, hr, hrun, hended, hW, hsame⟩ := X5.leave (v := none) (fun _ => rfl)
  refine ⟨_, _, pre0 _ ?_, hrun, hended, _, _, rfl, ?_, ⟨_, rfl⟩, hW, hsame.mono (by decide) (by decide)⟩
  · show Steps p.tables e below (s₁.setTop (mkF m 0 #[.val (.ref a0b), .val (.int 0), .val (.int c0)] [])) _
    refine st1 _ ?_
    show Steps p.tables e below (T1.setTop (mkF m 3 #[.val (.ref a0b), .val (.int 0), .val (.int c0)] [(.int 1)])) _
    refine XS.ifYes X1.here hx rfl (pc0 := 3) (pc' := 28) rfl (hb hby d23_3) rfl ((if0 _ _).trans (feq (by decide : ¬ ((1 : Int32) = (0 : Int32)))).2) (by decide) (by decide) ?_
    refine XS.iloadN X1.here hx rfl (hb hby d23_28) rfl ?_
    refine XS.iconst X1.here hx rfl (hb hby d23_29) ?_
    refine XS.ishl X1.here hx rfl (hb hby d23_30) rfl ?_
    show Steps p.tables e below (T1.setTop (mkF m 31 #[.val (.ref a0b), .val (.int 0), .val (.int c0)] [(.int 0)])) _
    refine XS.istoreN X1.here hx rfl (hb hby d23_31) rfl (l' := #[.val (.ref a0b), .val (.int 0), .val (.int c0)]) rfl ?_
    refine XS.aloadN X1.here hx rfl (hb hby d23_32) rfl rfl ?_
    refine XS.iloadN X1.here hx rfl (hb hby d23_33) rfl ?_
    refine XS.iinc X1.here hx rfl (hb hby d23_34) rfl (l' := #[.val (.ref a0b), .val (.int 1), .val (.int c0)]) rfl ?_
    show Steps p.tables e below (T1.setTop (mkF m 37 #[.val (.ref a0b), .val (.int 1), .val (.int c0)] [(.int 0), (.ref a0b)])) _
    refine XS.iloadN X1.here hx rfl (hb hby d23_37) rfl ?_
    show Steps p.tables e below (T1.setTop (mkF m 38 #[.val (.ref a0b), .val (.int 1), .val (.int c0)] [(.int c0), (.int 0), (.ref a0b)])) _
    refine st2 _ ?_
    show Steps p.tables e below (T2.setTop (mkF m 41 #[.val (.ref a0b), .val (.int 1), .val (.int c0)] [(.int 0), (.int c0), (.int 0), (.ref a0b)])) _
    refine XS.ishr X2.here hx rfl (hb hby d23_41) rfl ?_
    rw [own_shr0 c0]
    show Steps p.tables e below (T2.setTop (mkF m 42 #[.val (.ref a0b), .val (.int 1), .val (.int c0)] [(.int c0), (.int 0), (.ref a0b)])) _
    refine XS.i2b X2.here hx rfl (hb hby d23_42) rfl ?_
    show Steps p.tables e below (T2.setTop (mkF m 43 #[.val (.ref a0b), .val (.int 1), .val (.int c0)] [(.int (c0.toInt8.toInt32)), (.int 0), (.ref a0b)])) _
    refine st3 _ ?_
    show Steps p.tables e below (T3.setTop (mkF m 44 #[.val (.ref a0b), .val (.int 1), .val (.int c0)] [])) _
    refine XS.aloadN X3.here hx rfl (hb hby d23_44) rfl rfl ?_
    refine XS.iloadN X3.here hx rfl (hb hby d23_45) rfl ?_
    refine XS.iloadN X3.here hx rfl (hb hby d23_46) rfl ?_
    show Steps p.tables e below (T3.setTop (mkF m 47 #[.val (.ref a0b), .val (.int 1), .val (.int c0)] [(.int c0), (.int 1), (.ref a0b)])) _
    refine st4 _ ?_
    show Steps p.tables e below (T4.setTop (mkF m 50 #[.val (.ref a0b), .val (.int 1), .val (.int c0)] [(.int 8), (.int c0), (.int 1), (.ref a0b)])) _
    refine XS.ishr X4.here hx rfl (hb hby d23_50) rfl ?_
    refine XS.i2b X4.here hx rfl (hb hby d23_51) rfl ?_
    show Steps p.tables e below (T4.setTop (mkF m 52 #[.val (.ref a0b), .val (.int 1), .val (.int c0)] [(.int ((c0 >>> ((8 : Int32) &&& 31)).toInt8.toInt32)), (.int 1), (.ref a0b)])) _
    refine st5 _ ?_
    show Steps p.tables e below (T5.setTop (mkF m 53 #[.val (.ref a0b), .val (.int 1), .val (.int c0)] [])) _
    exact X5.returnOut hx Bd.returns (hb hby d23_53) hr
  · show Q_rmPc3_0 n0 Z cS aRS aEM aUS aSS a0b c0 k0 y0 y1 y2 y3 y4 y5 h0 _ T5.heap _
    rw [e5]
    exact ⟨rfl, N5, K5, V5⟩
def Q_rmPc3_1 (n0 : Nat) (Z : State) (cS : Int32) (aRS : Addr) (aEM : Addr) (aUS : Addr) (aSS : Addr) (a0b : Addr) (c0 : Int32) (k0 : ClassId) (y0 : Int32) (y1 : Int32) (y2 : Int32) (y3 : Int32) (y4 : Int32) (y5 : Int32) (h0 : Heap) (v : Option Value) (h : Heap) (L : List Loc) : Prop := v = none ∧ Fr n0 L ∧ Keep h0 h [a0b] ∧ (Arv Z h a0b k0 .byte (6 : Int32) [(.int y0), (.int y1), (.int (c0.toInt8.toInt32)), (.int ((c0 >>> ((8 : Int32) &&& 31)).toInt8.toInt32)), (.int y4), (.int y5)] (.int 0))
set_option maxRecDepth 65536 in
set_option maxHeartbeats 40000000 in
theorem rmPc3_1 (l : Launch) (Z : State) (a0 : Array Value) (hw : ∀ d ∈ tables_1, d.before a0 Z = true) (ws : List Jvm.Cond) (cS : Int32) (aRS : Addr) (aEM : Addr) (aUS : Addr) (aSS : Addr) (a0b : Addr) (c0 : Int32) (k0 : ClassId) (y0 : Int32) (y1 : Int32) (y2 : Int32) (y3 : Int32) (y4 : Int32) (y5 : Int32) (h0 : Heap) (n0 : Nat) (O0 : Old Z n0 h0) (GL : GF Z cS aRS aEM aUS aSS) (V_a0b : Arv Z h0 a0b k0 .byte (6 : Int32) [(.int y0), (.int y1), (.int y2), (.int y3), (.int y4), (.int y5)] (.int 0)) (g_a0b : n0 ≤ a0b) :
    MetFree l MN_4 (head1 (Jvm.Cond.code MN_4 jdk_52_method_4_code 3 none :: ws) ({ frames := 0, cells := 0, slots := 0, locals := 0 } : Room)) (fun a U => a = #[(.ref a0b), (.int 1), (.int c0)] ∧ Z.Warmed39 U.vm ∧ U.heap = h0) (fun _ _ _ _ _ => True) (fun _ U o U' => ∃ v L, o = .returned v ∧ Q_rmPc3_1 n0 Z cS aRS aEM aUS aSS a0b c0 k0 y0 y1 y2 y3 y4 y5 h0 v U'.heap L ∧ FrameEnd U o U' L ({ frames := 0, cells := 0, slots := 0, locals := 0 } : Room).cells ({ frames := 0, cells := 0, slots := 0, locals := 0 } : Room).slots) := by
  refine MetFree.of_bodySF (plainFor_of_name pn) hisR ?_
  intro p e s m args below meth c s₁ Bd hml0 hP hK
  obtain ⟨rfl, hZ, hh⟩ := hP
  have hx := Bd.exec
  have hby := Bd.bytes
  have hml : c.maxLocals = 3 := hml0
  have hown : s.vm.findClass "java/lang/StringUTF16" = some m.cls := findClass_of_methodNamed Bd.named
  have hnm := (name_of_methodNamed Bd.named Bd.method).1
  have X0 : Stand p l e ({ frames := 0, cells := 0, slots := 0, locals := 0 } : Room) s m #[(.ref a0b), (.int 1), (.int c0)] below meth c s₁ [] 0 0 := Stand.of_body Bd
  have e0 : s₁.heap = h0 := by rw [← hh, Bd.state]; rfl
  have N0 := Fr.nil n0
  have pre0 : ∀ t, Steps p.tables e below (s₁.setTop (mkF m 0 #[.val (.ref a0b), .val (.int 1), .val (.int c0)] [])) t → Steps p.tables e below (s₁.setTop (entryFrame m #[(.ref a0b), (.int 1), (.int c0)] 3)) t := fun t k => castTop (ef_rmPc2_1 m a0b c0) k
  have GL' := GL
  obtain ⟨GCS, GCP, GSR, GSE, GEE, GFE, GSU, GSS, GA16, GHI, GLO⟩ := GL'
  obtain ⟨T1, X1, e1, st1⟩ := getS2 X0 hx hZ hown (host := "") (Or.inl (Wd hw 132 rfl)) Via.refl e0 (GA16.ext O0.2) (g := (mkF m 0 #[.val (.ref a0b), .val (.int 1), .val (.int c0)] [])) rfl (hb hby d23_0)
  obtain ⟨T2, X2, e2, st2⟩ := getS2 X1 hx hZ hown (host := "") (Or.inl (Wd hw 133 rfl)) Via.refl e1 (GHI.ext O0.2) (g := (mkF m 38 #[.val (.ref a0b), .val (.int 3), .val (.int c0)] [(.int c0), (.int 2), (.ref a0b)])) rfl (hb hby d23_38)
  obtain ⟨cl3, Ar3, q3, S3, N3_, H3, G3⟩ := id (V_a0b)
  have hin3 : ¬ ((2 : Int32) < 0 ∨ cl3.slots.size ≤ ((2 : Int32)).toNatClampNeg) := inb_of S3 ⟨(by decide), (by decide)⟩
  obtain ⟨T3, h3, X3, e3, W3, st3⟩ := stB X2 hx hZ e2 Ar3 (j := (2 : Int32)) hin3 (g := (mkF m 43 #[.val (.ref a0b), .val (.int 3), .val (.int c0)] [(.int (c0.toInt8.toInt32)), (.int 2), (.ref a0b)])) rfl rfl (hb hby d23_43)
  have K3 : Keep h0 h3 [a0b] := (Keep.refl h0 [a0b]).wr W3 (Or.inl (List.mem_of_getElem? (i := 0) rfl))
  have O3 := O0.wr W3 g_a0b
  have N3 := Fr.snoc X3 N0 g_a0b
  have V3' : Arv Z h3 a0b k0 .byte (6 : Int32) [(.int y0), (.int y1), (.int ((c0.toInt8.toInt32)).toInt8.toInt32), (.int y3), (.int y4), (.int y5)] (.int 0) := Arv.set Ar3 q3 S3 N3_ H3 G3 (fits_nar_byte _) W3 2 rfl (Nat.le_of_ble_eq_true rfl)
  have V3 : Arv Z h3 a0b k0 .byte (6 : Int32) [(.int y0), (.int y1), (.int (c0.toInt8.toInt32)), (.int y3), (.int y4), (.int y5)] (.int 0) := by
    rw [own_b2 c0] at V3'
    exact V3'
  obtain ⟨T4, X4, e4, st4⟩ := getS2 X3 hx hZ hown (host := "") (Or.inl (Wd hw 134 rfl)) Via.refl e3 (GLO.ext O3.2) (g := (mkF m 47 #[.val (.ref a0b), .val (.int 3), .val (.int c0)] [(.int c0), (.int 3), (.ref a0b)])) rfl (hb hby d23_47)
  obtain ⟨cl5, Ar5, q5, S5, N5_, H5, G5⟩ := id (V3)
  have hin5 : ¬ ((3 : Int32) < 0 ∨ cl5.slots.size ≤ ((3 : Int32)).toNatClampNeg) := inb_of S5 ⟨(by decide), (by decide)⟩
  obtain ⟨T5, h5, X5, e5, W5, st5⟩ := stB X4 hx hZ e4 Ar5 (j := (3 : Int32)) hin5 (g := (mkF m 52 #[.val (.ref a0b), .val (.int 3), .val (.int c0)] [(.int ((c0 >>> ((8 : Int32) &&& 31)).toInt8.toInt32)), (.int 3), (.ref a0b)])) rfl rfl (hb hby d23_52)
  have K5 : Keep h0 h5 [a0b] := K3.wr W5 (Or.inl (List.mem_of_getElem? (i := 0) rfl))
  have O5 := O3.wr W5 g_a0b
  have N5 := Fr.snoc X5 N3 g_a0b
  have V5' : Arv Z h5 a0b k0 .byte (6 : Int32) [(.int y0), (.int y1), (.int (c0.toInt8.toInt32)), (.int (((c0 >>> ((8 : Int32) &&& 31)).toInt8.toInt32)).toInt8.toInt32), (.int y4), (.int y5)] (.int 0) := Arv.set Ar5 q5 S5 N5_ H5 G5 (fits_nar_byte _) W5 3 rfl (Nat.le_of_ble_eq_true rfl)
  have V5 : Arv Z h5 a0b k0 .byte (6 : Int32) [(.int y0), (.int y1), (.int (c0.toInt8.toInt32)), (.int ((c0 >>> ((8 : Int32) &&& 31)).toInt8.toInt32)), (.int y4), (.int y5)] (.int 0) := by
    rw [own_b2 (c0 >>> ((8 : Int32) &&& 31))] at V5'
    exact V5'
  obtain ⟨fs, hr, hrun, hended, hW, hsame⟩ := X5.leave (v := none) (fun _ => rfl)
  refine ⟨_, _, pre0 _ ?_, hrun, hended, _, _, rfl, ?_, ⟨_, rfl⟩, hW, hsame.mono (by decide) (by decide)⟩
  · show Steps p.tables e below (s₁.setTop (mkF m 0 #[.val (.ref a0b), .val (.int 1), .val (.int c0)] [])) _
    refine st1 _ ?_
    show Steps p.tables e below (T1.setTop (mkF m 3 #[.val (.ref a0b), .val (.int 1), .val (.int c0)] [(.int 1)])) _
    refine XS.ifYes X1.here hx rfl (pc0 := 3) (pc' := 28) rfl (hb hby d23_3) rfl ((if0 _ _).trans (feq (by decide : ¬ ((1 : Int32) = (0 : Int32)))).2) (by decide) (by decide) ?_
    refine XS.iloadN X1.here hx rfl (hb hby d23_28) rfl ?_
    refine XS.iconst X1.here hx rfl (hb hby d23_29) ?_
    refine XS.ishl X1.here hx rfl (hb hby d23_30) rfl ?_
    show Steps p.tables e below (T1.setTop (mkF m 31 #[.val (.ref a0b), .val (.int 1), .val (.int c0)] [(.int 2)])) _
    refine XS.istoreN X1.here hx rfl (hb hby d23_31) rfl (l' := #[.val (.ref a0b), .val (.int 2), .val (.int c0)]) rfl ?_
    refine XS.aloadN X1.here hx rfl (hb hby d23_32) rfl rfl ?_
    refine XS.iloadN X1.here hx rfl (hb hby d23_33) rfl ?_
    refine XS.iinc X1.here hx rfl (hb hby d23_34) rfl (l' := #[.val (.ref a0b), .val (.int 3), .val (.int c0)]) rfl ?_
    show Steps p.tables e below (T1.setTop (mkF m 37 #[.val (.ref a0b), .val (.int 3), .val (.int c0)] [(.int 2), (.ref a0b)])) _
    refine XS.iloadN X1.here hx rfl (hb hby d23_37) rfl ?_
    show Steps p.tables e below (T1.setTop (mkF m 38 #[.val (.ref a0b), .val (.int 3), .val (.int c0)] [(.int c0), (.int 2), (.ref a0b)])) _
    refine st2 _ ?_
    show Steps p.tables e below (T2.setTop (mkF m 41 #[.val (.ref a0b), .val (.int 3), .val (.int c0)] [(.int 0), (.int c0), (.int 2), (.ref a0b)])) _
    refine XS.ishr X2.here hx rfl (hb hby d23_41) rfl ?_
    rw [own_shr0 c0]
    show Steps p.tables e below (T2.setTop (mkF m 42 #[.val (.ref a0b), .val (.int 3), .val (.int c0)] [(.int c0), (.int 2), (.ref a0b)])) _
    refine XS.i2b X2.here hx rfl (hb hby d23_42) rfl ?_
    show Steps p.tables e below (T2.setTop (mkF m 43 #[.val (.ref a0b), .val (.int 3), .val (.int c0)] [(.int (c0.toInt8.toInt32)), (.int 2), (.ref a0b)])) _
    refine st3 _ ?_
    show Steps p.tables e below (T3.setTop (mkF m 44 #[.val (.ref a0b), .val (.int 3), .val (.int c0)] [])) _
    refine XS.aloadN X3.here hx rfl (hb hby d23_44) rfl rfl ?_
    refine XS.iloadN X3.here hx rfl (hb hby d23_45) rfl ?_
    refine XS.iloadN X3.here hx rfl (hb hby d23_46) rfl ?_
    show Steps p.tables e below (T3.setTop (mkF m 47 #[.val (.ref a0b), .val (.int 3), .val (.int c0)] [(.int c0), (.int 3), (.ref a0b)])) _
    refine st4 _ ?_
    show Steps p.tables e below (T4.setTop (mkF m 50 #[.val (.ref a0b), .val (.int 3), .val (.int c0)] [(.int 8), (.int c0), (.int 3), (.ref a0b)])) _
    refine XS.ishr X4.here hx rfl (hb hby d23_50) rfl ?_
    refine XS.i2b X4.here hx rfl (hb hby d23_51) rfl ?_
    show Steps p.tables e below (T4.setTop (mkF m 52 #[.val (.ref a0b), .val (.int 3), .val (.int c0)] [(.int ((c0 >>> ((8 : Int32) &&& 31)).toInt8.toInt32)), (.int 3), (.ref a0b)])) _
    refine st5 _ ?_
    show Steps p.tables e below (T5.setTop (mkF m 53 #[.val (.ref a0b), .val (.int 3), .val (.int c0)] [])) _
    exact X5.returnOut hx Bd.returns (hb hby d23_53) hr
  · show Q_rmPc3_1 n0 Z cS aRS aEM aUS aSS a0b c0 k0 y0 y1 y2 y3 y4 y5 h0 _ T5.heap _
    rw [e5]
    exact ⟨rfl, N5, K5, V5⟩
theorem ef_rmPc3_2 (m : MethodId) (a0b : Addr) (c0 : Int32) : entryFrame m #[(.ref a0b), (.int 2), (.int c0)] 3 = mkF m 0 #[.val (.ref a0b), .val (.int 2), .val (.int c0)] [] := by first | (simp [entryFrame, mkF, argsToLocals, Value.category]; done) | rfl
def Q_rmPc3_2 (n0 : Nat) (Z : State) (cS : Int32) (aRS : Addr) (aEM : Addr) (aUS : Addr) (aSS : Addr) (a0b : Addr) (c0 : Int32) (k0 : ClassId) (y0 : Int32) (y1 : Int32) (y2 : Int32) (y3 : Int32) (y4 : Int32) (y5 : Int32) (h0 : Heap) (v : Option Value) (h : Heap) (L : List Loc) : Prop := v = none ∧ Fr n0 L ∧ Keep h0 h [a0b] ∧ (Arv Z h a0b k0 .byte (6 : Int32) [(.int y0), (.int y1), (.int y2), (.int y3), (.int (c0.toInt8.toInt32)), (.int ((c0 >>> ((8 : Int32) &&& 31)).toInt8.toInt32))] (.int 0))
set_option maxRecDepth 65536 in
set_option maxHeartbeats 40000000 in
theorem rmPc3_2 (l : Launch) (Z : State) (a0 : Array Value) (hw : ∀ d ∈ tables_1, d.before a0 Z = true) (ws : List Jvm.Cond) (cS : Int32) (aRS : Addr) (aEM : Addr) (aUS : Addr) (aSS : Addr) (a0b : Addr) (c0 : Int32) (k0 : ClassId) (y0 : Int32) (y1 : Int32) (y2 : Int32) (y3 : Int32) (y4 : Int32) (y5 : Int32) (h0 : Heap) (n0 : Nat) (O0 : Old Z n0 h0) (GL : GF Z cS aRS aEM aUS aSS) (V_a0b : Arv Z h0 a0b k0 .byte (6 : Int32) [(.int y0), (.int y1), (.int y2), (.int y3), (.int y4), (.int y5)] (.int 0)) (g_a0b : n0 ≤ a0b) :
    MetFree l MN_4 (head1 (Jvm.Cond.code MN_4 jdk_52_method_4_code 3 none :: ws) ({ frames := 0, cells := 0, slots := 0, locals := 0 } : Room)) (fun a U => a = #[(.ref a0b), (.int 2), (.int c0)] ∧ Z.Warmed39 U.vm ∧ U.heap = h0) (fun _ _ _ _ _ => True) (fun _ U o U' => ∃ v L, o = .returned v ∧ Q_rmPc3_2 n0 Z cS aRS aEM aUS aSS a0b c0 k0 y0 y1 y2 y3 y4 y5 h0 v U'.heap L ∧ FrameEnd U o U' L ({ frames := 0, cells := 0, slots := 0, locals := 0 } : Room).cells ({ frames := 0, cells := 0, slots := 0, locals := 0 } : Room).slots) := by
  refine MetFree.of_bodySF (plainFor_of_name pn) hisR ?_
  intro p e s m args below meth c s₁ Bd hml0 hP hK
  obtain ⟨rfl, hZ, hh⟩ := hP
  have hx := Bd.exec
  have hby := Bd.bytes
  have hml : c.maxLocals = 3 := hml0
  have hown : s.vm.findClass "java/lang/StringUTF16" = some m.cls := findClass_of_methodNamed Bd.named
  have hnm := (name_of_methodNamed Bd.named Bd.method).1
  have X0 : Stand p l e ({ frames := 0, cells := 0, slots := 0, locals := 0 } : Room) s m #[(.ref a0b), (.int 2), (.int c0)] below meth c s₁ [] 0 0 := Stand.of_body Bd
  have e0 : s₁.heap = h0 := by rw [← hh, Bd.state]; rfl
  have N0 := Fr.nil n0
  have pre0 : ∀ t, Steps p.tables e below (s₁.setTop (mkF m 0 #[.val (.ref a0b), .val (.int 2), .val (.int c0)] [])) t → Steps p.tables e below (s₁.setTop (entryFrame m #[(.ref a0b), (.int 2), (.int c0)] 3)) t := fun t k => castTop (ef_rmPc3_2 m a0b c0) k
  have GL' := GL
  obtain ⟨GCS, GCP, GSR, GSE, GEE, GFE, GSU, GSS, GA16, GHI, GLO⟩ := GL'
  obtain ⟨T1, X1, e1, st1⟩ := getS2 X0 hx hZ hown (host := "") (Or.inl (Wd hw 132 rfl)) Via.refl e0 (GA16.ext O0.2) (g := (mkF m 0 #[.val (.ref a0b), .val (.int 2), .val (.int c0)] [])) rfl (hb hby d23_0)
  obtain ⟨T2, X2, e2, st2⟩ := getS2 X1 hx hZ hown (host := "") (Or.inl (Wd hw 133 rfl)) Via.refl e1 (GHI.ext O0.2) (g := (mkF m 38 #[.val (.ref a0b), .val (.int 5), .val (.int c0)] [(.int c0), (.int 4), (.ref a0b)])) rfl (hb hby d23_38)
  obtain ⟨cl3, Ar3, q3, S3, N3_, H3, G3⟩ := id (V_a0b)
  have hin3 : ¬ ((4 : Int32) < 0 ∨ cl3.slots.size ≤ ((4 : Int32)).toNatClampNeg) := inb_of S3 ⟨(by decide), (by decide)⟩
  obtain ⟨T3, h3, X3, e3, W3, st3⟩ := stB X2 hx hZ e2 Ar3 (j := (4 : Int32)) hin3 (g := (mkF m 43 #[.val (.ref a0b), .val (.int 5), .val (.int c0)] [(.int (c0.toInt8.toInt32)), (.int 4), (.ref a0b)])) rfl rfl (hb hby d23_43)
  have K3 : Keep h0 h3 [a0b] := (Keep.refl h0 [a0b]).wr W3 (Or.inl (List.mem_of_getElem? (i := 0) rfl))
  have O3 := O0.wr W3 g_a0b
  have N3 := Fr.snoc X3 N0 g_a0b
  have V3' : Arv Z h3 a0b k0 .byte (6 : Int32) [(.int y0), (.int y1), (.int y2), (.int y3), (.int ((c0.toInt8.toInt32)).toInt8.toInt32), (.int y5)] (.int 0) := Arv.set Ar3 q3 S3 N3_ H3 G3 (fits_nar_byte _) W3 4 rfl (Nat.le_of_ble_eq_true rfl)
  have V3 : Arv Z h3 a0b k0 .byte (6 : Int32) [(.int y0), (.int y1), (.int y2), (.int y3), (.int (c0.toInt8.toInt32)), (.int y5)] (.int 0) := by
    rw [own_b2 c0] at V3'
    exact V3'
  obtain ⟨T4, X4, e4, st4⟩ := getS2 X3 hx hZ hown (host := "") (Or.inl (Wd hw 134 rfl)) Via.refl e3 (GLO.ext O3.2) (g := (mkF m 47 #[.val (.ref a0b), .val (.int 5), .val (.int c0)] [(.int c0), (.int 5), (.ref a0b)])) rfl (hb hby d23_47)
  obtain ⟨cl5, Ar5, q5, S5, N5_, H5, G5⟩ := id (V3)
  have hin5 : ¬ ((5 : Int32) < 0 ∨ cl5.slots.size ≤ ((5 : Int32)).toNatClampNeg) := inb_of S5 ⟨(by decide), (by decide)⟩
  obtain ⟨T5, h5, X5, e5, W5, st5⟩ := stB X4 hx hZ e4 Ar5 (j := (5 : Int32)) hin5 (g := (mkF m 52 #[.val (.ref a0b), .val (.int 5), .val (.int c0)] [(.int ((c0 >>> ((8 : Int32) &&& 31)).toInt8.toInt32)), (.int 5), (.ref a0b)])) rfl rfl (hb hby d23_52)
  have K5 : Keep h0 h5 [a0b] := K3.wr W5 (Or.inl (List.mem_of_getElem? (i := 0) rfl))
  have O5 := O3.wr W5 g_a0b
  have N5 := Fr.snoc X5 N3 g_a0b
  have V5' : Arv Z h5 a0b k0 .byte (6 : Int32) [(.int y0), (.int y1), (.int y2), (.int y3), (.int (c0.toInt8.toInt32)), (.int (((c0 >>> ((8 : Int32) &&& 31)).toInt8.toInt32)).toInt8.toInt32)] (.int 0) := Arv.set Ar5 q5 S5 N5_ H5 G5 (fits_nar_byte _) W5 5 rfl (Nat.le_of_ble_eq_true rfl)
  have V5 : Arv Z h5 a0b k0 .byte (6 : Int32) [(.int y0), (.int y1), (.int y2), (.int y3), (.int (c0.toInt8.toInt32)), (.int ((c0 >>> ((8 : Int32) &&& 31)).toInt8.toInt32))] (.int 0) := by
    rw [own_b2 (c0 >>> ((8 : Int32) &&& 31))] at V5'
    exact V5'
  obtain ⟨fs, hr, hrun, hended, hW, hsame⟩ := X5.leave (v := none) (fun _ => rfl)
  refine ⟨_, _, pre0 _ ?_, hrun, hended, _, _, rfl, ?_, ⟨_, rfl⟩, hW, hsame.mono (by decide) (by decide)⟩
  · show Steps p.tables e below (s₁.setTop (mkF m 0 #[.val (.ref a0b), .val (.int 2), .val (.int c0)] [])) _
    refine st1 _ ?_
    show Steps p.tables e below (T1.setTop (mkF m 3 #[.val (.ref a0b), .val (.int 2), .val (.int c0)] [(.int 1)])) _
    refine XS.ifYes X1.here hx rfl (pc0 := 3) (pc' := 28) rfl (hb hby d23_3) rfl ((if0 _ _).trans (feq (by decide : ¬ ((1 : Int32) = (0 : Int32)))).2) (by decide) (by decide) ?_
    refine XS.iloadN X1.here hx rfl (hb hby d23_28) rfl ?_
    refine XS.iconst X1.here hx rfl (hb hby d23_29) ?_
    refine XS.ishl X1.here hx rfl (hb hby d23_30) rfl ?_
    show Steps p.tables e below (T1.setTop (mkF m 31 #[.val (.ref a0b), .val (.int 2), .val (.int c0)] [(.int 4)])) _
    refine XS.istoreN X1.here hx rfl (hb hby d23_31) rfl (l' := #[.val (.ref a0b), .val (.int 4), .val (.int c0)]) rfl ?_
    refine XS.aloadN X1.here hx rfl (hb hby d23_32) rfl rfl ?_
    refine XS.iloadN X1.here hx rfl (hb hby d23_33) rfl ?_
    refine XS.iinc X1.here hx rfl (hb hby d23_34) rfl (l' := #[.val (.ref a0b), .val (.int 5), .val (.int c0)]) rfl ?_
    show Steps p.tables e below (T1.setTop (mkF m 37 #[.val (.ref a0b), .val (.int 5), .val (.int c0)] [(.int 4), (.ref a0b)])) _
    refine XS.iloadN X1.here hx rfl (hb hby d23_37) rfl ?_
    show Steps p.tables e below (T1.setTop (mkF m 38 #[.val (.ref a0b), .val (.int 5), .val (.int c0)] [(.int c0), (.int 4), (.ref a0b)])) _
    refine st2 _ ?_
    show Steps p.tables e below (T2.setTop (mkF m 41 #[.val (.ref a0b), .val (.int 5), .val (.int c0)] [(.int 0), (.int c0), (.int 4), (.ref a0b)])) _
    refine XS.ishr X2.here hx rfl (hb hby d23_41) rfl ?_
    rw [own_shr0 c0]
    show Steps p.tables e below (T2.setTop (mkF m 42 #[.val (.ref a0b), .val (.int 5), .val (.int c0)] [(.int c0), (.int 4), (.ref a0b)])) _
    refine XS.i2b X2.here hx rfl (hb hby d23_42) rfl ?_
    show Steps p.tables e below (T2.setTop (mkF m 43 #[.val (.ref a0b), .val (.int 5), .val (.int c0)] [(.int (c0.toInt8.toInt32)), (.int 4), (.ref a0b)])) _
    refine st3 _ ?_
    show Steps p.tables e below (T3.setTop (mkF m 44 #[.val (.ref a0b), .val (.int 5), .val (.int c0)] [])) _
    refine XS.aloadN X3.here hx rfl (hb hby d23_44) rfl rfl ?_
    refine XS.iloadN X3.here hx rfl (hb hby d23_45) rfl ?_
    refine XS.iloadN X3.here hx rfl (hb hby d23_46) rfl ?_
    show Steps p.tables e below (T3.setTop (mkF m 47 #[.val (.ref a0b), .val (.int 5), .val (.int c0)] [(.int c0), (.int 5), (.ref a0b)])) _
    refine st4 _ ?_
    show Steps p.tables e below (T4.setTop (mkF m 50 #[.val (.ref a0b), .val (.int 5), .val (.int c0)] [(.int 8), (.int c0), (.int 5), (.ref a0b)])) _
    refine XS.ishr X4.here hx rfl (hb hby d23_50) rfl ?_
    refine XS.i2b X4.here hx rfl (hb hby d23_51) rfl ?_
    show Steps p.tables e below (T4.setTop (mkF m 52 #[.val (.ref a0b), .val (.int 5), .val (.int c0)] [(.int ((c0 >>> ((8 : Int32) &&& 31)).toInt8.toInt32)), (.int 5), (.ref a0b)])) _
    refine st5 _ ?_
    show Steps p.tables e below (T5.setTop (mkF m 53 #[.val (.ref a0b), .val (.int 5), .val (.int c0)] [])) _
    exact X5.returnOut hx Bd.returns (hb hby d23_53) hr
  · show Q_rmPc3_2 n0 Z cS aRS aEM aUS aSS a0b c0 k0 y0 y1 y2 y3 y4 y5 h0 _ T5.heap _
    rw [e5]
    exact ⟨rfl, N5, K5, V5⟩
theorem ef_rmTb3 (m : MethodId) (a0c : Addr) : entryFrame m #[(.ref a0c), (.int 0), (.int 3)] 5 = mkF m 0 #[.val (.ref a0c), .val (.int 0), .val (.int 3), .unset, .unset] [] := by first | (simp [entryFrame, mkF, argsToLocals, Value.category]; done) | rfl
def Q_rmTb3 (n0 : Nat) (Z : State) (cS : Int32) (aRS : Addr) (aEM : Addr) (aUS : Addr) (aSS : Addr) (a0c : Addr) (k0 : ClassId) (c0 : Int32) (c1 : Int32) (c2 : Int32) (h0 : Heap) (v : Option Value) (h : Heap) (L : List Loc) : Prop := ∃ b : Addr, ∃ kb : ClassId, v = some (.ref b) ∧ Fr n0 L ∧ Keep h0 h [] ∧ (h0.size ≤ b) ∧ (Exa Z h b "[B") ∧ (Arv Z h b kb .byte (6 : Int32) [(.int (c0.toInt8.toInt32)), (.int ((c0 >>> ((8 : Int32) &&& 31)).toInt8.toInt32)), (.int (c1.toInt8.toInt32)), (.int ((c1 >>> ((8 : Int32) &&& 31)).toInt8.toInt32)), (.int (c2.toInt8.toInt32)), (.int ((c2 >>> ((8 : Int32) &&& 31)).toInt8.toInt32))] (.int 0))
set_option maxRecDepth 65536 in
set_option maxHeartbeats 40000000 in
theorem rmTb3 (l : Launch) (Z : State) (a0 : Array Value) (hw : ∀ d ∈ tables_1, d.before a0 Z = true) (ws : List Jvm.Cond) (cS : Int32) (aRS : Addr) (aEM : Addr) (aUS : Addr) (aSS : Addr) (a0c : Addr) (k0 : ClassId) (c0 : Int32) (c1 : Int32) (c2 : Int32) (h0 : Heap) (n0 : Nat) (O0 : Old Z n0 h0) (GL : GF Z cS aRS aEM aUS aSS) (V_a0c : Arv Z h0 a0c k0 .char (3 : Int32) [(.int c0), (.int c1), (.int c2)] (.int 0)) :
    MetFree l MN_5 (head1 (Jvm.Cond.code MN_5 jdk_52_method_14_code 5 (some (.array .byte)) :: ws) ({ frames := 2, cells := 1, slots := 6, locals := 24 } : Room)) (fun a U => a = #[(.ref a0c), (.int 0), (.int 3)] ∧ Z.Warmed39 U.vm ∧ U.heap = h0) (fun _ _ _ _ _ => True) (fun _ U o U' => ∃ v L, o = .returned v ∧ Q_rmTb3 n0 Z cS aRS aEM aUS aSS a0c k0 c0 c1 c2 h0 v U'.heap L ∧ FrameEnd U o U' L ({ frames := 2, cells := 1, slots := 6, locals := 24 } : Room).cells ({ frames := 2, cells := 1, slots := 6, locals := 24 } : Room).slots) := by
  refine MetFree.of_bodySF (plainFor_of_name pn) hisR ?_
  intro p e s m args below meth c s₁ Bd hml0 hP hK
  obtain ⟨rfl, hZ, hh⟩ := hP
  have hx := Bd.exec
  have hby := Bd.bytes
  have hml : c.maxLocals = 5 := hml0
  have hown : s.vm.findClass "java/lang/StringUTF16" = some m.cls := findClass_of_methodNamed Bd.named
  have hnm := (name_of_methodNamed Bd.named Bd.method).1
  have X0 : Stand p l e ({ frames := 2, cells := 1, slots := 6, locals := 24 } : Room) s m #[(.ref a0c), (.int 0), (.int 3)] below meth c s₁ [] 0 0 := Stand.of_body Bd
  have e0 : s₁.heap = h0 := by rw [← hh, Bd.state]; rfl
  have N0 := Fr.nil n0
  have pre0 : ∀ t, Steps p.tables e below (s₁.setTop (mkF m 0 #[.val (.ref a0c), .val (.int 0), .val (.int 3), .unset, .unset] [])) t → Steps p.tables e below (s₁.setTop (entryFrame m #[(.ref a0c), (.int 0), (.int 3)] 5)) t := fun t k => castTop (ef_rmTb3 m a0c) k
  have GL' := GL
  obtain ⟨GCS, GCP, GSR, GSE, GEE, GFE, GSU, GSS, GA16, GHI, GLO⟩ := GL'
  obtain ⟨_, _, ⟨T1, L1, k1, n1⟩, -, X1, ⟨Lc1, hQ1, l1, y1, z1⟩, st1⟩ := Jvm.LawKit.callS X0 hx (y := MN_3) hown (mvT hZ (Wd hw 122 rfl)) (mvT hZ (Wd hw 123 rfl)) (mvT hZ (Wd hw 22 rfl)) (mvT hZ (Wd hw 124 rfl)) (by decide) (backOf (W := 0) (rmNbf3 l Z a0 hw [] cS aRS aEM aUS aSS  (h0) n0 O0 GL) hZ (Wd hw 124 rfl) (Wd hw 22 rfl) (by decide) (by decide)) (g := (mkF m 1 #[.val (.ref a0c), .val (.int 0), .val (.int 3), .unset, .unset] [(.int 3)])) rfl (by rw [hml]; rfl) (argsL := [(.int 3)]) (rest := []) (lenOf pdv2 rfl) rfl (by show 2 * 0 + _ ≤ _; exact Nat.le_of_eq rfl) (hb hby d20_1) (fun _ _ => ⟨rfl, e0, (by decide : 0 + 1 ≤ _), (by decide : 0 + 6 ≤ _)⟩)
  dsimp only [Pt.U, Pt.locs, Pt.cells, Pt.slots] at X1 l1 y1 z1 st1 hQ1
  subst l1 y1 z1
  obtain ⟨b_1, kb_1, rfl, N1q, Kc1, P1_0, P1_1, P1_2⟩ := hQ1
  have K1 : Keep h0 T1.heap [] := (Keep.refl h0 []).trans Kc1 all0
  have O1 := O0.keep Kc1 all0
  have g_b_1 : n0 ≤ b_1 := Nat.le_trans (own_sz O0) P1_0
  have sz_b_1 : h0.size ≤ b_1 := Nat.le_trans (Keep.refl h0 []).1 P1_0
  have N1 := Fr.app N0 N1q
  obtain ⟨cl2, Ar2, -, S2, N2_, H2, G2⟩ := id ((V_a0c.keep Kc1 nin0))
  have hin2 : ¬ ((0 : Int32) < 0 ∨ cl2.slots.size ≤ ((0 : Int32)).toNatClampNeg) := inb_of S2 ⟨(by decide), (by decide)⟩
  have hat2 : cl2.slots[((0 : Int32)).toNatClampNeg]? = some (.int c0) := H2.at hin2 rfl
  obtain ⟨_, _, ⟨T3, L3, k3, n3⟩, -, X3, ⟨Lc3, hQ3, l3, y3, z3⟩, st3⟩ := Jvm.LawKit.callS X1 hx (y := MN_4) hown (mvT hZ (Wd hw 129 rfl)) (mvT hZ (Wd hw 130 rfl)) (mvT hZ (Wd hw 22 rfl)) (mvT hZ (Wd hw 131 rfl)) (by decide) (backOf (W := 0) (rmPc3_0 l Z a0 hw [] cS aRS aEM aUS aSS (b_1) (c0) (kb_1) ((0 : Int32)) ((0 : Int32)) ((0 : Int32)) ((0 : Int32)) ((0 : Int32)) ((0 : Int32)) (T1.heap) n0 O1 GL P1_2 g_b_1) hZ (Wd hw 131 rfl) (Wd hw 22 rfl) (by decide) (by decide)) (g := (mkF m 20 #[.val (.ref a0c), .val (.int 0), .val (.int 3), .val (.ref b_1), .val (.int 0)] [(.int c0), (.int 0), (.ref b_1)])) rfl (by rw [hml]; rfl) (argsL := [(.ref b_1), (.int 0), (.int c0)]) (rest := []) (lenOf pdv3 rfl) rfl (by show 2 * 0 + _ ≤ _; exact Nat.le_of_eq rfl) (hb hby d20_20) (fun _ _ => ⟨rfl, rfl, (by decide : 1 + 0 ≤ _), (by decide : 6 + 0 ≤ _)⟩)
  dsimp only [Pt.U, Pt.locs, Pt.cells, Pt.slots] at X3 l3 y3 z3 st3 hQ3
  subst l3 y3 z3
  obtain ⟨rfl, N3q, Kc3, P3_0⟩ := hQ3
  have K3 : Keep h0 T3.heap [] := K1.trans Kc3 (allS (Or.inr sz_b_1) all0)
  have O3 := O1.keep Kc3 (allS g_b_1 all0)
  have N3 := Fr.app N1 N3q
  obtain ⟨cl4, Ar4, -, S4, N4_, H4, G4⟩ := id (((V_a0c.keep Kc1 nin0).keep Kc3 (ninS (Nat.ne_of_lt (Nat.lt_of_lt_of_le V_a0c.lt P1_0)) nin0)))
  have hin4 : ¬ ((1 : Int32) < 0 ∨ cl4.slots.size ≤ ((1 : Int32)).toNatClampNeg) := inb_of S4 ⟨(by decide), (by decide)⟩
  have hat4 : cl4.slots[((1 : Int32)).toNatClampNeg]? = some (.int c1) := H4.at hin4 rfl
  obtain ⟨_, _, ⟨T5, L5, k5, n5⟩, -, X5, ⟨Lc5, hQ5, l5, y5, z5⟩, st5⟩ := Jvm.LawKit.callS X3 hx (y := MN_4) hown (mvT hZ (Wd hw 129 rfl)) (mvT hZ (Wd hw 130 rfl)) (mvT hZ (Wd hw 22 rfl)) (mvT hZ (Wd hw 131 rfl)) (by decide) (backOf (W := 0) (rmPc3_1 l Z a0 hw [] cS aRS aEM aUS aSS (b_1) (c1) (kb_1) ((c0.toInt8.toInt32)) (((c0 >>> ((8 : Int32) &&& 31)).toInt8.toInt32)) ((0 : Int32)) ((0 : Int32)) ((0 : Int32)) ((0 : Int32)) (T3.heap) n0 O3 GL P3_0 g_b_1) hZ (Wd hw 131 rfl) (Wd hw 22 rfl) (by decide) (by decide)) (g := (mkF m 20 #[.val (.ref a0c), .val (.int 1), .val (.int 3), .val (.ref b_1), .val (.int 1)] [(.int c1), (.int 1), (.ref b_1)])) rfl (by rw [hml]; rfl) (argsL := [(.ref b_1), (.int 1), (.int c1)]) (rest := []) (lenOf pdv3 rfl) rfl (by show 2 * 0 + _ ≤ _; exact Nat.le_of_eq rfl) (hb hby d20_20) (fun _ _ => ⟨rfl, rfl, (by decide : 1 + 0 ≤ _), (by decide : 6 + 0 ≤ _)⟩)
  dsimp only [Pt.U, Pt.locs, Pt.cells, Pt.slots] at X5 l5 y5 z5 st5 hQ5
  subst l5 y5 z5
  obtain ⟨rfl, N5q, Kc5, P5_0⟩ := hQ5
  have K5 : Keep h0 T5.heap [] := K3.trans Kc5 (allS (Or.inr sz_b_1) all0)
  have O5 := O3.keep Kc5 (allS g_b_1 all0)
  have N5 := Fr.app N3 N5q
  obtain ⟨cl6, Ar6, -, S6, N6_, H6, G6⟩ := id ((((V_a0c.keep Kc1 nin0).keep Kc3 (ninS (Nat.ne_of_lt (Nat.lt_of_lt_of_le V_a0c.lt P1_0)) nin0)).keep Kc5 (ninS (Nat.ne_of_lt (Nat.lt_of_lt_of_le V_a0c.lt P1_0)) nin0)))
  have hin6 : ¬ ((2 : Int32) < 0 ∨ cl6.slots.size ≤ ((2 : Int32)).toNatClampNeg) := inb_of S6 ⟨(by decide), (by decide)⟩
  have hat6 : cl6.slots[((2 : Int32)).toNatClampNeg]? = some (.int c2) := H6.at hin6 rfl
  obtain ⟨_, _, ⟨T7, L7, k7, n7⟩, -, X7, ⟨Lc7, hQ7, l7, y7, z7⟩, st7⟩ := Jvm.LawKit.callS X5 hx (y := MN_4) hown (mvT hZ (Wd hw 129 rfl)) (mvT hZ (Wd hw 130 rfl)) (mvT hZ (Wd hw 22 rfl)) (mvT hZ (Wd hw 131 rfl)) (by decide) (backOf (W := 0) (rmPc3_2 l Z a0 hw [] cS aRS aEM aUS aSS (b_1) (c2) (kb_1) ((c0.toInt8.toInt32)) (((c0 >>> ((8 : Int32) &&& 31)).toInt8.toInt32)) ((c1.toInt8.toInt32)) (((c1 >>> ((8 : Int32) &&& 31)).toInt8.toInt32)) ((0 : Int32)) ((0 : Int32)) (T5.heap) n0 O5 GL P5_0 g_b_1) hZ (Wd hw 131 rfl) (Wd hw 22 rfl) (by decide) (by decide)) (g := (mkF m 20 #[.val (.ref a0c), .val (.int 2), .val (.int 3), .val (.ref b_1), .val (.int 2)] [(.int c2), (.int 2), (.ref b_1)])) rfl (by rw [hml]; rfl) (argsL := [(.ref b_1), (.int 2), (.int c2)]) (rest := []) (lenOf pdv3 rfl) rfl (by show 2 * 0 + _ ≤ _; exact Nat.le_of_eq rfl) (hb hby d20_20) (fun _ _ => ⟨rfl, rfl, (by decide : 1 + 0 ≤ _), (by decide : 6 + 0 ≤ _)⟩)
  dsimp only [Pt.U, Pt.locs, Pt.cells, Pt.slots] at X7 l7 y7 z7 st7 hQ7
  subst l7 y7 z7
  obtain ⟨rfl, N7q, Kc7, P7_0⟩ := hQ7
  have K7 : Keep h0 T7.heap [] := K5.trans Kc7 (allS (Or.inr sz_b_1) all0)
  have O7 := O5.keep Kc7 (allS g_b_1 all0)
  have N7 := Fr.app N5 N7q
  obtain ⟨fs, hr, hrun, hended, hW, hsame⟩ := X7.leave (v := some (.ref b_1)) (fun h => by rw [Bd.returns] at h; cases h)
  refine ⟨_, _, pre0 _ ?_, hrun, hended, _, _, rfl, ?_, ⟨_, rfl⟩, hW, hsame.mono (by decide) (by decide)⟩
  · show Steps p.tables e below (s₁.setTop (mkF m 0 #[.val (.ref a0c), .val (.int 0), .val (.int 3), .unset, .unset] [])) _
    refine XS.iloadN X0.here hx rfl (hb hby d20_0) rfl ?_
    show Steps p.tables e below (s₁.setTop (mkF m 1 #[.val (.ref a0c), .val (.int 0), .val (.int 3), .unset, .unset] [(.int 3)])) _
    refine st1 _ ?_
    show Steps p.tables e below (T1.setTop (mkF m 4 #[.val (.ref a0c), .val (.int 0), .val (.int 3), .unset, .unset] [(.ref b_1)])) _
    refine XS.astoreN X1.here hx rfl (hb hby d20_4) rfl rfl (l' := #[.val (.ref a0c), .val (.int 0), .val (.int 3), .val (.ref b_1), .unset]) rfl ?_
    refine XS.iconst X1.here hx rfl (hb hby d20_5) ?_
    refine XS.istore X1.here hx rfl (hb hby d20_6) rfl (l' := #[.val (.ref a0c), .val (.int 0), .val (.int 3), .val (.ref b_1), .val (.int 0)]) rfl ?_
    refine XS.iload X1.here hx rfl (hb hby d20_8) rfl ?_
    show Steps p.tables e below (T1.setTop (mkF m 10 #[.val (.ref a0c), .val (.int 0), .val (.int 3), .val (.ref b_1), .val (.int 0)] [(.int 0)])) _
    refine XS.iloadN X1.here hx rfl (hb hby d20_10) rfl ?_
    refine XS.icmpNo X1.here hx rfl (hb hby d20_11) rfl (tlt (by decide : (0 : Int32) < (3 : Int32))).2.1 ?_
    refine XS.aloadN X1.here hx rfl (hb hby d20_14) rfl rfl ?_
    refine XS.iload X1.here hx rfl (hb hby d20_15) rfl ?_
    show Steps p.tables e below (T1.setTop (mkF m 17 #[.val (.ref a0c), .val (.int 0), .val (.int 3), .val (.ref b_1), .val (.int 0)] [(.int 0), (.ref b_1)])) _
    refine XS.aloadN X1.here hx rfl (hb hby d20_17) rfl rfl ?_
    refine XS.iloadN X1.here hx rfl (hb hby d20_18) rfl ?_
    show Steps p.tables e below (T1.setTop (mkF m 19 #[.val (.ref a0c), .val (.int 0), .val (.int 3), .val (.ref b_1), .val (.int 0)] [(.int 0), (.ref a0c), (.int 0), (.ref b_1)])) _
    refine X1.caload hx (j := (0 : Int32)) (v := (.int c0)) Ar2.1 (State.isArrayOf_alike hZ.alike Ar2.2.1) Ar2.2.2 hin2 hat2 (g := (mkF m 19 #[.val (.ref a0c), .val (.int 0), .val (.int 3), .val (.ref b_1), .val (.int 0)] [(.int 0), (.ref a0c), (.int 0), (.ref b_1)])) rfl rfl (hb hby d20_19) _ ?_
    show Steps p.tables e below (T1.setTop (mkF m 20 #[.val (.ref a0c), .val (.int 0), .val (.int 3), .val (.ref b_1), .val (.int 0)] [(.int c0), (.int 0), (.ref b_1)])) _
    refine st3 _ ?_
    show Steps p.tables e below (T3.setTop (mkF m 23 #[.val (.ref a0c), .val (.int 0), .val (.int 3), .val (.ref b_1), .val (.int 0)] [])) _
    refine XS.iinc X3.here hx rfl (hb hby d20_23) rfl (l' := #[.val (.ref a0c), .val (.int 1), .val (.int 3), .val (.ref b_1), .val (.int 0)]) rfl ?_
    refine XS.iinc X3.here hx rfl (hb hby d20_26) rfl (l' := #[.val (.ref a0c), .val (.int 1), .val (.int 3), .val (.ref b_1), .val (.int 1)]) rfl ?_
    refine XS.goto X3.here hx rfl (pc0 := 29) (pc' := 8) rfl (hb hby d20_29) (by decide) (by decide) ?_
    refine XS.iload X3.here hx rfl (hb hby d20_8) rfl ?_
    show Steps p.tables e below (T3.setTop (mkF m 10 #[.val (.ref a0c), .val (.int 1), .val (.int 3), .val (.ref b_1), .val (.int 1)] [(.int 1)])) _
    refine XS.iloadN X3.here hx rfl (hb hby d20_10) rfl ?_
    refine XS.icmpNo X3.here hx rfl (hb hby d20_11) rfl (tlt (by decide : (1 : Int32) < (3 : Int32))).2.1 ?_
    refine XS.aloadN X3.here hx rfl (hb hby d20_14) rfl rfl ?_
    refine XS.iload X3.here hx rfl (hb hby d20_15) rfl ?_
    show Steps p.tables e below (T3.setTop (mkF m 17 #[.val (.ref a0c), .val (.int 1), .val (.int 3), .val (.ref b_1), .val (.int 1)] [(.int 1), (.ref b_1)])) _
    refine XS.aloadN X3.here hx rfl (hb hby d20_17) rfl rfl ?_
    refine XS.iloadN X3.here hx rfl (hb hby d20_18) rfl ?_
    show Steps p.tables e below (T3.setTop (mkF m 19 #[.val (.ref a0c), .val (.int 1), .val (.int 3), .val (.ref b_1), .val (.int 1)] [(.int 1), (.ref a0c), (.int 1), (.ref b_1)])) _
    refine X3.caload hx (j := (1 : Int32)) (v := (.int c1)) Ar4.1 (State.isArrayOf_alike hZ.alike Ar4.2.1) Ar4.2.2 hin4 hat4 (g := (mkF m 19 #[.val (.ref a0c), .val (.int 1), .val (.int 3), .val (.ref b_1), .val (.int 1)] [(.int 1), (.ref a0c), (.int 1), (.ref b_1)])) rfl rfl (hb hby d20_19) _ ?_
    show Steps p.tables e below (T3.setTop (mkF m 20 #[.val (.ref a0c), .val (.int 1), .val (.int 3), .val (.ref b_1), .val (.int 1)] [(.int c1), (.int 1), (.ref b_1)])) _
    refine st5 _ ?_
    show Steps p.tables e below (T5.setTop (mkF m 23 #[.val (.ref a0c), .val (.int 1), .val (.int 3), .val (.ref b_1), .val (.int 1)] [])) _
    refine XS.iinc X5.here hx rfl (hb hby d20_23) rfl (l' := #[.val (.ref a0c), .val (.int 2), .val (.int 3), .val (.ref b_1), .val (.int 1)]) rfl ?_
    refine XS.iinc X5.here hx rfl (hb hby d20_26) rfl (l' := #[.val (.ref a0c), .val (.int 2), .val (.int 3), .val (.ref b_1), .val (.int 2)]) rfl ?_
    refine XS.goto X5.here hx rfl (pc0 := 29) (pc' := 8) rfl (hb hby d20_29) (by decide) (by decide) ?_
    refine XS.iload X5.here hx rfl (hb hby d20_8) rfl ?_
    show Steps p.tables e below (T5.setTop (mkF m 10 #[.val (.ref a0c), .val (.int 2), .val (.int 3), .val (.ref b_1), .val (.int 2)] [(.int 2)])) _
    refine XS.iloadN X5.here hx rfl (hb hby d20_10) rfl ?_
    refine XS.icmpNo X5.here hx rfl (hb hby d20_11) rfl (tlt (by decide : (2 : Int32) < (3 : Int32))).2.1 ?_
    refine XS.aloadN X5.here hx rfl (hb hby d20_14) rfl rfl ?_
    refine XS.iload X5.here hx rfl (hb hby d20_15) rfl ?_
    show Steps p.tables e below (T5.setTop (mkF m 17 #[.val (.ref a0c), .val (.int 2), .val (.int 3), .val (.ref b_1), .val (.int 2)] [(.int 2), (.ref b_1)])) _
    refine XS.aloadN X5.here hx rfl (hb hby d20_17) rfl rfl ?_
    refine XS.iloadN X5.here hx rfl (hb hby d20_18) rfl ?_
    show Steps p.tables e below (T5.setTop (mkF m 19 #[.val (.ref a0c), .val (.int 2), .val (.int 3), .val (.ref b_1), .val (.int 2)] [(.int 2), (.ref a0c), (.int 2), (.ref b_1)])) _
    refine X5.caload hx (j := (2 : Int32)) (v := (.int c2)) Ar6.1 (State.isArrayOf_alike hZ.alike Ar6.2.1) Ar6.2.2 hin6 hat6 (g := (mkF m 19 #[.val (.ref a0c), .val (.int 2), .val (.int 3), .val (.ref b_1), .val (.int 2)] [(.int 2), (.ref a0c), (.int 2), (.ref b_1)])) rfl rfl (hb hby d20_19) _ ?_
    show Steps p.tables e below (T5.setTop (mkF m 20 #[.val (.ref a0c), .val (.int 2), .val (.int 3), .val (.ref b_1), .val (.int 2)] [(.int c2), (.int 2), (.ref b_1)])) _
    refine st7 _ ?_
    show Steps p.tables e below (T7.setTop (mkF m 23 #[.val (.ref a0c), .val (.int 2), .val (.int 3), .val (.ref b_1), .val (.int 2)] [])) _
    refine XS.iinc X7.here hx rfl (hb hby d20_23) rfl (l' := #[.val (.ref a0c), .val (.int 3), .val (.int 3), .val (.ref b_1), .val (.int 2)]) rfl ?_
    refine XS.iinc X7.here hx rfl (hb hby d20_26) rfl (l' := #[.val (.ref a0c), .val (.int 3), .val (.int 3), .val (.ref b_1), .val (.int 3)]) rfl ?_
    refine XS.goto X7.here hx rfl (pc0 := 29) (pc' := 8) rfl (hb hby d20_29) (by decide) (by decide) ?_
    refine XS.iload X7.here hx rfl (hb hby d20_8) rfl ?_
    show Steps p.tables e below (T7.setTop (mkF m 10 #[.val (.ref a0c), .val (.int 3), .val (.int 3), .val (.ref b_1), .val (.int 3)] [(.int 3)])) _
    refine XS.iloadN X7.here hx rfl (hb hby d20_10) rfl ?_
    refine XS.icmpYes X7.here hx rfl (pc0 := 11) (pc' := 32) rfl (hb hby d20_11) rfl (flt (by decide : ¬ ((3 : Int32) < (3 : Int32)))).2.1 (by decide) (by decide) ?_
    refine XS.aloadN X7.here hx rfl (hb hby d20_32) rfl rfl ?_
    show Steps p.tables e below (T7.setTop (mkF m 33 #[.val (.ref a0c), .val (.int 3), .val (.int 3), .val (.ref b_1), .val (.int 3)] [(.ref b_1)])) _
    jvm_step X7.here [X7.here.top, hx, (hb hby d20_33), X7.method', Bd.returns, Value.isRef, FieldType.isReference]
    first | (intro acts; rw [hr _ acts rfl rfl rfl]) | rw [hr _ _ rfl rfl rfl]
    exact Steps.refl _
  · show Q_rmTb3 n0 Z cS aRS aEM aUS aSS a0c k0 c0 c1 c2 h0 _ T7.heap _
    exact ⟨b_1, kb_1, rfl, N7, K7, sz_b_1, (((P1_1.keep Kc3).keep Kc5).keep Kc7), P7_0⟩
def Q_rmGc3_0 (n0 : Nat) (Z : State) (cS : Int32) (aRS : Addr) (aEM : Addr) (aUS : Addr) (aSS : Addr) (a0b : Addr) (k0 : ClassId) (c0 : Int32) (y2 : Int32) (y3 : Int32) (y4 : Int32) (y5 : Int32) (h0 : Heap) (v : Option Value) (h : Heap) (L : List Loc) : Prop := v = some (.int c0) ∧ Fr n0 L ∧ h = h0
set_option maxRecDepth 65536 in
set_option maxHeartbeats 40000000 in
theorem rmGc3_0 (l : Launch) (Z : State) (a0 : Array Value) (hw : ∀ d ∈ tables_1, d.before a0 Z = true) (ws : List Jvm.Cond) (cS : Int32) (aRS : Addr) (aEM : Addr) (aUS : Addr) (aSS : Addr) (a0b : Addr) (k0 : ClassId) (c0 : Int32) (y2 : Int32) (y3 : Int32) (y4 : Int32) (y5 : Int32) (h0 : Heap) (n0 : Nat) (O0 : Old Z n0 h0) (GL : GF Z cS aRS aEM aUS aSS) (V_a0b : Arv Z h0 a0b k0 .byte (6 : Int32) [(.int (c0.toInt8.toInt32)), (.int ((c0 >>> ((8 : Int32) &&& 31)).toInt8.toInt32)), (.int y2), (.int y3), (.int y4), (.int y5)] (.int 0)) (hn : nar .char c0 = c0) :
    MetFree l MN_6 (head1 (Jvm.Cond.code MN_6 jdk_52_method_5_code 2 (some .char) :: ws) ({ frames := 0, cells := 0, slots := 0, locals := 0 } : Room)) (fun a U => a = #[(.ref a0b), (.int 0)] ∧ Z.Warmed39 U.vm ∧ U.heap = h0) (fun _ _ _ _ _ => True) (fun _ U o U' => ∃ v L, o = .returned v ∧ Q_rmGc3_0 n0 Z cS aRS aEM aUS aSS a0b k0 c0 y2 y3 y4 y5 h0 v U'.heap L ∧ FrameEnd U o U' L ({ frames := 0, cells := 0, slots := 0, locals := 0 } : Room).cells ({ frames := 0, cells := 0, slots := 0, locals := 0 } : Room).slots) := by
  refine MetFree.of_bodySF (plainFor_of_name pn) hisR ?_
  intro p e s m args below meth c s₁ Bd hml0 hP hK
  obtain ⟨rfl, hZ, hh⟩ := hP
  have hx := Bd.exec
  have hby := Bd.bytes
  have hml : c.maxLocals = 2 := hml0
  have hown : s.vm.findClass "java/lang/StringUTF16" = some m.cls := findClass_of_methodNamed Bd.named
  have hnm := (name_of_methodNamed Bd.named Bd.method).1
  have X0 : Stand p l e ({ frames := 0, cells := 0, slots := 0, locals := 0 } : Room) s m #[(.ref a0b), (.int 0)] below meth c s₁ [] 0 0 := Stand.of_body Bd
  have e0 : s₁.heap = h0 := by rw [← hh, Bd.state]; rfl
  have N0 := Fr.nil n0
  have pre0 : ∀ t, Steps p.tables e below (s₁.setTop (mkF m 0 #[.val (.ref a0b), .val (.int 0)] [])) t → Steps p.tables e below (s₁.setTop (entryFrame m #[(.ref a0b), (.int 0)] 2)) t := fun t k => castTop (ef_rmGc1_0 m a0b) k
  have GL' := GL
  obtain ⟨GCS, GCP, GSR, GSE, GEE, GFE, GSU, GSS, GA16, GHI, GLO⟩ := GL'
  obtain ⟨T1, X1, e1, st1⟩ := getS2 X0 hx hZ hown (host := "") (Or.inl (Wd hw 132 rfl)) Via.refl e0 (GA16.ext O0.2) (g := (mkF m 0 #[.val (.ref a0b), .val (.int 0)] [])) rfl (hb hby d24_0)
  obtain ⟨cl2, Ar2, -, S2, N2_, H2, G2⟩ := id (V_a0b)
  have hin2 : ¬ ((0 : Int32) < 0 ∨ cl2.slots.size ≤ ((0 : Int32)).toNatClampNeg) := inb_of S2 ⟨(by decide), (by decide)⟩
  have hat2 : cl2.slots[((0 : Int32)).toNatClampNeg]? = some (.int (c0.toInt8.toInt32)) := H2.at hin2 rfl
  obtain ⟨T3, X3, e3, st3⟩ := getS2 X1 hx hZ hown (host := "") (Or.inl (Wd hw 133 rfl)) Via.refl e1 (GHI.ext O0.2) (g := (mkF m 42 #[.val (.ref a0b), .val (.int 1)] [(.int ((c0.toInt8.toInt32) &&& (255 : Int32)))])) rfl (hb hby d24_42)
  obtain ⟨cl4, Ar4, -, S4, N4_, H4, G4⟩ := id (V_a0b)
  have hin4 : ¬ ((1 : Int32) < 0 ∨ cl4.slots.size ≤ ((1 : Int32)).toNatClampNeg) := inb_of S4 ⟨(by decide), (by decide)⟩
  have hat4 : cl4.slots[((1 : Int32)).toNatClampNeg]? = some (.int ((c0 >>> ((8 : Int32) &&& 31)).toInt8.toInt32)) := H4.at hin4 rfl
  obtain ⟨T5, X5, e5, st5⟩ := getS2 X3 hx hZ hown (host := "") (Or.inl (Wd hw 134 rfl)) Via.refl e3 (GLO.ext O0.2) (g := (mkF m 53 #[.val (.ref a0b), .val (.int 1)] [(.int (((c0 >>> ((8 : Int32) &&& 31)).toInt8.toInt32) &&& (255 : Int32))), (.int (((c0.toInt8.toInt32) &&& (255 : Int32)) <<< ((0 : Int32) &&& 31)))])) rfl (hb hby d24_53)
  obtain ⟨fs, hr, hrun, hended, hW, hsame⟩ := X5.leave (v := some (.int (nar .char (((((c0.toInt8.toInt32) &&& (255 : Int32)) <<< ((0 : Int32) &&& 31)) ||| ((((c0 >>> ((8 : Int32) &&& 31)).toInt8.toInt32) &&& (255 : Int32)) <<< ((8 : Int32) &&& 31))).toUInt32.toUInt16.toUInt32.toInt32)))) (fun h => by rw [Bd.returns] at h; cases h)
  refine ⟨_, _, pre0 _ ?_, hrun, hended, _, _, rfl, ?_, ⟨_, rfl⟩, hW, hsame.mono (by decide) (by decide)⟩
  · show Steps p.tables e below (s₁.setTop (mkF m 0 #[.val (.ref a0b), .val (.int 0)] [])) _
    refine st1 _ ?_
    show Steps p.tables e below (T1.setTop (mkF m 3 #[.val (.ref a0b), .val (.int 0)] [(.int 1)])) _
    refine XS.ifYes X1.here hx rfl (pc0 := 3) (pc' := 28) rfl (hb hby d24_3) rfl ((if0 _ _).trans (feq (by decide : ¬ ((1 : Int32) = (0 : Int32)))).2) (by decide) (by decide) ?_
    refine XS.iloadN X1.here hx rfl (hb hby d24_28) rfl ?_
    refine XS.iconst X1.here hx rfl (hb hby d24_29) ?_
    refine XS.ishl X1.here hx rfl (hb hby d24_30) rfl ?_
    show Steps p.tables e below (T1.setTop (mkF m 31 #[.val (.ref a0b), .val (.int 0)] [(.int 0)])) _
    refine XS.istoreN X1.here hx rfl (hb hby d24_31) rfl (l' := #[.val (.ref a0b), .val (.int 0)]) rfl ?_
    refine XS.aloadN X1.here hx rfl (hb hby d24_32) rfl rfl ?_
    refine XS.iloadN X1.here hx rfl (hb hby d24_33) rfl ?_
    refine XS.iinc X1.here hx rfl (hb hby d24_34) rfl (l' := #[.val (.ref a0b), .val (.int 1)]) rfl ?_
    show Steps p.tables e below (T1.setTop (mkF m 37 #[.val (.ref a0b), .val (.int 1)] [(.int 0), (.ref a0b)])) _
    refine X1.baloadBytes hx (j := (0 : Int32)) (v := (.int (c0.toInt8.toInt32))) (by rw [e1]; exact Ar2.1) (State.isArrayOf_alike hZ.alike Ar2.2.1) Ar2.2.2 hin2 hat2 (g := (mkF m 37 #[.val (.ref a0b), .val (.int 1)] [(.int 0), (.ref a0b)])) rfl rfl (hb hby d24_37) _ ?_
    show Steps p.tables e below (T1.setTop (mkF m 38 #[.val (.ref a0b), .val (.int 1)] [(.int (c0.toInt8.toInt32))])) _
    refine XS.sipush X1.here hx rfl (hb hby d24_38) ?_
    refine XS.iand X1.here hx rfl (hb hby d24_41) rfl ?_
    show Steps p.tables e below (T1.setTop (mkF m 42 #[.val (.ref a0b), .val (.int 1)] [(.int ((c0.toInt8.toInt32) &&& (255 : Int32)))])) _
    refine st3 _ ?_
    show Steps p.tables e below (T3.setTop (mkF m 45 #[.val (.ref a0b), .val (.int 1)] [(.int 0), (.int ((c0.toInt8.toInt32) &&& (255 : Int32)))])) _
    refine XS.ishl X3.here hx rfl (hb hby d24_45) rfl ?_
    refine XS.aloadN X3.here hx rfl (hb hby d24_46) rfl rfl ?_
    refine XS.iloadN X3.here hx rfl (hb hby d24_47) rfl ?_
    show Steps p.tables e below (T3.setTop (mkF m 48 #[.val (.ref a0b), .val (.int 1)] [(.int 1), (.ref a0b), (.int (((c0.toInt8.toInt32) &&& (255 : Int32)) <<< ((0 : Int32) &&& 31)))])) _
    refine X3.baloadBytes hx (j := (1 : Int32)) (v := (.int ((c0 >>> ((8 : Int32) &&& 31)).toInt8.toInt32))) (by rw [e3]; exact Ar4.1) (State.isArrayOf_alike hZ.alike Ar4.2.1) Ar4.2.2 hin4 hat4 (g := (mkF m 48 #[.val (.ref a0b), .val (.int 1)] [(.int 1), (.ref a0b), (.int (((c0.toInt8.toInt32) &&& (255 : Int32)) <<< ((0 : Int32) &&& 31)))])) rfl rfl (hb hby d24_48) _ ?_
    show Steps p.tables e below (T3.setTop (mkF m 49 #[.val (.ref a0b), .val (.int 1)] [(.int ((c0 >>> ((8 : Int32) &&& 31)).toInt8.toInt32)), (.int (((c0.toInt8.toInt32) &&& (255 : Int32)) <<< ((0 : Int32) &&& 31)))])) _
    refine XS.sipush X3.here hx rfl (hb hby d24_49) ?_
    refine XS.iand X3.here hx rfl (hb hby d24_52) rfl ?_
    show Steps p.tables e below (T3.setTop (mkF m 53 #[.val (.ref a0b), .val (.int 1)] [(.int (((c0 >>> ((8 : Int32) &&& 31)).toInt8.toInt32) &&& (255 : Int32))), (.int (((c0.toInt8.toInt32) &&& (255 : Int32)) <<< ((0 : Int32) &&& 31)))])) _
    refine st5 _ ?_
    show Steps p.tables e below (T5.setTop (mkF m 56 #[.val (.ref a0b), .val (.int 1)] [(.int 8), (.int (((c0 >>> ((8 : Int32) &&& 31)).toInt8.toInt32) &&& (255 : Int32))), (.int (((c0.toInt8.toInt32) &&& (255 : Int32)) <<< ((0 : Int32) &&& 31)))])) _
    refine XS.ishl X5.here hx rfl (hb hby d24_56) rfl ?_
    refine XS.ior X5.here hx rfl (hb hby d24_57) rfl ?_
    refine XS.i2c X5.here hx rfl (hb hby d24_58) rfl ?_
    show Steps p.tables e below (T5.setTop (mkF m 59 #[.val (.ref a0b), .val (.int 1)] [(.int (((((c0.toInt8.toInt32) &&& (255 : Int32)) <<< ((0 : Int32) &&& 31)) ||| ((((c0 >>> ((8 : Int32) &&& 31)).toInt8.toInt32) &&& (255 : Int32)) <<< ((8 : Int32) &&& 31))).toUInt32.toUInt16.toUInt32.toInt32))])) _
    exact retN X5 hx (t := .char) Bd.returns (by simp) (hb hby d24_59) hr
  · show Q_rmGc3_0 n0 Z cS aRS aEM aUS aSS a0b k0 c0 y2 y3 y4 y5 h0 _ T5.heap _
    rw [e5]
    exact ⟨(congrArg (fun z => some (Value.int z)) (own_utf c0 hn)), N0, rfl⟩
def Q_rmC1_3u0 (n0 : Nat) (Z : State) (cS : Int32) (aRS : Addr) (aEM : Addr) (aUS : Addr) (aSS : Addr) (a0c : Addr) (k0 : ClassId) (c0 : Int32) (c1 : Int32) (c2 : Int32) (h0 : Heap) (v : Option Value) (h : Heap) (L : List Loc) : Prop := ∃ b : Addr, ∃ kb : ClassId, v = some (.ref b) ∧ Fr n0 L ∧ Keep h0 h [] ∧ (h0.size ≤ b) ∧ (Exa Z h b "[B") ∧ (Arv Z h b kb .byte (6 : Int32) [(.int (c0.toInt8.toInt32)), (.int ((c0 >>> ((8 : Int32) &&& 31)).toInt8.toInt32)), (.int (c1.toInt8.toInt32)), (.int ((c1 >>> ((8 : Int32) &&& 31)).toInt8.toInt32)), (.int (c2.toInt8.toInt32)), (.int ((c2 >>> ((8 : Int32) &&& 31)).toInt8.toInt32))] (.int 0))
set_option maxRecDepth 65536 in
set_option maxHeartbeats 40000000 in
theorem rmC1_3u0 (l : Launch) (Z : State) (a0 : Array Value) (hw : ∀ d ∈ tables_1, d.before a0 Z = true) (ws : List Jvm.Cond) (cS : Int32) (aRS : Addr) (aEM : Addr) (aUS : Addr) (aSS : Addr) (a0c : Addr) (k0 : ClassId) (c0 : Int32) (c1 : Int32) (c2 : Int32) (h0 : Heap) (n0 : Nat) (O0 : Old Z n0 h0) (GL : GF Z cS aRS aEM aUS aSS) (V_a0c : Arv Z h0 a0c k0 .char (3 : Int32) [(.int c0), (.int c1), (.int c2)] (.int 0)) (hcj : (255 : Int32) < c0) (hnj : nar .char c0 = c0) :
    MetFree l MN_1 (head1 (Jvm.Cond.code MN_1 jdk_52_method_16_code 6 (some (.array .byte)) :: ws) ({ frames := 3, cells := 2, slots := 9, locals := 40 } : Room)) (fun a U => a = #[(.ref a0c), (.int 0), (.int 3)] ∧ Z.Warmed39 U.vm ∧ U.heap = h0) (fun _ _ _ _ _ => True) (fun _ U o U' => ∃ v L, o = .returned v ∧ Q_rmC1_3u0 n0 Z cS aRS aEM aUS aSS a0c k0 c0 c1 c2 h0 v U'.heap L ∧ FrameEnd U o U' L ({ frames := 3, cells := 2, slots := 9, locals := 40 } : Room).cells ({ frames := 3, cells := 2, slots := 9, locals := 40 } : Room).slots) := by
  refine MetFree.of_bodySF (plainFor_of_name pn) hisR ?_
  intro p e s m args below meth c s₁ Bd hml0 hP hK
  obtain ⟨rfl, hZ, hh⟩ := hP
  have hx := Bd.exec
  have hby := Bd.bytes
  have hml : c.maxLocals = 6 := hml0
  have hown : s.vm.findClass "java/lang/StringUTF16" = some m.cls := findClass_of_methodNamed Bd.named
  have hnm := (name_of_methodNamed Bd.named Bd.method).1
  have X0 : Stand p l e ({ frames := 3, cells := 2, slots := 9, locals := 40 } : Room) s m #[(.ref a0c), (.int 0), (.int 3)] below meth c s₁ [] 0 0 := Stand.of_body Bd
  have e0 : s₁.heap = h0 := by rw [← hh, Bd.state]; rfl
  have N0 := Fr.nil n0
  have pre0 : ∀ t, Steps p.tables e below (s₁.setTop (mkF m 0 #[.val (.ref a0c), .val (.int 0), .val (.int 3), .unset, .unset, .unset] [])) t → Steps p.tables e below (s₁.setTop (entryFrame m #[(.ref a0c), (.int 0), (.int 3)] 6)) t := fun t k => castTop (ef_rmC1_3 m a0c) k
  have GL' := GL
  obtain ⟨GCS, GCP, GSR, GSE, GEE, GFE, GSU, GSS, GA16, GHI, GLO⟩ := GL'
  obtain ⟨T1, h1, k1, X1, e1, E1, A1, A1', st1⟩ := newPE X0 hx hZ (Wd hw 24 rfl) e0 (g := (mkF m 1 #[.val (.ref a0c), .val (.int 0), .val (.int 3), .unset, .unset, .unset] [(.int 3)])) rfl (hb hby d5_1) rfl (by decide) (cap := 3) (by decide) (by decide) (by decide) (by decide) (ad := "[B") rfl
  obtain ⟨b1, g1⟩ : ∃ z, z = h0.size := ⟨_, rfl⟩
  rw [← g1] at A1 A1' st1
  have g_b1 : n0 ≤ b1 := Nat.le_trans (own_sz O0) (Nat.le_of_eq g1.symm)
  have sz_b1 : h0.size ≤ b1 := Nat.le_trans (Keep.refl h0 []).1 (Nat.le_of_eq g1.symm)
  have K1 : Keep h0 h1 [] := (Keep.refl h0 []).ext E1
  have O1 := O0.ext E1
  have V_b1 : Arv Z h1 b1 k1 .byte (3 : Int32) [(.int 0), (.int 0), (.int 0)] (.int 0) := (Arv.new A1 (by decide)).pad (pad_rep [] (.int 0) 3)
  obtain ⟨_, _, ⟨T2, L2, k2, n2⟩, -, X2, ⟨Lc2, hQ2, l2, y2, z2⟩, st2⟩ := Jvm.LawKit.callS X1 hx (y := MN_0) hown (mvT hZ (Wd hw 25 rfl)) (mvT hZ (Wd hw 26 rfl)) (mvT hZ (Wd hw 22 rfl)) (mvT hZ (Wd hw 27 rfl)) (by decide) (backOf (W := 0) (rmC2_3u0 l Z a0 hw [] cS aRS aEM aUS aSS (a0c) (b1) (k0) (k1) (c0) (c1) (c2) (h1) n0 O1 GL (V_a0c.ext E1) V_b1 g_b1 hcj) hZ (Wd hw 27 rfl) (Wd hw 22 rfl) (by decide) (by decide)) (g := (mkF m 9 #[.val (.ref a0c), .val (.int 0), .val (.int 3), .val (.ref b1), .unset, .unset] [(.int 3), (.int 0), (.ref b1), (.int 0), (.ref a0c)])) rfl (by rw [hml]; rfl) (argsL := [(.ref a0c), (.int 0), (.ref b1), (.int 0), (.int 3)]) (rest := []) (lenOf pd rfl) rfl (by show 2 * 0 + _ ≤ _; exact Nat.le_of_eq rfl) (hb hby d5_9) (fun _ _ => ⟨rfl, e1, (by decide : 1 + 0 ≤ _), (by decide : 3 + 0 ≤ _)⟩)
  dsimp only [Pt.U, Pt.locs, Pt.cells, Pt.slots] at X2 l2 y2 z2 st2 hQ2
  subst l2 y2 z2
  obtain ⟨rfl, N2q, Kc2, P2_0⟩ := hQ2
  have K2 : Keep h0 T2.heap [] := K1.trans Kc2 (allS (Or.inr sz_b1) all0)
  have O2 := O1.keep Kc2 (allS g_b1 all0)
  have N2 := Fr.app N0 N2q
  obtain ⟨_, _, ⟨T3, L3, k3, n3⟩, -, X3, ⟨Lc3, hQ3, l3, y3, z3⟩, st3⟩ := Jvm.LawKit.callS X2 hx (y := MN_5) hown (mvT hZ (Wd hw 119 rfl)) (mvT hZ (Wd hw 120 rfl)) (mvT hZ (Wd hw 22 rfl)) (mvT hZ (Wd hw 121 rfl)) (by decide) (backOf (W := 0) (rmTb3 l Z a0 hw [] cS aRS aEM aUS aSS (a0c) (k0) (c0) (c1) (c2) (T2.heap) n0 O2 GL ((V_a0c.ext E1).keep Kc2 (ninS (Nat.ne_of_lt (Nat.lt_of_lt_of_le V_a0c.lt (Nat.le_of_eq g1.symm))) nin0))) hZ (Wd hw 121 rfl) (Wd hw 22 rfl) (by decide) (by decide)) (g := (mkF m 23 #[.val (.ref a0c), .val (.int 0), .val (.int 3), .val (.ref b1), .val (.int 0), .unset] [(.int 3), (.int 0), (.ref a0c)])) rfl (by rw [hml]; rfl) (argsL := [(.ref a0c), (.int 0), (.int 3)]) (rest := []) (lenOf pdv4 rfl) rfl (by show 2 * 0 + _ ≤ _; exact Nat.le_of_eq rfl) (hb hby d5_23) (fun _ _ => ⟨rfl, rfl, (by decide : 1 + 1 ≤ _), (by decide : 3 + 6 ≤ _)⟩)
  dsimp only [Pt.U, Pt.locs, Pt.cells, Pt.slots] at X3 l3 y3 z3 st3 hQ3
  subst l3 y3 z3
  obtain ⟨b_3, kb_3, rfl, N3q, Kc3, P3_0, P3_1, P3_2⟩ := hQ3
  have K3 : Keep h0 T3.heap [] := K2.trans Kc3 all0
  have O3 := O2.keep Kc3 all0
  have g_b_3 : n0 ≤ b_3 := Nat.le_trans (own_sz O2) P3_0
  have sz_b_3 : h0.size ≤ b_3 := Nat.le_trans K2.1 P3_0
  have N3 := Fr.app N2 N3q
  obtain ⟨_, _, ⟨T4, L4, k4, n4⟩, -, X4, ⟨Lc4, hQ4, l4, y4, z4⟩, st4⟩ := Jvm.LawKit.callS X3 hx (y := MN_6) hown (mvT hZ (Wd hw 135 rfl)) (mvT hZ (Wd hw 136 rfl)) (mvT hZ (Wd hw 22 rfl)) (mvT hZ (Wd hw 137 rfl)) (by decide) (backOf (W := 0) (rmGc3_0 l Z a0 hw [] cS aRS aEM aUS aSS (b_3) (kb_3) (c0) ((c1.toInt8.toInt32)) (((c1 >>> ((8 : Int32) &&& 31)).toInt8.toInt32)) ((c2.toInt8.toInt32)) (((c2 >>> ((8 : Int32) &&& 31)).toInt8.toInt32)) (T3.heap) n0 O3 GL P3_2 hnj) hZ (Wd hw 137 rfl) (Wd hw 22 rfl) (by decide) (by decide)) (g := (mkF m 32 #[.val (.ref a0c), .val (.int 0), .val (.int 3), .val (.ref b1), .val (.int 0), .val (.ref b_3)] [(.int 0), (.ref b_3)])) rfl (by rw [hml]; rfl) (argsL := [(.ref b_3), (.int 0)]) (rest := []) (lenOf pdv5 rfl) rfl (by show 2 * 0 + _ ≤ _; exact Nat.le_of_eq rfl) (hb hby d5_32) (fun _ _ => ⟨rfl, rfl, (by decide : 2 + 0 ≤ _), (by decide : 9 + 0 ≤ _)⟩)
  dsimp only [Pt.U, Pt.locs, Pt.cells, Pt.slots] at X4 l4 y4 z4 st4 hQ4
  subst l4 y4 z4
  obtain ⟨rfl, N4q, e4⟩ := hQ4
  have N4 := Fr.app N3 N4q
  obtain ⟨fs, hr, hrun, hended, hW, hsame⟩ := X4.leave (v := some (.ref b_3)) (fun h => by rw [Bd.returns] at h; cases h)
  refine ⟨_, _, pre0 _ ?_, hrun, hended, _, _, rfl, ?_, ⟨_, rfl⟩, hW, hsame.mono (by decide) (by decide)⟩
  · show Steps p.tables e below (s₁.setTop (mkF m 0 #[.val (.ref a0c), .val (.int 0), .val (.int 3), .unset, .unset, .unset] [])) _
    refine XS.iloadN X0.here hx rfl (hb hby d5_0) rfl ?_
    show Steps p.tables e below (s₁.setTop (mkF m 1 #[.val (.ref a0c), .val (.int 0), .val (.int 3), .unset, .unset, .unset] [(.int 3)])) _
    refine st1 _ ?_
    show Steps p.tables e below (T1.setTop (mkF m 3 #[.val (.ref a0c), .val (.int 0), .val (.int 3), .unset, .unset, .unset] [(.ref b1)])) _
    refine XS.astoreN X1.here hx rfl (hb hby d5_3) rfl rfl (l' := #[.val (.ref a0c), .val (.int 0), .val (.int 3), .val (.ref b1), .unset, .unset]) rfl ?_
    refine XS.aloadN X1.here hx rfl (hb hby d5_4) rfl rfl ?_
    refine XS.iloadN X1.here hx rfl (hb hby d5_5) rfl ?_
    refine XS.aloadN X1.here hx rfl (hb hby d5_6) rfl rfl ?_
    show Steps p.tables e below (T1.setTop (mkF m 7 #[.val (.ref a0c), .val (.int 0), .val (.int 3), .val (.ref b1), .unset, .unset] [(.ref b1), (.int 0), (.ref a0c)])) _
    refine XS.iconst X1.here hx rfl (hb hby d5_7) ?_
    refine XS.iloadN X1.here hx rfl (hb hby d5_8) rfl ?_
    show Steps p.tables e below (T1.setTop (mkF m 9 #[.val (.ref a0c), .val (.int 0), .val (.int 3), .val (.ref b1), .unset, .unset] [(.int 3), (.int 0), (.ref b1), (.int 0), (.ref a0c)])) _
    refine st2 _ ?_
    show Steps p.tables e below (T2.setTop (mkF m 12 #[.val (.ref a0c), .val (.int 0), .val (.int 3), .val (.ref b1), .unset, .unset] [(.int 0)])) _
    refine XS.istore X2.here hx rfl (hb hby d5_12) rfl (l' := #[.val (.ref a0c), .val (.int 0), .val (.int 3), .val (.ref b1), .val (.int 0), .unset]) rfl ?_
    refine XS.iload X2.here hx rfl (hb hby d5_14) rfl ?_
    refine XS.iloadN X2.here hx rfl (hb hby d5_16) rfl ?_
    refine XS.icmpNo X2.here hx rfl (hb hby d5_17) rfl (feq (by decide : ¬ ((0 : Int32) = (3 : Int32)))).1 ?_
    show Steps p.tables e below (T2.setTop (mkF m 20 #[.val (.ref a0c), .val (.int 0), .val (.int 3), .val (.ref b1), .val (.int 0), .unset] [])) _
    refine XS.aloadN X2.here hx rfl (hb hby d5_20) rfl rfl ?_
    refine XS.iloadN X2.here hx rfl (hb hby d5_21) rfl ?_
    refine XS.iloadN X2.here hx rfl (hb hby d5_22) rfl ?_
    show Steps p.tables e below (T2.setTop (mkF m 23 #[.val (.ref a0c), .val (.int 0), .val (.int 3), .val (.ref b1), .val (.int 0), .unset] [(.int 3), (.int 0), (.ref a0c)])) _
    refine st3 _ ?_
    show Steps p.tables e below (T3.setTop (mkF m 26 #[.val (.ref a0c), .val (.int 0), .val (.int 3), .val (.ref b1), .val (.int 0), .unset] [(.ref b_3)])) _
    refine XS.astore X3.here hx rfl (hb hby d5_26) rfl rfl (l' := #[.val (.ref a0c), .val (.int 0), .val (.int 3), .val (.ref b1), .val (.int 0), .val (.ref b_3)]) rfl ?_
    refine XS.aload X3.here hx rfl (hb hby d5_28) rfl rfl ?_
    refine XS.iload X3.here hx rfl (hb hby d5_30) rfl ?_
    show Steps p.tables e below (T3.setTop (mkF m 32 #[.val (.ref a0c), .val (.int 0), .val (.int 3), .val (.ref b1), .val (.int 0), .val (.ref b_3)] [(.int 0), (.ref b_3)])) _
    refine st4 _ ?_
    show Steps p.tables e below (T4.setTop (mkF m 35 #[.val (.ref a0c), .val (.int 0), .val (.int 3), .val (.ref b1), .val (.int 0), .val (.ref b_3)] [(.int c0)])) _
    refine XS.sipush X4.here hx rfl (hb hby d5_35) ?_
    refine XS.icmpYes X4.here hx rfl (pc0 := 38) (pc' := 54) rfl (hb hby d5_38) rfl (tlt hcj).2.2.1 (by decide) (by decide) ?_
    refine XS.aload X4.here hx rfl (hb hby d5_54) rfl rfl ?_
    show Steps p.tables e below (T4.setTop (mkF m 56 #[.val (.ref a0c), .val (.int 0), .val (.int 3), .val (.ref b1), .val (.int 0), .val (.ref b_3)] [(.ref b_3)])) _
    jvm_step X4.here [X4.here.top, hx, (hb hby d5_56), X4.method', Bd.returns, Value.isRef, FieldType.isReference]
    first | (intro acts; rw [hr _ acts rfl rfl rfl]) | rw [hr _ _ rfl rfl rfl]
    exact Steps.refl _
  · show Q_rmC1_3u0 n0 Z cS aRS aEM aUS aSS a0c k0 c0 c1 c2 h0 _ T4.heap _
    rw [e4]
    exact ⟨b_3, kb_3, rfl, N4, K3, sz_b_3, P3_1, P3_2⟩
def Q_rmC2_3u1 (n0 : Nat) (Z : State) (cS : Int32) (aRS : Addr) (aEM : Addr) (aUS : Addr) (aSS : Addr) (a0c : Addr) (a2b : Addr) (k0 : ClassId) (k2 : ClassId) (c0 : Int32) (c1 : Int32) (c2 : Int32) (h0 : Heap) (v : Option Value) (h : Heap) (L : List Loc) : Prop := v = some (.int 1) ∧ Fr n0 L ∧ Keep h0 h [a2b] ∧ (Arv Z h a2b k2 .byte (3 : Int32) [(.int (c0.toInt8.toInt32)), (.int 0), (.int 0)] (.int 0))
set_option maxRecDepth 65536 in
set_option maxHeartbeats 40000000 in
theorem rmC2_3u1 (l : Launch) (Z : State) (a0 : Array Value) (hw : ∀ d ∈ tables_1, d.before a0 Z = true) (ws : List Jvm.Cond) (cS : Int32) (aRS : Addr) (aEM : Addr) (aUS : Addr) (aSS : Addr) (a0c : Addr) (a2b : Addr) (k0 : ClassId) (k2 : ClassId) (c0 : Int32) (c1 : Int32) (c2 : Int32) (h0 : Heap) (n0 : Nat) (O0 : Old Z n0 h0) (GL : GF Z cS aRS aEM aUS aSS) (V_a0c : Arv Z h0 a0c k0 .char (3 : Int32) [(.int c0), (.int c1), (.int c2)] (.int 0)) (V_a2b : Arv Z h0 a2b k2 .byte (3 : Int32) [(.int 0), (.int 0), (.int 0)] (.int 0)) (g_a2b : n0 ≤ a2b) (hc0 : ¬ ((255 : Int32) < c0)) (hcj : (255 : Int32) < c1) :
    MetFree l MN_0 (head1 (Jvm.Cond.code MN_0 jdk_52_method_21_code 7 (some .int) :: ws) ({ frames := 0, cells := 0, slots := 0, locals := 0 } : Room)) (fun a U => a = #[(.ref a0c), (.int 0), (.ref a2b), (.int 0), (.int 3)] ∧ Z.Warmed39 U.vm ∧ U.heap = h0) (fun _ _ _ _ _ => True) (fun _ U o U' => ∃ v L, o = .returned v ∧ Q_rmC2_3u1 n0 Z cS aRS aEM aUS aSS a0c a2b k0 k2 c0 c1 c2 h0 v U'.heap L ∧ FrameEnd U o U' L ({ frames := 0, cells := 0, slots := 0, locals := 0 } : Room).cells ({ frames := 0, cells := 0, slots := 0, locals := 0 } : Room).slots) := by
  refine MetFree.of_bodySF (plainFor_of_name pn) hisR ?_
  intro p e s m args below meth c s₁ Bd hml0 hP hK
  obtain ⟨rfl, hZ, hh⟩ := hP
  have hx := Bd.exec
  have hby := Bd.bytes
  have hml : c.maxLocals = 7 := hml0
  have hown : s.vm.findClass "java/lang/StringUTF16" = some m.cls := findClass_of_methodNamed Bd.named
  have hnm := (name_of_methodNamed Bd.named Bd.method).1
  have X0 : Stand p l e ({ frames := 0, cells := 0, slots := 0, locals := 0 } : Room) s m #[(.ref a0c), (.int 0), (.ref a2b), (.int 0), (.int 3)] below meth c s₁ [] 0 0 := Stand.of_body Bd
  have e0 : s₁.heap = h0 := by rw [← hh, Bd.state]; rfl
  have N0 := Fr.nil n0
  have pre0 : ∀ t, Steps p.tables e below (s₁.setTop (mkF m 0 #[.val (.ref a0c), .val (.int 0), .val (.ref a2b), .val (.int 0), .val (.int 3), .unset, .unset] [])) t → Steps p.tables e below (s₁.setTop (entryFrame m #[(.ref a0c), (.int 0), (.ref a2b), (.int 0), (.int 3)] 7)) t := fun t k => castTop (ef_rmC2_3 m a0c a2b) k
  have GL' := GL
  obtain ⟨GCS, GCP, GSR, GSE, GEE, GFE, GSU, GSS, GA16, GHI, GLO⟩ := GL'
  obtain ⟨cl1, Ar1, -, S1, N1_, H1, G1⟩ := id (V_a0c)
  have hin1 : ¬ ((0 : Int32) < 0 ∨ cl1.slots.size ≤ ((0 : Int32)).toNatClampNeg) := inb_of S1 ⟨(by decide), (by decide)⟩
  have hat1 : cl1.slots[((0 : Int32)).toNatClampNeg]? = some (.int c0) := H1.at hin1 rfl
  obtain ⟨cl2, Ar2, q2, S2, N2_, H2, G2⟩ := id (V_a2b)
  have hin2 : ¬ ((0 : Int32) < 0 ∨ cl2.slots.size ≤ ((0 : Int32)).toNatClampNeg) := inb_of S2 ⟨(by decide), (by decide)⟩
  obtain ⟨T2, h2, X2, e2, W2, st2⟩ := stB X0 hx hZ e0 Ar2 (j := (0 : Int32)) hin2 (g := (mkF m 31 #[.val (.ref a0c), .val (.int 0), .val (.ref a2b), .val (.int 0), .val (.int 3), .val (.int 0), .val (.int c0)] [(.int (c0.toInt8.toInt32)), (.int 0), (.ref a2b)])) rfl rfl (hb hby d6_31)
  have K2 : Keep h0 h2 [a2b] := (Keep.refl h0 [a2b]).wr W2 (Or.inl (List.mem_of_getElem? (i := 0) rfl))
  have O2 := O0.wr W2 g_a2b
  have N2 := Fr.snoc X2 N0 g_a2b
  have V2' : Arv Z h2 a2b k2 .byte (3 : Int32) [(.int ((c0.toInt8.toInt32)).toInt8.toInt32), (.int 0), (.int 0)] (.int 0) := Arv.set Ar2 q2 S2 N2_ H2 G2 (fits_nar_byte _) W2 0 rfl (Nat.le_of_ble_eq_true rfl)
  have V2 : Arv Z h2 a2b k2 .byte (3 : Int32) [(.int (c0.toInt8.toInt32)), (.int 0), (.int 0)] (.int 0) := by
    rw [own_b2 c0] at V2'
    exact V2'
  obtain ⟨cl3, Ar3, -, S3, N3_, H3, G3⟩ := id ((V_a0c.other W2 (own_neArv V_a0c V_a2b (by decide))))
  have hin3 : ¬ ((1 : Int32) < 0 ∨ cl3.slots.size ≤ ((1 : Int32)).toNatClampNeg) := inb_of S3 ⟨(by decide), (by decide)⟩
  have hat3 : cl3.slots[((1 : Int32)).toNatClampNeg]? = some (.int c1) := H3.at hin3 rfl
  obtain ⟨fs, hr, hrun, hended, hW, hsame⟩ := X2.leave (v := some (.int 1)) (fun h => by rw [Bd.returns] at h; cases h)
  refine ⟨_, _, pre0 _ ?_, hrun, hended, _, _, rfl, ?_, ⟨_, rfl⟩, hW, hsame.mono (by decide) (by decide)⟩
  · show Steps p.tables e below (s₁.setTop (mkF m 0 #[.val (.ref a0c), .val (.int 0), .val (.ref a2b), .val (.int 0), .val (.int 3), .unset, .unset] [])) _
    refine XS.iconst X0.here hx rfl (hb hby d6_0) ?_
    refine XS.istore X0.here hx rfl (hb hby d6_1) rfl (l' := #[.val (.ref a0c), .val (.int 0), .val (.ref a2b), .val (.int 0), .val (.int 3), .val (.int 0), .unset]) rfl ?_
    refine XS.iload X0.here hx rfl (hb hby d6_3) rfl ?_
    refine XS.iload X0.here hx rfl (hb hby d6_5) rfl ?_
    show Steps p.tables e below (s₁.setTop (mkF m 7 #[.val (.ref a0c), .val (.int 0), .val (.ref a2b), .val (.int 0), .val (.int 3), .val (.int 0), .unset] [(.int 3), (.int 0)])) _
    refine XS.icmpNo X0.here hx rfl (hb hby d6_7) rfl (tlt (by decide : (0 : Int32) < (3 : Int32))).2.1 ?_
    refine XS.aloadN X0.here hx rfl (hb hby d6_10) rfl rfl ?_
    refine XS.iloadN X0.here hx rfl (hb hby d6_11) rfl ?_
    show Steps p.tables e below (s₁.setTop (mkF m 12 #[.val (.ref a0c), .val (.int 0), .val (.ref a2b), .val (.int 0), .val (.int 3), .val (.int 0), .unset] [(.int 0), (.ref a0c)])) _
    refine X0.caload hx (j := (0 : Int32)) (v := (.int c0)) (by rw [e0]; exact Ar1.1) (State.isArrayOf_alike hZ.alike Ar1.2.1) Ar1.2.2 hin1 hat1 (g := (mkF m 12 #[.val (.ref a0c), .val (.int 0), .val (.ref a2b), .val (.int 0), .val (.int 3), .val (.int 0), .unset] [(.int 0), (.ref a0c)])) rfl rfl (hb hby d6_12) _ ?_
    show Steps p.tables e below (s₁.setTop (mkF m 13 #[.val (.ref a0c), .val (.int 0), .val (.ref a2b), .val (.int 0), .val (.int 3), .val (.int 0), .unset] [(.int c0)])) _
    refine XS.istore X0.here hx rfl (hb hby d6_13) rfl (l' := #[.val (.ref a0c), .val (.int 0), .val (.ref a2b), .val (.int 0), .val (.int 3), .val (.int 0), .val (.int c0)]) rfl ?_
    refine XS.iload X0.here hx rfl (hb hby d6_15) rfl ?_
    refine XS.sipush X0.here hx rfl (hb hby d6_17) ?_
    refine XS.icmpYes X0.here hx rfl (pc0 := 20) (pc' := 26) rfl (hb hby d6_20) rfl (flt hc0).2.2.2 (by decide) (by decide) ?_
    show Steps p.tables e below (s₁.setTop (mkF m 26 #[.val (.ref a0c), .val (.int 0), .val (.ref a2b), .val (.int 0), .val (.int 3), .val (.int 0), .val (.int c0)] [])) _
    refine XS.aloadN X0.here hx rfl (hb hby d6_26) rfl rfl ?_
    refine XS.iloadN X0.here hx rfl (hb hby d6_27) rfl ?_
    refine XS.iload X0.here hx rfl (hb hby d6_28) rfl ?_
    refine XS.i2b X0.here hx rfl (hb hby d6_30) rfl ?_
    show Steps p.tables e below (s₁.setTop (mkF m 31 #[.val (.ref a0c), .val (.int 0), .val (.ref a2b), .val (.int 0), .val (.int 3), .val (.int 0), .val (.int c0)] [(.int (c0.toInt8.toInt32)), (.int 0), (.ref a2b)])) _
    refine st2 _ ?_
    show Steps p.tables e below (T2.setTop (mkF m 32 #[.val (.ref a0c), .val (.int 0), .val (.ref a2b), .val (.int 0), .val (.int 3), .val (.int 0), .val (.int c0)] [])) _
    refine XS.iinc X2.here hx rfl (hb hby d6_32) rfl (l' := #[.val (.ref a0c), .val (.int 1), .val (.ref a2b), .val (.int 0), .val (.int 3), .val (.int 0), .val (.int c0)]) rfl ?_
    refine XS.iinc X2.here hx rfl (hb hby d6_35) rfl (l' := #[.val (.ref a0c), .val (.int 1), .val (.ref a2b), .val (.int 1), .val (.int 3), .val (.int 0), .val (.int c0)]) rfl ?_
    refine XS.iinc X2.here hx rfl (hb hby d6_38) rfl (l' := #[.val (.ref a0c), .val (.int 1), .val (.ref a2b), .val (.int 1), .val (.int 3), .val (.int 1), .val (.int c0)]) rfl ?_
    refine XS.goto X2.here hx rfl (pc0 := 41) (pc' := 3) rfl (hb hby d6_41) (by decide) (by decide) ?_
    show Steps p.tables e below (T2.setTop (mkF m 3 #[.val (.ref a0c), .val (.int 1), .val (.ref a2b), .val (.int 1), .val (.int 3), .val (.int 1), .val (.int c0)] [])) _
    refine XS.iload X2.here hx rfl (hb hby d6_3) rfl ?_
    refine XS.iload X2.here hx rfl (hb hby d6_5) rfl ?_
    refine XS.icmpNo X2.here hx rfl (hb hby d6_7) rfl (tlt (by decide : (1 : Int32) < (3 : Int32))).2.1 ?_
    refine XS.aloadN X2.here hx rfl (hb hby d6_10) rfl rfl ?_
    show Steps p.tables e below (T2.setTop (mkF m 11 #[.val (.ref a0c), .val (.int 1), .val (.ref a2b), .val (.int 1), .val (.int 3), .val (.int 1), .val (.int c0)] [(.ref a0c)])) _
    refine XS.iloadN X2.here hx rfl (hb hby d6_11) rfl ?_
    show Steps p.tables e below (T2.setTop (mkF m 12 #[.val (.ref a0c), .val (.int 1), .val (.ref a2b), .val (.int 1), .val (.int 3), .val (.int 1), .val (.int c0)] [(.int 1), (.ref a0c)])) _
    refine X2.caload hx (j := (1 : Int32)) (v := (.int c1)) (by rw [e2]; exact Ar3.1) (State.isArrayOf_alike hZ.alike Ar3.2.1) Ar3.2.2 hin3 hat3 (g := (mkF m 12 #[.val (.ref a0c), .val (.int 1), .val (.ref a2b), .val (.int 1), .val (.int 3), .val (.int 1), .val (.int c0)] [(.int 1), (.ref a0c)])) rfl rfl (hb hby d6_12) _ ?_
    show Steps p.tables e below (T2.setTop (mkF m 13 #[.val (.ref a0c), .val (.int 1), .val (.ref a2b), .val (.int 1), .val (.int 3), .val (.int 1), .val (.int c0)] [(.int c1)])) _
    refine XS.istore X2.here hx rfl (hb hby d6_13) rfl (l' := #[.val (.ref a0c), .val (.int 1), .val (.ref a2b), .val (.int 1), .val (.int 3), .val (.int 1), .val (.int c1)]) rfl ?_
    refine XS.iload X2.here hx rfl (hb hby d6_15) rfl ?_
    refine XS.sipush X2.here hx rfl (hb hby d6_17) ?_
    refine XS.icmpNo X2.here hx rfl (hb hby d6_20) rfl (tlt hcj).2.2.2 ?_
    show Steps p.tables e below (T2.setTop (mkF m 23 #[.val (.ref a0c), .val (.int 1), .val (.ref a2b), .val (.int 1), .val (.int 3), .val (.int 1), .val (.int c1)] [])) _
    refine XS.iload X2.here hx rfl (hb hby d6_23) rfl ?_
    show Steps p.tables e below (T2.setTop (mkF m 25 #[.val (.ref a0c), .val (.int 1), .val (.ref a2b), .val (.int 1), .val (.int 3), .val (.int 1), .val (.int c1)] [(.int 1)])) _
    exact retI X2 hx Bd.returns (hb hby d6_25) hr
  · show Q_rmC2_3u1 n0 Z cS aRS aEM aUS aSS a0c a2b k0 k2 c0 c1 c2 h0 _ T2.heap _
    rw [e2]
    exact ⟨rfl, N2, K2, V2⟩
def Q_rmGc3_1 (n0 : Nat) (Z : State) (cS : Int32) (aRS : Addr) (aEM : Addr) (aUS : Addr) (aSS : Addr) (a0b : Addr) (k0 : ClassId) (c0 : Int32) (y0 : Int32) (y1 : Int32) (y4 : Int32) (y5 : Int32) (h0 : Heap) (v : Option Value) (h : Heap) (L : List Loc) : Prop := v = some (.int c0) ∧ Fr n0 L ∧ h = h0
set_option maxRecDepth 65536 in
set_option maxHeartbeats 40000000 in
theorem rmGc3_1 (l : Launch) (Z : State) (a0 : Array Value) (hw : ∀ d ∈ tables_1, d.before a0 Z = true) (ws : List Jvm.Cond) (cS : Int32) (aRS : Addr) (aEM : Addr) (aUS : Addr) (aSS : Addr) (a0b : Addr) (k0 : ClassId) (c0 : Int32) (y0 : Int32) (y1 : Int32) (y4 : Int32) (y5 : Int32) (h0 : Heap) (n0 : Nat) (O0 : Old Z n0 h0) (GL : GF Z cS aRS aEM aUS aSS) (V_a0b : Arv Z h0 a0b k0 .byte (6 : Int32) [(.int y0), (.int y1), (.int (c0.toInt8.toInt32)), (.int ((c0 >>> ((8 : Int32) &&& 31)).toInt8.toInt32)), (.int y4), (.int y5)] (.int 0)) (hn : nar .char c0 = c0) :
    MetFree l MN_6 (head1 (Jvm.Cond.code MN_6 jdk_52_method_5_code 2 (some .char) :: ws) ({ frames := 0, cells := 0, slots := 0, locals := 0 } : Room)) (fun a U => a = #[(.ref a0b), (.int 1)] ∧ Z.Warmed39 U.vm ∧ U.heap = h0) (fun _ _ _ _ _ => True) (fun _ U o U' => ∃ v L, o = .returned v ∧ Q_rmGc3_1 n0 Z cS aRS aEM aUS aSS a0b k0 c0 y0 y1 y4 y5 h0 v U'.heap L ∧ FrameEnd U o U' L ({ frames := 0, cells := 0, slots := 0, locals := 0 } : Room).cells ({ frames := 0, cells := 0, slots := 0, locals := 0 } : Room).slots) := by
  refine MetFree.of_bodySF (plainFor_of_name pn) hisR ?_
  intro p e s m args below meth c s₁ Bd hml0 hP hK
  obtain ⟨rfl, hZ, hh⟩ := hP
  have hx := Bd.exec
  have hby := Bd.bytes
  have hml : c.maxLocals = 2 := hml0
  have hown : s.vm.findClass "java/lang/StringUTF16" = some m.cls := findClass_of_methodNamed Bd.named
  have hnm := (name_of_methodNamed Bd.named Bd.method).1
  have X0 : Stand p l e ({ frames := 0, cells := 0, slots := 0, locals := 0 } : Room) s m #[(.ref a0b), (.int 1)] below meth c s₁ [] 0 0 := Stand.of_body Bd
  have e0 : s₁.heap = h0 := by rw [← hh, Bd.state]; rfl
  have N0 := Fr.nil n0
  have pre0 : ∀ t, Steps p.tables e below (s₁.setTop (mkF m 0 #[.val (.ref a0b), .val (.int 1)] [])) t → Steps p.tables e below (s₁.setTop (entryFrame m #[(.ref a0b), (.int 1)] 2)) t := fun t k => castTop (ef_rmGc2_1 m a0b) k
  have GL' := GL
  obtain ⟨GCS, GCP, GSR, GSE, GEE, GFE, GSU, GSS, GA16, GHI, GLO⟩ := GL'
  obtain ⟨T1, X1, e1, st1⟩ := getS2 X0 hx hZ hown (host := "") (Or.inl (Wd hw 132 rfl)) Via.refl e0 (GA16.ext O0.2) (g := (mkF m 0 #[.val (.ref a0b), .val (.int 1)] [])) rfl (hb hby d24_0)
  obtain ⟨cl2, Ar2, -, S2, N2_, H2, G2⟩ := id (V_a0b)
  have hin2 : ¬ ((2 : Int32) < 0 ∨ cl2.slots.size ≤ ((2 : Int32)).toNatClampNeg) := inb_of S2 ⟨(by decide), (by decide)⟩
  have hat2 : cl2.slots[((2 : Int32)).toNatClampNeg]? = some (.int (c0.toInt8.toInt32)) := H2.at hin2 rfl
  obtain ⟨T3, X3, e3, st3⟩ := getS2 X1 hx hZ hown (host := "") (Or.inl (Wd hw 133 rfl)) Via.refl e1 (GHI.ext O0.2) (g := (mkF m 42 #[.val (.ref a0b), .val (.int 3)] [(.int ((c0.toInt8.toInt32) &&& (255 : Int32)))])) rfl (hb hby d24_42)
  obtain ⟨cl4, Ar4, -, S4, N4_, H4, G4⟩ := id (V_a0b)
  have hin4 : ¬ ((3 : Int32) < 0 ∨ cl4.slots.size ≤ ((3 : Int32)).toNatClampNeg) := inb_of S4 ⟨(by decide), (by decide)⟩
  have hat4 : cl4.slots[((3 : Int32)).toNatClampNeg]? = some (.int ((c0 >>> ((8 : Int32) &&& 31)).toInt8.toInt32)) := H4.at hin4 rfl
  obtain ⟨T5, X5, e5, st5⟩ := getS2 X3 hx hZ hown (host := "") (Or.inl (Wd hw 134 rfl)) Via.refl e3 (GLO.ext O0.2) (g := (mkF m 53 #[.val (.ref a0b), .val (.int 3)] [(.int (((c0 >>> ((8 : Int32) &&& 31)).toInt8.toInt32) &&& (255 : Int32))), (.int (((c0.toInt8.toInt32) &&& (255 : Int32)) <<< ((0 : Int32) &&& 31)))])) rfl (hb hby d24_53)
  obtain ⟨fs, hr, hrun, hended, hW, hsame⟩ := X5.leave (v := some (.int (nar .char (((((c0.toInt8.toInt32) &&& (255 : Int32)) <<< ((0 : Int32) &&& 31)) ||| ((((c0 >>> ((8 : Int32) &&& 31)).toInt8.toInt32) &&& (255 : Int32)) <<< ((8 : Int32) &&& 31))).toUInt32.toUInt16.toUInt32.toInt32)))) (fun h => by rw [Bd.returns] at h; cases h)
  refine ⟨_, _, pre0 _ ?_, hrun, hended, _, _, rfl, ?_, ⟨_, rfl⟩, hW, hsame.mono (by decide) (by decide)⟩
  · show Steps p.tables e below (s₁.setTop (mkF m 0 #[.val (.ref a0b), .val (.int 1)] [])) _
    refine st1 _ ?_
    show Steps p.tables e below (T1.setTop (mkF m 3 #[.val (.ref a0b), .val (.int 1)] [(.int 1)])) _
    refine XS.ifYes X1.here hx rfl (pc0 := 3) (pc' := 28) rfl (hb hby d24_3) rfl ((if0 _ _).trans (feq (by decide : ¬ ((1 : Int32) = (0 : Int32)))).2) (by decide) (by decide) ?_
    refine XS.iloadN X1.here hx rfl (hb hby d24_28) rfl ?_
    refine XS.iconst X1.here hx rfl (hb hby d24_29) ?_
    refine XS.ishl X1.here hx rfl (hb hby d24_30) rfl ?_
    show Steps p.tables e below (T1.setTop (mkF m 31 #[.val (.ref a0b), .val (.int 1)] [(.int 2)])) _
    refine XS.istoreN X1.here hx rfl (hb hby d24_31) rfl (l' := #[.val (.ref a0b), .val (.int 2)]) rfl ?_
    refine XS.aloadN X1.here hx rfl (hb hby d24_32) rfl rfl ?_
    refine XS.iloadN X1.here hx rfl (hb hby d24_33) rfl ?_
    refine XS.iinc X1.here hx rfl (hb hby d24_34) rfl (l' := #[.val (.ref a0b), .val (.int 3)]) rfl ?_
    show Steps p.tables e below (T1.setTop (mkF m 37 #[.val (.ref a0b), .val (.int 3)] [(.int 2), (.ref a0b)])) _
    refine X1.baloadBytes hx (j := (2 : Int32)) (v := (.int (c0.toInt8.toInt32))) (by rw [e1]; exact Ar2.1) (State.isArrayOf_alike hZ.alike Ar2.2.1) Ar2.2.2 hin2 hat2 (g := (mkF m 37 #[.val (.ref a0b), .val (.int 3)] [(.int 2), (.ref a0b)])) rfl rfl (hb hby d24_37) _ ?_
    show Steps p.tables e below (T1.setTop (mkF m 38 #[.val (.ref a0b), .val (.int 3)] [(.int (c0.toInt8.toInt32))])) _
    refine XS.sipush X1.here hx rfl (hb hby d24_38) ?_
    refine XS.iand X1.here hx rfl (hb hby d24_41) rfl ?_
    show Steps p.tables e below (T1.setTop (mkF m 42 #[.val (.ref a0b), .val (.int 3)] [(.int ((c0.toInt8.toInt32) &&& (255 : Int32)))])) _
    refine st3 _ ?_
    show Steps p.tables e below (T3.setTop (mkF m 45 #[.val (.ref a0b), .val (.int 3)] [(.int 0), (.int ((c0.toInt8.toInt32) &&& (255 : Int32)))])) _
    refine XS.ishl X3.here hx rfl (hb hby d24_45) rfl ?_
    refine XS.aloadN X3.here hx rfl (hb hby d24_46) rfl rfl ?_
    refine XS.iloadN X3.here hx rfl (hb hby d24_47) rfl ?_
    show Steps p.tables e below (T3.setTop (mkF m 48 #[.val (.ref a0b), .val (.int 3)] [(.int 3), (.ref a0b), (.int (((c0.toInt8.toInt32) &&& (255 : Int32)) <<< ((0 : Int32) &&& 31)))])) _
    refine X3.baloadBytes hx (j := (3 : Int32)) (v := (.int ((c0 >>> ((8 : Int32) &&& 31)).toInt8.toInt32))) (by rw [e3]; exact Ar4.1) (State.isArrayOf_alike hZ.alike Ar4.2.1) Ar4.2.2 hin4 hat4 (g := (mkF m 48 #[.val (.ref a0b), .val (.int 3)] [(.int 3), (.ref a0b), (.int (((c0.toInt8.toInt32) &&& (255 : Int32)) <<< ((0 : Int32) &&& 31)))])) rfl rfl (hb hby d24_48) _ ?_
    show Steps p.tables e below (T3.setTop (mkF m 49 #[.val (.ref a0b), .val (.int 3)] [(.int ((c0 >>> ((8 : Int32) &&& 31)).toInt8.toInt32)), (.int (((c0.toInt8.toInt32) &&& (255 : Int32)) <<< ((0 : Int32) &&& 31)))])) _
    refine XS.sipush X3.here hx rfl (hb hby d24_49) ?_
    refine XS.iand X3.here hx rfl (hb hby d24_52) rfl ?_
    show Steps p.tables e below (T3.setTop (mkF m 53 #[.val (.ref a0b), .val (.int 3)] [(.int (((c0 >>> ((8 : Int32) &&& 31)).toInt8.toInt32) &&& (255 : Int32))), (.int (((c0.toInt8.toInt32) &&& (255 : Int32)) <<< ((0 : Int32) &&& 31)))])) _
    refine st5 _ ?_
    show Steps p.tables e below (T5.setTop (mkF m 56 #[.val (.ref a0b), .val (.int 3)] [(.int 8), (.int (((c0 >>> ((8 : Int32) &&& 31)).toInt8.toInt32) &&& (255 : Int32))), (.int (((c0.toInt8.toInt32) &&& (255 : Int32)) <<< ((0 : Int32) &&& 31)))])) _
    refine XS.ishl X5.here hx rfl (hb hby d24_56) rfl ?_
    refine XS.ior X5.here hx rfl (hb hby d24_57) rfl ?_
    refine XS.i2c X5.here hx rfl (hb hby d24_58) rfl ?_
    show Steps p.tables e below (T5.setTop (mkF m 59 #[.val (.ref a0b), .val (.int 3)] [(.int (((((c0.toInt8.toInt32) &&& (255 : Int32)) <<< ((0 : Int32) &&& 31)) ||| ((((c0 >>> ((8 : Int32) &&& 31)).toInt8.toInt32) &&& (255 : Int32)) <<< ((8 : Int32) &&& 31))).toUInt32.toUInt16.toUInt32.toInt32))])) _
    exact retN X5 hx (t := .char) Bd.returns (by simp) (hb hby d24_59) hr
  · show Q_rmGc3_1 n0 Z cS aRS aEM aUS aSS a0b k0 c0 y0 y1 y4 y5 h0 _ T5.heap _
    rw [e5]
    exact ⟨(congrArg (fun z => some (Value.int z)) (own_utf c0 hn)), N0, rfl⟩
def Q_rmC1_3u1 (n0 : Nat) (Z : State) (cS : Int32) (aRS : Addr) (aEM : Addr) (aUS : Addr) (aSS : Addr) (a0c : Addr) (k0 : ClassId) (c0 : Int32) (c1 : Int32) (c2 : Int32) (h0 : Heap) (v : Option Value) (h : Heap) (L : List Loc) : Prop := ∃ b : Addr, ∃ kb : ClassId, v = some (.ref b) ∧ Fr n0 L ∧ Keep h0 h [] ∧ (h0.size ≤ b) ∧ (Exa Z h b "[B") ∧ (Arv Z h b kb .byte (6 : Int32) [(.int (c0.toInt8.toInt32)), (.int ((c0 >>> ((8 : Int32) &&& 31)).toInt8.toInt32)), (.int (c1.toInt8.toInt32)), (.int ((c1 >>> ((8 : Int32) &&& 31)).toInt8.toInt32)), (.int (c2.toInt8.toInt32)), (.int ((c2 >>> ((8 : Int32) &&& 31)).toInt8.toInt32))] (.int 0))
set_option maxRecDepth 65536 in
set_option maxHeartbeats 40000000 in
theorem rmC1_3u1 (l : Launch) (Z : State) (a0 : Array Value) (hw : ∀ d ∈ tables_1, d.before a0 Z = true) (ws : List Jvm.Cond) (cS : Int32) (aRS : Addr) (aEM : Addr) (aUS : Addr) (aSS : Addr) (a0c : Addr) (k0 : ClassId) (c0 : Int32) (c1 : Int32) (c2 : Int32) (h0 : Heap) (n0 : Nat) (O0 : Old Z n0 h0) (GL : GF Z cS aRS aEM aUS aSS) (V_a0c : Arv Z h0 a0c k0 .char (3 : Int32) [(.int c0), (.int c1), (.int c2)] (.int 0)) (hc0 : ¬ ((255 : Int32) < c0)) (hcj : (255 : Int32) < c1) (hnj : nar .char c1 = c1) :
    MetFree l MN_1 (head1 (Jvm.Cond.code MN_1 jdk_52_method_16_code 6 (some (.array .byte)) :: ws) ({ frames := 3, cells := 2, slots := 9, locals := 40 } : Room)) (fun a U => a = #[(.ref a0c), (.int 0), (.int 3)] ∧ Z.Warmed39 U.vm ∧ U.heap = h0) (fun _ _ _ _ _ => True) (fun _ U o U' => ∃ v L, o = .returned v ∧ Q_rmC1_3u1 n0 Z cS aRS aEM aUS aSS a0c k0 c0 c1 c2 h0 v U'.heap L ∧ FrameEnd U o U' L ({ frames := 3, cells := 2, slots := 9, locals := 40 } : Room).cells ({ frames := 3, cells := 2, slots := 9, locals := 40 } : Room).slots) := by
  refine MetFree.of_bodySF (plainFor_of_name pn) hisR ?_
  intro p e s m args below meth c s₁ Bd hml0 hP hK
  obtain ⟨rfl, hZ, hh⟩ := hP
  have hx := Bd.exec
  have hby := Bd.bytes
  have hml : c.maxLocals = 6 := hml0
  have hown : s.vm.findClass "java/lang/StringUTF16" = some m.cls := findClass_of_methodNamed Bd.named
  have hnm := (name_of_methodNamed Bd.named Bd.method).1
  have X0 : Stand p l e ({ frames := 3, cells := 2, slots := 9, locals := 40 } : Room) s m #[(.ref a0c), (.int 0), (.int 3)] below meth c s₁ [] 0 0 := Stand.of_body Bd
  have e0 : s₁.heap = h0 := by rw [← hh, Bd.state]; rfl
  have N0 := Fr.nil n0
  have pre0 : ∀ t, Steps p.tables e below (s₁.setTop (mkF m 0 #[.val (.ref a0c), .val (.int 0), .val (.int 3), .unset, .unset, .unset] [])) t → Steps p.tables e below (s₁.setTop (entryFrame m #[(.ref a0c), (.int 0), (.int 3)] 6)) t := fun t k => castTop (ef_rmC1_3 m a0c) k
  have GL' := GL
  obtain ⟨GCS, GCP, GSR, GSE, GEE, GFE, GSU, GSS, GA16, GHI, GLO⟩ := GL'
  obtain ⟨T1, h1, k1, X1, e1, E1, A1, A1', st1⟩ := newPE X0 hx hZ (Wd hw 24 rfl) e0 (g := (mkF m 1 #[.val (.ref a0c), .val (.int 0), .val (.int 3), .unset, .unset, .unset] [(.int 3)])) rfl (hb hby d5_1) rfl (by decide) (cap := 3) (by decide) (by decide) (by decide) (by decide) (ad := "[B") rfl
  obtain ⟨b1, g1⟩ : ∃ z, z = h0.size := ⟨_, rfl⟩
  rw [← g1] at A1 A1' st1
  have g_b1 : n0 ≤ b1 := Nat.le_trans (own_sz O0) (Nat.le_of_eq g1.symm)
  have sz_b1 : h0.size ≤ b1 := Nat.le_trans (Keep.refl h0 []).1 (Nat.le_of_eq g1.symm)
  have K1 : Keep h0 h1 [] := (Keep.refl h0 []).ext E1
  have O1 := O0.ext E1
  have V_b1 : Arv Z h1 b1 k1 .byte (3 : Int32) [(.int 0), (.int 0), (.int 0)] (.int 0) := (Arv.new A1 (by decide)).pad (pad_rep [] (.int 0) 3)
  obtain ⟨_, _, ⟨T2, L2, k2, n2⟩, -, X2, ⟨Lc2, hQ2, l2, y2, z2⟩, st2⟩ := Jvm.LawKit.callS X1 hx (y := MN_0) hown (mvT hZ (Wd hw 25 rfl)) (mvT hZ (Wd hw 26 rfl)) (mvT hZ (Wd hw 22 rfl)) (mvT hZ (Wd hw 27 rfl)) (by decide) (backOf (W := 0) (rmC2_3u1 l Z a0 hw [] cS aRS aEM aUS aSS (a0c) (b1) (k0) (k1) (c0) (c1) (c2) (h1) n0 O1 GL (V_a0c.ext E1) V_b1 g_b1 hc0 hcj) hZ (Wd hw 27 rfl) (Wd hw 22 rfl) (by decide) (by decide)) (g := (mkF m 9 #[.val (.ref a0c), .val (.int 0), .val (.int 3), .val (.ref b1), .unset, .unset] [(.int 3), (.int 0), (.ref b1), (.int 0), (.ref a0c)])) rfl (by rw [hml]; rfl) (argsL := [(.ref a0c), (.int 0), (.ref b1), (.int 0), (.int 3)]) (rest := []) (lenOf pd rfl) rfl (by show 2 * 0 + _ ≤ _; exact Nat.le_of_eq rfl) (hb hby d5_9) (fun _ _ => ⟨rfl, e1, (by decide : 1 + 0 ≤ _), (by decide : 3 + 0 ≤ _)⟩)
  dsimp only [Pt.U, Pt.locs, Pt.cells, Pt.slots] at X2 l2 y2 z2 st2 hQ2
  subst l2 y2 z2
  obtain ⟨rfl, N2q, Kc2, P2_0⟩ := hQ2
  have K2 : Keep h0 T2.heap [] := K1.trans Kc2 (allS (Or.inr sz_b1) all0)
  have O2 := O1.keep Kc2 (allS g_b1 all0)
  have N2 := Fr.app N0 N2q
  obtain ⟨_, _, ⟨T3, L3, k3, n3⟩, -, X3, ⟨Lc3, hQ3, l3, y3, z3⟩, st3⟩ := Jvm.LawKit.callS X2 hx (y := MN_5) hown (mvT hZ (Wd hw 119 rfl)) (mvT hZ (Wd hw 120 rfl)) (mvT hZ (Wd hw 22 rfl)) (mvT hZ (Wd hw 121 rfl)) (by decide) (backOf (W := 0) (rmTb3 l Z a0 hw [] cS aRS aEM aUS aSS (a0c) (k0) (c0) (c1) (c2) (T2.heap) n0 O2 GL ((V_a0c.ext E1).keep Kc2 (ninS (Nat.ne_of_lt (Nat.lt_of_lt_of_le V_a0c.lt (Nat.le_of_eq g1.symm))) nin0))) hZ (Wd hw 121 rfl) (Wd hw 22 rfl) (by decide) (by decide)) (g := (mkF m 23 #[.val (.ref a0c), .val (.int 0), .val (.int 3), .val (.ref b1), .val (.int 1), .unset] [(.int 3), (.int 0), (.ref a0c)])) rfl (by rw [hml]; rfl) (argsL := [(.ref a0c), (.int 0), (.int 3)]) (rest := []) (lenOf pdv4 rfl) rfl (by show 2 * 0 + _ ≤ _; exact Nat.le_of_eq rfl) (hb hby d5_23) (fun _ _ => ⟨rfl, rfl, (by decide : 1 + 1 ≤ _), (by decide : 3 + 6 ≤ _)⟩)
  dsimp only [Pt.U, Pt.locs, Pt.cells, Pt.slots] at X3 l3 y3 z3 st3 hQ3
  subst l3 y3 z3
  obtain ⟨b_3, kb_3, rfl, N3q, Kc3, P3_0, P3_1, P3_2⟩ := hQ3
  have K3 : Keep h0 T3.heap [] := K2.trans Kc3 all0
  have O3 := O2.keep Kc3 all0
  have g_b_3 : n0 ≤ b_3 := Nat.le_trans (own_sz O2) P3_0
  have sz_b_3 : h0.size ≤ b_3 := Nat.le_trans K2.1 P3_0
  have N3 := Fr.app N2 N3q
  obtain ⟨_, _, ⟨T4, L4, k4, n4⟩, -, X4, ⟨Lc4, hQ4, l4, y4, z4⟩, st4⟩ := Jvm.LawKit.callS X3 hx (y := MN_6) hown (mvT hZ (Wd hw 135 rfl)) (mvT hZ (Wd hw 136 rfl)) (mvT hZ (Wd hw 22 rfl)) (mvT hZ (Wd hw 137 rfl)) (by decide) (backOf (W := 0) (rmGc3_1 l Z a0 hw [] cS aRS aEM aUS aSS (b_3) (kb_3) (c1) ((c0.toInt8.toInt32)) (((c0 >>> ((8 : Int32) &&& 31)).toInt8.toInt32)) ((c2.toInt8.toInt32)) (((c2 >>> ((8 : Int32) &&& 31)).toInt8.toInt32)) (T3.heap) n0 O3 GL P3_2 hnj) hZ (Wd hw 137 rfl) (Wd hw 22 rfl) (by decide) (by decide)) (g := (mkF m 32 #[.val (.ref a0c), .val (.int 0), .val (.int 3), .val (.ref b1), .val (.int 1), .val (.ref b_3)] [(.int 1), (.ref b_3)])) rfl (by rw [hml]; rfl) (argsL := [(.ref b_3), (.int 1)]) (rest := []) (lenOf pdv5 rfl) rfl (by show 2 * 0 + _ ≤ _; exact Nat.le_of_eq rfl) (hb hby d5_32) (fun _ _ => ⟨rfl, rfl, (by decide : 2 + 0 ≤ _), (by decide : 9 + 0 ≤ _)⟩)
  dsimp only [Pt.U, Pt.locs, Pt.cells, Pt.slots] at X4 l4 y4 z4 st4 hQ4
  subst l4 y4 z4
  obtain ⟨rfl, N4q, e4⟩ := hQ4
  have N4 := Fr.app N3 N4q
  obtain ⟨fs, hr, hrun, hended, hW, hsame⟩ := X4.leave (v := some (.ref b_3)) (fun h => by rw [Bd.returns] at h; cases h)
  refine ⟨_, _, pre0 _ ?_, hrun, hended, _, _, rfl, ?_, ⟨_, rfl⟩, hW, hsame.mono (by decide) (by decide)⟩
  · show Steps p.tables e below (s₁.setTop (mkF m 0 #[.val (.ref a0c), .val (.int 0), .val (.int 3), .unset, .unset, .unset] [])) _
    refine XS.iloadN X0.here hx rfl (hb hby d5_0) rfl ?_
    show Steps p.tables e below (s₁.setTop (mkF m 1 #[.val (.ref a0c), .val (.int 0), .val (.int 3), .unset, .unset, .unset] [(.int 3)])) _
    refine st1 _ ?_
    show Steps p.tables e below (T1.setTop (mkF m 3 #[.val (.ref a0c), .val (.int 0), .val (.int 3), .unset, .unset, .unset] [(.ref b1)])) _
    refine XS.astoreN X1.here hx rfl (hb hby d5_3) rfl rfl (l' := #[.val (.ref a0c), .val (.int 0), .val (.int 3), .val (.ref b1), .unset, .unset]) rfl ?_
    refine XS.aloadN X1.here hx rfl (hb hby d5_4) rfl rfl ?_
    refine XS.iloadN X1.here hx rfl (hb hby d5_5) rfl ?_
    refine XS.aloadN X1.here hx rfl (hb hby d5_6) rfl rfl ?_
    show Steps p.tables e below (T1.setTop (mkF m 7 #[.val (.ref a0c), .val (.int 0), .val (.int 3), .val (.ref b1), .unset, .unset] [(.ref b1), (.int 0), (.ref a0c)])) _
    refine XS.iconst X1.here hx rfl (hb hby d5_7) ?_
    refine XS.iloadN X1.here hx rfl (hb hby d5_8) rfl ?_
    show Steps p.tables e below (T1.setTop (mkF m 9 #[.val (.ref a0c), .val (.int 0), .val (.int 3), .val (.ref b1), .unset, .unset] [(.int 3), (.int 0), (.ref b1), (.int 0), (.ref a0c)])) _
    refine st2 _ ?_
    show Steps p.tables e below (T2.setTop (mkF m 12 #[.val (.ref a0c), .val (.int 0), .val (.int 3), .val (.ref b1), .unset, .unset] [(.int 1)])) _
    refine XS.istore X2.here hx rfl (hb hby d5_12) rfl (l' := #[.val (.ref a0c), .val (.int 0), .val (.int 3), .val (.ref b1), .val (.int 1), .unset]) rfl ?_
    refine XS.iload X2.here hx rfl (hb hby d5_14) rfl ?_
    refine XS.iloadN X2.here hx rfl (hb hby d5_16) rfl ?_
    refine XS.icmpNo X2.here hx rfl (hb hby d5_17) rfl (feq (by decide : ¬ ((1 : Int32) = (3 : Int32)))).1 ?_
    show Steps p.tables e below (T2.setTop (mkF m 20 #[.val (.ref a0c), .val (.int 0), .val (.int 3), .val (.ref b1), .val (.int 1), .unset] [])) _
    refine XS.aloadN X2.here hx rfl (hb hby d5_20) rfl rfl ?_
    refine XS.iloadN X2.here hx rfl (hb hby d5_21) rfl ?_
    refine XS.iloadN X2.here hx rfl (hb hby d5_22) rfl ?_
    show Steps p.tables e below (T2.setTop (mkF m 23 #[.val (.ref a0c), .val (.int 0), .val (.int 3), .val (.ref b1), .val (.int 1), .unset] [(.int 3), (.int 0), (.ref a0c)])) _
    refine st3 _ ?_
    show Steps p.tables e below (T3.setTop (mkF m 26 #[.val (.ref a0c), .val (.int 0), .val (.int 3), .val (.ref b1), .val (.int 1), .unset] [(.ref b_3)])) _
    refine XS.astore X3.here hx rfl (hb hby d5_26) rfl rfl (l' := #[.val (.ref a0c), .val (.int 0), .val (.int 3), .val (.ref b1), .val (.int 1), .val (.ref b_3)]) rfl ?_
    refine XS.aload X3.here hx rfl (hb hby d5_28) rfl rfl ?_
    refine XS.iload X3.here hx rfl (hb hby d5_30) rfl ?_
    show Steps p.tables e below (T3.setTop (mkF m 32 #[.val (.ref a0c), .val (.int 0), .val (.int 3), .val (.ref b1), .val (.int 1), .val (.ref b_3)] [(.int 1), (.ref b_3)])) _
    refine st4 _ ?_
    show Steps p.tables e below (T4.setTop (mkF m 35 #[.val (.ref a0c), .val (.int 0), .val (.int 3), .val (.ref b1), .val (.int 1), .val (.ref b_3)] [(.int c1)])) _
    refine XS.sipush X4.here hx rfl (hb hby d5_35) ?_
    refine XS.icmpYes X4.here hx rfl (pc0 := 38) (pc' := 54) rfl (hb hby d5_38) rfl (tlt hcj).2.2.1 (by decide) (by decide) ?_
    refine XS.aload X4.here hx rfl (hb hby d5_54) rfl rfl ?_
    show Steps p.tables e below (T4.setTop (mkF m 56 #[.val (.ref a0c), .val (.int 0), .val (.int 3), .val (.ref b1), .val (.int 1), .val (.ref b_3)] [(.ref b_3)])) _
    jvm_step X4.here [X4.here.top, hx, (hb hby d5_56), X4.method', Bd.returns, Value.isRef, FieldType.isReference]
    first | (intro acts; rw [hr _ acts rfl rfl rfl]) | rw [hr _ _ rfl rfl rfl]
    exact Steps.refl _
  · show Q_rmC1_3u1 n0 Z cS aRS aEM aUS aSS a0c k0 c0 c1 c2 h0 _ T4.heap _
    rw [e4]
    exact ⟨b_3, kb_3, rfl, N4, K3, sz_b_3, P3_1, P3_2⟩
def Q_rmC2_3u2 (n0 : Nat) (Z : State) (cS : Int32) (aRS : Addr) (aEM : Addr) (aUS : Addr) (aSS : Addr) (a0c : Addr) (a2b : Addr) (k0 : ClassId) (k2 : ClassId) (c0 : Int32) (c1 : Int32) (c2 : Int32) (h0 : Heap) (v : Option Value) (h : Heap) (L : List Loc) : Prop := v = some (.int 2) ∧ Fr n0 L ∧ Keep h0 h [a2b] ∧ (Arv Z h a2b k2 .byte (3 : Int32) [(.int (c0.toInt8.toInt32)), (.int (c1.toInt8.toInt32)), (.int 0)] (.int 0))
set_option maxRecDepth 65536 in
set_option maxHeartbeats 40000000 in
theorem rmC2_3u2 (l : Launch) (Z : State) (a0 : Array Value) (hw : ∀ d ∈ tables_1, d.before a0 Z = true) (ws : List Jvm.Cond) (cS : Int32) (aRS : Addr) (aEM : Addr) (aUS : Addr) (aSS : Addr) (a0c : Addr) (a2b : Addr) (k0 : ClassId) (k2 : ClassId) (c0 : Int32) (c1 : Int32) (c2 : Int32) (h0 : Heap) (n0 : Nat) (O0 : Old Z n0 h0) (GL : GF Z cS aRS aEM aUS aSS) (V_a0c : Arv Z h0 a0c k0 .char (3 : Int32) [(.int c0), (.int c1), (.int c2)] (.int 0)) (V_a2b : Arv Z h0 a2b k2 .byte (3 : Int32) [(.int 0), (.int 0), (.int 0)] (.int 0)) (g_a2b : n0 ≤ a2b) (hc0 : ¬ ((255 : Int32) < c0)) (hc1 : ¬ ((255 : Int32) < c1)) (hcj : (255 : Int32) < c2) :
    MetFree l MN_0 (head1 (Jvm.Cond.code MN_0 jdk_52_method_21_code 7 (some .int) :: ws) ({ frames := 0, cells := 0, slots := 0, locals := 0 } : Room)) (fun a U => a = #[(.ref a0c), (.int 0), (.ref a2b), (.int 0), (.int 3)] ∧ Z.Warmed39 U.vm ∧ U.heap = h0) (fun _ _ _ _ _ => True) (fun _ U o U' => ∃ v L, o = .returned v ∧ Q_rmC2_3u2 n0 Z cS aRS aEM aUS aSS a0c a2b k0 k2 c0 c1 c2 h0 v U'.heap L ∧ FrameEnd U o U' L ({ frames := 0, cells := 0, slots := 0, locals := 0 } : Room).cells ({ frames := 0, cells := 0, slots := 0, locals := 0 } : Room).slots) := by
  refine MetFree.of_bodySF (plainFor_of_name pn) hisR ?_
  intro p e s m args below meth c s₁ Bd hml0 hP hK
  obtain ⟨rfl, hZ, hh⟩ := hP
  have hx := Bd.exec
  have hby := Bd.bytes
  have hml : c.maxLocals = 7 := hml0
  have hown : s.vm.findClass "java/lang/StringUTF16" = some m.cls := findClass_of_methodNamed Bd.named
  have hnm := (name_of_methodNamed Bd.named Bd.method).1
  have X0 : Stand p l e ({ frames := 0, cells := 0, slots := 0, locals := 0 } : Room) s m #[(.ref a0c), (.int 0), (.ref a2b), (.int 0), (.int 3)] below meth c s₁ [] 0 0 := Stand.of_body Bd
  have e0 : s₁.heap = h0 := by rw [← hh, Bd.state]; rfl
  have N0 := Fr.nil n0
  have pre0 : ∀ t, Steps p.tables e below (s₁.setTop (mkF m 0 #[.val (.ref a0c), .val (.int 0), .val (.ref a2b), .val (.int 0), .val (.int 3), .unset, .unset] [])) t → Steps p.tables e below (s₁.setTop (entryFrame m #[(.ref a0c), (.int 0), (.ref a2b), (.int 0), (.int 3)] 7)) t := fun t k => castTop (ef_rmC2_3 m a0c a2b) k
  have GL' := GL
  obtain ⟨GCS, GCP, GSR, GSE, GEE, GFE, GSU, GSS, GA16, GHI, GLO⟩ := GL'
  obtain ⟨cl1, Ar1, -, S1, N1_, H1, G1⟩ := id (V_a0c)
  have hin1 : ¬ ((0 : Int32) < 0 ∨ cl1.slots.size ≤ ((0 : Int32)).toNatClampNeg) := inb_of S1 ⟨(by decide), (by decide)⟩
  have hat1 : cl1.slots[((0 : Int32)).toNatClampNeg]? = some (.int c0) := H1.at hin1 rfl
  obtain ⟨cl2, Ar2, q2, S2, N2_, H2, G2⟩ := id (V_a2b)
  have hin2 : ¬ ((0 : Int32) < 0 ∨ cl2.slots.size ≤ ((0 : Int32)).toNatClampNeg) := inb_of S2 ⟨(by decide), (by decide)⟩
  obtain ⟨T2, h2, X2, e2, W2, st2⟩ := stB X0 hx hZ e0 Ar2 (j := (0 : Int32)) hin2 (g := (mkF m 31 #[.val (.ref a0c), .val (.int 0), .val (.ref a2b), .val (.int 0), .val (.int 3), .val (.int 0), .val (.int c0)] [(.int (c0.toInt8.toInt32)), (.int 0), (.ref a2b)])) rfl rfl (hb hby d6_31)
  have K2 : Keep h0 h2 [a2b] := (Keep.refl h0 [a2b]).wr W2 (Or.inl (List.mem_of_getElem? (i := 0) rfl))
  have O2 := O0.wr W2 g_a2b
  have N2 := Fr.snoc X2 N0 g_a2b
  have V2' : Arv Z h2 a2b k2 .byte (3 : Int32) [(.int ((c0.toInt8.toInt32)).toInt8.toInt32), (.int 0), (.int 0)] (.int 0) := Arv.set Ar2 q2 S2 N2_ H2 G2 (fits_nar_byte _) W2 0 rfl (Nat.le_of_ble_eq_true rfl)
  have V2 : Arv Z h2 a2b k2 .byte (3 : Int32) [(.int (c0.toInt8.toInt32)), (.int 0), (.int 0)] (.int 0) := by
    rw [own_b2 c0] at V2'
    exact V2'
  obtain ⟨cl3, Ar3, -, S3, N3_, H3, G3⟩ := id ((V_a0c.other W2 (own_neArv V_a0c V_a2b (by decide))))
  have hin3 : ¬ ((1 : Int32) < 0 ∨ cl3.slots.size ≤ ((1 : Int32)).toNatClampNeg) := inb_of S3 ⟨(by decide), (by decide)⟩
  have hat3 : cl3.slots[((1 : Int32)).toNatClampNeg]? = some (.int c1) := H3.at hin3 rfl
  obtain ⟨cl4, Ar4, q4, S4, N4_, H4, G4⟩ := id (V2)
  have hin4 : ¬ ((1 : Int32) < 0 ∨ cl4.slots.size ≤ ((1 : Int32)).toNatClampNeg) := inb_of S4 ⟨(by decide), (by decide)⟩
  obtain ⟨T4, h4, X4, e4, W4, st4⟩ := stB X2 hx hZ e2 Ar4 (j := (1 : Int32)) hin4 (g := (mkF m 31 #[.val (.ref a0c), .val (.int 1), .val (.ref a2b), .val (.int 1), .val (.int 3), .val (.int 1), .val (.int c1)] [(.int (c1.toInt8.toInt32)), (.int 1), (.ref a2b)])) rfl rfl (hb hby d6_31)
  have K4 : Keep h0 h4 [a2b] := K2.wr W4 (Or.inl (List.mem_of_getElem? (i := 0) rfl))
  have O4 := O2.wr W4 g_a2b
  have N4 := Fr.snoc X4 N2 g_a2b
  have V4' : Arv Z h4 a2b k2 .byte (3 : Int32) [(.int (c0.toInt8.toInt32)), (.int ((c1.toInt8.toInt32)).toInt8.toInt32), (.int 0)] (.int 0) := Arv.set Ar4 q4 S4 N4_ H4 G4 (fits_nar_byte _) W4 1 rfl (Nat.le_of_ble_eq_true rfl)
  have V4 : Arv Z h4 a2b k2 .byte (3 : Int32) [(.int (c0.toInt8.toInt32)), (.int (c1.toInt8.toInt32)), (.int 0)] (.int 0) := by
    rw [own_b2 c1] at V4'
    exact V4'
  obtain ⟨cl5, Ar5, -, S5, N5_, H5, G5⟩ := id (((V_a0c.other W2 (own_neArv V_a0c V_a2b (by decide))).other W4 (own_neArv V_a0c V_a2b (by decide))))
  have hin5 : ¬ ((2 : Int32) < 0 ∨ cl5.slots.size ≤ ((2 : Int32)).toNatClampNeg) := inb_of S5 ⟨(by decide), (by decide)⟩
  have hat5 : cl5.slots[((2 : Int32)).toNatClampNeg]? = some (.int c2) := H5.at hin5 rfl
  obtain ⟨fs, hr, hrun, hended, hW, hsame⟩ := X4.leave (v := some (.int 2)) (fun h => by rw [Bd.returns] at h; cases h)
  refine ⟨_, _, pre0 _ ?_, hrun, hended, _, _, rfl, ?_, ⟨_, rfl⟩, hW, hsame.mono (by decide) (by decide)⟩
  · show Steps p.tables e below (s₁.setTop (mkF m 0 #[.val (.ref a0c), .val (.int 0), .val (.ref a2b), .val (.int 0), .val (.int 3), .unset, .unset] [])) _
    refine XS.iconst X0.here hx rfl (hb hby d6_0) ?_
    refine XS.istore X0.here hx rfl (hb hby d6_1) rfl (l' := #[.val (.ref a0c), .val (.int 0), .val (.ref a2b), .val (.int 0), .val (.int 3), .val (.int 0), .unset]) rfl ?_
    refine XS.iload X0.here hx rfl (hb hby d6_3) rfl ?_
    refine XS.iload X0.here hx rfl (hb hby d6_5) rfl ?_
    show Steps p.tables e below (s₁.setTop (mkF m 7 #[.val (.ref a0c), .val (.int 0), .val (.ref a2b), .val (.int 0), .val (.int 3), .val (.int 0), .unset] [(.int 3), (.int 0)])) _
    refine XS.icmpNo X0.here hx rfl (hb hby d6_7) rfl (tlt (by decide : (0 : Int32) < (3 : Int32))).2.1 ?_
    refine XS.aloadN X0.here hx rfl (hb hby d6_10) rfl rfl ?_
    refine XS.iloadN X0.here hx rfl (hb hby d6_11) rfl ?_
    show Steps p.tables e below (s₁.setTop (mkF m 12 #[.val (.ref a0c), .val (.int 0), .val (.ref a2b), .val (.int 0), .val (.int 3), .val (.int 0), .unset] [(.int 0), (.ref a0c)])) _
    refine X0.caload hx (j := (0 : Int32)) (v := (.int c0)) (by rw [e0]; exact Ar1.1) (State.isArrayOf_alike hZ.alike Ar1.2.1) Ar1.2.2 hin1 hat1 (g := (mkF m 12 #[.val (.ref a0c), .val (.int 0), .val (.ref a2b), .val (.int 0), .val (.int 3), .val (.int 0), .unset] [(.int 0), (.ref a0c)])) rfl rfl (hb hby d6_12) _ ?_
    show Steps p.tables e below (s₁.setTop (mkF m 13 #[.val (.ref a0c), .val (.int 0), .val (.ref a2b), .val (.int 0), .val (.int 3), .val (.int 0), .unset] [(.int c0)])) _
    refine XS.istore X0.here hx rfl (hb hby d6_13) rfl (l' := #[.val (.ref a0c), .val (.int 0), .val (.ref a2b), .val (.int 0), .val (.int 3), .val (.int 0), .val (.int c0)]) rfl ?_
    refine XS.iload X0.here hx rfl (hb hby d6_15) rfl ?_
    refine XS.sipush X0.here hx rfl (hb hby d6_17) ?_
    refine XS.icmpYes X0.here hx rfl (pc0 := 20) (pc' := 26) rfl (hb hby d6_20) rfl (flt hc0).2.2.2 (by decide) (by decide) ?_
    show Steps p.tables e below (s₁.setTop (mkF m 26 #[.val (.ref a0c), .val (.int 0), .val (.ref a2b), .val (.int 0), .val (.int 3), .val (.int 0), .val (.int c0)] [])) _
    refine XS.aloadN X0.here hx rfl (hb hby d6_26) rfl rfl ?_
    refine XS.iloadN X0.here hx rfl (hb hby d6_27) rfl ?_
    refine XS.iload X0.here hx rfl (hb hby d6_28) rfl ?_
    refine XS.i2b X0.here hx rfl (hb hby d6_30) rfl ?_
    show Steps p.tables e below (s₁.setTop (mkF m 31 #[.val (.ref a0c), .val (.int 0), .val (.ref a2b), .val (.int 0), .val (.int 3), .val (.int 0), .val (.int c0)] [(.int (c0.toInt8.toInt32)), (.int 0), (.ref a2b)])) _
    refine st2 _ ?_
    show Steps p.tables e below (T2.setTop (mkF m 32 #[.val (.ref a0c), .val (.int 0), .val (.ref a2b), .val (.int 0), .val (.int 3), .val (.int 0), .val (.int c0)] [])) _
    refine XS.iinc X2.here hx rfl (hb hby d6_32) rfl (l' := #[.val (.ref a0c), .val (.int 1), .val (.ref a2b), .val (.int 0), .val (.int 3), .val (.int 0), .val (.int c0)]) rfl ?_
    refine XS.iinc X2.here hx rfl (hb hby d6_35) rfl (l' := #[.val (.ref a0c), .val (.int 1), .val (.ref a2b), .val (.int 1), .val (.int 3), .val (.int 0), .val (.int c0)]) rfl ?_
    refine XS.iinc X2.here hx rfl (hb hby d6_38) rfl (l' := #[.val (.ref a0c), .val (.int 1), .val (.ref a2b), .val (.int 1), .val (.int 3), .val (.int 1), .val (.int c0)]) rfl ?_
    refine XS.goto X2.here hx rfl (pc0 := 41) (pc' := 3) rfl (hb hby d6_41) (by decide) (by decide) ?_
    show Steps p.tables e below (T2.setTop (mkF m 3 #[.val (.ref a0c), .val (.int 1), .val (.ref a2b), .val (.int 1), .val (.int 3), .val (.int 1), .val (.int c0)] [])) _
    refine XS.iload X2.here hx rfl (hb hby d6_3) rfl ?_
    refine XS.iload X2.here hx rfl (hb hby d6_5) rfl ?_
    refine XS.icmpNo X2.here hx rfl (hb hby d6_7) rfl (tlt (by decide : (1 : Int32) < (3 : Int32))).2.1 ?_
    refine XS.aloadN X2.here hx rfl (hb hby d6_10) rfl rfl ?_
    show Steps p.tables e below (T2.setTop (mkF m 11 #[.val (.ref a0c), .val (.int 1), .val (.ref a2b), .val (.int 1), .val (.int 3), .val (.int 1), .val (.int c0)] [(.ref a0c)])) _
    refine XS.iloadN X2.here hx rfl (hb hby d6_11) rfl ?_
    show Steps p.tables e below (T2.setTop (mkF m 12 #[.val (.ref a0c), .val (.int 1), .val (.ref a2b), .val (.int 1), .val (.int 3), .val (.int 1), .val (.int c0)] [(.int 1), (.ref a0c)])) _
    refine X2.caload hx (j := (1 : Int32)) (v := (.int c1)) (by rw [e2]; exact Ar3.1) (State.isArrayOf_alike hZ.alike Ar3.2.1) Ar3.2.2 hin3 hat3 (g := (mkF m 12 #[.val (.ref a0c), .val (.int 1), .val (.ref a2b), .val (.int 1), .val (.int 3), .val (.int 1), .val (.int c0)] [(.int 1), (.ref a0c)])) rfl rfl (hb hby d6_12) _ ?_
    show Steps p.tables e below (T2.setTop (mkF m 13 #[.val (.ref a0c), .val (.int 1), .val (.ref a2b), .val (.int 1), .val (.int 3), .val (.int 1), .val (.int c0)] [(.int c1)])) _
    refine XS.istore X2.here hx rfl (hb hby d6_13) rfl (l' := #[.val (.ref a0c), .val (.int 1), .val (.ref a2b), .val (.int 1), .val (.int 3), .val (.int 1), .val (.int c1)]) rfl ?_
    refine XS.iload X2.here hx rfl (hb hby d6_15) rfl ?_
    refine XS.sipush X2.here hx rfl (hb hby d6_17) ?_
    refine XS.icmpYes X2.here hx rfl (pc0 := 20) (pc' := 26) rfl (hb hby d6_20) rfl (flt hc1).2.2.2 (by decide) (by decide) ?_
    show Steps p.tables e below (T2.setTop (mkF m 26 #[.val (.ref a0c), .val (.int 1), .val (.ref a2b), .val (.int 1), .val (.int 3), .val (.int 1), .val (.int c1)] [])) _
    refine XS.aloadN X2.here hx rfl (hb hby d6_26) rfl rfl ?_
    refine XS.iloadN X2.here hx rfl (hb hby d6_27) rfl ?_
    refine XS.iload X2.here hx rfl (hb hby d6_28) rfl ?_
    refine XS.i2b X2.here hx rfl (hb hby d6_30) rfl ?_
    show Steps p.tables e below (T2.setTop (mkF m 31 #[.val (.ref a0c), .val (.int 1), .val (.ref a2b), .val (.int 1), .val (.int 3), .val (.int 1), .val (.int c1)] [(.int (c1.toInt8.toInt32)), (.int 1), (.ref a2b)])) _
    refine st4 _ ?_
    show Steps p.tables e below (T4.setTop (mkF m 32 #[.val (.ref a0c), .val (.int 1), .val (.ref a2b), .val (.int 1), .val (.int 3), .val (.int 1), .val (.int c1)] [])) _
    refine XS.iinc X4.here hx rfl (hb hby d6_32) rfl (l' := #[.val (.ref a0c), .val (.int 2), .val (.ref a2b), .val (.int 1), .val (.int 3), .val (.int 1), .val (.int c1)]) rfl ?_
    refine XS.iinc X4.here hx rfl (hb hby d6_35) rfl (l' := #[.val (.ref a0c), .val (.int 2), .val (.ref a2b), .val (.int 2), .val (.int 3), .val (.int 1), .val (.int c1)]) rfl ?_
    refine XS.iinc X4.here hx rfl (hb hby d6_38) rfl (l' := #[.val (.ref a0c), .val (.int 2), .val (.ref a2b), .val (.int 2), .val (.int 3), .val (.int 2), .val (.int c1)]) rfl ?_
    refine XS.goto X4.here hx rfl (pc0 := 41) (pc' := 3) rfl (hb hby d6_41) (by decide) (by decide) ?_
    show Steps p.tables e below (T4.setTop (mkF m 3 #[.val (.ref a0c), .val (.int 2), .val (.ref a2b), .val (.int 2), .val (.int 3), .val (.int 2), .val (.int c1)] [])) _
    refine XS.iload X4.here hx rfl (hb hby d6_3) rfl ?_
    refine XS.iload X4.here hx rfl (hb hby d6_5) rfl ?_
    refine XS.icmpNo X4.here hx rfl (hb hby d6_7) rfl (tlt (by decide : (2 : Int32) < (3 : Int32))).2.1 ?_
    refine XS.aloadN X4.here hx rfl (hb hby d6_10) rfl rfl ?_
    show Steps p.tables e below (T4.setTop (mkF m 11 #[.val (.ref a0c), .val (.int 2), .val (.ref a2b), .val (.int 2), .val (.int 3), .val (.int 2), .val (.int c1)] [(.ref a0c)])) _
    refine XS.iloadN X4.here hx rfl (hb hby d6_11) rfl ?_
    show Steps p.tables e below (T4.setTop (mkF m 12 #[.val (.ref a0c), .val (.int 2), .val (.ref a2b), .val (.int 2), .val (.int 3), .val (.int 2), .val (.int c1)] [(.int 2), (.ref a0c)])) _
    refine X4.caload hx (j := (2 : Int32)) (v := (.int c2)) (by rw [e4]; exact Ar5.1) (State.isArrayOf_alike hZ.alike Ar5.2.1) Ar5.2.2 hin5 hat5 (g := (mkF m 12 #[.val (.ref a0c), .val (.int 2), .val (.ref a2b), .val (.int 2), .val (.int 3), .val (.int 2), .val (.int c1)] [(.int 2), (.ref a0c)])) rfl rfl (hb hby d6_12) _ ?_
    show Steps p.tables e below (T4.setTop (mkF m 13 #[.val (.ref a0c), .val (.int 2), .val (.ref a2b), .val (.int 2), .val (.int 3), .val (.int 2), .val (.int c1)] [(.int c2)])) _
    refine XS.istore X4.here hx rfl (hb hby d6_13) rfl (l' := #[.val (.ref a0c), .val (.int 2), .val (.ref a2b), .val (.int 2), .val (.int 3), .val (.int 2), .val (.int c2)]) rfl ?_
    refine XS.iload X4.here hx rfl (hb hby d6_15) rfl ?_
    refine XS.sipush X4.here hx rfl (hb hby d6_17) ?_
    refine XS.icmpNo X4.here hx rfl (hb hby d6_20) rfl (tlt hcj).2.2.2 ?_
    show Steps p.tables e below (T4.setTop (mkF m 23 #[.val (.ref a0c), .val (.int 2), .val (.ref a2b), .val (.int 2), .val (.int 3), .val (.int 2), .val (.int c2)] [])) _
    refine XS.iload X4.here hx rfl (hb hby d6_23) rfl ?_
    show Steps p.tables e below (T4.setTop (mkF m 25 #[.val (.ref a0c), .val (.int 2), .val (.ref a2b), .val (.int 2), .val (.int 3), .val (.int 2), .val (.int c2)] [(.int 2)])) _
    exact retI X4 hx Bd.returns (hb hby d6_25) hr
  · show Q_rmC2_3u2 n0 Z cS aRS aEM aUS aSS a0c a2b k0 k2 c0 c1 c2 h0 _ T4.heap _
    rw [e4]
    exact ⟨rfl, N4, K4, V4⟩
theorem ef_rmGc3_2 (m : MethodId) (a0b : Addr) : entryFrame m #[(.ref a0b), (.int 2)] 2 = mkF m 0 #[.val (.ref a0b), .val (.int 2)] [] := by first | (simp [entryFrame, mkF, argsToLocals, Value.category]; done) | rfl
def Q_rmGc3_2 (n0 : Nat) (Z : State) (cS : Int32) (aRS : Addr) (aEM : Addr) (aUS : Addr) (aSS : Addr) (a0b : Addr) (k0 : ClassId) (c0 : Int32) (y0 : Int32) (y1 : Int32) (y2 : Int32) (y3 : Int32) (h0 : Heap) (v : Option Value) (h : Heap) (L : List Loc) : Prop := v = some (.int c0) ∧ Fr n0 L ∧ h = h0
set_option maxRecDepth 65536 in
set_option maxHeartbeats 40000000 in
theorem rmGc3_2 (l : Launch) (Z : State) (a0 : Array Value) (hw : ∀ d ∈ tables_1, d.before a0 Z = true) (ws : List Jvm.Cond) (cS : Int32) (aRS : Addr) (aEM : Addr) (aUS : Addr) (aSS : Addr) (a0b : Addr) (k0 : ClassId) (c0 : Int32) (y0 : Int32) (y1 : Int32) (y2 : Int32) (y3 : Int32) (h0 : Heap) (n0 : Nat) (O0 : Old Z n0 h0) (GL : GF Z cS aRS aEM aUS aSS) (V_a0b : Arv Z h0 a0b k0 .byte (6 : Int32) [(.int y0), (.int y1), (.int y2), (.int y3), (.int (c0.toInt8.toInt32)), (.int ((c0 >>> ((8 : Int32) &&& 31)).toInt8.toInt32))] (.int 0)) (hn : nar .char c0 = c0) :
    MetFree l MN_6 (head1 (Jvm.Cond.code MN_6 jdk_52_method_5_code 2 (some .char) :: ws) ({ frames := 0, cells := 0, slots := 0, locals := 0 } : Room)) (fun a U => a = #[(.ref a0b), (.int 2)] ∧ Z.Warmed39 U.vm ∧ U.heap = h0) (fun _ _ _ _ _ => True) (fun _ U o U' => ∃ v L, o = .returned v ∧ Q_rmGc3_2 n0 Z cS aRS aEM aUS aSS a0b k0 c0 y0 y1 y2 y3 h0 v U'.heap L ∧ FrameEnd U o U' L ({ frames := 0, cells := 0, slots := 0, locals := 0 } : Room).cells ({ frames := 0, cells := 0, slots := 0, locals := 0 } : Room).slots) := by
  refine MetFree.of_bodySF (plainFor_of_name pn) hisR ?_
  intro p e s m args below meth c s₁ Bd hml0 hP hK
  obtain ⟨rfl, hZ, hh⟩ := hP
  have hx := Bd.exec
  have hby := Bd.bytes
  have hml : c.maxLocals = 2 := hml0
  have hown : s.vm.findClass "java/lang/StringUTF16" = some m.cls := findClass_of_methodNamed Bd.named
  have hnm := (name_of_methodNamed Bd.named Bd.method).1
  have X0 : Stand p l e ({ frames := 0, cells := 0, slots := 0, locals := 0 } : Room) s m #[(.ref a0b), (.int 2)] below meth c s₁ [] 0 0 := Stand.of_body Bd
  have e0 : s₁.heap = h0 := by rw [← hh, Bd.state]; rfl
  have N0 := Fr.nil n0
  have pre0 : ∀ t, Steps p.tables e below (s₁.setTop (mkF m 0 #[.val (.ref a0b), .val (.int 2)] [])) t → Steps p.tables e below (s₁.setTop (entryFrame m #[(.ref a0b), (.int 2)] 2)) t := fun t k => castTop (ef_rmGc3_2 m a0b) k
  have GL' := GL
  obtain ⟨GCS, GCP, GSR, GSE, GEE, GFE, GSU, GSS, GA16, GHI, GLO⟩ := GL'
  obtain ⟨T1, X1, e1, st1⟩ := getS2 X0 hx hZ hown (host := "") (Or.inl (Wd hw 132 rfl)) Via.refl e0 (GA16.ext O0.2) (g := (mkF m 0 #[.val (.ref a0b), .val (.int 2)] [])) rfl (hb hby d24_0)
  obtain ⟨cl2, Ar2, -, S2, N2_, H2, G2⟩ := id (V_a0b)
  have hin2 : ¬ ((4 : Int32) < 0 ∨ cl2.slots.size ≤ ((4 : Int32)).toNatClampNeg) := inb_of S2 ⟨(by decide), (by decide)⟩
  have hat2 : cl2.slots[((4 : Int32)).toNatClampNeg]? = some (.int (c0.toInt8.toInt32)) := H2.at hin2 rfl
  obtain ⟨T3, X3, e3, st3⟩ := getS2 X1 hx hZ hown (host := "") (Or.inl (Wd hw 133 rfl)) Via.refl e1 (GHI.ext O0.2) (g := (mkF m 42 #[.val (.ref a0b), .val (.int 5)] [(.int ((c0.toInt8.toInt32) &&& (255 : Int32)))])) rfl (hb hby d24_42)
  obtain ⟨cl4, Ar4, -, S4, N4_, H4, G4⟩ := id (V_a0b)
  have hin4 : ¬ ((5 : Int32) < 0 ∨ cl4.slots.size ≤ ((5 : Int32)).toNatClampNeg) := inb_of S4 ⟨(by decide), (by decide)⟩
  have hat4 : cl4.slots[((5 : Int32)).toNatClampNeg]? = some (.int ((c0 >>> ((8 : Int32) &&& 31)).toInt8.toInt32)) := H4.at hin4 rfl
  obtain ⟨T5, X5, e5, st5⟩ := getS2 X3 hx hZ hown (host := "") (Or.inl (Wd hw 134 rfl)) Via.refl e3 (GLO.ext O0.2) (g := (mkF m 53 #[.val (.ref a0b), .val (.int 5)] [(.int (((c0 >>> ((8 : Int32) &&& 31)).toInt8.toInt32) &&& (255 : Int32))), (.int (((c0.toInt8.toInt32) &&& (255 : Int32)) <<< ((0 : Int32) &&& 31)))])) rfl (hb hby d24_53)
  obtain ⟨fs, hr, hrun, hended, hW, hsame⟩ := X5.leave (v := some (.int (nar .char (((((c0.toInt8.toInt32) &&& (255 : Int32)) <<< ((0 : Int32) &&& 31)) ||| ((((c0 >>> ((8 : Int32) &&& 31)).toInt8.toInt32) &&& (255 : Int32)) <<< ((8 : Int32) &&& 31))).toUInt32.toUInt16.toUInt32.toInt32)))) (fun h => by rw [Bd.returns] at h; cases h)
  refine ⟨_, _, pre0 _ ?_, hrun, hended, _, _, rfl, ?_, ⟨_, rfl⟩, hW, hsame.mono (by decide) (by decide)⟩
  · show Steps p.tables e below (s₁.setTop (mkF m 0 #[.val (.ref a0b), .val (.int 2)] [])) _
    refine st1 _ ?_
    show Steps p.tables e below (T1.setTop (mkF m 3 #[.val (.ref a0b), .val (.int 2)] [(.int 1)])) _
    refine XS.ifYes X1.here hx rfl (pc0 := 3) (pc' := 28) rfl (hb hby d24_3) rfl ((if0 _ _).trans (feq (by decide : ¬ ((1 : Int32) = (0 : Int32)))).2) (by decide) (by decide) ?_
    refine XS.iloadN X1.here hx rfl (hb hby d24_28) rfl ?_
    refine XS.iconst X1.here hx rfl (hb hby d24_29) ?_
    refine XS.ishl X1.here hx rfl (hb hby d24_30) rfl ?_
    show Steps p.tables e below (T1.setTop (mkF m 31 #[.val (.ref a0b), .val (.int 2)] [(.int 4)])) _
    refine XS.istoreN X1.here hx rfl (hb hby d24_31) rfl (l' := #[.val (.ref a0b), .val (.int 4)]) rfl ?_
    refine XS.aloadN X1.here hx rfl (hb hby d24_32) rfl rfl ?_
    refine XS.iloadN X1.here hx rfl (hb hby d24_33) rfl ?_
    refine XS.iinc X1.here hx rfl (hb hby d24_34) rfl (l' := #[.val (.ref a0b), .val (.int 5)]) rfl ?_
    show Steps p.tables e below (T1.setTop (mkF m 37 #[.val (.ref a0b), .val (.int 5)] [(.int 4), (.ref a0b)])) _
    refine X1.baloadBytes hx (j := (4 : Int32)) (v := (.int (c0.toInt8.toInt32))) (by rw [e1]; exact Ar2.1) (State.isArrayOf_alike hZ.alike Ar2.2.1) Ar2.2.2 hin2 hat2 (g := (mkF m 37 #[.val (.ref a0b), .val (.int 5)] [(.int 4), (.ref a0b)])) rfl rfl (hb hby d24_37) _ ?_
    show Steps p.tables e below (T1.setTop (mkF m 38 #[.val (.ref a0b), .val (.int 5)] [(.int (c0.toInt8.toInt32))])) _
    refine XS.sipush X1.here hx rfl (hb hby d24_38) ?_
    refine XS.iand X1.here hx rfl (hb hby d24_41) rfl ?_
    show Steps p.tables e below (T1.setTop (mkF m 42 #[.val (.ref a0b), .val (.int 5)] [(.int ((c0.toInt8.toInt32) &&& (255 : Int32)))])) _
    refine st3 _ ?_
    show Steps p.tables e below (T3.setTop (mkF m 45 #[.val (.ref a0b), .val (.int 5)] [(.int 0), (.int ((c0.toInt8.toInt32) &&& (255 : Int32)))])) _
    refine XS.ishl X3.here hx rfl (hb hby d24_45) rfl ?_
    refine XS.aloadN X3.here hx rfl (hb hby d24_46) rfl rfl ?_
    refine XS.iloadN X3.here hx rfl (hb hby d24_47) rfl ?_
    show Steps p.tables e below (T3.setTop (mkF m 48 #[.val (.ref a0b), .val (.int 5)] [(.int 5), (.ref a0b), (.int (((c0.toInt8.toInt32) &&& (255 : Int32)) <<< ((0 : Int32) &&& 31)))])) _
    refine X3.baloadBytes hx (j := (5 : Int32)) (v := (.int ((c0 >>> ((8 : Int32) &&& 31)).toInt8.toInt32))) (by rw [e3]; exact Ar4.1) (State.isArrayOf_alike hZ.alike Ar4.2.1) Ar4.2.2 hin4 hat4 (g := (mkF m 48 #[.val (.ref a0b), .val (.int 5)] [(.int 5), (.ref a0b), (.int (((c0.toInt8.toInt32) &&& (255 : Int32)) <<< ((0 : Int32) &&& 31)))])) rfl rfl (hb hby d24_48) _ ?_
    show Steps p.tables e below (T3.setTop (mkF m 49 #[.val (.ref a0b), .val (.int 5)] [(.int ((c0 >>> ((8 : Int32) &&& 31)).toInt8.toInt32)), (.int (((c0.toInt8.toInt32) &&& (255 : Int32)) <<< ((0 : Int32) &&& 31)))])) _
    refine XS.sipush X3.here hx rfl (hb hby d24_49) ?_
    refine XS.iand X3.here hx rfl (hb hby d24_52) rfl ?_
    show Steps p.tables e below (T3.setTop (mkF m 53 #[.val (.ref a0b), .val (.int 5)] [(.int (((c0 >>> ((8 : Int32) &&& 31)).toInt8.toInt32) &&& (255 : Int32))), (.int (((c0.toInt8.toInt32) &&& (255 : Int32)) <<< ((0 : Int32) &&& 31)))])) _
    refine st5 _ ?_
    show Steps p.tables e below (T5.setTop (mkF m 56 #[.val (.ref a0b), .val (.int 5)] [(.int 8), (.int (((c0 >>> ((8 : Int32) &&& 31)).toInt8.toInt32) &&& (255 : Int32))), (.int (((c0.toInt8.toInt32) &&& (255 : Int32)) <<< ((0 : Int32) &&& 31)))])) _
    refine XS.ishl X5.here hx rfl (hb hby d24_56) rfl ?_
    refine XS.ior X5.here hx rfl (hb hby d24_57) rfl ?_
    refine XS.i2c X5.here hx rfl (hb hby d24_58) rfl ?_
    show Steps p.tables e below (T5.setTop (mkF m 59 #[.val (.ref a0b), .val (.int 5)] [(.int (((((c0.toInt8.toInt32) &&& (255 : Int32)) <<< ((0 : Int32) &&& 31)) ||| ((((c0 >>> ((8 : Int32) &&& 31)).toInt8.toInt32) &&& (255 : Int32)) <<< ((8 : Int32) &&& 31))).toUInt32.toUInt16.toUInt32.toInt32))])) _
    exact retN X5 hx (t := .char) Bd.returns (by simp) (hb hby d24_59) hr
  · show Q_rmGc3_2 n0 Z cS aRS aEM aUS aSS a0b k0 c0 y0 y1 y2 y3 h0 _ T5.heap _
    rw [e5]
    exact ⟨(congrArg (fun z => some (Value.int z)) (own_utf c0 hn)), N0, rfl⟩
def Q_rmC1_3u2 (n0 : Nat) (Z : State) (cS : Int32) (aRS : Addr) (aEM : Addr) (aUS : Addr) (aSS : Addr) (a0c : Addr) (k0 : ClassId) (c0 : Int32) (c1 : Int32) (c2 : Int32) (h0 : Heap) (v : Option Value) (h : Heap) (L : List Loc) : Prop := ∃ b : Addr, ∃ kb : ClassId, v = some (.ref b) ∧ Fr n0 L ∧ Keep h0 h [] ∧ (h0.size ≤ b) ∧ (Exa Z h b "[B") ∧ (Arv Z h b kb .byte (6 : Int32) [(.int (c0.toInt8.toInt32)), (.int ((c0 >>> ((8 : Int32) &&& 31)).toInt8.toInt32)), (.int (c1.toInt8.toInt32)), (.int ((c1 >>> ((8 : Int32) &&& 31)).toInt8.toInt32)), (.int (c2.toInt8.toInt32)), (.int ((c2 >>> ((8 : Int32) &&& 31)).toInt8.toInt32))] (.int 0))
set_option maxRecDepth 65536 in
set_option maxHeartbeats 40000000 in
theorem rmC1_3u2 (l : Launch) (Z : State) (a0 : Array Value) (hw : ∀ d ∈ tables_1, d.before a0 Z = true) (ws : List Jvm.Cond) (cS : Int32) (aRS : Addr) (aEM : Addr) (aUS : Addr) (aSS : Addr) (a0c : Addr) (k0 : ClassId) (c0 : Int32) (c1 : Int32) (c2 : Int32) (h0 : Heap) (n0 : Nat) (O0 : Old Z n0 h0) (GL : GF Z cS aRS aEM aUS aSS) (V_a0c : Arv Z h0 a0c k0 .char (3 : Int32) [(.int c0), (.int c1), (.int c2)] (.int 0)) (hc0 : ¬ ((255 : Int32) < c0)) (hc1 : ¬ ((255 : Int32) < c1)) (hcj : (255 : Int32) < c2) (hnj : nar .char c2 = c2) :
    MetFree l MN_1 (head1 (Jvm.Cond.code MN_1 jdk_52_method_16_code 6 (some (.array .byte)) :: ws) ({ frames := 3, cells := 2, slots := 9, locals := 40 } : Room)) (fun a U => a = #[(.ref a0c), (.int 0), (.int 3)] ∧ Z.Warmed39 U.vm ∧ U.heap = h0) (fun _ _ _ _ _ => True) (fun _ U o U' => ∃ v L, o = .returned v ∧ Q_rmC1_3u2 n0 Z cS aRS aEM aUS aSS a0c k0 c0 c1 c2 h0 v U'.heap L ∧ FrameEnd U o U' L ({ frames := 3, cells := 2, slots := 9, locals := 40 } : Room).cells ({ frames := 3, cells := 2, slots := 9, locals := 40 } : Room).slots) := by
  refine MetFree.of_bodySF (plainFor_of_name pn) hisR ?_
  intro p e s m args below meth c s₁ Bd hml0 hP hK
  obtain ⟨rfl, hZ, hh⟩ := hP
  have hx := Bd.exec
  have hby := Bd.bytes
  have hml : c.maxLocals = 6 := hml0
  have hown : s.vm.findClass "java/lang/StringUTF16" = some m.cls := findClass_of_methodNamed Bd.named
  have hnm := (name_of_methodNamed Bd.named Bd.method).1
  have X0 : Stand p l e ({ frames := 3, cells := 2, slots := 9, locals := 40 } : Room) s m #[(.ref a0c), (.int 0), (.int 3)] below meth c s₁ [] 0 0 := Stand.of_body Bd
  have e0 : s₁.heap = h0 := by rw [← hh, Bd.state]; rfl
  have N0 := Fr.nil n0
  have pre0 : ∀ t, Steps p.tables e below (s₁.setTop (mkF m 0 #[.val (.ref a0c), .val (.int 0), .val (.int 3), .unset, .unset, .unset] [])) t → Steps p.tables e below (s₁.setTop (entryFrame m #[(.ref a0c), (.int 0), (.int 3)] 6)) t := fun t k => castTop (ef_rmC1_3 m a0c) k
  have GL' := GL
  obtain ⟨GCS, GCP, GSR, GSE, GEE, GFE, GSU, GSS, GA16, GHI, GLO⟩ := GL'
  obtain ⟨T1, h1, k1, X1, e1, E1, A1, A1', st1⟩ := newPE X0 hx hZ (Wd hw 24 rfl) e0 (g := (mkF m 1 #[.val (.ref a0c), .val (.int 0), .val (.int 3), .unset, .unset, .unset] [(.int 3)])) rfl (hb hby d5_1) rfl (by decide) (cap := 3) (by decide) (by decide) (by decide) (by decide) (ad := "[B") rfl
  obtain ⟨b1, g1⟩ : ∃ z, z = h0.size := ⟨_, rfl⟩
  rw [← g1] at A1 A1' st1
  have g_b1 : n0 ≤ b1 := Nat.le_trans (own_sz O0) (Nat.le_of_eq g1.symm)
  have sz_b1 : h0.size ≤ b1 := Nat.le_trans (Keep.refl h0 []).1 (Nat.le_of_eq g1.symm)
  have K1 : Keep h0 h1 [] := (Keep.refl h0 []).ext E1
  have O1 := O0.ext E1
  have V_b1 : Arv Z h1 b1 k1 .byte (3 : Int32) [(.int 0), (.int 0), (.int 0)] (.int 0) := (Arv.new A1 (by decide)).pad (pad_rep [] (.int 0) 3)
  obtain ⟨_, _, ⟨T2, L2, k2, n2⟩, -, X2, ⟨Lc2, hQ2, l2, y2, z2⟩, st2⟩ := Jvm.LawKit.callS X1 hx (y := MN_0) hown (mvT hZ (Wd hw 25 rfl)) (mvT hZ (Wd hw 26 rfl)) (mvT hZ (Wd hw 22 rfl)) (mvT hZ (Wd hw 27 rfl)) (by decide) (backOf (W := 0) (rmC2_3u2 l Z a0 hw [] cS aRS aEM aUS aSS (a0c) (b1) (k0) (k1) (c0) (c1) (c2) (h1) n0 O1 GL (V_a0c.ext E1) V_b1 g_b1 hc0 hc1 hcj) hZ (Wd hw 27 rfl) (Wd hw 22 rfl) (by decide) (by decide)) (g := (mkF m 9 #[.val (.ref a0c), .val (.int 0), .val (.int 3), .val (.ref b1), .unset, .unset] [(.int 3), (.int 0), (.ref b1), (.int 0), (.ref a0c)])) rfl (by rw [hml]; rfl) (argsL := [(.ref a0c), (.int 0), (.ref b1), (.int 0), (.int 3)]) (rest := []) (lenOf pd rfl) rfl (by show 2 * 0 + _ ≤ _; exact Nat.le_of_eq rfl) (hb hby d5_9) (fun _ _ => ⟨rfl, e1, (by decide : 1 + 0 ≤ _), (by decide : 3 + 0 ≤ _)⟩)
  dsimp only [Pt.U, Pt.locs, Pt.cells, Pt.slots] at X2 l2 y2 z2 st2 hQ2
  subst l2 y2 z2
  obtain ⟨rfl, N2q, Kc2, P2_0⟩ := hQ2
  have K2 : Keep h0 T2.heap [] := K1.trans Kc2 (allS (Or.inr sz_b1) all0)
  have O2 := O1.keep Kc2 (allS g_b1 all0)
  have N2 := Fr.app N0 N2q
  obtain ⟨_, _, ⟨T3, L3, k3, n3⟩, -, X3, ⟨Lc3, hQ3, l3, y3, z3⟩, st3⟩ := Jvm.LawKit.callS X2 hx (y := MN_5) hown (mvT hZ (Wd hw 119 rfl)) (mvT hZ (Wd hw 120 rfl)) (mvT hZ (Wd hw 22 rfl)) (mvT hZ (Wd hw 121 rfl)) (by decide) (backOf (W := 0) (rmTb3 l Z a0 hw [] cS aRS aEM aUS aSS (a0c) (k0) (c0) (c1) (c2) (T2.heap) n0 O2 GL ((V_a0c.ext E1).keep Kc2 (ninS (Nat.ne_of_lt (Nat.lt_of_lt_of_le V_a0c.lt (Nat.le_of_eq g1.symm))) nin0))) hZ (Wd hw 121 rfl) (Wd hw 22 rfl) (by decide) (by decide)) (g := (mkF m 23 #[.val (.ref a0c), .val (.int 0), .val (.int 3), .val (.ref b1), .val (.int 2), .unset] [(.int 3), (.int 0), (.ref a0c)])) rfl (by rw [hml]; rfl) (argsL := [(.ref a0c), (.int 0), (.int 3)]) (rest := []) (lenOf pdv4 rfl) rfl (by show 2 * 0 + _ ≤ _; exact Nat.le_of_eq rfl) (hb hby d5_23) (fun _ _ => ⟨rfl, rfl, (by decide : 1 + 1 ≤ _), (by decide : 3 + 6 ≤ _)⟩)
  dsimp only [Pt.U, Pt.locs, Pt.cells, Pt.slots] at X3 l3 y3 z3 st3 hQ3
  subst l3 y3 z3
  obtain ⟨b_3, kb_3, rfl, N3q, Kc3, P3_0, P3_1, P3_2⟩ := hQ3
  have K3 : Keep h0 T3.heap [] := K2.trans Kc3 all0
  have O3 := O2.keep Kc3 all0
  have g_b_3 : n0 ≤ b_3 := Nat.le_trans (own_sz O2) P3_0
  have sz_b_3 : h0.size ≤ b_3 := Nat.le_trans K2.1 P3_0
  have N3 := Fr.app N2 N3q
  obtain ⟨_, _, ⟨T4, L4, k4, n4⟩, -, X4, ⟨Lc4, hQ4, l4, y4, z4⟩, st4⟩ := Jvm.LawKit.callS X3 hx (y := MN_6) hown (mvT hZ (Wd hw 135 rfl)) (mvT hZ (Wd hw 136 rfl)) (mvT hZ (Wd hw 22 rfl)) (mvT hZ (Wd hw 137 rfl)) (by decide) (backOf (W := 0) (rmGc3_2 l Z a0 hw [] cS aRS aEM aUS aSS (b_3) (kb_3) (c2) ((c0.toInt8.toInt32)) (((c0 >>> ((8 : Int32) &&& 31)).toInt8.toInt32)) ((c1.toInt8.toInt32)) (((c1 >>> ((8 : Int32) &&& 31)).toInt8.toInt32)) (T3.heap) n0 O3 GL P3_2 hnj) hZ (Wd hw 137 rfl) (Wd hw 22 rfl) (by decide) (by decide)) (g := (mkF m 32 #[.val (.ref a0c), .val (.int 0), .val (.int 3), .val (.ref b1), .val (.int 2), .val (.ref b_3)] [(.int 2), (.ref b_3)])) rfl (by rw [hml]; rfl) (argsL := [(.ref b_3), (.int 2)]) (rest := []) (lenOf pdv5 rfl) rfl (by show 2 * 0 + _ ≤ _; exact Nat.le_of_eq rfl) (hb hby d5_32) (fun _ _ => ⟨rfl, rfl, (by decide : 2 + 0 ≤ _), (by decide : 9 + 0 ≤ _)⟩)
  dsimp only [Pt.U, Pt.locs, Pt.cells, Pt.slots] at X4 l4 y4 z4 st4 hQ4
  subst l4 y4 z4
  obtain ⟨rfl, N4q, e4⟩ := hQ4
  have N4 := Fr.app N3 N4q
  obtain ⟨fs, hr, hrun, hended, hW, hsame⟩ := X4.leave (v := some (.ref b_3)) (fun h => by rw [Bd.returns] at h; cases h)
  refine ⟨_, _, pre0 _ ?_, hrun, hended, _, _, rfl, ?_, ⟨_, rfl⟩, hW, hsame.mono (by decide) (by decide)⟩
  · show Steps p.tables e below (s₁.setTop (mkF m 0 #[.val (.ref a0c), .val (.int 0), .val (.int 3), .unset, .unset, .unset] [])) _
    refine XS.iloadN X0.here hx rfl (hb hby d5_0) rfl ?_
    show Steps p.tables e below (s₁.setTop (mkF m 1 #[.val (.ref a0c), .val (.int 0), .val (.int 3), .unset, .unset, .unset] [(.int 3)])) _
    refine st1 _ ?_
    show Steps p.tables e below (T1.setTop (mkF m 3 #[.val (.ref a0c), .val (.int 0), .val (.int 3), .unset, .unset, .unset] [(.ref b1)])) _
    refine XS.astoreN X1.here hx rfl (hb hby d5_3) rfl rfl (l' := #[.val (.ref a0c), .val (.int 0), .val (.int 3), .val (.ref b1), .unset, .unset]) rfl ?_
    refine XS.aloadN X1.here hx rfl (hb hby d5_4) rfl rfl ?_
    refine XS.iloadN X1.here hx rfl (hb hby d5_5) rfl ?_
    refine XS.aloadN X1.here hx rfl (hb hby d5_6) rfl rfl ?_
    show Steps p.tables e below (T1.setTop (mkF m 7 #[.val (.ref a0c), .val (.int 0), .val (.int 3), .val (.ref b1), .unset, .unset] [(.ref b1), (.int 0), (.ref a0c)])) _
    refine XS.iconst X1.here hx rfl (hb hby d5_7) ?_
    refine XS.iloadN X1.here hx rfl (hb hby d5_8) rfl ?_
    show Steps p.tables e below (T1.setTop (mkF m 9 #[.val (.ref a0c), .val (.int 0), .val (.int 3), .val (.ref b1), .unset, .unset] [(.int 3), (.int 0), (.ref b1), (.int 0), (.ref a0c)])) _
    refine st2 _ ?_
    show Steps p.tables e below (T2.setTop (mkF m 12 #[.val (.ref a0c), .val (.int 0), .val (.int 3), .val (.ref b1), .unset, .unset] [(.int 2)])) _
    refine XS.istore X2.here hx rfl (hb hby d5_12) rfl (l' := #[.val (.ref a0c), .val (.int 0), .val (.int 3), .val (.ref b1), .val (.int 2), .unset]) rfl ?_
    refine XS.iload X2.here hx rfl (hb hby d5_14) rfl ?_
    refine XS.iloadN X2.here hx rfl (hb hby d5_16) rfl ?_
    refine XS.icmpNo X2.here hx rfl (hb hby d5_17) rfl (feq (by decide : ¬ ((2 : Int32) = (3 : Int32)))).1 ?_
    show Steps p.tables e below (T2.setTop (mkF m 20 #[.val (.ref a0c), .val (.int 0), .val (.int 3), .val (.ref b1), .val (.int 2), .unset] [])) _
    refine XS.aloadN X2.here hx rfl (hb hby d5_20) rfl rfl ?_
    refine XS.iloadN X2.here hx rfl (hb hby d5_21) rfl ?_
    refine XS.iloadN X2.here hx rfl (hb hby d5_22) rfl ?_
    show Steps p.tables e below (T2.setTop (mkF m 23 #[.val (.ref a0c), .val (.int 0), .val (.int 3), .val (.ref b1), .val (.int 2), .unset] [(.int 3), (.int 0), (.ref a0c)])) _
    refine st3 _ ?_
    show Steps p.tables e below (T3.setTop (mkF m 26 #[.val (.ref a0c), .val (.int 0), .val (.int 3), .val (.ref b1), .val (.int 2), .unset] [(.ref b_3)])) _
    refine XS.astore X3.here hx rfl (hb hby d5_26) rfl rfl (l' := #[.val (.ref a0c), .val (.int 0), .val (.int 3), .val (.ref b1), .val (.int 2), .val (.ref b_3)]) rfl ?_
    refine XS.aload X3.here hx rfl (hb hby d5_28) rfl rfl ?_
    refine XS.iload X3.here hx rfl (hb hby d5_30) rfl ?_
    show Steps p.tables e below (T3.setTop (mkF m 32 #[.val (.ref a0c), .val (.int 0), .val (.int 3), .val (.ref b1), .val (.int 2), .val (.ref b_3)] [(.int 2), (.ref b_3)])) _
    refine st4 _ ?_
    show Steps p.tables e below (T4.setTop (mkF m 35 #[.val (.ref a0c), .val (.int 0), .val (.int 3), .val (.ref b1), .val (.int 2), .val (.ref b_3)] [(.int c2)])) _
    refine XS.sipush X4.here hx rfl (hb hby d5_35) ?_
    refine XS.icmpYes X4.here hx rfl (pc0 := 38) (pc' := 54) rfl (hb hby d5_38) rfl (tlt hcj).2.2.1 (by decide) (by decide) ?_
    refine XS.aload X4.here hx rfl (hb hby d5_54) rfl rfl ?_
    show Steps p.tables e below (T4.setTop (mkF m 56 #[.val (.ref a0c), .val (.int 0), .val (.int 3), .val (.ref b1), .val (.int 2), .val (.ref b_3)] [(.ref b_3)])) _
    jvm_step X4.here [X4.here.top, hx, (hb hby d5_56), X4.method', Bd.returns, Value.isRef, FieldType.isReference]
    first | (intro acts; rw [hr _ acts rfl rfl rfl]) | rw [hr _ _ rfl rfl rfl]
    exact Steps.refl _
  · show Q_rmC1_3u2 n0 Z cS aRS aEM aUS aSS a0c k0 c0 c1 c2 h0 _ T4.heap _
    rw [e4]
    exact ⟨b_3, kb_3, rfl, N4, K3, sz_b_3, P3_1, P3_2⟩
theorem d7_0 : decode jdk_52_method_15_code 0 = .ok (.iload_n 1, 1) := by decide +kernel
theorem d7_1 : decode jdk_52_method_15_code 1 = .ok (.aload_n 0, 1) := by decide +kernel
theorem d7_2 : decode jdk_52_method_15_code 2 = .ok (.arraylength, 1) := by decide +kernel
theorem d7_3 : decode jdk_52_method_15_code 3 = .ok (.isub, 1) := by decide +kernel
theorem d7_4 : decode jdk_52_method_15_code 4 = .ok (.bipush 31, 2) := by decide +kernel
theorem d7_6 : decode jdk_52_method_15_code 6 = .ok (.iushr, 1) := by decide +kernel
theorem d7_7 : decode jdk_52_method_15_code 7 = .ok (.i2b, 1) := by decide +kernel
theorem d7_8 : decode jdk_52_method_15_code 8 = .ok (.ireturn, 1) := by decide +kernel
abbrev MN_7 : MethodName := ⟨"java/lang/StringUTF16", "coderFromArrayLen", "([BI)B"⟩
def Q_rmCfa1_1 (n0 : Nat) (Z : State) (cS : Int32) (aRS : Addr) (aEM : Addr) (aUS : Addr) (aSS : Addr) (a0b : Addr) (k0 : ClassId) (vs : List Value) (h0 : Heap) (v : Option Value) (h : Heap) (L : List Loc) : Prop := v = some (.int 0) ∧ Fr n0 L ∧ h = h0
set_option maxRecDepth 65536 in
set_option maxHeartbeats 40000000 in
theorem rmCfa1_1 (l : Launch) (Z : State) (a0 : Array Value) (hw : ∀ d ∈ tables_1, d.before a0 Z = true) (ws : List Jvm.Cond) (cS : Int32) (aRS : Addr) (aEM : Addr) (aUS : Addr) (aSS : Addr) (a0b : Addr) (k0 : ClassId) (vs : List Value) (h0 : Heap) (n0 : Nat) (O0 : Old Z n0 h0) (GL : GF Z cS aRS aEM aUS aSS) (V_a0b : Arv Z h0 a0b k0 .byte (1 : Int32) vs (.int 0)) :
    MetFree l MN_7 (head1 (Jvm.Cond.code MN_7 jdk_52_method_15_code 2 (some .byte) :: ws) ({ frames := 0, cells := 0, slots := 0, locals := 0 } : Room)) (fun a U => a = #[(.ref a0b), (.int 1)] ∧ Z.Warmed39 U.vm ∧ U.heap = h0) (fun _ _ _ _ _ => True) (fun _ U o U' => ∃ v L, o = .returned v ∧ Q_rmCfa1_1 n0 Z cS aRS aEM aUS aSS a0b k0 vs h0 v U'.heap L ∧ FrameEnd U o U' L ({ frames := 0, cells := 0, slots := 0, locals := 0 } : Room).cells ({ frames := 0, cells := 0, slots := 0, locals := 0 } : Room).slots) := by
  refine MetFree.of_bodySF (plainFor_of_name pn) hisR ?_
  intro p e s m args below meth c s₁ Bd hml0 hP hK
  obtain ⟨rfl, hZ, hh⟩ := hP
  have hx := Bd.exec
  have hby := Bd.bytes
  have hml : c.maxLocals = 2 := hml0
  have hown : s.vm.findClass "java/lang/StringUTF16" = some m.cls := findClass_of_methodNamed Bd.named
  have hnm := (name_of_methodNamed Bd.named Bd.method).1
  have X0 : Stand p l e ({ frames := 0, cells := 0, slots := 0, locals := 0 } : Room) s m #[(.ref a0b), (.int 1)] below meth c s₁ [] 0 0 := Stand.of_body Bd
  have e0 : s₁.heap = h0 := by rw [← hh, Bd.state]; rfl
  have N0 := Fr.nil n0
  have pre0 : ∀ t, Steps p.tables e below (s₁.setTop (mkF m 0 #[.val (.ref a0b), .val (.int 1)] [])) t → Steps p.tables e below (s₁.setTop (entryFrame m #[(.ref a0b), (.int 1)] 2)) t := fun t k => castTop (ef_rmGc2_1 m a0b) k
  have GL' := GL
  obtain ⟨GCS, GCP, GSR, GSE, GEE, GFE, GSU, GSS, GA16, GHI, GLO⟩ := GL'
  obtain ⟨cl1, Ar1, -, S1, N1_, -, -⟩ := id (V_a0b)
  obtain ⟨fs, hr, hrun, hended, hW, hsame⟩ := X0.leave (v := some (.int 0)) (fun h => by rw [Bd.returns] at h; cases h)
  refine ⟨_, _, pre0 _ ?_, hrun, hended, _, _, rfl, ?_, ⟨_, rfl⟩, hW, hsame.mono (by decide) (by decide)⟩
  · show Steps p.tables e below (s₁.setTop (mkF m 0 #[.val (.ref a0b), .val (.int 1)] [])) _
    refine XS.iloadN X0.here hx rfl (hb hby d7_0) rfl ?_
    refine XS.aloadN X0.here hx rfl (hb hby d7_1) rfl rfl ?_
    show Steps p.tables e below (s₁.setTop (mkF m 2 #[.val (.ref a0b), .val (.int 1)] [(.ref a0b), (.int 1)])) _
    refine X0.arraylength hx (by rw [e0]; exact Ar1.1) (State.isArrayOf_alike hZ.alike Ar1.2.1) (g := (mkF m 2 #[.val (.ref a0b), .val (.int 1)] [(.ref a0b), (.int 1)])) rfl rfl (hb hby d7_2) _ ?_
    rw [len_of S1 N1_]
    show Steps p.tables e below (s₁.setTop (mkF m 3 #[.val (.ref a0b), .val (.int 1)] [(.int 1), (.int 1)])) _
    refine XS.isub X0.here hx rfl (hb hby d7_3) rfl ?_
    refine XS.bipush X0.here hx rfl (hb hby d7_4) ?_
    refine XS.iushr X0.here hx rfl (hb hby d7_6) rfl ?_
    refine XS.i2b X0.here hx rfl (hb hby d7_7) rfl ?_
    show Steps p.tables e below (s₁.setTop (mkF m 8 #[.val (.ref a0b), .val (.int 1)] [(.int 0)])) _
    exact retN X0 hx (t := .byte) Bd.returns (by simp) (hb hby d7_8) hr
  · show Q_rmCfa1_1 n0 Z cS aRS aEM aUS aSS a0b k0 vs h0 _ s₁.heap _
    rw [e0]
    exact ⟨rfl, N0, rfl⟩
def Q_rmCfa1_2 (n0 : Nat) (Z : State) (cS : Int32) (aRS : Addr) (aEM : Addr) (aUS : Addr) (aSS : Addr) (a0b : Addr) (k0 : ClassId) (vs : List Value) (h0 : Heap) (v : Option Value) (h : Heap) (L : List Loc) : Prop := v = some (.int 1) ∧ Fr n0 L ∧ h = h0
set_option maxRecDepth 65536 in
set_option maxHeartbeats 40000000 in
theorem rmCfa1_2 (l : Launch) (Z : State) (a0 : Array Value) (hw : ∀ d ∈ tables_1, d.before a0 Z = true) (ws : List Jvm.Cond) (cS : Int32) (aRS : Addr) (aEM : Addr) (aUS : Addr) (aSS : Addr) (a0b : Addr) (k0 : ClassId) (vs : List Value) (h0 : Heap) (n0 : Nat) (O0 : Old Z n0 h0) (GL : GF Z cS aRS aEM aUS aSS) (V_a0b : Arv Z h0 a0b k0 .byte (2 : Int32) vs (.int 0)) :
    MetFree l MN_7 (head1 (Jvm.Cond.code MN_7 jdk_52_method_15_code 2 (some .byte) :: ws) ({ frames := 0, cells := 0, slots := 0, locals := 0 } : Room)) (fun a U => a = #[(.ref a0b), (.int 1)] ∧ Z.Warmed39 U.vm ∧ U.heap = h0) (fun _ _ _ _ _ => True) (fun _ U o U' => ∃ v L, o = .returned v ∧ Q_rmCfa1_2 n0 Z cS aRS aEM aUS aSS a0b k0 vs h0 v U'.heap L ∧ FrameEnd U o U' L ({ frames := 0, cells := 0, slots := 0, locals := 0 } : Room).cells ({ frames := 0, cells := 0, slots := 0, locals := 0 } : Room).slots) := by
  refine MetFree.of_bodySF (plainFor_of_name pn) hisR ?_
  intro p e s m args below meth c s₁ Bd hml0 hP hK
  obtain ⟨rfl, hZ, hh⟩ := hP
  have hx := Bd.exec
  have hby := Bd.bytes
  have hml : c.maxLocals = 2 := hml0
  have hown : s.vm.findClass "java/lang/StringUTF16" = some m.cls := findClass_of_methodNamed Bd.named
  have hnm := (name_of_methodNamed Bd.named Bd.method).1
  have X0 : Stand p l e ({ frames := 0, cells := 0, slots := 0, locals := 0 } : Room) s m #[(.ref a0b), (.int 1)] below meth c s₁ [] 0 0 := Stand.of_body Bd
  have e0 : s₁.heap = h0 := by rw [← hh, Bd.state]; rfl
  have N0 := Fr.nil n0
  have pre0 : ∀ t, Steps p.tables e below (s₁.setTop (mkF m 0 #[.val (.ref a0b), .val (.int 1)] [])) t → Steps p.tables e below (s₁.setTop (entryFrame m #[(.ref a0b), (.int 1)] 2)) t := fun t k => castTop (ef_rmGc2_1 m a0b) k
  have GL' := GL
  obtain ⟨GCS, GCP, GSR, GSE, GEE, GFE, GSU, GSS, GA16, GHI, GLO⟩ := GL'
  obtain ⟨cl1, Ar1, -, S1, N1_, -, -⟩ := id (V_a0b)
  obtain ⟨fs, hr, hrun, hended, hW, hsame⟩ := X0.leave (v := some (.int 1)) (fun h => by rw [Bd.returns] at h; cases h)
  refine ⟨_, _, pre0 _ ?_, hrun, hended, _, _, rfl, ?_, ⟨_, rfl⟩, hW, hsame.mono (by decide) (by decide)⟩
  · show Steps p.tables e below (s₁.setTop (mkF m 0 #[.val (.ref a0b), .val (.int 1)] [])) _
    refine XS.iloadN X0.here hx rfl (hb hby d7_0) rfl ?_
    refine XS.aloadN X0.here hx rfl (hb hby d7_1) rfl rfl ?_
    show Steps p.tables e below (s₁.setTop (mkF m 2 #[.val (.ref a0b), .val (.int 1)] [(.ref a0b), (.int 1)])) _
    refine X0.arraylength hx (by rw [e0]; exact Ar1.1) (State.isArrayOf_alike hZ.alike Ar1.2.1) (g := (mkF m 2 #[.val (.ref a0b), .val (.int 1)] [(.ref a0b), (.int 1)])) rfl rfl (hb hby d7_2) _ ?_
    rw [len_of S1 N1_]
    show Steps p.tables e below (s₁.setTop (mkF m 3 #[.val (.ref a0b), .val (.int 1)] [(.int 2), (.int 1)])) _
    refine XS.isub X0.here hx rfl (hb hby d7_3) rfl ?_
    refine XS.bipush X0.here hx rfl (hb hby d7_4) ?_
    refine XS.iushr X0.here hx rfl (hb hby d7_6) rfl ?_
    refine XS.i2b X0.here hx rfl (hb hby d7_7) rfl ?_
    show Steps p.tables e below (s₁.setTop (mkF m 8 #[.val (.ref a0b), .val (.int 1)] [(.int 1)])) _
    exact retN X0 hx (t := .byte) Bd.returns (by simp) (hb hby d7_8) hr
  · show Q_rmCfa1_2 n0 Z cS aRS aEM aUS aSS a0b k0 vs h0 _ s₁.heap _
    rw [e0]
    exact ⟨rfl, N0, rfl⟩
def Q_rmCfa2_2 (n0 : Nat) (Z : State) (cS : Int32) (aRS : Addr) (aEM : Addr) (aUS : Addr) (aSS : Addr) (a0b : Addr) (k0 : ClassId) (vs : List Value) (h0 : Heap) (v : Option Value) (h : Heap) (L : List Loc) : Prop := v = some (.int 0) ∧ Fr n0 L ∧ h = h0
set_option maxRecDepth 65536 in
set_option maxHeartbeats 40000000 in
theorem rmCfa2_2 (l : Launch) (Z : State) (a0 : Array Value) (hw : ∀ d ∈ tables_1, d.before a0 Z = true) (ws : List Jvm.Cond) (cS : Int32) (aRS : Addr) (aEM : Addr) (aUS : Addr) (aSS : Addr) (a0b : Addr) (k0 : ClassId) (vs : List Value) (h0 : Heap) (n0 : Nat) (O0 : Old Z n0 h0) (GL : GF Z cS aRS aEM aUS aSS) (V_a0b : Arv Z h0 a0b k0 .byte (2 : Int32) vs (.int 0)) :
    MetFree l MN_7 (head1 (Jvm.Cond.code MN_7 jdk_52_method_15_code 2 (some .byte) :: ws) ({ frames := 0, cells := 0, slots := 0, locals := 0 } : Room)) (fun a U => a = #[(.ref a0b), (.int 2)] ∧ Z.Warmed39 U.vm ∧ U.heap = h0) (fun _ _ _ _ _ => True) (fun _ U o U' => ∃ v L, o = .returned v ∧ Q_rmCfa2_2 n0 Z cS aRS aEM aUS aSS a0b k0 vs h0 v U'.heap L ∧ FrameEnd U o U' L ({ frames := 0, cells := 0, slots := 0, locals := 0 } : Room).cells ({ frames := 0, cells := 0, slots := 0, locals := 0 } : Room).slots) := by
  refine MetFree.of_bodySF (plainFor_of_name pn) hisR ?_
  intro p e s m args below meth c s₁ Bd hml0 hP hK
  obtain ⟨rfl, hZ, hh⟩ := hP
  have hx := Bd.exec
  have hby := Bd.bytes
  have hml : c.maxLocals = 2 := hml0
  have hown : s.vm.findClass "java/lang/StringUTF16" = some m.cls := findClass_of_methodNamed Bd.named
  have hnm := (name_of_methodNamed Bd.named Bd.method).1
  have X0 : Stand p l e ({ frames := 0, cells := 0, slots := 0, locals := 0 } : Room) s m #[(.ref a0b), (.int 2)] below meth c s₁ [] 0 0 := Stand.of_body Bd
  have e0 : s₁.heap = h0 := by rw [← hh, Bd.state]; rfl
  have N0 := Fr.nil n0
  have pre0 : ∀ t, Steps p.tables e below (s₁.setTop (mkF m 0 #[.val (.ref a0b), .val (.int 2)] [])) t → Steps p.tables e below (s₁.setTop (entryFrame m #[(.ref a0b), (.int 2)] 2)) t := fun t k => castTop (ef_rmGc3_2 m a0b) k
  have GL' := GL
  obtain ⟨GCS, GCP, GSR, GSE, GEE, GFE, GSU, GSS, GA16, GHI, GLO⟩ := GL'
  obtain ⟨cl1, Ar1, -, S1, N1_, -, -⟩ := id (V_a0b)
  obtain ⟨fs, hr, hrun, hended, hW, hsame⟩ := X0.leave (v := some (.int 0)) (fun h => by rw [Bd.returns] at h; cases h)
  refine ⟨_, _, pre0 _ ?_, hrun, hended, _, _, rfl, ?_, ⟨_, rfl⟩, hW, hsame.mono (by decide) (by decide)⟩
  · show Steps p.tables e below (s₁.setTop (mkF m 0 #[.val (.ref a0b), .val (.int 2)] [])) _
    refine XS.iloadN X0.here hx rfl (hb hby d7_0) rfl ?_
    refine XS.aloadN X0.here hx rfl (hb hby d7_1) rfl rfl ?_
    show Steps p.tables e below (s₁.setTop (mkF m 2 #[.val (.ref a0b), .val (.int 2)] [(.ref a0b), (.int 2)])) _
    refine X0.arraylength hx (by rw [e0]; exact Ar1.1) (State.isArrayOf_alike hZ.alike Ar1.2.1) (g := (mkF m 2 #[.val (.ref a0b), .val (.int 2)] [(.ref a0b), (.int 2)])) rfl rfl (hb hby d7_2) _ ?_
    rw [len_of S1 N1_]
    show Steps p.tables e below (s₁.setTop (mkF m 3 #[.val (.ref a0b), .val (.int 2)] [(.int 2), (.int 2)])) _
    refine XS.isub X0.here hx rfl (hb hby d7_3) rfl ?_
    refine XS.bipush X0.here hx rfl (hb hby d7_4) ?_
    refine XS.iushr X0.here hx rfl (hb hby d7_6) rfl ?_
    refine XS.i2b X0.here hx rfl (hb hby d7_7) rfl ?_
    show Steps p.tables e below (s₁.setTop (mkF m 8 #[.val (.ref a0b), .val (.int 2)] [(.int 0)])) _
    exact retN X0 hx (t := .byte) Bd.returns (by simp) (hb hby d7_8) hr
  · show Q_rmCfa2_2 n0 Z cS aRS aEM aUS aSS a0b k0 vs h0 _ s₁.heap _
    rw [e0]
    exact ⟨rfl, N0, rfl⟩
def Q_rmCfa2_4 (n0 : Nat) (Z : State) (cS : Int32) (aRS : Addr) (aEM : Addr) (aUS : Addr) (aSS : Addr) (a0b : Addr) (k0 : ClassId) (vs : List Value) (h0 : Heap) (v : Option Value) (h : Heap) (L : List Loc) : Prop := v = some (.int 1) ∧ Fr n0 L ∧ h = h0
set_option maxRecDepth 65536 in
set_option maxHeartbeats 40000000 in
theorem rmCfa2_4 (l : Launch) (Z : State) (a0 : Array Value) (hw : ∀ d ∈ tables_1, d.before a0 Z = true) (ws : List Jvm.Cond) (cS : Int32) (aRS : Addr) (aEM : Addr) (aUS : Addr) (aSS : Addr) (a0b : Addr) (k0 : ClassId) (vs : List Value) (h0 : Heap) (n0 : Nat) (O0 : Old Z n0 h0) (GL : GF Z cS aRS aEM aUS aSS) (V_a0b : Arv Z h0 a0b k0 .byte (4 : Int32) vs (.int 0)) :
    MetFree l MN_7 (head1 (Jvm.Cond.code MN_7 jdk_52_method_15_code 2 (some .byte) :: ws) ({ frames := 0, cells := 0, slots := 0, locals := 0 } : Room)) (fun a U => a = #[(.ref a0b), (.int 2)] ∧ Z.Warmed39 U.vm ∧ U.heap = h0) (fun _ _ _ _ _ => True) (fun _ U o U' => ∃ v L, o = .returned v ∧ Q_rmCfa2_4 n0 Z cS aRS aEM aUS aSS a0b k0 vs h0 v U'.heap L ∧ FrameEnd U o U' L ({ frames := 0, cells := 0, slots := 0, locals := 0 } : Room).cells ({ frames := 0, cells := 0, slots := 0, locals := 0 } : Room).slots) := by
  refine MetFree.of_bodySF (plainFor_of_name pn) hisR ?_
  intro p e s m args below meth c s₁ Bd hml0 hP hK
  obtain ⟨rfl, hZ, hh⟩ := hP
  have hx := Bd.exec
  have hby := Bd.bytes
  have hml : c.maxLocals = 2 := hml0
  have hown : s.vm.findClass "java/lang/StringUTF16" = some m.cls := findClass_of_methodNamed Bd.named
  have hnm := (name_of_methodNamed Bd.named Bd.method).1
  have X0 : Stand p l e ({ frames := 0, cells := 0, slots := 0, locals := 0 } : Room) s m #[(.ref a0b), (.int 2)] below meth c s₁ [] 0 0 := Stand.of_body Bd
  have e0 : s₁.heap = h0 := by rw [← hh, Bd.state]; rfl
  have N0 := Fr.nil n0
  have pre0 : ∀ t, Steps p.tables e below (s₁.setTop (mkF m 0 #[.val (.ref a0b), .val (.int 2)] [])) t → Steps p.tables e below (s₁.setTop (entryFrame m #[(.ref a0b), (.int 2)] 2)) t := fun t k => castTop (ef_rmGc3_2 m a0b) k
  have GL' := GL
  obtain ⟨GCS, GCP, GSR, GSE, GEE, GFE, GSU, GSS, GA16, GHI, GLO⟩ := GL'
  obtain ⟨cl1, Ar1, -, S1, N1_, -, -⟩ := id (V_a0b)
  obtain ⟨fs, hr, hrun, hended, hW, hsame⟩ := X0.leave (v := some (.int 1)) (fun h => by rw [Bd.returns] at h; cases h)
  refine ⟨_, _, pre0 _ ?_, hrun, hended, _, _, rfl, ?_, ⟨_, rfl⟩, hW, hsame.mono (by decide) (by decide)⟩
  · show Steps p.tables e below (s₁.setTop (mkF m 0 #[.val (.ref a0b), .val (.int 2)] [])) _
    refine XS.iloadN X0.here hx rfl (hb hby d7_0) rfl ?_
    refine XS.aloadN X0.here hx rfl (hb hby d7_1) rfl rfl ?_
    show Steps p.tables e below (s₁.setTop (mkF m 2 #[.val (.ref a0b), .val (.int 2)] [(.ref a0b), (.int 2)])) _
    refine X0.arraylength hx (by rw [e0]; exact Ar1.1) (State.isArrayOf_alike hZ.alike Ar1.2.1) (g := (mkF m 2 #[.val (.ref a0b), .val (.int 2)] [(.ref a0b), (.int 2)])) rfl rfl (hb hby d7_2) _ ?_
    rw [len_of S1 N1_]
    show Steps p.tables e below (s₁.setTop (mkF m 3 #[.val (.ref a0b), .val (.int 2)] [(.int 4), (.int 2)])) _
    refine XS.isub X0.here hx rfl (hb hby d7_3) rfl ?_
    refine XS.bipush X0.here hx rfl (hb hby d7_4) ?_
    refine XS.iushr X0.here hx rfl (hb hby d7_6) rfl ?_
    refine XS.i2b X0.here hx rfl (hb hby d7_7) rfl ?_
    show Steps p.tables e below (s₁.setTop (mkF m 8 #[.val (.ref a0b), .val (.int 2)] [(.int 1)])) _
    exact retN X0 hx (t := .byte) Bd.returns (by simp) (hb hby d7_8) hr
  · show Q_rmCfa2_4 n0 Z cS aRS aEM aUS aSS a0b k0 vs h0 _ s₁.heap _
    rw [e0]
    exact ⟨rfl, N0, rfl⟩
theorem ef_rmCfa3_3 (m : MethodId) (a0b : Addr) : entryFrame m #[(.ref a0b), (.int 3)] 2 = mkF m 0 #[.val (.ref a0b), .val (.int 3)] [] := by first | (simp [entryFrame, mkF, argsToLocals, Value.category]; done) | rfl
def Q_rmCfa3_3 (n0 : Nat) (Z : State) (cS : Int32) (aRS : Addr) (aEM : Addr) (aUS : Addr) (aSS : Addr) (a0b : Addr) (k0 : ClassId) (vs : List Value) (h0 : Heap) (v : Option Value) (h : Heap) (L : List Loc) : Prop := v = some (.int 0) ∧ Fr n0 L ∧ h = h0
set_option maxRecDepth 65536 in
set_option maxHeartbeats 40000000 in
theorem rmCfa3_3 (l : Launch) (Z : State) (a0 : Array Value) (hw : ∀ d ∈ tables_1, d.before a0 Z = true) (ws : List Jvm.Cond) (cS : Int32) (aRS : Addr) (aEM : Addr) (aUS : Addr) (aSS : Addr) (a0b : Addr) (k0 : ClassId) (vs : List Value) (h0 : Heap) (n0 : Nat) (O0 : Old Z n0 h0) (GL : GF Z cS aRS aEM aUS aSS) (V_a0b : Arv Z h0 a0b k0 .byte (3 : Int32) vs (.int 0)) :
    MetFree l MN_7 (head1 (Jvm.Cond.code MN_7 jdk_52_method_15_code 2 (some .byte) :: ws) ({ frames := 0, cells := 0, slots := 0, locals := 0 } : Room)) (fun a U => a = #[(.ref a0b), (.int 3)] ∧ Z.Warmed39 U.vm ∧ U.heap = h0) (fun _ _ _ _ _ => True) (fun _ U o U' => ∃ v L, o = .returned v ∧ Q_rmCfa3_3 n0 Z cS aRS aEM aUS aSS a0b k0 vs h0 v U'.heap L ∧ FrameEnd U o U' L ({ frames := 0, cells := 0, slots := 0, locals := 0 } : Room).cells ({ frames := 0, cells := 0, slots := 0, locals := 0 } : Room).slots) := by
  refine MetFree.of_bodySF (plainFor_of_name pn) hisR ?_
  intro p e s m args below meth c s₁ Bd hml0 hP hK
  obtain ⟨rfl, hZ, hh⟩ := hP
  have hx := Bd.exec
  have hby := Bd.bytes
  have hml : c.maxLocals = 2 := hml0
  have hown : s.vm.findClass "java/lang/StringUTF16" = some m.cls := findClass_of_methodNamed Bd.named
  have hnm := (name_of_methodNamed Bd.named Bd.method).1
  have X0 : Stand p l e ({ frames := 0, cells := 0, slots := 0, locals := 0 } : Room) s m #[(.ref a0b), (.int 3)] below meth c s₁ [] 0 0 := Stand.of_body Bd
  have e0 : s₁.heap = h0 := by rw [← hh, Bd.state]; rfl
  have N0 := Fr.nil n0
  have pre0 : ∀ t, Steps p.tables e below (s₁.setTop (mkF m 0 #[.val (.ref a0b), .val (.int 3)] [])) t → Steps p.tables e below (s₁.setTop (entryFrame m #[(.ref a0b), (.int 3)] 2)) t := fun t k => castTop (ef_rmCfa3_3 m a0b) k
  have GL' := GL
  obtain ⟨GCS, GCP, GSR, GSE, GEE, GFE, GSU, GSS, GA16, GHI, GLO⟩ := GL'
  obtain ⟨cl1, Ar1, -, S1, N1_, -, -⟩ := id (V_a0b)
  obtain ⟨fs, hr, hrun, hended, hW, hsame⟩ := X0.leave (v := some (.int 0)) (fun h => by rw [Bd.returns] at h; cases h)
  refine ⟨_, _, pre0 _ ?_, hrun, hended, _, _, rfl, ?_, ⟨_, rfl⟩, hW, hsame.mono (by decide) (by decide)⟩
  · show Steps p.tables e below (s₁.setTop (mkF m 0 #[.val (.ref a0b), .val (.int 3)] [])) _
    refine XS.iloadN X0.here hx rfl (hb hby d7_0) rfl ?_
    refine XS.aloadN X0.here hx rfl (hb hby d7_1) rfl rfl ?_
    show Steps p.tables e below (s₁.setTop (mkF m 2 #[.val (.ref a0b), .val (.int 3)] [(.ref a0b), (.int 3)])) _
    refine X0.arraylength hx (by rw [e0]; exact Ar1.1) (State.isArrayOf_alike hZ.alike Ar1.2.1) (g := (mkF m 2 #[.val (.ref a0b), .val (.int 3)] [(.ref a0b), (.int 3)])) rfl rfl (hb hby d7_2) _ ?_
    rw [len_of S1 N1_]
    show Steps p.tables e below (s₁.setTop (mkF m 3 #[.val (.ref a0b), .val (.int 3)] [(.int 3), (.int 3)])) _
    refine XS.isub X0.here hx rfl (hb hby d7_3) rfl ?_
    refine XS.bipush X0.here hx rfl (hb hby d7_4) ?_
    refine XS.iushr X0.here hx rfl (hb hby d7_6) rfl ?_
    refine XS.i2b X0.here hx rfl (hb hby d7_7) rfl ?_
    show Steps p.tables e below (s₁.setTop (mkF m 8 #[.val (.ref a0b), .val (.int 3)] [(.int 0)])) _
    exact retN X0 hx (t := .byte) Bd.returns (by simp) (hb hby d7_8) hr
  · show Q_rmCfa3_3 n0 Z cS aRS aEM aUS aSS a0b k0 vs h0 _ s₁.heap _
    rw [e0]
    exact ⟨rfl, N0, rfl⟩
def Q_rmCfa3_6 (n0 : Nat) (Z : State) (cS : Int32) (aRS : Addr) (aEM : Addr) (aUS : Addr) (aSS : Addr) (a0b : Addr) (k0 : ClassId) (vs : List Value) (h0 : Heap) (v : Option Value) (h : Heap) (L : List Loc) : Prop := v = some (.int 1) ∧ Fr n0 L ∧ h = h0
set_option maxRecDepth 65536 in
set_option maxHeartbeats 40000000 in
theorem rmCfa3_6 (l : Launch) (Z : State) (a0 : Array Value) (hw : ∀ d ∈ tables_1, d.before a0 Z = true) (ws : List Jvm.Cond) (cS : Int32) (aRS : Addr) (aEM : Addr) (aUS : Addr) (aSS : Addr) (a0b : Addr) (k0 : ClassId) (vs : List Value) (h0 : Heap) (n0 : Nat) (O0 : Old Z n0 h0) (GL : GF Z cS aRS aEM aUS aSS) (V_a0b : Arv Z h0 a0b k0 .byte (6 : Int32) vs (.int 0)) :
    MetFree l MN_7 (head1 (Jvm.Cond.code MN_7 jdk_52_method_15_code 2 (some .byte) :: ws) ({ frames := 0, cells := 0, slots := 0, locals := 0 } : Room)) (fun a U => a = #[(.ref a0b), (.int 3)] ∧ Z.Warmed39 U.vm ∧ U.heap = h0) (fun _ _ _ _ _ => True) (fun _ U o U' => ∃ v L, o = .returned v ∧ Q_rmCfa3_6 n0 Z cS aRS aEM aUS aSS a0b k0 vs h0 v U'.heap L ∧ FrameEnd U o U' L ({ frames := 0, cells := 0, slots := 0, locals := 0 } : Room).cells ({ frames := 0, cells := 0, slots := 0, locals := 0 } : Room).slots) := by
  refine MetFree.of_bodySF (plainFor_of_name pn) hisR ?_
  intro p e s m args below meth c s₁ Bd hml0 hP hK
  obtain ⟨rfl, hZ, hh⟩ := hP
  have hx := Bd.exec
  have hby := Bd.bytes
  have hml : c.maxLocals = 2 := hml0
  have hown : s.vm.findClass "java/lang/StringUTF16" = some m.cls := findClass_of_methodNamed Bd.named
  have hnm := (name_of_methodNamed Bd.named Bd.method).1
  have X0 : Stand p l e ({ frames := 0, cells := 0, slots := 0, locals := 0 } : Room) s m #[(.ref a0b), (.int 3)] below meth c s₁ [] 0 0 := Stand.of_body Bd
  have e0 : s₁.heap = h0 := by rw [← hh, Bd.state]; rfl
  have N0 := Fr.nil n0
  have pre0 : ∀ t, Steps p.tables e below (s₁.setTop (mkF m 0 #[.val (.ref a0b), .val (.int 3)] [])) t → Steps p.tables e below (s₁.setTop (entryFrame m #[(.ref a0b), (.int 3)] 2)) t := fun t k => castTop (ef_rmCfa3_3 m a0b) k
  have GL' := GL
  obtain ⟨GCS, GCP, GSR, GSE, GEE, GFE, GSU, GSS, GA16, GHI, GLO⟩ := GL'
  obtain ⟨cl1, Ar1, -, S1, N1_, -, -⟩ := id (V_a0b)
  obtain ⟨fs, hr, hrun, hended, hW, hsame⟩ := X0.leave (v := some (.int 1)) (fun h => by rw [Bd.returns] at h; cases h)
  refine ⟨_, _, pre0 _ ?_, hrun, hended, _, _, rfl, ?_, ⟨_, rfl⟩, hW, hsame.mono (by decide) (by decide)⟩
  · show Steps p.tables e below (s₁.setTop (mkF m 0 #[.val (.ref a0b), .val (.int 3)] [])) _
    refine XS.iloadN X0.here hx rfl (hb hby d7_0) rfl ?_
    refine XS.aloadN X0.here hx rfl (hb hby d7_1) rfl rfl ?_
    show Steps p.tables e below (s₁.setTop (mkF m 2 #[.val (.ref a0b), .val (.int 3)] [(.ref a0b), (.int 3)])) _
    refine X0.arraylength hx (by rw [e0]; exact Ar1.1) (State.isArrayOf_alike hZ.alike Ar1.2.1) (g := (mkF m 2 #[.val (.ref a0b), .val (.int 3)] [(.ref a0b), (.int 3)])) rfl rfl (hb hby d7_2) _ ?_
    rw [len_of S1 N1_]
    show Steps p.tables e below (s₁.setTop (mkF m 3 #[.val (.ref a0b), .val (.int 3)] [(.int 6), (.int 3)])) _
    refine XS.isub X0.here hx rfl (hb hby d7_3) rfl ?_
    refine XS.bipush X0.here hx rfl (hb hby d7_4) ?_
    refine XS.iushr X0.here hx rfl (hb hby d7_6) rfl ?_
    refine XS.i2b X0.here hx rfl (hb hby d7_7) rfl ?_
    show Steps p.tables e below (s₁.setTop (mkF m 8 #[.val (.ref a0b), .val (.int 3)] [(.int 1)])) _
    exact retN X0 hx (t := .byte) Bd.returns (by simp) (hb hby d7_8) hr
  · show Q_rmCfa3_6 n0 Z cS aRS aEM aUS aSS a0b k0 vs h0 _ s₁.heap _
    rw [e0]
    exact ⟨rfl, N0, rfl⟩
theorem d3_0 : decode jdk_42_method_149_code 0 = .ok (.aload_n 0, 1) := by decide +kernel
theorem d3_1 : decode jdk_42_method_149_code 1 = .ok (.invokespecial 1, 3) := by decide +kernel
theorem d3_4 : decode jdk_42_method_149_code 4 = .ok (.iload_n 3, 1) := by decide +kernel
theorem d3_5 : decode jdk_42_method_149_code 5 = .ok (.ifCond .ne 22, 3) := by decide +kernel
theorem d3_8 : decode jdk_42_method_149_code 8 = .ok (.aload_n 0, 1) := by decide +kernel
theorem d3_9 : decode jdk_42_method_149_code 9 = .ok (.ldc 7, 2) := by decide +kernel
theorem d3_11 : decode jdk_42_method_149_code 11 = .ok (.getfield 9, 3) := by decide +kernel
theorem d3_14 : decode jdk_42_method_149_code 14 = .ok (.putfield 9, 3) := by decide +kernel
theorem d3_17 : decode jdk_42_method_149_code 17 = .ok (.aload_n 0, 1) := by decide +kernel
theorem d3_18 : decode jdk_42_method_149_code 18 = .ok (.ldc 7, 2) := by decide +kernel
theorem d3_20 : decode jdk_42_method_149_code 20 = .ok (.getfield 15, 3) := by decide +kernel
theorem d3_23 : decode jdk_42_method_149_code 23 = .ok (.putfield 15, 3) := by decide +kernel
theorem d3_26 : decode jdk_42_method_149_code 26 = .ok (.return_, 1) := by decide +kernel
theorem pnv1 : plainName "java/lang/String" = true := by first | (simp [plainName, overriddenIn]; done) | decide +kernel
abbrev MN_8 : MethodName := ⟨"java/lang/String", "<init>", "([CIILjava/lang/Void;)V"⟩
theorem ef_rmIv_0 (m : MethodId) (a0s : Addr) (a1c : Addr) : entryFrame m #[(.ref a0s), (.ref a1c), (.int 0), (.int 0), .null] 6 = mkF m 0 #[.val (.ref a0s), .val (.ref a1c), .val (.int 0), .val (.int 0), .val .null, .unset] [] := by first | (simp [entryFrame, mkF, argsToLocals, Value.category]; done) | rfl
def Q_rmIv_0 (n0 : Nat) (Z : State) (cS : Int32) (aRS : Addr) (aEM : Addr) (aUS : Addr) (aSS : Addr) (a0s : Addr) (a1c : Addr) (h0 : Heap) (v : Option Value) (h : Heap) (L : List Loc) : Prop := ∃ b : Addr, ∃ kb : ClassId, v = none ∧ Fr n0 L ∧ Keep h0 h [a0s] ∧ (Exa Z h a0s "java/lang/String") ∧ (Fld Z h a0s "java/lang/String" "value" "[B" (.ref b)) ∧ (Fld Z h a0s "java/lang/String" "coder" "B" (.int 0)) ∧ (Arv Z h b kb .byte (0 : Int32) [] (.int 0))
set_option maxRecDepth 65536 in
set_option maxHeartbeats 40000000 in
theorem rmIv_0 (l : Launch) (Z : State) (a0 : Array Value) (hw : ∀ d ∈ tables_1, d.before a0 Z = true) (ws : List Jvm.Cond) (cS : Int32) (aRS : Addr) (aEM : Addr) (aUS : Addr) (aSS : Addr) (a0s : Addr) (a1c : Addr) (h0 : Heap) (n0 : Nat) (O0 : Old Z n0 h0) (GL : GF Z cS aRS aEM aUS aSS) (E_a0s : Exa Z h0 a0s "java/lang/String") (F_value_a0s : Fld Z h0 a0s "java/lang/String" "value" "[B" .null) (F_coder_a0s : Fld Z h0 a0s "java/lang/String" "coder" "B" (.int 0)) (g_a0s : n0 ≤ a0s) :
    MetFree l MN_8 (head1 (Jvm.Cond.code MN_8 jdk_42_method_149_code 6 none :: ws) ({ frames := 1, cells := 4, slots := 8, locals := 12 } : Room)) (fun a U => a = #[(.ref a0s), (.ref a1c), (.int 0), (.int 0), .null] ∧ Z.Warmed39 U.vm ∧ U.heap = h0 ∧ CHv Z EL1 U.vm h0) (fun _ _ _ _ _ => True) (fun _ U o U' => ∃ v L, o = .returned v ∧ Q_rmIv_0 n0 Z cS aRS aEM aUS aSS a0s a1c h0 v U'.heap L ∧ CHr Z EL1 U.vm U.heap U'.vm U'.heap ∧ ReturnedEndW U o U' L ({ frames := 1, cells := 4, slots := 8, locals := 12 } : Room).cells ({ frames := 1, cells := 4, slots := 8, locals := 12 } : Room).slots) := by
  refine MetFree.of_bodySF (plainFor_of_name pnv1) hisR ?_
  intro p e s m args below meth c s₁ Bd hml0 hP hK
  obtain ⟨rfl, hZ, hh, H0⟩ := hP
  have hx := Bd.exec
  have hby := Bd.bytes
  have hml : c.maxLocals = 6 := hml0
  have hown : s.vm.findClass "java/lang/String" = some m.cls := findClass_of_methodNamed Bd.named
  have hnm := (name_of_methodNamed Bd.named Bd.method).1
  have X0 : Stand p l e ({ frames := 1, cells := 4, slots := 8, locals := 12 } : Room) s m #[(.ref a0s), (.ref a1c), (.int 0), (.int 0), .null] below meth c s₁ [] 0 0 := Stand.of_body Bd
  have e0 : s₁.heap = h0 := by rw [← hh, Bd.state]; rfl
  have N0 := Fr.nil n0
  have pre0 : ∀ t, Steps p.tables e below (s₁.setTop (mkF m 0 #[.val (.ref a0s), .val (.ref a1c), .val (.int 0), .val (.int 0), .val .null, .unset] [])) t → Steps p.tables e below (s₁.setTop (entryFrame m #[(.ref a0s), (.ref a1c), (.int 0), (.int 0), .null] 6)) t := fun t k => castTop (ef_rmIv_0 m a0s a1c) k
  have X0w : Stand p l e ({ frames := 1, cells := 4, slots := 8, locals := 12 } : Room) (s.setVm s.vm) m #[(.ref a0s), (.ref a1c), (.int 0), (.int 0), .null] below meth c s₁ [] 0 0 := X0
  have R0 : CHr Z EL1 s.vm h0 s.vm h0 := CHr.refl H0
  have hS0 : s.Since s.vm h0.size := (State.WarmedH.refl s).since _
  have GL' := GL
  obtain ⟨GCS, GCP, GSR, GSE, GEE, GFE, GSU, GSS, GA16, GHI, GLO⟩ := GL'
  obtain ⟨T1, X1, e1, st1⟩ := initO X0w hx hZ hown (Wd hw 16 rfl) (Wd hw 17 rfl) (Wd hw 18 rfl) e0 (g := (mkF m 1 #[.val (.ref a0s), .val (.ref a1c), .val (.int 0), .val (.int 0), .val .null, .unset] [(.ref a0s)])) rfl (by rw [hml]; rfl) rfl (hb hby d3_1) (by decide) (W := 0) (by show 2 * 0 + _ ≤ _; exact Nat.le_of_eq rfl) (by decide)
  obtain ⟨a2, T2, h2, k12, b2, kc2, X2, e2, E2, hS2, hk2, hZ2, hown2, A2, Fc2, Fv2, V2, la2, lb2, Rs2, Li2, nel2, st2⟩ := ldcCH X1 hx hZ hown (Wd hw 116 rfl) (own_wS hw) e1 hS0 (Nat.le_refl _) (own_EW hw) (List.mem_of_getElem? (i := 0) rfl) H0 (vs := []) (z := (0 : Int32)) ⟨by decide, by decide⟩ (by decide) rfl (g := (mkF m 9 #[.val (.ref a0s), .val (.ref a1c), .val (.int 0), .val (.int 0), .val .null, .unset] [(.ref a0s)])) rfl (hb hby d3_9) (n := 0) (by decide) (by decide) (by decide) (by decide)
  have H_3 := Rs2.1
  have R_3 := R0.trans Rs2
  have K2 : Keep h0 h2 [a0s] := (Keep.refl h0 [a0s]).ext E2
  have O2 := O0.ext E2
  obtain ⟨T4, X4, e4, st4⟩ := getF X2 hx hZ2 hown2 (host := "") (Or.inl (Wd hw 33 rfl)) Via.refl e2 Fv2 (g := (mkF m 11 #[.val (.ref a0s), .val (.ref a1c), .val (.int 0), .val (.int 0), .val .null, .unset] [(.ref a2), (.ref a0s)])) rfl rfl (hb hby d3_11)
  obtain ⟨T5, h5, X5, e5, W5, st5⟩ := putF X4 hx hZ2 hown2 (host := "") (Or.inl (Wd hw 33 rfl)) Via.refl e4 (F_value_a0s.ext E2) (E_a0s.ext E2) (Or.inr ⟨(Wd hw 34 rfl), rfl, hnm⟩) (Wd hw 6 rfl) (ty := (.array .byte)) (by decide) rfl rfl (g := (mkF m 14 #[.val (.ref a0s), .val (.ref a1c), .val (.int 0), .val (.int 0), .val .null, .unset] [(.ref b2), (.ref a0s)])) rfl rfl (hb hby d3_14)
  have Fw5 := (F_value_a0s.ext E2).same W5
  have Sf7 : Safe Z EL1 T2.vm h2 a0s := (CHr.safe Rs2 E_a0s.lt (own_safeS hZ.alike H0 F_value_a0s E_a0s))
  have H_6 := H_3.wr W5 Sf7
  have R_6 := R_3.trans (CHr.wr W5 Sf7 H_3)
  have K5 : Keep h0 h5 [a0s] := K2.wr W5 (Or.inl (List.mem_of_getElem? (i := 0) rfl))
  have O5 := O2.wr W5 g_a0s
  have N5 := Fr.snoc X5 N0 g_a0s
  obtain ⟨a8, T8, h8, k18, b8, kc8, X8, e8, E8, hS8, hk8, hZ8, hown8, A8, Fc8, Fv8, V8, la8, lb8, Rs8, Li8, nel8, st8⟩ := ldcCH X5 hx hZ2 hown2 (Wd hw 116 rfl) (own_wS hw) e5 hS2 (Nat.le_trans hk2 (Keep.of_wr W5).1) (own_EW hw) (List.mem_of_getElem? (i := 0) rfl) H_6 (vs := []) (z := (0 : Int32)) ⟨by decide, by decide⟩ (by decide) rfl (g := (mkF m 18 #[.val (.ref a0s), .val (.ref a1c), .val (.int 0), .val (.int 0), .val .null, .unset] [(.ref a0s)])) rfl (hb hby d3_18) (n := 0) (by decide) (by decide) (by decide) (by decide)
  have H_9 := Rs8.1
  have R_9 := R_6.trans Rs8
  have K8 : Keep h0 h8 [a0s] := K5.ext E8
  have O8 := O5.ext E8
  obtain ⟨T10, X10, e10, st10⟩ := getF X8 hx hZ8 hown8 (host := "") (Or.inl (Wd hw 31 rfl)) Via.refl e8 Fc8 (g := (mkF m 20 #[.val (.ref a0s), .val (.ref a1c), .val (.int 0), .val (.int 0), .val .null, .unset] [(.ref a8), (.ref a0s)])) rfl rfl (hb hby d3_20)
  obtain ⟨T11, h11, X11, e11, W11, st11⟩ := putFN X10 hx hZ8 hown8 (Wd hw 31 rfl) Via.refl e10 (((F_coder_a0s.ext E2).other W5 (Or.inr (slot_ne (a0 := a0) (Or.inr (Wd hw 32 rfl)) (Or.inr (Wd hw 34 rfl)) (by decide) (t := .byte) (t' := (.array .byte)) (by decide) (by decide)))).ext E8) (((E_a0s.ext E2).wr W5).ext E8) (Or.inr ⟨(Wd hw 32 rfl), rfl, hnm⟩) (Wd hw 6 rfl) (ty := .byte) (v' := (.int 0)) (by decide) rfl (by decide) (g := (mkF m 23 #[.val (.ref a0s), .val (.ref a1c), .val (.int 0), .val (.int 0), .val .null, .unset] [(.int 0), (.ref a0s)])) rfl rfl (hb hby d3_23)
  have Fw11 := (((F_coder_a0s.ext E2).other W5 (Or.inr (slot_ne (a0 := a0) (Or.inr (Wd hw 32 rfl)) (Or.inr (Wd hw 34 rfl)) (by decide) (t := .byte) (t' := (.array .byte)) (by decide) (by decide)))).ext E8).same W11
  have Sf13 : Safe Z EL1 T8.vm h8 a0s := (CHr.safe Rs8 (Nat.lt_of_lt_of_le E_a0s.lt (Nat.le_trans E2.1 (Keep.of_wr W5).1)) (Safe.wr W5 Sf7 H_3 Sf7))
  have H_12 := H_9.wr W11 Sf13
  have R_12 := R_9.trans (CHr.wr W11 Sf13 H_9)
  have K11 : Keep h0 h11 [a0s] := K8.wr W11 (Or.inl (List.mem_of_getElem? (i := 0) rfl))
  have O11 := O8.wr W11 g_a0s
  have N11 := Fr.snoc X11 N5 g_a0s
  obtain ⟨fs, hr, hrun, hended, hRW⟩ := X11.leaveW hS8 (by rw [e11]; exact (Nat.le_trans hk8 (Keep.of_wr W11).1)) (v := none) (fun _ => rfl)
  have hCR : CHr Z EL1 s.vm s.heap T11.vm T11.heap := by
    rw [hh, e11]
    exact R_12.trans (CHv.at X11 hZ8 (own_EW hw) H_12)
  refine ⟨_, _, pre0 _ ?_, hrun, hended, _, _, rfl, ?_, hCR, hRW.1, hRW.2.1, hRW.2.2.1, hRW.2.2.2.mono (by decide) (by decide)⟩
  · show Steps p.tables e below (s₁.setTop (mkF m 0 #[.val (.ref a0s), .val (.ref a1c), .val (.int 0), .val (.int 0), .val .null, .unset] [])) _
    refine XS.aloadN X0w.here hx rfl (hb hby d3_0) rfl rfl ?_
    show Steps p.tables e below (s₁.setTop (mkF m 1 #[.val (.ref a0s), .val (.ref a1c), .val (.int 0), .val (.int 0), .val .null, .unset] [(.ref a0s)])) _
    refine st1 _ ?_
    show Steps p.tables e below (T1.setTop (mkF m 4 #[.val (.ref a0s), .val (.ref a1c), .val (.int 0), .val (.int 0), .val .null, .unset] [])) _
    refine XS.iloadN X1.here hx rfl (hb hby d3_4) rfl ?_
    refine XS.ifNo X1.here hx rfl (hb hby d3_5) rfl ((if0 _ _).trans (teq (by decide : (0 : Int32) = (0 : Int32))).2) ?_
    refine XS.aloadN X1.here hx rfl (hb hby d3_8) rfl rfl ?_
    show Steps p.tables e below (T1.setTop (mkF m 9 #[.val (.ref a0s), .val (.ref a1c), .val (.int 0), .val (.int 0), .val .null, .unset] [(.ref a0s)])) _
    refine st2 _ ?_
    show Steps p.tables e below (T2.setTop (mkF m 11 #[.val (.ref a0s), .val (.ref a1c), .val (.int 0), .val (.int 0), .val .null, .unset] [(.ref a2), (.ref a0s)])) _
    refine st4 _ ?_
    show Steps p.tables e below (T4.setTop (mkF m 14 #[.val (.ref a0s), .val (.ref a1c), .val (.int 0), .val (.int 0), .val .null, .unset] [(.ref b2), (.ref a0s)])) _
    refine st5 _ ?_
    show Steps p.tables e below (T5.setTop (mkF m 17 #[.val (.ref a0s), .val (.ref a1c), .val (.int 0), .val (.int 0), .val .null, .unset] [])) _
    refine XS.aloadN X5.here hx rfl (hb hby d3_17) rfl rfl ?_
    show Steps p.tables e below (T5.setTop (mkF m 18 #[.val (.ref a0s), .val (.ref a1c), .val (.int 0), .val (.int 0), .val .null, .unset] [(.ref a0s)])) _
    refine st8 _ ?_
    show Steps p.tables e below (T8.setTop (mkF m 20 #[.val (.ref a0s), .val (.ref a1c), .val (.int 0), .val (.int 0), .val .null, .unset] [(.ref a8), (.ref a0s)])) _
    refine st10 _ ?_
    show Steps p.tables e below (T10.setTop (mkF m 23 #[.val (.ref a0s), .val (.ref a1c), .val (.int 0), .val (.int 0), .val .null, .unset] [(.int 0), (.ref a0s)])) _
    refine st11 _ ?_
    show Steps p.tables e below (T11.setTop (mkF m 26 #[.val (.ref a0s), .val (.ref a1c), .val (.int 0), .val (.int 0), .val .null, .unset] [])) _
    exact X11.returnOut hx Bd.returns (hb hby d3_26) hr
  · show Q_rmIv_0 n0 Z cS aRS aEM aUS aSS a0s a1c h0 _ T11.heap _
    rw [e11]
    exact ⟨b2, kc2, rfl, N11, K11, ((((E_a0s.ext E2).wr W5).ext E8).wr W11), ((Fw5.ext E8).other W11 (Or.inr (slot_ne (a0 := a0) (Or.inr (Wd hw 34 rfl)) (Or.inr (Wd hw 32 rfl)) (by decide) (t := (.array .byte)) (t' := .byte) (by decide) (by decide)))), Fw11, (((V2.other W5 (Ne.symm (nel2 a0s Sf7).2)).ext E8).other W11 (Ne.symm (nel2 a0s Sf7).2))⟩
theorem d3_27 : decode jdk_42_method_149_code 27 = .ok (.getstatic 38, 3) := by decide +kernel
theorem d3_30 : decode jdk_42_method_149_code 30 = .ok (.ifCond .eq 28, 3) := by decide +kernel
theorem d3_33 : decode jdk_42_method_149_code 33 = .ok (.aload_n 1, 1) := by decide +kernel
theorem d3_34 : decode jdk_42_method_149_code 34 = .ok (.iload_n 2, 1) := by decide +kernel
theorem d3_35 : decode jdk_42_method_149_code 35 = .ok (.iload_n 3, 1) := by decide +kernel
theorem d3_36 : decode jdk_42_method_149_code 36 = .ok (.invokestatic 177, 3) := by decide +kernel
theorem d3_39 : decode jdk_42_method_149_code 39 = .ok (.astore 5, 2) := by decide +kernel
theorem d3_41 : decode jdk_42_method_149_code 41 = .ok (.aload_n 0, 1) := by decide +kernel
theorem d3_42 : decode jdk_42_method_149_code 42 = .ok (.aload 5, 2) := by decide +kernel
theorem d3_44 : decode jdk_42_method_149_code 44 = .ok (.iload_n 3, 1) := by decide +kernel
theorem d3_45 : decode jdk_42_method_149_code 45 = .ok (.invokestatic 47, 3) := by decide +kernel
theorem pdv6 : parseMethodDescriptor "([BI)B" = some ⟨[(.array .byte), .int], some .byte⟩ := by decide +kernel
theorem d3_48 : decode jdk_42_method_149_code 48 = .ok (.putfield 15, 3) := by decide +kernel
theorem d3_51 : decode jdk_42_method_149_code 51 = .ok (.aload_n 0, 1) := by decide +kernel
theorem d3_52 : decode jdk_42_method_149_code 52 = .ok (.aload 5, 2) := by decide +kernel
theorem d3_54 : decode jdk_42_method_149_code 54 = .ok (.putfield 9, 3) := by decide +kernel
theorem d3_57 : decode jdk_42_method_149_code 57 = .ok (.return_, 1) := by decide +kernel
theorem ef_rmIv_1 (m : MethodId) (a0s : Addr) (a1c : Addr) : entryFrame m #[(.ref a0s), (.ref a1c), (.int 0), (.int 1), .null] 6 = mkF m 0 #[.val (.ref a0s), .val (.ref a1c), .val (.int 0), .val (.int 1), .val .null, .unset] [] := by first | (simp [entryFrame, mkF, argsToLocals, Value.category]; done) | rfl
def Q_rmIv_1 (n0 : Nat) (Z : State) (cS : Int32) (aRS : Addr) (aEM : Addr) (aUS : Addr) (aSS : Addr) (a0s : Addr) (a1c : Addr) (k1 : ClassId) (c0 : Int32) (h0 : Heap) (v : Option Value) (h : Heap) (L : List Loc) : Prop := ∃ b : Addr, ∃ kb : ClassId, v = none ∧ Fr n0 L ∧ Keep h0 h [a0s] ∧ (h0.size ≤ b) ∧ (Exa Z h b "[B") ∧ (Exa Z h a0s "java/lang/String") ∧ (Fld Z h a0s "java/lang/String" "value" "[B" (.ref b)) ∧ (Fld Z h a0s "java/lang/String" "coder" "B" (.int 0)) ∧ (Arv Z h b kb .byte (1 : Int32) [(.int (c0.toInt8.toInt32))] (.int 0))
set_option maxRecDepth 65536 in
set_option maxHeartbeats 40000000 in
theorem rmIv_1 (l : Launch) (Z : State) (a0 : Array Value) (hw : ∀ d ∈ tables_1, d.before a0 Z = true) (ws : List Jvm.Cond) (cS : Int32) (aRS : Addr) (aEM : Addr) (aUS : Addr) (aSS : Addr) (a0s : Addr) (a1c : Addr) (k1 : ClassId) (c0 : Int32) (h0 : Heap) (n0 : Nat) (O0 : Old Z n0 h0) (GL : GF Z cS aRS aEM aUS aSS) (E_a0s : Exa Z h0 a0s "java/lang/String") (F_value_a0s : Fld Z h0 a0s "java/lang/String" "value" "[B" .null) (F_coder_a0s : Fld Z h0 a0s "java/lang/String" "coder" "B" (.int 0)) (g_a0s : n0 ≤ a0s) (V_a1c : Arv Z h0 a1c k1 .char (1 : Int32) [(.int c0)] (.int 0)) (hc0 : ¬ ((255 : Int32) < c0)) :
    MetFree l MN_8 (head1 (Jvm.Cond.code MN_8 jdk_42_method_149_code 6 none :: ws) ({ frames := 2, cells := 1, slots := 1, locals := 35 } : Room)) (fun a U => a = #[(.ref a0s), (.ref a1c), (.int 0), (.int 1), .null] ∧ Z.Warmed39 U.vm ∧ U.heap = h0) (fun _ _ _ _ _ => True) (fun _ U o U' => ∃ v L, o = .returned v ∧ Q_rmIv_1 n0 Z cS aRS aEM aUS aSS a0s a1c k1 c0 h0 v U'.heap L ∧ FrameEnd U o U' L ({ frames := 2, cells := 1, slots := 1, locals := 35 } : Room).cells ({ frames := 2, cells := 1, slots := 1, locals := 35 } : Room).slots) := by
  refine MetFree.of_bodySF (plainFor_of_name pnv1) hisR ?_
  intro p e s m args below meth c s₁ Bd hml0 hP hK
  obtain ⟨rfl, hZ, hh⟩ := hP
  have hx := Bd.exec
  have hby := Bd.bytes
  have hml : c.maxLocals = 6 := hml0
  have hown : s.vm.findClass "java/lang/String" = some m.cls := findClass_of_methodNamed Bd.named
  have hnm := (name_of_methodNamed Bd.named Bd.method).1
  have X0 : Stand p l e ({ frames := 2, cells := 1, slots := 1, locals := 35 } : Room) s m #[(.ref a0s), (.ref a1c), (.int 0), (.int 1), .null] below meth c s₁ [] 0 0 := Stand.of_body Bd
  have e0 : s₁.heap = h0 := by rw [← hh, Bd.state]; rfl
  have N0 := Fr.nil n0
  have pre0 : ∀ t, Steps p.tables e below (s₁.setTop (mkF m 0 #[.val (.ref a0s), .val (.ref a1c), .val (.int 0), .val (.int 1), .val .null, .unset] [])) t → Steps p.tables e below (s₁.setTop (entryFrame m #[(.ref a0s), (.ref a1c), (.int 0), (.int 1), .null] 6)) t := fun t k => castTop (ef_rmIv_1 m a0s a1c) k
  have GL' := GL
  obtain ⟨GCS, GCP, GSR, GSE, GEE, GFE, GSU, GSS, GA16, GHI, GLO⟩ := GL'
  obtain ⟨T1, X1, e1, st1⟩ := initO X0 hx hZ hown (Wd hw 16 rfl) (Wd hw 17 rfl) (Wd hw 18 rfl) e0 (g := (mkF m 1 #[.val (.ref a0s), .val (.ref a1c), .val (.int 0), .val (.int 1), .val .null, .unset] [(.ref a0s)])) rfl (by rw [hml]; rfl) rfl (hb hby d3_1) (by decide) (W := 0) (by show 2 * 0 + _ ≤ _; exact Nat.le_of_eq rfl) (by decide)
  obtain ⟨T2, X2, e2, st2⟩ := getS2 X1 hx hZ hown (host := "") (Or.inl (Wd hw 19 rfl)) Via.refl e1 (GCS.ext O0.2) (g := (mkF m 27 #[.val (.ref a0s), .val (.ref a1c), .val (.int 0), .val (.int 1), .val .null, .unset] [])) rfl (hb hby d3_27)
  obtain ⟨_, _, ⟨T3, L3, k3, n3⟩, -, X3, ⟨Lc3, hQ3, l3, y3, z3⟩, st3⟩ := Jvm.LawKit.callS X2 hx (y := MN_1) hown (mvT hZ (Wd hw 20 rfl)) (mvT hZ (Wd hw 21 rfl)) (mvT hZ (Wd hw 22 rfl)) (mvT hZ (Wd hw 23 rfl)) (by decide) (backOf (W := 0) (rmC1_1 l Z a0 hw [] cS aRS aEM aUS aSS (a1c) (k1) (c0) (h0) n0 O0 GL V_a1c hc0) hZ (Wd hw 23 rfl) (Wd hw 22 rfl) (by decide) (by decide)) (g := (mkF m 36 #[.val (.ref a0s), .val (.ref a1c), .val (.int 0), .val (.int 1), .val .null, .unset] [(.int 1), (.int 0), (.ref a1c)])) rfl (by rw [hml]; rfl) (argsL := [(.ref a1c), (.int 0), (.int 1)]) (rest := []) (lenOf pdv4 rfl) rfl (by show 2 * 0 + _ ≤ _; exact Nat.le_of_eq rfl) (hb hby d3_36) (fun _ _ => ⟨rfl, e2, (by decide : 0 + 1 ≤ _), (by decide : 0 + 1 ≤ _)⟩)
  dsimp only [Pt.U, Pt.locs, Pt.cells, Pt.slots] at X3 l3 y3 z3 st3 hQ3
  subst l3 y3 z3
  obtain ⟨b_3, kb_3, rfl, N3q, Kc3, P3_0, P3_1, P3_2⟩ := hQ3
  have K3 : Keep h0 T3.heap [a0s] := (Keep.refl h0 [a0s]).trans Kc3 all0
  have O3 := O0.keep Kc3 all0
  have g_b_3 : n0 ≤ b_3 := Nat.le_trans (own_sz O0) P3_0
  have sz_b_3 : h0.size ≤ b_3 := Nat.le_trans (Keep.refl h0 [a0s]).1 P3_0
  have N3 := Fr.app N0 N3q
  obtain ⟨_, _, ⟨T4, L4, k4, n4⟩, -, X4, ⟨Lc4, hQ4, l4, y4, z4⟩, st4⟩ := Jvm.LawKit.callS X3 hx (y := MN_7) hown (mvT hZ (Wd hw 28 rfl)) (mvT hZ (Wd hw 29 rfl)) (mvT hZ (Wd hw 22 rfl)) (mvT hZ (Wd hw 30 rfl)) (by decide) (backOf (W := 1) (rmCfa1_1 l Z a0 hw [] cS aRS aEM aUS aSS (b_3) (kb_3) ([(.int (c0.toInt8.toInt32))]) (T3.heap) n0 O3 GL P3_2) hZ (Wd hw 30 rfl) (Wd hw 22 rfl) (by decide) (by decide)) (g := (mkF m 45 #[.val (.ref a0s), .val (.ref a1c), .val (.int 0), .val (.int 1), .val .null, .val (.ref b_3)] [(.int 1), (.ref b_3), (.ref a0s)])) rfl (by rw [hml]; rfl) (argsL := [(.ref b_3), (.int 1)]) (rest := [(.ref a0s)]) (lenOf pdv6 rfl) rfl (by show 2 * 0 + _ ≤ _; exact Nat.le_of_eq rfl) (hb hby d3_45) (fun _ _ => ⟨rfl, rfl, (by decide : 1 + 0 ≤ _), (by decide : 1 + 0 ≤ _)⟩)
  dsimp only [Pt.U, Pt.locs, Pt.cells, Pt.slots] at X4 l4 y4 z4 st4 hQ4
  subst l4 y4 z4
  obtain ⟨rfl, N4q, e4⟩ := hQ4
  have N4 := Fr.app N3 N4q
  obtain ⟨T5, h5, X5, e5, W5, st5⟩ := putFN X4 hx hZ hown (Wd hw 31 rfl) Via.refl e4 (F_coder_a0s.keep Kc3 nin0) (E_a0s.keep Kc3) (Or.inr ⟨(Wd hw 32 rfl), rfl, hnm⟩) (Wd hw 6 rfl) (ty := .byte) (v' := (.int 0)) (by decide) rfl (by decide) (g := (mkF m 48 #[.val (.ref a0s), .val (.ref a1c), .val (.int 0), .val (.int 1), .val .null, .val (.ref b_3)] [(.int 0), (.ref a0s)])) rfl rfl (hb hby d3_48)
  have Fw5 := (F_coder_a0s.keep Kc3 nin0).same W5
  have K5 : Keep h0 h5 [a0s] := K3.wr W5 (Or.inl (List.mem_of_getElem? (i := 0) rfl))
  have O5 := O3.wr W5 g_a0s
  have N5 := Fr.snoc X5 N4 g_a0s
  obtain ⟨T6, h6, X6, e6, W6, st6⟩ := putF X5 hx hZ hown (host := "") (Or.inl (Wd hw 33 rfl)) Via.refl e5 ((F_value_a0s.keep Kc3 nin0).other W5 (Or.inr (slot_ne (a0 := a0) (Or.inr (Wd hw 34 rfl)) (Or.inr (Wd hw 32 rfl)) (by decide) (t := (.array .byte)) (t' := .byte) (by decide) (by decide)))) ((E_a0s.keep Kc3).wr W5) (Or.inr ⟨(Wd hw 34 rfl), rfl, hnm⟩) (Wd hw 6 rfl) (ty := (.array .byte)) (by decide) rfl rfl (g := (mkF m 54 #[.val (.ref a0s), .val (.ref a1c), .val (.int 0), .val (.int 1), .val .null, .val (.ref b_3)] [(.ref b_3), (.ref a0s)])) rfl rfl (hb hby d3_54)
  have Fw6 := ((F_value_a0s.keep Kc3 nin0).other W5 (Or.inr (slot_ne (a0 := a0) (Or.inr (Wd hw 34 rfl)) (Or.inr (Wd hw 32 rfl)) (by decide) (t := (.array .byte)) (t' := .byte) (by decide) (by decide)))).same W6
  have K6 : Keep h0 h6 [a0s] := K5.wr W6 (Or.inl (List.mem_of_getElem? (i := 0) rfl))
  have O6 := O5.wr W6 g_a0s
  have N6 := Fr.snoc X6 N5 g_a0s
  obtain ⟨fs, hr, hrun, hended, hW, hsame⟩ := X6.leave (v := none) (fun _ => rfl)
  refine ⟨_, _, pre0 _ ?_, hrun, hended, _, _, rfl, ?_, ⟨_, rfl⟩, hW, hsame.mono (by decide) (by decide)⟩
  · show Steps p.tables e below (s₁.setTop (mkF m 0 #[.val (.ref a0s), .val (.ref a1c), .val (.int 0), .val (.int 1), .val .null, .unset] [])) _
    refine XS.aloadN X0.here hx rfl (hb hby d3_0) rfl rfl ?_
    show Steps p.tables e below (s₁.setTop (mkF m 1 #[.val (.ref a0s), .val (.ref a1c), .val (.int 0), .val (.int 1), .val .null, .unset] [(.ref a0s)])) _
    refine st1 _ ?_
    show Steps p.tables e below (T1.setTop (mkF m 4 #[.val (.ref a0s), .val (.ref a1c), .val (.int 0), .val (.int 1), .val .null, .unset] [])) _
    refine XS.iloadN X1.here hx rfl (hb hby d3_4) rfl ?_
    refine XS.ifYes X1.here hx rfl (pc0 := 5) (pc' := 27) rfl (hb hby d3_5) rfl ((if0 _ _).trans (feq (by decide : ¬ ((1 : Int32) = (0 : Int32)))).2) (by decide) (by decide) ?_
    show Steps p.tables e below (T1.setTop (mkF m 27 #[.val (.ref a0s), .val (.ref a1c), .val (.int 0), .val (.int 1), .val .null, .unset] [])) _
    refine st2 _ ?_
    show Steps p.tables e below (T2.setTop (mkF m 30 #[.val (.ref a0s), .val (.ref a1c), .val (.int 0), .val (.int 1), .val .null, .unset] [(.int cS)])) _
    refine XS.ifNo X2.here hx rfl (hb hby d3_30) rfl ((if0 _ _).trans (feq GCP).1) ?_
    refine XS.aloadN X2.here hx rfl (hb hby d3_33) rfl rfl ?_
    refine XS.iloadN X2.here hx rfl (hb hby d3_34) rfl ?_
    refine XS.iloadN X2.here hx rfl (hb hby d3_35) rfl ?_
    show Steps p.tables e below (T2.setTop (mkF m 36 #[.val (.ref a0s), .val (.ref a1c), .val (.int 0), .val (.int 1), .val .null, .unset] [(.int 1), (.int 0), (.ref a1c)])) _
    refine st3 _ ?_
    show Steps p.tables e below (T3.setTop (mkF m 39 #[.val (.ref a0s), .val (.ref a1c), .val (.int 0), .val (.int 1), .val .null, .unset] [(.ref b_3)])) _
    refine XS.astore X3.here hx rfl (hb hby d3_39) rfl rfl (l' := #[.val (.ref a0s), .val (.ref a1c), .val (.int 0), .val (.int 1), .val .null, .val (.ref b_3)]) rfl ?_
    refine XS.aloadN X3.here hx rfl (hb hby d3_41) rfl rfl ?_
    refine XS.aload X3.here hx rfl (hb hby d3_42) rfl rfl ?_
    refine XS.iloadN X3.here hx rfl (hb hby d3_44) rfl ?_
    show Steps p.tables e below (T3.setTop (mkF m 45 #[.val (.ref a0s), .val (.ref a1c), .val (.int 0), .val (.int 1), .val .null, .val (.ref b_3)] [(.int 1), (.ref b_3), (.ref a0s)])) _
    refine st4 _ ?_
    show Steps p.tables e below (T4.setTop (mkF m 48 #[.val (.ref a0s), .val (.ref a1c), .val (.int 0), .val (.int 1), .val .null, .val (.ref b_3)] [(.int 0), (.ref a0s)])) _
    refine st5 _ ?_
    show Steps p.tables e below (T5.setTop (mkF m 51 #[.val (.ref a0s), .val (.ref a1c), .val (.int 0), .val (.int 1), .val .null, .val (.ref b_3)] [])) _
    refine XS.aloadN X5.here hx rfl (hb hby d3_51) rfl rfl ?_
    refine XS.aload X5.here hx rfl (hb hby d3_52) rfl rfl ?_
    show Steps p.tables e below (T5.setTop (mkF m 54 #[.val (.ref a0s), .val (.ref a1c), .val (.int 0), .val (.int 1), .val .null, .val (.ref b_3)] [(.ref b_3), (.ref a0s)])) _
    refine st6 _ ?_
    show Steps p.tables e below (T6.setTop (mkF m 57 #[.val (.ref a0s), .val (.ref a1c), .val (.int 0), .val (.int 1), .val .null, .val (.ref b_3)] [])) _
    exact X6.returnOut hx Bd.returns (hb hby d3_57) hr
  · show Q_rmIv_1 n0 Z cS aRS aEM aUS aSS a0s a1c k1 c0 h0 _ T6.heap _
    rw [e6]
    exact ⟨b_3, kb_3, rfl, N6, K6, sz_b_3, ((P3_1.wr W5).wr W6), (((E_a0s.keep Kc3).wr W5).wr W6), Fw6, (Fw5.other W6 (Or.inr (slot_ne (a0 := a0) (Or.inr (Wd hw 32 rfl)) (Or.inr (Wd hw 34 rfl)) (by decide) (t := .byte) (t' := (.array .byte)) (by decide) (by decide)))), ((P3_2.other W5 (Ne.symm (Nat.ne_of_lt (Nat.lt_of_lt_of_le E_a0s.lt P3_0)))).other W6 (Ne.symm (Nat.ne_of_lt (Nat.lt_of_lt_of_le E_a0s.lt P3_0))))⟩
def Q_rmIv_1u0 (n0 : Nat) (Z : State) (cS : Int32) (aRS : Addr) (aEM : Addr) (aUS : Addr) (aSS : Addr) (a0s : Addr) (a1c : Addr) (k1 : ClassId) (c0 : Int32) (h0 : Heap) (v : Option Value) (h : Heap) (L : List Loc) : Prop := ∃ b : Addr, ∃ kb : ClassId, v = none ∧ Fr n0 L ∧ Keep h0 h [a0s] ∧ (h0.size ≤ b) ∧ (Exa Z h b "[B") ∧ (Exa Z h a0s "java/lang/String") ∧ (Fld Z h a0s "java/lang/String" "value" "[B" (.ref b)) ∧ (Fld Z h a0s "java/lang/String" "coder" "B" (.int 1)) ∧ (Arv Z h b kb .byte (2 : Int32) [(.int (c0.toInt8.toInt32)), (.int ((c0 >>> ((8 : Int32) &&& 31)).toInt8.toInt32))] (.int 0))
set_option maxRecDepth 65536 in
set_option maxHeartbeats 40000000 in
theorem rmIv_1u0 (l : Launch) (Z : State) (a0 : Array Value) (hw : ∀ d ∈ tables_1, d.before a0 Z = true) (ws : List Jvm.Cond) (cS : Int32) (aRS : Addr) (aEM : Addr) (aUS : Addr) (aSS : Addr) (a0s : Addr) (a1c : Addr) (k1 : ClassId) (c0 : Int32) (h0 : Heap) (n0 : Nat) (O0 : Old Z n0 h0) (GL : GF Z cS aRS aEM aUS aSS) (E_a0s : Exa Z h0 a0s "java/lang/String") (F_value_a0s : Fld Z h0 a0s "java/lang/String" "value" "[B" .null) (F_coder_a0s : Fld Z h0 a0s "java/lang/String" "coder" "B" (.int 0)) (g_a0s : n0 ≤ a0s) (V_a1c : Arv Z h0 a1c k1 .char (1 : Int32) [(.int c0)] (.int 0)) (hcj : (255 : Int32) < c0) (hnj : nar .char c0 = c0) :
    MetFree l MN_8 (head1 (Jvm.Cond.code MN_8 jdk_42_method_149_code 6 none :: ws) ({ frames := 4, cells := 2, slots := 3, locals := 57 } : Room)) (fun a U => a = #[(.ref a0s), (.ref a1c), (.int 0), (.int 1), .null] ∧ Z.Warmed39 U.vm ∧ U.heap = h0) (fun _ _ _ _ _ => True) (fun _ U o U' => ∃ v L, o = .returned v ∧ Q_rmIv_1u0 n0 Z cS aRS aEM aUS aSS a0s a1c k1 c0 h0 v U'.heap L ∧ FrameEnd U o U' L ({ frames := 4, cells := 2, slots := 3, locals := 57 } : Room).cells ({ frames := 4, cells := 2, slots := 3, locals := 57 } : Room).slots) := by
  refine MetFree.of_bodySF (plainFor_of_name pnv1) hisR ?_
  intro p e s m args below meth c s₁ Bd hml0 hP hK
  obtain ⟨rfl, hZ, hh⟩ := hP
  have hx := Bd.exec
  have hby := Bd.bytes
  have hml : c.maxLocals = 6 := hml0
  have hown : s.vm.findClass "java/lang/String" = some m.cls := findClass_of_methodNamed Bd.named
  have hnm := (name_of_methodNamed Bd.named Bd.method).1
  have X0 : Stand p l e ({ frames := 4, cells := 2, slots := 3, locals := 57 } : Room) s m #[(.ref a0s), (.ref a1c), (.int 0), (.int 1), .null] below meth c s₁ [] 0 0 := Stand.of_body Bd
  have e0 : s₁.heap = h0 := by rw [← hh, Bd.state]; rfl
  have N0 := Fr.nil n0
  have pre0 : ∀ t, Steps p.tables e below (s₁.setTop (mkF m 0 #[.val (.ref a0s), .val (.ref a1c), .val (.int 0), .val (.int 1), .val .null, .unset] [])) t → Steps p.tables e below (s₁.setTop (entryFrame m #[(.ref a0s), (.ref a1c), (.int 0), (.int 1), .null] 6)) t := fun t k => castTop (ef_rmIv_1 m a0s a1c) k
  have GL' := GL
  obtain ⟨GCS, GCP, GSR, GSE, GEE, GFE, GSU, GSS, GA16, GHI, GLO⟩ := GL'
  obtain ⟨T1, X1, e1, st1⟩ := initO X0 hx hZ hown (Wd hw 16 rfl) (Wd hw 17 rfl) (Wd hw 18 rfl) e0 (g := (mkF m 1 #[.val (.ref a0s), .val (.ref a1c), .val (.int 0), .val (.int 1), .val .null, .unset] [(.ref a0s)])) rfl (by rw [hml]; rfl) rfl (hb hby d3_1) (by decide) (W := 0) (by show 2 * 0 + _ ≤ _; exact Nat.le_of_eq rfl) (by decide)
  obtain ⟨T2, X2, e2, st2⟩ := getS2 X1 hx hZ hown (host := "") (Or.inl (Wd hw 19 rfl)) Via.refl e1 (GCS.ext O0.2) (g := (mkF m 27 #[.val (.ref a0s), .val (.ref a1c), .val (.int 0), .val (.int 1), .val .null, .unset] [])) rfl (hb hby d3_27)
  obtain ⟨_, _, ⟨T3, L3, k3, n3⟩, -, X3, ⟨Lc3, hQ3, l3, y3, z3⟩, st3⟩ := Jvm.LawKit.callS X2 hx (y := MN_1) hown (mvT hZ (Wd hw 20 rfl)) (mvT hZ (Wd hw 21 rfl)) (mvT hZ (Wd hw 22 rfl)) (mvT hZ (Wd hw 23 rfl)) (by decide) (backOf (W := 0) (rmC1_1u0 l Z a0 hw [] cS aRS aEM aUS aSS (a1c) (k1) (c0) (h0) n0 O0 GL V_a1c hcj hnj) hZ (Wd hw 23 rfl) (Wd hw 22 rfl) (by decide) (by decide)) (g := (mkF m 36 #[.val (.ref a0s), .val (.ref a1c), .val (.int 0), .val (.int 1), .val .null, .unset] [(.int 1), (.int 0), (.ref a1c)])) rfl (by rw [hml]; rfl) (argsL := [(.ref a1c), (.int 0), (.int 1)]) (rest := []) (lenOf pdv4 rfl) rfl (by show 2 * 0 + _ ≤ _; exact Nat.le_of_eq rfl) (hb hby d3_36) (fun _ _ => ⟨rfl, e2, (by decide : 0 + 2 ≤ _), (by decide : 0 + 3 ≤ _)⟩)
  dsimp only [Pt.U, Pt.locs, Pt.cells, Pt.slots] at X3 l3 y3 z3 st3 hQ3
  subst l3 y3 z3
  obtain ⟨b_3, kb_3, rfl, N3q, Kc3, P3_0, P3_1, P3_2⟩ := hQ3
  have K3 : Keep h0 T3.heap [a0s] := (Keep.refl h0 [a0s]).trans Kc3 all0
  have O3 := O0.keep Kc3 all0
  have g_b_3 : n0 ≤ b_3 := Nat.le_trans (own_sz O0) P3_0
  have sz_b_3 : h0.size ≤ b_3 := Nat.le_trans (Keep.refl h0 [a0s]).1 P3_0
  have N3 := Fr.app N0 N3q
  obtain ⟨_, _, ⟨T4, L4, k4, n4⟩, -, X4, ⟨Lc4, hQ4, l4, y4, z4⟩, st4⟩ := Jvm.LawKit.callS X3 hx (y := MN_7) hown (mvT hZ (Wd hw 28 rfl)) (mvT hZ (Wd hw 29 rfl)) (mvT hZ (Wd hw 22 rfl)) (mvT hZ (Wd hw 30 rfl)) (by decide) (backOf (W := 1) (rmCfa1_2 l Z a0 hw [] cS aRS aEM aUS aSS (b_3) (kb_3) ([(.int (c0.toInt8.toInt32)), (.int ((c0 >>> ((8 : Int32) &&& 31)).toInt8.toInt32))]) (T3.heap) n0 O3 GL P3_2) hZ (Wd hw 30 rfl) (Wd hw 22 rfl) (by decide) (by decide)) (g := (mkF m 45 #[.val (.ref a0s), .val (.ref a1c), .val (.int 0), .val (.int 1), .val .null, .val (.ref b_3)] [(.int 1), (.ref b_3), (.ref a0s)])) rfl (by rw [hml]; rfl) (argsL := [(.ref b_3), (.int 1)]) (rest := [(.ref a0s)]) (lenOf pdv6 rfl) rfl (by show 2 * 0 + _ ≤ _; exact Nat.le_of_eq rfl) (hb hby d3_45) (fun _ _ => ⟨rfl, rfl, (by decide : 2 + 0 ≤ _), (by decide : 3 + 0 ≤ _)⟩)
  dsimp only [Pt.U, Pt.locs, Pt.cells, Pt.slots] at X4 l4 y4 z4 st4 hQ4
  subst l4 y4 z4
  obtain ⟨rfl, N4q, e4⟩ := hQ4
  have N4 := Fr.app N3 N4q
  obtain ⟨T5, h5, X5, e5, W5, st5⟩ := putFN X4 hx hZ hown (Wd hw 31 rfl) Via.refl e4 (F_coder_a0s.keep Kc3 nin0) (E_a0s.keep Kc3) (Or.inr ⟨(Wd hw 32 rfl), rfl, hnm⟩) (Wd hw 6 rfl) (ty := .byte) (v' := (.int 1)) (by decide) rfl (by decide) (g := (mkF m 48 #[.val (.ref a0s), .val (.ref a1c), .val (.int 0), .val (.int 1), .val .null, .val (.ref b_3)] [(.int 1), (.ref a0s)])) rfl rfl (hb hby d3_48)
  have Fw5 := (F_coder_a0s.keep Kc3 nin0).same W5
  have K5 : Keep h0 h5 [a0s] := K3.wr W5 (Or.inl (List.mem_of_getElem? (i := 0) rfl))
  have O5 := O3.wr W5 g_a0s
  have N5 := Fr.snoc X5 N4 g_a0s
  obtain ⟨T6, h6, X6, e6, W6, st6⟩ := putF X5 hx hZ hown (host := "") (Or.inl (Wd hw 33 rfl)) Via.refl e5 ((F_value_a0s.keep Kc3 nin0).other W5 (Or.inr (slot_ne (a0 := a0) (Or.inr (Wd hw 34 rfl)) (Or.inr (Wd hw 32 rfl)) (by decide) (t := (.array .byte)) (t' := .byte) (by decide) (by decide)))) ((E_a0s.keep Kc3).wr W5) (Or.inr ⟨(Wd hw 34 rfl), rfl, hnm⟩) (Wd hw 6 rfl) (ty := (.array .byte)) (by decide) rfl rfl (g := (mkF m 54 #[.val (.ref a0s), .val (.ref a1c), .val (.int 0), .val (.int 1), .val .null, .val (.ref b_3)] [(.ref b_3), (.ref a0s)])) rfl rfl (hb hby d3_54)
  have Fw6 := ((F_value_a0s.keep Kc3 nin0).other W5 (Or.inr (slot_ne (a0 := a0) (Or.inr (Wd hw 34 rfl)) (Or.inr (Wd hw 32 rfl)) (by decide) (t := (.array .byte)) (t' := .byte) (by decide) (by decide)))).same W6
  have K6 : Keep h0 h6 [a0s] := K5.wr W6 (Or.inl (List.mem_of_getElem? (i := 0) rfl))
  have O6 := O5.wr W6 g_a0s
  have N6 := Fr.snoc X6 N5 g_a0s
  obtain ⟨fs, hr, hrun, hended, hW, hsame⟩ := X6.leave (v := none) (fun _ => rfl)
  refine ⟨_, _, pre0 _ ?_, hrun, hended, _, _, rfl, ?_, ⟨_, rfl⟩, hW, hsame.mono (by decide) (by decide)⟩
  · show Steps p.tables e below (s₁.setTop (mkF m 0 #[.val (.ref a0s), .val (.ref a1c), .val (.int 0), .val (.int 1), .val .null, .unset] [])) _
    refine XS.aloadN X0.here hx rfl (hb hby d3_0) rfl rfl ?_
    show Steps p.tables e below (s₁.setTop (mkF m 1 #[.val (.ref a0s), .val (.ref a1c), .val (.int 0), .val (.int 1), .val .null, .unset] [(.ref a0s)])) _
    refine st1 _ ?_
    show Steps p.tables e below (T1.setTop (mkF m 4 #[.val (.ref a0s), .val (.ref a1c), .val (.int 0), .val (.int 1), .val .null, .unset] [])) _
    refine XS.iloadN X1.here hx rfl (hb hby d3_4) rfl ?_
    refine XS.ifYes X1.here hx rfl (pc0 := 5) (pc' := 27) rfl (hb hby d3_5) rfl ((if0 _ _).trans (feq (by decide : ¬ ((1 : Int32) = (0 : Int32)))).2) (by decide) (by decide) ?_
    show Steps p.tables e below (T1.setTop (mkF m 27 #[.val (.ref a0s), .val (.ref a1c), .val (.int 0), .val (.int 1), .val .null, .unset] [])) _
    refine st2 _ ?_
    show Steps p.tables e below (T2.setTop (mkF m 30 #[.val (.ref a0s), .val (.ref a1c), .val (.int 0), .val (.int 1), .val .null, .unset] [(.int cS)])) _
    refine XS.ifNo X2.here hx rfl (hb hby d3_30) rfl ((if0 _ _).trans (feq GCP).1) ?_
    refine XS.aloadN X2.here hx rfl (hb hby d3_33) rfl rfl ?_
    refine XS.iloadN X2.here hx rfl (hb hby d3_34) rfl ?_
    refine XS.iloadN X2.here hx rfl (hb hby d3_35) rfl ?_
    show Steps p.tables e below (T2.setTop (mkF m 36 #[.val (.ref a0s), .val (.ref a1c), .val (.int 0), .val (.int 1), .val .null, .unset] [(.int 1), (.int 0), (.ref a1c)])) _
    refine st3 _ ?_
    show Steps p.tables e below (T3.setTop (mkF m 39 #[.val (.ref a0s), .val (.ref a1c), .val (.int 0), .val (.int 1), .val .null, .unset] [(.ref b_3)])) _
    refine XS.astore X3.here hx rfl (hb hby d3_39) rfl rfl (l' := #[.val (.ref a0s), .val (.ref a1c), .val (.int 0), .val (.int 1), .val .null, .val (.ref b_3)]) rfl ?_
    refine XS.aloadN X3.here hx rfl (hb hby d3_41) rfl rfl ?_
    refine XS.aload X3.here hx rfl (hb hby d3_42) rfl rfl ?_
    refine XS.iloadN X3.here hx rfl (hb hby d3_44) rfl ?_
    show Steps p.tables e below (T3.setTop (mkF m 45 #[.val (.ref a0s), .val (.ref a1c), .val (.int 0), .val (.int 1), .val .null, .val (.ref b_3)] [(.int 1), (.ref b_3), (.ref a0s)])) _
    refine st4 _ ?_
    show Steps p.tables e below (T4.setTop (mkF m 48 #[.val (.ref a0s), .val (.ref a1c), .val (.int 0), .val (.int 1), .val .null, .val (.ref b_3)] [(.int 1), (.ref a0s)])) _
    refine st5 _ ?_
    show Steps p.tables e below (T5.setTop (mkF m 51 #[.val (.ref a0s), .val (.ref a1c), .val (.int 0), .val (.int 1), .val .null, .val (.ref b_3)] [])) _
    refine XS.aloadN X5.here hx rfl (hb hby d3_51) rfl rfl ?_
    refine XS.aload X5.here hx rfl (hb hby d3_52) rfl rfl ?_
    show Steps p.tables e below (T5.setTop (mkF m 54 #[.val (.ref a0s), .val (.ref a1c), .val (.int 0), .val (.int 1), .val .null, .val (.ref b_3)] [(.ref b_3), (.ref a0s)])) _
    refine st6 _ ?_
    show Steps p.tables e below (T6.setTop (mkF m 57 #[.val (.ref a0s), .val (.ref a1c), .val (.int 0), .val (.int 1), .val .null, .val (.ref b_3)] [])) _
    exact X6.returnOut hx Bd.returns (hb hby d3_57) hr
  · show Q_rmIv_1u0 n0 Z cS aRS aEM aUS aSS a0s a1c k1 c0 h0 _ T6.heap _
    rw [e6]
    exact ⟨b_3, kb_3, rfl, N6, K6, sz_b_3, ((P3_1.wr W5).wr W6), (((E_a0s.keep Kc3).wr W5).wr W6), Fw6, (Fw5.other W6 (Or.inr (slot_ne (a0 := a0) (Or.inr (Wd hw 32 rfl)) (Or.inr (Wd hw 34 rfl)) (by decide) (t := .byte) (t' := (.array .byte)) (by decide) (by decide)))), ((P3_2.other W5 (Ne.symm (Nat.ne_of_lt (Nat.lt_of_lt_of_le E_a0s.lt P3_0)))).other W6 (Ne.symm (Nat.ne_of_lt (Nat.lt_of_lt_of_le E_a0s.lt P3_0))))⟩
theorem ef_rmIv_2 (m : MethodId) (a0s : Addr) (a1c : Addr) : entryFrame m #[(.ref a0s), (.ref a1c), (.int 0), (.int 2), .null] 6 = mkF m 0 #[.val (.ref a0s), .val (.ref a1c), .val (.int 0), .val (.int 2), .val .null, .unset] [] := by first | (simp [entryFrame, mkF, argsToLocals, Value.category]; done) | rfl
def Q_rmIv_2 (n0 : Nat) (Z : State) (cS : Int32) (aRS : Addr) (aEM : Addr) (aUS : Addr) (aSS : Addr) (a0s : Addr) (a1c : Addr) (k1 : ClassId) (c0 : Int32) (c1 : Int32) (h0 : Heap) (v : Option Value) (h : Heap) (L : List Loc) : Prop := ∃ b : Addr, ∃ kb : ClassId, v = none ∧ Fr n0 L ∧ Keep h0 h [a0s] ∧ (h0.size ≤ b) ∧ (Exa Z h b "[B") ∧ (Exa Z h a0s "java/lang/String") ∧ (Fld Z h a0s "java/lang/String" "value" "[B" (.ref b)) ∧ (Fld Z h a0s "java/lang/String" "coder" "B" (.int 0)) ∧ (Arv Z h b kb .byte (2 : Int32) [(.int (c0.toInt8.toInt32)), (.int (c1.toInt8.toInt32))] (.int 0))
set_option maxRecDepth 65536 in
set_option maxHeartbeats 40000000 in
theorem rmIv_2 (l : Launch) (Z : State) (a0 : Array Value) (hw : ∀ d ∈ tables_1, d.before a0 Z = true) (ws : List Jvm.Cond) (cS : Int32) (aRS : Addr) (aEM : Addr) (aUS : Addr) (aSS : Addr) (a0s : Addr) (a1c : Addr) (k1 : ClassId) (c0 : Int32) (c1 : Int32) (h0 : Heap) (n0 : Nat) (O0 : Old Z n0 h0) (GL : GF Z cS aRS aEM aUS aSS) (E_a0s : Exa Z h0 a0s "java/lang/String") (F_value_a0s : Fld Z h0 a0s "java/lang/String" "value" "[B" .null) (F_coder_a0s : Fld Z h0 a0s "java/lang/String" "coder" "B" (.int 0)) (g_a0s : n0 ≤ a0s) (V_a1c : Arv Z h0 a1c k1 .char (2 : Int32) [(.int c0), (.int c1)] (.int 0)) (hc0 : ¬ ((255 : Int32) < c0)) (hc1 : ¬ ((255 : Int32) < c1)) :
    MetFree l MN_8 (head1 (Jvm.Cond.code MN_8 jdk_42_method_149_code 6 none :: ws) ({ frames := 2, cells := 1, slots := 2, locals := 35 } : Room)) (fun a U => a = #[(.ref a0s), (.ref a1c), (.int 0), (.int 2), .null] ∧ Z.Warmed39 U.vm ∧ U.heap = h0) (fun _ _ _ _ _ => True) (fun _ U o U' => ∃ v L, o = .returned v ∧ Q_rmIv_2 n0 Z cS aRS aEM aUS aSS a0s a1c k1 c0 c1 h0 v U'.heap L ∧ FrameEnd U o U' L ({ frames := 2, cells := 1, slots := 2, locals := 35 } : Room).cells ({ frames := 2, cells := 1, slots := 2, locals := 35 } : Room).slots) := by
  refine MetFree.of_bodySF (plainFor_of_name pnv1) hisR ?_
  intro p e s m args below meth c s₁ Bd hml0 hP hK
  obtain ⟨rfl, hZ, hh⟩ := hP
  have hx := Bd.exec
  have hby := Bd.bytes
  have hml : c.maxLocals = 6 := hml0
  have hown : s.vm.findClass "java/lang/String" = some m.cls := findClass_of_methodNamed Bd.named
  have hnm := (name_of_methodNamed Bd.named Bd.method).1
  have X0 : Stand p l e ({ frames := 2, cells := 1, slots := 2, locals := 35 } : Room) s m #[(.ref a0s), (.ref a1c), (.int 0), (.int 2), .null] below meth c s₁ [] 0 0 := Stand.of_body Bd
  have e0 : s₁.heap = h0 := by rw [← hh, Bd.state]; rfl
  have N0 := Fr.nil n0
  have pre0 : ∀ t, Steps p.tables e below (s₁.setTop (mkF m 0 #[.val (.ref a0s), .val (.ref a1c), .val (.int 0), .val (.int 2), .val .null, .unset] [])) t → Steps p.tables e below (s₁.setTop (entryFrame m #[(.ref a0s), (.ref a1c), (.int 0), (.int 2), .null] 6)) t := fun t k => castTop (ef_rmIv_2 m a0s a1c) k
  have GL' := GL
  obtain ⟨GCS, GCP, GSR, GSE, GEE, GFE, GSU, GSS, GA16, GHI, GLO⟩ := GL'
  obtain ⟨T1, X1, e1, st1⟩ := initO X0 hx hZ hown (Wd hw 16 rfl) (Wd hw 17 rfl) (Wd hw 18 rfl) e0 (g := (mkF m 1 #[.val (.ref a0s), .val (.ref a1c), .val (.int 0), .val (.int 2), .val .null, .unset] [(.ref a0s)])) rfl (by rw [hml]; rfl) rfl (hb hby d3_1) (by decide) (W := 0) (by show 2 * 0 + _ ≤ _; exact Nat.le_of_eq rfl) (by decide)
  obtain ⟨T2, X2, e2, st2⟩ := getS2 X1 hx hZ hown (host := "") (Or.inl (Wd hw 19 rfl)) Via.refl e1 (GCS.ext O0.2) (g := (mkF m 27 #[.val (.ref a0s), .val (.ref a1c), .val (.int 0), .val (.int 2), .val .null, .unset] [])) rfl (hb hby d3_27)
  obtain ⟨_, _, ⟨T3, L3, k3, n3⟩, -, X3, ⟨Lc3, hQ3, l3, y3, z3⟩, st3⟩ := Jvm.LawKit.callS X2 hx (y := MN_1) hown (mvT hZ (Wd hw 20 rfl)) (mvT hZ (Wd hw 21 rfl)) (mvT hZ (Wd hw 22 rfl)) (mvT hZ (Wd hw 23 rfl)) (by decide) (backOf (W := 0) (rmC1_2 l Z a0 hw [] cS aRS aEM aUS aSS (a1c) (k1) (c0) (c1) (h0) n0 O0 GL V_a1c hc0 hc1) hZ (Wd hw 23 rfl) (Wd hw 22 rfl) (by decide) (by decide)) (g := (mkF m 36 #[.val (.ref a0s), .val (.ref a1c), .val (.int 0), .val (.int 2), .val .null, .unset] [(.int 2), (.int 0), (.ref a1c)])) rfl (by rw [hml]; rfl) (argsL := [(.ref a1c), (.int 0), (.int 2)]) (rest := []) (lenOf pdv4 rfl) rfl (by show 2 * 0 + _ ≤ _; exact Nat.le_of_eq rfl) (hb hby d3_36) (fun _ _ => ⟨rfl, e2, (by decide : 0 + 1 ≤ _), (by decide : 0 + 2 ≤ _)⟩)
  dsimp only [Pt.U, Pt.locs, Pt.cells, Pt.slots] at X3 l3 y3 z3 st3 hQ3
  subst l3 y3 z3
  obtain ⟨b_3, kb_3, rfl, N3q, Kc3, P3_0, P3_1, P3_2⟩ := hQ3
  have K3 : Keep h0 T3.heap [a0s] := (Keep.refl h0 [a0s]).trans Kc3 all0
  have O3 := O0.keep Kc3 all0
  have g_b_3 : n0 ≤ b_3 := Nat.le_trans (own_sz O0) P3_0
  have sz_b_3 : h0.size ≤ b_3 := Nat.le_trans (Keep.refl h0 [a0s]).1 P3_0
  have N3 := Fr.app N0 N3q
  obtain ⟨_, _, ⟨T4, L4, k4, n4⟩, -, X4, ⟨Lc4, hQ4, l4, y4, z4⟩, st4⟩ := Jvm.LawKit.callS X3 hx (y := MN_7) hown (mvT hZ (Wd hw 28 rfl)) (mvT hZ (Wd hw 29 rfl)) (mvT hZ (Wd hw 22 rfl)) (mvT hZ (Wd hw 30 rfl)) (by decide) (backOf (W := 1) (rmCfa2_2 l Z a0 hw [] cS aRS aEM aUS aSS (b_3) (kb_3) ([(.int (c0.toInt8.toInt32)), (.int (c1.toInt8.toInt32))]) (T3.heap) n0 O3 GL P3_2) hZ (Wd hw 30 rfl) (Wd hw 22 rfl) (by decide) (by decide)) (g := (mkF m 45 #[.val (.ref a0s), .val (.ref a1c), .val (.int 0), .val (.int 2), .val .null, .val (.ref b_3)] [(.int 2), (.ref b_3), (.ref a0s)])) rfl (by rw [hml]; rfl) (argsL := [(.ref b_3), (.int 2)]) (rest := [(.ref a0s)]) (lenOf pdv6 rfl) rfl (by show 2 * 0 + _ ≤ _; exact Nat.le_of_eq rfl) (hb hby d3_45) (fun _ _ => ⟨rfl, rfl, (by decide : 1 + 0 ≤ _), (by decide : 2 + 0 ≤ _)⟩)
  dsimp only [Pt.U, Pt.locs, Pt.cells, Pt.slots] at X4 l4 y4 z4 st4 hQ4
  subst l4 y4 z4
  obtain ⟨rfl, N4q, e4⟩ := hQ4
  have N4 := Fr.app N3 N4q
  obtain ⟨T5, h5, X5, e5, W5, st5⟩ := putFN X4 hx hZ hown (Wd hw 31 rfl) Via.refl e4 (F_coder_a0s.keep Kc3 nin0) (E_a0s.keep Kc3) (Or.inr ⟨(Wd hw 32 rfl), rfl, hnm⟩) (Wd hw 6 rfl) (ty := .byte) (v' := (.int 0)) (by decide) rfl (by decide) (g := (mkF m 48 #[.val (.ref a0s), .val (.ref a1c), .val (.int 0), .val (.int 2), .val .null, .val (.ref b_3)] [(.int 0), (.ref a0s)])) rfl rfl (hb hby d3_48)
  have Fw5 := (F_coder_a0s.keep Kc3 nin0).same W5
  have K5 : Keep h0 h5 [a0s] := K3.wr W5 (Or.inl (List.mem_of_getElem? (i := 0) rfl))
  have O5 := O3.wr W5 g_a0s
  have N5 := Fr.snoc X5 N4 g_a0s
  obtain ⟨T6, h6, X6, e6, W6, st6⟩ := putF X5 hx hZ hown (host := "") (Or.inl (Wd hw 33 rfl)) Via.refl e5 ((F_value_a0s.keep Kc3 nin0).other W5 (Or.inr (slot_ne (a0 := a0) (Or.inr (Wd hw 34 rfl)) (Or.inr (Wd hw 32 rfl)) (by decide) (t := (.array .byte)) (t' := .byte) (by decide) (by decide)))) ((E_a0s.keep Kc3).wr W5) (Or.inr ⟨(Wd hw 34 rfl), rfl, hnm⟩) (Wd hw 6 rfl) (ty := (.array .byte)) (by decide) rfl rfl (g := (mkF m 54 #[.val (.ref a0s), .val (.ref a1c), .val (.int 0), .val (.int 2), .val .null, .val (.ref b_3)] [(.ref b_3), (.ref a0s)])) rfl rfl (hb hby d3_54)
  have Fw6 := ((F_value_a0s.keep Kc3 nin0).other W5 (Or.inr (slot_ne (a0 := a0) (Or.inr (Wd hw 34 rfl)) (Or.inr (Wd hw 32 rfl)) (by decide) (t := (.array .byte)) (t' := .byte) (by decide) (by decide)))).same W6
  have K6 : Keep h0 h6 [a0s] := K5.wr W6 (Or.inl (List.mem_of_getElem? (i := 0) rfl))
  have O6 := O5.wr W6 g_a0s
  have N6 := Fr.snoc X6 N5 g_a0s
  obtain ⟨fs, hr, hrun, hended, hW, hsame⟩ := X6.leave (v := none) (fun _ => rfl)
  refine ⟨_, _, pre0 _ ?_, hrun, hended, _, _, rfl, ?_, ⟨_, rfl⟩, hW, hsame.mono (by decide) (by decide)⟩
  · show Steps p.tables e below (s₁.setTop (mkF m 0 #[.val (.ref a0s), .val (.ref a1c), .val (.int 0), .val (.int 2), .val .null, .unset] [])) _
    refine XS.aloadN X0.here hx rfl (hb hby d3_0) rfl rfl ?_
    show Steps p.tables e below (s₁.setTop (mkF m 1 #[.val (.ref a0s), .val (.ref a1c), .val (.int 0), .val (.int 2), .val .null, .unset] [(.ref a0s)])) _
    refine st1 _ ?_
    show Steps p.tables e below (T1.setTop (mkF m 4 #[.val (.ref a0s), .val (.ref a1c), .val (.int 0), .val (.int 2), .val .null, .unset] [])) _
    refine XS.iloadN X1.here hx rfl (hb hby d3_4) rfl ?_
    refine XS.ifYes X1.here hx rfl (pc0 := 5) (pc' := 27) rfl (hb hby d3_5) rfl ((if0 _ _).trans (feq (by decide : ¬ ((2 : Int32) = (0 : Int32)))).2) (by decide) (by decide) ?_
    show Steps p.tables e below (T1.setTop (mkF m 27 #[.val (.ref a0s), .val (.ref a1c), .val (.int 0), .val (.int 2), .val .null, .unset] [])) _
    refine st2 _ ?_
    show Steps p.tables e below (T2.setTop (mkF m 30 #[.val (.ref a0s), .val (.ref a1c), .val (.int 0), .val (.int 2), .val .null, .unset] [(.int cS)])) _
    refine XS.ifNo X2.here hx rfl (hb hby d3_30) rfl ((if0 _ _).trans (feq GCP).1) ?_
    refine XS.aloadN X2.here hx rfl (hb hby d3_33) rfl rfl ?_
    refine XS.iloadN X2.here hx rfl (hb hby d3_34) rfl ?_
    refine XS.iloadN X2.here hx rfl (hb hby d3_35) rfl ?_
    show Steps p.tables e below (T2.setTop (mkF m 36 #[.val (.ref a0s), .val (.ref a1c), .val (.int 0), .val (.int 2), .val .null, .unset] [(.int 2), (.int 0), (.ref a1c)])) _
    refine st3 _ ?_
    show Steps p.tables e below (T3.setTop (mkF m 39 #[.val (.ref a0s), .val (.ref a1c), .val (.int 0), .val (.int 2), .val .null, .unset] [(.ref b_3)])) _
    refine XS.astore X3.here hx rfl (hb hby d3_39) rfl rfl (l' := #[.val (.ref a0s), .val (.ref a1c), .val (.int 0), .val (.int 2), .val .null, .val (.ref b_3)]) rfl ?_
    refine XS.aloadN X3.here hx rfl (hb hby d3_41) rfl rfl ?_
    refine XS.aload X3.here hx rfl (hb hby d3_42) rfl rfl ?_
    refine XS.iloadN X3.here hx rfl (hb hby d3_44) rfl ?_
    show Steps p.tables e below (T3.setTop (mkF m 45 #[.val (.ref a0s), .val (.ref a1c), .val (.int 0), .val (.int 2), .val .null, .val (.ref b_3)] [(.int 2), (.ref b_3), (.ref a0s)])) _
    refine st4 _ ?_
    show Steps p.tables e below (T4.setTop (mkF m 48 #[.val (.ref a0s), .val (.ref a1c), .val (.int 0), .val (.int 2), .val .null, .val (.ref b_3)] [(.int 0), (.ref a0s)])) _
    refine st5 _ ?_
    show Steps p.tables e below (T5.setTop (mkF m 51 #[.val (.ref a0s), .val (.ref a1c), .val (.int 0), .val (.int 2), .val .null, .val (.ref b_3)] [])) _
    refine XS.aloadN X5.here hx rfl (hb hby d3_51) rfl rfl ?_
    refine XS.aload X5.here hx rfl (hb hby d3_52) rfl rfl ?_
    show Steps p.tables e below (T5.setTop (mkF m 54 #[.val (.ref a0s), .val (.ref a1c), .val (.int 0), .val (.int 2), .val .null, .val (.ref b_3)] [(.ref b_3), (.ref a0s)])) _
    refine st6 _ ?_
    show Steps p.tables e below (T6.setTop (mkF m 57 #[.val (.ref a0s), .val (.ref a1c), .val (.int 0), .val (.int 2), .val .null, .val (.ref b_3)] [])) _
    exact X6.returnOut hx Bd.returns (hb hby d3_57) hr
  · show Q_rmIv_2 n0 Z cS aRS aEM aUS aSS a0s a1c k1 c0 c1 h0 _ T6.heap _
    rw [e6]
    exact ⟨b_3, kb_3, rfl, N6, K6, sz_b_3, ((P3_1.wr W5).wr W6), (((E_a0s.keep Kc3).wr W5).wr W6), Fw6, (Fw5.other W6 (Or.inr (slot_ne (a0 := a0) (Or.inr (Wd hw 32 rfl)) (Or.inr (Wd hw 34 rfl)) (by decide) (t := .byte) (t' := (.array .byte)) (by decide) (by decide)))), ((P3_2.other W5 (Ne.symm (Nat.ne_of_lt (Nat.lt_of_lt_of_le E_a0s.lt P3_0)))).other W6 (Ne.symm (Nat.ne_of_lt (Nat.lt_of_lt_of_le E_a0s.lt P3_0))))⟩
def Q_rmIv_2u0 (n0 : Nat) (Z : State) (cS : Int32) (aRS : Addr) (aEM : Addr) (aUS : Addr) (aSS : Addr) (a0s : Addr) (a1c : Addr) (k1 : ClassId) (c0 : Int32) (c1 : Int32) (h0 : Heap) (v : Option Value) (h : Heap) (L : List Loc) : Prop := ∃ b : Addr, ∃ kb : ClassId, v = none ∧ Fr n0 L ∧ Keep h0 h [a0s] ∧ (h0.size ≤ b) ∧ (Exa Z h b "[B") ∧ (Exa Z h a0s "java/lang/String") ∧ (Fld Z h a0s "java/lang/String" "value" "[B" (.ref b)) ∧ (Fld Z h a0s "java/lang/String" "coder" "B" (.int 1)) ∧ (Arv Z h b kb .byte (4 : Int32) [(.int (c0.toInt8.toInt32)), (.int ((c0 >>> ((8 : Int32) &&& 31)).toInt8.toInt32)), (.int (c1.toInt8.toInt32)), (.int ((c1 >>> ((8 : Int32) &&& 31)).toInt8.toInt32))] (.int 0))
set_option maxRecDepth 65536 in
set_option maxHeartbeats 40000000 in
theorem rmIv_2u0 (l : Launch) (Z : State) (a0 : Array Value) (hw : ∀ d ∈ tables_1, d.before a0 Z = true) (ws : List Jvm.Cond) (cS : Int32) (aRS : Addr) (aEM : Addr) (aUS : Addr) (aSS : Addr) (a0s : Addr) (a1c : Addr) (k1 : ClassId) (c0 : Int32) (c1 : Int32) (h0 : Heap) (n0 : Nat) (O0 : Old Z n0 h0) (GL : GF Z cS aRS aEM aUS aSS) (E_a0s : Exa Z h0 a0s "java/lang/String") (F_value_a0s : Fld Z h0 a0s "java/lang/String" "value" "[B" .null) (F_coder_a0s : Fld Z h0 a0s "java/lang/String" "coder" "B" (.int 0)) (g_a0s : n0 ≤ a0s) (V_a1c : Arv Z h0 a1c k1 .char (2 : Int32) [(.int c0), (.int c1)] (.int 0)) (hcj : (255 : Int32) < c0) (hnj : nar .char c0 = c0) :
    MetFree l MN_8 (head1 (Jvm.Cond.code MN_8 jdk_42_method_149_code 6 none :: ws) ({ frames := 4, cells := 2, slots := 6, locals := 57 } : Room)) (fun a U => a = #[(.ref a0s), (.ref a1c), (.int 0), (.int 2), .null] ∧ Z.Warmed39 U.vm ∧ U.heap = h0) (fun _ _ _ _ _ => True) (fun _ U o U' => ∃ v L, o = .returned v ∧ Q_rmIv_2u0 n0 Z cS aRS aEM aUS aSS a0s a1c k1 c0 c1 h0 v U'.heap L ∧ FrameEnd U o U' L ({ frames := 4, cells := 2, slots := 6, locals := 57 } : Room).cells ({ frames := 4, cells := 2, slots := 6, locals := 57 } : Room).slots) := by
  refine MetFree.of_bodySF (plainFor_of_name pnv1) hisR ?_
  intro p e s m args below meth c s₁ Bd hml0 hP hK
  obtain ⟨rfl, hZ, hh⟩ := hP
  have hx := Bd.exec
  have hby := Bd.bytes
  have hml : c.maxLocals = 6 := hml0
  have hown : s.vm.findClass "java/lang/String" = some m.cls := findClass_of_methodNamed Bd.named
  have hnm := (name_of_methodNamed Bd.named Bd.method).1
  have X0 : Stand p l e ({ frames := 4, cells := 2, slots := 6, locals := 57 } : Room) s m #[(.ref a0s), (.ref a1c), (.int 0), (.int 2), .null] below meth c s₁ [] 0 0 := Stand.of_body Bd
  have e0 : s₁.heap = h0 := by rw [← hh, Bd.state]; rfl
  have N0 := Fr.nil n0
  have pre0 : ∀ t, Steps p.tables e below (s₁.setTop (mkF m 0 #[.val (.ref a0s), .val (.ref a1c), .val (.int 0), .val (.int 2), .val .null, .unset] [])) t → Steps p.tables e below (s₁.setTop (entryFrame m #[(.ref a0s), (.ref a1c), (.int 0), (.int 2), .null] 6)) t := fun t k => castTop (ef_rmIv_2 m a0s a1c) k
  have GL' := GL
  obtain ⟨GCS, GCP, GSR, GSE, GEE, GFE, GSU, GSS, GA16, GHI, GLO⟩ := GL'
  obtain ⟨T1, X1, e1, st1⟩ := initO X0 hx hZ hown (Wd hw 16 rfl) (Wd hw 17 rfl) (Wd hw 18 rfl) e0 (g := (mkF m 1 #[.val (.ref a0s), .val (.ref a1c), .val (.int 0), .val (.int 2), .val .null, .unset] [(.ref a0s)])) rfl (by rw [hml]; rfl) rfl (hb hby d3_1) (by decide) (W := 0) (by show 2 * 0 + _ ≤ _; exact Nat.le_of_eq rfl) (by decide)
  obtain ⟨T2, X2, e2, st2⟩ := getS2 X1 hx hZ hown (host := "") (Or.inl (Wd hw 19 rfl)) Via.refl e1 (GCS.ext O0.2) (g := (mkF m 27 #[.val (.ref a0s), .val (.ref a1c), .val (.int 0), .val (.int 2), .val .null, .unset] [])) rfl (hb hby d3_27)
  obtain ⟨_, _, ⟨T3, L3, k3, n3⟩, -, X3, ⟨Lc3, hQ3, l3, y3, z3⟩, st3⟩ := Jvm.LawKit.callS X2 hx (y := MN_1) hown (mvT hZ (Wd hw 20 rfl)) (mvT hZ (Wd hw 21 rfl)) (mvT hZ (Wd hw 22 rfl)) (mvT hZ (Wd hw 23 rfl)) (by decide) (backOf (W := 0) (rmC1_2u0 l Z a0 hw [] cS aRS aEM aUS aSS (a1c) (k1) (c0) (c1) (h0) n0 O0 GL V_a1c hcj hnj) hZ (Wd hw 23 rfl) (Wd hw 22 rfl) (by decide) (by decide)) (g := (mkF m 36 #[.val (.ref a0s), .val (.ref a1c), .val (.int 0), .val (.int 2), .val .null, .unset] [(.int 2), (.int 0), (.ref a1c)])) rfl (by rw [hml]; rfl) (argsL := [(.ref a1c), (.int 0), (.int 2)]) (rest := []) (lenOf pdv4 rfl) rfl (by show 2 * 0 + _ ≤ _; exact Nat.le_of_eq rfl) (hb hby d3_36) (fun _ _ => ⟨rfl, e2, (by decide : 0 + 2 ≤ _), (by decide : 0 + 6 ≤ _)⟩)
  dsimp only [Pt.U, Pt.locs, Pt.cells, Pt.slots] at X3 l3 y3 z3 st3 hQ3
  subst l3 y3 z3
  obtain ⟨b_3, kb_3, rfl, N3q, Kc3, P3_0, P3_1, P3_2⟩ := hQ3
  have K3 : Keep h0 T3.heap [a0s] := (Keep.refl h0 [a0s]).trans Kc3 all0
  have O3 := O0.keep Kc3 all0
  have g_b_3 : n0 ≤ b_3 := Nat.le_trans (own_sz O0) P3_0
  have sz_b_3 : h0.size ≤ b_3 := Nat.le_trans (Keep.refl h0 [a0s]).1 P3_0
  have N3 := Fr.app N0 N3q
  obtain ⟨_, _, ⟨T4, L4, k4, n4⟩, -, X4, ⟨Lc4, hQ4, l4, y4, z4⟩, st4⟩ := Jvm.LawKit.callS X3 hx (y := MN_7) hown (mvT hZ (Wd hw 28 rfl)) (mvT hZ (Wd hw 29 rfl)) (mvT hZ (Wd hw 22 rfl)) (mvT hZ (Wd hw 30 rfl)) (by decide) (backOf (W := 1) (rmCfa2_4 l Z a0 hw [] cS aRS aEM aUS aSS (b_3) (kb_3) ([(.int (c0.toInt8.toInt32)), (.int ((c0 >>> ((8 : Int32) &&& 31)).toInt8.toInt32)), (.int (c1.toInt8.toInt32)), (.int ((c1 >>> ((8 : Int32) &&& 31)).toInt8.toInt32))]) (T3.heap) n0 O3 GL P3_2) hZ (Wd hw 30 rfl) (Wd hw 22 rfl) (by decide) (by decide)) (g := (mkF m 45 #[.val (.ref a0s), .val (.ref a1c), .val (.int 0), .val (.int 2), .val .null, .val (.ref b_3)] [(.int 2), (.ref b_3), (.ref a0s)])) rfl (by rw [hml]; rfl) (argsL := [(.ref b_3), (.int 2)]) (rest := [(.ref a0s)]) (lenOf pdv6 rfl) rfl (by show 2 * 0 + _ ≤ _; exact Nat.le_of_eq rfl) (hb hby d3_45) (fun _ _ => ⟨rfl, rfl, (by decide : 2 + 0 ≤ _), (by decide : 6 + 0 ≤ _)⟩)
  dsimp only [Pt.U, Pt.locs, Pt.cells, Pt.slots] at X4 l4 y4 z4 st4 hQ4
  subst l4 y4 z4
  obtain ⟨rfl, N4q, e4⟩ := hQ4
  have N4 := Fr.app N3 N4q
  obtain ⟨T5, h5, X5, e5, W5, st5⟩ := putFN X4 hx hZ hown (Wd hw 31 rfl) Via.refl e4 (F_coder_a0s.keep Kc3 nin0) (E_a0s.keep Kc3) (Or.inr ⟨(Wd hw 32 rfl), rfl, hnm⟩) (Wd hw 6 rfl) (ty := .byte) (v' := (.int 1)) (by decide) rfl (by decide) (g := (mkF m 48 #[.val (.ref a0s), .val (.ref a1c), .val (.int 0), .val (.int 2), .val .null, .val (.ref b_3)] [(.int 1), (.ref a0s)])) rfl rfl (hb hby d3_48)
  have Fw5 := (F_coder_a0s.keep Kc3 nin0).same W5
  have K5 : Keep h0 h5 [a0s] := K3.wr W5 (Or.inl (List.mem_of_getElem? (i := 0) rfl))
  have O5 := O3.wr W5 g_a0s
  have N5 := Fr.snoc X5 N4 g_a0s
  obtain ⟨T6, h6, X6, e6, W6, st6⟩ := putF X5 hx hZ hown (host := "") (Or.inl (Wd hw 33 rfl)) Via.refl e5 ((F_value_a0s.keep Kc3 nin0).other W5 (Or.inr (slot_ne (a0 := a0) (Or.inr (Wd hw 34 rfl)) (Or.inr (Wd hw 32 rfl)) (by decide) (t := (.array .byte)) (t' := .byte) (by decide) (by decide)))) ((E_a0s.keep Kc3).wr W5) (Or.inr ⟨(Wd hw 34 rfl), rfl, hnm⟩) (Wd hw 6 rfl) (ty := (.array .byte)) (by decide) rfl rfl (g := (mkF m 54 #[.val (.ref a0s), .val (.ref a1c), .val (.int 0), .val (.int 2), .val .null, .val (.ref b_3)] [(.ref b_3), (.ref a0s)])) rfl rfl (hb hby d3_54)
  have Fw6 := ((F_value_a0s.keep Kc3 nin0).other W5 (Or.inr (slot_ne (a0 := a0) (Or.inr (Wd hw 34 rfl)) (Or.inr (Wd hw 32 rfl)) (by decide) (t := (.array .byte)) (t' := .byte) (by decide) (by decide)))).same W6
  have K6 : Keep h0 h6 [a0s] := K5.wr W6 (Or.inl (List.mem_of_getElem? (i := 0) rfl))
  have O6 := O5.wr W6 g_a0s
  have N6 := Fr.snoc X6 N5 g_a0s
  obtain ⟨fs, hr, hrun, hended, hW, hsame⟩ := X6.leave (v := none) (fun _ => rfl)
  refine ⟨_, _, pre0 _ ?_, hrun, hended, _, _, rfl, ?_, ⟨_, rfl⟩, hW, hsame.mono (by decide) (by decide)⟩
  · show Steps p.tables e below (s₁.setTop (mkF m 0 #[.val (.ref a0s), .val (.ref a1c), .val (.int 0), .val (.int 2), .val .null, .unset] [])) _
    refine XS.aloadN X0.here hx rfl (hb hby d3_0) rfl rfl ?_
    show Steps p.tables e below (s₁.setTop (mkF m 1 #[.val (.ref a0s), .val (.ref a1c), .val (.int 0), .val (.int 2), .val .null, .unset] [(.ref a0s)])) _
    refine st1 _ ?_
    show Steps p.tables e below (T1.setTop (mkF m 4 #[.val (.ref a0s), .val (.ref a1c), .val (.int 0), .val (.int 2), .val .null, .unset] [])) _
    refine XS.iloadN X1.here hx rfl (hb hby d3_4) rfl ?_
    refine XS.ifYes X1.here hx rfl (pc0 := 5) (pc' := 27) rfl (hb hby d3_5) rfl ((if0 _ _).trans (feq (by decide : ¬ ((2 : Int32) = (0 : Int32)))).2) (by decide) (by decide) ?_
    show Steps p.tables e below (T1.setTop (mkF m 27 #[.val (.ref a0s), .val (.ref a1c), .val (.int 0), .val (.int 2), .val .null, .unset] [])) _
    refine st2 _ ?_
    show Steps p.tables e below (T2.setTop (mkF m 30 #[.val (.ref a0s), .val (.ref a1c), .val (.int 0), .val (.int 2), .val .null, .unset] [(.int cS)])) _
    refine XS.ifNo X2.here hx rfl (hb hby d3_30) rfl ((if0 _ _).trans (feq GCP).1) ?_
    refine XS.aloadN X2.here hx rfl (hb hby d3_33) rfl rfl ?_
    refine XS.iloadN X2.here hx rfl (hb hby d3_34) rfl ?_
    refine XS.iloadN X2.here hx rfl (hb hby d3_35) rfl ?_
    show Steps p.tables e below (T2.setTop (mkF m 36 #[.val (.ref a0s), .val (.ref a1c), .val (.int 0), .val (.int 2), .val .null, .unset] [(.int 2), (.int 0), (.ref a1c)])) _
    refine st3 _ ?_
    show Steps p.tables e below (T3.setTop (mkF m 39 #[.val (.ref a0s), .val (.ref a1c), .val (.int 0), .val (.int 2), .val .null, .unset] [(.ref b_3)])) _
    refine XS.astore X3.here hx rfl (hb hby d3_39) rfl rfl (l' := #[.val (.ref a0s), .val (.ref a1c), .val (.int 0), .val (.int 2), .val .null, .val (.ref b_3)]) rfl ?_
    refine XS.aloadN X3.here hx rfl (hb hby d3_41) rfl rfl ?_
    refine XS.aload X3.here hx rfl (hb hby d3_42) rfl rfl ?_
    refine XS.iloadN X3.here hx rfl (hb hby d3_44) rfl ?_
    show Steps p.tables e below (T3.setTop (mkF m 45 #[.val (.ref a0s), .val (.ref a1c), .val (.int 0), .val (.int 2), .val .null, .val (.ref b_3)] [(.int 2), (.ref b_3), (.ref a0s)])) _
    refine st4 _ ?_
    show Steps p.tables e below (T4.setTop (mkF m 48 #[.val (.ref a0s), .val (.ref a1c), .val (.int 0), .val (.int 2), .val .null, .val (.ref b_3)] [(.int 1), (.ref a0s)])) _
    refine st5 _ ?_
    show Steps p.tables e below (T5.setTop (mkF m 51 #[.val (.ref a0s), .val (.ref a1c), .val (.int 0), .val (.int 2), .val .null, .val (.ref b_3)] [])) _
    refine XS.aloadN X5.here hx rfl (hb hby d3_51) rfl rfl ?_
    refine XS.aload X5.here hx rfl (hb hby d3_52) rfl rfl ?_
    show Steps p.tables e below (T5.setTop (mkF m 54 #[.val (.ref a0s), .val (.ref a1c), .val (.int 0), .val (.int 2), .val .null, .val (.ref b_3)] [(.ref b_3), (.ref a0s)])) _
    refine st6 _ ?_
    show Steps p.tables e below (T6.setTop (mkF m 57 #[.val (.ref a0s), .val (.ref a1c), .val (.int 0), .val (.int 2), .val .null, .val (.ref b_3)] [])) _
    exact X6.returnOut hx Bd.returns (hb hby d3_57) hr
  · show Q_rmIv_2u0 n0 Z cS aRS aEM aUS aSS a0s a1c k1 c0 c1 h0 _ T6.heap _
    rw [e6]
    exact ⟨b_3, kb_3, rfl, N6, K6, sz_b_3, ((P3_1.wr W5).wr W6), (((E_a0s.keep Kc3).wr W5).wr W6), Fw6, (Fw5.other W6 (Or.inr (slot_ne (a0 := a0) (Or.inr (Wd hw 32 rfl)) (Or.inr (Wd hw 34 rfl)) (by decide) (t := .byte) (t' := (.array .byte)) (by decide) (by decide)))), ((P3_2.other W5 (Ne.symm (Nat.ne_of_lt (Nat.lt_of_lt_of_le E_a0s.lt P3_0)))).other W6 (Ne.symm (Nat.ne_of_lt (Nat.lt_of_lt_of_le E_a0s.lt P3_0))))⟩
def Q_rmIv_2u1 (n0 : Nat) (Z : State) (cS : Int32) (aRS : Addr) (aEM : Addr) (aUS : Addr) (aSS : Addr) (a0s : Addr) (a1c : Addr) (k1 : ClassId) (c0 : Int32) (c1 : Int32) (h0 : Heap) (v : Option Value) (h : Heap) (L : List Loc) : Prop := ∃ b : Addr, ∃ kb : ClassId, v = none ∧ Fr n0 L ∧ Keep h0 h [a0s] ∧ (h0.size ≤ b) ∧ (Exa Z h b "[B") ∧ (Exa Z h a0s "java/lang/String") ∧ (Fld Z h a0s "java/lang/String" "value" "[B" (.ref b)) ∧ (Fld Z h a0s "java/lang/String" "coder" "B" (.int 1)) ∧ (Arv Z h b kb .byte (4 : Int32) [(.int (c0.toInt8.toInt32)), (.int ((c0 >>> ((8 : Int32) &&& 31)).toInt8.toInt32)), (.int (c1.toInt8.toInt32)), (.int ((c1 >>> ((8 : Int32) &&& 31)).toInt8.toInt32))] (.int 0))
set_option maxRecDepth 65536 in
set_option maxHeartbeats 40000000 in
theorem rmIv_2u1 (l : Launch) (Z : State) (a0 : Array Value) (hw : ∀ d ∈ tables_1, d.before a0 Z = true) (ws : List Jvm.Cond) (cS : Int32) (aRS : Addr) (aEM : Addr) (aUS : Addr) (aSS : Addr) (a0s : Addr) (a1c : Addr) (k1 : ClassId) (c0 : Int32) (c1 : Int32) (h0 : Heap) (n0 : Nat) (O0 : Old Z n0 h0) (GL : GF Z cS aRS aEM aUS aSS) (E_a0s : Exa Z h0 a0s "java/lang/String") (F_value_a0s : Fld Z h0 a0s "java/lang/String" "value" "[B" .null) (F_coder_a0s : Fld Z h0 a0s "java/lang/String" "coder" "B" (.int 0)) (g_a0s : n0 ≤ a0s) (V_a1c : Arv Z h0 a1c k1 .char (2 : Int32) [(.int c0), (.int c1)] (.int 0)) (hc0 : ¬ ((255 : Int32) < c0)) (hcj : (255 : Int32) < c1) (hnj : nar .char c1 = c1) :
    MetFree l MN_8 (head1 (Jvm.Cond.code MN_8 jdk_42_method_149_code 6 none :: ws) ({ frames := 4, cells := 2, slots := 6, locals := 57 } : Room)) (fun a U => a = #[(.ref a0s), (.ref a1c), (.int 0), (.int 2), .null] ∧ Z.Warmed39 U.vm ∧ U.heap = h0) (fun _ _ _ _ _ => True) (fun _ U o U' => ∃ v L, o = .returned v ∧ Q_rmIv_2u1 n0 Z cS aRS aEM aUS aSS a0s a1c k1 c0 c1 h0 v U'.heap L ∧ FrameEnd U o U' L ({ frames := 4, cells := 2, slots := 6, locals := 57 } : Room).cells ({ frames := 4, cells := 2, slots := 6, locals := 57 } : Room).slots) := by
  refine MetFree.of_bodySF (plainFor_of_name pnv1) hisR ?_
  intro p e s m args below meth c s₁ Bd hml0 hP hK
  obtain ⟨rfl, hZ, hh⟩ := hP
  have hx := Bd.exec
  have hby := Bd.bytes
  have hml : c.maxLocals = 6 := hml0
  have hown : s.vm.findClass "java/lang/String" = some m.cls := findClass_of_methodNamed Bd.named
  have hnm := (name_of_methodNamed Bd.named Bd.method).1
  have X0 : Stand p l e ({ frames := 4, cells := 2, slots := 6, locals := 57 } : Room) s m #[(.ref a0s), (.ref a1c), (.int 0), (.int 2), .null] below meth c s₁ [] 0 0 := Stand.of_body Bd
  have e0 : s₁.heap = h0 := by rw [← hh, Bd.state]; rfl
  have N0 := Fr.nil n0
  have pre0 : ∀ t, Steps p.tables e below (s₁.setTop (mkF m 0 #[.val (.ref a0s), .val (.ref a1c), .val (.int 0), .val (.int 2), .val .null, .unset] [])) t → Steps p.tables e below (s₁.setTop (entryFrame m #[(.ref a0s), (.ref a1c), (.int 0), (.int 2), .null] 6)) t := fun t k => castTop (ef_rmIv_2 m a0s a1c) k
  have GL' := GL
  obtain ⟨GCS, GCP, GSR, GSE, GEE, GFE, GSU, GSS, GA16, GHI, GLO⟩ := GL'
  obtain ⟨T1, X1, e1, st1⟩ := initO X0 hx hZ hown (Wd hw 16 rfl) (Wd hw 17 rfl) (Wd hw 18 rfl) e0 (g := (mkF m 1 #[.val (.ref a0s), .val (.ref a1c), .val (.int 0), .val (.int 2), .val .null, .unset] [(.ref a0s)])) rfl (by rw [hml]; rfl) rfl (hb hby d3_1) (by decide) (W := 0) (by show 2 * 0 + _ ≤ _; exact Nat.le_of_eq rfl) (by decide)
  obtain ⟨T2, X2, e2, st2⟩ := getS2 X1 hx hZ hown (host := "") (Or.inl (Wd hw 19 rfl)) Via.refl e1 (GCS.ext O0.2) (g := (mkF m 27 #[.val (.ref a0s), .val (.ref a1c), .val (.int 0), .val (.int 2), .val .null, .unset] [])) rfl (hb hby d3_27)
  obtain ⟨_, _, ⟨T3, L3, k3, n3⟩, -, X3, ⟨Lc3, hQ3, l3, y3, z3⟩, st3⟩ := Jvm.LawKit.callS X2 hx (y := MN_1) hown (mvT hZ (Wd hw 20 rfl)) (mvT hZ (Wd hw 21 rfl)) (mvT hZ (Wd hw 22 rfl)) (mvT hZ (Wd hw 23 rfl)) (by decide) (backOf (W := 0) (rmC1_2u1 l Z a0 hw [] cS aRS aEM aUS aSS (a1c) (k1) (c0) (c1) (h0) n0 O0 GL V_a1c hc0 hcj hnj) hZ (Wd hw 23 rfl) (Wd hw 22 rfl) (by decide) (by decide)) (g := (mkF m 36 #[.val (.ref a0s), .val (.ref a1c), .val (.int 0), .val (.int 2), .val .null, .unset] [(.int 2), (.int 0), (.ref a1c)])) rfl (by rw [hml]; rfl) (argsL := [(.ref a1c), (.int 0), (.int 2)]) (rest := []) (lenOf pdv4 rfl) rfl (by show 2 * 0 + _ ≤ _; exact Nat.le_of_eq rfl) (hb hby d3_36) (fun _ _ => ⟨rfl, e2, (by decide : 0 + 2 ≤ _), (by decide : 0 + 6 ≤ _)⟩)
  dsimp only [Pt.U, Pt.locs, Pt.cells, Pt.slots] at X3 l3 y3 z3 st3 hQ3
  subst l3 y3 z3
  obtain ⟨b_3, kb_3, rfl, N3q, Kc3, P3_0, P3_1, P3_2⟩ := hQ3
  have K3 : Keep h0 T3.heap [a0s] := (Keep.refl h0 [a0s]).trans Kc3 all0
  have O3 := O0.keep Kc3 all0
  have g_b_3 : n0 ≤ b_3 := Nat.le_trans (own_sz O0) P3_0
  have sz_b_3 : h0.size ≤ b_3 := Nat.le_trans (Keep.refl h0 [a0s]).1 P3_0
  have N3 := Fr.app N0 N3q
  obtain ⟨_, _, ⟨T4, L4, k4, n4⟩, -, X4, ⟨Lc4, hQ4, l4, y4, z4⟩, st4⟩ := Jvm.LawKit.callS X3 hx (y := MN_7) hown (mvT hZ (Wd hw 28 rfl)) (mvT hZ (Wd hw 29 rfl)) (mvT hZ (Wd hw 22 rfl)) (mvT hZ (Wd hw 30 rfl)) (by decide) (backOf (W := 1) (rmCfa2_4 l Z a0 hw [] cS aRS aEM aUS aSS (b_3) (kb_3) ([(.int (c0.toInt8.toInt32)), (.int ((c0 >>> ((8 : Int32) &&& 31)).toInt8.toInt32)), (.int (c1.toInt8.toInt32)), (.int ((c1 >>> ((8 : Int32) &&& 31)).toInt8.toInt32))]) (T3.heap) n0 O3 GL P3_2) hZ (Wd hw 30 rfl) (Wd hw 22 rfl) (by decide) (by decide)) (g := (mkF m 45 #[.val (.ref a0s), .val (.ref a1c), .val (.int 0), .val (.int 2), .val .null, .val (.ref b_3)] [(.int 2), (.ref b_3), (.ref a0s)])) rfl (by rw [hml]; rfl) (argsL := [(.ref b_3), (.int 2)]) (rest := [(.ref a0s)]) (lenOf pdv6 rfl) rfl (by show 2 * 0 + _ ≤ _; exact Nat.le_of_eq rfl) (hb hby d3_45) (fun _ _ => ⟨rfl, rfl, (by decide : 2 + 0 ≤ _), (by decide : 6 + 0 ≤ _)⟩)
  dsimp only [Pt.U, Pt.locs, Pt.cells, Pt.slots] at X4 l4 y4 z4 st4 hQ4
  subst l4 y4 z4
  obtain ⟨rfl, N4q, e4⟩ := hQ4
  have N4 := Fr.app N3 N4q
  obtain ⟨T5, h5, X5, e5, W5, st5⟩ := putFN X4 hx hZ hown (Wd hw 31 rfl) Via.refl e4 (F_coder_a0s.keep Kc3 nin0) (E_a0s.keep Kc3) (Or.inr ⟨(Wd hw 32 rfl), rfl, hnm⟩) (Wd hw 6 rfl) (ty := .byte) (v' := (.int 1)) (by decide) rfl (by decide) (g := (mkF m 48 #[.val (.ref a0s), .val (.ref a1c), .val (.int 0), .val (.int 2), .val .null, .val (.ref b_3)] [(.int 1), (.ref a0s)])) rfl rfl (hb hby d3_48)
  have Fw5 := (F_coder_a0s.keep Kc3 nin0).same W5
  have K5 : Keep h0 h5 [a0s] := K3.wr W5 (Or.inl (List.mem_of_getElem? (i := 0) rfl))
  have O5 := O3.wr W5 g_a0s
  have N5 := Fr.snoc X5 N4 g_a0s
  obtain ⟨T6, h6, X6, e6, W6, st6⟩ := putF X5 hx hZ hown (host := "") (Or.inl (Wd hw 33 rfl)) Via.refl e5 ((F_value_a0s.keep Kc3 nin0).other W5 (Or.inr (slot_ne (a0 := a0) (Or.inr (Wd hw 34 rfl)) (Or.inr (Wd hw 32 rfl)) (by decide) (t := (.array .byte)) (t' := .byte) (by decide) (by decide)))) ((E_a0s.keep Kc3).wr W5) (Or.inr ⟨(Wd hw 34 rfl), rfl, hnm⟩) (Wd hw 6 rfl) (ty := (.array .byte)) (by decide) rfl rfl (g := (mkF m 54 #[.val (.ref a0s), .val (.ref a1c), .val (.int 0), .val (.int 2), .val .null, .val (.ref b_3)] [(.ref b_3), (.ref a0s)])) rfl rfl (hb hby d3_54)
  have Fw6 := ((F_value_a0s.keep Kc3 nin0).other W5 (Or.inr (slot_ne (a0 := a0) (Or.inr (Wd hw 34 rfl)) (Or.inr (Wd hw 32 rfl)) (by decide) (t := (.array .byte)) (t' := .byte) (by decide) (by decide)))).same W6
  have K6 : Keep h0 h6 [a0s] := K5.wr W6 (Or.inl (List.mem_of_getElem? (i := 0) rfl))
  have O6 := O5.wr W6 g_a0s
  have N6 := Fr.snoc X6 N5 g_a0s
  obtain ⟨fs, hr, hrun, hended, hW, hsame⟩ := X6.leave (v := none) (fun _ => rfl)
  refine ⟨_, _, pre0 _ ?_, hrun, hended, _, _, rfl, ?_, ⟨_, rfl⟩, hW, hsame.mono (by decide) (by decide)⟩
  · show Steps p.tables e below (s₁.setTop (mkF m 0 #[.val (.ref a0s), .val (.ref a1c), .val (.int 0), .val (.int 2), .val .null, .unset] [])) _
    refine XS.aloadN X0.here hx rfl (hb hby d3_0) rfl rfl ?_
    show Steps p.tables e below (s₁.setTop (mkF m 1 #[.val (.ref a0s), .val (.ref a1c), .val (.int 0), .val (.int 2), .val .null, .unset] [(.ref a0s)])) _
    refine st1 _ ?_
    show Steps p.tables e below (T1.setTop (mkF m 4 #[.val (.ref a0s), .val (.ref a1c), .val (.int 0), .val (.int 2), .val .null, .unset] [])) _
    refine XS.iloadN X1.here hx rfl (hb hby d3_4) rfl ?_
    refine XS.ifYes X1.here hx rfl (pc0 := 5) (pc' := 27) rfl (hb hby d3_5) rfl ((if0 _ _).trans (feq (by decide : ¬ ((2 : Int32) = (0 : Int32)))).2) (by decide) (by decide) ?_
    show Steps p.tables e below (T1.setTop (mkF m 27 #[.val (.ref a0s), .val (.ref a1c), .val (.int 0), .val (.int 2), .val .null, .unset] [])) _
    refine st2 _ ?_
    show Steps p.tables e below (T2.setTop (mkF m 30 #[.val (.ref a0s), .val (.ref a1c), .val (.int 0), .val (.int 2), .val .null, .unset] [(.int cS)])) _
    refine XS.ifNo X2.here hx rfl (hb hby d3_30) rfl ((if0 _ _).trans (feq GCP).1) ?_
    refine XS.aloadN X2.here hx rfl (hb hby d3_33) rfl rfl ?_
    refine XS.iloadN X2.here hx rfl (hb hby d3_34) rfl ?_
    refine XS.iloadN X2.here hx rfl (hb hby d3_35) rfl ?_
    show Steps p.tables e below (T2.setTop (mkF m 36 #[.val (.ref a0s), .val (.ref a1c), .val (.int 0), .val (.int 2), .val .null, .unset] [(.int 2), (.int 0), (.ref a1c)])) _
    refine st3 _ ?_
    show Steps p.tables e below (T3.setTop (mkF m 39 #[.val (.ref a0s), .val (.ref a1c), .val (.int 0), .val (.int 2), .val .null, .unset] [(.ref b_3)])) _
    refine XS.astore X3.here hx rfl (hb hby d3_39) rfl rfl (l' := #[.val (.ref a0s), .val (.ref a1c), .val (.int 0), .val (.int 2), .val .null, .val (.ref b_3)]) rfl ?_
    refine XS.aloadN X3.here hx rfl (hb hby d3_41) rfl rfl ?_
    refine XS.aload X3.here hx rfl (hb hby d3_42) rfl rfl ?_
    refine XS.iloadN X3.here hx rfl (hb hby d3_44) rfl ?_
    show Steps p.tables e below (T3.setTop (mkF m 45 #[.val (.ref a0s), .val (.ref a1c), .val (.int 0), .val (.int 2), .val .null, .val (.ref b_3)] [(.int 2), (.ref b_3), (.ref a0s)])) _
    refine st4 _ ?_
    show Steps p.tables e below (T4.setTop (mkF m 48 #[.val (.ref a0s), .val (.ref a1c), .val (.int 0), .val (.int 2), .val .null, .val (.ref b_3)] [(.int 1), (.ref a0s)])) _
    refine st5 _ ?_
    show Steps p.tables e below (T5.setTop (mkF m 51 #[.val (.ref a0s), .val (.ref a1c), .val (.int 0), .val (.int 2), .val .null, .val (.ref b_3)] [])) _
    refine XS.aloadN X5.here hx rfl (hb hby d3_51) rfl rfl ?_
    refine XS.aload X5.here hx rfl (hb hby d3_52) rfl rfl ?_
    show Steps p.tables e below (T5.setTop (mkF m 54 #[.val (.ref a0s), .val (.ref a1c), .val (.int 0), .val (.int 2), .val .null, .val (.ref b_3)] [(.ref b_3), (.ref a0s)])) _
    refine st6 _ ?_
    show Steps p.tables e below (T6.setTop (mkF m 57 #[.val (.ref a0s), .val (.ref a1c), .val (.int 0), .val (.int 2), .val .null, .val (.ref b_3)] [])) _
    exact X6.returnOut hx Bd.returns (hb hby d3_57) hr
  · show Q_rmIv_2u1 n0 Z cS aRS aEM aUS aSS a0s a1c k1 c0 c1 h0 _ T6.heap _
    rw [e6]
    exact ⟨b_3, kb_3, rfl, N6, K6, sz_b_3, ((P3_1.wr W5).wr W6), (((E_a0s.keep Kc3).wr W5).wr W6), Fw6, (Fw5.other W6 (Or.inr (slot_ne (a0 := a0) (Or.inr (Wd hw 32 rfl)) (Or.inr (Wd hw 34 rfl)) (by decide) (t := .byte) (t' := (.array .byte)) (by decide) (by decide)))), ((P3_2.other W5 (Ne.symm (Nat.ne_of_lt (Nat.lt_of_lt_of_le E_a0s.lt P3_0)))).other W6 (Ne.symm (Nat.ne_of_lt (Nat.lt_of_lt_of_le E_a0s.lt P3_0))))⟩
theorem ef_rmIv_3 (m : MethodId) (a0s : Addr) (a1c : Addr) : entryFrame m #[(.ref a0s), (.ref a1c), (.int 0), (.int 3), .null] 6 = mkF m 0 #[.val (.ref a0s), .val (.ref a1c), .val (.int 0), .val (.int 3), .val .null, .unset] [] := by first | (simp [entryFrame, mkF, argsToLocals, Value.category]; done) | rfl
def Q_rmIv_3 (n0 : Nat) (Z : State) (cS : Int32) (aRS : Addr) (aEM : Addr) (aUS : Addr) (aSS : Addr) (a0s : Addr) (a1c : Addr) (k1 : ClassId) (c0 : Int32) (c1 : Int32) (c2 : Int32) (h0 : Heap) (v : Option Value) (h : Heap) (L : List Loc) : Prop := ∃ b : Addr, ∃ kb : ClassId, v = none ∧ Fr n0 L ∧ Keep h0 h [a0s] ∧ (h0.size ≤ b) ∧ (Exa Z h b "[B") ∧ (Exa Z h a0s "java/lang/String") ∧ (Fld Z h a0s "java/lang/String" "value" "[B" (.ref b)) ∧ (Fld Z h a0s "java/lang/String" "coder" "B" (.int 0)) ∧ (Arv Z h b kb .byte (3 : Int32) [(.int (c0.toInt8.toInt32)), (.int (c1.toInt8.toInt32)), (.int (c2.toInt8.toInt32))] (.int 0))
set_option maxRecDepth 65536 in
set_option maxHeartbeats 40000000 in
theorem rmIv_3 (l : Launch) (Z : State) (a0 : Array Value) (hw : ∀ d ∈ tables_1, d.before a0 Z = true) (ws : List Jvm.Cond) (cS : Int32) (aRS : Addr) (aEM : Addr) (aUS : Addr) (aSS : Addr) (a0s : Addr) (a1c : Addr) (k1 : ClassId) (c0 : Int32) (c1 : Int32) (c2 : Int32) (h0 : Heap) (n0 : Nat) (O0 : Old Z n0 h0) (GL : GF Z cS aRS aEM aUS aSS) (E_a0s : Exa Z h0 a0s "java/lang/String") (F_value_a0s : Fld Z h0 a0s "java/lang/String" "value" "[B" .null) (F_coder_a0s : Fld Z h0 a0s "java/lang/String" "coder" "B" (.int 0)) (g_a0s : n0 ≤ a0s) (V_a1c : Arv Z h0 a1c k1 .char (3 : Int32) [(.int c0), (.int c1), (.int c2)] (.int 0)) (hc0 : ¬ ((255 : Int32) < c0)) (hc1 : ¬ ((255 : Int32) < c1)) (hc2 : ¬ ((255 : Int32) < c2)) :
    MetFree l MN_8 (head1 (Jvm.Cond.code MN_8 jdk_42_method_149_code 6 none :: ws) ({ frames := 2, cells := 1, slots := 3, locals := 35 } : Room)) (fun a U => a = #[(.ref a0s), (.ref a1c), (.int 0), (.int 3), .null] ∧ Z.Warmed39 U.vm ∧ U.heap = h0) (fun _ _ _ _ _ => True) (fun _ U o U' => ∃ v L, o = .returned v ∧ Q_rmIv_3 n0 Z cS aRS aEM aUS aSS a0s a1c k1 c0 c1 c2 h0 v U'.heap L ∧ FrameEnd U o U' L ({ frames := 2, cells := 1, slots := 3, locals := 35 } : Room).cells ({ frames := 2, cells := 1, slots := 3, locals := 35 } : Room).slots) := by
  refine MetFree.of_bodySF (plainFor_of_name pnv1) hisR ?_
  intro p e s m args below meth c s₁ Bd hml0 hP hK
  obtain ⟨rfl, hZ, hh⟩ := hP
  have hx := Bd.exec
  have hby := Bd.bytes
  have hml : c.maxLocals = 6 := hml0
  have hown : s.vm.findClass "java/lang/String" = some m.cls := findClass_of_methodNamed Bd.named
  have hnm := (name_of_methodNamed Bd.named Bd.method).1
  have X0 : Stand p l e ({ frames := 2, cells := 1, slots := 3, locals := 35 } : Room) s m #[(.ref a0s), (.ref a1c), (.int 0), (.int 3), .null] below meth c s₁ [] 0 0 := Stand.of_body Bd
  have e0 : s₁.heap = h0 := by rw [← hh, Bd.state]; rfl
  have N0 := Fr.nil n0
  have pre0 : ∀ t, Steps p.tables e below (s₁.setTop (mkF m 0 #[.val (.ref a0s), .val (.ref a1c), .val (.int 0), .val (.int 3), .val .null, .unset] [])) t → Steps p.tables e below (s₁.setTop (entryFrame m #[(.ref a0s), (.ref a1c), (.int 0), (.int 3), .null] 6)) t := fun t k => castTop (ef_rmIv_3 m a0s a1c) k
  have GL' := GL
  obtain ⟨GCS, GCP, GSR, GSE, GEE, GFE, GSU, GSS, GA16, GHI, GLO⟩ := GL'
  obtain ⟨T1, X1, e1, st1⟩ := initO X0 hx hZ hown (Wd hw 16 rfl) (Wd hw 17 rfl) (Wd hw 18 rfl) e0 (g := (mkF m 1 #[.val (.ref a0s), .val (.ref a1c), .val (.int 0), .val (.int 3), .val .null, .unset] [(.ref a0s)])) rfl (by rw [hml]; rfl) rfl (hb hby d3_1) (by decide) (W := 0) (by show 2 * 0 + _ ≤ _; exact Nat.le_of_eq rfl) (by decide)
  obtain ⟨T2, X2, e2, st2⟩ := getS2 X1 hx hZ hown (host := "") (Or.inl (Wd hw 19 rfl)) Via.refl e1 (GCS.ext O0.2) (g := (mkF m 27 #[.val (.ref a0s), .val (.ref a1c), .val (.int 0), .val (.int 3), .val .null, .unset] [])) rfl (hb hby d3_27)
  obtain ⟨_, _, ⟨T3, L3, k3, n3⟩, -, X3, ⟨Lc3, hQ3, l3, y3, z3⟩, st3⟩ := Jvm.LawKit.callS X2 hx (y := MN_1) hown (mvT hZ (Wd hw 20 rfl)) (mvT hZ (Wd hw 21 rfl)) (mvT hZ (Wd hw 22 rfl)) (mvT hZ (Wd hw 23 rfl)) (by decide) (backOf (W := 0) (rmC1_3 l Z a0 hw [] cS aRS aEM aUS aSS (a1c) (k1) (c0) (c1) (c2) (h0) n0 O0 GL V_a1c hc0 hc1 hc2) hZ (Wd hw 23 rfl) (Wd hw 22 rfl) (by decide) (by decide)) (g := (mkF m 36 #[.val (.ref a0s), .val (.ref a1c), .val (.int 0), .val (.int 3), .val .null, .unset] [(.int 3), (.int 0), (.ref a1c)])) rfl (by rw [hml]; rfl) (argsL := [(.ref a1c), (.int 0), (.int 3)]) (rest := []) (lenOf pdv4 rfl) rfl (by show 2 * 0 + _ ≤ _; exact Nat.le_of_eq rfl) (hb hby d3_36) (fun _ _ => ⟨rfl, e2, (by decide : 0 + 1 ≤ _), (by decide : 0 + 3 ≤ _)⟩)
  dsimp only [Pt.U, Pt.locs, Pt.cells, Pt.slots] at X3 l3 y3 z3 st3 hQ3
  subst l3 y3 z3
  obtain ⟨b_3, kb_3, rfl, N3q, Kc3, P3_0, P3_1, P3_2⟩ := hQ3
  have K3 : Keep h0 T3.heap [a0s] := (Keep.refl h0 [a0s]).trans Kc3 all0
  have O3 := O0.keep Kc3 all0
  have g_b_3 : n0 ≤ b_3 := Nat.le_trans (own_sz O0) P3_0
  have sz_b_3 : h0.size ≤ b_3 := Nat.le_trans (Keep.refl h0 [a0s]).1 P3_0
  have N3 := Fr.app N0 N3q
  obtain ⟨_, _, ⟨T4, L4, k4, n4⟩, -, X4, ⟨Lc4, hQ4, l4, y4, z4⟩, st4⟩ := Jvm.LawKit.callS X3 hx (y := MN_7) hown (mvT hZ (Wd hw 28 rfl)) (mvT hZ (Wd hw 29 rfl)) (mvT hZ (Wd hw 22 rfl)) (mvT hZ (Wd hw 30 rfl)) (by decide) (backOf (W := 1) (rmCfa3_3 l Z a0 hw [] cS aRS aEM aUS aSS (b_3) (kb_3) ([(.int (c0.toInt8.toInt32)), (.int (c1.toInt8.toInt32)), (.int (c2.toInt8.toInt32))]) (T3.heap) n0 O3 GL P3_2) hZ (Wd hw 30 rfl) (Wd hw 22 rfl) (by decide) (by decide)) (g := (mkF m 45 #[.val (.ref a0s), .val (.ref a1c), .val (.int 0), .val (.int 3), .val .null, .val (.ref b_3)] [(.int 3), (.ref b_3), (.ref a0s)])) rfl (by rw [hml]; rfl) (argsL := [(.ref b_3), (.int 3)]) (rest := [(.ref a0s)]) (lenOf pdv6 rfl) rfl (by show 2 * 0 + _ ≤ _; exact Nat.le_of_eq rfl) (hb hby d3_45) (fun _ _ => ⟨rfl, rfl, (by decide : 1 + 0 ≤ _), (by decide : 3 + 0 ≤ _)⟩)
  dsimp only [Pt.U, Pt.locs, Pt.cells, Pt.slots] at X4 l4 y4 z4 st4 hQ4
  subst l4 y4 z4
  obtain ⟨rfl, N4q, e4⟩ := hQ4
  have N4 := Fr.app N3 N4q
  obtain ⟨T5, h5, X5, e5, W5, st5⟩ := putFN X4 hx hZ hown (Wd hw 31 rfl) Via.refl e4 (F_coder_a0s.keep Kc3 nin0) (E_a0s.keep Kc3) (Or.inr ⟨(Wd hw 32 rfl), rfl, hnm⟩) (Wd hw 6 rfl) (ty := .byte) (v' := (.int 0)) (by decide) rfl (by decide) (g := (mkF m 48 #[.val (.ref a0s), .val (.ref a1c), .val (.int 0), .val (.int 3), .val .null, .val (.ref b_3)] [(.int 0), (.ref a0s)])) rfl rfl (hb hby d3_48)
  have Fw5 := (F_coder_a0s.keep Kc3 nin0).same W5
  have K5 : Keep h0 h5 [a0s] := K3.wr W5 (Or.inl (List.mem_of_getElem? (i := 0) rfl))
  have O5 := O3.wr W5 g_a0s
  have N5 := Fr.snoc X5 N4 g_a0s
  obtain ⟨T6, h6, X6, e6, W6, st6⟩ := putF X5 hx hZ hown (host := "") (Or.inl (Wd hw 33 rfl)) Via.refl e5 ((F_value_a0s.keep Kc3 nin0).other W5 (Or.inr (slot_ne (a0 := a0) (Or.inr (Wd hw 34 rfl)) (Or.inr (Wd hw 32 rfl)) (by decide) (t := (.array .byte)) (t' := .byte) (by decide) (by decide)))) ((E_a0s.keep Kc3).wr W5) (Or.inr ⟨(Wd hw 34 rfl), rfl, hnm⟩) (Wd hw 6 rfl) (ty := (.array .byte)) (by decide) rfl rfl (g := (mkF m 54 #[.val (.ref a0s), .val (.ref a1c), .val (.int 0), .val (.int 3), .val .null, .val (.ref b_3)] [(.ref b_3), (.ref a0s)])) rfl rfl (hb hby d3_54)
  have Fw6 := ((F_value_a0s.keep Kc3 nin0).other W5 (Or.inr (slot_ne (a0 := a0) (Or.inr (Wd hw 34 rfl)) (Or.inr (Wd hw 32 rfl)) (by decide) (t := (.array .byte)) (t' := .byte) (by decide) (by decide)))).same W6
  have K6 : Keep h0 h6 [a0s] := K5.wr W6 (Or.inl (List.mem_of_getElem? (i := 0) rfl))
  have O6 := O5.wr W6 g_a0s
  have N6 := Fr.snoc X6 N5 g_a0s
  obtain ⟨fs, hr, hrun, hended, hW, hsame⟩ := X6.leave (v := none) (fun _ => rfl)
  refine ⟨_, _, pre0 _ ?_, hrun, hended, _, _, rfl, ?_, ⟨_, rfl⟩, hW, hsame.mono (by decide) (by decide)⟩
  · show Steps p.tables e below (s₁.setTop (mkF m 0 #[.val (.ref a0s), .val (.ref a1c), .val (.int 0), .val (.int 3), .val .null, .unset] [])) _
    refine XS.aloadN X0.here hx rfl (hb hby d3_0) rfl rfl ?_
    show Steps p.tables e below (s₁.setTop (mkF m 1 #[.val (.ref a0s), .val (.ref a1c), .val (.int 0), .val (.int 3), .val .null, .unset] [(.ref a0s)])) _
    refine st1 _ ?_
    show Steps p.tables e below (T1.setTop (mkF m 4 #[.val (.ref a0s), .val (.ref a1c), .val (.int 0), .val (.int 3), .val .null, .unset] [])) _
    refine XS.iloadN X1.here hx rfl (hb hby d3_4) rfl ?_
    refine XS.ifYes X1.here hx rfl (pc0 := 5) (pc' := 27) rfl (hb hby d3_5) rfl ((if0 _ _).trans (feq (by decide : ¬ ((3 : Int32) = (0 : Int32)))).2) (by decide) (by decide) ?_
    show Steps p.tables e below (T1.setTop (mkF m 27 #[.val (.ref a0s), .val (.ref a1c), .val (.int 0), .val (.int 3), .val .null, .unset] [])) _
    refine st2 _ ?_
    show Steps p.tables e below (T2.setTop (mkF m 30 #[.val (.ref a0s), .val (.ref a1c), .val (.int 0), .val (.int 3), .val .null, .unset] [(.int cS)])) _
    refine XS.ifNo X2.here hx rfl (hb hby d3_30) rfl ((if0 _ _).trans (feq GCP).1) ?_
    refine XS.aloadN X2.here hx rfl (hb hby d3_33) rfl rfl ?_
    refine XS.iloadN X2.here hx rfl (hb hby d3_34) rfl ?_
    refine XS.iloadN X2.here hx rfl (hb hby d3_35) rfl ?_
    show Steps p.tables e below (T2.setTop (mkF m 36 #[.val (.ref a0s), .val (.ref a1c), .val (.int 0), .val (.int 3), .val .null, .unset] [(.int 3), (.int 0), (.ref a1c)])) _
    refine st3 _ ?_
    show Steps p.tables e below (T3.setTop (mkF m 39 #[.val (.ref a0s), .val (.ref a1c), .val (.int 0), .val (.int 3), .val .null, .unset] [(.ref b_3)])) _
    refine XS.astore X3.here hx rfl (hb hby d3_39) rfl rfl (l' := #[.val (.ref a0s), .val (.ref a1c), .val (.int 0), .val (.int 3), .val .null, .val (.ref b_3)]) rfl ?_
    refine XS.aloadN X3.here hx rfl (hb hby d3_41) rfl rfl ?_
    refine XS.aload X3.here hx rfl (hb hby d3_42) rfl rfl ?_
    refine XS.iloadN X3.here hx rfl (hb hby d3_44) rfl ?_
    show Steps p.tables e below (T3.setTop (mkF m 45 #[.val (.ref a0s), .val (.ref a1c), .val (.int 0), .val (.int 3), .val .null, .val (.ref b_3)] [(.int 3), (.ref b_3), (.ref a0s)])) _
    refine st4 _ ?_
    show Steps p.tables e below (T4.setTop (mkF m 48 #[.val (.ref a0s), .val (.ref a1c), .val (.int 0), .val (.int 3), .val .null, .val (.ref b_3)] [(.int 0), (.ref a0s)])) _
    refine st5 _ ?_
    show Steps p.tables e below (T5.setTop (mkF m 51 #[.val (.ref a0s), .val (.ref a1c), .val (.int 0), .val (.int 3), .val .null, .val (.ref b_3)] [])) _
    refine XS.aloadN X5.here hx rfl (hb hby d3_51) rfl rfl ?_
    refine XS.aload X5.here hx rfl (hb hby d3_52) rfl rfl ?_
    show Steps p.tables e below (T5.setTop (mkF m 54 #[.val (.ref a0s), .val (.ref a1c), .val (.int 0), .val (.int 3), .val .null, .val (.ref b_3)] [(.ref b_3), (.ref a0s)])) _
    refine st6 _ ?_
    show Steps p.tables e below (T6.setTop (mkF m 57 #[.val (.ref a0s), .val (.ref a1c), .val (.int 0), .val (.int 3), .val .null, .val (.ref b_3)] [])) _
    exact X6.returnOut hx Bd.returns (hb hby d3_57) hr
  · show Q_rmIv_3 n0 Z cS aRS aEM aUS aSS a0s a1c k1 c0 c1 c2 h0 _ T6.heap _
    rw [e6]
    exact ⟨b_3, kb_3, rfl, N6, K6, sz_b_3, ((P3_1.wr W5).wr W6), (((E_a0s.keep Kc3).wr W5).wr W6), Fw6, (Fw5.other W6 (Or.inr (slot_ne (a0 := a0) (Or.inr (Wd hw 32 rfl)) (Or.inr (Wd hw 34 rfl)) (by decide) (t := .byte) (t' := (.array .byte)) (by decide) (by decide)))), ((P3_2.other W5 (Ne.symm (Nat.ne_of_lt (Nat.lt_of_lt_of_le E_a0s.lt P3_0)))).other W6 (Ne.symm (Nat.ne_of_lt (Nat.lt_of_lt_of_le E_a0s.lt P3_0))))⟩
def Q_rmIv_3u0 (n0 : Nat) (Z : State) (cS : Int32) (aRS : Addr) (aEM : Addr) (aUS : Addr) (aSS : Addr) (a0s : Addr) (a1c : Addr) (k1 : ClassId) (c0 : Int32) (c1 : Int32) (c2 : Int32) (h0 : Heap) (v : Option Value) (h : Heap) (L : List Loc) : Prop := ∃ b : Addr, ∃ kb : ClassId, v = none ∧ Fr n0 L ∧ Keep h0 h [a0s] ∧ (h0.size ≤ b) ∧ (Exa Z h b "[B") ∧ (Exa Z h a0s "java/lang/String") ∧ (Fld Z h a0s "java/lang/String" "value" "[B" (.ref b)) ∧ (Fld Z h a0s "java/lang/String" "coder" "B" (.int 1)) ∧ (Arv Z h b kb .byte (6 : Int32) [(.int (c0.toInt8.toInt32)), (.int ((c0 >>> ((8 : Int32) &&& 31)).toInt8.toInt32)), (.int (c1.toInt8.toInt32)), (.int ((c1 >>> ((8 : Int32) &&& 31)).toInt8.toInt32)), (.int (c2.toInt8.toInt32)), (.int ((c2 >>> ((8 : Int32) &&& 31)).toInt8.toInt32))] (.int 0))
set_option maxRecDepth 65536 in
set_option maxHeartbeats 40000000 in
theorem rmIv_3u0 (l : Launch) (Z : State) (a0 : Array Value) (hw : ∀ d ∈ tables_1, d.before a0 Z = true) (ws : List Jvm.Cond) (cS : Int32) (aRS : Addr) (aEM : Addr) (aUS : Addr) (aSS : Addr) (a0s : Addr) (a1c : Addr) (k1 : ClassId) (c0 : Int32) (c1 : Int32) (c2 : Int32) (h0 : Heap) (n0 : Nat) (O0 : Old Z n0 h0) (GL : GF Z cS aRS aEM aUS aSS) (E_a0s : Exa Z h0 a0s "java/lang/String") (F_value_a0s : Fld Z h0 a0s "java/lang/String" "value" "[B" .null) (F_coder_a0s : Fld Z h0 a0s "java/lang/String" "coder" "B" (.int 0)) (g_a0s : n0 ≤ a0s) (V_a1c : Arv Z h0 a1c k1 .char (3 : Int32) [(.int c0), (.int c1), (.int c2)] (.int 0)) (hcj : (255 : Int32) < c0) (hnj : nar .char c0 = c0) :
    MetFree l MN_8 (head1 (Jvm.Cond.code MN_8 jdk_42_method_149_code 6 none :: ws) ({ frames := 4, cells := 2, slots := 9, locals := 57 } : Room)) (fun a U => a = #[(.ref a0s), (.ref a1c), (.int 0), (.int 3), .null] ∧ Z.Warmed39 U.vm ∧ U.heap = h0) (fun _ _ _ _ _ => True) (fun _ U o U' => ∃ v L, o = .returned v ∧ Q_rmIv_3u0 n0 Z cS aRS aEM aUS aSS a0s a1c k1 c0 c1 c2 h0 v U'.heap L ∧ FrameEnd U o U' L ({ frames := 4, cells := 2, slots := 9, locals := 57 } : Room).cells ({ frames := 4, cells := 2, slots := 9, locals := 57 } : Room).slots) := by
  refine MetFree.of_bodySF (plainFor_of_name pnv1) hisR ?_
  intro p e s m args below meth c s₁ Bd hml0 hP hK
  obtain ⟨rfl, hZ, hh⟩ := hP
  have hx := Bd.exec
  have hby := Bd.bytes
  have hml : c.maxLocals = 6 := hml0
  have hown : s.vm.findClass "java/lang/String" = some m.cls := findClass_of_methodNamed Bd.named
  have hnm := (name_of_methodNamed Bd.named Bd.method).1
  have X0 : Stand p l e ({ frames := 4, cells := 2, slots := 9, locals := 57 } : Room) s m #[(.ref a0s), (.ref a1c), (.int 0), (.int 3), .null] below meth c s₁ [] 0 0 := Stand.of_body Bd
  have e0 : s₁.heap = h0 := by rw [← hh, Bd.state]; rfl
  have N0 := Fr.nil n0
  have pre0 : ∀ t, Steps p.tables e below (s₁.setTop (mkF m 0 #[.val (.ref a0s), .val (.ref a1c), .val (.int 0), .val (.int 3), .val .null, .unset] [])) t → Steps p.tables e below (s₁.setTop (entryFrame m #[(.ref a0s), (.ref a1c), (.int 0), (.int 3), .null] 6)) t := fun t k => castTop (ef_rmIv_3 m a0s a1c) k
  have GL' := GL
  obtain ⟨GCS, GCP, GSR, GSE, GEE, GFE, GSU, GSS, GA16, GHI, GLO⟩ := GL'
  obtain ⟨T1, X1, e1, st1⟩ := initO X0 hx hZ hown (Wd hw 16 rfl) (Wd hw 17 rfl) (Wd hw 18 rfl) e0 (g := (mkF m 1 #[.val (.ref a0s), .val (.ref a1c), .val (.int 0), .val (.int 3), .val .null, .unset] [(.ref a0s)])) rfl (by rw [hml]; rfl) rfl (hb hby d3_1) (by decide) (W := 0) (by show 2 * 0 + _ ≤ _; exact Nat.le_of_eq rfl) (by decide)
  obtain ⟨T2, X2, e2, st2⟩ := getS2 X1 hx hZ hown (host := "") (Or.inl (Wd hw 19 rfl)) Via.refl e1 (GCS.ext O0.2) (g := (mkF m 27 #[.val (.ref a0s), .val (.ref a1c), .val (.int 0), .val (.int 3), .val .null, .unset] [])) rfl (hb hby d3_27)
  obtain ⟨_, _, ⟨T3, L3, k3, n3⟩, -, X3, ⟨Lc3, hQ3, l3, y3, z3⟩, st3⟩ := Jvm.LawKit.callS X2 hx (y := MN_1) hown (mvT hZ (Wd hw 20 rfl)) (mvT hZ (Wd hw 21 rfl)) (mvT hZ (Wd hw 22 rfl)) (mvT hZ (Wd hw 23 rfl)) (by decide) (backOf (W := 0) (rmC1_3u0 l Z a0 hw [] cS aRS aEM aUS aSS (a1c) (k1) (c0) (c1) (c2) (h0) n0 O0 GL V_a1c hcj hnj) hZ (Wd hw 23 rfl) (Wd hw 22 rfl) (by decide) (by decide)) (g := (mkF m 36 #[.val (.ref a0s), .val (.ref a1c), .val (.int 0), .val (.int 3), .val .null, .unset] [(.int 3), (.int 0), (.ref a1c)])) rfl (by rw [hml]; rfl) (argsL := [(.ref a1c), (.int 0), (.int 3)]) (rest := []) (lenOf pdv4 rfl) rfl (by show 2 * 0 + _ ≤ _; exact Nat.le_of_eq rfl) (hb hby d3_36) (fun _ _ => ⟨rfl, e2, (by decide : 0 + 2 ≤ _), (by decide : 0 + 9 ≤ _)⟩)
  dsimp only [Pt.U, Pt.locs, Pt.cells, Pt.slots] at X3 l3 y3 z3 st3 hQ3
  subst l3 y3 z3
  obtain ⟨b_3, kb_3, rfl, N3q, Kc3, P3_0, P3_1, P3_2⟩ := hQ3
  have K3 : Keep h0 T3.heap [a0s] := (Keep.refl h0 [a0s]).trans Kc3 all0
  have O3 := O0.keep Kc3 all0
  have g_b_3 : n0 ≤ b_3 := Nat.le_trans (own_sz O0) P3_0
  have sz_b_3 : h0.size ≤ b_3 := Nat.le_trans (Keep.refl h0 [a0s]).1 P3_0
  have N3 := Fr.app N0 N3q
  obtain ⟨_, _, ⟨T4, L4, k4, n4⟩, -, X4, ⟨Lc4, hQ4, l4, y4, z4⟩, st4⟩ := Jvm.LawKit.callS X3 hx (y := MN_7) hown (mvT hZ (Wd hw 28 rfl)) (mvT hZ (Wd hw 29 rfl)) (mvT hZ (Wd hw 22 rfl)) (mvT hZ (Wd hw 30 rfl)) (by decide) (backOf (W := 1) (rmCfa3_6 l Z a0 hw [] cS aRS aEM aUS aSS (b_3) (kb_3) ([(.int (c0.toInt8.toInt32)), (.int ((c0 >>> ((8 : Int32) &&& 31)).toInt8.toInt32)), (.int (c1.toInt8.toInt32)), (.int ((c1 >>> ((8 : Int32) &&& 31)).toInt8.toInt32)), (.int (c2.toInt8.toInt32)), (.int ((c2 >>> ((8 : Int32) &&& 31)).toInt8.toInt32))]) (T3.heap) n0 O3 GL P3_2) hZ (Wd hw 30 rfl) (Wd hw 22 rfl) (by decide) (by decide)) (g := (mkF m 45 #[.val (.ref a0s), .val (.ref a1c), .val (.int 0), .val (.int 3), .val .null, .val (.ref b_3)] [(.int 3), (.ref b_3), (.ref a0s)])) rfl (by rw [hml]; rfl) (argsL := [(.ref b_3), (.int 3)]) (rest := [(.ref a0s)]) (lenOf pdv6 rfl) rfl (by show 2 * 0 + _ ≤ _; exact Nat.le_of_eq rfl) (hb hby d3_45) (fun _ _ => ⟨rfl, rfl, (by decide : 2 + 0 ≤ _), (by decide : 9 + 0 ≤ _)⟩)
  dsimp only [Pt.U, Pt.locs, Pt.cells, Pt.slots] at X4 l4 y4 z4 st4 hQ4
  subst l4 y4 z4
  obtain ⟨rfl, N4q, e4⟩ := hQ4
  have N4 := Fr.app N3 N4q
  obtain ⟨T5, h5, X5, e5, W5, st5⟩ := putFN X4 hx hZ hown (Wd hw 31 rfl) Via.refl e4 (F_coder_a0s.keep Kc3 nin0) (E_a0s.keep Kc3) (Or.inr ⟨(Wd hw 32 rfl), rfl, hnm⟩) (Wd hw 6 rfl) (ty := .byte) (v' := (.int 1)) (by decide) rfl (by decide) (g := (mkF m 48 #[.val (.ref a0s), .val (.ref a1c), .val (.int 0), .val (.int 3), .val .null, .val (.ref b_3)] [(.int 1), (.ref a0s)])) rfl rfl (hb hby d3_48)
  have Fw5 := (F_coder_a0s.keep Kc3 nin0).same W5
  have K5 : Keep h0 h5 [a0s] := K3.wr W5 (Or.inl (List.mem_of_getElem? (i := 0) rfl))
  have O5 := O3.wr W5 g_a0s
  have N5 := Fr.snoc X5 N4 g_a0s
  obtain ⟨T6, h6, X6, e6, W6, st6⟩ := putF X5 hx hZ hown (host := "") (Or.inl (Wd hw 33 rfl)) Via.refl e5 ((F_value_a0s.keep Kc3 nin0).other W5 (Or.inr (slot_ne (a0 := a0) (Or.inr (Wd hw 34 rfl)) (Or.inr (Wd hw 32 rfl)) (by decide) (t := (.array .byte)) (t' := .byte) (by decide) (by decide)))) ((E_a0s.keep Kc3).wr W5) (Or.inr ⟨(Wd hw 34 rfl), rfl, hnm⟩) (Wd hw 6 rfl) (ty := (.array .byte)) (by decide) rfl rfl (g := (mkF m 54 #[.val (.ref a0s), .val (.ref a1c), .val (.int 0), .val (.int 3), .val .null, .val (.ref b_3)] [(.ref b_3), (.ref a0s)])) rfl rfl (hb hby d3_54)
  have Fw6 := ((F_value_a0s.keep Kc3 nin0).other W5 (Or.inr (slot_ne (a0 := a0) (Or.inr (Wd hw 34 rfl)) (Or.inr (Wd hw 32 rfl)) (by decide) (t := (.array .byte)) (t' := .byte) (by decide) (by decide)))).same W6
  have K6 : Keep h0 h6 [a0s] := K5.wr W6 (Or.inl (List.mem_of_getElem? (i := 0) rfl))
  have O6 := O5.wr W6 g_a0s
  have N6 := Fr.snoc X6 N5 g_a0s
  obtain ⟨fs, hr, hrun, hended, hW, hsame⟩ := X6.leave (v := none) (fun _ => rfl)
  refine ⟨_, _, pre0 _ ?_, hrun, hended, _, _, rfl, ?_, ⟨_, rfl⟩, hW, hsame.mono (by decide) (by decide)⟩
  · show Steps p.tables e below (s₁.setTop (mkF m 0 #[.val (.ref a0s), .val (.ref a1c), .val (.int 0), .val (.int 3), .val .null, .unset] [])) _
    refine XS.aloadN X0.here hx rfl (hb hby d3_0) rfl rfl ?_
    show Steps p.tables e below (s₁.setTop (mkF m 1 #[.val (.ref a0s), .val (.ref a1c), .val (.int 0), .val (.int 3), .val .null, .unset] [(.ref a0s)])) _
    refine st1 _ ?_
    show Steps p.tables e below (T1.setTop (mkF m 4 #[.val (.ref a0s), .val (.ref a1c), .val (.int 0), .val (.int 3), .val .null, .unset] [])) _
    refine XS.iloadN X1.here hx rfl (hb hby d3_4) rfl ?_
    refine XS.ifYes X1.here hx rfl (pc0 := 5) (pc' := 27) rfl (hb hby d3_5) rfl ((if0 _ _).trans (feq (by decide : ¬ ((3 : Int32) = (0 : Int32)))).2) (by decide) (by decide) ?_
    show Steps p.tables e below (T1.setTop (mkF m 27 #[.val (.ref a0s), .val (.ref a1c), .val (.int 0), .val (.int 3), .val .null, .unset] [])) _
    refine st2 _ ?_
    show Steps p.tables e below (T2.setTop (mkF m 30 #[.val (.ref a0s), .val (.ref a1c), .val (.int 0), .val (.int 3), .val .null, .unset] [(.int cS)])) _
    refine XS.ifNo X2.here hx rfl (hb hby d3_30) rfl ((if0 _ _).trans (feq GCP).1) ?_
    refine XS.aloadN X2.here hx rfl (hb hby d3_33) rfl rfl ?_
    refine XS.iloadN X2.here hx rfl (hb hby d3_34) rfl ?_
    refine XS.iloadN X2.here hx rfl (hb hby d3_35) rfl ?_
    show Steps p.tables e below (T2.setTop (mkF m 36 #[.val (.ref a0s), .val (.ref a1c), .val (.int 0), .val (.int 3), .val .null, .unset] [(.int 3), (.int 0), (.ref a1c)])) _
    refine st3 _ ?_
    show Steps p.tables e below (T3.setTop (mkF m 39 #[.val (.ref a0s), .val (.ref a1c), .val (.int 0), .val (.int 3), .val .null, .unset] [(.ref b_3)])) _
    refine XS.astore X3.here hx rfl (hb hby d3_39) rfl rfl (l' := #[.val (.ref a0s), .val (.ref a1c), .val (.int 0), .val (.int 3), .val .null, .val (.ref b_3)]) rfl ?_
    refine XS.aloadN X3.here hx rfl (hb hby d3_41) rfl rfl ?_
    refine XS.aload X3.here hx rfl (hb hby d3_42) rfl rfl ?_
    refine XS.iloadN X3.here hx rfl (hb hby d3_44) rfl ?_
    show Steps p.tables e below (T3.setTop (mkF m 45 #[.val (.ref a0s), .val (.ref a1c), .val (.int 0), .val (.int 3), .val .null, .val (.ref b_3)] [(.int 3), (.ref b_3), (.ref a0s)])) _
    refine st4 _ ?_
    show Steps p.tables e below (T4.setTop (mkF m 48 #[.val (.ref a0s), .val (.ref a1c), .val (.int 0), .val (.int 3), .val .null, .val (.ref b_3)] [(.int 1), (.ref a0s)])) _
    refine st5 _ ?_
    show Steps p.tables e below (T5.setTop (mkF m 51 #[.val (.ref a0s), .val (.ref a1c), .val (.int 0), .val (.int 3), .val .null, .val (.ref b_3)] [])) _
    refine XS.aloadN X5.here hx rfl (hb hby d3_51) rfl rfl ?_
    refine XS.aload X5.here hx rfl (hb hby d3_52) rfl rfl ?_
    show Steps p.tables e below (T5.setTop (mkF m 54 #[.val (.ref a0s), .val (.ref a1c), .val (.int 0), .val (.int 3), .val .null, .val (.ref b_3)] [(.ref b_3), (.ref a0s)])) _
    refine st6 _ ?_
    show Steps p.tables e below (T6.setTop (mkF m 57 #[.val (.ref a0s), .val (.ref a1c), .val (.int 0), .val (.int 3), .val .null, .val (.ref b_3)] [])) _
    exact X6.returnOut hx Bd.returns (hb hby d3_57) hr
  · show Q_rmIv_3u0 n0 Z cS aRS aEM aUS aSS a0s a1c k1 c0 c1 c2 h0 _ T6.heap _
    rw [e6]
    exact ⟨b_3, kb_3, rfl, N6, K6, sz_b_3, ((P3_1.wr W5).wr W6), (((E_a0s.keep Kc3).wr W5).wr W6), Fw6, (Fw5.other W6 (Or.inr (slot_ne (a0 := a0) (Or.inr (Wd hw 32 rfl)) (Or.inr (Wd hw 34 rfl)) (by decide) (t := .byte) (t' := (.array .byte)) (by decide) (by decide)))), ((P3_2.other W5 (Ne.symm (Nat.ne_of_lt (Nat.lt_of_lt_of_le E_a0s.lt P3_0)))).other W6 (Ne.symm (Nat.ne_of_lt (Nat.lt_of_lt_of_le E_a0s.lt P3_0))))⟩
def Q_rmIv_3u1 (n0 : Nat) (Z : State) (cS : Int32) (aRS : Addr) (aEM : Addr) (aUS : Addr) (aSS : Addr) (a0s : Addr) (a1c : Addr) (k1 : ClassId) (c0 : Int32) (c1 : Int32) (c2 : Int32) (h0 : Heap) (v : Option Value) (h : Heap) (L : List Loc) : Prop := ∃ b : Addr, ∃ kb : ClassId, v = none ∧ Fr n0 L ∧ Keep h0 h [a0s] ∧ (h0.size ≤ b) ∧ (Exa Z h b "[B") ∧ (Exa Z h a0s "java/lang/String") ∧ (Fld Z h a0s "java/lang/String" "value" "[B" (.ref b)) ∧ (Fld Z h a0s "java/lang/String" "coder" "B" (.int 1)) ∧ (Arv Z h b kb .byte (6 : Int32) [(.int (c0.toInt8.toInt32)), (.int ((c0 >>> ((8 : Int32) &&& 31)).toInt8.toInt32)), (.int (c1.toInt8.toInt32)), (.int ((c1 >>> ((8 : Int32) &&& 31)).toInt8.toInt32)), (.int (c2.toInt8.toInt32)), (.int ((c2 >>> ((8 : Int32) &&& 31)).toInt8.toInt32))] (.int 0))
set_option maxRecDepth 65536 in
set_option maxHeartbeats 40000000 in
theorem rmIv_3u1 (l : Launch) (Z : State) (a0 : Array Value) (hw : ∀ d ∈ tables_1, d.before a0 Z = true) (ws : List Jvm.Cond) (cS : Int32) (aRS : Addr) (aEM : Addr) (aUS : Addr) (aSS : Addr) (a0s : Addr) (a1c : Addr) (k1 : ClassId) (c0 : Int32) (c1 : Int32) (c2 : Int32) (h0 : Heap) (n0 : Nat) (O0 : Old Z n0 h0) (GL : GF Z cS aRS aEM aUS aSS) (E_a0s : Exa Z h0 a0s "java/lang/String") (F_value_a0s : Fld Z h0 a0s "java/lang/String" "value" "[B" .null) (F_coder_a0s : Fld Z h0 a0s "java/lang/String" "coder" "B" (.int 0)) (g_a0s : n0 ≤ a0s) (V_a1c : Arv Z h0 a1c k1 .char (3 : Int32) [(.int c0), (.int c1), (.int c2)] (.int 0)) (hc0 : ¬ ((255 : Int32) < c0)) (hcj : (255 : Int32) < c1) (hnj : nar .char c1 = c1) :
    MetFree l MN_8 (head1 (Jvm.Cond.code MN_8 jdk_42_method_149_code 6 none :: ws) ({ frames := 4, cells := 2, slots := 9, locals := 57 } : Room)) (fun a U => a = #[(.ref a0s), (.ref a1c), (.int 0), (.int 3), .null] ∧ Z.Warmed39 U.vm ∧ U.heap = h0) (fun _ _ _ _ _ => True) (fun _ U o U' => ∃ v L, o = .returned v ∧ Q_rmIv_3u1 n0 Z cS aRS aEM aUS aSS a0s a1c k1 c0 c1 c2 h0 v U'.heap L ∧ FrameEnd U o U' L ({ frames := 4, cells := 2, slots := 9, locals := 57 } : Room).cells ({ frames := 4, cells := 2, slots := 9, locals := 57 } : Room).slots) := by
  refine MetFree.of_bodySF (plainFor_of_name pnv1) hisR ?_
  intro p e s m args below meth c s₁ Bd hml0 hP hK
  obtain ⟨rfl, hZ, hh⟩ := hP
  have hx := Bd.exec
  have hby := Bd.bytes
  have hml : c.maxLocals = 6 := hml0
  have hown : s.vm.findClass "java/lang/String" = some m.cls := findClass_of_methodNamed Bd.named
  have hnm := (name_of_methodNamed Bd.named Bd.method).1
  have X0 : Stand p l e ({ frames := 4, cells := 2, slots := 9, locals := 57 } : Room) s m #[(.ref a0s), (.ref a1c), (.int 0), (.int 3), .null] below meth c s₁ [] 0 0 := Stand.of_body Bd
  have e0 : s₁.heap = h0 := by rw [← hh, Bd.state]; rfl
  have N0 := Fr.nil n0
  have pre0 : ∀ t, Steps p.tables e below (s₁.setTop (mkF m 0 #[.val (.ref a0s), .val (.ref a1c), .val (.int 0), .val (.int 3), .val .null, .unset] [])) t → Steps p.tables e below (s₁.setTop (entryFrame m #[(.ref a0s), (.ref a1c), (.int 0), (.int 3), .null] 6)) t := fun t k => castTop (ef_rmIv_3 m a0s a1c) k
  have GL' := GL
  obtain ⟨GCS, GCP, GSR, GSE, GEE, GFE, GSU, GSS, GA16, GHI, GLO⟩ := GL'
  obtain ⟨T1, X1, e1, st1⟩ := initO X0 hx hZ hown (Wd hw 16 rfl) (Wd hw 17 rfl) (Wd hw 18 rfl) e0 (g := (mkF m 1 #[.val (.ref a0s), .val (.ref a1c), .val (.int 0), .val (.int 3), .val .null, .unset] [(.ref a0s)])) rfl (by rw [hml]; rfl) rfl (hb hby d3_1) (by decide) (W := 0) (by show 2 * 0 + _ ≤ _; exact Nat.le_of_eq rfl) (by decide)
  obtain ⟨T2, X2, e2, st2⟩ := getS2 X1 hx hZ hown (host := "") (Or.inl (Wd hw 19 rfl)) Via.refl e1 (GCS.ext O0.2) (g := (mkF m 27 #[.val (.ref a0s), .val (.ref a1c), .val (.int 0), .val (.int 3), .val .null, .unset] [])) rfl (hb hby d3_27)
  obtain ⟨_, _, ⟨T3, L3, k3, n3⟩, -, X3, ⟨Lc3, hQ3, l3, y3, z3⟩, st3⟩ := Jvm.LawKit.callS X2 hx (y := MN_1) hown (mvT hZ (Wd hw 20 rfl)) (mvT hZ (Wd hw 21 rfl)) (mvT hZ (Wd hw 22 rfl)) (mvT hZ (Wd hw 23 rfl)) (by decide) (backOf (W := 0) (rmC1_3u1 l Z a0 hw [] cS aRS aEM aUS aSS (a1c) (k1) (c0) (c1) (c2) (h0) n0 O0 GL V_a1c hc0 hcj hnj) hZ (Wd hw 23 rfl) (Wd hw 22 rfl) (by decide) (by decide)) (g := (mkF m 36 #[.val (.ref a0s), .val (.ref a1c), .val (.int 0), .val (.int 3), .val .null, .unset] [(.int 3), (.int 0), (.ref a1c)])) rfl (by rw [hml]; rfl) (argsL := [(.ref a1c), (.int 0), (.int 3)]) (rest := []) (lenOf pdv4 rfl) rfl (by show 2 * 0 + _ ≤ _; exact Nat.le_of_eq rfl) (hb hby d3_36) (fun _ _ => ⟨rfl, e2, (by decide : 0 + 2 ≤ _), (by decide : 0 + 9 ≤ _)⟩)
  dsimp only [Pt.U, Pt.locs, Pt.cells, Pt.slots] at X3 l3 y3 z3 st3 hQ3
  subst l3 y3 z3
  obtain ⟨b_3, kb_3, rfl, N3q, Kc3, P3_0, P3_1, P3_2⟩ := hQ3
  have K3 : Keep h0 T3.heap [a0s] := (Keep.refl h0 [a0s]).trans Kc3 all0
  have O3 := O0.keep Kc3 all0
  have g_b_3 : n0 ≤ b_3 := Nat.le_trans (own_sz O0) P3_0
  have sz_b_3 : h0.size ≤ b_3 := Nat.le_trans (Keep.refl h0 [a0s]).1 P3_0
  have N3 := Fr.app N0 N3q
  obtain ⟨_, _, ⟨T4, L4, k4, n4⟩, -, X4, ⟨Lc4, hQ4, l4, y4, z4⟩, st4⟩ := Jvm.LawKit.callS X3 hx (y := MN_7) hown (mvT hZ (Wd hw 28 rfl)) (mvT hZ (Wd hw 29 rfl)) (mvT hZ (Wd hw 22 rfl)) (mvT hZ (Wd hw 30 rfl)) (by decide) (backOf (W := 1) (rmCfa3_6 l Z a0 hw [] cS aRS aEM aUS aSS (b_3) (kb_3) ([(.int (c0.toInt8.toInt32)), (.int ((c0 >>> ((8 : Int32) &&& 31)).toInt8.toInt32)), (.int (c1.toInt8.toInt32)), (.int ((c1 >>> ((8 : Int32) &&& 31)).toInt8.toInt32)), (.int (c2.toInt8.toInt32)), (.int ((c2 >>> ((8 : Int32) &&& 31)).toInt8.toInt32))]) (T3.heap) n0 O3 GL P3_2) hZ (Wd hw 30 rfl) (Wd hw 22 rfl) (by decide) (by decide)) (g := (mkF m 45 #[.val (.ref a0s), .val (.ref a1c), .val (.int 0), .val (.int 3), .val .null, .val (.ref b_3)] [(.int 3), (.ref b_3), (.ref a0s)])) rfl (by rw [hml]; rfl) (argsL := [(.ref b_3), (.int 3)]) (rest := [(.ref a0s)]) (lenOf pdv6 rfl) rfl (by show 2 * 0 + _ ≤ _; exact Nat.le_of_eq rfl) (hb hby d3_45) (fun _ _ => ⟨rfl, rfl, (by decide : 2 + 0 ≤ _), (by decide : 9 + 0 ≤ _)⟩)
  dsimp only [Pt.U, Pt.locs, Pt.cells, Pt.slots] at X4 l4 y4 z4 st4 hQ4
  subst l4 y4 z4
  obtain ⟨rfl, N4q, e4⟩ := hQ4
  have N4 := Fr.app N3 N4q
  obtain ⟨T5, h5, X5, e5, W5, st5⟩ := putFN X4 hx hZ hown (Wd hw 31 rfl) Via.refl e4 (F_coder_a0s.keep Kc3 nin0) (E_a0s.keep Kc3) (Or.inr ⟨(Wd hw 32 rfl), rfl, hnm⟩) (Wd hw 6 rfl) (ty := .byte) (v' := (.int 1)) (by decide) rfl (by decide) (g := (mkF m 48 #[.val (.ref a0s), .val (.ref a1c), .val (.int 0), .val (.int 3), .val .null, .val (.ref b_3)] [(.int 1), (.ref a0s)])) rfl rfl (hb hby d3_48)
  have Fw5 := (F_coder_a0s.keep Kc3 nin0).same W5
  have K5 : Keep h0 h5 [a0s] := K3.wr W5 (Or.inl (List.mem_of_getElem? (i := 0) rfl))
  have O5 := O3.wr W5 g_a0s
  have N5 := Fr.snoc X5 N4 g_a0s
  obtain ⟨T6, h6, X6, e6, W6, st6⟩ := putF X5 hx hZ hown (host := "") (Or.inl (Wd hw 33 rfl)) Via.refl e5 ((F_value_a0s.keep Kc3 nin0).other W5 (Or.inr (slot_ne (a0 := a0) (Or.inr (Wd hw 34 rfl)) (Or.inr (Wd hw 32 rfl)) (by decide) (t := (.array .byte)) (t' := .byte) (by decide) (by decide)))) ((E_a0s.keep Kc3).wr W5) (Or.inr ⟨(Wd hw 34 rfl), rfl, hnm⟩) (Wd hw 6 rfl) (ty := (.array .byte)) (by decide) rfl rfl (g := (mkF m 54 #[.val (.ref a0s), .val (.ref a1c), .val (.int 0), .val (.int 3), .val .null, .val (.ref b_3)] [(.ref b_3), (.ref a0s)])) rfl rfl (hb hby d3_54)
  have Fw6 := ((F_value_a0s.keep Kc3 nin0).other W5 (Or.inr (slot_ne (a0 := a0) (Or.inr (Wd hw 34 rfl)) (Or.inr (Wd hw 32 rfl)) (by decide) (t := (.array .byte)) (t' := .byte) (by decide) (by decide)))).same W6
  have K6 : Keep h0 h6 [a0s] := K5.wr W6 (Or.inl (List.mem_of_getElem? (i := 0) rfl))
  have O6 := O5.wr W6 g_a0s
  have N6 := Fr.snoc X6 N5 g_a0s
  obtain ⟨fs, hr, hrun, hended, hW, hsame⟩ := X6.leave (v := none) (fun _ => rfl)
  refine ⟨_, _, pre0 _ ?_, hrun, hended, _, _, rfl, ?_, ⟨_, rfl⟩, hW, hsame.mono (by decide) (by decide)⟩
  · show Steps p.tables e below (s₁.setTop (mkF m 0 #[.val (.ref a0s), .val (.ref a1c), .val (.int 0), .val (.int 3), .val .null, .unset] [])) _
    refine XS.aloadN X0.here hx rfl (hb hby d3_0) rfl rfl ?_
    show Steps p.tables e below (s₁.setTop (mkF m 1 #[.val (.ref a0s), .val (.ref a1c), .val (.int 0), .val (.int 3), .val .null, .unset] [(.ref a0s)])) _
    refine st1 _ ?_
    show Steps p.tables e below (T1.setTop (mkF m 4 #[.val (.ref a0s), .val (.ref a1c), .val (.int 0), .val (.int 3), .val .null, .unset] [])) _
    refine XS.iloadN X1.here hx rfl (hb hby d3_4) rfl ?_
    refine XS.ifYes X1.here hx rfl (pc0 := 5) (pc' := 27) rfl (hb hby d3_5) rfl ((if0 _ _).trans (feq (by decide : ¬ ((3 : Int32) = (0 : Int32)))).2) (by decide) (by decide) ?_
    show Steps p.tables e below (T1.setTop (mkF m 27 #[.val (.ref a0s), .val (.ref a1c), .val (.int 0), .val (.int 3), .val .null, .unset] [])) _
    refine st2 _ ?_
    show Steps p.tables e below (T2.setTop (mkF m 30 #[.val (.ref a0s), .val (.ref a1c), .val (.int 0), .val (.int 3), .val .null, .unset] [(.int cS)])) _
    refine XS.ifNo X2.here hx rfl (hb hby d3_30) rfl ((if0 _ _).trans (feq GCP).1) ?_
    refine XS.aloadN X2.here hx rfl (hb hby d3_33) rfl rfl ?_
    refine XS.iloadN X2.here hx rfl (hb hby d3_34) rfl ?_
    refine XS.iloadN X2.here hx rfl (hb hby d3_35) rfl ?_
    show Steps p.tables e below (T2.setTop (mkF m 36 #[.val (.ref a0s), .val (.ref a1c), .val (.int 0), .val (.int 3), .val .null, .unset] [(.int 3), (.int 0), (.ref a1c)])) _
    refine st3 _ ?_
    show Steps p.tables e below (T3.setTop (mkF m 39 #[.val (.ref a0s), .val (.ref a1c), .val (.int 0), .val (.int 3), .val .null, .unset] [(.ref b_3)])) _
    refine XS.astore X3.here hx rfl (hb hby d3_39) rfl rfl (l' := #[.val (.ref a0s), .val (.ref a1c), .val (.int 0), .val (.int 3), .val .null, .val (.ref b_3)]) rfl ?_
    refine XS.aloadN X3.here hx rfl (hb hby d3_41) rfl rfl ?_
    refine XS.aload X3.here hx rfl (hb hby d3_42) rfl rfl ?_
    refine XS.iloadN X3.here hx rfl (hb hby d3_44) rfl ?_
    show Steps p.tables e below (T3.setTop (mkF m 45 #[.val (.ref a0s), .val (.ref a1c), .val (.int 0), .val (.int 3), .val .null, .val (.ref b_3)] [(.int 3), (.ref b_3), (.ref a0s)])) _
    refine st4 _ ?_
    show Steps p.tables e below (T4.setTop (mkF m 48 #[.val (.ref a0s), .val (.ref a1c), .val (.int 0), .val (.int 3), .val .null, .val (.ref b_3)] [(.int 1), (.ref a0s)])) _
    refine st5 _ ?_
    show Steps p.tables e below (T5.setTop (mkF m 51 #[.val (.ref a0s), .val (.ref a1c), .val (.int 0), .val (.int 3), .val .null, .val (.ref b_3)] [])) _
    refine XS.aloadN X5.here hx rfl (hb hby d3_51) rfl rfl ?_
    refine XS.aload X5.here hx rfl (hb hby d3_52) rfl rfl ?_
    show Steps p.tables e below (T5.setTop (mkF m 54 #[.val (.ref a0s), .val (.ref a1c), .val (.int 0), .val (.int 3), .val .null, .val (.ref b_3)] [(.ref b_3), (.ref a0s)])) _
    refine st6 _ ?_
    show Steps p.tables e below (T6.setTop (mkF m 57 #[.val (.ref a0s), .val (.ref a1c), .val (.int 0), .val (.int 3), .val .null, .val (.ref b_3)] [])) _
    exact X6.returnOut hx Bd.returns (hb hby d3_57) hr
  · show Q_rmIv_3u1 n0 Z cS aRS aEM aUS aSS a0s a1c k1 c0 c1 c2 h0 _ T6.heap _
    rw [e6]
    exact ⟨b_3, kb_3, rfl, N6, K6, sz_b_3, ((P3_1.wr W5).wr W6), (((E_a0s.keep Kc3).wr W5).wr W6), Fw6, (Fw5.other W6 (Or.inr (slot_ne (a0 := a0) (Or.inr (Wd hw 32 rfl)) (Or.inr (Wd hw 34 rfl)) (by decide) (t := .byte) (t' := (.array .byte)) (by decide) (by decide)))), ((P3_2.other W5 (Ne.symm (Nat.ne_of_lt (Nat.lt_of_lt_of_le E_a0s.lt P3_0)))).other W6 (Ne.symm (Nat.ne_of_lt (Nat.lt_of_lt_of_le E_a0s.lt P3_0))))⟩
def Q_rmIv_3u2 (n0 : Nat) (Z : State) (cS : Int32) (aRS : Addr) (aEM : Addr) (aUS : Addr) (aSS : Addr) (a0s : Addr) (a1c : Addr) (k1 : ClassId) (c0 : Int32) (c1 : Int32) (c2 : Int32) (h0 : Heap) (v : Option Value) (h : Heap) (L : List Loc) : Prop := ∃ b : Addr, ∃ kb : ClassId, v = none ∧ Fr n0 L ∧ Keep h0 h [a0s] ∧ (h0.size ≤ b) ∧ (Exa Z h b "[B") ∧ (Exa Z h a0s "java/lang/String") ∧ (Fld Z h a0s "java/lang/String" "value" "[B" (.ref b)) ∧ (Fld Z h a0s "java/lang/String" "coder" "B" (.int 1)) ∧ (Arv Z h b kb .byte (6 : Int32) [(.int (c0.toInt8.toInt32)), (.int ((c0 >>> ((8 : Int32) &&& 31)).toInt8.toInt32)), (.int (c1.toInt8.toInt32)), (.int ((c1 >>> ((8 : Int32) &&& 31)).toInt8.toInt32)), (.int (c2.toInt8.toInt32)), (.int ((c2 >>> ((8 : Int32) &&& 31)).toInt8.toInt32))] (.int 0))
set_option maxRecDepth 65536 in
set_option maxHeartbeats 40000000 in
theorem rmIv_3u2 (l : Launch) (Z : State) (a0 : Array Value) (hw : ∀ d ∈ tables_1, d.before a0 Z = true) (ws : List Jvm.Cond) (cS : Int32) (aRS : Addr) (aEM : Addr) (aUS : Addr) (aSS : Addr) (a0s : Addr) (a1c : Addr) (k1 : ClassId) (c0 : Int32) (c1 : Int32) (c2 : Int32) (h0 : Heap) (n0 : Nat) (O0 : Old Z n0 h0) (GL : GF Z cS aRS aEM aUS aSS) (E_a0s : Exa Z h0 a0s "java/lang/String") (F_value_a0s : Fld Z h0 a0s "java/lang/String" "value" "[B" .null) (F_coder_a0s : Fld Z h0 a0s "java/lang/String" "coder" "B" (.int 0)) (g_a0s : n0 ≤ a0s) (V_a1c : Arv Z h0 a1c k1 .char (3 : Int32) [(.int c0), (.int c1), (.int c2)] (.int 0)) (hc0 : ¬ ((255 : Int32) < c0)) (hc1 : ¬ ((255 : Int32) < c1)) (hcj : (255 : Int32) < c2) (hnj : nar .char c2 = c2) :
    MetFree l MN_8 (head1 (Jvm.Cond.code MN_8 jdk_42_method_149_code 6 none :: ws) ({ frames := 4, cells := 2, slots := 9, locals := 57 } : Room)) (fun a U => a = #[(.ref a0s), (.ref a1c), (.int 0), (.int 3), .null] ∧ Z.Warmed39 U.vm ∧ U.heap = h0) (fun _ _ _ _ _ => True) (fun _ U o U' => ∃ v L, o = .returned v ∧ Q_rmIv_3u2 n0 Z cS aRS aEM aUS aSS a0s a1c k1 c0 c1 c2 h0 v U'.heap L ∧ FrameEnd U o U' L ({ frames := 4, cells := 2, slots := 9, locals := 57 } : Room).cells ({ frames := 4, cells := 2, slots := 9, locals := 57 } : Room).slots) := by
  refine MetFree.of_bodySF (plainFor_of_name pnv1) hisR ?_
  intro p e s m args below meth c s₁ Bd hml0 hP hK
  obtain ⟨rfl, hZ, hh⟩ := hP
  have hx := Bd.exec
  have hby := Bd.bytes
  have hml : c.maxLocals = 6 := hml0
  have hown : s.vm.findClass "java/lang/String" = some m.cls := findClass_of_methodNamed Bd.named
  have hnm := (name_of_methodNamed Bd.named Bd.method).1
  have X0 : Stand p l e ({ frames := 4, cells := 2, slots := 9, locals := 57 } : Room) s m #[(.ref a0s), (.ref a1c), (.int 0), (.int 3), .null] below meth c s₁ [] 0 0 := Stand.of_body Bd
  have e0 : s₁.heap = h0 := by rw [← hh, Bd.state]; rfl
  have N0 := Fr.nil n0
  have pre0 : ∀ t, Steps p.tables e below (s₁.setTop (mkF m 0 #[.val (.ref a0s), .val (.ref a1c), .val (.int 0), .val (.int 3), .val .null, .unset] [])) t → Steps p.tables e below (s₁.setTop (entryFrame m #[(.ref a0s), (.ref a1c), (.int 0), (.int 3), .null] 6)) t := fun t k => castTop (ef_rmIv_3 m a0s a1c) k
  have GL' := GL
  obtain ⟨GCS, GCP, GSR, GSE, GEE, GFE, GSU, GSS, GA16, GHI, GLO⟩ := GL'
  obtain ⟨T1, X1, e1, st1⟩ := initO X0 hx hZ hown (Wd hw 16 rfl) (Wd hw 17 rfl) (Wd hw 18 rfl) e0 (g := (mkF m 1 #[.val (.ref a0s), .val (.ref a1c), .val (.int 0), .val (.int 3), .val .null, .unset] [(.ref a0s)])) rfl (by rw [hml]; rfl) rfl (hb hby d3_1) (by decide) (W := 0) (by show 2 * 0 + _ ≤ _; exact Nat.le_of_eq rfl) (by decide)
  obtain ⟨T2, X2, e2, st2⟩ := getS2 X1 hx hZ hown (host := "") (Or.inl (Wd hw 19 rfl)) Via.refl e1 (GCS.ext O0.2) (g := (mkF m 27 #[.val (.ref a0s), .val (.ref a1c), .val (.int 0), .val (.int 3), .val .null, .unset] [])) rfl (hb hby d3_27)
  obtain ⟨_, _, ⟨T3, L3, k3, n3⟩, -, X3, ⟨Lc3, hQ3, l3, y3, z3⟩, st3⟩ := Jvm.LawKit.callS X2 hx (y := MN_1) hown (mvT hZ (Wd hw 20 rfl)) (mvT hZ (Wd hw 21 rfl)) (mvT hZ (Wd hw 22 rfl)) (mvT hZ (Wd hw 23 rfl)) (by decide) (backOf (W := 0) (rmC1_3u2 l Z a0 hw [] cS aRS aEM aUS aSS (a1c) (k1) (c0) (c1) (c2) (h0) n0 O0 GL V_a1c hc0 hc1 hcj hnj) hZ (Wd hw 23 rfl) (Wd hw 22 rfl) (by decide) (by decide)) (g := (mkF m 36 #[.val (.ref a0s), .val (.ref a1c), .val (.int 0), .val (.int 3), .val .null, .unset] [(.int 3), (.int 0), (.ref a1c)])) rfl (by rw [hml]; rfl) (argsL := [(.ref a1c), (.int 0), (.int 3)]) (rest := []) (lenOf pdv4 rfl) rfl (by show 2 * 0 + _ ≤ _; exact Nat.le_of_eq rfl) (hb hby d3_36) (fun _ _ => ⟨rfl, e2, (by decide : 0 + 2 ≤ _), (by decide : 0 + 9 ≤ _)⟩)
  dsimp only [Pt.U, Pt.locs, Pt.cells, Pt.slots] at X3 l3 y3 z3 st3 hQ3
  subst l3 y3 z3
  obtain ⟨b_3, kb_3, rfl, N3q, Kc3, P3_0, P3_1, P3_2⟩ := hQ3
  have K3 : Keep h0 T3.heap [a0s] := (Keep.refl h0 [a0s]).trans Kc3 all0
  have O3 := O0.keep Kc3 all0
  have g_b_3 : n0 ≤ b_3 := Nat.le_trans (own_sz O0) P3_0
  have sz_b_3 : h0.size ≤ b_3 := Nat.le_trans (Keep.refl h0 [a0s]).1 P3_0
  have N3 := Fr.app N0 N3q
  obtain ⟨_, _, ⟨T4, L4, k4, n4⟩, -, X4, ⟨Lc4, hQ4, l4, y4, z4⟩, st4⟩ := Jvm.LawKit.callS X3 hx (y := MN_7) hown (mvT hZ (Wd hw 28 rfl)) (mvT hZ (Wd hw 29 rfl)) (mvT hZ (Wd hw 22 rfl)) (mvT hZ (Wd hw 30 rfl)) (by decide) (backOf (W := 1) (rmCfa3_6 l Z a0 hw [] cS aRS aEM aUS aSS (b_3) (kb_3) ([(.int (c0.toInt8.toInt32)), (.int ((c0 >>> ((8 : Int32) &&& 31)).toInt8.toInt32)), (.int (c1.toInt8.toInt32)), (.int ((c1 >>> ((8 : Int32) &&& 31)).toInt8.toInt32)), (.int (c2.toInt8.toInt32)), (.int ((c2 >>> ((8 : Int32) &&& 31)).toInt8.toInt32))]) (T3.heap) n0 O3 GL P3_2) hZ (Wd hw 30 rfl) (Wd hw 22 rfl) (by decide) (by decide)) (g := (mkF m 45 #[.val (.ref a0s), .val (.ref a1c), .val (.int 0), .val (.int 3), .val .null, .val (.ref b_3)] [(.int 3), (.ref b_3), (.ref a0s)])) rfl (by rw [hml]; rfl) (argsL := [(.ref b_3), (.int 3)]) (rest := [(.ref a0s)]) (lenOf pdv6 rfl) rfl (by show 2 * 0 + _ ≤ _; exact Nat.le_of_eq rfl) (hb hby d3_45) (fun _ _ => ⟨rfl, rfl, (by decide : 2 + 0 ≤ _), (by decide : 9 + 0 ≤ _)⟩)
  dsimp only [Pt.U, Pt.locs, Pt.cells, Pt.slots] at X4 l4 y4 z4 st4 hQ4
  subst l4 y4 z4
  obtain ⟨rfl, N4q, e4⟩ := hQ4
  have N4 := Fr.app N3 N4q
  obtain ⟨T5, h5, X5, e5, W5, st5⟩ := putFN X4 hx hZ hown (Wd hw 31 rfl) Via.refl e4 (F_coder_a0s.keep Kc3 nin0) (E_a0s.keep Kc3) (Or.inr ⟨(Wd hw 32 rfl), rfl, hnm⟩) (Wd hw 6 rfl) (ty := .byte) (v' := (.int 1)) (by decide) rfl (by decide) (g := (mkF m 48 #[.val (.ref a0s), .val (.ref a1c), .val (.int 0), .val (.int 3), .val .null, .val (.ref b_3)] [(.int 1), (.ref a0s)])) rfl rfl (hb hby d3_48)
  have Fw5 := (F_coder_a0s.keep Kc3 nin0).same W5
  have K5 : Keep h0 h5 [a0s] := K3.wr W5 (Or.inl (List.mem_of_getElem? (i := 0) rfl))
  have O5 := O3.wr W5 g_a0s
  have N5 := Fr.snoc X5 N4 g_a0s
  obtain ⟨T6, h6, X6, e6, W6, st6⟩ := putF X5 hx hZ hown (host := "") (Or.inl (Wd hw 33 rfl)) Via.refl e5 ((F_value_a0s.keep Kc3 nin0).other W5 (Or.inr (slot_ne (a0 := a0) (Or.inr (Wd hw 34 rfl)) (Or.inr (Wd hw 32 rfl)) (by decide) (t := (.array .byte)) (t' := .byte) (by decide) (by decide)))) ((E_a0s.keep Kc3).wr W5) (Or.inr ⟨(Wd hw 34 rfl), rfl, hnm⟩) (Wd hw 6 rfl) (ty := (.array .byte)) (by decide) rfl rfl (g := (mkF m 54 #[.val (.ref a0s), .val (.ref a1c), .val (.int 0), .val (.int 3), .val .null, .val (.ref b_3)] [(.ref b_3), (.ref a0s)])) rfl rfl (hb hby d3_54)
  have Fw6 := ((F_value_a0s.keep Kc3 nin0).other W5 (Or.inr (slot_ne (a0 := a0) (Or.inr (Wd hw 34 rfl)) (Or.inr (Wd hw 32 rfl)) (by decide) (t := (.array .byte)) (t' := .byte) (by decide) (by decide)))).same W6
  have K6 : Keep h0 h6 [a0s] := K5.wr W6 (Or.inl (List.mem_of_getElem? (i := 0) rfl))
  have O6 := O5.wr W6 g_a0s
  have N6 := Fr.snoc X6 N5 g_a0s
  obtain ⟨fs, hr, hrun, hended, hW, hsame⟩ := X6.leave (v := none) (fun _ => rfl)
  refine ⟨_, _, pre0 _ ?_, hrun, hended, _, _, rfl, ?_, ⟨_, rfl⟩, hW, hsame.mono (by decide) (by decide)⟩
  · show Steps p.tables e below (s₁.setTop (mkF m 0 #[.val (.ref a0s), .val (.ref a1c), .val (.int 0), .val (.int 3), .val .null, .unset] [])) _
    refine XS.aloadN X0.here hx rfl (hb hby d3_0) rfl rfl ?_
    show Steps p.tables e below (s₁.setTop (mkF m 1 #[.val (.ref a0s), .val (.ref a1c), .val (.int 0), .val (.int 3), .val .null, .unset] [(.ref a0s)])) _
    refine st1 _ ?_
    show Steps p.tables e below (T1.setTop (mkF m 4 #[.val (.ref a0s), .val (.ref a1c), .val (.int 0), .val (.int 3), .val .null, .unset] [])) _
    refine XS.iloadN X1.here hx rfl (hb hby d3_4) rfl ?_
    refine XS.ifYes X1.here hx rfl (pc0 := 5) (pc' := 27) rfl (hb hby d3_5) rfl ((if0 _ _).trans (feq (by decide : ¬ ((3 : Int32) = (0 : Int32)))).2) (by decide) (by decide) ?_
    show Steps p.tables e below (T1.setTop (mkF m 27 #[.val (.ref a0s), .val (.ref a1c), .val (.int 0), .val (.int 3), .val .null, .unset] [])) _
    refine st2 _ ?_
    show Steps p.tables e below (T2.setTop (mkF m 30 #[.val (.ref a0s), .val (.ref a1c), .val (.int 0), .val (.int 3), .val .null, .unset] [(.int cS)])) _
    refine XS.ifNo X2.here hx rfl (hb hby d3_30) rfl ((if0 _ _).trans (feq GCP).1) ?_
    refine XS.aloadN X2.here hx rfl (hb hby d3_33) rfl rfl ?_
    refine XS.iloadN X2.here hx rfl (hb hby d3_34) rfl ?_
    refine XS.iloadN X2.here hx rfl (hb hby d3_35) rfl ?_
    show Steps p.tables e below (T2.setTop (mkF m 36 #[.val (.ref a0s), .val (.ref a1c), .val (.int 0), .val (.int 3), .val .null, .unset] [(.int 3), (.int 0), (.ref a1c)])) _
    refine st3 _ ?_
    show Steps p.tables e below (T3.setTop (mkF m 39 #[.val (.ref a0s), .val (.ref a1c), .val (.int 0), .val (.int 3), .val .null, .unset] [(.ref b_3)])) _
    refine XS.astore X3.here hx rfl (hb hby d3_39) rfl rfl (l' := #[.val (.ref a0s), .val (.ref a1c), .val (.int 0), .val (.int 3), .val .null, .val (.ref b_3)]) rfl ?_
    refine XS.aloadN X3.here hx rfl (hb hby d3_41) rfl rfl ?_
    refine XS.aload X3.here hx rfl (hb hby d3_42) rfl rfl ?_
    refine XS.iloadN X3.here hx rfl (hb hby d3_44) rfl ?_
    show Steps p.tables e below (T3.setTop (mkF m 45 #[.val (.ref a0s), .val (.ref a1c), .val (.int 0), .val (.int 3), .val .null, .val (.ref b_3)] [(.int 3), (.ref b_3), (.ref a0s)])) _
    refine st4 _ ?_
    show Steps p.tables e below (T4.setTop (mkF m 48 #[.val (.ref a0s), .val (.ref a1c), .val (.int 0), .val (.int 3), .val .null, .val (.ref b_3)] [(.int 1), (.ref a0s)])) _
    refine st5 _ ?_
    show Steps p.tables e below (T5.setTop (mkF m 51 #[.val (.ref a0s), .val (.ref a1c), .val (.int 0), .val (.int 3), .val .null, .val (.ref b_3)] [])) _
    refine XS.aloadN X5.here hx rfl (hb hby d3_51) rfl rfl ?_
    refine XS.aload X5.here hx rfl (hb hby d3_52) rfl rfl ?_
    show Steps p.tables e below (T5.setTop (mkF m 54 #[.val (.ref a0s), .val (.ref a1c), .val (.int 0), .val (.int 3), .val .null, .val (.ref b_3)] [(.ref b_3), (.ref a0s)])) _
    refine st6 _ ?_
    show Steps p.tables e below (T6.setTop (mkF m 57 #[.val (.ref a0s), .val (.ref a1c), .val (.int 0), .val (.int 3), .val .null, .val (.ref b_3)] [])) _
    exact X6.returnOut hx Bd.returns (hb hby d3_57) hr
  · show Q_rmIv_3u2 n0 Z cS aRS aEM aUS aSS a0s a1c k1 c0 c1 c2 h0 _ T6.heap _
    rw [e6]
    exact ⟨b_3, kb_3, rfl, N6, K6, sz_b_3, ((P3_1.wr W5).wr W6), (((E_a0s.keep Kc3).wr W5).wr W6), Fw6, (Fw5.other W6 (Or.inr (slot_ne (a0 := a0) (Or.inr (Wd hw 32 rfl)) (Or.inr (Wd hw 34 rfl)) (by decide) (t := .byte) (t' := (.array .byte)) (by decide) (by decide)))), ((P3_2.other W5 (Ne.symm (Nat.ne_of_lt (Nat.lt_of_lt_of_le E_a0s.lt P3_0)))).other W6 (Ne.symm (Nat.ne_of_lt (Nat.lt_of_lt_of_le E_a0s.lt P3_0))))⟩
theorem d2_0 : decode jdk_42_method_3_code 0 = .ok (.aload_n 0, 1) := by decide +kernel
theorem d2_1 : decode jdk_42_method_3_code 1 = .ok (.aload_n 1, 1) := by decide +kernel
theorem d2_2 : decode jdk_42_method_3_code 2 = .ok (.iconst 0, 1) := by decide +kernel
theorem d2_3 : decode jdk_42_method_3_code 3 = .ok (.aload_n 1, 1) := by decide +kernel
theorem d2_4 : decode jdk_42_method_3_code 4 = .ok (.arraylength, 1) := by decide +kernel
theorem d2_5 : decode jdk_42_method_3_code 5 = .ok (.aconst_null, 1) := by decide +kernel
theorem d2_6 : decode jdk_42_method_3_code 6 = .ok (.invokespecial 27, 3) := by decide +kernel
theorem pdv7 : parseMethodDescriptor "([CIILjava/lang/Void;)V" = some ⟨[(.array .char), .int, .int, (.object "java/lang/Void")], none⟩ := by decide +kernel
theorem d2_9 : decode jdk_42_method_3_code 9 = .ok (.return_, 1) := by decide +kernel
abbrev MN_9 : MethodName := ⟨"java/lang/String", "<init>", "([C)V"⟩
theorem ef_rmIc_0 (m : MethodId) (a0s : Addr) (a1c : Addr) : entryFrame m #[(.ref a0s), (.ref a1c)] 2 = mkF m 0 #[.val (.ref a0s), .val (.ref a1c)] [] := by first | (simp [entryFrame, mkF, argsToLocals, Value.category]; done) | rfl
def Q_rmIc_0 (n0 : Nat) (Z : State) (cS : Int32) (aRS : Addr) (aEM : Addr) (aUS : Addr) (aSS : Addr) (a0s : Addr) (a1c : Addr) (k1 : ClassId) (h0 : Heap) (v : Option Value) (h : Heap) (L : List Loc) : Prop := ∃ b : Addr, ∃ kb : ClassId, v = none ∧ Fr n0 L ∧ Keep h0 h [a0s] ∧ (Exa Z h a0s "java/lang/String") ∧ (Fld Z h a0s "java/lang/String" "value" "[B" (.ref b)) ∧ (Fld Z h a0s "java/lang/String" "coder" "B" (.int 0)) ∧ (Arv Z h b kb .byte (0 : Int32) [] (.int 0))
set_option maxRecDepth 65536 in
set_option maxHeartbeats 40000000 in
theorem rmIc_0 (l : Launch) (Z : State) (a0 : Array Value) (hw : ∀ d ∈ tables_1, d.before a0 Z = true) (ws : List Jvm.Cond) (cS : Int32) (aRS : Addr) (aEM : Addr) (aUS : Addr) (aSS : Addr) (a0s : Addr) (a1c : Addr) (k1 : ClassId) (h0 : Heap) (n0 : Nat) (O0 : Old Z n0 h0) (GL : GF Z cS aRS aEM aUS aSS) (E_a0s : Exa Z h0 a0s "java/lang/String") (F_value_a0s : Fld Z h0 a0s "java/lang/String" "value" "[B" .null) (F_coder_a0s : Fld Z h0 a0s "java/lang/String" "coder" "B" (.int 0)) (g_a0s : n0 ≤ a0s) (V_a1c : Arv Z h0 a1c k1 .char (0 : Int32) [] (.int 0)) :
    MetFree l MN_9 (head1 (Jvm.Cond.code MN_9 jdk_42_method_3_code 2 none :: ws) ({ frames := 2, cells := 4, slots := 8, locals := 29 } : Room)) (fun a U => a = #[(.ref a0s), (.ref a1c)] ∧ Z.Warmed39 U.vm ∧ U.heap = h0 ∧ CHv Z EL1 U.vm h0) (fun _ _ _ _ _ => True) (fun _ U o U' => ∃ v L, o = .returned v ∧ Q_rmIc_0 n0 Z cS aRS aEM aUS aSS a0s a1c k1 h0 v U'.heap L ∧ CHr Z EL1 U.vm U.heap U'.vm U'.heap ∧ ReturnedEndW U o U' L ({ frames := 2, cells := 4, slots := 8, locals := 29 } : Room).cells ({ frames := 2, cells := 4, slots := 8, locals := 29 } : Room).slots) := by
  refine MetFree.of_bodySF (plainFor_of_name pnv1) hisR ?_
  intro p e s m args below meth c s₁ Bd hml0 hP hK
  obtain ⟨rfl, hZ, hh, H0⟩ := hP
  have hx := Bd.exec
  have hby := Bd.bytes
  have hml : c.maxLocals = 2 := hml0
  have hown : s.vm.findClass "java/lang/String" = some m.cls := findClass_of_methodNamed Bd.named
  have hnm := (name_of_methodNamed Bd.named Bd.method).1
  have X0 : Stand p l e ({ frames := 2, cells := 4, slots := 8, locals := 29 } : Room) s m #[(.ref a0s), (.ref a1c)] below meth c s₁ [] 0 0 := Stand.of_body Bd
  have e0 : s₁.heap = h0 := by rw [← hh, Bd.state]; rfl
  have N0 := Fr.nil n0
  have pre0 : ∀ t, Steps p.tables e below (s₁.setTop (mkF m 0 #[.val (.ref a0s), .val (.ref a1c)] [])) t → Steps p.tables e below (s₁.setTop (entryFrame m #[(.ref a0s), (.ref a1c)] 2)) t := fun t k => castTop (ef_rmIc_0 m a0s a1c) k
  have X0w : Stand p l e ({ frames := 2, cells := 4, slots := 8, locals := 29 } : Room) (s.setVm s.vm) m #[(.ref a0s), (.ref a1c)] below meth c s₁ [] 0 0 := X0
  have R0 : CHr Z EL1 s.vm h0 s.vm h0 := CHr.refl H0
  have hS0 : s.Since s.vm h0.size := (State.WarmedH.refl s).since _
  have GL' := GL
  obtain ⟨GCS, GCP, GSR, GSE, GEE, GFE, GSU, GSS, GA16, GHI, GLO⟩ := GL'
  obtain ⟨cl1, Ar1, -, S1, N1_, -, -⟩ := id (V_a1c)
  obtain ⟨_, _, ⟨T2, L2, k2, n2⟩, -, X2', hS2', hg2, ⟨Lc2, hQ2, l2, y2, z2, Rs2⟩, st2⟩ := X0w.specialBackS hx (y := MN_8) rfl hown (mvT hZ (Wd hw 12 rfl)) (mvT hZ (Wd hw 13 rfl)) (mvT hZ (Wd hw 15 rfl)) (by decide) (backOfSH (W := 0) (rmIv_0 l Z a0 hw [] cS aRS aEM aUS aSS (a0s) (a1c) (h0) n0 O0 GL E_a0s F_value_a0s F_coder_a0s g_a0s) hZ (Wd hw 15 rfl) (Wd hw 7 rfl) (by decide) (by decide) (own_EW hw) H0) (g := (mkF m 6 #[.val (.ref a0s), .val (.ref a1c)] [.null, (.int 0), (.int 0), (.ref a1c), (.ref a0s)])) rfl (by rw [hml]; rfl) (Steps.refl _) (a := a0s) (argsL := [(.ref a1c), (.int 0), (.int 0), .null]) (rest := []) (lenOf pdv7 rfl) rfl (by show 2 * 0 + _ ≤ _; exact Nat.le_of_eq rfl) (hb hby d2_6) (fun _ _ => ⟨rfl, e0, (by decide : 0 + 4 ≤ _), (by decide : 0 + 8 ≤ _)⟩)
  dsimp only [Pt.U, Pt.locs, Pt.cells, Pt.slots] at X2' l2 y2 z2 st2 hQ2 hS2' hg2 Rs2
  subst l2 y2 z2
  obtain ⟨X2, hS2, hZ2, hown2⟩ := rebS hS0 (by rw [e0]; exact (Nat.le_refl _)) X2' hS2' hg2 hZ hown
  obtain ⟨b_2, kb_2, rfl, N2q, Kc2, P2_0, P2_1, P2_2, P2_3⟩ := hQ2
  have K2 : Keep h0 T2.heap [a0s] := (Keep.refl h0 [a0s]).trans Kc2 (allS (Or.inl (List.mem_of_getElem? (i := 0) rfl)) all0)
  have O2 := O0.keep Kc2 (allS g_a0s all0)
  have H_3 := Rs2.1
  have R_3 := R0.trans Rs2
  have N2 := Fr.app N0 N2q
  obtain ⟨fs, hr, hrun, hended, hRW⟩ := X2.leaveW hS2 (Nat.le_refl _) (v := none) (fun _ => rfl)
  have hCR : CHr Z EL1 s.vm s.heap T2.vm T2.heap := by
    rw [hh]
    exact R_3.trans (CHv.at X2 hZ2 (own_EW hw) H_3)
  refine ⟨_, _, pre0 _ ?_, hrun, hended, _, _, rfl, ?_, hCR, hRW.1, hRW.2.1, hRW.2.2.1, hRW.2.2.2.mono (by decide) (by decide)⟩
  · show Steps p.tables e below (s₁.setTop (mkF m 0 #[.val (.ref a0s), .val (.ref a1c)] [])) _
    refine XS.aloadN X0w.here hx rfl (hb hby d2_0) rfl rfl ?_
    refine XS.aloadN X0w.here hx rfl (hb hby d2_1) rfl rfl ?_
    refine XS.iconst X0w.here hx rfl (hb hby d2_2) ?_
    refine XS.aloadN X0w.here hx rfl (hb hby d2_3) rfl rfl ?_
    show Steps p.tables e below (s₁.setTop (mkF m 4 #[.val (.ref a0s), .val (.ref a1c)] [(.ref a1c), (.int 0), (.ref a1c), (.ref a0s)])) _
    refine X0w.arraylength hx (by rw [e0]; exact Ar1.1) (State.isArrayOf_alike hZ.alike Ar1.2.1) (g := (mkF m 4 #[.val (.ref a0s), .val (.ref a1c)] [(.ref a1c), (.int 0), (.ref a1c), (.ref a0s)])) rfl rfl (hb hby d2_4) _ ?_
    rw [len_of S1 N1_]
    show Steps p.tables e below (s₁.setTop (mkF m 5 #[.val (.ref a0s), .val (.ref a1c)] [(.int 0), (.int 0), (.ref a1c), (.ref a0s)])) _
    refine XS.aconstNull X0w.here hx rfl (hb hby d2_5) ?_
    show Steps p.tables e below (s₁.setTop (mkF m 6 #[.val (.ref a0s), .val (.ref a1c)] [.null, (.int 0), (.int 0), (.ref a1c), (.ref a0s)])) _
    refine st2.trans ?_
    show Steps p.tables e below (T2.setTop (mkF m 9 #[.val (.ref a0s), .val (.ref a1c)] [])) _
    exact X2.returnOut hx Bd.returns (hb hby d2_9) hr
  · show Q_rmIc_0 n0 Z cS aRS aEM aUS aSS a0s a1c k1 h0 _ T2.heap _
    exact ⟨b_2, kb_2, rfl, N2, K2, P2_0, P2_1, P2_2, P2_3⟩
def Q_rmIc_1 (n0 : Nat) (Z : State) (cS : Int32) (aRS : Addr) (aEM : Addr) (aUS : Addr) (aSS : Addr) (a0s : Addr) (a1c : Addr) (k1 : ClassId) (c0 : Int32) (h0 : Heap) (v : Option Value) (h : Heap) (L : List Loc) : Prop := ∃ b : Addr, ∃ kb : ClassId, v = none ∧ Fr n0 L ∧ Keep h0 h [a0s] ∧ (h0.size ≤ b) ∧ (Exa Z h b "[B") ∧ (Exa Z h a0s "java/lang/String") ∧ (Fld Z h a0s "java/lang/String" "value" "[B" (.ref b)) ∧ (Fld Z h a0s "java/lang/String" "coder" "B" (.int 0)) ∧ (Arv Z h b kb .byte (1 : Int32) [(.int (c0.toInt8.toInt32))] (.int 0))
set_option maxRecDepth 65536 in
set_option maxHeartbeats 40000000 in
theorem rmIc_1 (l : Launch) (Z : State) (a0 : Array Value) (hw : ∀ d ∈ tables_1, d.before a0 Z = true) (ws : List Jvm.Cond) (cS : Int32) (aRS : Addr) (aEM : Addr) (aUS : Addr) (aSS : Addr) (a0s : Addr) (a1c : Addr) (k1 : ClassId) (c0 : Int32) (h0 : Heap) (n0 : Nat) (O0 : Old Z n0 h0) (GL : GF Z cS aRS aEM aUS aSS) (E_a0s : Exa Z h0 a0s "java/lang/String") (F_value_a0s : Fld Z h0 a0s "java/lang/String" "value" "[B" .null) (F_coder_a0s : Fld Z h0 a0s "java/lang/String" "coder" "B" (.int 0)) (g_a0s : n0 ≤ a0s) (V_a1c : Arv Z h0 a1c k1 .char (1 : Int32) [(.int c0)] (.int 0)) (hc0 : ¬ ((255 : Int32) < c0)) :
    MetFree l MN_9 (head1 (Jvm.Cond.code MN_9 jdk_42_method_3_code 2 none :: ws) ({ frames := 3, cells := 1, slots := 1, locals := 52 } : Room)) (fun a U => a = #[(.ref a0s), (.ref a1c)] ∧ Z.Warmed39 U.vm ∧ U.heap = h0) (fun _ _ _ _ _ => True) (fun _ U o U' => ∃ v L, o = .returned v ∧ Q_rmIc_1 n0 Z cS aRS aEM aUS aSS a0s a1c k1 c0 h0 v U'.heap L ∧ FrameEnd U o U' L ({ frames := 3, cells := 1, slots := 1, locals := 52 } : Room).cells ({ frames := 3, cells := 1, slots := 1, locals := 52 } : Room).slots) := by
  refine MetFree.of_bodySF (plainFor_of_name pnv1) hisR ?_
  intro p e s m args below meth c s₁ Bd hml0 hP hK
  obtain ⟨rfl, hZ, hh⟩ := hP
  have hx := Bd.exec
  have hby := Bd.bytes
  have hml : c.maxLocals = 2 := hml0
  have hown : s.vm.findClass "java/lang/String" = some m.cls := findClass_of_methodNamed Bd.named
  have hnm := (name_of_methodNamed Bd.named Bd.method).1
  have X0 : Stand p l e ({ frames := 3, cells := 1, slots := 1, locals := 52 } : Room) s m #[(.ref a0s), (.ref a1c)] below meth c s₁ [] 0 0 := Stand.of_body Bd
  have e0 : s₁.heap = h0 := by rw [← hh, Bd.state]; rfl
  have N0 := Fr.nil n0
  have pre0 : ∀ t, Steps p.tables e below (s₁.setTop (mkF m 0 #[.val (.ref a0s), .val (.ref a1c)] [])) t → Steps p.tables e below (s₁.setTop (entryFrame m #[(.ref a0s), (.ref a1c)] 2)) t := fun t k => castTop (ef_rmIc_0 m a0s a1c) k
  have GL' := GL
  obtain ⟨GCS, GCP, GSR, GSE, GEE, GFE, GSU, GSS, GA16, GHI, GLO⟩ := GL'
  obtain ⟨cl1, Ar1, -, S1, N1_, -, -⟩ := id (V_a1c)
  obtain ⟨_, _, ⟨T2, L2, k2, n2⟩, -, X2, ⟨Lc2, hQ2, l2, y2, z2⟩, st2⟩ := X0.specialBack hx (y := MN_8) rfl hown (mvT hZ (Wd hw 12 rfl)) (mvT hZ (Wd hw 13 rfl)) (mvT hZ (Wd hw 15 rfl)) (by decide) (backOf (W := 0) (rmIv_1 l Z a0 hw [] cS aRS aEM aUS aSS (a0s) (a1c) (k1) (c0) (h0) n0 O0 GL E_a0s F_value_a0s F_coder_a0s g_a0s V_a1c hc0) hZ (Wd hw 15 rfl) (Wd hw 7 rfl) (by decide) (by decide)) (g := (mkF m 6 #[.val (.ref a0s), .val (.ref a1c)] [.null, (.int 1), (.int 0), (.ref a1c), (.ref a0s)])) rfl (by rw [hml]; rfl) (Steps.refl _) (a := a0s) (argsL := [(.ref a1c), (.int 0), (.int 1), .null]) (rest := []) (lenOf pdv7 rfl) rfl (by show 2 * 0 + _ ≤ _; exact Nat.le_of_eq rfl) (hb hby d2_6) (fun _ _ => ⟨rfl, e0, (by decide : 0 + 1 ≤ _), (by decide : 0 + 1 ≤ _)⟩)
  dsimp only [Pt.U, Pt.locs, Pt.cells, Pt.slots] at X2 l2 y2 z2 st2 hQ2
  subst l2 y2 z2
  obtain ⟨b_2, kb_2, rfl, N2q, Kc2, P2_0, P2_1, P2_2, P2_3, P2_4, P2_5⟩ := hQ2
  have K2 : Keep h0 T2.heap [a0s] := (Keep.refl h0 [a0s]).trans Kc2 (allS (Or.inl (List.mem_of_getElem? (i := 0) rfl)) all0)
  have O2 := O0.keep Kc2 (allS g_a0s all0)
  have g_b_2 : n0 ≤ b_2 := Nat.le_trans (own_sz O0) P2_0
  have sz_b_2 : h0.size ≤ b_2 := Nat.le_trans (Keep.refl h0 [a0s]).1 P2_0
  have N2 := Fr.app N0 N2q
  obtain ⟨fs, hr, hrun, hended, hW, hsame⟩ := X2.leave (v := none) (fun _ => rfl)
  refine ⟨_, _, pre0 _ ?_, hrun, hended, _, _, rfl, ?_, ⟨_, rfl⟩, hW, hsame.mono (by decide) (by decide)⟩
  · show Steps p.tables e below (s₁.setTop (mkF m 0 #[.val (.ref a0s), .val (.ref a1c)] [])) _
    refine XS.aloadN X0.here hx rfl (hb hby d2_0) rfl rfl ?_
    refine XS.aloadN X0.here hx rfl (hb hby d2_1) rfl rfl ?_
    refine XS.iconst X0.here hx rfl (hb hby d2_2) ?_
    refine XS.aloadN X0.here hx rfl (hb hby d2_3) rfl rfl ?_
    show Steps p.tables e below (s₁.setTop (mkF m 4 #[.val (.ref a0s), .val (.ref a1c)] [(.ref a1c), (.int 0), (.ref a1c), (.ref a0s)])) _
    refine X0.arraylength hx (by rw [e0]; exact Ar1.1) (State.isArrayOf_alike hZ.alike Ar1.2.1) (g := (mkF m 4 #[.val (.ref a0s), .val (.ref a1c)] [(.ref a1c), (.int 0), (.ref a1c), (.ref a0s)])) rfl rfl (hb hby d2_4) _ ?_
    rw [len_of S1 N1_]
    show Steps p.tables e below (s₁.setTop (mkF m 5 #[.val (.ref a0s), .val (.ref a1c)] [(.int 1), (.int 0), (.ref a1c), (.ref a0s)])) _
    refine XS.aconstNull X0.here hx rfl (hb hby d2_5) ?_
    show Steps p.tables e below (s₁.setTop (mkF m 6 #[.val (.ref a0s), .val (.ref a1c)] [.null, (.int 1), (.int 0), (.ref a1c), (.ref a0s)])) _
    refine st2.trans ?_
    show Steps p.tables e below (T2.setTop (mkF m 9 #[.val (.ref a0s), .val (.ref a1c)] [])) _
    exact X2.returnOut hx Bd.returns (hb hby d2_9) hr
  · show Q_rmIc_1 n0 Z cS aRS aEM aUS aSS a0s a1c k1 c0 h0 _ T2.heap _
    exact ⟨b_2, kb_2, rfl, N2, K2, sz_b_2, P2_1, P2_2, P2_3, P2_4, P2_5⟩
def Q_rmIc_1u0 (n0 : Nat) (Z : State) (cS : Int32) (aRS : Addr) (aEM : Addr) (aUS : Addr) (aSS : Addr) (a0s : Addr) (a1c : Addr) (k1 : ClassId) (c0 : Int32) (h0 : Heap) (v : Option Value) (h : Heap) (L : List Loc) : Prop := ∃ b : Addr, ∃ kb : ClassId, v = none ∧ Fr n0 L ∧ Keep h0 h [a0s] ∧ (h0.size ≤ b) ∧ (Exa Z h b "[B") ∧ (Exa Z h a0s "java/lang/String") ∧ (Fld Z h a0s "java/lang/String" "value" "[B" (.ref b)) ∧ (Fld Z h a0s "java/lang/String" "coder" "B" (.int 1)) ∧ (Arv Z h b kb .byte (2 : Int32) [(.int (c0.toInt8.toInt32)), (.int ((c0 >>> ((8 : Int32) &&& 31)).toInt8.toInt32))] (.int 0))
set_option maxRecDepth 65536 in
set_option maxHeartbeats 40000000 in
theorem rmIc_1u0 (l : Launch) (Z : State) (a0 : Array Value) (hw : ∀ d ∈ tables_1, d.before a0 Z = true) (ws : List Jvm.Cond) (cS : Int32) (aRS : Addr) (aEM : Addr) (aUS : Addr) (aSS : Addr) (a0s : Addr) (a1c : Addr) (k1 : ClassId) (c0 : Int32) (h0 : Heap) (n0 : Nat) (O0 : Old Z n0 h0) (GL : GF Z cS aRS aEM aUS aSS) (E_a0s : Exa Z h0 a0s "java/lang/String") (F_value_a0s : Fld Z h0 a0s "java/lang/String" "value" "[B" .null) (F_coder_a0s : Fld Z h0 a0s "java/lang/String" "coder" "B" (.int 0)) (g_a0s : n0 ≤ a0s) (V_a1c : Arv Z h0 a1c k1 .char (1 : Int32) [(.int c0)] (.int 0)) (hcj : (255 : Int32) < c0) (hnj : nar .char c0 = c0) :
    MetFree l MN_9 (head1 (Jvm.Cond.code MN_9 jdk_42_method_3_code 2 none :: ws) ({ frames := 5, cells := 2, slots := 3, locals := 74 } : Room)) (fun a U => a = #[(.ref a0s), (.ref a1c)] ∧ Z.Warmed39 U.vm ∧ U.heap = h0) (fun _ _ _ _ _ => True) (fun _ U o U' => ∃ v L, o = .returned v ∧ Q_rmIc_1u0 n0 Z cS aRS aEM aUS aSS a0s a1c k1 c0 h0 v U'.heap L ∧ FrameEnd U o U' L ({ frames := 5, cells := 2, slots := 3, locals := 74 } : Room).cells ({ frames := 5, cells := 2, slots := 3, locals := 74 } : Room).slots) := by
  refine MetFree.of_bodySF (plainFor_of_name pnv1) hisR ?_
  intro p e s m args below meth c s₁ Bd hml0 hP hK
  obtain ⟨rfl, hZ, hh⟩ := hP
  have hx := Bd.exec
  have hby := Bd.bytes
  have hml : c.maxLocals = 2 := hml0
  have hown : s.vm.findClass "java/lang/String" = some m.cls := findClass_of_methodNamed Bd.named
  have hnm := (name_of_methodNamed Bd.named Bd.method).1
  have X0 : Stand p l e ({ frames := 5, cells := 2, slots := 3, locals := 74 } : Room) s m #[(.ref a0s), (.ref a1c)] below meth c s₁ [] 0 0 := Stand.of_body Bd
  have e0 : s₁.heap = h0 := by rw [← hh, Bd.state]; rfl
  have N0 := Fr.nil n0
  have pre0 : ∀ t, Steps p.tables e below (s₁.setTop (mkF m 0 #[.val (.ref a0s), .val (.ref a1c)] [])) t → Steps p.tables e below (s₁.setTop (entryFrame m #[(.ref a0s), (.ref a1c)] 2)) t := fun t k => castTop (ef_rmIc_0 m a0s a1c) k
  have GL' := GL
  obtain ⟨GCS, GCP, GSR, GSE, GEE, GFE, GSU, GSS, GA16, GHI, GLO⟩ := GL'
  obtain ⟨cl1, Ar1, -, S1, N1_, -, -⟩ := id (V_a1c)
  obtain ⟨_, _, ⟨T2, L2, k2, n2⟩, -, X2, ⟨Lc2, hQ2, l2, y2, z2⟩, st2⟩ := X0.specialBack hx (y := MN_8) rfl hown (mvT hZ (Wd hw 12 rfl)) (mvT hZ (Wd hw 13 rfl)) (mvT hZ (Wd hw 15 rfl)) (by decide) (backOf (W := 0) (rmIv_1u0 l Z a0 hw [] cS aRS aEM aUS aSS (a0s) (a1c) (k1) (c0) (h0) n0 O0 GL E_a0s F_value_a0s F_coder_a0s g_a0s V_a1c hcj hnj) hZ (Wd hw 15 rfl) (Wd hw 7 rfl) (by decide) (by decide)) (g := (mkF m 6 #[.val (.ref a0s), .val (.ref a1c)] [.null, (.int 1), (.int 0), (.ref a1c), (.ref a0s)])) rfl (by rw [hml]; rfl) (Steps.refl _) (a := a0s) (argsL := [(.ref a1c), (.int 0), (.int 1), .null]) (rest := []) (lenOf pdv7 rfl) rfl (by show 2 * 0 + _ ≤ _; exact Nat.le_of_eq rfl) (hb hby d2_6) (fun _ _ => ⟨rfl, e0, (by decide : 0 + 2 ≤ _), (by decide : 0 + 3 ≤ _)⟩)
  dsimp only [Pt.U, Pt.locs, Pt.cells, Pt.slots] at X2 l2 y2 z2 st2 hQ2
  subst l2 y2 z2
  obtain ⟨b_2, kb_2, rfl, N2q, Kc2, P2_0, P2_1, P2_2, P2_3, P2_4, P2_5⟩ := hQ2
  have K2 : Keep h0 T2.heap [a0s] := (Keep.refl h0 [a0s]).trans Kc2 (allS (Or.inl (List.mem_of_getElem? (i := 0) rfl)) all0)
  have O2 := O0.keep Kc2 (allS g_a0s all0)
  have g_b_2 : n0 ≤ b_2 := Nat.le_trans (own_sz O0) P2_0
  have sz_b_2 : h0.size ≤ b_2 := Nat.le_trans (Keep.refl h0 [a0s]).1 P2_0
  have N2 := Fr.app N0 N2q
  obtain ⟨fs, hr, hrun, hended, hW, hsame⟩ := X2.leave (v := none) (fun _ => rfl)
  refine ⟨_, _, pre0 _ ?_, hrun, hended, _, _, rfl, ?_, ⟨_, rfl⟩, hW, hsame.mono (by decide) (by decide)⟩
  · show Steps p.tables e below (s₁.setTop (mkF m 0 #[.val (.ref a0s), .val (.ref a1c)] [])) _
    refine XS.aloadN X0.here hx rfl (hb hby d2_0) rfl rfl ?_
    refine XS.aloadN X0.here hx rfl (hb hby d2_1) rfl rfl ?_
    refine XS.iconst X0.here hx rfl (hb hby d2_2) ?_
    refine XS.aloadN X0.here hx rfl (hb hby d2_3) rfl rfl ?_
    show Steps p.tables e below (s₁.setTop (mkF m 4 #[.val (.ref a0s), .val (.ref a1c)] [(.ref a1c), (.int 0), (.ref a1c), (.ref a0s)])) _
    refine X0.arraylength hx (by rw [e0]; exact Ar1.1) (State.isArrayOf_alike hZ.alike Ar1.2.1) (g := (mkF m 4 #[.val (.ref a0s), .val (.ref a1c)] [(.ref a1c), (.int 0), (.ref a1c), (.ref a0s)])) rfl rfl (hb hby d2_4) _ ?_
    rw [len_of S1 N1_]
    show Steps p.tables e below (s₁.setTop (mkF m 5 #[.val (.ref a0s), .val (.ref a1c)] [(.int 1), (.int 0), (.ref a1c), (.ref a0s)])) _
    refine XS.aconstNull X0.here hx rfl (hb hby d2_5) ?_
    show Steps p.tables e below (s₁.setTop (mkF m 6 #[.val (.ref a0s), .val (.ref a1c)] [.null, (.int 1), (.int 0), (.ref a1c), (.ref a0s)])) _
    refine st2.trans ?_
    show Steps p.tables e below (T2.setTop (mkF m 9 #[.val (.ref a0s), .val (.ref a1c)] [])) _
    exact X2.returnOut hx Bd.returns (hb hby d2_9) hr
  · show Q_rmIc_1u0 n0 Z cS aRS aEM aUS aSS a0s a1c k1 c0 h0 _ T2.heap _
    exact ⟨b_2, kb_2, rfl, N2, K2, sz_b_2, P2_1, P2_2, P2_3, P2_4, P2_5⟩
def Q_rmIc_2 (n0 : Nat) (Z : State) (cS : Int32) (aRS : Addr) (aEM : Addr) (aUS : Addr) (aSS : Addr) (a0s : Addr) (a1c : Addr) (k1 : ClassId) (c0 : Int32) (c1 : Int32) (h0 : Heap) (v : Option Value) (h : Heap) (L : List Loc) : Prop := ∃ b : Addr, ∃ kb : ClassId, v = none ∧ Fr n0 L ∧ Keep h0 h [a0s] ∧ (h0.size ≤ b) ∧ (Exa Z h b "[B") ∧ (Exa Z h a0s "java/lang/String") ∧ (Fld Z h a0s "java/lang/String" "value" "[B" (.ref b)) ∧ (Fld Z h a0s "java/lang/String" "coder" "B" (.int 0)) ∧ (Arv Z h b kb .byte (2 : Int32) [(.int (c0.toInt8.toInt32)), (.int (c1.toInt8.toInt32))] (.int 0))
set_option maxRecDepth 65536 in
set_option maxHeartbeats 40000000 in
theorem rmIc_2 (l : Launch) (Z : State) (a0 : Array Value) (hw : ∀ d ∈ tables_1, d.before a0 Z = true) (ws : List Jvm.Cond) (cS : Int32) (aRS : Addr) (aEM : Addr) (aUS : Addr) (aSS : Addr) (a0s : Addr) (a1c : Addr) (k1 : ClassId) (c0 : Int32) (c1 : Int32) (h0 : Heap) (n0 : Nat) (O0 : Old Z n0 h0) (GL : GF Z cS aRS aEM aUS aSS) (E_a0s : Exa Z h0 a0s "java/lang/String") (F_value_a0s : Fld Z h0 a0s "java/lang/String" "value" "[B" .null) (F_coder_a0s : Fld Z h0 a0s "java/lang/String" "coder" "B" (.int 0)) (g_a0s : n0 ≤ a0s) (V_a1c : Arv Z h0 a1c k1 .char (2 : Int32) [(.int c0), (.int c1)] (.int 0)) (hc0 : ¬ ((255 : Int32) < c0)) (hc1 : ¬ ((255 : Int32) < c1)) :
    MetFree l MN_9 (head1 (Jvm.Cond.code MN_9 jdk_42_method_3_code 2 none :: ws) ({ frames := 3, cells := 1, slots := 2, locals := 52 } : Room)) (fun a U => a = #[(.ref a0s), (.ref a1c)] ∧ Z.Warmed39 U.vm ∧ U.heap = h0) (fun _ _ _ _ _ => True) (fun _ U o U' => ∃ v L, o = .returned v ∧ Q_rmIc_2 n0 Z cS aRS aEM aUS aSS a0s a1c k1 c0 c1 h0 v U'.heap L ∧ FrameEnd U o U' L ({ frames := 3, cells := 1, slots := 2, locals := 52 } : Room).cells ({ frames := 3, cells := 1, slots := 2, locals := 52 } : Room).slots) := by
  refine MetFree.of_bodySF (plainFor_of_name pnv1) hisR ?_
  intro p e s m args below meth c s₁ Bd hml0 hP hK
  obtain ⟨rfl, hZ, hh⟩ := hP
  have hx := Bd.exec
  have hby := Bd.bytes
  have hml : c.maxLocals = 2 := hml0
  have hown : s.vm.findClass "java/lang/String" = some m.cls := findClass_of_methodNamed Bd.named
  have hnm := (name_of_methodNamed Bd.named Bd.method).1
  have X0 : Stand p l e ({ frames := 3, cells := 1, slots := 2, locals := 52 } : Room) s m #[(.ref a0s), (.ref a1c)] below meth c s₁ [] 0 0 := Stand.of_body Bd
  have e0 : s₁.heap = h0 := by rw [← hh, Bd.state]; rfl
  have N0 := Fr.nil n0
  have pre0 : ∀ t, Steps p.tables e below (s₁.setTop (mkF m 0 #[.val (.ref a0s), .val (.ref a1c)] [])) t → Steps p.tables e below (s₁.setTop (entryFrame m #[(.ref a0s), (.ref a1c)] 2)) t := fun t k => castTop (ef_rmIc_0 m a0s a1c) k
  have GL' := GL
  obtain ⟨GCS, GCP, GSR, GSE, GEE, GFE, GSU, GSS, GA16, GHI, GLO⟩ := GL'
  obtain ⟨cl1, Ar1, -, S1, N1_, -, -⟩ := id (V_a1c)
  obtain ⟨_, _, ⟨T2, L2, k2, n2⟩, -, X2, ⟨Lc2, hQ2, l2, y2, z2⟩, st2⟩ := X0.specialBack hx (y := MN_8) rfl hown (mvT hZ (Wd hw 12 rfl)) (mvT hZ (Wd hw 13 rfl)) (mvT hZ (Wd hw 15 rfl)) (by decide) (backOf (W := 0) (rmIv_2 l Z a0 hw [] cS aRS aEM aUS aSS (a0s) (a1c) (k1) (c0) (c1) (h0) n0 O0 GL E_a0s F_value_a0s F_coder_a0s g_a0s V_a1c hc0 hc1) hZ (Wd hw 15 rfl) (Wd hw 7 rfl) (by decide) (by decide)) (g := (mkF m 6 #[.val (.ref a0s), .val (.ref a1c)] [.null, (.int 2), (.int 0), (.ref a1c), (.ref a0s)])) rfl (by rw [hml]; rfl) (Steps.refl _) (a := a0s) (argsL := [(.ref a1c), (.int 0), (.int 2), .null]) (rest := []) (lenOf pdv7 rfl) rfl (by show 2 * 0 + _ ≤ _; exact Nat.le_of_eq rfl) (hb hby d2_6) (fun _ _ => ⟨rfl, e0, (by decide : 0 + 1 ≤ _), (by decide : 0 + 2 ≤ _)⟩)
  dsimp only [Pt.U, Pt.locs, Pt.cells, Pt.slots] at X2 l2 y2 z2 st2 hQ2
  subst l2 y2 z2
  obtain ⟨b_2, kb_2, rfl, N2q, Kc2, P2_0, P2_1, P2_2, P2_3, P2_4, P2_5⟩ := hQ2
  have K2 : Keep h0 T2.heap [a0s] := (Keep.refl h0 [a0s]).trans Kc2 (allS (Or.inl (List.mem_of_getElem? (i := 0) rfl)) all0)
  have O2 := O0.keep Kc2 (allS g_a0s all0)
  have g_b_2 : n0 ≤ b_2 := Nat.le_trans (own_sz O0) P2_0
  have sz_b_2 : h0.size ≤ b_2 := Nat.le_trans (Keep.refl h0 [a0s]).1 P2_0
  have N2 := Fr.app N0 N2q
  obtain ⟨fs, hr, hrun, hended, hW, hsame⟩ := X2.leave (v := none) (fun _ => rfl)
  refine ⟨_, _, pre0 _ ?_, hrun, hended, _, _, rfl, ?_, ⟨_, rfl⟩, hW, hsame.mono (by decide) (by decide)⟩
  · show Steps p.tables e below (s₁.setTop (mkF m 0 #[.val (.ref a0s), .val (.ref a1c)] [])) _
    refine XS.aloadN X0.here hx rfl (hb hby d2_0) rfl rfl ?_
    refine XS.aloadN X0.here hx rfl (hb hby d2_1) rfl rfl ?_
    refine XS.iconst X0.here hx rfl (hb hby d2_2) ?_
    refine XS.aloadN X0.here hx rfl (hb hby d2_3) rfl rfl ?_
    show Steps p.tables e below (s₁.setTop (mkF m 4 #[.val (.ref a0s), .val (.ref a1c)] [(.ref a1c), (.int 0), (.ref a1c), (.ref a0s)])) _
    refine X0.arraylength hx (by rw [e0]; exact Ar1.1) (State.isArrayOf_alike hZ.alike Ar1.2.1) (g := (mkF m 4 #[.val (.ref a0s), .val (.ref a1c)] [(.ref a1c), (.int 0), (.ref a1c), (.ref a0s)])) rfl rfl (hb hby d2_4) _ ?_
    rw [len_of S1 N1_]
    show Steps p.tables e below (s₁.setTop (mkF m 5 #[.val (.ref a0s), .val (.ref a1c)] [(.int 2), (.int 0), (.ref a1c), (.ref a0s)])) _
    refine XS.aconstNull X0.here hx rfl (hb hby d2_5) ?_
    show Steps p.tables e below (s₁.setTop (mkF m 6 #[.val (.ref a0s), .val (.ref a1c)] [.null, (.int 2), (.int 0), (.ref a1c), (.ref a0s)])) _
    refine st2.trans ?_
    show Steps p.tables e below (T2.setTop (mkF m 9 #[.val (.ref a0s), .val (.ref a1c)] [])) _
    exact X2.returnOut hx Bd.returns (hb hby d2_9) hr
  · show Q_rmIc_2 n0 Z cS aRS aEM aUS aSS a0s a1c k1 c0 c1 h0 _ T2.heap _
    exact ⟨b_2, kb_2, rfl, N2, K2, sz_b_2, P2_1, P2_2, P2_3, P2_4, P2_5⟩
def Q_rmIc_2u0 (n0 : Nat) (Z : State) (cS : Int32) (aRS : Addr) (aEM : Addr) (aUS : Addr) (aSS : Addr) (a0s : Addr) (a1c : Addr) (k1 : ClassId) (c0 : Int32) (c1 : Int32) (h0 : Heap) (v : Option Value) (h : Heap) (L : List Loc) : Prop := ∃ b : Addr, ∃ kb : ClassId, v = none ∧ Fr n0 L ∧ Keep h0 h [a0s] ∧ (h0.size ≤ b) ∧ (Exa Z h b "[B") ∧ (Exa Z h a0s "java/lang/String") ∧ (Fld Z h a0s "java/lang/String" "value" "[B" (.ref b)) ∧ (Fld Z h a0s "java/lang/String" "coder" "B" (.int 1)) ∧ (Arv Z h b kb .byte (4 : Int32) [(.int (c0.toInt8.toInt32)), (.int ((c0 >>> ((8 : Int32) &&& 31)).toInt8.toInt32)), (.int (c1.toInt8.toInt32)), (.int ((c1 >>> ((8 : Int32) &&& 31)).toInt8.toInt32))] (.int 0))
set_option maxRecDepth 65536 in
set_option maxHeartbeats 40000000 in
theorem rmIc_2u0 (l : Launch) (Z : State) (a0 : Array Value) (hw : ∀ d ∈ tables_1, d.before a0 Z = true) (ws : List Jvm.Cond) (cS : Int32) (aRS : Addr) (aEM : Addr) (aUS : Addr) (aSS : Addr) (a0s : Addr) (a1c : Addr) (k1 : ClassId) (c0 : Int32) (c1 : Int32) (h0 : Heap) (n0 : Nat) (O0 : Old Z n0 h0) (GL : GF Z cS aRS aEM aUS aSS) (E_a0s : Exa Z h0 a0s "java/lang/String") (F_value_a0s : Fld Z h0 a0s "java/lang/String" "value" "[B" .null) (F_coder_a0s : Fld Z h0 a0s "java/lang/String" "coder" "B" (.int 0)) (g_a0s : n0 ≤ a0s) (V_a1c : Arv Z h0 a1c k1 .char (2 : Int32) [(.int c0), (.int c1)] (.int 0)) (hcj : (255 : Int32) < c0) (hnj : nar .char c0 = c0) :
    MetFree l MN_9 (head1 (Jvm.Cond.code MN_9 jdk_42_method_3_code 2 none :: ws) ({ frames := 5, cells := 2, slots := 6, locals := 74 } : Room)) (fun a U => a = #[(.ref a0s), (.ref a1c)] ∧ Z.Warmed39 U.vm ∧ U.heap = h0) (fun _ _ _ _ _ => True) (fun _ U o U' => ∃ v L, o = .returned v ∧ Q_rmIc_2u0 n0 Z cS aRS aEM aUS aSS a0s a1c k1 c0 c1 h0 v U'.heap L ∧ FrameEnd U o U' L ({ frames := 5, cells := 2, slots := 6, locals := 74 } : Room).cells ({ frames := 5, cells := 2, slots := 6, locals := 74 } : Room).slots) := by
  refine MetFree.of_bodySF (plainFor_of_name pnv1) hisR ?_
  intro p e s m args below meth c s₁ Bd hml0 hP hK
  obtain ⟨rfl, hZ, hh⟩ := hP
  have hx := Bd.exec
  have hby := Bd.bytes
  have hml : c.maxLocals = 2 := hml0
  have hown : s.vm.findClass "java/lang/String" = some m.cls := findClass_of_methodNamed Bd.named
  have hnm := (name_of_methodNamed Bd.named Bd.method).1
  have X0 : Stand p l e ({ frames := 5, cells := 2, slots := 6, locals := 74 } : Room) s m #[(.ref a0s), (.ref a1c)] below meth c s₁ [] 0 0 := Stand.of_body Bd
  have e0 : s₁.heap = h0 := by rw [← hh, Bd.state]; rfl
  have N0 := Fr.nil n0
  have pre0 : ∀ t, Steps p.tables e below (s₁.setTop (mkF m 0 #[.val (.ref a0s), .val (.ref a1c)] [])) t → Steps p.tables e below (s₁.setTop (entryFrame m #[(.ref a0s), (.ref a1c)] 2)) t := fun t k => castTop (ef_rmIc_0 m a0s a1c) k
  have GL' := GL
  obtain ⟨GCS, GCP, GSR, GSE, GEE, GFE, GSU, GSS, GA16, GHI, GLO⟩ := GL'
  obtain ⟨cl1, Ar1, -, S1, N1_, -, -⟩ := id (V_a1c)
  obtain ⟨_, _, ⟨T2, L2, k2, n2⟩, -, X2, ⟨Lc2, hQ2, l2, y2, z2⟩, st2⟩ := X0.specialBack hx (y := MN_8) rfl hown (mvT hZ (Wd hw 12 rfl)) (mvT hZ (Wd hw 13 rfl)) (mvT hZ (Wd hw 15 rfl)) (by decide) (backOf (W := 0) (rmIv_2u0 l Z a0 hw [] cS aRS aEM aUS aSS (a0s) (a1c) (k1) (c0) (c1) (h0) n0 O0 GL E_a0s F_value_a0s F_coder_a0s g_a0s V_a1c hcj hnj) hZ (Wd hw 15 rfl) (Wd hw 7 rfl) (by decide) (by decide)) (g := (mkF m 6 #[.val (.ref a0s), .val (.ref a1c)] [.null, (.int 2), (.int 0), (.ref a1c), (.ref a0s)])) rfl (by rw [hml]; rfl) (Steps.refl _) (a := a0s) (argsL := [(.ref a1c), (.int 0), (.int 2), .null]) (rest := []) (lenOf pdv7 rfl) rfl (by show 2 * 0 + _ ≤ _; exact Nat.le_of_eq rfl) (hb hby d2_6) (fun _ _ => ⟨rfl, e0, (by decide : 0 + 2 ≤ _), (by decide : 0 + 6 ≤ _)⟩)
  dsimp only [Pt.U, Pt.locs, Pt.cells, Pt.slots] at X2 l2 y2 z2 st2 hQ2
  subst l2 y2 z2
  obtain ⟨b_2, kb_2, rfl, N2q, Kc2, P2_0, P2_1, P2_2, P2_3, P2_4, P2_5⟩ := hQ2
  have K2 : Keep h0 T2.heap [a0s] := (Keep.refl h0 [a0s]).trans Kc2 (allS (Or.inl (List.mem_of_getElem? (i := 0) rfl)) all0)
  have O2 := O0.keep Kc2 (allS g_a0s all0)
  have g_b_2 : n0 ≤ b_2 := Nat.le_trans (own_sz O0) P2_0
  have sz_b_2 : h0.size ≤ b_2 := Nat.le_trans (Keep.refl h0 [a0s]).1 P2_0
  have N2 := Fr.app N0 N2q
  obtain ⟨fs, hr, hrun, hended, hW, hsame⟩ := X2.leave (v := none) (fun _ => rfl)
  refine ⟨_, _, pre0 _ ?_, hrun, hended, _, _, rfl, ?_, ⟨_, rfl⟩, hW, hsame.mono (by decide) (by decide)⟩
  · show Steps p.tables e below (s₁.setTop (mkF m 0 #[.val (.ref a0s), .val (.ref a1c)] [])) _
    refine XS.aloadN X0.here hx rfl (hb hby d2_0) rfl rfl ?_
    refine XS.aloadN X0.here hx rfl (hb hby d2_1) rfl rfl ?_
    refine XS.iconst X0.here hx rfl (hb hby d2_2) ?_
    refine XS.aloadN X0.here hx rfl (hb hby d2_3) rfl rfl ?_
    show Steps p.tables e below (s₁.setTop (mkF m 4 #[.val (.ref a0s), .val (.ref a1c)] [(.ref a1c), (.int 0), (.ref a1c), (.ref a0s)])) _
    refine X0.arraylength hx (by rw [e0]; exact Ar1.1) (State.isArrayOf_alike hZ.alike Ar1.2.1) (g := (mkF m 4 #[.val (.ref a0s), .val (.ref a1c)] [(.ref a1c), (.int 0), (.ref a1c), (.ref a0s)])) rfl rfl (hb hby d2_4) _ ?_
    rw [len_of S1 N1_]
    show Steps p.tables e below (s₁.setTop (mkF m 5 #[.val (.ref a0s), .val (.ref a1c)] [(.int 2), (.int 0), (.ref a1c), (.ref a0s)])) _
    refine XS.aconstNull X0.here hx rfl (hb hby d2_5) ?_
    show Steps p.tables e below (s₁.setTop (mkF m 6 #[.val (.ref a0s), .val (.ref a1c)] [.null, (.int 2), (.int 0), (.ref a1c), (.ref a0s)])) _
    refine st2.trans ?_
    show Steps p.tables e below (T2.setTop (mkF m 9 #[.val (.ref a0s), .val (.ref a1c)] [])) _
    exact X2.returnOut hx Bd.returns (hb hby d2_9) hr
  · show Q_rmIc_2u0 n0 Z cS aRS aEM aUS aSS a0s a1c k1 c0 c1 h0 _ T2.heap _
    exact ⟨b_2, kb_2, rfl, N2, K2, sz_b_2, P2_1, P2_2, P2_3, P2_4, P2_5⟩
def Q_rmIc_2u1 (n0 : Nat) (Z : State) (cS : Int32) (aRS : Addr) (aEM : Addr) (aUS : Addr) (aSS : Addr) (a0s : Addr) (a1c : Addr) (k1 : ClassId) (c0 : Int32) (c1 : Int32) (h0 : Heap) (v : Option Value) (h : Heap) (L : List Loc) : Prop := ∃ b : Addr, ∃ kb : ClassId, v = none ∧ Fr n0 L ∧ Keep h0 h [a0s] ∧ (h0.size ≤ b) ∧ (Exa Z h b "[B") ∧ (Exa Z h a0s "java/lang/String") ∧ (Fld Z h a0s "java/lang/String" "value" "[B" (.ref b)) ∧ (Fld Z h a0s "java/lang/String" "coder" "B" (.int 1)) ∧ (Arv Z h b kb .byte (4 : Int32) [(.int (c0.toInt8.toInt32)), (.int ((c0 >>> ((8 : Int32) &&& 31)).toInt8.toInt32)), (.int (c1.toInt8.toInt32)), (.int ((c1 >>> ((8 : Int32) &&& 31)).toInt8.toInt32))] (.int 0))
set_option maxRecDepth 65536 in
set_option maxHeartbeats 40000000 in
theorem rmIc_2u1 (l : Launch) (Z : State) (a0 : Array Value) (hw : ∀ d ∈ tables_1, d.before a0 Z = true) (ws : List Jvm.Cond) (cS : Int32) (aRS : Addr) (aEM : Addr) (aUS : Addr) (aSS : Addr) (a0s : Addr) (a1c : Addr) (k1 : ClassId) (c0 : Int32) (c1 : Int32) (h0 : Heap) (n0 : Nat) (O0 : Old Z n0 h0) (GL : GF Z cS aRS aEM aUS aSS) (E_a0s : Exa Z h0 a0s "java/lang/String") (F_value_a0s : Fld Z h0 a0s "java/lang/String" "value" "[B" .null) (F_coder_a0s : Fld Z h0 a0s "java/lang/String" "coder" "B" (.int 0)) (g_a0s : n0 ≤ a0s) (V_a1c : Arv Z h0 a1c k1 .char (2 : Int32) [(.int c0), (.int c1)] (.int 0)) (hc0 : ¬ ((255 : Int32) < c0)) (hcj : (255 : Int32) < c1) (hnj : nar .char c1 = c1) :
    MetFree l MN_9 (head1 (Jvm.Cond.code MN_9 jdk_42_method_3_code 2 none :: ws) ({ frames := 5, cells := 2, slots := 6, locals := 74 } : Room)) (fun a U => a = #[(.ref a0s), (.ref a1c)] ∧ Z.Warmed39 U.vm ∧ U.heap = h0) (fun _ _ _ _ _ => True) (fun _ U o U' => ∃ v L, o = .returned v ∧ Q_rmIc_2u1 n0 Z cS aRS aEM aUS aSS a0s a1c k1 c0 c1 h0 v U'.heap L ∧ FrameEnd U o U' L ({ frames := 5, cells := 2, slots := 6, locals := 74 } : Room).cells ({ frames := 5, cells := 2, slots := 6, locals := 74 } : Room).slots) := by
  refine MetFree.of_bodySF (plainFor_of_name pnv1) hisR ?_
  intro p e s m args below meth c s₁ Bd hml0 hP hK
  obtain ⟨rfl, hZ, hh⟩ := hP
  have hx := Bd.exec
  have hby := Bd.bytes
  have hml : c.maxLocals = 2 := hml0
  have hown : s.vm.findClass "java/lang/String" = some m.cls := findClass_of_methodNamed Bd.named
  have hnm := (name_of_methodNamed Bd.named Bd.method).1
  have X0 : Stand p l e ({ frames := 5, cells := 2, slots := 6, locals := 74 } : Room) s m #[(.ref a0s), (.ref a1c)] below meth c s₁ [] 0 0 := Stand.of_body Bd
  have e0 : s₁.heap = h0 := by rw [← hh, Bd.state]; rfl
  have N0 := Fr.nil n0
  have pre0 : ∀ t, Steps p.tables e below (s₁.setTop (mkF m 0 #[.val (.ref a0s), .val (.ref a1c)] [])) t → Steps p.tables e below (s₁.setTop (entryFrame m #[(.ref a0s), (.ref a1c)] 2)) t := fun t k => castTop (ef_rmIc_0 m a0s a1c) k
  have GL' := GL
  obtain ⟨GCS, GCP, GSR, GSE, GEE, GFE, GSU, GSS, GA16, GHI, GLO⟩ := GL'
  obtain ⟨cl1, Ar1, -, S1, N1_, -, -⟩ := id (V_a1c)
  obtain ⟨_, _, ⟨T2, L2, k2, n2⟩, -, X2, ⟨Lc2, hQ2, l2, y2, z2⟩, st2⟩ := X0.specialBack hx (y := MN_8) rfl hown (mvT hZ (Wd hw 12 rfl)) (mvT hZ (Wd hw 13 rfl)) (mvT hZ (Wd hw 15 rfl)) (by decide) (backOf (W := 0) (rmIv_2u1 l Z a0 hw [] cS aRS aEM aUS aSS (a0s) (a1c) (k1) (c0) (c1) (h0) n0 O0 GL E_a0s F_value_a0s F_coder_a0s g_a0s V_a1c hc0 hcj hnj) hZ (Wd hw 15 rfl) (Wd hw 7 rfl) (by decide) (by decide)) (g := (mkF m 6 #[.val (.ref a0s), .val (.ref a1c)] [.null, (.int 2), (.int 0), (.ref a1c), (.ref a0s)])) rfl (by rw [hml]; rfl) (Steps.refl _) (a := a0s) (argsL := [(.ref a1c), (.int 0), (.int 2), .null]) (rest := []) (lenOf pdv7 rfl) rfl (by show 2 * 0 + _ ≤ _; exact Nat.le_of_eq rfl) (hb hby d2_6) (fun _ _ => ⟨rfl, e0, (by decide : 0 + 2 ≤ _), (by decide : 0 + 6 ≤ _)⟩)
  dsimp only [Pt.U, Pt.locs, Pt.cells, Pt.slots] at X2 l2 y2 z2 st2 hQ2
  subst l2 y2 z2
  obtain ⟨b_2, kb_2, rfl, N2q, Kc2, P2_0, P2_1, P2_2, P2_3, P2_4, P2_5⟩ := hQ2
  have K2 : Keep h0 T2.heap [a0s] := (Keep.refl h0 [a0s]).trans Kc2 (allS (Or.inl (List.mem_of_getElem? (i := 0) rfl)) all0)
  have O2 := O0.keep Kc2 (allS g_a0s all0)
  have g_b_2 : n0 ≤ b_2 := Nat.le_trans (own_sz O0) P2_0
  have sz_b_2 : h0.size ≤ b_2 := Nat.le_trans (Keep.refl h0 [a0s]).1 P2_0
  have N2 := Fr.app N0 N2q
  obtain ⟨fs, hr, hrun, hended, hW, hsame⟩ := X2.leave (v := none) (fun _ => rfl)
  refine ⟨_, _, pre0 _ ?_, hrun, hended, _, _, rfl, ?_, ⟨_, rfl⟩, hW, hsame.mono (by decide) (by decide)⟩
  · show Steps p.tables e below (s₁.setTop (mkF m 0 #[.val (.ref a0s), .val (.ref a1c)] [])) _
    refine XS.aloadN X0.here hx rfl (hb hby d2_0) rfl rfl ?_
    refine XS.aloadN X0.here hx rfl (hb hby d2_1) rfl rfl ?_
    refine XS.iconst X0.here hx rfl (hb hby d2_2) ?_
    refine XS.aloadN X0.here hx rfl (hb hby d2_3) rfl rfl ?_
    show Steps p.tables e below (s₁.setTop (mkF m 4 #[.val (.ref a0s), .val (.ref a1c)] [(.ref a1c), (.int 0), (.ref a1c), (.ref a0s)])) _
    refine X0.arraylength hx (by rw [e0]; exact Ar1.1) (State.isArrayOf_alike hZ.alike Ar1.2.1) (g := (mkF m 4 #[.val (.ref a0s), .val (.ref a1c)] [(.ref a1c), (.int 0), (.ref a1c), (.ref a0s)])) rfl rfl (hb hby d2_4) _ ?_
    rw [len_of S1 N1_]
    show Steps p.tables e below (s₁.setTop (mkF m 5 #[.val (.ref a0s), .val (.ref a1c)] [(.int 2), (.int 0), (.ref a1c), (.ref a0s)])) _
    refine XS.aconstNull X0.here hx rfl (hb hby d2_5) ?_
    show Steps p.tables e below (s₁.setTop (mkF m 6 #[.val (.ref a0s), .val (.ref a1c)] [.null, (.int 2), (.int 0), (.ref a1c), (.ref a0s)])) _
    refine st2.trans ?_
    show Steps p.tables e below (T2.setTop (mkF m 9 #[.val (.ref a0s), .val (.ref a1c)] [])) _
    exact X2.returnOut hx Bd.returns (hb hby d2_9) hr
  · show Q_rmIc_2u1 n0 Z cS aRS aEM aUS aSS a0s a1c k1 c0 c1 h0 _ T2.heap _
    exact ⟨b_2, kb_2, rfl, N2, K2, sz_b_2, P2_1, P2_2, P2_3, P2_4, P2_5⟩
def Q_rmIc_3 (n0 : Nat) (Z : State) (cS : Int32) (aRS : Addr) (aEM : Addr) (aUS : Addr) (aSS : Addr) (a0s : Addr) (a1c : Addr) (k1 : ClassId) (c0 : Int32) (c1 : Int32) (c2 : Int32) (h0 : Heap) (v : Option Value) (h : Heap) (L : List Loc) : Prop := ∃ b : Addr, ∃ kb : ClassId, v = none ∧ Fr n0 L ∧ Keep h0 h [a0s] ∧ (h0.size ≤ b) ∧ (Exa Z h b "[B") ∧ (Exa Z h a0s "java/lang/String") ∧ (Fld Z h a0s "java/lang/String" "value" "[B" (.ref b)) ∧ (Fld Z h a0s "java/lang/String" "coder" "B" (.int 0)) ∧ (Arv Z h b kb .byte (3 : Int32) [(.int (c0.toInt8.toInt32)), (.int (c1.toInt8.toInt32)), (.int (c2.toInt8.toInt32))] (.int 0))
set_option maxRecDepth 65536 in
set_option maxHeartbeats 40000000 in
theorem rmIc_3 (l : Launch) (Z : State) (a0 : Array Value) (hw : ∀ d ∈ tables_1, d.before a0 Z = true) (ws : List Jvm.Cond) (cS : Int32) (aRS : Addr) (aEM : Addr) (aUS : Addr) (aSS : Addr) (a0s : Addr) (a1c : Addr) (k1 : ClassId) (c0 : Int32) (c1 : Int32) (c2 : Int32) (h0 : Heap) (n0 : Nat) (O0 : Old Z n0 h0) (GL : GF Z cS aRS aEM aUS aSS) (E_a0s : Exa Z h0 a0s "java/lang/String") (F_value_a0s : Fld Z h0 a0s "java/lang/String" "value" "[B" .null) (F_coder_a0s : Fld Z h0 a0s "java/lang/String" "coder" "B" (.int 0)) (g_a0s : n0 ≤ a0s) (V_a1c : Arv Z h0 a1c k1 .char (3 : Int32) [(.int c0), (.int c1), (.int c2)] (.int 0)) (hc0 : ¬ ((255 : Int32) < c0)) (hc1 : ¬ ((255 : Int32) < c1)) (hc2 : ¬ ((255 : Int32) < c2)) :
    MetFree l MN_9 (head1 (Jvm.Cond.code MN_9 jdk_42_method_3_code 2 none :: ws) ({ frames := 3, cells := 1, slots := 3, locals := 52 } : Room)) (fun a U => a = #[(.ref a0s), (.ref a1c)] ∧ Z.Warmed39 U.vm ∧ U.heap = h0) (fun _ _ _ _ _ => True) (fun _ U o U' => ∃ v L, o = .returned v ∧ Q_rmIc_3 n0 Z cS aRS aEM aUS aSS a0s a1c k1 c0 c1 c2 h0 v U'.heap L ∧ FrameEnd U o U' L ({ frames := 3, cells := 1, slots := 3, locals := 52 } : Room).cells ({ frames := 3, cells := 1, slots := 3, locals := 52 } : Room).slots) := by
  refine MetFree.of_bodySF (plainFor_of_name pnv1) hisR ?_
  intro p e s m args below meth c s₁ Bd hml0 hP hK
  obtain ⟨rfl, hZ, hh⟩ := hP
  have hx := Bd.exec
  have hby := Bd.bytes
  have hml : c.maxLocals = 2 := hml0
  have hown : s.vm.findClass "java/lang/String" = some m.cls := findClass_of_methodNamed Bd.named
  have hnm := (name_of_methodNamed Bd.named Bd.method).1
  have X0 : Stand p l e ({ frames := 3, cells := 1, slots := 3, locals := 52 } : Room) s m #[(.ref a0s), (.ref a1c)] below meth c s₁ [] 0 0 := Stand.of_body Bd
  have e0 : s₁.heap = h0 := by rw [← hh, Bd.state]; rfl
  have N0 := Fr.nil n0
  have pre0 : ∀ t, Steps p.tables e below (s₁.setTop (mkF m 0 #[.val (.ref a0s), .val (.ref a1c)] [])) t → Steps p.tables e below (s₁.setTop (entryFrame m #[(.ref a0s), (.ref a1c)] 2)) t := fun t k => castTop (ef_rmIc_0 m a0s a1c) k
  have GL' := GL
  obtain ⟨GCS, GCP, GSR, GSE, GEE, GFE, GSU, GSS, GA16, GHI, GLO⟩ := GL'
  obtain ⟨cl1, Ar1, -, S1, N1_, -, -⟩ := id (V_a1c)
  obtain ⟨_, _, ⟨T2, L2, k2, n2⟩, -, X2, ⟨Lc2, hQ2, l2, y2, z2⟩, st2⟩ := X0.specialBack hx (y := MN_8) rfl hown (mvT hZ (Wd hw 12 rfl)) (mvT hZ (Wd hw 13 rfl)) (mvT hZ (Wd hw 15 rfl)) (by decide) (backOf (W := 0) (rmIv_3 l Z a0 hw [] cS aRS aEM aUS aSS (a0s) (a1c) (k1) (c0) (c1) (c2) (h0) n0 O0 GL E_a0s F_value_a0s F_coder_a0s g_a0s V_a1c hc0 hc1 hc2) hZ (Wd hw 15 rfl) (Wd hw 7 rfl) (by decide) (by decide)) (g := (mkF m 6 #[.val (.ref a0s), .val (.ref a1c)] [.null, (.int 3), (.int 0), (.ref a1c), (.ref a0s)])) rfl (by rw [hml]; rfl) (Steps.refl _) (a := a0s) (argsL := [(.ref a1c), (.int 0), (.int 3), .null]) (rest := []) (lenOf pdv7 rfl) rfl (by show 2 * 0 + _ ≤ _; exact Nat.le_of_eq rfl) (hb hby d2_6) (fun _ _ => ⟨rfl, e0, (by decide : 0 + 1 ≤ _), (by decide : 0 + 3 ≤ _)⟩)
  dsimp only [Pt.U, Pt.locs, Pt.cells, Pt.slots] at X2 l2 y2 z2 st2 hQ2
  subst l2 y2 z2
  obtain ⟨b_2, kb_2, rfl, N2q, Kc2, P2_0, P2_1, P2_2, P2_3, P2_4, P2_5⟩ := hQ2
  have K2 : Keep h0 T2.heap [a0s] := (Keep.refl h0 [a0s]).trans Kc2 (allS (Or.inl (List.mem_of_getElem? (i := 0) rfl)) all0)
  have O2 := O0.keep Kc2 (allS g_a0s all0)
  have g_b_2 : n0 ≤ b_2 := Nat.le_trans (own_sz O0) P2_0
  have sz_b_2 : h0.size ≤ b_2 := Nat.le_trans (Keep.refl h0 [a0s]).1 P2_0
  have N2 := Fr.app N0 N2q
  obtain ⟨fs, hr, hrun, hended, hW, hsame⟩ := X2.leave (v := none) (fun _ => rfl)
  refine ⟨_, _, pre0 _ ?_, hrun, hended, _, _, rfl, ?_, ⟨_, rfl⟩, hW, hsame.mono (by decide) (by decide)⟩
  · show Steps p.tables e below (s₁.setTop (mkF m 0 #[.val (.ref a0s), .val (.ref a1c)] [])) _
    refine XS.aloadN X0.here hx rfl (hb hby d2_0) rfl rfl ?_
    refine XS.aloadN X0.here hx rfl (hb hby d2_1) rfl rfl ?_
    refine XS.iconst X0.here hx rfl (hb hby d2_2) ?_
    refine XS.aloadN X0.here hx rfl (hb hby d2_3) rfl rfl ?_
    show Steps p.tables e below (s₁.setTop (mkF m 4 #[.val (.ref a0s), .val (.ref a1c)] [(.ref a1c), (.int 0), (.ref a1c), (.ref a0s)])) _
    refine X0.arraylength hx (by rw [e0]; exact Ar1.1) (State.isArrayOf_alike hZ.alike Ar1.2.1) (g := (mkF m 4 #[.val (.ref a0s), .val (.ref a1c)] [(.ref a1c), (.int 0), (.ref a1c), (.ref a0s)])) rfl rfl (hb hby d2_4) _ ?_
    rw [len_of S1 N1_]
    show Steps p.tables e below (s₁.setTop (mkF m 5 #[.val (.ref a0s), .val (.ref a1c)] [(.int 3), (.int 0), (.ref a1c), (.ref a0s)])) _
    refine XS.aconstNull X0.here hx rfl (hb hby d2_5) ?_
    show Steps p.tables e below (s₁.setTop (mkF m 6 #[.val (.ref a0s), .val (.ref a1c)] [.null, (.int 3), (.int 0), (.ref a1c), (.ref a0s)])) _
    refine st2.trans ?_
    show Steps p.tables e below (T2.setTop (mkF m 9 #[.val (.ref a0s), .val (.ref a1c)] [])) _
    exact X2.returnOut hx Bd.returns (hb hby d2_9) hr
  · show Q_rmIc_3 n0 Z cS aRS aEM aUS aSS a0s a1c k1 c0 c1 c2 h0 _ T2.heap _
    exact ⟨b_2, kb_2, rfl, N2, K2, sz_b_2, P2_1, P2_2, P2_3, P2_4, P2_5⟩
def Q_rmIc_3u0 (n0 : Nat) (Z : State) (cS : Int32) (aRS : Addr) (aEM : Addr) (aUS : Addr) (aSS : Addr) (a0s : Addr) (a1c : Addr) (k1 : ClassId) (c0 : Int32) (c1 : Int32) (c2 : Int32) (h0 : Heap) (v : Option Value) (h : Heap) (L : List Loc) : Prop := ∃ b : Addr, ∃ kb : ClassId, v = none ∧ Fr n0 L ∧ Keep h0 h [a0s] ∧ (h0.size ≤ b) ∧ (Exa Z h b "[B") ∧ (Exa Z h a0s "java/lang/String") ∧ (Fld Z h a0s "java/lang/String" "value" "[B" (.ref b)) ∧ (Fld Z h a0s "java/lang/String" "coder" "B" (.int 1)) ∧ (Arv Z h b kb .byte (6 : Int32) [(.int (c0.toInt8.toInt32)), (.int ((c0 >>> ((8 : Int32) &&& 31)).toInt8.toInt32)), (.int (c1.toInt8.toInt32)), (.int ((c1 >>> ((8 : Int32) &&& 31)).toInt8.toInt32)), (.int (c2.toInt8.toInt32)), (.int ((c2 >>> ((8 : Int32) &&& 31)).toInt8.toInt32))] (.int 0))
set_option maxRecDepth 65536 in
set_option maxHeartbeats 40000000 in
theorem rmIc_3u0 (l : Launch) (Z : State) (a0 : Array Value) (hw : ∀ d ∈ tables_1, d.before a0 Z = true) (ws : List Jvm.Cond) (cS : Int32) (aRS : Addr) (aEM : Addr) (aUS : Addr) (aSS : Addr) (a0s : Addr) (a1c : Addr) (k1 : ClassId) (c0 : Int32) (c1 : Int32) (c2 : Int32) (h0 : Heap) (n0 : Nat) (O0 : Old Z n0 h0) (GL : GF Z cS aRS aEM aUS aSS) (E_a0s : Exa Z h0 a0s "java/lang/String") (F_value_a0s : Fld Z h0 a0s "java/lang/String" "value" "[B" .null) (F_coder_a0s : Fld Z h0 a0s "java/lang/String" "coder" "B" (.int 0)) (g_a0s : n0 ≤ a0s) (V_a1c : Arv Z h0 a1c k1 .char (3 : Int32) [(.int c0), (.int c1), (.int c2)] (.int 0)) (hcj : (255 : Int32) < c0) (hnj : nar .char c0 = c0) :
    MetFree l MN_9 (head1 (Jvm.Cond.code MN_9 jdk_42_method_3_code 2 none :: ws) ({ frames := 5, cells := 2, slots := 9, locals := 74 } : Room)) (fun a U => a = #[(.ref a0s), (.ref a1c)] ∧ Z.Warmed39 U.vm ∧ U.heap = h0) (fun _ _ _ _ _ => True) (fun _ U o U' => ∃ v L, o = .returned v ∧ Q_rmIc_3u0 n0 Z cS aRS aEM aUS aSS a0s a1c k1 c0 c1 c2 h0 v U'.heap L ∧ FrameEnd U o U' L ({ frames := 5, cells := 2, slots := 9, locals := 74 } : Room).cells ({ frames := 5, cells := 2, slots := 9, locals := 74 } : Room).slots) := by
  refine MetFree.of_bodySF (plainFor_of_name pnv1) hisR ?_
  intro p e s m args below meth c s₁ Bd hml0 hP hK
  obtain ⟨rfl, hZ, hh⟩ := hP
  have hx := Bd.exec
  have hby := Bd.bytes
  have hml : c.maxLocals = 2 := hml0
  have hown : s.vm.findClass "java/lang/String" = some m.cls := findClass_of_methodNamed Bd.named
  have hnm := (name_of_methodNamed Bd.named Bd.method).1
  have X0 : Stand p l e ({ frames := 5, cells := 2, slots := 9, locals := 74 } : Room) s m #[(.ref a0s), (.ref a1c)] below meth c s₁ [] 0 0 := Stand.of_body Bd
  have e0 : s₁.heap = h0 := by rw [← hh, Bd.state]; rfl
  have N0 := Fr.nil n0
  have pre0 : ∀ t, Steps p.tables e below (s₁.setTop (mkF m 0 #[.val (.ref a0s), .val (.ref a1c)] [])) t → Steps p.tables e below (s₁.setTop (entryFrame m #[(.ref a0s), (.ref a1c)] 2)) t := fun t k => castTop (ef_rmIc_0 m a0s a1c) k
  have GL' := GL
  obtain ⟨GCS, GCP, GSR, GSE, GEE, GFE, GSU, GSS, GA16, GHI, GLO⟩ := GL'
  obtain ⟨cl1, Ar1, -, S1, N1_, -, -⟩ := id (V_a1c)
  obtain ⟨_, _, ⟨T2, L2, k2, n2⟩, -, X2, ⟨Lc2, hQ2, l2, y2, z2⟩, st2⟩ := X0.specialBack hx (y := MN_8) rfl hown (mvT hZ (Wd hw 12 rfl)) (mvT hZ (Wd hw 13 rfl)) (mvT hZ (Wd hw 15 rfl)) (by decide) (backOf (W := 0) (rmIv_3u0 l Z a0 hw [] cS aRS aEM aUS aSS (a0s) (a1c) (k1) (c0) (c1) (c2) (h0) n0 O0 GL E_a0s F_value_a0s F_coder_a0s g_a0s V_a1c hcj hnj) hZ (Wd hw 15 rfl) (Wd hw 7 rfl) (by decide) (by decide)) (g := (mkF m 6 #[.val (.ref a0s), .val (.ref a1c)] [.null, (.int 3), (.int 0), (.ref a1c), (.ref a0s)])) rfl (by rw [hml]; rfl) (Steps.refl _) (a := a0s) (argsL := [(.ref a1c), (.int 0), (.int 3), .null]) (rest := []) (lenOf pdv7 rfl) rfl (by show 2 * 0 + _ ≤ _; exact Nat.le_of_eq rfl) (hb hby d2_6) (fun _ _ => ⟨rfl, e0, (by decide : 0 + 2 ≤ _), (by decide : 0 + 9 ≤ _)⟩)
  dsimp only [Pt.U, Pt.locs, Pt.cells, Pt.slots] at X2 l2 y2 z2 st2 hQ2
  subst l2 y2 z2
  obtain ⟨b_2, kb_2, rfl, N2q, Kc2, P2_0, P2_1, P2_2, P2_3, P2_4, P2_5⟩ := hQ2
  have K2 : Keep h0 T2.heap [a0s] := (Keep.refl h0 [a0s]).trans Kc2 (allS (Or.inl (List.mem_of_getElem? (i := 0) rfl)) all0)
  have O2 := O0.keep Kc2 (allS g_a0s all0)
  have g_b_2 : n0 ≤ b_2 := Nat.le_trans (own_sz O0) P2_0
  have sz_b_2 : h0.size ≤ b_2 := Nat.le_trans (Keep.refl h0 [a0s]).1 P2_0
  have N2 := Fr.app N0 N2q
  obtain ⟨fs, hr, hrun, hended, hW, hsame⟩ := X2.leave (v := none) (fun _ => rfl)
  refine ⟨_, _, pre0 _ ?_, hrun, hended, _, _, rfl, ?_, ⟨_, rfl⟩, hW, hsame.mono (by decide) (by decide)⟩
  · show Steps p.tables e below (s₁.setTop (mkF m 0 #[.val (.ref a0s), .val (.ref a1c)] [])) _
    refine XS.aloadN X0.here hx rfl (hb hby d2_0) rfl rfl ?_
    refine XS.aloadN X0.here hx rfl (hb hby d2_1) rfl rfl ?_
    refine XS.iconst X0.here hx rfl (hb hby d2_2) ?_
    refine XS.aloadN X0.here hx rfl (hb hby d2_3) rfl rfl ?_
    show Steps p.tables e below (s₁.setTop (mkF m 4 #[.val (.ref a0s), .val (.ref a1c)] [(.ref a1c), (.int 0), (.ref a1c), (.ref a0s)])) _
    refine X0.arraylength hx (by rw [e0]; exact Ar1.1) (State.isArrayOf_alike hZ.alike Ar1.2.1) (g := (mkF m 4 #[.val (.ref a0s), .val (.ref a1c)] [(.ref a1c), (.int 0), (.ref a1c), (.ref a0s)])) rfl rfl (hb hby d2_4) _ ?_
    rw [len_of S1 N1_]
    show Steps p.tables e below (s₁.setTop (mkF m 5 #[.val (.ref a0s), .val (.ref a1c)] [(.int 3), (.int 0), (.ref a1c), (.ref a0s)])) _
    refine XS.aconstNull X0.here hx rfl (hb hby d2_5) ?_
    show Steps p.tables e below (s₁.setTop (mkF m 6 #[.val (.ref a0s), .val (.ref a1c)] [.null, (.int 3), (.int 0), (.ref a1c), (.ref a0s)])) _
    refine st2.trans ?_
    show Steps p.tables e below (T2.setTop (mkF m 9 #[.val (.ref a0s), .val (.ref a1c)] [])) _
    exact X2.returnOut hx Bd.returns (hb hby d2_9) hr
  · show Q_rmIc_3u0 n0 Z cS aRS aEM aUS aSS a0s a1c k1 c0 c1 c2 h0 _ T2.heap _
    exact ⟨b_2, kb_2, rfl, N2, K2, sz_b_2, P2_1, P2_2, P2_3, P2_4, P2_5⟩
def Q_rmIc_3u1 (n0 : Nat) (Z : State) (cS : Int32) (aRS : Addr) (aEM : Addr) (aUS : Addr) (aSS : Addr) (a0s : Addr) (a1c : Addr) (k1 : ClassId) (c0 : Int32) (c1 : Int32) (c2 : Int32) (h0 : Heap) (v : Option Value) (h : Heap) (L : List Loc) : Prop := ∃ b : Addr, ∃ kb : ClassId, v = none ∧ Fr n0 L ∧ Keep h0 h [a0s] ∧ (h0.size ≤ b) ∧ (Exa Z h b "[B") ∧ (Exa Z h a0s "java/lang/String") ∧ (Fld Z h a0s "java/lang/String" "value" "[B" (.ref b)) ∧ (Fld Z h a0s "java/lang/String" "coder" "B" (.int 1)) ∧ (Arv Z h b kb .byte (6 : Int32) [(.int (c0.toInt8.toInt32)), (.int ((c0 >>> ((8 : Int32) &&& 31)).toInt8.toInt32)), (.int (c1.toInt8.toInt32)), (.int ((c1 >>> ((8 : Int32) &&& 31)).toInt8.toInt32)), (.int (c2.toInt8.toInt32)), (.int ((c2 >>> ((8 : Int32) &&& 31)).toInt8.toInt32))] (.int 0))
set_option maxRecDepth 65536 in
set_option maxHeartbeats 40000000 in
theorem rmIc_3u1 (l : Launch) (Z : State) (a0 : Array Value) (hw : ∀ d ∈ tables_1, d.before a0 Z = true) (ws : List Jvm.Cond) (cS : Int32) (aRS : Addr) (aEM : Addr) (aUS : Addr) (aSS : Addr) (a0s : Addr) (a1c : Addr) (k1 : ClassId) (c0 : Int32) (c1 : Int32) (c2 : Int32) (h0 : Heap) (n0 : Nat) (O0 : Old Z n0 h0) (GL : GF Z cS aRS aEM aUS aSS) (E_a0s : Exa Z h0 a0s "java/lang/String") (F_value_a0s : Fld Z h0 a0s "java/lang/String" "value" "[B" .null) (F_coder_a0s : Fld Z h0 a0s "java/lang/String" "coder" "B" (.int 0)) (g_a0s : n0 ≤ a0s) (V_a1c : Arv Z h0 a1c k1 .char (3 : Int32) [(.int c0), (.int c1), (.int c2)] (.int 0)) (hc0 : ¬ ((255 : Int32) < c0)) (hcj : (255 : Int32) < c1) (hnj : nar .char c1 = c1) :
    MetFree l MN_9 (head1 (Jvm.Cond.code MN_9 jdk_42_method_3_code 2 none :: ws) ({ frames := 5, cells := 2, slots := 9, locals := 74 } : Room)) (fun a U => a = #[(.ref a0s), (.ref a1c)] ∧ Z.Warmed39 U.vm ∧ U.heap = h0) (fun _ _ _ _ _ => True) (fun _ U o U' => ∃ v L, o = .returned v ∧ Q_rmIc_3u1 n0 Z cS aRS aEM aUS aSS a0s a1c k1 c0 c1 c2 h0 v U'.heap L ∧ FrameEnd U o U' L ({ frames := 5, cells := 2, slots := 9, locals := 74 } : Room).cells ({ frames := 5, cells := 2, slots := 9, locals := 74 } : Room).slots) := by
  refine MetFree.of_bodySF (plainFor_of_name pnv1) hisR ?_
  intro p e s m args below meth c s₁ Bd hml0 hP hK
  obtain ⟨rfl, hZ, hh⟩ := hP
  have hx := Bd.exec
  have hby := Bd.bytes
  have hml : c.maxLocals = 2 := hml0
  have hown : s.vm.findClass "java/lang/String" = some m.cls := findClass_of_methodNamed Bd.named
  have hnm := (name_of_methodNamed Bd.named Bd.method).1
  have X0 : Stand p l e ({ frames := 5, cells := 2, slots := 9, locals := 74 } : Room) s m #[(.ref a0s), (.ref a1c)] below meth c s₁ [] 0 0 := Stand.of_body Bd
  have e0 : s₁.heap = h0 := by rw [← hh, Bd.state]; rfl
  have N0 := Fr.nil n0
  have pre0 : ∀ t, Steps p.tables e below (s₁.setTop (mkF m 0 #[.val (.ref a0s), .val (.ref a1c)] [])) t → Steps p.tables e below (s₁.setTop (entryFrame m #[(.ref a0s), (.ref a1c)] 2)) t := fun t k => castTop (ef_rmIc_0 m a0s a1c) k
  have GL' := GL
  obtain ⟨GCS, GCP, GSR, GSE, GEE, GFE, GSU, GSS, GA16, GHI, GLO⟩ := GL'
  obtain ⟨cl1, Ar1, -, S1, N1_, -, -⟩ := id (V_a1c)
  obtain ⟨_, _, ⟨T2, L2, k2, n2⟩, -, X2, ⟨Lc2, hQ2, l2, y2, z2⟩, st2⟩ := X0.specialBack hx (y := MN_8) rfl hown (mvT hZ (Wd hw 12 rfl)) (mvT hZ (Wd hw 13 rfl)) (mvT hZ (Wd hw 15 rfl)) (by decide) (backOf (W := 0) (rmIv_3u1 l Z a0 hw [] cS aRS aEM aUS aSS (a0s) (a1c) (k1) (c0) (c1) (c2) (h0) n0 O0 GL E_a0s F_value_a0s F_coder_a0s g_a0s V_a1c hc0 hcj hnj) hZ (Wd hw 15 rfl) (Wd hw 7 rfl) (by decide) (by decide)) (g := (mkF m 6 #[.val (.ref a0s), .val (.ref a1c)] [.null, (.int 3), (.int 0), (.ref a1c), (.ref a0s)])) rfl (by rw [hml]; rfl) (Steps.refl _) (a := a0s) (argsL := [(.ref a1c), (.int 0), (.int 3), .null]) (rest := []) (lenOf pdv7 rfl) rfl (by show 2 * 0 + _ ≤ _; exact Nat.le_of_eq rfl) (hb hby d2_6) (fun _ _ => ⟨rfl, e0, (by decide : 0 + 2 ≤ _), (by decide : 0 + 9 ≤ _)⟩)
  dsimp only [Pt.U, Pt.locs, Pt.cells, Pt.slots] at X2 l2 y2 z2 st2 hQ2
  subst l2 y2 z2
  obtain ⟨b_2, kb_2, rfl, N2q, Kc2, P2_0, P2_1, P2_2, P2_3, P2_4, P2_5⟩ := hQ2
  have K2 : Keep h0 T2.heap [a0s] := (Keep.refl h0 [a0s]).trans Kc2 (allS (Or.inl (List.mem_of_getElem? (i := 0) rfl)) all0)
  have O2 := O0.keep Kc2 (allS g_a0s all0)
  have g_b_2 : n0 ≤ b_2 := Nat.le_trans (own_sz O0) P2_0
  have sz_b_2 : h0.size ≤ b_2 := Nat.le_trans (Keep.refl h0 [a0s]).1 P2_0
  have N2 := Fr.app N0 N2q
  obtain ⟨fs, hr, hrun, hended, hW, hsame⟩ := X2.leave (v := none) (fun _ => rfl)
  refine ⟨_, _, pre0 _ ?_, hrun, hended, _, _, rfl, ?_, ⟨_, rfl⟩, hW, hsame.mono (by decide) (by decide)⟩
  · show Steps p.tables e below (s₁.setTop (mkF m 0 #[.val (.ref a0s), .val (.ref a1c)] [])) _
    refine XS.aloadN X0.here hx rfl (hb hby d2_0) rfl rfl ?_
    refine XS.aloadN X0.here hx rfl (hb hby d2_1) rfl rfl ?_
    refine XS.iconst X0.here hx rfl (hb hby d2_2) ?_
    refine XS.aloadN X0.here hx rfl (hb hby d2_3) rfl rfl ?_
    show Steps p.tables e below (s₁.setTop (mkF m 4 #[.val (.ref a0s), .val (.ref a1c)] [(.ref a1c), (.int 0), (.ref a1c), (.ref a0s)])) _
    refine X0.arraylength hx (by rw [e0]; exact Ar1.1) (State.isArrayOf_alike hZ.alike Ar1.2.1) (g := (mkF m 4 #[.val (.ref a0s), .val (.ref a1c)] [(.ref a1c), (.int 0), (.ref a1c), (.ref a0s)])) rfl rfl (hb hby d2_4) _ ?_
    rw [len_of S1 N1_]
    show Steps p.tables e below (s₁.setTop (mkF m 5 #[.val (.ref a0s), .val (.ref a1c)] [(.int 3), (.int 0), (.ref a1c), (.ref a0s)])) _
    refine XS.aconstNull X0.here hx rfl (hb hby d2_5) ?_
    show Steps p.tables e below (s₁.setTop (mkF m 6 #[.val (.ref a0s), .val (.ref a1c)] [.null, (.int 3), (.int 0), (.ref a1c), (.ref a0s)])) _
    refine st2.trans ?_
    show Steps p.tables e below (T2.setTop (mkF m 9 #[.val (.ref a0s), .val (.ref a1c)] [])) _
    exact X2.returnOut hx Bd.returns (hb hby d2_9) hr
  · show Q_rmIc_3u1 n0 Z cS aRS aEM aUS aSS a0s a1c k1 c0 c1 c2 h0 _ T2.heap _
    exact ⟨b_2, kb_2, rfl, N2, K2, sz_b_2, P2_1, P2_2, P2_3, P2_4, P2_5⟩
def Q_rmIc_3u2 (n0 : Nat) (Z : State) (cS : Int32) (aRS : Addr) (aEM : Addr) (aUS : Addr) (aSS : Addr) (a0s : Addr) (a1c : Addr) (k1 : ClassId) (c0 : Int32) (c1 : Int32) (c2 : Int32) (h0 : Heap) (v : Option Value) (h : Heap) (L : List Loc) : Prop := ∃ b : Addr, ∃ kb : ClassId, v = none ∧ Fr n0 L ∧ Keep h0 h [a0s] ∧ (h0.size ≤ b) ∧ (Exa Z h b "[B") ∧ (Exa Z h a0s "java/lang/String") ∧ (Fld Z h a0s "java/lang/String" "value" "[B" (.ref b)) ∧ (Fld Z h a0s "java/lang/String" "coder" "B" (.int 1)) ∧ (Arv Z h b kb .byte (6 : Int32) [(.int (c0.toInt8.toInt32)), (.int ((c0 >>> ((8 : Int32) &&& 31)).toInt8.toInt32)), (.int (c1.toInt8.toInt32)), (.int ((c1 >>> ((8 : Int32) &&& 31)).toInt8.toInt32)), (.int (c2.toInt8.toInt32)), (.int ((c2 >>> ((8 : Int32) &&& 31)).toInt8.toInt32))] (.int 0))
set_option maxRecDepth 65536 in
set_option maxHeartbeats 40000000 in
theorem rmIc_3u2 (l : Launch) (Z : State) (a0 : Array Value) (hw : ∀ d ∈ tables_1, d.before a0 Z = true) (ws : List Jvm.Cond) (cS : Int32) (aRS : Addr) (aEM : Addr) (aUS : Addr) (aSS : Addr) (a0s : Addr) (a1c : Addr) (k1 : ClassId) (c0 : Int32) (c1 : Int32) (c2 : Int32) (h0 : Heap) (n0 : Nat) (O0 : Old Z n0 h0) (GL : GF Z cS aRS aEM aUS aSS) (E_a0s : Exa Z h0 a0s "java/lang/String") (F_value_a0s : Fld Z h0 a0s "java/lang/String" "value" "[B" .null) (F_coder_a0s : Fld Z h0 a0s "java/lang/String" "coder" "B" (.int 0)) (g_a0s : n0 ≤ a0s) (V_a1c : Arv Z h0 a1c k1 .char (3 : Int32) [(.int c0), (.int c1), (.int c2)] (.int 0)) (hc0 : ¬ ((255 : Int32) < c0)) (hc1 : ¬ ((255 : Int32) < c1)) (hcj : (255 : Int32) < c2) (hnj : nar .char c2 = c2) :
    MetFree l MN_9 (head1 (Jvm.Cond.code MN_9 jdk_42_method_3_code 2 none :: ws) ({ frames := 5, cells := 2, slots := 9, locals := 74 } : Room)) (fun a U => a = #[(.ref a0s), (.ref a1c)] ∧ Z.Warmed39 U.vm ∧ U.heap = h0) (fun _ _ _ _ _ => True) (fun _ U o U' => ∃ v L, o = .returned v ∧ Q_rmIc_3u2 n0 Z cS aRS aEM aUS aSS a0s a1c k1 c0 c1 c2 h0 v U'.heap L ∧ FrameEnd U o U' L ({ frames := 5, cells := 2, slots := 9, locals := 74 } : Room).cells ({ frames := 5, cells := 2, slots := 9, locals := 74 } : Room).slots) := by
  refine MetFree.of_bodySF (plainFor_of_name pnv1) hisR ?_
  intro p e s m args below meth c s₁ Bd hml0 hP hK
  obtain ⟨rfl, hZ, hh⟩ := hP
  have hx := Bd.exec
  have hby := Bd.bytes
  have hml : c.maxLocals = 2 := hml0
  have hown : s.vm.findClass "java/lang/String" = some m.cls := findClass_of_methodNamed Bd.named
  have hnm := (name_of_methodNamed Bd.named Bd.method).1
  have X0 : Stand p l e ({ frames := 5, cells := 2, slots := 9, locals := 74 } : Room) s m #[(.ref a0s), (.ref a1c)] below meth c s₁ [] 0 0 := Stand.of_body Bd
  have e0 : s₁.heap = h0 := by rw [← hh, Bd.state]; rfl
  have N0 := Fr.nil n0
  have pre0 : ∀ t, Steps p.tables e below (s₁.setTop (mkF m 0 #[.val (.ref a0s), .val (.ref a1c)] [])) t → Steps p.tables e below (s₁.setTop (entryFrame m #[(.ref a0s), (.ref a1c)] 2)) t := fun t k => castTop (ef_rmIc_0 m a0s a1c) k
  have GL' := GL
  obtain ⟨GCS, GCP, GSR, GSE, GEE, GFE, GSU, GSS, GA16, GHI, GLO⟩ := GL'
  obtain ⟨cl1, Ar1, -, S1, N1_, -, -⟩ := id (V_a1c)
  obtain ⟨_, _, ⟨T2, L2, k2, n2⟩, -, X2, ⟨Lc2, hQ2, l2, y2, z2⟩, st2⟩ := X0.specialBack hx (y := MN_8) rfl hown (mvT hZ (Wd hw 12 rfl)) (mvT hZ (Wd hw 13 rfl)) (mvT hZ (Wd hw 15 rfl)) (by decide) (backOf (W := 0) (rmIv_3u2 l Z a0 hw [] cS aRS aEM aUS aSS (a0s) (a1c) (k1) (c0) (c1) (c2) (h0) n0 O0 GL E_a0s F_value_a0s F_coder_a0s g_a0s V_a1c hc0 hc1 hcj hnj) hZ (Wd hw 15 rfl) (Wd hw 7 rfl) (by decide) (by decide)) (g := (mkF m 6 #[.val (.ref a0s), .val (.ref a1c)] [.null, (.int 3), (.int 0), (.ref a1c), (.ref a0s)])) rfl (by rw [hml]; rfl) (Steps.refl _) (a := a0s) (argsL := [(.ref a1c), (.int 0), (.int 3), .null]) (rest := []) (lenOf pdv7 rfl) rfl (by show 2 * 0 + _ ≤ _; exact Nat.le_of_eq rfl) (hb hby d2_6) (fun _ _ => ⟨rfl, e0, (by decide : 0 + 2 ≤ _), (by decide : 0 + 9 ≤ _)⟩)
  dsimp only [Pt.U, Pt.locs, Pt.cells, Pt.slots] at X2 l2 y2 z2 st2 hQ2
  subst l2 y2 z2
  obtain ⟨b_2, kb_2, rfl, N2q, Kc2, P2_0, P2_1, P2_2, P2_3, P2_4, P2_5⟩ := hQ2
  have K2 : Keep h0 T2.heap [a0s] := (Keep.refl h0 [a0s]).trans Kc2 (allS (Or.inl (List.mem_of_getElem? (i := 0) rfl)) all0)
  have O2 := O0.keep Kc2 (allS g_a0s all0)
  have g_b_2 : n0 ≤ b_2 := Nat.le_trans (own_sz O0) P2_0
  have sz_b_2 : h0.size ≤ b_2 := Nat.le_trans (Keep.refl h0 [a0s]).1 P2_0
  have N2 := Fr.app N0 N2q
  obtain ⟨fs, hr, hrun, hended, hW, hsame⟩ := X2.leave (v := none) (fun _ => rfl)
  refine ⟨_, _, pre0 _ ?_, hrun, hended, _, _, rfl, ?_, ⟨_, rfl⟩, hW, hsame.mono (by decide) (by decide)⟩
  · show Steps p.tables e below (s₁.setTop (mkF m 0 #[.val (.ref a0s), .val (.ref a1c)] [])) _
    refine XS.aloadN X0.here hx rfl (hb hby d2_0) rfl rfl ?_
    refine XS.aloadN X0.here hx rfl (hb hby d2_1) rfl rfl ?_
    refine XS.iconst X0.here hx rfl (hb hby d2_2) ?_
    refine XS.aloadN X0.here hx rfl (hb hby d2_3) rfl rfl ?_
    show Steps p.tables e below (s₁.setTop (mkF m 4 #[.val (.ref a0s), .val (.ref a1c)] [(.ref a1c), (.int 0), (.ref a1c), (.ref a0s)])) _
    refine X0.arraylength hx (by rw [e0]; exact Ar1.1) (State.isArrayOf_alike hZ.alike Ar1.2.1) (g := (mkF m 4 #[.val (.ref a0s), .val (.ref a1c)] [(.ref a1c), (.int 0), (.ref a1c), (.ref a0s)])) rfl rfl (hb hby d2_4) _ ?_
    rw [len_of S1 N1_]
    show Steps p.tables e below (s₁.setTop (mkF m 5 #[.val (.ref a0s), .val (.ref a1c)] [(.int 3), (.int 0), (.ref a1c), (.ref a0s)])) _
    refine XS.aconstNull X0.here hx rfl (hb hby d2_5) ?_
    show Steps p.tables e below (s₁.setTop (mkF m 6 #[.val (.ref a0s), .val (.ref a1c)] [.null, (.int 3), (.int 0), (.ref a1c), (.ref a0s)])) _
    refine st2.trans ?_
    show Steps p.tables e below (T2.setTop (mkF m 9 #[.val (.ref a0s), .val (.ref a1c)] [])) _
    exact X2.returnOut hx Bd.returns (hb hby d2_9) hr
  · show Q_rmIc_3u2 n0 Z cS aRS aEM aUS aSS a0s a1c k1 c0 c1 c2 h0 _ T2.heap _
    exact ⟨b_2, kb_2, rfl, N2, K2, sz_b_2, P2_1, P2_2, P2_3, P2_4, P2_5⟩
theorem d10_0 : decode jdk_2649_method_2_code 0 = .ok (.getstatic 17, 3) := by decide +kernel
theorem d10_3 : decode jdk_2649_method_2_code 3 = .ok (.areturn, 1) := by decide +kernel
theorem pnv2 : plainName "java/util/OptionalInt" = true := by first | (simp [plainName, overriddenIn]; done) | decide +kernel
abbrev MN_10 : MethodName := ⟨"java/util/OptionalInt", "empty", "()Ljava/util/OptionalInt;"⟩
theorem ef_rmEm (m : MethodId)  : entryFrame m #[] 0 = mkF m 0 #[] [] := by first | (simp [entryFrame, mkF, argsToLocals, Value.category]; done) | rfl
def Q_rmEm (n0 : Nat) (Z : State) (cS : Int32) (aRS : Addr) (aEM : Addr) (aUS : Addr) (aSS : Addr) (h0 : Heap) (v : Option Value) (h : Heap) (L : List Loc) : Prop := v = some (.ref aEM) ∧ Fr n0 L ∧ h = h0
set_option maxRecDepth 65536 in
set_option maxHeartbeats 40000000 in
theorem rmEm (l : Launch) (Z : State) (a0 : Array Value) (hw : ∀ d ∈ tables_1, d.before a0 Z = true) (ws : List Jvm.Cond) (cS : Int32) (aRS : Addr) (aEM : Addr) (aUS : Addr) (aSS : Addr) (h0 : Heap) (n0 : Nat) (O0 : Old Z n0 h0) (GL : GF Z cS aRS aEM aUS aSS) :
    MetFree l MN_10 (head1 (Jvm.Cond.code MN_10 jdk_2649_method_2_code 0 (some (.object "java/util/OptionalInt")) :: ws) ({ frames := 0, cells := 0, slots := 0, locals := 0 } : Room)) (fun a U => a = #[] ∧ Z.Warmed39 U.vm ∧ U.heap = h0) (fun _ _ _ _ _ => True) (fun _ U o U' => ∃ v L, o = .returned v ∧ Q_rmEm n0 Z cS aRS aEM aUS aSS h0 v U'.heap L ∧ FrameEnd U o U' L ({ frames := 0, cells := 0, slots := 0, locals := 0 } : Room).cells ({ frames := 0, cells := 0, slots := 0, locals := 0 } : Room).slots) := by
  refine MetFree.of_bodySF (plainFor_of_name pnv2) hisR ?_
  intro p e s m args below meth c s₁ Bd hml0 hP hK
  obtain ⟨rfl, hZ, hh⟩ := hP
  have hx := Bd.exec
  have hby := Bd.bytes
  have hml : c.maxLocals = 0 := hml0
  have hown : s.vm.findClass "java/util/OptionalInt" = some m.cls := findClass_of_methodNamed Bd.named
  have hnm := (name_of_methodNamed Bd.named Bd.method).1
  have X0 : Stand p l e ({ frames := 0, cells := 0, slots := 0, locals := 0 } : Room) s m #[] below meth c s₁ [] 0 0 := Stand.of_body Bd
  have e0 : s₁.heap = h0 := by rw [← hh, Bd.state]; rfl
  have N0 := Fr.nil n0
  have pre0 : ∀ t, Steps p.tables e below (s₁.setTop (mkF m 0 #[] [])) t → Steps p.tables e below (s₁.setTop (entryFrame m #[] 0)) t := fun t k => castTop (ef_rmEm m ) k
  have GL' := GL
  obtain ⟨GCS, GCP, GSR, GSE, GEE, GFE, GSU, GSS, GA16, GHI, GLO⟩ := GL'
  obtain ⟨T1, X1, e1, st1⟩ := getS2 X0 hx hZ hown (host := "") (Or.inl (Wd hw 51 rfl)) Via.refl e0 (GSE.ext O0.2) (g := (mkF m 0 #[] [])) rfl (hb hby d10_0)
  obtain ⟨fs, hr, hrun, hended, hW, hsame⟩ := X1.leave (v := some (.ref aEM)) (fun h => by rw [Bd.returns] at h; cases h)
  refine ⟨_, _, pre0 _ ?_, hrun, hended, _, _, rfl, ?_, ⟨_, rfl⟩, hW, hsame.mono (by decide) (by decide)⟩
  · show Steps p.tables e below (s₁.setTop (mkF m 0 #[] [])) _
    refine st1 _ ?_
    show Steps p.tables e below (T1.setTop (mkF m 3 #[] [(.ref aEM)])) _
    jvm_step X1.here [X1.here.top, hx, (hb hby d10_3), X1.method', Bd.returns, Value.isRef, FieldType.isReference]
    first | (intro acts; rw [hr _ acts rfl rfl rfl]) | rw [hr _ _ rfl rfl rfl]
    exact Steps.refl _
  · show Q_rmEm n0 Z cS aRS aEM aUS aSS h0 _ T1.heap _
    rw [e1]
    exact ⟨rfl, N0, rfl⟩
theorem d14_0 : decode jdk_78_method_5_code 0 = .ok (.aload_n 0, 1) := by decide +kernel
theorem d14_1 : decode jdk_78_method_5_code 1 = .ok (.invokespecial 1, 3) := by decide +kernel
theorem d14_4 : decode jdk_78_method_5_code 4 = .ok (.aload_n 0, 1) := by decide +kernel
theorem d14_5 : decode jdk_78_method_5_code 5 = .ok (.aload_n 0, 1) := by decide +kernel
theorem d14_6 : decode jdk_78_method_5_code 6 = .ok (.putfield 7, 3) := by decide +kernel
theorem d14_9 : decode jdk_78_method_5_code 9 = .ok (.aload_n 0, 1) := by decide +kernel
theorem d14_10 : decode jdk_78_method_5_code 10 = .ok (.getstatic 13, 3) := by decide +kernel
theorem d14_13 : decode jdk_78_method_5_code 13 = .ok (.putfield 17, 3) := by decide +kernel
theorem d14_16 : decode jdk_78_method_5_code 16 = .ok (.aload_n 0, 1) := by decide +kernel
theorem d14_17 : decode jdk_78_method_5_code 17 = .ok (.getstatic 20, 3) := by decide +kernel
theorem d14_20 : decode jdk_78_method_5_code 20 = .ok (.putfield 24, 3) := by decide +kernel
theorem d14_23 : decode jdk_78_method_5_code 23 = .ok (.iload 4, 2) := by decide +kernel
theorem d14_25 : decode jdk_78_method_5_code 25 = .ok (.ifCond .eq 11, 3) := by decide +kernel
theorem d14_36 : decode jdk_78_method_5_code 36 = .ok (.aload_n 0, 1) := by decide +kernel
theorem d14_37 : decode jdk_78_method_5_code 37 = .ok (.aconst_null, 1) := by decide +kernel
theorem d14_38 : decode jdk_78_method_5_code 38 = .ok (.putfield 17, 3) := by decide +kernel
theorem d14_41 : decode jdk_78_method_5_code 41 = .ok (.aload_n 0, 1) := by decide +kernel
theorem d14_42 : decode jdk_78_method_5_code 42 = .ok (.aload_n 1, 1) := by decide +kernel
theorem d14_43 : decode jdk_78_method_5_code 43 = .ok (.putfield 31, 3) := by decide +kernel
theorem d14_46 : decode jdk_78_method_5_code 46 = .ok (.aload_n 0, 1) := by decide +kernel
theorem d14_47 : decode jdk_78_method_5_code 47 = .ok (.aload_n 2, 1) := by decide +kernel
theorem d14_48 : decode jdk_78_method_5_code 48 = .ok (.putfield 7, 3) := by decide +kernel
theorem d14_51 : decode jdk_78_method_5_code 51 = .ok (.iload_n 3, 1) := by decide +kernel
theorem d14_52 : decode jdk_78_method_5_code 52 = .ok (.ifCond .ne 8, 3) := by decide +kernel
theorem d14_55 : decode jdk_78_method_5_code 55 = .ok (.aload_n 0, 1) := by decide +kernel
theorem d14_56 : decode jdk_78_method_5_code 56 = .ok (.aconst_null, 1) := by decide +kernel
theorem d14_57 : decode jdk_78_method_5_code 57 = .ok (.putfield 24, 3) := by decide +kernel
theorem d14_60 : decode jdk_78_method_5_code 60 = .ok (.return_, 1) := by decide +kernel
theorem pnv3 : plainName "java/lang/Throwable" = true := by first | (simp [plainName, overriddenIn]; done) | decide +kernel
abbrev MN_11 : MethodName := ⟨"java/lang/Throwable", "<init>", "(Ljava/lang/String;Ljava/lang/Throwable;ZZ)V"⟩
theorem ef_rmTh (m : MethodId) (a0r : Addr) (am : Addr) : entryFrame m #[(.ref a0r), (.ref am), .null, (.int 0), (.int 0)] 5 = mkF m 0 #[.val (.ref a0r), .val (.ref am), .val .null, .val (.int 0), .val (.int 0)] [] := by first | (simp [entryFrame, mkF, argsToLocals, Value.category]; done) | rfl
def Q_rmTh (n0 : Nat) (Z : State) (cS : Int32) (aRS : Addr) (aEM : Addr) (aUS : Addr) (aSS : Addr) (a0r : Addr) (am : Addr) (h0 : Heap) (v : Option Value) (h : Heap) (L : List Loc) : Prop := v = none ∧ Fr n0 L ∧ Keep h0 h [a0r] ∧ (Exa Z h a0r "com/example/metaloom/metaloom/store/Rejection") ∧ (Fld Z h a0r "java/lang/Throwable" "detailMessage" "Ljava/lang/String;" (.ref am)) ∧ (Fld Z h a0r "com/example/metaloom/metaloom/store/Rejection" "reason" "Lcom/example/metaloom/metaloom/store/Rejection$Reason;" .null) ∧ (Fld Z h a0r "com/example/metaloom/metaloom/store/Rejection" "position" "Ljava/util/OptionalInt;" .null)
set_option maxRecDepth 65536 in
set_option maxHeartbeats 40000000 in
theorem rmTh (l : Launch) (Z : State) (a0 : Array Value) (hw : ∀ d ∈ tables_1, d.before a0 Z = true) (ws : List Jvm.Cond) (cS : Int32) (aRS : Addr) (aEM : Addr) (aUS : Addr) (aSS : Addr) (a0r : Addr) (am : Addr) (h0 : Heap) (n0 : Nat) (O0 : Old Z n0 h0) (GL : GF Z cS aRS aEM aUS aSS) (E_a0r : Exa Z h0 a0r "com/example/metaloom/metaloom/store/Rejection") (F_cause_a0r : Fld Z h0 a0r "java/lang/Throwable" "cause" "Ljava/lang/Throwable;" .null) (F_stackTrace_a0r : Fld Z h0 a0r "java/lang/Throwable" "stackTrace" "[Ljava/lang/StackTraceElement;" .null) (F_suppressedExceptions_a0r : Fld Z h0 a0r "java/lang/Throwable" "suppressedExceptions" "Ljava/util/List;" .null) (F_detailMessage_a0r : Fld Z h0 a0r "java/lang/Throwable" "detailMessage" "Ljava/lang/String;" .null) (F_reason_a0r : Fld Z h0 a0r "com/example/metaloom/metaloom/store/Rejection" "reason" "Lcom/example/metaloom/metaloom/store/Rejection$Reason;" .null) (F_position_a0r : Fld Z h0 a0r "com/example/metaloom/metaloom/store/Rejection" "position" "Ljava/util/OptionalInt;" .null) (g_a0r : n0 ≤ a0r) :
    MetFree l MN_11 (head1 (Jvm.Cond.code MN_11 jdk_78_method_5_code 5 none :: ws) ({ frames := 1, cells := 0, slots := 0, locals := 12 } : Room)) (fun a U => a = #[(.ref a0r), (.ref am), .null, (.int 0), (.int 0)] ∧ Z.Warmed39 U.vm ∧ U.heap = h0) (fun _ _ _ _ _ => True) (fun _ U o U' => ∃ v L, o = .returned v ∧ Q_rmTh n0 Z cS aRS aEM aUS aSS a0r am h0 v U'.heap L ∧ FrameEnd U o U' L ({ frames := 1, cells := 0, slots := 0, locals := 12 } : Room).cells ({ frames := 1, cells := 0, slots := 0, locals := 12 } : Room).slots) := by
  refine MetFree.of_bodySF (plainFor_of_name pnv3) hisR ?_
  intro p e s m args below meth c s₁ Bd hml0 hP hK
  obtain ⟨rfl, hZ, hh⟩ := hP
  have hx := Bd.exec
  have hby := Bd.bytes
  have hml : c.maxLocals = 5 := hml0
  have hown : s.vm.findClass "java/lang/Throwable" = some m.cls := findClass_of_methodNamed Bd.named
  have hnm := (name_of_methodNamed Bd.named Bd.method).1
  have X0 : Stand p l e ({ frames := 1, cells := 0, slots := 0, locals := 12 } : Room) s m #[(.ref a0r), (.ref am), .null, (.int 0), (.int 0)] below meth c s₁ [] 0 0 := Stand.of_body Bd
  have e0 : s₁.heap = h0 := by rw [← hh, Bd.state]; rfl
  have N0 := Fr.nil n0
  have pre0 : ∀ t, Steps p.tables e below (s₁.setTop (mkF m 0 #[.val (.ref a0r), .val (.ref am), .val .null, .val (.int 0), .val (.int 0)] [])) t → Steps p.tables e below (s₁.setTop (entryFrame m #[(.ref a0r), (.ref am), .null, (.int 0), (.int 0)] 5)) t := fun t k => castTop (ef_rmTh m a0r am) k
  have GL' := GL
  obtain ⟨GCS, GCP, GSR, GSE, GEE, GFE, GSU, GSS, GA16, GHI, GLO⟩ := GL'
  obtain ⟨T1, X1, e1, st1⟩ := initO X0 hx hZ hown (Wd hw 72 rfl) (Wd hw 17 rfl) (Wd hw 18 rfl) e0 (g := (mkF m 1 #[.val (.ref a0r), .val (.ref am), .val .null, .val (.int 0), .val (.int 0)] [(.ref a0r)])) rfl (by rw [hml]; rfl) rfl (hb hby d14_1) (by decide) (W := 0) (by show 2 * 0 + _ ≤ _; exact Nat.le_of_eq rfl) (by decide)
  obtain ⟨T2, h2, X2, e2, W2, st2⟩ := putF X1 hx hZ hown (host := "") (Or.inl (Wd hw 73 rfl)) Via.refl e1 F_cause_a0r E_a0r (Or.inl (Wd hw 74 rfl)) (Wd hw 40 rfl) (ty := (.object "java/lang/Throwable")) (by decide) rfl rfl (g := (mkF m 6 #[.val (.ref a0r), .val (.ref am), .val .null, .val (.int 0), .val (.int 0)] [(.ref a0r), (.ref a0r)])) rfl rfl (hb hby d14_6)
  have Fw2 := F_cause_a0r.same W2
  have K2 : Keep h0 h2 [a0r] := (Keep.refl h0 [a0r]).wr W2 (Or.inl (List.mem_of_getElem? (i := 0) rfl))
  have O2 := O0.wr W2 g_a0r
  have N2 := Fr.snoc X2 N0 g_a0r
  obtain ⟨T3, X3, e3, st3⟩ := getS2 X2 hx hZ hown (host := "") (Or.inl (Wd hw 75 rfl)) Via.refl e2 (GSU.ext O2.2) (g := (mkF m 10 #[.val (.ref a0r), .val (.ref am), .val .null, .val (.int 0), .val (.int 0)] [(.ref a0r)])) rfl (hb hby d14_10)
  obtain ⟨T4, h4, X4, e4, W4, st4⟩ := putF X3 hx hZ hown (host := "") (Or.inl (Wd hw 76 rfl)) Via.refl e3 (F_stackTrace_a0r.other W2 (Or.inr (slot_ne (a0 := a0) (Or.inl (Wd hw 77 rfl)) (Or.inl (Wd hw 74 rfl)) (by decide) (t := (.array (.object "java/lang/StackTraceElement"))) (t' := (.object "java/lang/Throwable")) (by decide) (by decide)))) (E_a0r.wr W2) (Or.inl (Wd hw 77 rfl)) (Wd hw 40 rfl) (ty := (.array (.object "java/lang/StackTraceElement"))) (by decide) rfl rfl (g := (mkF m 13 #[.val (.ref a0r), .val (.ref am), .val .null, .val (.int 0), .val (.int 0)] [(.ref aUS), (.ref a0r)])) rfl rfl (hb hby d14_13)
  have Fw4 := (F_stackTrace_a0r.other W2 (Or.inr (slot_ne (a0 := a0) (Or.inl (Wd hw 77 rfl)) (Or.inl (Wd hw 74 rfl)) (by decide) (t := (.array (.object "java/lang/StackTraceElement"))) (t' := (.object "java/lang/Throwable")) (by decide) (by decide)))).same W4
  have K4 : Keep h0 h4 [a0r] := K2.wr W4 (Or.inl (List.mem_of_getElem? (i := 0) rfl))
  have O4 := O2.wr W4 g_a0r
  have N4 := Fr.snoc X4 N2 g_a0r
  obtain ⟨T5, X5, e5, st5⟩ := getS2 X4 hx hZ hown (host := "") (Or.inl (Wd hw 78 rfl)) Via.refl e4 (GSS.ext O4.2) (g := (mkF m 17 #[.val (.ref a0r), .val (.ref am), .val .null, .val (.int 0), .val (.int 0)] [(.ref a0r)])) rfl (hb hby d14_17)
  obtain ⟨T6, h6, X6, e6, W6, st6⟩ := putF X5 hx hZ hown (host := "") (Or.inl (Wd hw 79 rfl)) Via.refl e5 ((F_suppressedExceptions_a0r.other W2 (Or.inr (slot_ne (a0 := a0) (Or.inl (Wd hw 80 rfl)) (Or.inl (Wd hw 74 rfl)) (by decide) (t := (.object "java/util/List")) (t' := (.object "java/lang/Throwable")) (by decide) (by decide)))).other W4 (Or.inr (slot_ne (a0 := a0) (Or.inl (Wd hw 80 rfl)) (Or.inl (Wd hw 77 rfl)) (by decide) (t := (.object "java/util/List")) (t' := (.array (.object "java/lang/StackTraceElement"))) (by decide) (by decide)))) ((E_a0r.wr W2).wr W4) (Or.inl (Wd hw 80 rfl)) (Wd hw 40 rfl) (ty := (.object "java/util/List")) (by decide) rfl rfl (g := (mkF m 20 #[.val (.ref a0r), .val (.ref am), .val .null, .val (.int 0), .val (.int 0)] [(.ref aSS), (.ref a0r)])) rfl rfl (hb hby d14_20)
  have Fw6 := ((F_suppressedExceptions_a0r.other W2 (Or.inr (slot_ne (a0 := a0) (Or.inl (Wd hw 80 rfl)) (Or.inl (Wd hw 74 rfl)) (by decide) (t := (.object "java/util/List")) (t' := (.object "java/lang/Throwable")) (by decide) (by decide)))).other W4 (Or.inr (slot_ne (a0 := a0) (Or.inl (Wd hw 80 rfl)) (Or.inl (Wd hw 77 rfl)) (by decide) (t := (.object "java/util/List")) (t' := (.array (.object "java/lang/StackTraceElement"))) (by decide) (by decide)))).same W6
  have K6 : Keep h0 h6 [a0r] := K4.wr W6 (Or.inl (List.mem_of_getElem? (i := 0) rfl))
  have O6 := O4.wr W6 g_a0r
  have N6 := Fr.snoc X6 N4 g_a0r
  obtain ⟨T7, h7, X7, e7, W7, st7⟩ := putF X6 hx hZ hown (host := "") (Or.inl (Wd hw 76 rfl)) Via.refl e6 (Fw4.other W6 (Or.inr (slot_ne (a0 := a0) (Or.inl (Wd hw 77 rfl)) (Or.inl (Wd hw 80 rfl)) (by decide) (t := (.array (.object "java/lang/StackTraceElement"))) (t' := (.object "java/util/List")) (by decide) (by decide)))) (((E_a0r.wr W2).wr W4).wr W6) (Or.inl (Wd hw 77 rfl)) (Wd hw 40 rfl) (ty := (.array (.object "java/lang/StackTraceElement"))) (by decide) rfl rfl (g := (mkF m 38 #[.val (.ref a0r), .val (.ref am), .val .null, .val (.int 0), .val (.int 0)] [.null, (.ref a0r)])) rfl rfl (hb hby d14_38)
  have Fw7 := (Fw4.other W6 (Or.inr (slot_ne (a0 := a0) (Or.inl (Wd hw 77 rfl)) (Or.inl (Wd hw 80 rfl)) (by decide) (t := (.array (.object "java/lang/StackTraceElement"))) (t' := (.object "java/util/List")) (by decide) (by decide)))).same W7
  have K7 : Keep h0 h7 [a0r] := K6.wr W7 (Or.inl (List.mem_of_getElem? (i := 0) rfl))
  have O7 := O6.wr W7 g_a0r
  have N7 := Fr.snoc X7 N6 g_a0r
  obtain ⟨T8, h8, X8, e8, W8, st8⟩ := putF X7 hx hZ hown (host := "") (Or.inl (Wd hw 81 rfl)) Via.refl e7 ((((F_detailMessage_a0r.other W2 (Or.inr (slot_ne (a0 := a0) (Or.inl (Wd hw 82 rfl)) (Or.inl (Wd hw 74 rfl)) (by decide) (t := (.object "java/lang/String")) (t' := (.object "java/lang/Throwable")) (by decide) (by decide)))).other W4 (Or.inr (slot_ne (a0 := a0) (Or.inl (Wd hw 82 rfl)) (Or.inl (Wd hw 77 rfl)) (by decide) (t := (.object "java/lang/String")) (t' := (.array (.object "java/lang/StackTraceElement"))) (by decide) (by decide)))).other W6 (Or.inr (slot_ne (a0 := a0) (Or.inl (Wd hw 82 rfl)) (Or.inl (Wd hw 80 rfl)) (by decide) (t := (.object "java/lang/String")) (t' := (.object "java/util/List")) (by decide) (by decide)))).other W7 (Or.inr (slot_ne (a0 := a0) (Or.inl (Wd hw 82 rfl)) (Or.inl (Wd hw 77 rfl)) (by decide) (t := (.object "java/lang/String")) (t' := (.array (.object "java/lang/StackTraceElement"))) (by decide) (by decide)))) ((((E_a0r.wr W2).wr W4).wr W6).wr W7) (Or.inl (Wd hw 82 rfl)) (Wd hw 40 rfl) (ty := (.object "java/lang/String")) (by decide) rfl rfl (g := (mkF m 43 #[.val (.ref a0r), .val (.ref am), .val .null, .val (.int 0), .val (.int 0)] [(.ref am), (.ref a0r)])) rfl rfl (hb hby d14_43)
  have Fw8 := ((((F_detailMessage_a0r.other W2 (Or.inr (slot_ne (a0 := a0) (Or.inl (Wd hw 82 rfl)) (Or.inl (Wd hw 74 rfl)) (by decide) (t := (.object "java/lang/String")) (t' := (.object "java/lang/Throwable")) (by decide) (by decide)))).other W4 (Or.inr (slot_ne (a0 := a0) (Or.inl (Wd hw 82 rfl)) (Or.inl (Wd hw 77 rfl)) (by decide) (t := (.object "java/lang/String")) (t' := (.array (.object "java/lang/StackTraceElement"))) (by decide) (by decide)))).other W6 (Or.inr (slot_ne (a0 := a0) (Or.inl (Wd hw 82 rfl)) (Or.inl (Wd hw 80 rfl)) (by decide) (t := (.object "java/lang/String")) (t' := (.object "java/util/List")) (by decide) (by decide)))).other W7 (Or.inr (slot_ne (a0 := a0) (Or.inl (Wd hw 82 rfl)) (Or.inl (Wd hw 77 rfl)) (by decide) (t := (.object "java/lang/String")) (t' := (.array (.object "java/lang/StackTraceElement"))) (by decide) (by decide)))).same W8
  have K8 : Keep h0 h8 [a0r] := K7.wr W8 (Or.inl (List.mem_of_getElem? (i := 0) rfl))
  have O8 := O7.wr W8 g_a0r
  have N8 := Fr.snoc X8 N7 g_a0r
  obtain ⟨T9, h9, X9, e9, W9, st9⟩ := putF X8 hx hZ hown (host := "") (Or.inl (Wd hw 73 rfl)) Via.refl e8 ((((Fw2.other W4 (Or.inr (slot_ne (a0 := a0) (Or.inl (Wd hw 74 rfl)) (Or.inl (Wd hw 77 rfl)) (by decide) (t := (.object "java/lang/Throwable")) (t' := (.array (.object "java/lang/StackTraceElement"))) (by decide) (by decide)))).other W6 (Or.inr (slot_ne (a0 := a0) (Or.inl (Wd hw 74 rfl)) (Or.inl (Wd hw 80 rfl)) (by decide) (t := (.object "java/lang/Throwable")) (t' := (.object "java/util/List")) (by decide) (by decide)))).other W7 (Or.inr (slot_ne (a0 := a0) (Or.inl (Wd hw 74 rfl)) (Or.inl (Wd hw 77 rfl)) (by decide) (t := (.object "java/lang/Throwable")) (t' := (.array (.object "java/lang/StackTraceElement"))) (by decide) (by decide)))).other W8 (Or.inr (slot_ne (a0 := a0) (Or.inl (Wd hw 74 rfl)) (Or.inl (Wd hw 82 rfl)) (by decide) (t := (.object "java/lang/Throwable")) (t' := (.object "java/lang/String")) (by decide) (by decide)))) (((((E_a0r.wr W2).wr W4).wr W6).wr W7).wr W8) (Or.inl (Wd hw 74 rfl)) (Wd hw 40 rfl) (ty := (.object "java/lang/Throwable")) (by decide) rfl rfl (g := (mkF m 48 #[.val (.ref a0r), .val (.ref am), .val .null, .val (.int 0), .val (.int 0)] [.null, (.ref a0r)])) rfl rfl (hb hby d14_48)
  have Fw9 := ((((Fw2.other W4 (Or.inr (slot_ne (a0 := a0) (Or.inl (Wd hw 74 rfl)) (Or.inl (Wd hw 77 rfl)) (by decide) (t := (.object "java/lang/Throwable")) (t' := (.array (.object "java/lang/StackTraceElement"))) (by decide) (by decide)))).other W6 (Or.inr (slot_ne (a0 := a0) (Or.inl (Wd hw 74 rfl)) (Or.inl (Wd hw 80 rfl)) (by decide) (t := (.object "java/lang/Throwable")) (t' := (.object "java/util/List")) (by decide) (by decide)))).other W7 (Or.inr (slot_ne (a0 := a0) (Or.inl (Wd hw 74 rfl)) (Or.inl (Wd hw 77 rfl)) (by decide) (t := (.object "java/lang/Throwable")) (t' := (.array (.object "java/lang/StackTraceElement"))) (by decide) (by decide)))).other W8 (Or.inr (slot_ne (a0 := a0) (Or.inl (Wd hw 74 rfl)) (Or.inl (Wd hw 82 rfl)) (by decide) (t := (.object "java/lang/Throwable")) (t' := (.object "java/lang/String")) (by decide) (by decide)))).same W9
  have K9 : Keep h0 h9 [a0r] := K8.wr W9 (Or.inl (List.mem_of_getElem? (i := 0) rfl))
  have O9 := O8.wr W9 g_a0r
  have N9 := Fr.snoc X9 N8 g_a0r
  obtain ⟨T10, h10, X10, e10, W10, st10⟩ := putF X9 hx hZ hown (host := "") (Or.inl (Wd hw 79 rfl)) Via.refl e9 (((Fw6.other W7 (Or.inr (slot_ne (a0 := a0) (Or.inl (Wd hw 80 rfl)) (Or.inl (Wd hw 77 rfl)) (by decide) (t := (.object "java/util/List")) (t' := (.array (.object "java/lang/StackTraceElement"))) (by decide) (by decide)))).other W8 (Or.inr (slot_ne (a0 := a0) (Or.inl (Wd hw 80 rfl)) (Or.inl (Wd hw 82 rfl)) (by decide) (t := (.object "java/util/List")) (t' := (.object "java/lang/String")) (by decide) (by decide)))).other W9 (Or.inr (slot_ne (a0 := a0) (Or.inl (Wd hw 80 rfl)) (Or.inl (Wd hw 74 rfl)) (by decide) (t := (.object "java/util/List")) (t' := (.object "java/lang/Throwable")) (by decide) (by decide)))) ((((((E_a0r.wr W2).wr W4).wr W6).wr W7).wr W8).wr W9) (Or.inl (Wd hw 80 rfl)) (Wd hw 40 rfl) (ty := (.object "java/util/List")) (by decide) rfl rfl (g := (mkF m 57 #[.val (.ref a0r), .val (.ref am), .val .null, .val (.int 0), .val (.int 0)] [.null, (.ref a0r)])) rfl rfl (hb hby d14_57)
  have Fw10 := (((Fw6.other W7 (Or.inr (slot_ne (a0 := a0) (Or.inl (Wd hw 80 rfl)) (Or.inl (Wd hw 77 rfl)) (by decide) (t := (.object "java/util/List")) (t' := (.array (.object "java/lang/StackTraceElement"))) (by decide) (by decide)))).other W8 (Or.inr (slot_ne (a0 := a0) (Or.inl (Wd hw 80 rfl)) (Or.inl (Wd hw 82 rfl)) (by decide) (t := (.object "java/util/List")) (t' := (.object "java/lang/String")) (by decide) (by decide)))).other W9 (Or.inr (slot_ne (a0 := a0) (Or.inl (Wd hw 80 rfl)) (Or.inl (Wd hw 74 rfl)) (by decide) (t := (.object "java/util/List")) (t' := (.object "java/lang/Throwable")) (by decide) (by decide)))).same W10
  have K10 : Keep h0 h10 [a0r] := K9.wr W10 (Or.inl (List.mem_of_getElem? (i := 0) rfl))
  have O10 := O9.wr W10 g_a0r
  have N10 := Fr.snoc X10 N9 g_a0r
  obtain ⟨fs, hr, hrun, hended, hW, hsame⟩ := X10.leave (v := none) (fun _ => rfl)
  refine ⟨_, _, pre0 _ ?_, hrun, hended, _, _, rfl, ?_, ⟨_, rfl⟩, hW, hsame.mono (by decide) (by decide)⟩
  · show Steps p.tables e below (s₁.setTop (mkF m 0 #[.val (.ref a0r), .val (.ref am), .val .null, .val (.int 0), .val (.int 0)] [])) _
    refine XS.aloadN X0.here hx rfl (hb hby d14_0) rfl rfl ?_
    show Steps p.tables e below (s₁.setTop (mkF m 1 #[.val (.ref a0r), .val (.ref am), .val .null, .val (.int 0), .val (.int 0)] [(.ref a0r)])) _
    refine st1 _ ?_
    show Steps p.tables e below (T1.setTop (mkF m 4 #[.val (.ref a0r), .val (.ref am), .val .null, .val (.int 0), .val (.int 0)] [])) _
    refine XS.aloadN X1.here hx rfl (hb hby d14_4) rfl rfl ?_
    refine XS.aloadN X1.here hx rfl (hb hby d14_5) rfl rfl ?_
    show Steps p.tables e below (T1.setTop (mkF m 6 #[.val (.ref a0r), .val (.ref am), .val .null, .val (.int 0), .val (.int 0)] [(.ref a0r), (.ref a0r)])) _
    refine st2 _ ?_
    show Steps p.tables e below (T2.setTop (mkF m 9 #[.val (.ref a0r), .val (.ref am), .val .null, .val (.int 0), .val (.int 0)] [])) _
    refine XS.aloadN X2.here hx rfl (hb hby d14_9) rfl rfl ?_
    show Steps p.tables e below (T2.setTop (mkF m 10 #[.val (.ref a0r), .val (.ref am), .val .null, .val (.int 0), .val (.int 0)] [(.ref a0r)])) _
    refine st3 _ ?_
    show Steps p.tables e below (T3.setTop (mkF m 13 #[.val (.ref a0r), .val (.ref am), .val .null, .val (.int 0), .val (.int 0)] [(.ref aUS), (.ref a0r)])) _
    refine st4 _ ?_
    show Steps p.tables e below (T4.setTop (mkF m 16 #[.val (.ref a0r), .val (.ref am), .val .null, .val (.int 0), .val (.int 0)] [])) _
    refine XS.aloadN X4.here hx rfl (hb hby d14_16) rfl rfl ?_
    show Steps p.tables e below (T4.setTop (mkF m 17 #[.val (.ref a0r), .val (.ref am), .val .null, .val (.int 0), .val (.int 0)] [(.ref a0r)])) _
    refine st5 _ ?_
    show Steps p.tables e below (T5.setTop (mkF m 20 #[.val (.ref a0r), .val (.ref am), .val .null, .val (.int 0), .val (.int 0)] [(.ref aSS), (.ref a0r)])) _
    refine st6 _ ?_
    show Steps p.tables e below (T6.setTop (mkF m 23 #[.val (.ref a0r), .val (.ref am), .val .null, .val (.int 0), .val (.int 0)] [])) _
    refine XS.iload X6.here hx rfl (hb hby d14_23) rfl ?_
    refine XS.ifYes X6.here hx rfl (pc0 := 25) (pc' := 36) rfl (hb hby d14_25) rfl ((if0 _ _).trans (teq (by decide : (0 : Int32) = (0 : Int32))).1) (by decide) (by decide) ?_
    refine XS.aloadN X6.here hx rfl (hb hby d14_36) rfl rfl ?_
    refine XS.aconstNull X6.here hx rfl (hb hby d14_37) ?_
    show Steps p.tables e below (T6.setTop (mkF m 38 #[.val (.ref a0r), .val (.ref am), .val .null, .val (.int 0), .val (.int 0)] [.null, (.ref a0r)])) _
    refine st7 _ ?_
    show Steps p.tables e below (T7.setTop (mkF m 41 #[.val (.ref a0r), .val (.ref am), .val .null, .val (.int 0), .val (.int 0)] [])) _
    refine XS.aloadN X7.here hx rfl (hb hby d14_41) rfl rfl ?_
    refine XS.aloadN X7.here hx rfl (hb hby d14_42) rfl rfl ?_
    show Steps p.tables e below (T7.setTop (mkF m 43 #[.val (.ref a0r), .val (.ref am), .val .null, .val (.int 0), .val (.int 0)] [(.ref am), (.ref a0r)])) _
    refine st8 _ ?_
    show Steps p.tables e below (T8.setTop (mkF m 46 #[.val (.ref a0r), .val (.ref am), .val .null, .val (.int 0), .val (.int 0)] [])) _
    refine XS.aloadN X8.here hx rfl (hb hby d14_46) rfl rfl ?_
    refine XS.aloadN X8.here hx rfl (hb hby d14_47) rfl rfl ?_
    show Steps p.tables e below (T8.setTop (mkF m 48 #[.val (.ref a0r), .val (.ref am), .val .null, .val (.int 0), .val (.int 0)] [.null, (.ref a0r)])) _
    refine st9 _ ?_
    show Steps p.tables e below (T9.setTop (mkF m 51 #[.val (.ref a0r), .val (.ref am), .val .null, .val (.int 0), .val (.int 0)] [])) _
    refine XS.iloadN X9.here hx rfl (hb hby d14_51) rfl ?_
    refine XS.ifNo X9.here hx rfl (hb hby d14_52) rfl ((if0 _ _).trans (teq (by decide : (0 : Int32) = (0 : Int32))).2) ?_
    refine XS.aloadN X9.here hx rfl (hb hby d14_55) rfl rfl ?_
    refine XS.aconstNull X9.here hx rfl (hb hby d14_56) ?_
    show Steps p.tables e below (T9.setTop (mkF m 57 #[.val (.ref a0r), .val (.ref am), .val .null, .val (.int 0), .val (.int 0)] [.null, (.ref a0r)])) _
    refine st10 _ ?_
    show Steps p.tables e below (T10.setTop (mkF m 60 #[.val (.ref a0r), .val (.ref am), .val .null, .val (.int 0), .val (.int 0)] [])) _
    exact X10.returnOut hx Bd.returns (hb hby d14_60) hr
  · show Q_rmTh n0 Z cS aRS aEM aUS aSS a0r am h0 _ T10.heap _
    rw [e10]
    exact ⟨rfl, N10, K10, (((((((E_a0r.wr W2).wr W4).wr W6).wr W7).wr W8).wr W9).wr W10), ((Fw8.other W9 (Or.inr (slot_ne (a0 := a0) (Or.inl (Wd hw 82 rfl)) (Or.inl (Wd hw 74 rfl)) (by decide) (t := (.object "java/lang/String")) (t' := (.object "java/lang/Throwable")) (by decide) (by decide)))).other W10 (Or.inr (slot_ne (a0 := a0) (Or.inl (Wd hw 82 rfl)) (Or.inl (Wd hw 80 rfl)) (by decide) (t := (.object "java/lang/String")) (t' := (.object "java/util/List")) (by decide) (by decide)))), (((((((F_reason_a0r.other W2 (Or.inr (slot_ne (a0 := a0) (Or.inr (Wd hw 84 rfl)) (Or.inl (Wd hw 74 rfl)) (by decide) (t := (.object "com/example/metaloom/metaloom/store/Rejection$Reason")) (t' := (.object "java/lang/Throwable")) (by decide) (by decide)))).other W4 (Or.inr (slot_ne (a0 := a0) (Or.inr (Wd hw 84 rfl)) (Or.inl (Wd hw 77 rfl)) (by decide) (t := (.object "com/example/metaloom/metaloom/store/Rejection$Reason")) (t' := (.array (.object "java/lang/StackTraceElement"))) (by decide) (by decide)))).other W6 (Or.inr (slot_ne (a0 := a0) (Or.inr (Wd hw 84 rfl)) (Or.inl (Wd hw 80 rfl)) (by decide) (t := (.object "com/example/metaloom/metaloom/store/Rejection$Reason")) (t' := (.object "java/util/List")) (by decide) (by decide)))).other W7 (Or.inr (slot_ne (a0 := a0) (Or.inr (Wd hw 84 rfl)) (Or.inl (Wd hw 77 rfl)) (by decide) (t := (.object "com/example/metaloom/metaloom/store/Rejection$Reason")) (t' := (.array (.object "java/lang/StackTraceElement"))) (by decide) (by decide)))).other W8 (Or.inr (slot_ne (a0 := a0) (Or.inr (Wd hw 84 rfl)) (Or.inl (Wd hw 82 rfl)) (by decide) (t := (.object "com/example/metaloom/metaloom/store/Rejection$Reason")) (t' := (.object "java/lang/String")) (by decide) (by decide)))).other W9 (Or.inr (slot_ne (a0 := a0) (Or.inr (Wd hw 84 rfl)) (Or.inl (Wd hw 74 rfl)) (by decide) (t := (.object "com/example/metaloom/metaloom/store/Rejection$Reason")) (t' := (.object "java/lang/Throwable")) (by decide) (by decide)))).other W10 (Or.inr (slot_ne (a0 := a0) (Or.inr (Wd hw 84 rfl)) (Or.inl (Wd hw 80 rfl)) (by decide) (t := (.object "com/example/metaloom/metaloom/store/Rejection$Reason")) (t' := (.object "java/util/List")) (by decide) (by decide)))), (((((((F_position_a0r.other W2 (Or.inr (slot_ne (a0 := a0) (Or.inr (Wd hw 86 rfl)) (Or.inl (Wd hw 74 rfl)) (by decide) (t := (.object "java/util/OptionalInt")) (t' := (.object "java/lang/Throwable")) (by decide) (by decide)))).other W4 (Or.inr (slot_ne (a0 := a0) (Or.inr (Wd hw 86 rfl)) (Or.inl (Wd hw 77 rfl)) (by decide) (t := (.object "java/util/OptionalInt")) (t' := (.array (.object "java/lang/StackTraceElement"))) (by decide) (by decide)))).other W6 (Or.inr (slot_ne (a0 := a0) (Or.inr (Wd hw 86 rfl)) (Or.inl (Wd hw 80 rfl)) (by decide) (t := (.object "java/util/OptionalInt")) (t' := (.object "java/util/List")) (by decide) (by decide)))).other W7 (Or.inr (slot_ne (a0 := a0) (Or.inr (Wd hw 86 rfl)) (Or.inl (Wd hw 77 rfl)) (by decide) (t := (.object "java/util/OptionalInt")) (t' := (.array (.object "java/lang/StackTraceElement"))) (by decide) (by decide)))).other W8 (Or.inr (slot_ne (a0 := a0) (Or.inr (Wd hw 86 rfl)) (Or.inl (Wd hw 82 rfl)) (by decide) (t := (.object "java/util/OptionalInt")) (t' := (.object "java/lang/String")) (by decide) (by decide)))).other W9 (Or.inr (slot_ne (a0 := a0) (Or.inr (Wd hw 86 rfl)) (Or.inl (Wd hw 74 rfl)) (by decide) (t := (.object "java/util/OptionalInt")) (t' := (.object "java/lang/Throwable")) (by decide) (by decide)))).other W10 (Or.inr (slot_ne (a0 := a0) (Or.inr (Wd hw 86 rfl)) (Or.inl (Wd hw 80 rfl)) (by decide) (t := (.object "java/util/OptionalInt")) (t' := (.object "java/util/List")) (by decide) (by decide))))⟩
theorem d13_0 : decode jdk_59_method_5_code 0 = .ok (.aload_n 0, 1) := by decide +kernel
theorem d13_1 : decode jdk_59_method_5_code 1 = .ok (.aload_n 1, 1) := by decide +kernel
theorem d13_2 : decode jdk_59_method_5_code 2 = .ok (.aload_n 2, 1) := by decide +kernel
theorem d13_3 : decode jdk_59_method_5_code 3 = .ok (.iload_n 3, 1) := by decide +kernel
theorem d13_4 : decode jdk_59_method_5_code 4 = .ok (.iload 4, 2) := by decide +kernel
theorem d13_6 : decode jdk_59_method_5_code 6 = .ok (.invokespecial 16, 3) := by decide +kernel
theorem pdv8 : parseMethodDescriptor "(Ljava/lang/String;Ljava/lang/Throwable;ZZ)V" = some ⟨[(.object "java/lang/String"), (.object "java/lang/Throwable"), .boolean, .boolean], none⟩ := by decide +kernel
theorem d13_9 : decode jdk_59_method_5_code 9 = .ok (.return_, 1) := by decide +kernel
theorem pnv4 : plainName "java/lang/Exception" = true := by first | (simp [plainName, overriddenIn]; done) | decide +kernel
abbrev MN_12 : MethodName := ⟨"java/lang/Exception", "<init>", "(Ljava/lang/String;Ljava/lang/Throwable;ZZ)V"⟩
def Q_rmEx (n0 : Nat) (Z : State) (cS : Int32) (aRS : Addr) (aEM : Addr) (aUS : Addr) (aSS : Addr) (a0r : Addr) (am : Addr) (h0 : Heap) (v : Option Value) (h : Heap) (L : List Loc) : Prop := v = none ∧ Fr n0 L ∧ Keep h0 h [a0r] ∧ (Exa Z h a0r "com/example/metaloom/metaloom/store/Rejection") ∧ (Fld Z h a0r "java/lang/Throwable" "detailMessage" "Ljava/lang/String;" (.ref am)) ∧ (Fld Z h a0r "com/example/metaloom/metaloom/store/Rejection" "reason" "Lcom/example/metaloom/metaloom/store/Rejection$Reason;" .null) ∧ (Fld Z h a0r "com/example/metaloom/metaloom/store/Rejection" "position" "Ljava/util/OptionalInt;" .null)
set_option maxRecDepth 65536 in
set_option maxHeartbeats 40000000 in
theorem rmEx (l : Launch) (Z : State) (a0 : Array Value) (hw : ∀ d ∈ tables_1, d.before a0 Z = true) (ws : List Jvm.Cond) (cS : Int32) (aRS : Addr) (aEM : Addr) (aUS : Addr) (aSS : Addr) (a0r : Addr) (am : Addr) (h0 : Heap) (n0 : Nat) (O0 : Old Z n0 h0) (GL : GF Z cS aRS aEM aUS aSS) (E_a0r : Exa Z h0 a0r "com/example/metaloom/metaloom/store/Rejection") (F_cause_a0r : Fld Z h0 a0r "java/lang/Throwable" "cause" "Ljava/lang/Throwable;" .null) (F_stackTrace_a0r : Fld Z h0 a0r "java/lang/Throwable" "stackTrace" "[Ljava/lang/StackTraceElement;" .null) (F_suppressedExceptions_a0r : Fld Z h0 a0r "java/lang/Throwable" "suppressedExceptions" "Ljava/util/List;" .null) (F_detailMessage_a0r : Fld Z h0 a0r "java/lang/Throwable" "detailMessage" "Ljava/lang/String;" .null) (F_reason_a0r : Fld Z h0 a0r "com/example/metaloom/metaloom/store/Rejection" "reason" "Lcom/example/metaloom/metaloom/store/Rejection$Reason;" .null) (F_position_a0r : Fld Z h0 a0r "com/example/metaloom/metaloom/store/Rejection" "position" "Ljava/util/OptionalInt;" .null) (g_a0r : n0 ≤ a0r) :
    MetFree l MN_12 (head1 (Jvm.Cond.code MN_12 jdk_59_method_5_code 5 none :: ws) ({ frames := 2, cells := 0, slots := 0, locals := 28 } : Room)) (fun a U => a = #[(.ref a0r), (.ref am), .null, (.int 0), (.int 0)] ∧ Z.Warmed39 U.vm ∧ U.heap = h0) (fun _ _ _ _ _ => True) (fun _ U o U' => ∃ v L, o = .returned v ∧ Q_rmEx n0 Z cS aRS aEM aUS aSS a0r am h0 v U'.heap L ∧ FrameEnd U o U' L ({ frames := 2, cells := 0, slots := 0, locals := 28 } : Room).cells ({ frames := 2, cells := 0, slots := 0, locals := 28 } : Room).slots) := by
  refine MetFree.of_bodySF (plainFor_of_name pnv4) hisR ?_
  intro p e s m args below meth c s₁ Bd hml0 hP hK
  obtain ⟨rfl, hZ, hh⟩ := hP
  have hx := Bd.exec
  have hby := Bd.bytes
  have hml : c.maxLocals = 5 := hml0
  have hown : s.vm.findClass "java/lang/Exception" = some m.cls := findClass_of_methodNamed Bd.named
  have hnm := (name_of_methodNamed Bd.named Bd.method).1
  have X0 : Stand p l e ({ frames := 2, cells := 0, slots := 0, locals := 28 } : Room) s m #[(.ref a0r), (.ref am), .null, (.int 0), (.int 0)] below meth c s₁ [] 0 0 := Stand.of_body Bd
  have e0 : s₁.heap = h0 := by rw [← hh, Bd.state]; rfl
  have N0 := Fr.nil n0
  have pre0 : ∀ t, Steps p.tables e below (s₁.setTop (mkF m 0 #[.val (.ref a0r), .val (.ref am), .val .null, .val (.int 0), .val (.int 0)] [])) t → Steps p.tables e below (s₁.setTop (entryFrame m #[(.ref a0r), (.ref am), .null, (.int 0), (.int 0)] 5)) t := fun t k => castTop (ef_rmTh m a0r am) k
  have GL' := GL
  obtain ⟨GCS, GCP, GSR, GSE, GEE, GFE, GSU, GSS, GA16, GHI, GLO⟩ := GL'
  obtain ⟨_, _, ⟨T1, L1, k1, n1⟩, -, X1, ⟨Lc1, hQ1, l1, y1, z1⟩, st1⟩ := X0.specialBack hx (y := MN_11) rfl hown (mvT hZ (Wd hw 66 rfl)) (mvT hZ (Wd hw 67 rfl)) (mvT hZ (Wd hw 71 rfl)) (by decide) (backOf (W := 0) (rmTh l Z a0 hw [] cS aRS aEM aUS aSS (a0r) (am) (h0) n0 O0 GL E_a0r F_cause_a0r F_stackTrace_a0r F_suppressedExceptions_a0r F_detailMessage_a0r F_reason_a0r F_position_a0r g_a0r) hZ (Wd hw 71 rfl) (Wd hw 70 rfl) (by decide) (by decide)) (g := (mkF m 6 #[.val (.ref a0r), .val (.ref am), .val .null, .val (.int 0), .val (.int 0)] [(.int 0), (.int 0), .null, (.ref am), (.ref a0r)])) rfl (by rw [hml]; rfl) (Steps.refl _) (a := a0r) (argsL := [(.ref am), .null, (.int 0), (.int 0)]) (rest := []) (lenOf pdv8 rfl) rfl (by show 2 * 0 + _ ≤ _; exact Nat.le_of_eq rfl) (hb hby d13_6) (fun _ _ => ⟨rfl, e0, (by decide : 0 + 0 ≤ _), (by decide : 0 + 0 ≤ _)⟩)
  dsimp only [Pt.U, Pt.locs, Pt.cells, Pt.slots] at X1 l1 y1 z1 st1 hQ1
  subst l1 y1 z1
  obtain ⟨rfl, N1q, Kc1, P1_0, P1_1, P1_2, P1_3⟩ := hQ1
  have K1 : Keep h0 T1.heap [a0r] := (Keep.refl h0 [a0r]).trans Kc1 (allS (Or.inl (List.mem_of_getElem? (i := 0) rfl)) all0)
  have O1 := O0.keep Kc1 (allS g_a0r all0)
  have N1 := Fr.app N0 N1q
  obtain ⟨fs, hr, hrun, hended, hW, hsame⟩ := X1.leave (v := none) (fun _ => rfl)
  refine ⟨_, _, pre0 _ ?_, hrun, hended, _, _, rfl, ?_, ⟨_, rfl⟩, hW, hsame.mono (by decide) (by decide)⟩
  · show Steps p.tables e below (s₁.setTop (mkF m 0 #[.val (.ref a0r), .val (.ref am), .val .null, .val (.int 0), .val (.int 0)] [])) _
    refine XS.aloadN X0.here hx rfl (hb hby d13_0) rfl rfl ?_
    refine XS.aloadN X0.here hx rfl (hb hby d13_1) rfl rfl ?_
    refine XS.aloadN X0.here hx rfl (hb hby d13_2) rfl rfl ?_
    refine XS.iloadN X0.here hx rfl (hb hby d13_3) rfl ?_
    show Steps p.tables e below (s₁.setTop (mkF m 4 #[.val (.ref a0r), .val (.ref am), .val .null, .val (.int 0), .val (.int 0)] [(.int 0), .null, (.ref am), (.ref a0r)])) _
    refine XS.iload X0.here hx rfl (hb hby d13_4) rfl ?_
    show Steps p.tables e below (s₁.setTop (mkF m 6 #[.val (.ref a0r), .val (.ref am), .val .null, .val (.int 0), .val (.int 0)] [(.int 0), (.int 0), .null, (.ref am), (.ref a0r)])) _
    refine st1.trans ?_
    show Steps p.tables e below (T1.setTop (mkF m 9 #[.val (.ref a0r), .val (.ref am), .val .null, .val (.int 0), .val (.int 0)] [])) _
    exact X1.returnOut hx Bd.returns (hb hby d13_9) hr
  · show Q_rmEx n0 Z cS aRS aEM aUS aSS a0r am h0 _ T1.heap _
    exact ⟨rfl, N1, K1, P1_0, P1_1, P1_2, P1_3⟩
theorem d12_0 : decode jdk_58_method_5_code 0 = .ok (.aload_n 0, 1) := by decide +kernel
theorem d12_1 : decode jdk_58_method_5_code 1 = .ok (.aload_n 1, 1) := by decide +kernel
theorem d12_2 : decode jdk_58_method_5_code 2 = .ok (.aload_n 2, 1) := by decide +kernel
theorem d12_3 : decode jdk_58_method_5_code 3 = .ok (.iload_n 3, 1) := by decide +kernel
theorem d12_4 : decode jdk_58_method_5_code 4 = .ok (.iload 4, 2) := by decide +kernel
theorem d12_6 : decode jdk_58_method_5_code 6 = .ok (.invokespecial 16, 3) := by decide +kernel
theorem d12_9 : decode jdk_58_method_5_code 9 = .ok (.return_, 1) := by decide +kernel
theorem pnv5 : plainName "java/lang/RuntimeException" = true := by first | (simp [plainName, overriddenIn]; done) | decide +kernel
abbrev MN_13 : MethodName := ⟨"java/lang/RuntimeException", "<init>", "(Ljava/lang/String;Ljava/lang/Throwable;ZZ)V"⟩
def Q_rmRt (n0 : Nat) (Z : State) (cS : Int32) (aRS : Addr) (aEM : Addr) (aUS : Addr) (aSS : Addr) (a0r : Addr) (am : Addr) (h0 : Heap) (v : Option Value) (h : Heap) (L : List Loc) : Prop := v = none ∧ Fr n0 L ∧ Keep h0 h [a0r] ∧ (Exa Z h a0r "com/example/metaloom/metaloom/store/Rejection") ∧ (Fld Z h a0r "java/lang/Throwable" "detailMessage" "Ljava/lang/String;" (.ref am)) ∧ (Fld Z h a0r "com/example/metaloom/metaloom/store/Rejection" "reason" "Lcom/example/metaloom/metaloom/store/Rejection$Reason;" .null) ∧ (Fld Z h a0r "com/example/metaloom/metaloom/store/Rejection" "position" "Ljava/util/OptionalInt;" .null)
set_option maxRecDepth 65536 in
set_option maxHeartbeats 40000000 in
theorem rmRt (l : Launch) (Z : State) (a0 : Array Value) (hw : ∀ d ∈ tables_1, d.before a0 Z = true) (ws : List Jvm.Cond) (cS : Int32) (aRS : Addr) (aEM : Addr) (aUS : Addr) (aSS : Addr) (a0r : Addr) (am : Addr) (h0 : Heap) (n0 : Nat) (O0 : Old Z n0 h0) (GL : GF Z cS aRS aEM aUS aSS) (E_a0r : Exa Z h0 a0r "com/example/metaloom/metaloom/store/Rejection") (F_cause_a0r : Fld Z h0 a0r "java/lang/Throwable" "cause" "Ljava/lang/Throwable;" .null) (F_stackTrace_a0r : Fld Z h0 a0r "java/lang/Throwable" "stackTrace" "[Ljava/lang/StackTraceElement;" .null) (F_suppressedExceptions_a0r : Fld Z h0 a0r "java/lang/Throwable" "suppressedExceptions" "Ljava/util/List;" .null) (F_detailMessage_a0r : Fld Z h0 a0r "java/lang/Throwable" "detailMessage" "Ljava/lang/String;" .null) (F_reason_a0r : Fld Z h0 a0r "com/example/metaloom/metaloom/store/Rejection" "reason" "Lcom/example/metaloom/metaloom/store/Rejection$Reason;" .null) (F_position_a0r : Fld Z h0 a0r "com/example/metaloom/metaloom/store/Rejection" "position" "Ljava/util/OptionalInt;" .null) (g_a0r : n0 ≤ a0r) :
    MetFree l MN_13 (head1 (Jvm.Cond.code MN_13 jdk_58_method_5_code 5 none :: ws) ({ frames := 3, cells := 0, slots := 0, locals := 44 } : Room)) (fun a U => a = #[(.ref a0r), (.ref am), .null, (.int 0), (.int 0)] ∧ Z.Warmed39 U.vm ∧ U.heap = h0) (fun _ _ _ _ _ => True) (fun _ U o U' => ∃ v L, o = .returned v ∧ Q_rmRt n0 Z cS aRS aEM aUS aSS a0r am h0 v U'.heap L ∧ FrameEnd U o U' L ({ frames := 3, cells := 0, slots := 0, locals := 44 } : Room).cells ({ frames := 3, cells := 0, slots := 0, locals := 44 } : Room).slots) := by
  refine MetFree.of_bodySF (plainFor_of_name pnv5) hisR ?_
  intro p e s m args below meth c s₁ Bd hml0 hP hK
  obtain ⟨rfl, hZ, hh⟩ := hP
  have hx := Bd.exec
  have hby := Bd.bytes
  have hml : c.maxLocals = 5 := hml0
  have hown : s.vm.findClass "java/lang/RuntimeException" = some m.cls := findClass_of_methodNamed Bd.named
  have hnm := (name_of_methodNamed Bd.named Bd.method).1
  have X0 : Stand p l e ({ frames := 3, cells := 0, slots := 0, locals := 44 } : Room) s m #[(.ref a0r), (.ref am), .null, (.int 0), (.int 0)] below meth c s₁ [] 0 0 := Stand.of_body Bd
  have e0 : s₁.heap = h0 := by rw [← hh, Bd.state]; rfl
  have N0 := Fr.nil n0
  have pre0 : ∀ t, Steps p.tables e below (s₁.setTop (mkF m 0 #[.val (.ref a0r), .val (.ref am), .val .null, .val (.int 0), .val (.int 0)] [])) t → Steps p.tables e below (s₁.setTop (entryFrame m #[(.ref a0r), (.ref am), .null, (.int 0), (.int 0)] 5)) t := fun t k => castTop (ef_rmTh m a0r am) k
  have GL' := GL
  obtain ⟨GCS, GCP, GSR, GSE, GEE, GFE, GSU, GSS, GA16, GHI, GLO⟩ := GL'
  obtain ⟨_, _, ⟨T1, L1, k1, n1⟩, -, X1, ⟨Lc1, hQ1, l1, y1, z1⟩, st1⟩ := X0.specialBack hx (y := MN_12) rfl hown (mvT hZ (Wd hw 60 rfl)) (mvT hZ (Wd hw 61 rfl)) (mvT hZ (Wd hw 65 rfl)) (by decide) (backOf (W := 0) (rmEx l Z a0 hw [] cS aRS aEM aUS aSS (a0r) (am) (h0) n0 O0 GL E_a0r F_cause_a0r F_stackTrace_a0r F_suppressedExceptions_a0r F_detailMessage_a0r F_reason_a0r F_position_a0r g_a0r) hZ (Wd hw 65 rfl) (Wd hw 64 rfl) (by decide) (by decide)) (g := (mkF m 6 #[.val (.ref a0r), .val (.ref am), .val .null, .val (.int 0), .val (.int 0)] [(.int 0), (.int 0), .null, (.ref am), (.ref a0r)])) rfl (by rw [hml]; rfl) (Steps.refl _) (a := a0r) (argsL := [(.ref am), .null, (.int 0), (.int 0)]) (rest := []) (lenOf pdv8 rfl) rfl (by show 2 * 0 + _ ≤ _; exact Nat.le_of_eq rfl) (hb hby d12_6) (fun _ _ => ⟨rfl, e0, (by decide : 0 + 0 ≤ _), (by decide : 0 + 0 ≤ _)⟩)
  dsimp only [Pt.U, Pt.locs, Pt.cells, Pt.slots] at X1 l1 y1 z1 st1 hQ1
  subst l1 y1 z1
  obtain ⟨rfl, N1q, Kc1, P1_0, P1_1, P1_2, P1_3⟩ := hQ1
  have K1 : Keep h0 T1.heap [a0r] := (Keep.refl h0 [a0r]).trans Kc1 (allS (Or.inl (List.mem_of_getElem? (i := 0) rfl)) all0)
  have O1 := O0.keep Kc1 (allS g_a0r all0)
  have N1 := Fr.app N0 N1q
  obtain ⟨fs, hr, hrun, hended, hW, hsame⟩ := X1.leave (v := none) (fun _ => rfl)
  refine ⟨_, _, pre0 _ ?_, hrun, hended, _, _, rfl, ?_, ⟨_, rfl⟩, hW, hsame.mono (by decide) (by decide)⟩
  · show Steps p.tables e below (s₁.setTop (mkF m 0 #[.val (.ref a0r), .val (.ref am), .val .null, .val (.int 0), .val (.int 0)] [])) _
    refine XS.aloadN X0.here hx rfl (hb hby d12_0) rfl rfl ?_
    refine XS.aloadN X0.here hx rfl (hb hby d12_1) rfl rfl ?_
    refine XS.aloadN X0.here hx rfl (hb hby d12_2) rfl rfl ?_
    refine XS.iloadN X0.here hx rfl (hb hby d12_3) rfl ?_
    show Steps p.tables e below (s₁.setTop (mkF m 4 #[.val (.ref a0r), .val (.ref am), .val .null, .val (.int 0), .val (.int 0)] [(.int 0), .null, (.ref am), (.ref a0r)])) _
    refine XS.iload X0.here hx rfl (hb hby d12_4) rfl ?_
    show Steps p.tables e below (s₁.setTop (mkF m 6 #[.val (.ref a0r), .val (.ref am), .val .null, .val (.int 0), .val (.int 0)] [(.int 0), (.int 0), .null, (.ref am), (.ref a0r)])) _
    refine st1.trans ?_
    show Steps p.tables e below (T1.setTop (mkF m 9 #[.val (.ref a0r), .val (.ref am), .val .null, .val (.int 0), .val (.int 0)] [])) _
    exact X1.returnOut hx Bd.returns (hb hby d12_9) hr
  · show Q_rmRt n0 Z cS aRS aEM aUS aSS a0r am h0 _ T1.heap _
    exact ⟨rfl, N1, K1, P1_0, P1_1, P1_2, P1_3⟩
theorem d11_0 : decode prog_21_method_1_code 0 = .ok (.aload_n 0, 1) := by decide +kernel
theorem d11_1 : decode prog_21_method_1_code 1 = .ok (.aload_n 2, 1) := by decide +kernel
theorem d11_2 : decode prog_21_method_1_code 2 = .ok (.aconst_null, 1) := by decide +kernel
theorem d11_3 : decode prog_21_method_1_code 3 = .ok (.iconst 0, 1) := by decide +kernel
theorem d11_4 : decode prog_21_method_1_code 4 = .ok (.iconst 0, 1) := by decide +kernel
theorem d11_5 : decode prog_21_method_1_code 5 = .ok (.invokespecial 1, 3) := by decide +kernel
theorem d11_8 : decode prog_21_method_1_code 8 = .ok (.aload_n 0, 1) := by decide +kernel
theorem d11_9 : decode prog_21_method_1_code 9 = .ok (.aload_n 1, 1) := by decide +kernel
theorem d11_10 : decode prog_21_method_1_code 10 = .ok (.putfield 7, 3) := by decide +kernel
theorem d11_13 : decode prog_21_method_1_code 13 = .ok (.aload_n 0, 1) := by decide +kernel
theorem d11_14 : decode prog_21_method_1_code 14 = .ok (.aload_n 3, 1) := by decide +kernel
theorem d11_15 : decode prog_21_method_1_code 15 = .ok (.putfield 13, 3) := by decide +kernel
theorem d11_18 : decode prog_21_method_1_code 18 = .ok (.return_, 1) := by decide +kernel
theorem pnv6 : plainName "com/example/metaloom/metaloom/store/Rejection" = true := by first | (simp [plainName, overriddenIn]; done) | decide +kernel
abbrev MN_14 : MethodName := ⟨"com/example/metaloom/metaloom/store/Rejection", "<init>", "(Lcom/example/metaloom/metaloom/store/Rejection$Reason;Ljava/lang/String;Ljava/util/OptionalInt;)V"⟩
theorem ef_rmR3 (m : MethodId) (a0r : Addr) (ar : Addr) (am : Addr) (ap : Addr) : entryFrame m #[(.ref a0r), (.ref ar), (.ref am), (.ref ap)] 4 = mkF m 0 #[.val (.ref a0r), .val (.ref ar), .val (.ref am), .val (.ref ap)] [] := by first | (simp [entryFrame, mkF, argsToLocals, Value.category]; done) | rfl
def Q_rmR3 (n0 : Nat) (Z : State) (cS : Int32) (aRS : Addr) (aEM : Addr) (aUS : Addr) (aSS : Addr) (a0r : Addr) (ar : Addr) (am : Addr) (ap : Addr) (h0 : Heap) (v : Option Value) (h : Heap) (L : List Loc) : Prop := v = none ∧ Fr n0 L ∧ Keep h0 h [a0r] ∧ (Exa Z h a0r "com/example/metaloom/metaloom/store/Rejection") ∧ (Fld Z h a0r "java/lang/Throwable" "detailMessage" "Ljava/lang/String;" (.ref am)) ∧ (Fld Z h a0r "com/example/metaloom/metaloom/store/Rejection" "reason" "Lcom/example/metaloom/metaloom/store/Rejection$Reason;" (.ref ar)) ∧ (Fld Z h a0r "com/example/metaloom/metaloom/store/Rejection" "position" "Ljava/util/OptionalInt;" (.ref ap))
set_option maxRecDepth 65536 in
set_option maxHeartbeats 40000000 in
theorem rmR3 (l : Launch) (Z : State) (a0 : Array Value) (hw : ∀ d ∈ tables_1, d.before a0 Z = true) (ws : List Jvm.Cond) (cS : Int32) (aRS : Addr) (aEM : Addr) (aUS : Addr) (aSS : Addr) (a0r : Addr) (ar : Addr) (am : Addr) (ap : Addr) (h0 : Heap) (n0 : Nat) (O0 : Old Z n0 h0) (GL : GF Z cS aRS aEM aUS aSS) (E_a0r : Exa Z h0 a0r "com/example/metaloom/metaloom/store/Rejection") (F_cause_a0r : Fld Z h0 a0r "java/lang/Throwable" "cause" "Ljava/lang/Throwable;" .null) (F_stackTrace_a0r : Fld Z h0 a0r "java/lang/Throwable" "stackTrace" "[Ljava/lang/StackTraceElement;" .null) (F_suppressedExceptions_a0r : Fld Z h0 a0r "java/lang/Throwable" "suppressedExceptions" "Ljava/util/List;" .null) (F_detailMessage_a0r : Fld Z h0 a0r "java/lang/Throwable" "detailMessage" "Ljava/lang/String;" .null) (F_reason_a0r : Fld Z h0 a0r "com/example/metaloom/metaloom/store/Rejection" "reason" "Lcom/example/metaloom/metaloom/store/Rejection$Reason;" .null) (F_position_a0r : Fld Z h0 a0r "com/example/metaloom/metaloom/store/Rejection" "position" "Ljava/util/OptionalInt;" .null) (g_a0r : n0 ≤ a0r) :
    MetFree l MN_14 (head1 (Jvm.Cond.code MN_14 prog_21_method_1_code 4 none :: ws) ({ frames := 4, cells := 0, slots := 0, locals := 60 } : Room)) (fun a U => a = #[(.ref a0r), (.ref ar), (.ref am), (.ref ap)] ∧ Z.Warmed39 U.vm ∧ U.heap = h0) (fun _ _ _ _ _ => True) (fun _ U o U' => ∃ v L, o = .returned v ∧ Q_rmR3 n0 Z cS aRS aEM aUS aSS a0r ar am ap h0 v U'.heap L ∧ FrameEnd U o U' L ({ frames := 4, cells := 0, slots := 0, locals := 60 } : Room).cells ({ frames := 4, cells := 0, slots := 0, locals := 60 } : Room).slots) := by
  refine MetFree.of_bodySF (plainFor_of_name pnv6) hisR ?_
  intro p e s m args below meth c s₁ Bd hml0 hP hK
  obtain ⟨rfl, hZ, hh⟩ := hP
  have hx := Bd.exec
  have hby := Bd.bytes
  have hml : c.maxLocals = 4 := hml0
  have hown : s.vm.findClass "com/example/metaloom/metaloom/store/Rejection" = some m.cls := findClass_of_methodNamed Bd.named
  have hnm := (name_of_methodNamed Bd.named Bd.method).1
  have X0 : Stand p l e ({ frames := 4, cells := 0, slots := 0, locals := 60 } : Room) s m #[(.ref a0r), (.ref ar), (.ref am), (.ref ap)] below meth c s₁ [] 0 0 := Stand.of_body Bd
  have e0 : s₁.heap = h0 := by rw [← hh, Bd.state]; rfl
  have N0 := Fr.nil n0
  have pre0 : ∀ t, Steps p.tables e below (s₁.setTop (mkF m 0 #[.val (.ref a0r), .val (.ref ar), .val (.ref am), .val (.ref ap)] [])) t → Steps p.tables e below (s₁.setTop (entryFrame m #[(.ref a0r), (.ref ar), (.ref am), (.ref ap)] 4)) t := fun t k => castTop (ef_rmR3 m a0r ar am ap) k
  have GL' := GL
  obtain ⟨GCS, GCP, GSR, GSE, GEE, GFE, GSU, GSS, GA16, GHI, GLO⟩ := GL'
  obtain ⟨_, _, ⟨T1, L1, k1, n1⟩, -, X1, ⟨Lc1, hQ1, l1, y1, z1⟩, st1⟩ := X0.specialBack hx (y := MN_13) rfl hown (mvT hZ (Wd hw 55 rfl)) (mvT hZ (Wd hw 56 rfl)) (mvT hZ (Wd hw 59 rfl)) (by decide) (backOf (W := 0) (rmRt l Z a0 hw [] cS aRS aEM aUS aSS (a0r) (am) (h0) n0 O0 GL E_a0r F_cause_a0r F_stackTrace_a0r F_suppressedExceptions_a0r F_detailMessage_a0r F_reason_a0r F_position_a0r g_a0r) hZ (Wd hw 59 rfl) (Wd hw 58 rfl) (by decide) (by decide)) (g := (mkF m 5 #[.val (.ref a0r), .val (.ref ar), .val (.ref am), .val (.ref ap)] [(.int 0), (.int 0), .null, (.ref am), (.ref a0r)])) rfl (by rw [hml]; rfl) (Steps.refl _) (a := a0r) (argsL := [(.ref am), .null, (.int 0), (.int 0)]) (rest := []) (lenOf pdv8 rfl) rfl (by show 2 * 0 + _ ≤ _; exact Nat.le_of_eq rfl) (hb hby d11_5) (fun _ _ => ⟨rfl, e0, (by decide : 0 + 0 ≤ _), (by decide : 0 + 0 ≤ _)⟩)
  dsimp only [Pt.U, Pt.locs, Pt.cells, Pt.slots] at X1 l1 y1 z1 st1 hQ1
  subst l1 y1 z1
  obtain ⟨rfl, N1q, Kc1, P1_0, P1_1, P1_2, P1_3⟩ := hQ1
  have K1 : Keep h0 T1.heap [a0r] := (Keep.refl h0 [a0r]).trans Kc1 (allS (Or.inl (List.mem_of_getElem? (i := 0) rfl)) all0)
  have O1 := O0.keep Kc1 (allS g_a0r all0)
  have N1 := Fr.app N0 N1q
  obtain ⟨T2, h2, X2, e2, W2, st2⟩ := putF X1 hx hZ hown (host := "") (Or.inl (Wd hw 83 rfl)) Via.refl rfl P1_2 P1_0 (Or.inr ⟨(Wd hw 84 rfl), rfl, hnm⟩) (Wd hw 40 rfl) (ty := (.object "com/example/metaloom/metaloom/store/Rejection$Reason")) (by decide) rfl rfl (g := (mkF m 10 #[.val (.ref a0r), .val (.ref ar), .val (.ref am), .val (.ref ap)] [(.ref ar), (.ref a0r)])) rfl rfl (hb hby d11_10)
  have Fw2 := P1_2.same W2
  have K2 : Keep h0 h2 [a0r] := K1.wr W2 (Or.inl (List.mem_of_getElem? (i := 0) rfl))
  have O2 := O1.wr W2 g_a0r
  have N2 := Fr.snoc X2 N1 g_a0r
  obtain ⟨T3, h3, X3, e3, W3, st3⟩ := putF X2 hx hZ hown (host := "") (Or.inl (Wd hw 85 rfl)) Via.refl e2 (P1_3.other W2 (Or.inr (slot_ne (a0 := a0) (Or.inr (Wd hw 86 rfl)) (Or.inr (Wd hw 84 rfl)) (by decide) (t := (.object "java/util/OptionalInt")) (t' := (.object "com/example/metaloom/metaloom/store/Rejection$Reason")) (by decide) (by decide)))) (P1_0.wr W2) (Or.inr ⟨(Wd hw 86 rfl), rfl, hnm⟩) (Wd hw 40 rfl) (ty := (.object "java/util/OptionalInt")) (by decide) rfl rfl (g := (mkF m 15 #[.val (.ref a0r), .val (.ref ar), .val (.ref am), .val (.ref ap)] [(.ref ap), (.ref a0r)])) rfl rfl (hb hby d11_15)
  have Fw3 := (P1_3.other W2 (Or.inr (slot_ne (a0 := a0) (Or.inr (Wd hw 86 rfl)) (Or.inr (Wd hw 84 rfl)) (by decide) (t := (.object "java/util/OptionalInt")) (t' := (.object "com/example/metaloom/metaloom/store/Rejection$Reason")) (by decide) (by decide)))).same W3
  have K3 : Keep h0 h3 [a0r] := K2.wr W3 (Or.inl (List.mem_of_getElem? (i := 0) rfl))
  have O3 := O2.wr W3 g_a0r
  have N3 := Fr.snoc X3 N2 g_a0r
  obtain ⟨fs, hr, hrun, hended, hW, hsame⟩ := X3.leave (v := none) (fun _ => rfl)
  refine ⟨_, _, pre0 _ ?_, hrun, hended, _, _, rfl, ?_, ⟨_, rfl⟩, hW, hsame.mono (by decide) (by decide)⟩
  · show Steps p.tables e below (s₁.setTop (mkF m 0 #[.val (.ref a0r), .val (.ref ar), .val (.ref am), .val (.ref ap)] [])) _
    refine XS.aloadN X0.here hx rfl (hb hby d11_0) rfl rfl ?_
    refine XS.aloadN X0.here hx rfl (hb hby d11_1) rfl rfl ?_
    refine XS.aconstNull X0.here hx rfl (hb hby d11_2) ?_
    refine XS.iconst X0.here hx rfl (hb hby d11_3) ?_
    show Steps p.tables e below (s₁.setTop (mkF m 4 #[.val (.ref a0r), .val (.ref ar), .val (.ref am), .val (.ref ap)] [(.int 0), .null, (.ref am), (.ref a0r)])) _
    refine XS.iconst X0.here hx rfl (hb hby d11_4) ?_
    show Steps p.tables e below (s₁.setTop (mkF m 5 #[.val (.ref a0r), .val (.ref ar), .val (.ref am), .val (.ref ap)] [(.int 0), (.int 0), .null, (.ref am), (.ref a0r)])) _
    refine st1.trans ?_
    show Steps p.tables e below (T1.setTop (mkF m 8 #[.val (.ref a0r), .val (.ref ar), .val (.ref am), .val (.ref ap)] [])) _
    refine XS.aloadN X1.here hx rfl (hb hby d11_8) rfl rfl ?_
    refine XS.aloadN X1.here hx rfl (hb hby d11_9) rfl rfl ?_
    show Steps p.tables e below (T1.setTop (mkF m 10 #[.val (.ref a0r), .val (.ref ar), .val (.ref am), .val (.ref ap)] [(.ref ar), (.ref a0r)])) _
    refine st2 _ ?_
    show Steps p.tables e below (T2.setTop (mkF m 13 #[.val (.ref a0r), .val (.ref ar), .val (.ref am), .val (.ref ap)] [])) _
    refine XS.aloadN X2.here hx rfl (hb hby d11_13) rfl rfl ?_
    refine XS.aloadN X2.here hx rfl (hb hby d11_14) rfl rfl ?_
    show Steps p.tables e below (T2.setTop (mkF m 15 #[.val (.ref a0r), .val (.ref ar), .val (.ref am), .val (.ref ap)] [(.ref ap), (.ref a0r)])) _
    refine st3 _ ?_
    show Steps p.tables e below (T3.setTop (mkF m 18 #[.val (.ref a0r), .val (.ref ar), .val (.ref am), .val (.ref ap)] [])) _
    exact X3.returnOut hx Bd.returns (hb hby d11_18) hr
  · show Q_rmR3 n0 Z cS aRS aEM aUS aSS a0r ar am ap h0 _ T3.heap _
    rw [e3]
    exact ⟨rfl, N3, K3, ((P1_0.wr W2).wr W3), ((P1_1.other W2 (Or.inr (slot_ne (a0 := a0) (Or.inl (Wd hw 82 rfl)) (Or.inr (Wd hw 84 rfl)) (by decide) (t := (.object "java/lang/String")) (t' := (.object "com/example/metaloom/metaloom/store/Rejection$Reason")) (by decide) (by decide)))).other W3 (Or.inr (slot_ne (a0 := a0) (Or.inl (Wd hw 82 rfl)) (Or.inr (Wd hw 86 rfl)) (by decide) (t := (.object "java/lang/String")) (t' := (.object "java/util/OptionalInt")) (by decide) (by decide)))), (Fw2.other W3 (Or.inr (slot_ne (a0 := a0) (Or.inr (Wd hw 84 rfl)) (Or.inr (Wd hw 86 rfl)) (by decide) (t := (.object "com/example/metaloom/metaloom/store/Rejection$Reason")) (t' := (.object "java/util/OptionalInt")) (by decide) (by decide)))), Fw3⟩
theorem d9_0 : decode prog_21_method_2_code 0 = .ok (.aload_n 0, 1) := by decide +kernel
theorem d9_1 : decode prog_21_method_2_code 1 = .ok (.aload_n 1, 1) := by decide +kernel
theorem d9_2 : decode prog_21_method_2_code 2 = .ok (.aload_n 2, 1) := by decide +kernel
theorem d9_3 : decode prog_21_method_2_code 3 = .ok (.invokestatic 17, 3) := by decide +kernel
theorem pdv9 : parseMethodDescriptor "()Ljava/util/OptionalInt;" = some ⟨[], some (.object "java/util/OptionalInt")⟩ := by decide +kernel
theorem d9_6 : decode prog_21_method_2_code 6 = .ok (.invokespecial 23, 3) := by decide +kernel
theorem pdv10 : parseMethodDescriptor "(Lcom/example/metaloom/metaloom/store/Rejection$Reason;Ljava/lang/String;Ljava/util/OptionalInt;)V" = some ⟨[(.object "com/example/metaloom/metaloom/store/Rejection$Reason"), (.object "java/lang/String"), (.object "java/util/OptionalInt")], none⟩ := by decide +kernel
theorem d9_9 : decode prog_21_method_2_code 9 = .ok (.return_, 1) := by decide +kernel
abbrev MN_15 : MethodName := ⟨"com/example/metaloom/metaloom/store/Rejection", "<init>", "(Lcom/example/metaloom/metaloom/store/Rejection$Reason;Ljava/lang/String;)V"⟩
theorem ef_rmR2 (m : MethodId) (a0r : Addr) (ar : Addr) (am : Addr) : entryFrame m #[(.ref a0r), (.ref ar), (.ref am)] 3 = mkF m 0 #[.val (.ref a0r), .val (.ref ar), .val (.ref am)] [] := by first | (simp [entryFrame, mkF, argsToLocals, Value.category]; done) | rfl
def Q_rmR2 (n0 : Nat) (Z : State) (cS : Int32) (aRS : Addr) (aEM : Addr) (aUS : Addr) (aSS : Addr) (a0r : Addr) (ar : Addr) (am : Addr) (h0 : Heap) (v : Option Value) (h : Heap) (L : List Loc) : Prop := v = none ∧ Fr n0 L ∧ Keep h0 h [a0r] ∧ (Exa Z h a0r "com/example/metaloom/metaloom/store/Rejection") ∧ (Fld Z h a0r "java/lang/Throwable" "detailMessage" "Ljava/lang/String;" (.ref am)) ∧ (Fld Z h a0r "com/example/metaloom/metaloom/store/Rejection" "reason" "Lcom/example/metaloom/metaloom/store/Rejection$Reason;" (.ref ar)) ∧ (Fld Z h a0r "com/example/metaloom/metaloom/store/Rejection" "position" "Ljava/util/OptionalInt;" (.ref aEM))
set_option maxRecDepth 65536 in
set_option maxHeartbeats 40000000 in
theorem rmR2 (l : Launch) (Z : State) (a0 : Array Value) (hw : ∀ d ∈ tables_1, d.before a0 Z = true) (ws : List Jvm.Cond) (cS : Int32) (aRS : Addr) (aEM : Addr) (aUS : Addr) (aSS : Addr) (a0r : Addr) (ar : Addr) (am : Addr) (h0 : Heap) (n0 : Nat) (O0 : Old Z n0 h0) (GL : GF Z cS aRS aEM aUS aSS) (E_a0r : Exa Z h0 a0r "com/example/metaloom/metaloom/store/Rejection") (F_cause_a0r : Fld Z h0 a0r "java/lang/Throwable" "cause" "Ljava/lang/Throwable;" .null) (F_stackTrace_a0r : Fld Z h0 a0r "java/lang/Throwable" "stackTrace" "[Ljava/lang/StackTraceElement;" .null) (F_suppressedExceptions_a0r : Fld Z h0 a0r "java/lang/Throwable" "suppressedExceptions" "Ljava/util/List;" .null) (F_detailMessage_a0r : Fld Z h0 a0r "java/lang/Throwable" "detailMessage" "Ljava/lang/String;" .null) (F_reason_a0r : Fld Z h0 a0r "com/example/metaloom/metaloom/store/Rejection" "reason" "Lcom/example/metaloom/metaloom/store/Rejection$Reason;" .null) (F_position_a0r : Fld Z h0 a0r "com/example/metaloom/metaloom/store/Rejection" "position" "Ljava/util/OptionalInt;" .null) (g_a0r : n0 ≤ a0r) :
    MetFree l MN_15 (head1 (Jvm.Cond.code MN_15 prog_21_method_2_code 3 none :: ws) ({ frames := 5, cells := 0, slots := 0, locals := 75 } : Room)) (fun a U => a = #[(.ref a0r), (.ref ar), (.ref am)] ∧ Z.Warmed39 U.vm ∧ U.heap = h0) (fun _ _ _ _ _ => True) (fun _ U o U' => ∃ v L, o = .returned v ∧ Q_rmR2 n0 Z cS aRS aEM aUS aSS a0r ar am h0 v U'.heap L ∧ FrameEnd U o U' L ({ frames := 5, cells := 0, slots := 0, locals := 75 } : Room).cells ({ frames := 5, cells := 0, slots := 0, locals := 75 } : Room).slots) := by
  refine MetFree.of_bodySF (plainFor_of_name pnv6) hisR ?_
  intro p e s m args below meth c s₁ Bd hml0 hP hK
  obtain ⟨rfl, hZ, hh⟩ := hP
  have hx := Bd.exec
  have hby := Bd.bytes
  have hml : c.maxLocals = 3 := hml0
  have hown : s.vm.findClass "com/example/metaloom/metaloom/store/Rejection" = some m.cls := findClass_of_methodNamed Bd.named
  have hnm := (name_of_methodNamed Bd.named Bd.method).1
  have X0 : Stand p l e ({ frames := 5, cells := 0, slots := 0, locals := 75 } : Room) s m #[(.ref a0r), (.ref ar), (.ref am)] below meth c s₁ [] 0 0 := Stand.of_body Bd
  have e0 : s₁.heap = h0 := by rw [← hh, Bd.state]; rfl
  have N0 := Fr.nil n0
  have pre0 : ∀ t, Steps p.tables e below (s₁.setTop (mkF m 0 #[.val (.ref a0r), .val (.ref ar), .val (.ref am)] [])) t → Steps p.tables e below (s₁.setTop (entryFrame m #[(.ref a0r), (.ref ar), (.ref am)] 3)) t := fun t k => castTop (ef_rmR2 m a0r ar am) k
  have GL' := GL
  obtain ⟨GCS, GCP, GSR, GSE, GEE, GFE, GSU, GSS, GA16, GHI, GLO⟩ := GL'
  obtain ⟨_, _, ⟨T1, L1, k1, n1⟩, -, X1, ⟨Lc1, hQ1, l1, y1, z1⟩, st1⟩ := Jvm.LawKit.callS X0 hx (y := MN_10) hown (mvT hZ (Wd hw 47 rfl)) (mvT hZ (Wd hw 48 rfl)) (mvT hZ (Wd hw 49 rfl)) (mvT hZ (Wd hw 50 rfl)) (by decide) (backOf (W := 3) (rmEm l Z a0 hw [] cS aRS aEM aUS aSS  (h0) n0 O0 GL) hZ (Wd hw 50 rfl) (Wd hw 49 rfl) (by decide) (by decide)) (g := (mkF m 3 #[.val (.ref a0r), .val (.ref ar), .val (.ref am)] [(.ref am), (.ref ar), (.ref a0r)])) rfl (by rw [hml]; rfl) (argsL := []) (rest := [(.ref am), (.ref ar), (.ref a0r)]) (lenOf pdv9 rfl) rfl (by show 2 * 0 + _ ≤ _; exact Nat.le_of_eq rfl) (hb hby d9_3) (fun _ _ => ⟨rfl, e0, (by decide : 0 + 0 ≤ _), (by decide : 0 + 0 ≤ _)⟩)
  dsimp only [Pt.U, Pt.locs, Pt.cells, Pt.slots] at X1 l1 y1 z1 st1 hQ1
  subst l1 y1 z1
  obtain ⟨rfl, N1q, e1⟩ := hQ1
  have N1 := Fr.app N0 N1q
  obtain ⟨_, _, ⟨T2, L2, k2, n2⟩, -, X2, ⟨Lc2, hQ2, l2, y2, z2⟩, st2⟩ := X1.specialBack hx (y := MN_14) rfl hown (mvT hZ (Wd hw 52 rfl)) (mvT hZ (Wd hw 53 rfl)) (mvT hZ (Wd hw 54 rfl)) (by decide) (backOf (W := 0) (rmR3 l Z a0 hw [] cS aRS aEM aUS aSS (a0r) (ar) (am) (aEM) (h0) n0 O0 GL E_a0r F_cause_a0r F_stackTrace_a0r F_suppressedExceptions_a0r F_detailMessage_a0r F_reason_a0r F_position_a0r g_a0r) hZ (Wd hw 54 rfl) (Wd hw 37 rfl) (by decide) (by decide)) (g := (mkF m 6 #[.val (.ref a0r), .val (.ref ar), .val (.ref am)] [(.ref aEM), (.ref am), (.ref ar), (.ref a0r)])) rfl (by rw [hml]; rfl) (Steps.refl _) (a := a0r) (argsL := [(.ref ar), (.ref am), (.ref aEM)]) (rest := []) (lenOf pdv10 rfl) rfl (by show 2 * 0 + _ ≤ _; exact Nat.le_of_eq rfl) (hb hby d9_6) (fun _ _ => ⟨rfl, e1, (by decide : 0 + 0 ≤ _), (by decide : 0 + 0 ≤ _)⟩)
  dsimp only [Pt.U, Pt.locs, Pt.cells, Pt.slots] at X2 l2 y2 z2 st2 hQ2
  subst l2 y2 z2
  obtain ⟨rfl, N2q, Kc2, P2_0, P2_1, P2_2, P2_3⟩ := hQ2
  have K2 : Keep h0 T2.heap [a0r] := (Keep.refl h0 [a0r]).trans Kc2 (allS (Or.inl (List.mem_of_getElem? (i := 0) rfl)) all0)
  have O2 := O0.keep Kc2 (allS g_a0r all0)
  have N2 := Fr.app N1 N2q
  obtain ⟨fs, hr, hrun, hended, hW, hsame⟩ := X2.leave (v := none) (fun _ => rfl)
  refine ⟨_, _, pre0 _ ?_, hrun, hended, _, _, rfl, ?_, ⟨_, rfl⟩, hW, hsame.mono (by decide) (by decide)⟩
  · show Steps p.tables e below (s₁.setTop (mkF m 0 #[.val (.ref a0r), .val (.ref ar), .val (.ref am)] [])) _
    refine XS.aloadN X0.here hx rfl (hb hby d9_0) rfl rfl ?_
    refine XS.aloadN X0.here hx rfl (hb hby d9_1) rfl rfl ?_
    refine XS.aloadN X0.here hx rfl (hb hby d9_2) rfl rfl ?_
    show Steps p.tables e below (s₁.setTop (mkF m 3 #[.val (.ref a0r), .val (.ref ar), .val (.ref am)] [(.ref am), (.ref ar), (.ref a0r)])) _
    refine st1 _ ?_
    show Steps p.tables e below (T1.setTop (mkF m 6 #[.val (.ref a0r), .val (.ref ar), .val (.ref am)] [(.ref aEM), (.ref am), (.ref ar), (.ref a0r)])) _
    refine st2.trans ?_
    show Steps p.tables e below (T2.setTop (mkF m 9 #[.val (.ref a0r), .val (.ref ar), .val (.ref am)] [])) _
    exact X2.returnOut hx Bd.returns (hb hby d9_9) hr
  · show Q_rmR2 n0 Z cS aRS aEM aUS aSS a0r ar am h0 _ T2.heap _
    exact ⟨rfl, N2, K2, P2_0, P2_1, P2_2, P2_3⟩
theorem d8_0 : decode prog_21_method_3_code 0 = .ok (.new 8, 3) := by decide +kernel
theorem d8_3 : decode prog_21_method_3_code 3 = .ok (.dup, 1) := by decide +kernel
theorem d8_4 : decode prog_21_method_3_code 4 = .ok (.getstatic 26, 3) := by decide +kernel
theorem d8_7 : decode prog_21_method_3_code 7 = .ok (.aload_n 0, 1) := by decide +kernel
theorem d8_8 : decode prog_21_method_3_code 8 = .ok (.invokespecial 31, 3) := by decide +kernel
theorem pdv11 : parseMethodDescriptor "(Lcom/example/metaloom/metaloom/store/Rejection$Reason;Ljava/lang/String;)V" = some ⟨[(.object "com/example/metaloom/metaloom/store/Rejection$Reason"), (.object "java/lang/String")], none⟩ := by decide +kernel
theorem d8_11 : decode prog_21_method_3_code 11 = .ok (.areturn, 1) := by decide +kernel
abbrev MN_16 : MethodName := ⟨"com/example/metaloom/metaloom/store/Rejection", "invalid", "(Ljava/lang/String;)Lcom/example/metaloom/metaloom/store/Rejection;"⟩
theorem ef_rmMk (m : MethodId) (am : Addr) : entryFrame m #[(.ref am)] 1 = mkF m 0 #[.val (.ref am)] [] := by first | (simp [entryFrame, mkF, argsToLocals, Value.category]; done) | rfl
def Q_rmMk (n0 : Nat) (Z : State) (cS : Int32) (aRS : Addr) (aEM : Addr) (aUS : Addr) (aSS : Addr) (am : Addr) (h0 : Heap) (v : Option Value) (h : Heap) (L : List Loc) : Prop := ∃ b : Addr, v = some (.ref b) ∧ Fr n0 L ∧ Keep h0 h [] ∧ (h0.size ≤ b) ∧ (Exa Z h b "com/example/metaloom/metaloom/store/Rejection") ∧ (Fld Z h b "java/lang/Throwable" "detailMessage" "Ljava/lang/String;" (.ref am)) ∧ (Fld Z h b "com/example/metaloom/metaloom/store/Rejection" "reason" "Lcom/example/metaloom/metaloom/store/Rejection$Reason;" (.ref aRS)) ∧ (Fld Z h b "com/example/metaloom/metaloom/store/Rejection" "position" "Ljava/util/OptionalInt;" (.ref aEM))
set_option maxRecDepth 65536 in
set_option maxHeartbeats 40000000 in
theorem rmMk (l : Launch) (Z : State) (a0 : Array Value) (hw : ∀ d ∈ tables_1, d.before a0 Z = true) (ws : List Jvm.Cond) (cS : Int32) (aRS : Addr) (aEM : Addr) (aUS : Addr) (aSS : Addr) (am : Addr) (h0 : Heap) (n0 : Nat) (O0 : Old Z n0 h0) (GL : GF Z cS aRS aEM aUS aSS) :
    MetFree l MN_16 (head1 (Jvm.Cond.code MN_16 prog_21_method_3_code 1 (some (.object "com/example/metaloom/metaloom/store/Rejection")) :: ws) ({ frames := 6, cells := 1, slots := 8, locals := 90 } : Room)) (fun a U => a = #[(.ref am)] ∧ Z.Warmed39 U.vm ∧ U.heap = h0) (fun _ _ _ _ _ => True) (fun _ U o U' => ∃ v L, o = .returned v ∧ Q_rmMk n0 Z cS aRS aEM aUS aSS am h0 v U'.heap L ∧ FrameEnd U o U' L ({ frames := 6, cells := 1, slots := 8, locals := 90 } : Room).cells ({ frames := 6, cells := 1, slots := 8, locals := 90 } : Room).slots) := by
  refine MetFree.of_bodySF (plainFor_of_name pnv6) hisR ?_
  intro p e s m args below meth c s₁ Bd hml0 hP hK
  obtain ⟨rfl, hZ, hh⟩ := hP
  have hx := Bd.exec
  have hby := Bd.bytes
  have hml : c.maxLocals = 1 := hml0
  have hown : s.vm.findClass "com/example/metaloom/metaloom/store/Rejection" = some m.cls := findClass_of_methodNamed Bd.named
  have hnm := (name_of_methodNamed Bd.named Bd.method).1
  have X0 : Stand p l e ({ frames := 6, cells := 1, slots := 8, locals := 90 } : Room) s m #[(.ref am)] below meth c s₁ [] 0 0 := Stand.of_body Bd
  have e0 : s₁.heap = h0 := by rw [← hh, Bd.state]; rfl
  have N0 := Fr.nil n0
  have pre0 : ∀ t, Steps p.tables e below (s₁.setTop (mkF m 0 #[.val (.ref am)] [])) t → Steps p.tables e below (s₁.setTop (entryFrame m #[(.ref am)] 1)) t := fun t k => castTop (ef_rmMk m am) k
  have GL' := GL
  obtain ⟨GCS, GCP, GSR, GSE, GEE, GFE, GSU, GSS, GA16, GHI, GLO⟩ := GL'
  obtain ⟨T1, h1, X1, e1, E1, A1, D1, -, st1⟩ := newO X0 hx hZ hown (Wd hw 39 rfl) (Wd hw 40 rfl) (Wd hw 37 rfl) e0 (g := (mkF m 0 #[.val (.ref am)] [])) rfl (hb hby d8_0) (by decide) (by decide)
  obtain ⟨b1, g1⟩ : ∃ z, z = h0.size := ⟨_, rfl⟩
  rw [← g1] at A1 D1 st1
  have g_b1 : n0 ≤ b1 := Nat.le_trans (own_sz O0) (Nat.le_of_eq g1.symm)
  have sz_b1 : h0.size ≤ b1 := Nat.le_trans (Keep.refl h0 []).1 (Nat.le_of_eq g1.symm)
  have K1 : Keep h0 h1 [] := (Keep.refl h0 []).ext E1
  have O1 := O0.ext E1
  have F_cause_b1 : Fld Z h1 b1 "java/lang/Throwable" "cause" "Ljava/lang/Throwable;" .null := D1 (Or.inl (Wd hw 74 rfl)) (ty := (.object "java/lang/Throwable")) (by decide)
  have F_stackTrace_b1 : Fld Z h1 b1 "java/lang/Throwable" "stackTrace" "[Ljava/lang/StackTraceElement;" .null := D1 (Or.inl (Wd hw 77 rfl)) (ty := (.array (.object "java/lang/StackTraceElement"))) (by decide)
  have F_suppressedExceptions_b1 : Fld Z h1 b1 "java/lang/Throwable" "suppressedExceptions" "Ljava/util/List;" .null := D1 (Or.inl (Wd hw 80 rfl)) (ty := (.object "java/util/List")) (by decide)
  have F_detailMessage_b1 : Fld Z h1 b1 "java/lang/Throwable" "detailMessage" "Ljava/lang/String;" .null := D1 (Or.inl (Wd hw 82 rfl)) (ty := (.object "java/lang/String")) (by decide)
  have F_reason_b1 : Fld Z h1 b1 "com/example/metaloom/metaloom/store/Rejection" "reason" "Lcom/example/metaloom/metaloom/store/Rejection$Reason;" .null := D1 (Or.inr (Wd hw 84 rfl)) (ty := (.object "com/example/metaloom/metaloom/store/Rejection$Reason")) (by decide)
  have F_position_b1 : Fld Z h1 b1 "com/example/metaloom/metaloom/store/Rejection" "position" "Ljava/util/OptionalInt;" .null := D1 (Or.inr (Wd hw 86 rfl)) (ty := (.object "java/util/OptionalInt")) (by decide)
  obtain ⟨T2, X2, e2, st2⟩ := getS2 X1 hx hZ hown (host := "") (Or.inl (Wd hw 41 rfl)) Via.refl e1 (GSR.ext O1.2) (g := (mkF m 4 #[.val (.ref am)] [(.ref b1), (.ref b1)])) rfl (hb hby d8_4)
  obtain ⟨_, _, ⟨T3, L3, k3, n3⟩, -, X3, ⟨Lc3, hQ3, l3, y3, z3⟩, st3⟩ := X2.specialBack hx (y := MN_15) rfl hown (mvT hZ (Wd hw 44 rfl)) (mvT hZ (Wd hw 45 rfl)) (mvT hZ (Wd hw 46 rfl)) (by decide) (backOf (W := 1) (rmR2 l Z a0 hw [] cS aRS aEM aUS aSS (b1) (aRS) (am) (h1) n0 O1 GL A1 F_cause_b1 F_stackTrace_b1 F_suppressedExceptions_b1 F_detailMessage_b1 F_reason_b1 F_position_b1 g_b1) hZ (Wd hw 46 rfl) (Wd hw 37 rfl) (by decide) (by decide)) (g := (mkF m 8 #[.val (.ref am)] [(.ref am), (.ref aRS), (.ref b1), (.ref b1)])) rfl (by rw [hml]; rfl) (Steps.refl _) (a := b1) (argsL := [(.ref aRS), (.ref am)]) (rest := [(.ref b1)]) (lenOf pdv11 rfl) rfl (by show 2 * 0 + _ ≤ _; exact Nat.le_of_eq rfl) (hb hby d8_8) (fun _ _ => ⟨rfl, e2, (by decide : 1 + 0 ≤ _), (by decide : 8 + 0 ≤ _)⟩)
  dsimp only [Pt.U, Pt.locs, Pt.cells, Pt.slots] at X3 l3 y3 z3 st3 hQ3
  subst l3 y3 z3
  obtain ⟨rfl, N3q, Kc3, P3_0, P3_1, P3_2, P3_3⟩ := hQ3
  have K3 : Keep h0 T3.heap [] := K1.trans Kc3 (allS (Or.inr sz_b1) all0)
  have O3 := O1.keep Kc3 (allS g_b1 all0)
  have N3 := Fr.app N0 N3q
  obtain ⟨fs, hr, hrun, hended, hW, hsame⟩ := X3.leave (v := some (.ref b1)) (fun h => by rw [Bd.returns] at h; cases h)
  refine ⟨_, _, pre0 _ ?_, hrun, hended, _, _, rfl, ?_, ⟨_, rfl⟩, hW, hsame.mono (by decide) (by decide)⟩
  · show Steps p.tables e below (s₁.setTop (mkF m 0 #[.val (.ref am)] [])) _
    refine st1 _ ?_
    show Steps p.tables e below (T1.setTop (mkF m 3 #[.val (.ref am)] [(.ref b1)])) _
    refine XS.dup X1.here hx rfl (hb hby d8_3) rfl rfl ?_
    show Steps p.tables e below (T1.setTop (mkF m 4 #[.val (.ref am)] [(.ref b1), (.ref b1)])) _
    refine st2 _ ?_
    show Steps p.tables e below (T2.setTop (mkF m 7 #[.val (.ref am)] [(.ref aRS), (.ref b1), (.ref b1)])) _
    refine XS.aloadN X2.here hx rfl (hb hby d8_7) rfl rfl ?_
    show Steps p.tables e below (T2.setTop (mkF m 8 #[.val (.ref am)] [(.ref am), (.ref aRS), (.ref b1), (.ref b1)])) _
    refine st3.trans ?_
    show Steps p.tables e below (T3.setTop (mkF m 11 #[.val (.ref am)] [(.ref b1)])) _
    jvm_step X3.here [X3.here.top, hx, (hb hby d8_11), X3.method', Bd.returns, Value.isRef, FieldType.isReference]
    first | (intro acts; rw [hr _ acts rfl rfl rfl]) | rw [hr _ _ rfl rfl rfl]
    exact Steps.refl _
  · show Q_rmMk n0 Z cS aRS aEM aUS aSS am h0 _ T3.heap _
    exact ⟨b1, rfl, N3, K3, sz_b1, P3_0, P3_1, P3_2, P3_3⟩
theorem ef_rmThn (m : MethodId) (a0r : Addr) : entryFrame m #[(.ref a0r), .null, .null, (.int 0), (.int 0)] 5 = mkF m 0 #[.val (.ref a0r), .val .null, .val .null, .val (.int 0), .val (.int 0)] [] := by first | (simp [entryFrame, mkF, argsToLocals, Value.category]; done) | rfl
def Q_rmThn (n0 : Nat) (Z : State) (cS : Int32) (aRS : Addr) (aEM : Addr) (aUS : Addr) (aSS : Addr) (a0r : Addr) (h0 : Heap) (v : Option Value) (h : Heap) (L : List Loc) : Prop := v = none ∧ Fr n0 L ∧ Keep h0 h [a0r] ∧ (Exa Z h a0r "com/example/metaloom/metaloom/store/Rejection") ∧ (Fld Z h a0r "java/lang/Throwable" "detailMessage" "Ljava/lang/String;" .null) ∧ (Fld Z h a0r "com/example/metaloom/metaloom/store/Rejection" "reason" "Lcom/example/metaloom/metaloom/store/Rejection$Reason;" .null) ∧ (Fld Z h a0r "com/example/metaloom/metaloom/store/Rejection" "position" "Ljava/util/OptionalInt;" .null)
set_option maxRecDepth 65536 in
set_option maxHeartbeats 40000000 in
theorem rmThn (l : Launch) (Z : State) (a0 : Array Value) (hw : ∀ d ∈ tables_1, d.before a0 Z = true) (ws : List Jvm.Cond) (cS : Int32) (aRS : Addr) (aEM : Addr) (aUS : Addr) (aSS : Addr) (a0r : Addr) (h0 : Heap) (n0 : Nat) (O0 : Old Z n0 h0) (GL : GF Z cS aRS aEM aUS aSS) (E_a0r : Exa Z h0 a0r "com/example/metaloom/metaloom/store/Rejection") (F_cause_a0r : Fld Z h0 a0r "java/lang/Throwable" "cause" "Ljava/lang/Throwable;" .null) (F_stackTrace_a0r : Fld Z h0 a0r "java/lang/Throwable" "stackTrace" "[Ljava/lang/StackTraceElement;" .null) (F_suppressedExceptions_a0r : Fld Z h0 a0r "java/lang/Throwable" "suppressedExceptions" "Ljava/util/List;" .null) (F_detailMessage_a0r : Fld Z h0 a0r "java/lang/Throwable" "detailMessage" "Ljava/lang/String;" .null) (F_reason_a0r : Fld Z h0 a0r "com/example/metaloom/metaloom/store/Rejection" "reason" "Lcom/example/metaloom/metaloom/store/Rejection$Reason;" .null) (F_position_a0r : Fld Z h0 a0r "com/example/metaloom/metaloom/store/Rejection" "position" "Ljava/util/OptionalInt;" .null) (g_a0r : n0 ≤ a0r) :
    MetFree l MN_11 (head1 (Jvm.Cond.code MN_11 jdk_78_method_5_code 5 none :: ws) ({ frames := 1, cells := 0, slots := 0, locals := 12 } : Room)) (fun a U => a = #[(.ref a0r), .null, .null, (.int 0), (.int 0)] ∧ Z.Warmed39 U.vm ∧ U.heap = h0) (fun _ _ _ _ _ => True) (fun _ U o U' => ∃ v L, o = .returned v ∧ Q_rmThn n0 Z cS aRS aEM aUS aSS a0r h0 v U'.heap L ∧ FrameEnd U o U' L ({ frames := 1, cells := 0, slots := 0, locals := 12 } : Room).cells ({ frames := 1, cells := 0, slots := 0, locals := 12 } : Room).slots) := by
  refine MetFree.of_bodySF (plainFor_of_name pnv3) hisR ?_
  intro p e s m args below meth c s₁ Bd hml0 hP hK
  obtain ⟨rfl, hZ, hh⟩ := hP
  have hx := Bd.exec
  have hby := Bd.bytes
  have hml : c.maxLocals = 5 := hml0
  have hown : s.vm.findClass "java/lang/Throwable" = some m.cls := findClass_of_methodNamed Bd.named
  have hnm := (name_of_methodNamed Bd.named Bd.method).1
  have X0 : Stand p l e ({ frames := 1, cells := 0, slots := 0, locals := 12 } : Room) s m #[(.ref a0r), .null, .null, (.int 0), (.int 0)] below meth c s₁ [] 0 0 := Stand.of_body Bd
  have e0 : s₁.heap = h0 := by rw [← hh, Bd.state]; rfl
  have N0 := Fr.nil n0
  have pre0 : ∀ t, Steps p.tables e below (s₁.setTop (mkF m 0 #[.val (.ref a0r), .val .null, .val .null, .val (.int 0), .val (.int 0)] [])) t → Steps p.tables e below (s₁.setTop (entryFrame m #[(.ref a0r), .null, .null, (.int 0), (.int 0)] 5)) t := fun t k => castTop (ef_rmThn m a0r) k
  have GL' := GL
  obtain ⟨GCS, GCP, GSR, GSE, GEE, GFE, GSU, GSS, GA16, GHI, GLO⟩ := GL'
  obtain ⟨T1, X1, e1, st1⟩ := initO X0 hx hZ hown (Wd hw 72 rfl) (Wd hw 17 rfl) (Wd hw 18 rfl) e0 (g := (mkF m 1 #[.val (.ref a0r), .val .null, .val .null, .val (.int 0), .val (.int 0)] [(.ref a0r)])) rfl (by rw [hml]; rfl) rfl (hb hby d14_1) (by decide) (W := 0) (by show 2 * 0 + _ ≤ _; exact Nat.le_of_eq rfl) (by decide)
  obtain ⟨T2, h2, X2, e2, W2, st2⟩ := putF X1 hx hZ hown (host := "") (Or.inl (Wd hw 73 rfl)) Via.refl e1 F_cause_a0r E_a0r (Or.inl (Wd hw 74 rfl)) (Wd hw 40 rfl) (ty := (.object "java/lang/Throwable")) (by decide) rfl rfl (g := (mkF m 6 #[.val (.ref a0r), .val .null, .val .null, .val (.int 0), .val (.int 0)] [(.ref a0r), (.ref a0r)])) rfl rfl (hb hby d14_6)
  have Fw2 := F_cause_a0r.same W2
  have K2 : Keep h0 h2 [a0r] := (Keep.refl h0 [a0r]).wr W2 (Or.inl (List.mem_of_getElem? (i := 0) rfl))
  have O2 := O0.wr W2 g_a0r
  have N2 := Fr.snoc X2 N0 g_a0r
  obtain ⟨T3, X3, e3, st3⟩ := getS2 X2 hx hZ hown (host := "") (Or.inl (Wd hw 75 rfl)) Via.refl e2 (GSU.ext O2.2) (g := (mkF m 10 #[.val (.ref a0r), .val .null, .val .null, .val (.int 0), .val (.int 0)] [(.ref a0r)])) rfl (hb hby d14_10)
  obtain ⟨T4, h4, X4, e4, W4, st4⟩ := putF X3 hx hZ hown (host := "") (Or.inl (Wd hw 76 rfl)) Via.refl e3 (F_stackTrace_a0r.other W2 (Or.inr (slot_ne (a0 := a0) (Or.inl (Wd hw 77 rfl)) (Or.inl (Wd hw 74 rfl)) (by decide) (t := (.array (.object "java/lang/StackTraceElement"))) (t' := (.object "java/lang/Throwable")) (by decide) (by decide)))) (E_a0r.wr W2) (Or.inl (Wd hw 77 rfl)) (Wd hw 40 rfl) (ty := (.array (.object "java/lang/StackTraceElement"))) (by decide) rfl rfl (g := (mkF m 13 #[.val (.ref a0r), .val .null, .val .null, .val (.int 0), .val (.int 0)] [(.ref aUS), (.ref a0r)])) rfl rfl (hb hby d14_13)
  have Fw4 := (F_stackTrace_a0r.other W2 (Or.inr (slot_ne (a0 := a0) (Or.inl (Wd hw 77 rfl)) (Or.inl (Wd hw 74 rfl)) (by decide) (t := (.array (.object "java/lang/StackTraceElement"))) (t' := (.object "java/lang/Throwable")) (by decide) (by decide)))).same W4
  have K4 : Keep h0 h4 [a0r] := K2.wr W4 (Or.inl (List.mem_of_getElem? (i := 0) rfl))
  have O4 := O2.wr W4 g_a0r
  have N4 := Fr.snoc X4 N2 g_a0r
  obtain ⟨T5, X5, e5, st5⟩ := getS2 X4 hx hZ hown (host := "") (Or.inl (Wd hw 78 rfl)) Via.refl e4 (GSS.ext O4.2) (g := (mkF m 17 #[.val (.ref a0r), .val .null, .val .null, .val (.int 0), .val (.int 0)] [(.ref a0r)])) rfl (hb hby d14_17)
  obtain ⟨T6, h6, X6, e6, W6, st6⟩ := putF X5 hx hZ hown (host := "") (Or.inl (Wd hw 79 rfl)) Via.refl e5 ((F_suppressedExceptions_a0r.other W2 (Or.inr (slot_ne (a0 := a0) (Or.inl (Wd hw 80 rfl)) (Or.inl (Wd hw 74 rfl)) (by decide) (t := (.object "java/util/List")) (t' := (.object "java/lang/Throwable")) (by decide) (by decide)))).other W4 (Or.inr (slot_ne (a0 := a0) (Or.inl (Wd hw 80 rfl)) (Or.inl (Wd hw 77 rfl)) (by decide) (t := (.object "java/util/List")) (t' := (.array (.object "java/lang/StackTraceElement"))) (by decide) (by decide)))) ((E_a0r.wr W2).wr W4) (Or.inl (Wd hw 80 rfl)) (Wd hw 40 rfl) (ty := (.object "java/util/List")) (by decide) rfl rfl (g := (mkF m 20 #[.val (.ref a0r), .val .null, .val .null, .val (.int 0), .val (.int 0)] [(.ref aSS), (.ref a0r)])) rfl rfl (hb hby d14_20)
  have Fw6 := ((F_suppressedExceptions_a0r.other W2 (Or.inr (slot_ne (a0 := a0) (Or.inl (Wd hw 80 rfl)) (Or.inl (Wd hw 74 rfl)) (by decide) (t := (.object "java/util/List")) (t' := (.object "java/lang/Throwable")) (by decide) (by decide)))).other W4 (Or.inr (slot_ne (a0 := a0) (Or.inl (Wd hw 80 rfl)) (Or.inl (Wd hw 77 rfl)) (by decide) (t := (.object "java/util/List")) (t' := (.array (.object "java/lang/StackTraceElement"))) (by decide) (by decide)))).same W6
  have K6 : Keep h0 h6 [a0r] := K4.wr W6 (Or.inl (List.mem_of_getElem? (i := 0) rfl))
  have O6 := O4.wr W6 g_a0r
  have N6 := Fr.snoc X6 N4 g_a0r
  obtain ⟨T7, h7, X7, e7, W7, st7⟩ := putF X6 hx hZ hown (host := "") (Or.inl (Wd hw 76 rfl)) Via.refl e6 (Fw4.other W6 (Or.inr (slot_ne (a0 := a0) (Or.inl (Wd hw 77 rfl)) (Or.inl (Wd hw 80 rfl)) (by decide) (t := (.array (.object "java/lang/StackTraceElement"))) (t' := (.object "java/util/List")) (by decide) (by decide)))) (((E_a0r.wr W2).wr W4).wr W6) (Or.inl (Wd hw 77 rfl)) (Wd hw 40 rfl) (ty := (.array (.object "java/lang/StackTraceElement"))) (by decide) rfl rfl (g := (mkF m 38 #[.val (.ref a0r), .val .null, .val .null, .val (.int 0), .val (.int 0)] [.null, (.ref a0r)])) rfl rfl (hb hby d14_38)
  have Fw7 := (Fw4.other W6 (Or.inr (slot_ne (a0 := a0) (Or.inl (Wd hw 77 rfl)) (Or.inl (Wd hw 80 rfl)) (by decide) (t := (.array (.object "java/lang/StackTraceElement"))) (t' := (.object "java/util/List")) (by decide) (by decide)))).same W7
  have K7 : Keep h0 h7 [a0r] := K6.wr W7 (Or.inl (List.mem_of_getElem? (i := 0) rfl))
  have O7 := O6.wr W7 g_a0r
  have N7 := Fr.snoc X7 N6 g_a0r
  obtain ⟨T8, h8, X8, e8, W8, st8⟩ := putF X7 hx hZ hown (host := "") (Or.inl (Wd hw 81 rfl)) Via.refl e7 ((((F_detailMessage_a0r.other W2 (Or.inr (slot_ne (a0 := a0) (Or.inl (Wd hw 82 rfl)) (Or.inl (Wd hw 74 rfl)) (by decide) (t := (.object "java/lang/String")) (t' := (.object "java/lang/Throwable")) (by decide) (by decide)))).other W4 (Or.inr (slot_ne (a0 := a0) (Or.inl (Wd hw 82 rfl)) (Or.inl (Wd hw 77 rfl)) (by decide) (t := (.object "java/lang/String")) (t' := (.array (.object "java/lang/StackTraceElement"))) (by decide) (by decide)))).other W6 (Or.inr (slot_ne (a0 := a0) (Or.inl (Wd hw 82 rfl)) (Or.inl (Wd hw 80 rfl)) (by decide) (t := (.object "java/lang/String")) (t' := (.object "java/util/List")) (by decide) (by decide)))).other W7 (Or.inr (slot_ne (a0 := a0) (Or.inl (Wd hw 82 rfl)) (Or.inl (Wd hw 77 rfl)) (by decide) (t := (.object "java/lang/String")) (t' := (.array (.object "java/lang/StackTraceElement"))) (by decide) (by decide)))) ((((E_a0r.wr W2).wr W4).wr W6).wr W7) (Or.inl (Wd hw 82 rfl)) (Wd hw 40 rfl) (ty := (.object "java/lang/String")) (by decide) rfl rfl (g := (mkF m 43 #[.val (.ref a0r), .val .null, .val .null, .val (.int 0), .val (.int 0)] [.null, (.ref a0r)])) rfl rfl (hb hby d14_43)
  have Fw8 := ((((F_detailMessage_a0r.other W2 (Or.inr (slot_ne (a0 := a0) (Or.inl (Wd hw 82 rfl)) (Or.inl (Wd hw 74 rfl)) (by decide) (t := (.object "java/lang/String")) (t' := (.object "java/lang/Throwable")) (by decide) (by decide)))).other W4 (Or.inr (slot_ne (a0 := a0) (Or.inl (Wd hw 82 rfl)) (Or.inl (Wd hw 77 rfl)) (by decide) (t := (.object "java/lang/String")) (t' := (.array (.object "java/lang/StackTraceElement"))) (by decide) (by decide)))).other W6 (Or.inr (slot_ne (a0 := a0) (Or.inl (Wd hw 82 rfl)) (Or.inl (Wd hw 80 rfl)) (by decide) (t := (.object "java/lang/String")) (t' := (.object "java/util/List")) (by decide) (by decide)))).other W7 (Or.inr (slot_ne (a0 := a0) (Or.inl (Wd hw 82 rfl)) (Or.inl (Wd hw 77 rfl)) (by decide) (t := (.object "java/lang/String")) (t' := (.array (.object "java/lang/StackTraceElement"))) (by decide) (by decide)))).same W8
  have K8 : Keep h0 h8 [a0r] := K7.wr W8 (Or.inl (List.mem_of_getElem? (i := 0) rfl))
  have O8 := O7.wr W8 g_a0r
  have N8 := Fr.snoc X8 N7 g_a0r
  obtain ⟨T9, h9, X9, e9, W9, st9⟩ := putF X8 hx hZ hown (host := "") (Or.inl (Wd hw 73 rfl)) Via.refl e8 ((((Fw2.other W4 (Or.inr (slot_ne (a0 := a0) (Or.inl (Wd hw 74 rfl)) (Or.inl (Wd hw 77 rfl)) (by decide) (t := (.object "java/lang/Throwable")) (t' := (.array (.object "java/lang/StackTraceElement"))) (by decide) (by decide)))).other W6 (Or.inr (slot_ne (a0 := a0) (Or.inl (Wd hw 74 rfl)) (Or.inl (Wd hw 80 rfl)) (by decide) (t := (.object "java/lang/Throwable")) (t' := (.object "java/util/List")) (by decide) (by decide)))).other W7 (Or.inr (slot_ne (a0 := a0) (Or.inl (Wd hw 74 rfl)) (Or.inl (Wd hw 77 rfl)) (by decide) (t := (.object "java/lang/Throwable")) (t' := (.array (.object "java/lang/StackTraceElement"))) (by decide) (by decide)))).other W8 (Or.inr (slot_ne (a0 := a0) (Or.inl (Wd hw 74 rfl)) (Or.inl (Wd hw 82 rfl)) (by decide) (t := (.object "java/lang/Throwable")) (t' := (.object "java/lang/String")) (by decide) (by decide)))) (((((E_a0r.wr W2).wr W4).wr W6).wr W7).wr W8) (Or.inl (Wd hw 74 rfl)) (Wd hw 40 rfl) (ty := (.object "java/lang/Throwable")) (by decide) rfl rfl (g := (mkF m 48 #[.val (.ref a0r), .val .null, .val .null, .val (.int 0), .val (.int 0)] [.null, (.ref a0r)])) rfl rfl (hb hby d14_48)
  have Fw9 := ((((Fw2.other W4 (Or.inr (slot_ne (a0 := a0) (Or.inl (Wd hw 74 rfl)) (Or.inl (Wd hw 77 rfl)) (by decide) (t := (.object "java/lang/Throwable")) (t' := (.array (.object "java/lang/StackTraceElement"))) (by decide) (by decide)))).other W6 (Or.inr (slot_ne (a0 := a0) (Or.inl (Wd hw 74 rfl)) (Or.inl (Wd hw 80 rfl)) (by decide) (t := (.object "java/lang/Throwable")) (t' := (.object "java/util/List")) (by decide) (by decide)))).other W7 (Or.inr (slot_ne (a0 := a0) (Or.inl (Wd hw 74 rfl)) (Or.inl (Wd hw 77 rfl)) (by decide) (t := (.object "java/lang/Throwable")) (t' := (.array (.object "java/lang/StackTraceElement"))) (by decide) (by decide)))).other W8 (Or.inr (slot_ne (a0 := a0) (Or.inl (Wd hw 74 rfl)) (Or.inl (Wd hw 82 rfl)) (by decide) (t := (.object "java/lang/Throwable")) (t' := (.object "java/lang/String")) (by decide) (by decide)))).same W9
  have K9 : Keep h0 h9 [a0r] := K8.wr W9 (Or.inl (List.mem_of_getElem? (i := 0) rfl))
  have O9 := O8.wr W9 g_a0r
  have N9 := Fr.snoc X9 N8 g_a0r
  obtain ⟨T10, h10, X10, e10, W10, st10⟩ := putF X9 hx hZ hown (host := "") (Or.inl (Wd hw 79 rfl)) Via.refl e9 (((Fw6.other W7 (Or.inr (slot_ne (a0 := a0) (Or.inl (Wd hw 80 rfl)) (Or.inl (Wd hw 77 rfl)) (by decide) (t := (.object "java/util/List")) (t' := (.array (.object "java/lang/StackTraceElement"))) (by decide) (by decide)))).other W8 (Or.inr (slot_ne (a0 := a0) (Or.inl (Wd hw 80 rfl)) (Or.inl (Wd hw 82 rfl)) (by decide) (t := (.object "java/util/List")) (t' := (.object "java/lang/String")) (by decide) (by decide)))).other W9 (Or.inr (slot_ne (a0 := a0) (Or.inl (Wd hw 80 rfl)) (Or.inl (Wd hw 74 rfl)) (by decide) (t := (.object "java/util/List")) (t' := (.object "java/lang/Throwable")) (by decide) (by decide)))) ((((((E_a0r.wr W2).wr W4).wr W6).wr W7).wr W8).wr W9) (Or.inl (Wd hw 80 rfl)) (Wd hw 40 rfl) (ty := (.object "java/util/List")) (by decide) rfl rfl (g := (mkF m 57 #[.val (.ref a0r), .val .null, .val .null, .val (.int 0), .val (.int 0)] [.null, (.ref a0r)])) rfl rfl (hb hby d14_57)
  have Fw10 := (((Fw6.other W7 (Or.inr (slot_ne (a0 := a0) (Or.inl (Wd hw 80 rfl)) (Or.inl (Wd hw 77 rfl)) (by decide) (t := (.object "java/util/List")) (t' := (.array (.object "java/lang/StackTraceElement"))) (by decide) (by decide)))).other W8 (Or.inr (slot_ne (a0 := a0) (Or.inl (Wd hw 80 rfl)) (Or.inl (Wd hw 82 rfl)) (by decide) (t := (.object "java/util/List")) (t' := (.object "java/lang/String")) (by decide) (by decide)))).other W9 (Or.inr (slot_ne (a0 := a0) (Or.inl (Wd hw 80 rfl)) (Or.inl (Wd hw 74 rfl)) (by decide) (t := (.object "java/util/List")) (t' := (.object "java/lang/Throwable")) (by decide) (by decide)))).same W10
  have K10 : Keep h0 h10 [a0r] := K9.wr W10 (Or.inl (List.mem_of_getElem? (i := 0) rfl))
  have O10 := O9.wr W10 g_a0r
  have N10 := Fr.snoc X10 N9 g_a0r
  obtain ⟨fs, hr, hrun, hended, hW, hsame⟩ := X10.leave (v := none) (fun _ => rfl)
  refine ⟨_, _, pre0 _ ?_, hrun, hended, _, _, rfl, ?_, ⟨_, rfl⟩, hW, hsame.mono (by decide) (by decide)⟩
  · show Steps p.tables e below (s₁.setTop (mkF m 0 #[.val (.ref a0r), .val .null, .val .null, .val (.int 0), .val (.int 0)] [])) _
    refine XS.aloadN X0.here hx rfl (hb hby d14_0) rfl rfl ?_
    show Steps p.tables e below (s₁.setTop (mkF m 1 #[.val (.ref a0r), .val .null, .val .null, .val (.int 0), .val (.int 0)] [(.ref a0r)])) _
    refine st1 _ ?_
    show Steps p.tables e below (T1.setTop (mkF m 4 #[.val (.ref a0r), .val .null, .val .null, .val (.int 0), .val (.int 0)] [])) _
    refine XS.aloadN X1.here hx rfl (hb hby d14_4) rfl rfl ?_
    refine XS.aloadN X1.here hx rfl (hb hby d14_5) rfl rfl ?_
    show Steps p.tables e below (T1.setTop (mkF m 6 #[.val (.ref a0r), .val .null, .val .null, .val (.int 0), .val (.int 0)] [(.ref a0r), (.ref a0r)])) _
    refine st2 _ ?_
    show Steps p.tables e below (T2.setTop (mkF m 9 #[.val (.ref a0r), .val .null, .val .null, .val (.int 0), .val (.int 0)] [])) _
    refine XS.aloadN X2.here hx rfl (hb hby d14_9) rfl rfl ?_
    show Steps p.tables e below (T2.setTop (mkF m 10 #[.val (.ref a0r), .val .null, .val .null, .val (.int 0), .val (.int 0)] [(.ref a0r)])) _
    refine st3 _ ?_
    show Steps p.tables e below (T3.setTop (mkF m 13 #[.val (.ref a0r), .val .null, .val .null, .val (.int 0), .val (.int 0)] [(.ref aUS), (.ref a0r)])) _
    refine st4 _ ?_
    show Steps p.tables e below (T4.setTop (mkF m 16 #[.val (.ref a0r), .val .null, .val .null, .val (.int 0), .val (.int 0)] [])) _
    refine XS.aloadN X4.here hx rfl (hb hby d14_16) rfl rfl ?_
    show Steps p.tables e below (T4.setTop (mkF m 17 #[.val (.ref a0r), .val .null, .val .null, .val (.int 0), .val (.int 0)] [(.ref a0r)])) _
    refine st5 _ ?_
    show Steps p.tables e below (T5.setTop (mkF m 20 #[.val (.ref a0r), .val .null, .val .null, .val (.int 0), .val (.int 0)] [(.ref aSS), (.ref a0r)])) _
    refine st6 _ ?_
    show Steps p.tables e below (T6.setTop (mkF m 23 #[.val (.ref a0r), .val .null, .val .null, .val (.int 0), .val (.int 0)] [])) _
    refine XS.iload X6.here hx rfl (hb hby d14_23) rfl ?_
    refine XS.ifYes X6.here hx rfl (pc0 := 25) (pc' := 36) rfl (hb hby d14_25) rfl ((if0 _ _).trans (teq (by decide : (0 : Int32) = (0 : Int32))).1) (by decide) (by decide) ?_
    refine XS.aloadN X6.here hx rfl (hb hby d14_36) rfl rfl ?_
    refine XS.aconstNull X6.here hx rfl (hb hby d14_37) ?_
    show Steps p.tables e below (T6.setTop (mkF m 38 #[.val (.ref a0r), .val .null, .val .null, .val (.int 0), .val (.int 0)] [.null, (.ref a0r)])) _
    refine st7 _ ?_
    show Steps p.tables e below (T7.setTop (mkF m 41 #[.val (.ref a0r), .val .null, .val .null, .val (.int 0), .val (.int 0)] [])) _
    refine XS.aloadN X7.here hx rfl (hb hby d14_41) rfl rfl ?_
    refine XS.aloadN X7.here hx rfl (hb hby d14_42) rfl rfl ?_
    show Steps p.tables e below (T7.setTop (mkF m 43 #[.val (.ref a0r), .val .null, .val .null, .val (.int 0), .val (.int 0)] [.null, (.ref a0r)])) _
    refine st8 _ ?_
    show Steps p.tables e below (T8.setTop (mkF m 46 #[.val (.ref a0r), .val .null, .val .null, .val (.int 0), .val (.int 0)] [])) _
    refine XS.aloadN X8.here hx rfl (hb hby d14_46) rfl rfl ?_
    refine XS.aloadN X8.here hx rfl (hb hby d14_47) rfl rfl ?_
    show Steps p.tables e below (T8.setTop (mkF m 48 #[.val (.ref a0r), .val .null, .val .null, .val (.int 0), .val (.int 0)] [.null, (.ref a0r)])) _
    refine st9 _ ?_
    show Steps p.tables e below (T9.setTop (mkF m 51 #[.val (.ref a0r), .val .null, .val .null, .val (.int 0), .val (.int 0)] [])) _
    refine XS.iloadN X9.here hx rfl (hb hby d14_51) rfl ?_
    refine XS.ifNo X9.here hx rfl (hb hby d14_52) rfl ((if0 _ _).trans (teq (by decide : (0 : Int32) = (0 : Int32))).2) ?_
    refine XS.aloadN X9.here hx rfl (hb hby d14_55) rfl rfl ?_
    refine XS.aconstNull X9.here hx rfl (hb hby d14_56) ?_
    show Steps p.tables e below (T9.setTop (mkF m 57 #[.val (.ref a0r), .val .null, .val .null, .val (.int 0), .val (.int 0)] [.null, (.ref a0r)])) _
    refine st10 _ ?_
    show Steps p.tables e below (T10.setTop (mkF m 60 #[.val (.ref a0r), .val .null, .val .null, .val (.int 0), .val (.int 0)] [])) _
    exact X10.returnOut hx Bd.returns (hb hby d14_60) hr
  · show Q_rmThn n0 Z cS aRS aEM aUS aSS a0r h0 _ T10.heap _
    rw [e10]
    exact ⟨rfl, N10, K10, (((((((E_a0r.wr W2).wr W4).wr W6).wr W7).wr W8).wr W9).wr W10), ((Fw8.other W9 (Or.inr (slot_ne (a0 := a0) (Or.inl (Wd hw 82 rfl)) (Or.inl (Wd hw 74 rfl)) (by decide) (t := (.object "java/lang/String")) (t' := (.object "java/lang/Throwable")) (by decide) (by decide)))).other W10 (Or.inr (slot_ne (a0 := a0) (Or.inl (Wd hw 82 rfl)) (Or.inl (Wd hw 80 rfl)) (by decide) (t := (.object "java/lang/String")) (t' := (.object "java/util/List")) (by decide) (by decide)))), (((((((F_reason_a0r.other W2 (Or.inr (slot_ne (a0 := a0) (Or.inr (Wd hw 84 rfl)) (Or.inl (Wd hw 74 rfl)) (by decide) (t := (.object "com/example/metaloom/metaloom/store/Rejection$Reason")) (t' := (.object "java/lang/Throwable")) (by decide) (by decide)))).other W4 (Or.inr (slot_ne (a0 := a0) (Or.inr (Wd hw 84 rfl)) (Or.inl (Wd hw 77 rfl)) (by decide) (t := (.object "com/example/metaloom/metaloom/store/Rejection$Reason")) (t' := (.array (.object "java/lang/StackTraceElement"))) (by decide) (by decide)))).other W6 (Or.inr (slot_ne (a0 := a0) (Or.inr (Wd hw 84 rfl)) (Or.inl (Wd hw 80 rfl)) (by decide) (t := (.object "com/example/metaloom/metaloom/store/Rejection$Reason")) (t' := (.object "java/util/List")) (by decide) (by decide)))).other W7 (Or.inr (slot_ne (a0 := a0) (Or.inr (Wd hw 84 rfl)) (Or.inl (Wd hw 77 rfl)) (by decide) (t := (.object "com/example/metaloom/metaloom/store/Rejection$Reason")) (t' := (.array (.object "java/lang/StackTraceElement"))) (by decide) (by decide)))).other W8 (Or.inr (slot_ne (a0 := a0) (Or.inr (Wd hw 84 rfl)) (Or.inl (Wd hw 82 rfl)) (by decide) (t := (.object "com/example/metaloom/metaloom/store/Rejection$Reason")) (t' := (.object "java/lang/String")) (by decide) (by decide)))).other W9 (Or.inr (slot_ne (a0 := a0) (Or.inr (Wd hw 84 rfl)) (Or.inl (Wd hw 74 rfl)) (by decide) (t := (.object "com/example/metaloom/metaloom/store/Rejection$Reason")) (t' := (.object "java/lang/Throwable")) (by decide) (by decide)))).other W10 (Or.inr (slot_ne (a0 := a0) (Or.inr (Wd hw 84 rfl)) (Or.inl (Wd hw 80 rfl)) (by decide) (t := (.object "com/example/metaloom/metaloom/store/Rejection$Reason")) (t' := (.object "java/util/List")) (by decide) (by decide)))), (((((((F_position_a0r.other W2 (Or.inr (slot_ne (a0 := a0) (Or.inr (Wd hw 86 rfl)) (Or.inl (Wd hw 74 rfl)) (by decide) (t := (.object "java/util/OptionalInt")) (t' := (.object "java/lang/Throwable")) (by decide) (by decide)))).other W4 (Or.inr (slot_ne (a0 := a0) (Or.inr (Wd hw 86 rfl)) (Or.inl (Wd hw 77 rfl)) (by decide) (t := (.object "java/util/OptionalInt")) (t' := (.array (.object "java/lang/StackTraceElement"))) (by decide) (by decide)))).other W6 (Or.inr (slot_ne (a0 := a0) (Or.inr (Wd hw 86 rfl)) (Or.inl (Wd hw 80 rfl)) (by decide) (t := (.object "java/util/OptionalInt")) (t' := (.object "java/util/List")) (by decide) (by decide)))).other W7 (Or.inr (slot_ne (a0 := a0) (Or.inr (Wd hw 86 rfl)) (Or.inl (Wd hw 77 rfl)) (by decide) (t := (.object "java/util/OptionalInt")) (t' := (.array (.object "java/lang/StackTraceElement"))) (by decide) (by decide)))).other W8 (Or.inr (slot_ne (a0 := a0) (Or.inr (Wd hw 86 rfl)) (Or.inl (Wd hw 82 rfl)) (by decide) (t := (.object "java/util/OptionalInt")) (t' := (.object "java/lang/String")) (by decide) (by decide)))).other W9 (Or.inr (slot_ne (a0 := a0) (Or.inr (Wd hw 86 rfl)) (Or.inl (Wd hw 74 rfl)) (by decide) (t := (.object "java/util/OptionalInt")) (t' := (.object "java/lang/Throwable")) (by decide) (by decide)))).other W10 (Or.inr (slot_ne (a0 := a0) (Or.inr (Wd hw 86 rfl)) (Or.inl (Wd hw 80 rfl)) (by decide) (t := (.object "java/util/OptionalInt")) (t' := (.object "java/util/List")) (by decide) (by decide))))⟩
def Q_rmExn (n0 : Nat) (Z : State) (cS : Int32) (aRS : Addr) (aEM : Addr) (aUS : Addr) (aSS : Addr) (a0r : Addr) (h0 : Heap) (v : Option Value) (h : Heap) (L : List Loc) : Prop := v = none ∧ Fr n0 L ∧ Keep h0 h [a0r] ∧ (Exa Z h a0r "com/example/metaloom/metaloom/store/Rejection") ∧ (Fld Z h a0r "java/lang/Throwable" "detailMessage" "Ljava/lang/String;" .null) ∧ (Fld Z h a0r "com/example/metaloom/metaloom/store/Rejection" "reason" "Lcom/example/metaloom/metaloom/store/Rejection$Reason;" .null) ∧ (Fld Z h a0r "com/example/metaloom/metaloom/store/Rejection" "position" "Ljava/util/OptionalInt;" .null)
set_option maxRecDepth 65536 in
set_option maxHeartbeats 40000000 in
theorem rmExn (l : Launch) (Z : State) (a0 : Array Value) (hw : ∀ d ∈ tables_1, d.before a0 Z = true) (ws : List Jvm.Cond) (cS : Int32) (aRS : Addr) (aEM : Addr) (aUS : Addr) (aSS : Addr) (a0r : Addr) (h0 : Heap) (n0 : Nat) (O0 : Old Z n0 h0) (GL : GF Z cS aRS aEM aUS aSS) (E_a0r : Exa Z h0 a0r "com/example/metaloom/metaloom/store/Rejection") (F_cause_a0r : Fld Z h0 a0r "java/lang/Throwable" "cause" "Ljava/lang/Throwable;" .null) (F_stackTrace_a0r : Fld Z h0 a0r "java/lang/Throwable" "stackTrace" "[Ljava/lang/StackTraceElement;" .null) (F_suppressedExceptions_a0r : Fld Z h0 a0r "java/lang/Throwable" "suppressedExceptions" "Ljava/util/List;" .null) (F_detailMessage_a0r : Fld Z h0 a0r "java/lang/Throwable" "detailMessage" "Ljava/lang/String;" .null) (F_reason_a0r : Fld Z h0 a0r "com/example/metaloom/metaloom/store/Rejection" "reason" "Lcom/example/metaloom/metaloom/store/Rejection$Reason;" .null) (F_position_a0r : Fld Z h0 a0r "com/example/metaloom/metaloom/store/Rejection" "position" "Ljava/util/OptionalInt;" .null) (g_a0r : n0 ≤ a0r) :
    MetFree l MN_12 (head1 (Jvm.Cond.code MN_12 jdk_59_method_5_code 5 none :: ws) ({ frames := 2, cells := 0, slots := 0, locals := 28 } : Room)) (fun a U => a = #[(.ref a0r), .null, .null, (.int 0), (.int 0)] ∧ Z.Warmed39 U.vm ∧ U.heap = h0) (fun _ _ _ _ _ => True) (fun _ U o U' => ∃ v L, o = .returned v ∧ Q_rmExn n0 Z cS aRS aEM aUS aSS a0r h0 v U'.heap L ∧ FrameEnd U o U' L ({ frames := 2, cells := 0, slots := 0, locals := 28 } : Room).cells ({ frames := 2, cells := 0, slots := 0, locals := 28 } : Room).slots) := by
  refine MetFree.of_bodySF (plainFor_of_name pnv4) hisR ?_
  intro p e s m args below meth c s₁ Bd hml0 hP hK
  obtain ⟨rfl, hZ, hh⟩ := hP
  have hx := Bd.exec
  have hby := Bd.bytes
  have hml : c.maxLocals = 5 := hml0
  have hown : s.vm.findClass "java/lang/Exception" = some m.cls := findClass_of_methodNamed Bd.named
  have hnm := (name_of_methodNamed Bd.named Bd.method).1
  have X0 : Stand p l e ({ frames := 2, cells := 0, slots := 0, locals := 28 } : Room) s m #[(.ref a0r), .null, .null, (.int 0), (.int 0)] below meth c s₁ [] 0 0 := Stand.of_body Bd
  have e0 : s₁.heap = h0 := by rw [← hh, Bd.state]; rfl
  have N0 := Fr.nil n0
  have pre0 : ∀ t, Steps p.tables e below (s₁.setTop (mkF m 0 #[.val (.ref a0r), .val .null, .val .null, .val (.int 0), .val (.int 0)] [])) t → Steps p.tables e below (s₁.setTop (entryFrame m #[(.ref a0r), .null, .null, (.int 0), (.int 0)] 5)) t := fun t k => castTop (ef_rmThn m a0r) k
  have GL' := GL
  obtain ⟨GCS, GCP, GSR, GSE, GEE, GFE, GSU, GSS, GA16, GHI, GLO⟩ := GL'
  obtain ⟨_, _, ⟨T1, L1, k1, n1⟩, -, X1, ⟨Lc1, hQ1, l1, y1, z1⟩, st1⟩ := X0.specialBack hx (y := MN_11) rfl hown (mvT hZ (Wd hw 66 rfl)) (mvT hZ (Wd hw 67 rfl)) (mvT hZ (Wd hw 71 rfl)) (by decide) (backOf (W := 0) (rmThn l Z a0 hw [] cS aRS aEM aUS aSS (a0r) (h0) n0 O0 GL E_a0r F_cause_a0r F_stackTrace_a0r F_suppressedExceptions_a0r F_detailMessage_a0r F_reason_a0r F_position_a0r g_a0r) hZ (Wd hw 71 rfl) (Wd hw 70 rfl) (by decide) (by decide)) (g := (mkF m 6 #[.val (.ref a0r), .val .null, .val .null, .val (.int 0), .val (.int 0)] [(.int 0), (.int 0), .null, .null, (.ref a0r)])) rfl (by rw [hml]; rfl) (Steps.refl _) (a := a0r) (argsL := [.null, .null, (.int 0), (.int 0)]) (rest := []) (lenOf pdv8 rfl) rfl (by show 2 * 0 + _ ≤ _; exact Nat.le_of_eq rfl) (hb hby d13_6) (fun _ _ => ⟨rfl, e0, (by decide : 0 + 0 ≤ _), (by decide : 0 + 0 ≤ _)⟩)
  dsimp only [Pt.U, Pt.locs, Pt.cells, Pt.slots] at X1 l1 y1 z1 st1 hQ1
  subst l1 y1 z1
  obtain ⟨rfl, N1q, Kc1, P1_0, P1_1, P1_2, P1_3⟩ := hQ1
  have K1 : Keep h0 T1.heap [a0r] := (Keep.refl h0 [a0r]).trans Kc1 (allS (Or.inl (List.mem_of_getElem? (i := 0) rfl)) all0)
  have O1 := O0.keep Kc1 (allS g_a0r all0)
  have N1 := Fr.app N0 N1q
  obtain ⟨fs, hr, hrun, hended, hW, hsame⟩ := X1.leave (v := none) (fun _ => rfl)
  refine ⟨_, _, pre0 _ ?_, hrun, hended, _, _, rfl, ?_, ⟨_, rfl⟩, hW, hsame.mono (by decide) (by decide)⟩
  · show Steps p.tables e below (s₁.setTop (mkF m 0 #[.val (.ref a0r), .val .null, .val .null, .val (.int 0), .val (.int 0)] [])) _
    refine XS.aloadN X0.here hx rfl (hb hby d13_0) rfl rfl ?_
    refine XS.aloadN X0.here hx rfl (hb hby d13_1) rfl rfl ?_
    refine XS.aloadN X0.here hx rfl (hb hby d13_2) rfl rfl ?_
    refine XS.iloadN X0.here hx rfl (hb hby d13_3) rfl ?_
    show Steps p.tables e below (s₁.setTop (mkF m 4 #[.val (.ref a0r), .val .null, .val .null, .val (.int 0), .val (.int 0)] [(.int 0), .null, .null, (.ref a0r)])) _
    refine XS.iload X0.here hx rfl (hb hby d13_4) rfl ?_
    show Steps p.tables e below (s₁.setTop (mkF m 6 #[.val (.ref a0r), .val .null, .val .null, .val (.int 0), .val (.int 0)] [(.int 0), (.int 0), .null, .null, (.ref a0r)])) _
    refine st1.trans ?_
    show Steps p.tables e below (T1.setTop (mkF m 9 #[.val (.ref a0r), .val .null, .val .null, .val (.int 0), .val (.int 0)] [])) _
    exact X1.returnOut hx Bd.returns (hb hby d13_9) hr
  · show Q_rmExn n0 Z cS aRS aEM aUS aSS a0r h0 _ T1.heap _
    exact ⟨rfl, N1, K1, P1_0, P1_1, P1_2, P1_3⟩
def Q_rmRtn (n0 : Nat) (Z : State) (cS : Int32) (aRS : Addr) (aEM : Addr) (aUS : Addr) (aSS : Addr) (a0r : Addr) (h0 : Heap) (v : Option Value) (h : Heap) (L : List Loc) : Prop := v = none ∧ Fr n0 L ∧ Keep h0 h [a0r] ∧ (Exa Z h a0r "com/example/metaloom/metaloom/store/Rejection") ∧ (Fld Z h a0r "java/lang/Throwable" "detailMessage" "Ljava/lang/String;" .null) ∧ (Fld Z h a0r "com/example/metaloom/metaloom/store/Rejection" "reason" "Lcom/example/metaloom/metaloom/store/Rejection$Reason;" .null) ∧ (Fld Z h a0r "com/example/metaloom/metaloom/store/Rejection" "position" "Ljava/util/OptionalInt;" .null)
set_option maxRecDepth 65536 in
set_option maxHeartbeats 40000000 in
theorem rmRtn (l : Launch) (Z : State) (a0 : Array Value) (hw : ∀ d ∈ tables_1, d.before a0 Z = true) (ws : List Jvm.Cond) (cS : Int32) (aRS : Addr) (aEM : Addr) (aUS : Addr) (aSS : Addr) (a0r : Addr) (h0 : Heap) (n0 : Nat) (O0 : Old Z n0 h0) (GL : GF Z cS aRS aEM aUS aSS) (E_a0r : Exa Z h0 a0r "com/example/metaloom/metaloom/store/Rejection") (F_cause_a0r : Fld Z h0 a0r "java/lang/Throwable" "cause" "Ljava/lang/Throwable;" .null) (F_stackTrace_a0r : Fld Z h0 a0r "java/lang/Throwable" "stackTrace" "[Ljava/lang/StackTraceElement;" .null) (F_suppressedExceptions_a0r : Fld Z h0 a0r "java/lang/Throwable" "suppressedExceptions" "Ljava/util/List;" .null) (F_detailMessage_a0r : Fld Z h0 a0r "java/lang/Throwable" "detailMessage" "Ljava/lang/String;" .null) (F_reason_a0r : Fld Z h0 a0r "com/example/metaloom/metaloom/store/Rejection" "reason" "Lcom/example/metaloom/metaloom/store/Rejection$Reason;" .null) (F_position_a0r : Fld Z h0 a0r "com/example/metaloom/metaloom/store/Rejection" "position" "Ljava/util/OptionalInt;" .null) (g_a0r : n0 ≤ a0r) :
    MetFree l MN_13 (head1 (Jvm.Cond.code MN_13 jdk_58_method_5_code 5 none :: ws) ({ frames := 3, cells := 0, slots := 0, locals := 44 } : Room)) (fun a U => a = #[(.ref a0r), .null, .null, (.int 0), (.int 0)] ∧ Z.Warmed39 U.vm ∧ U.heap = h0) (fun _ _ _ _ _ => True) (fun _ U o U' => ∃ v L, o = .returned v ∧ Q_rmRtn n0 Z cS aRS aEM aUS aSS a0r h0 v U'.heap L ∧ FrameEnd U o U' L ({ frames := 3, cells := 0, slots := 0, locals := 44 } : Room).cells ({ frames := 3, cells := 0, slots := 0, locals := 44 } : Room).slots) := by
  refine MetFree.of_bodySF (plainFor_of_name pnv5) hisR ?_
  intro p e s m args below meth c s₁ Bd hml0 hP hK
  obtain ⟨rfl, hZ, hh⟩ := hP
  have hx := Bd.exec
  have hby := Bd.bytes
  have hml : c.maxLocals = 5 := hml0
  have hown : s.vm.findClass "java/lang/RuntimeException" = some m.cls := findClass_of_methodNamed Bd.named
  have hnm := (name_of_methodNamed Bd.named Bd.method).1
  have X0 : Stand p l e ({ frames := 3, cells := 0, slots := 0, locals := 44 } : Room) s m #[(.ref a0r), .null, .null, (.int 0), (.int 0)] below meth c s₁ [] 0 0 := Stand.of_body Bd
  have e0 : s₁.heap = h0 := by rw [← hh, Bd.state]; rfl
  have N0 := Fr.nil n0
  have pre0 : ∀ t, Steps p.tables e below (s₁.setTop (mkF m 0 #[.val (.ref a0r), .val .null, .val .null, .val (.int 0), .val (.int 0)] [])) t → Steps p.tables e below (s₁.setTop (entryFrame m #[(.ref a0r), .null, .null, (.int 0), (.int 0)] 5)) t := fun t k => castTop (ef_rmThn m a0r) k
  have GL' := GL
  obtain ⟨GCS, GCP, GSR, GSE, GEE, GFE, GSU, GSS, GA16, GHI, GLO⟩ := GL'
  obtain ⟨_, _, ⟨T1, L1, k1, n1⟩, -, X1, ⟨Lc1, hQ1, l1, y1, z1⟩, st1⟩ := X0.specialBack hx (y := MN_12) rfl hown (mvT hZ (Wd hw 60 rfl)) (mvT hZ (Wd hw 61 rfl)) (mvT hZ (Wd hw 65 rfl)) (by decide) (backOf (W := 0) (rmExn l Z a0 hw [] cS aRS aEM aUS aSS (a0r) (h0) n0 O0 GL E_a0r F_cause_a0r F_stackTrace_a0r F_suppressedExceptions_a0r F_detailMessage_a0r F_reason_a0r F_position_a0r g_a0r) hZ (Wd hw 65 rfl) (Wd hw 64 rfl) (by decide) (by decide)) (g := (mkF m 6 #[.val (.ref a0r), .val .null, .val .null, .val (.int 0), .val (.int 0)] [(.int 0), (.int 0), .null, .null, (.ref a0r)])) rfl (by rw [hml]; rfl) (Steps.refl _) (a := a0r) (argsL := [.null, .null, (.int 0), (.int 0)]) (rest := []) (lenOf pdv8 rfl) rfl (by show 2 * 0 + _ ≤ _; exact Nat.le_of_eq rfl) (hb hby d12_6) (fun _ _ => ⟨rfl, e0, (by decide : 0 + 0 ≤ _), (by decide : 0 + 0 ≤ _)⟩)
  dsimp only [Pt.U, Pt.locs, Pt.cells, Pt.slots] at X1 l1 y1 z1 st1 hQ1
  subst l1 y1 z1
  obtain ⟨rfl, N1q, Kc1, P1_0, P1_1, P1_2, P1_3⟩ := hQ1
  have K1 : Keep h0 T1.heap [a0r] := (Keep.refl h0 [a0r]).trans Kc1 (allS (Or.inl (List.mem_of_getElem? (i := 0) rfl)) all0)
  have O1 := O0.keep Kc1 (allS g_a0r all0)
  have N1 := Fr.app N0 N1q
  obtain ⟨fs, hr, hrun, hended, hW, hsame⟩ := X1.leave (v := none) (fun _ => rfl)
  refine ⟨_, _, pre0 _ ?_, hrun, hended, _, _, rfl, ?_, ⟨_, rfl⟩, hW, hsame.mono (by decide) (by decide)⟩
  · show Steps p.tables e below (s₁.setTop (mkF m 0 #[.val (.ref a0r), .val .null, .val .null, .val (.int 0), .val (.int 0)] [])) _
    refine XS.aloadN X0.here hx rfl (hb hby d12_0) rfl rfl ?_
    refine XS.aloadN X0.here hx rfl (hb hby d12_1) rfl rfl ?_
    refine XS.aloadN X0.here hx rfl (hb hby d12_2) rfl rfl ?_
    refine XS.iloadN X0.here hx rfl (hb hby d12_3) rfl ?_
    show Steps p.tables e below (s₁.setTop (mkF m 4 #[.val (.ref a0r), .val .null, .val .null, .val (.int 0), .val (.int 0)] [(.int 0), .null, .null, (.ref a0r)])) _
    refine XS.iload X0.here hx rfl (hb hby d12_4) rfl ?_
    show Steps p.tables e below (s₁.setTop (mkF m 6 #[.val (.ref a0r), .val .null, .val .null, .val (.int 0), .val (.int 0)] [(.int 0), (.int 0), .null, .null, (.ref a0r)])) _
    refine st1.trans ?_
    show Steps p.tables e below (T1.setTop (mkF m 9 #[.val (.ref a0r), .val .null, .val .null, .val (.int 0), .val (.int 0)] [])) _
    exact X1.returnOut hx Bd.returns (hb hby d12_9) hr
  · show Q_rmRtn n0 Z cS aRS aEM aUS aSS a0r h0 _ T1.heap _
    exact ⟨rfl, N1, K1, P1_0, P1_1, P1_2, P1_3⟩
theorem ef_rmR3n (m : MethodId) (a0r : Addr) (ar : Addr) (ap : Addr) : entryFrame m #[(.ref a0r), (.ref ar), .null, (.ref ap)] 4 = mkF m 0 #[.val (.ref a0r), .val (.ref ar), .val .null, .val (.ref ap)] [] := by first | (simp [entryFrame, mkF, argsToLocals, Value.category]; done) | rfl
def Q_rmR3n (n0 : Nat) (Z : State) (cS : Int32) (aRS : Addr) (aEM : Addr) (aUS : Addr) (aSS : Addr) (a0r : Addr) (ar : Addr) (ap : Addr) (h0 : Heap) (v : Option Value) (h : Heap) (L : List Loc) : Prop := v = none ∧ Fr n0 L ∧ Keep h0 h [a0r] ∧ (Exa Z h a0r "com/example/metaloom/metaloom/store/Rejection") ∧ (Fld Z h a0r "java/lang/Throwable" "detailMessage" "Ljava/lang/String;" .null) ∧ (Fld Z h a0r "com/example/metaloom/metaloom/store/Rejection" "reason" "Lcom/example/metaloom/metaloom/store/Rejection$Reason;" (.ref ar)) ∧ (Fld Z h a0r "com/example/metaloom/metaloom/store/Rejection" "position" "Ljava/util/OptionalInt;" (.ref ap))
set_option maxRecDepth 65536 in
set_option maxHeartbeats 40000000 in
theorem rmR3n (l : Launch) (Z : State) (a0 : Array Value) (hw : ∀ d ∈ tables_1, d.before a0 Z = true) (ws : List Jvm.Cond) (cS : Int32) (aRS : Addr) (aEM : Addr) (aUS : Addr) (aSS : Addr) (a0r : Addr) (ar : Addr) (ap : Addr) (h0 : Heap) (n0 : Nat) (O0 : Old Z n0 h0) (GL : GF Z cS aRS aEM aUS aSS) (E_a0r : Exa Z h0 a0r "com/example/metaloom/metaloom/store/Rejection") (F_cause_a0r : Fld Z h0 a0r "java/lang/Throwable" "cause" "Ljava/lang/Throwable;" .null) (F_stackTrace_a0r : Fld Z h0 a0r "java/lang/Throwable" "stackTrace" "[Ljava/lang/StackTraceElement;" .null) (F_suppressedExceptions_a0r : Fld Z h0 a0r "java/lang/Throwable" "suppressedExceptions" "Ljava/util/List;" .null) (F_detailMessage_a0r : Fld Z h0 a0r "java/lang/Throwable" "detailMessage" "Ljava/lang/String;" .null) (F_reason_a0r : Fld Z h0 a0r "com/example/metaloom/metaloom/store/Rejection" "reason" "Lcom/example/metaloom/metaloom/store/Rejection$Reason;" .null) (F_position_a0r : Fld Z h0 a0r "com/example/metaloom/metaloom/store/Rejection" "position" "Ljava/util/OptionalInt;" .null) (g_a0r : n0 ≤ a0r) :
    MetFree l MN_14 (head1 (Jvm.Cond.code MN_14 prog_21_method_1_code 4 none :: ws) ({ frames := 4, cells := 0, slots := 0, locals := 60 } : Room)) (fun a U => a = #[(.ref a0r), (.ref ar), .null, (.ref ap)] ∧ Z.Warmed39 U.vm ∧ U.heap = h0) (fun _ _ _ _ _ => True) (fun _ U o U' => ∃ v L, o = .returned v ∧ Q_rmR3n n0 Z cS aRS aEM aUS aSS a0r ar ap h0 v U'.heap L ∧ FrameEnd U o U' L ({ frames := 4, cells := 0, slots := 0, locals := 60 } : Room).cells ({ frames := 4, cells := 0, slots := 0, locals := 60 } : Room).slots) := by
  refine MetFree.of_bodySF (plainFor_of_name pnv6) hisR ?_
  intro p e s m args below meth c s₁ Bd hml0 hP hK
  obtain ⟨rfl, hZ, hh⟩ := hP
  have hx := Bd.exec
  have hby := Bd.bytes
  have hml : c.maxLocals = 4 := hml0
  have hown : s.vm.findClass "com/example/metaloom/metaloom/store/Rejection" = some m.cls := findClass_of_methodNamed Bd.named
  have hnm := (name_of_methodNamed Bd.named Bd.method).1
  have X0 : Stand p l e ({ frames := 4, cells := 0, slots := 0, locals := 60 } : Room) s m #[(.ref a0r), (.ref ar), .null, (.ref ap)] below meth c s₁ [] 0 0 := Stand.of_body Bd
  have e0 : s₁.heap = h0 := by rw [← hh, Bd.state]; rfl
  have N0 := Fr.nil n0
  have pre0 : ∀ t, Steps p.tables e below (s₁.setTop (mkF m 0 #[.val (.ref a0r), .val (.ref ar), .val .null, .val (.ref ap)] [])) t → Steps p.tables e below (s₁.setTop (entryFrame m #[(.ref a0r), (.ref ar), .null, (.ref ap)] 4)) t := fun t k => castTop (ef_rmR3n m a0r ar ap) k
  have GL' := GL
  obtain ⟨GCS, GCP, GSR, GSE, GEE, GFE, GSU, GSS, GA16, GHI, GLO⟩ := GL'
  obtain ⟨_, _, ⟨T1, L1, k1, n1⟩, -, X1, ⟨Lc1, hQ1, l1, y1, z1⟩, st1⟩ := X0.specialBack hx (y := MN_13) rfl hown (mvT hZ (Wd hw 55 rfl)) (mvT hZ (Wd hw 56 rfl)) (mvT hZ (Wd hw 59 rfl)) (by decide) (backOf (W := 0) (rmRtn l Z a0 hw [] cS aRS aEM aUS aSS (a0r) (h0) n0 O0 GL E_a0r F_cause_a0r F_stackTrace_a0r F_suppressedExceptions_a0r F_detailMessage_a0r F_reason_a0r F_position_a0r g_a0r) hZ (Wd hw 59 rfl) (Wd hw 58 rfl) (by decide) (by decide)) (g := (mkF m 5 #[.val (.ref a0r), .val (.ref ar), .val .null, .val (.ref ap)] [(.int 0), (.int 0), .null, .null, (.ref a0r)])) rfl (by rw [hml]; rfl) (Steps.refl _) (a := a0r) (argsL := [.null, .null, (.int 0), (.int 0)]) (rest := []) (lenOf pdv8 rfl) rfl (by show 2 * 0 + _ ≤ _; exact Nat.le_of_eq rfl) (hb hby d11_5) (fun _ _ => ⟨rfl, e0, (by decide : 0 + 0 ≤ _), (by decide : 0 + 0 ≤ _)⟩)
  dsimp only [Pt.U, Pt.locs, Pt.cells, Pt.slots] at X1 l1 y1 z1 st1 hQ1
  subst l1 y1 z1
  obtain ⟨rfl, N1q, Kc1, P1_0, P1_1, P1_2, P1_3⟩ := hQ1
  have K1 : Keep h0 T1.heap [a0r] := (Keep.refl h0 [a0r]).trans Kc1 (allS (Or.inl (List.mem_of_getElem? (i := 0) rfl)) all0)
  have O1 := O0.keep Kc1 (allS g_a0r all0)
  have N1 := Fr.app N0 N1q
  obtain ⟨T2, h2, X2, e2, W2, st2⟩ := putF X1 hx hZ hown (host := "") (Or.inl (Wd hw 83 rfl)) Via.refl rfl P1_2 P1_0 (Or.inr ⟨(Wd hw 84 rfl), rfl, hnm⟩) (Wd hw 40 rfl) (ty := (.object "com/example/metaloom/metaloom/store/Rejection$Reason")) (by decide) rfl rfl (g := (mkF m 10 #[.val (.ref a0r), .val (.ref ar), .val .null, .val (.ref ap)] [(.ref ar), (.ref a0r)])) rfl rfl (hb hby d11_10)
  have Fw2 := P1_2.same W2
  have K2 : Keep h0 h2 [a0r] := K1.wr W2 (Or.inl (List.mem_of_getElem? (i := 0) rfl))
  have O2 := O1.wr W2 g_a0r
  have N2 := Fr.snoc X2 N1 g_a0r
  obtain ⟨T3, h3, X3, e3, W3, st3⟩ := putF X2 hx hZ hown (host := "") (Or.inl (Wd hw 85 rfl)) Via.refl e2 (P1_3.other W2 (Or.inr (slot_ne (a0 := a0) (Or.inr (Wd hw 86 rfl)) (Or.inr (Wd hw 84 rfl)) (by decide) (t := (.object "java/util/OptionalInt")) (t' := (.object "com/example/metaloom/metaloom/store/Rejection$Reason")) (by decide) (by decide)))) (P1_0.wr W2) (Or.inr ⟨(Wd hw 86 rfl), rfl, hnm⟩) (Wd hw 40 rfl) (ty := (.object "java/util/OptionalInt")) (by decide) rfl rfl (g := (mkF m 15 #[.val (.ref a0r), .val (.ref ar), .val .null, .val (.ref ap)] [(.ref ap), (.ref a0r)])) rfl rfl (hb hby d11_15)
  have Fw3 := (P1_3.other W2 (Or.inr (slot_ne (a0 := a0) (Or.inr (Wd hw 86 rfl)) (Or.inr (Wd hw 84 rfl)) (by decide) (t := (.object "java/util/OptionalInt")) (t' := (.object "com/example/metaloom/metaloom/store/Rejection$Reason")) (by decide) (by decide)))).same W3
  have K3 : Keep h0 h3 [a0r] := K2.wr W3 (Or.inl (List.mem_of_getElem? (i := 0) rfl))
  have O3 := O2.wr W3 g_a0r
  have N3 := Fr.snoc X3 N2 g_a0r
  obtain ⟨fs, hr, hrun, hended, hW, hsame⟩ := X3.leave (v := none) (fun _ => rfl)
  refine ⟨_, _, pre0 _ ?_, hrun, hended, _, _, rfl, ?_, ⟨_, rfl⟩, hW, hsame.mono (by decide) (by decide)⟩
  · show Steps p.tables e below (s₁.setTop (mkF m 0 #[.val (.ref a0r), .val (.ref ar), .val .null, .val (.ref ap)] [])) _
    refine XS.aloadN X0.here hx rfl (hb hby d11_0) rfl rfl ?_
    refine XS.aloadN X0.here hx rfl (hb hby d11_1) rfl rfl ?_
    refine XS.aconstNull X0.here hx rfl (hb hby d11_2) ?_
    refine XS.iconst X0.here hx rfl (hb hby d11_3) ?_
    show Steps p.tables e below (s₁.setTop (mkF m 4 #[.val (.ref a0r), .val (.ref ar), .val .null, .val (.ref ap)] [(.int 0), .null, .null, (.ref a0r)])) _
    refine XS.iconst X0.here hx rfl (hb hby d11_4) ?_
    show Steps p.tables e below (s₁.setTop (mkF m 5 #[.val (.ref a0r), .val (.ref ar), .val .null, .val (.ref ap)] [(.int 0), (.int 0), .null, .null, (.ref a0r)])) _
    refine st1.trans ?_
    show Steps p.tables e below (T1.setTop (mkF m 8 #[.val (.ref a0r), .val (.ref ar), .val .null, .val (.ref ap)] [])) _
    refine XS.aloadN X1.here hx rfl (hb hby d11_8) rfl rfl ?_
    refine XS.aloadN X1.here hx rfl (hb hby d11_9) rfl rfl ?_
    show Steps p.tables e below (T1.setTop (mkF m 10 #[.val (.ref a0r), .val (.ref ar), .val .null, .val (.ref ap)] [(.ref ar), (.ref a0r)])) _
    refine st2 _ ?_
    show Steps p.tables e below (T2.setTop (mkF m 13 #[.val (.ref a0r), .val (.ref ar), .val .null, .val (.ref ap)] [])) _
    refine XS.aloadN X2.here hx rfl (hb hby d11_13) rfl rfl ?_
    refine XS.aloadN X2.here hx rfl (hb hby d11_14) rfl rfl ?_
    show Steps p.tables e below (T2.setTop (mkF m 15 #[.val (.ref a0r), .val (.ref ar), .val .null, .val (.ref ap)] [(.ref ap), (.ref a0r)])) _
    refine st3 _ ?_
    show Steps p.tables e below (T3.setTop (mkF m 18 #[.val (.ref a0r), .val (.ref ar), .val .null, .val (.ref ap)] [])) _
    exact X3.returnOut hx Bd.returns (hb hby d11_18) hr
  · show Q_rmR3n n0 Z cS aRS aEM aUS aSS a0r ar ap h0 _ T3.heap _
    rw [e3]
    exact ⟨rfl, N3, K3, ((P1_0.wr W2).wr W3), ((P1_1.other W2 (Or.inr (slot_ne (a0 := a0) (Or.inl (Wd hw 82 rfl)) (Or.inr (Wd hw 84 rfl)) (by decide) (t := (.object "java/lang/String")) (t' := (.object "com/example/metaloom/metaloom/store/Rejection$Reason")) (by decide) (by decide)))).other W3 (Or.inr (slot_ne (a0 := a0) (Or.inl (Wd hw 82 rfl)) (Or.inr (Wd hw 86 rfl)) (by decide) (t := (.object "java/lang/String")) (t' := (.object "java/util/OptionalInt")) (by decide) (by decide)))), (Fw2.other W3 (Or.inr (slot_ne (a0 := a0) (Or.inr (Wd hw 84 rfl)) (Or.inr (Wd hw 86 rfl)) (by decide) (t := (.object "com/example/metaloom/metaloom/store/Rejection$Reason")) (t' := (.object "java/util/OptionalInt")) (by decide) (by decide)))), Fw3⟩
theorem ef_rmR2n (m : MethodId) (a0r : Addr) (ar : Addr) : entryFrame m #[(.ref a0r), (.ref ar), .null] 3 = mkF m 0 #[.val (.ref a0r), .val (.ref ar), .val .null] [] := by first | (simp [entryFrame, mkF, argsToLocals, Value.category]; done) | rfl
def Q_rmR2n (n0 : Nat) (Z : State) (cS : Int32) (aRS : Addr) (aEM : Addr) (aUS : Addr) (aSS : Addr) (a0r : Addr) (ar : Addr) (h0 : Heap) (v : Option Value) (h : Heap) (L : List Loc) : Prop := v = none ∧ Fr n0 L ∧ Keep h0 h [a0r] ∧ (Exa Z h a0r "com/example/metaloom/metaloom/store/Rejection") ∧ (Fld Z h a0r "java/lang/Throwable" "detailMessage" "Ljava/lang/String;" .null) ∧ (Fld Z h a0r "com/example/metaloom/metaloom/store/Rejection" "reason" "Lcom/example/metaloom/metaloom/store/Rejection$Reason;" (.ref ar)) ∧ (Fld Z h a0r "com/example/metaloom/metaloom/store/Rejection" "position" "Ljava/util/OptionalInt;" (.ref aEM))
set_option maxRecDepth 65536 in
set_option maxHeartbeats 40000000 in
theorem rmR2n (l : Launch) (Z : State) (a0 : Array Value) (hw : ∀ d ∈ tables_1, d.before a0 Z = true) (ws : List Jvm.Cond) (cS : Int32) (aRS : Addr) (aEM : Addr) (aUS : Addr) (aSS : Addr) (a0r : Addr) (ar : Addr) (h0 : Heap) (n0 : Nat) (O0 : Old Z n0 h0) (GL : GF Z cS aRS aEM aUS aSS) (E_a0r : Exa Z h0 a0r "com/example/metaloom/metaloom/store/Rejection") (F_cause_a0r : Fld Z h0 a0r "java/lang/Throwable" "cause" "Ljava/lang/Throwable;" .null) (F_stackTrace_a0r : Fld Z h0 a0r "java/lang/Throwable" "stackTrace" "[Ljava/lang/StackTraceElement;" .null) (F_suppressedExceptions_a0r : Fld Z h0 a0r "java/lang/Throwable" "suppressedExceptions" "Ljava/util/List;" .null) (F_detailMessage_a0r : Fld Z h0 a0r "java/lang/Throwable" "detailMessage" "Ljava/lang/String;" .null) (F_reason_a0r : Fld Z h0 a0r "com/example/metaloom/metaloom/store/Rejection" "reason" "Lcom/example/metaloom/metaloom/store/Rejection$Reason;" .null) (F_position_a0r : Fld Z h0 a0r "com/example/metaloom/metaloom/store/Rejection" "position" "Ljava/util/OptionalInt;" .null) (g_a0r : n0 ≤ a0r) :
    MetFree l MN_15 (head1 (Jvm.Cond.code MN_15 prog_21_method_2_code 3 none :: ws) ({ frames := 5, cells := 0, slots := 0, locals := 75 } : Room)) (fun a U => a = #[(.ref a0r), (.ref ar), .null] ∧ Z.Warmed39 U.vm ∧ U.heap = h0) (fun _ _ _ _ _ => True) (fun _ U o U' => ∃ v L, o = .returned v ∧ Q_rmR2n n0 Z cS aRS aEM aUS aSS a0r ar h0 v U'.heap L ∧ FrameEnd U o U' L ({ frames := 5, cells := 0, slots := 0, locals := 75 } : Room).cells ({ frames := 5, cells := 0, slots := 0, locals := 75 } : Room).slots) := by
  refine MetFree.of_bodySF (plainFor_of_name pnv6) hisR ?_
  intro p e s m args below meth c s₁ Bd hml0 hP hK
  obtain ⟨rfl, hZ, hh⟩ := hP
  have hx := Bd.exec
  have hby := Bd.bytes
  have hml : c.maxLocals = 3 := hml0
  have hown : s.vm.findClass "com/example/metaloom/metaloom/store/Rejection" = some m.cls := findClass_of_methodNamed Bd.named
  have hnm := (name_of_methodNamed Bd.named Bd.method).1
  have X0 : Stand p l e ({ frames := 5, cells := 0, slots := 0, locals := 75 } : Room) s m #[(.ref a0r), (.ref ar), .null] below meth c s₁ [] 0 0 := Stand.of_body Bd
  have e0 : s₁.heap = h0 := by rw [← hh, Bd.state]; rfl
  have N0 := Fr.nil n0
  have pre0 : ∀ t, Steps p.tables e below (s₁.setTop (mkF m 0 #[.val (.ref a0r), .val (.ref ar), .val .null] [])) t → Steps p.tables e below (s₁.setTop (entryFrame m #[(.ref a0r), (.ref ar), .null] 3)) t := fun t k => castTop (ef_rmR2n m a0r ar) k
  have GL' := GL
  obtain ⟨GCS, GCP, GSR, GSE, GEE, GFE, GSU, GSS, GA16, GHI, GLO⟩ := GL'
  obtain ⟨_, _, ⟨T1, L1, k1, n1⟩, -, X1, ⟨Lc1, hQ1, l1, y1, z1⟩, st1⟩ := Jvm.LawKit.callS X0 hx (y := MN_10) hown (mvT hZ (Wd hw 47 rfl)) (mvT hZ (Wd hw 48 rfl)) (mvT hZ (Wd hw 49 rfl)) (mvT hZ (Wd hw 50 rfl)) (by decide) (backOf (W := 3) (rmEm l Z a0 hw [] cS aRS aEM aUS aSS  (h0) n0 O0 GL) hZ (Wd hw 50 rfl) (Wd hw 49 rfl) (by decide) (by decide)) (g := (mkF m 3 #[.val (.ref a0r), .val (.ref ar), .val .null] [.null, (.ref ar), (.ref a0r)])) rfl (by rw [hml]; rfl) (argsL := []) (rest := [.null, (.ref ar), (.ref a0r)]) (lenOf pdv9 rfl) rfl (by show 2 * 0 + _ ≤ _; exact Nat.le_of_eq rfl) (hb hby d9_3) (fun _ _ => ⟨rfl, e0, (by decide : 0 + 0 ≤ _), (by decide : 0 + 0 ≤ _)⟩)
  dsimp only [Pt.U, Pt.locs, Pt.cells, Pt.slots] at X1 l1 y1 z1 st1 hQ1
  subst l1 y1 z1
  obtain ⟨rfl, N1q, e1⟩ := hQ1
  have N1 := Fr.app N0 N1q
  obtain ⟨_, _, ⟨T2, L2, k2, n2⟩, -, X2, ⟨Lc2, hQ2, l2, y2, z2⟩, st2⟩ := X1.specialBack hx (y := MN_14) rfl hown (mvT hZ (Wd hw 52 rfl)) (mvT hZ (Wd hw 53 rfl)) (mvT hZ (Wd hw 54 rfl)) (by decide) (backOf (W := 0) (rmR3n l Z a0 hw [] cS aRS aEM aUS aSS (a0r) (ar) (aEM) (h0) n0 O0 GL E_a0r F_cause_a0r F_stackTrace_a0r F_suppressedExceptions_a0r F_detailMessage_a0r F_reason_a0r F_position_a0r g_a0r) hZ (Wd hw 54 rfl) (Wd hw 37 rfl) (by decide) (by decide)) (g := (mkF m 6 #[.val (.ref a0r), .val (.ref ar), .val .null] [(.ref aEM), .null, (.ref ar), (.ref a0r)])) rfl (by rw [hml]; rfl) (Steps.refl _) (a := a0r) (argsL := [(.ref ar), .null, (.ref aEM)]) (rest := []) (lenOf pdv10 rfl) rfl (by show 2 * 0 + _ ≤ _; exact Nat.le_of_eq rfl) (hb hby d9_6) (fun _ _ => ⟨rfl, e1, (by decide : 0 + 0 ≤ _), (by decide : 0 + 0 ≤ _)⟩)
  dsimp only [Pt.U, Pt.locs, Pt.cells, Pt.slots] at X2 l2 y2 z2 st2 hQ2
  subst l2 y2 z2
  obtain ⟨rfl, N2q, Kc2, P2_0, P2_1, P2_2, P2_3⟩ := hQ2
  have K2 : Keep h0 T2.heap [a0r] := (Keep.refl h0 [a0r]).trans Kc2 (allS (Or.inl (List.mem_of_getElem? (i := 0) rfl)) all0)
  have O2 := O0.keep Kc2 (allS g_a0r all0)
  have N2 := Fr.app N1 N2q
  obtain ⟨fs, hr, hrun, hended, hW, hsame⟩ := X2.leave (v := none) (fun _ => rfl)
  refine ⟨_, _, pre0 _ ?_, hrun, hended, _, _, rfl, ?_, ⟨_, rfl⟩, hW, hsame.mono (by decide) (by decide)⟩
  · show Steps p.tables e below (s₁.setTop (mkF m 0 #[.val (.ref a0r), .val (.ref ar), .val .null] [])) _
    refine XS.aloadN X0.here hx rfl (hb hby d9_0) rfl rfl ?_
    refine XS.aloadN X0.here hx rfl (hb hby d9_1) rfl rfl ?_
    refine XS.aloadN X0.here hx rfl (hb hby d9_2) rfl rfl ?_
    show Steps p.tables e below (s₁.setTop (mkF m 3 #[.val (.ref a0r), .val (.ref ar), .val .null] [.null, (.ref ar), (.ref a0r)])) _
    refine st1 _ ?_
    show Steps p.tables e below (T1.setTop (mkF m 6 #[.val (.ref a0r), .val (.ref ar), .val .null] [(.ref aEM), .null, (.ref ar), (.ref a0r)])) _
    refine st2.trans ?_
    show Steps p.tables e below (T2.setTop (mkF m 9 #[.val (.ref a0r), .val (.ref ar), .val .null] [])) _
    exact X2.returnOut hx Bd.returns (hb hby d9_9) hr
  · show Q_rmR2n n0 Z cS aRS aEM aUS aSS a0r ar h0 _ T2.heap _
    exact ⟨rfl, N2, K2, P2_0, P2_1, P2_2, P2_3⟩
theorem ef_rmMkn (m : MethodId)  : entryFrame m #[.null] 1 = mkF m 0 #[.val .null] [] := by first | (simp [entryFrame, mkF, argsToLocals, Value.category]; done) | rfl
def Q_rmMkn (n0 : Nat) (Z : State) (cS : Int32) (aRS : Addr) (aEM : Addr) (aUS : Addr) (aSS : Addr) (h0 : Heap) (v : Option Value) (h : Heap) (L : List Loc) : Prop := ∃ b : Addr, v = some (.ref b) ∧ Fr n0 L ∧ Keep h0 h [] ∧ (h0.size ≤ b) ∧ (Exa Z h b "com/example/metaloom/metaloom/store/Rejection") ∧ (Fld Z h b "java/lang/Throwable" "detailMessage" "Ljava/lang/String;" .null) ∧ (Fld Z h b "com/example/metaloom/metaloom/store/Rejection" "reason" "Lcom/example/metaloom/metaloom/store/Rejection$Reason;" (.ref aRS)) ∧ (Fld Z h b "com/example/metaloom/metaloom/store/Rejection" "position" "Ljava/util/OptionalInt;" (.ref aEM))
set_option maxRecDepth 65536 in
set_option maxHeartbeats 40000000 in
theorem rmMkn (l : Launch) (Z : State) (a0 : Array Value) (hw : ∀ d ∈ tables_1, d.before a0 Z = true) (ws : List Jvm.Cond) (cS : Int32) (aRS : Addr) (aEM : Addr) (aUS : Addr) (aSS : Addr) (h0 : Heap) (n0 : Nat) (O0 : Old Z n0 h0) (GL : GF Z cS aRS aEM aUS aSS) :
    MetFree l MN_16 (head1 (Jvm.Cond.code MN_16 prog_21_method_3_code 1 (some (.object "com/example/metaloom/metaloom/store/Rejection")) :: ws) ({ frames := 6, cells := 1, slots := 8, locals := 90 } : Room)) (fun a U => a = #[.null] ∧ Z.Warmed39 U.vm ∧ U.heap = h0) (fun _ _ _ _ _ => True) (fun _ U o U' => ∃ v L, o = .returned v ∧ Q_rmMkn n0 Z cS aRS aEM aUS aSS h0 v U'.heap L ∧ FrameEnd U o U' L ({ frames := 6, cells := 1, slots := 8, locals := 90 } : Room).cells ({ frames := 6, cells := 1, slots := 8, locals := 90 } : Room).slots) := by
  refine MetFree.of_bodySF (plainFor_of_name pnv6) hisR ?_
  intro p e s m args below meth c s₁ Bd hml0 hP hK
  obtain ⟨rfl, hZ, hh⟩ := hP
  have hx := Bd.exec
  have hby := Bd.bytes
  have hml : c.maxLocals = 1 := hml0
  have hown : s.vm.findClass "com/example/metaloom/metaloom/store/Rejection" = some m.cls := findClass_of_methodNamed Bd.named
  have hnm := (name_of_methodNamed Bd.named Bd.method).1
  have X0 : Stand p l e ({ frames := 6, cells := 1, slots := 8, locals := 90 } : Room) s m #[.null] below meth c s₁ [] 0 0 := Stand.of_body Bd
  have e0 : s₁.heap = h0 := by rw [← hh, Bd.state]; rfl
  have N0 := Fr.nil n0
  have pre0 : ∀ t, Steps p.tables e below (s₁.setTop (mkF m 0 #[.val .null] [])) t → Steps p.tables e below (s₁.setTop (entryFrame m #[.null] 1)) t := fun t k => castTop (ef_rmMkn m ) k
  have GL' := GL
  obtain ⟨GCS, GCP, GSR, GSE, GEE, GFE, GSU, GSS, GA16, GHI, GLO⟩ := GL'
  obtain ⟨T1, h1, X1, e1, E1, A1, D1, -, st1⟩ := newO X0 hx hZ hown (Wd hw 39 rfl) (Wd hw 40 rfl) (Wd hw 37 rfl) e0 (g := (mkF m 0 #[.val .null] [])) rfl (hb hby d8_0) (by decide) (by decide)
  obtain ⟨b1, g1⟩ : ∃ z, z = h0.size := ⟨_, rfl⟩
  rw [← g1] at A1 D1 st1
  have g_b1 : n0 ≤ b1 := Nat.le_trans (own_sz O0) (Nat.le_of_eq g1.symm)
  have sz_b1 : h0.size ≤ b1 := Nat.le_trans (Keep.refl h0 []).1 (Nat.le_of_eq g1.symm)
  have K1 : Keep h0 h1 [] := (Keep.refl h0 []).ext E1
  have O1 := O0.ext E1
  have F_cause_b1 : Fld Z h1 b1 "java/lang/Throwable" "cause" "Ljava/lang/Throwable;" .null := D1 (Or.inl (Wd hw 74 rfl)) (ty := (.object "java/lang/Throwable")) (by decide)
  have F_stackTrace_b1 : Fld Z h1 b1 "java/lang/Throwable" "stackTrace" "[Ljava/lang/StackTraceElement;" .null := D1 (Or.inl (Wd hw 77 rfl)) (ty := (.array (.object "java/lang/StackTraceElement"))) (by decide)
  have F_suppressedExceptions_b1 : Fld Z h1 b1 "java/lang/Throwable" "suppressedExceptions" "Ljava/util/List;" .null := D1 (Or.inl (Wd hw 80 rfl)) (ty := (.object "java/util/List")) (by decide)
  have F_detailMessage_b1 : Fld Z h1 b1 "java/lang/Throwable" "detailMessage" "Ljava/lang/String;" .null := D1 (Or.inl (Wd hw 82 rfl)) (ty := (.object "java/lang/String")) (by decide)
  have F_reason_b1 : Fld Z h1 b1 "com/example/metaloom/metaloom/store/Rejection" "reason" "Lcom/example/metaloom/metaloom/store/Rejection$Reason;" .null := D1 (Or.inr (Wd hw 84 rfl)) (ty := (.object "com/example/metaloom/metaloom/store/Rejection$Reason")) (by decide)
  have F_position_b1 : Fld Z h1 b1 "com/example/metaloom/metaloom/store/Rejection" "position" "Ljava/util/OptionalInt;" .null := D1 (Or.inr (Wd hw 86 rfl)) (ty := (.object "java/util/OptionalInt")) (by decide)
  obtain ⟨T2, X2, e2, st2⟩ := getS2 X1 hx hZ hown (host := "") (Or.inl (Wd hw 41 rfl)) Via.refl e1 (GSR.ext O1.2) (g := (mkF m 4 #[.val .null] [(.ref b1), (.ref b1)])) rfl (hb hby d8_4)
  obtain ⟨_, _, ⟨T3, L3, k3, n3⟩, -, X3, ⟨Lc3, hQ3, l3, y3, z3⟩, st3⟩ := X2.specialBack hx (y := MN_15) rfl hown (mvT hZ (Wd hw 44 rfl)) (mvT hZ (Wd hw 45 rfl)) (mvT hZ (Wd hw 46 rfl)) (by decide) (backOf (W := 1) (rmR2n l Z a0 hw [] cS aRS aEM aUS aSS (b1) (aRS) (h1) n0 O1 GL A1 F_cause_b1 F_stackTrace_b1 F_suppressedExceptions_b1 F_detailMessage_b1 F_reason_b1 F_position_b1 g_b1) hZ (Wd hw 46 rfl) (Wd hw 37 rfl) (by decide) (by decide)) (g := (mkF m 8 #[.val .null] [.null, (.ref aRS), (.ref b1), (.ref b1)])) rfl (by rw [hml]; rfl) (Steps.refl _) (a := b1) (argsL := [(.ref aRS), .null]) (rest := [(.ref b1)]) (lenOf pdv11 rfl) rfl (by show 2 * 0 + _ ≤ _; exact Nat.le_of_eq rfl) (hb hby d8_8) (fun _ _ => ⟨rfl, e2, (by decide : 1 + 0 ≤ _), (by decide : 8 + 0 ≤ _)⟩)
  dsimp only [Pt.U, Pt.locs, Pt.cells, Pt.slots] at X3 l3 y3 z3 st3 hQ3
  subst l3 y3 z3
  obtain ⟨rfl, N3q, Kc3, P3_0, P3_1, P3_2, P3_3⟩ := hQ3
  have K3 : Keep h0 T3.heap [] := K1.trans Kc3 (allS (Or.inr sz_b1) all0)
  have O3 := O1.keep Kc3 (allS g_b1 all0)
  have N3 := Fr.app N0 N3q
  obtain ⟨fs, hr, hrun, hended, hW, hsame⟩ := X3.leave (v := some (.ref b1)) (fun h => by rw [Bd.returns] at h; cases h)
  refine ⟨_, _, pre0 _ ?_, hrun, hended, _, _, rfl, ?_, ⟨_, rfl⟩, hW, hsame.mono (by decide) (by decide)⟩
  · show Steps p.tables e below (s₁.setTop (mkF m 0 #[.val .null] [])) _
    refine st1 _ ?_
    show Steps p.tables e below (T1.setTop (mkF m 3 #[.val .null] [(.ref b1)])) _
    refine XS.dup X1.here hx rfl (hb hby d8_3) rfl rfl ?_
    show Steps p.tables e below (T1.setTop (mkF m 4 #[.val .null] [(.ref b1), (.ref b1)])) _
    refine st2 _ ?_
    show Steps p.tables e below (T2.setTop (mkF m 7 #[.val .null] [(.ref aRS), (.ref b1), (.ref b1)])) _
    refine XS.aloadN X2.here hx rfl (hb hby d8_7) rfl rfl ?_
    show Steps p.tables e below (T2.setTop (mkF m 8 #[.val .null] [.null, (.ref aRS), (.ref b1), (.ref b1)])) _
    refine st3.trans ?_
    show Steps p.tables e below (T3.setTop (mkF m 11 #[.val .null] [(.ref b1)])) _
    jvm_step X3.here [X3.here.top, hx, (hb hby d8_11), X3.method', Bd.returns, Value.isRef, FieldType.isReference]
    first | (intro acts; rw [hr _ acts rfl rfl rfl]) | rw [hr _ _ rfl rfl rfl]
    exact Steps.refl _
  · show Q_rmMkn n0 Z cS aRS aEM aUS aSS h0 _ T3.heap _
    exact ⟨b1, rfl, N3, K3, sz_b1, P3_0, P3_1, P3_2, P3_3⟩
theorem d17_0 : decode prog_21_method_7_code 0 = .ok (.aload_n 0, 1) := by decide +kernel
theorem d17_1 : decode prog_21_method_7_code 1 = .ok (.getfield 7, 3) := by decide +kernel
theorem d17_4 : decode prog_21_method_7_code 4 = .ok (.areturn, 1) := by decide +kernel
abbrev MN_17 : MethodName := ⟨"com/example/metaloom/metaloom/store/Rejection", "reason", "()Lcom/example/metaloom/metaloom/store/Rejection$Reason;"⟩
theorem ef_rmGr (m : MethodId) (a0g : Addr) : entryFrame m #[(.ref a0g)] 1 = mkF m 0 #[.val (.ref a0g)] [] := by first | (simp [entryFrame, mkF, argsToLocals, Value.category]; done) | rfl
def Q_rmGr (n0 : Nat) (Z : State) (cS : Int32) (aRS : Addr) (aEM : Addr) (aUS : Addr) (aSS : Addr) (a0g : Addr) (gv : Addr) (h0 : Heap) (v : Option Value) (h : Heap) (L : List Loc) : Prop := v = some (.ref gv) ∧ Fr n0 L ∧ h = h0
set_option maxRecDepth 65536 in
set_option maxHeartbeats 40000000 in
theorem rmGr (l : Launch) (Z : State) (a0 : Array Value) (hw : ∀ d ∈ tables_1, d.before a0 Z = true) (ws : List Jvm.Cond) (cS : Int32) (aRS : Addr) (aEM : Addr) (aUS : Addr) (aSS : Addr) (a0g : Addr) (gv : Addr) (h0 : Heap) (n0 : Nat) (O0 : Old Z n0 h0) (GL : GF Z cS aRS aEM aUS aSS) (F_reason_a0g : Fld Z h0 a0g "com/example/metaloom/metaloom/store/Rejection" "reason" "Lcom/example/metaloom/metaloom/store/Rejection$Reason;" (.ref gv)) :
    MetFree l MN_17 (head1 (Jvm.Cond.code MN_17 prog_21_method_7_code 1 (some (.object "com/example/metaloom/metaloom/store/Rejection$Reason")) :: ws) ({ frames := 0, cells := 0, slots := 0, locals := 0 } : Room)) (fun a U => a = #[(.ref a0g)] ∧ Z.Warmed39 U.vm ∧ U.heap = h0) (fun _ _ _ _ _ => True) (fun _ U o U' => ∃ v L, o = .returned v ∧ Q_rmGr n0 Z cS aRS aEM aUS aSS a0g gv h0 v U'.heap L ∧ FrameEnd U o U' L ({ frames := 0, cells := 0, slots := 0, locals := 0 } : Room).cells ({ frames := 0, cells := 0, slots := 0, locals := 0 } : Room).slots) := by
  refine MetFree.of_bodySF (plainFor_of_name pnv6) hisR ?_
  intro p e s m args below meth c s₁ Bd hml0 hP hK
  obtain ⟨rfl, hZ, hh⟩ := hP
  have hx := Bd.exec
  have hby := Bd.bytes
  have hml : c.maxLocals = 1 := hml0
  have hown : s.vm.findClass "com/example/metaloom/metaloom/store/Rejection" = some m.cls := findClass_of_methodNamed Bd.named
  have hnm := (name_of_methodNamed Bd.named Bd.method).1
  have X0 : Stand p l e ({ frames := 0, cells := 0, slots := 0, locals := 0 } : Room) s m #[(.ref a0g)] below meth c s₁ [] 0 0 := Stand.of_body Bd
  have e0 : s₁.heap = h0 := by rw [← hh, Bd.state]; rfl
  have N0 := Fr.nil n0
  have pre0 : ∀ t, Steps p.tables e below (s₁.setTop (mkF m 0 #[.val (.ref a0g)] [])) t → Steps p.tables e below (s₁.setTop (entryFrame m #[(.ref a0g)] 1)) t := fun t k => castTop (ef_rmGr m a0g) k
  have GL' := GL
  obtain ⟨GCS, GCP, GSR, GSE, GEE, GFE, GSU, GSS, GA16, GHI, GLO⟩ := GL'
  obtain ⟨T1, X1, e1, st1⟩ := getF X0 hx hZ hown (host := "") (Or.inl (Wd hw 83 rfl)) Via.refl e0 F_reason_a0g (g := (mkF m 1 #[.val (.ref a0g)] [(.ref a0g)])) rfl rfl (hb hby d17_1)
  obtain ⟨fs, hr, hrun, hended, hW, hsame⟩ := X1.leave (v := some (.ref gv)) (fun h => by rw [Bd.returns] at h; cases h)
  refine ⟨_, _, pre0 _ ?_, hrun, hended, _, _, rfl, ?_, ⟨_, rfl⟩, hW, hsame.mono (by decide) (by decide)⟩
  · show Steps p.tables e below (s₁.setTop (mkF m 0 #[.val (.ref a0g)] [])) _
    refine XS.aloadN X0.here hx rfl (hb hby d17_0) rfl rfl ?_
    show Steps p.tables e below (s₁.setTop (mkF m 1 #[.val (.ref a0g)] [(.ref a0g)])) _
    refine st1 _ ?_
    show Steps p.tables e below (T1.setTop (mkF m 4 #[.val (.ref a0g)] [(.ref gv)])) _
    jvm_step X1.here [X1.here.top, hx, (hb hby d17_4), X1.method', Bd.returns, Value.isRef, FieldType.isReference]
    first | (intro acts; rw [hr _ acts rfl rfl rfl]) | rw [hr _ _ rfl rfl rfl]
    exact Steps.refl _
  · show Q_rmGr n0 Z cS aRS aEM aUS aSS a0g gv h0 _ T1.heap _
    rw [e1]
    exact ⟨rfl, N0, rfl⟩
theorem d18_0 : decode prog_21_method_8_code 0 = .ok (.aload_n 0, 1) := by decide +kernel
theorem d18_1 : decode prog_21_method_8_code 1 = .ok (.getfield 13, 3) := by decide +kernel
theorem d18_4 : decode prog_21_method_8_code 4 = .ok (.areturn, 1) := by decide +kernel
abbrev MN_18 : MethodName := ⟨"com/example/metaloom/metaloom/store/Rejection", "position", "()Ljava/util/OptionalInt;"⟩
def Q_rmGp (n0 : Nat) (Z : State) (cS : Int32) (aRS : Addr) (aEM : Addr) (aUS : Addr) (aSS : Addr) (a0g : Addr) (gv : Addr) (h0 : Heap) (v : Option Value) (h : Heap) (L : List Loc) : Prop := v = some (.ref gv) ∧ Fr n0 L ∧ h = h0
set_option maxRecDepth 65536 in
set_option maxHeartbeats 40000000 in
theorem rmGp (l : Launch) (Z : State) (a0 : Array Value) (hw : ∀ d ∈ tables_1, d.before a0 Z = true) (ws : List Jvm.Cond) (cS : Int32) (aRS : Addr) (aEM : Addr) (aUS : Addr) (aSS : Addr) (a0g : Addr) (gv : Addr) (h0 : Heap) (n0 : Nat) (O0 : Old Z n0 h0) (GL : GF Z cS aRS aEM aUS aSS) (F_position_a0g : Fld Z h0 a0g "com/example/metaloom/metaloom/store/Rejection" "position" "Ljava/util/OptionalInt;" (.ref gv)) :
    MetFree l MN_18 (head1 (Jvm.Cond.code MN_18 prog_21_method_8_code 1 (some (.object "java/util/OptionalInt")) :: ws) ({ frames := 0, cells := 0, slots := 0, locals := 0 } : Room)) (fun a U => a = #[(.ref a0g)] ∧ Z.Warmed39 U.vm ∧ U.heap = h0) (fun _ _ _ _ _ => True) (fun _ U o U' => ∃ v L, o = .returned v ∧ Q_rmGp n0 Z cS aRS aEM aUS aSS a0g gv h0 v U'.heap L ∧ FrameEnd U o U' L ({ frames := 0, cells := 0, slots := 0, locals := 0 } : Room).cells ({ frames := 0, cells := 0, slots := 0, locals := 0 } : Room).slots) := by
  refine MetFree.of_bodySF (plainFor_of_name pnv6) hisR ?_
  intro p e s m args below meth c s₁ Bd hml0 hP hK
  obtain ⟨rfl, hZ, hh⟩ := hP
  have hx := Bd.exec
  have hby := Bd.bytes
  have hml : c.maxLocals = 1 := hml0
  have hown : s.vm.findClass "com/example/metaloom/metaloom/store/Rejection" = some m.cls := findClass_of_methodNamed Bd.named
  have hnm := (name_of_methodNamed Bd.named Bd.method).1
  have X0 : Stand p l e ({ frames := 0, cells := 0, slots := 0, locals := 0 } : Room) s m #[(.ref a0g)] below meth c s₁ [] 0 0 := Stand.of_body Bd
  have e0 : s₁.heap = h0 := by rw [← hh, Bd.state]; rfl
  have N0 := Fr.nil n0
  have pre0 : ∀ t, Steps p.tables e below (s₁.setTop (mkF m 0 #[.val (.ref a0g)] [])) t → Steps p.tables e below (s₁.setTop (entryFrame m #[(.ref a0g)] 1)) t := fun t k => castTop (ef_rmGr m a0g) k
  have GL' := GL
  obtain ⟨GCS, GCP, GSR, GSE, GEE, GFE, GSU, GSS, GA16, GHI, GLO⟩ := GL'
  obtain ⟨T1, X1, e1, st1⟩ := getF X0 hx hZ hown (host := "") (Or.inl (Wd hw 85 rfl)) Via.refl e0 F_position_a0g (g := (mkF m 1 #[.val (.ref a0g)] [(.ref a0g)])) rfl rfl (hb hby d18_1)
  obtain ⟨fs, hr, hrun, hended, hW, hsame⟩ := X1.leave (v := some (.ref gv)) (fun h => by rw [Bd.returns] at h; cases h)
  refine ⟨_, _, pre0 _ ?_, hrun, hended, _, _, rfl, ?_, ⟨_, rfl⟩, hW, hsame.mono (by decide) (by decide)⟩
  · show Steps p.tables e below (s₁.setTop (mkF m 0 #[.val (.ref a0g)] [])) _
    refine XS.aloadN X0.here hx rfl (hb hby d18_0) rfl rfl ?_
    show Steps p.tables e below (s₁.setTop (mkF m 1 #[.val (.ref a0g)] [(.ref a0g)])) _
    refine st1 _ ?_
    show Steps p.tables e below (T1.setTop (mkF m 4 #[.val (.ref a0g)] [(.ref gv)])) _
    jvm_step X1.here [X1.here.top, hx, (hb hby d18_4), X1.method', Bd.returns, Value.isRef, FieldType.isReference]
    first | (intro acts; rw [hr _ acts rfl rfl rfl]) | rw [hr _ _ rfl rfl rfl]
    exact Steps.refl _
  · show Q_rmGp n0 Z cS aRS aEM aUS aSS a0g gv h0 _ T1.heap _
    rw [e1]
    exact ⟨rfl, N0, rfl⟩
theorem d15_0 : decode jdk_78_method_6_code 0 = .ok (.aload_n 0, 1) := by decide +kernel
theorem d15_1 : decode jdk_78_method_6_code 1 = .ok (.getfield 31, 3) := by decide +kernel
theorem d15_4 : decode jdk_78_method_6_code 4 = .ok (.areturn, 1) := by decide +kernel
abbrev MN_19 : MethodName := ⟨"java/lang/Throwable", "getMessage", "()Ljava/lang/String;"⟩
def Q_rmGm (n0 : Nat) (Z : State) (cS : Int32) (aRS : Addr) (aEM : Addr) (aUS : Addr) (aSS : Addr) (a0g : Addr) (gv : Addr) (h0 : Heap) (v : Option Value) (h : Heap) (L : List Loc) : Prop := v = some (.ref gv) ∧ Fr n0 L ∧ h = h0
set_option maxRecDepth 65536 in
set_option maxHeartbeats 40000000 in
theorem rmGm (l : Launch) (Z : State) (a0 : Array Value) (hw : ∀ d ∈ tables_1, d.before a0 Z = true) (ws : List Jvm.Cond) (cS : Int32) (aRS : Addr) (aEM : Addr) (aUS : Addr) (aSS : Addr) (a0g : Addr) (gv : Addr) (h0 : Heap) (n0 : Nat) (O0 : Old Z n0 h0) (GL : GF Z cS aRS aEM aUS aSS) (F_detailMessage_a0g : Fld Z h0 a0g "java/lang/Throwable" "detailMessage" "Ljava/lang/String;" (.ref gv)) :
    MetFree l MN_19 (head1 (Jvm.Cond.code MN_19 jdk_78_method_6_code 1 (some (.object "java/lang/String")) :: ws) ({ frames := 0, cells := 0, slots := 0, locals := 0 } : Room)) (fun a U => a = #[(.ref a0g)] ∧ Z.Warmed39 U.vm ∧ U.heap = h0) (fun _ _ _ _ _ => True) (fun _ U o U' => ∃ v L, o = .returned v ∧ Q_rmGm n0 Z cS aRS aEM aUS aSS a0g gv h0 v U'.heap L ∧ FrameEnd U o U' L ({ frames := 0, cells := 0, slots := 0, locals := 0 } : Room).cells ({ frames := 0, cells := 0, slots := 0, locals := 0 } : Room).slots) := by
  refine MetFree.of_bodySF (plainFor_of_name pnv3) hisR ?_
  intro p e s m args below meth c s₁ Bd hml0 hP hK
  obtain ⟨rfl, hZ, hh⟩ := hP
  have hx := Bd.exec
  have hby := Bd.bytes
  have hml : c.maxLocals = 1 := hml0
  have hown : s.vm.findClass "java/lang/Throwable" = some m.cls := findClass_of_methodNamed Bd.named
  have hnm := (name_of_methodNamed Bd.named Bd.method).1
  have X0 : Stand p l e ({ frames := 0, cells := 0, slots := 0, locals := 0 } : Room) s m #[(.ref a0g)] below meth c s₁ [] 0 0 := Stand.of_body Bd
  have e0 : s₁.heap = h0 := by rw [← hh, Bd.state]; rfl
  have N0 := Fr.nil n0
  have pre0 : ∀ t, Steps p.tables e below (s₁.setTop (mkF m 0 #[.val (.ref a0g)] [])) t → Steps p.tables e below (s₁.setTop (entryFrame m #[(.ref a0g)] 1)) t := fun t k => castTop (ef_rmGr m a0g) k
  have GL' := GL
  obtain ⟨GCS, GCP, GSR, GSE, GEE, GFE, GSU, GSS, GA16, GHI, GLO⟩ := GL'
  obtain ⟨T1, X1, e1, st1⟩ := getF X0 hx hZ hown (host := "") (Or.inl (Wd hw 81 rfl)) Via.refl e0 F_detailMessage_a0g (g := (mkF m 1 #[.val (.ref a0g)] [(.ref a0g)])) rfl rfl (hb hby d15_1)
  obtain ⟨fs, hr, hrun, hended, hW, hsame⟩ := X1.leave (v := some (.ref gv)) (fun h => by rw [Bd.returns] at h; cases h)
  refine ⟨_, _, pre0 _ ?_, hrun, hended, _, _, rfl, ?_, ⟨_, rfl⟩, hW, hsame.mono (by decide) (by decide)⟩
  · show Steps p.tables e below (s₁.setTop (mkF m 0 #[.val (.ref a0g)] [])) _
    refine XS.aloadN X0.here hx rfl (hb hby d15_0) rfl rfl ?_
    show Steps p.tables e below (s₁.setTop (mkF m 1 #[.val (.ref a0g)] [(.ref a0g)])) _
    refine st1 _ ?_
    show Steps p.tables e below (T1.setTop (mkF m 4 #[.val (.ref a0g)] [(.ref gv)])) _
    jvm_step X1.here [X1.here.top, hx, (hb hby d15_4), X1.method', Bd.returns, Value.isRef, FieldType.isReference]
    first | (intro acts; rw [hr _ acts rfl rfl rfl]) | rw [hr _ _ rfl rfl rfl]
    exact Steps.refl _
  · show Q_rmGm n0 Z cS aRS aEM aUS aSS a0g gv h0 _ T1.heap _
    rw [e1]
    exact ⟨rfl, N0, rfl⟩
def Q_rmGm0 (n0 : Nat) (Z : State) (cS : Int32) (aRS : Addr) (aEM : Addr) (aUS : Addr) (aSS : Addr) (a0g : Addr) (h0 : Heap) (v : Option Value) (h : Heap) (L : List Loc) : Prop := v = some .null ∧ Fr n0 L ∧ h = h0
set_option maxRecDepth 65536 in
set_option maxHeartbeats 40000000 in
theorem rmGm0 (l : Launch) (Z : State) (a0 : Array Value) (hw : ∀ d ∈ tables_1, d.before a0 Z = true) (ws : List Jvm.Cond) (cS : Int32) (aRS : Addr) (aEM : Addr) (aUS : Addr) (aSS : Addr) (a0g : Addr) (h0 : Heap) (n0 : Nat) (O0 : Old Z n0 h0) (GL : GF Z cS aRS aEM aUS aSS) (F_detailMessage_a0g : Fld Z h0 a0g "java/lang/Throwable" "detailMessage" "Ljava/lang/String;" .null) :
    MetFree l MN_19 (head1 (Jvm.Cond.code MN_19 jdk_78_method_6_code 1 (some (.object "java/lang/String")) :: ws) ({ frames := 0, cells := 0, slots := 0, locals := 0 } : Room)) (fun a U => a = #[(.ref a0g)] ∧ Z.Warmed39 U.vm ∧ U.heap = h0) (fun _ _ _ _ _ => True) (fun _ U o U' => ∃ v L, o = .returned v ∧ Q_rmGm0 n0 Z cS aRS aEM aUS aSS a0g h0 v U'.heap L ∧ FrameEnd U o U' L ({ frames := 0, cells := 0, slots := 0, locals := 0 } : Room).cells ({ frames := 0, cells := 0, slots := 0, locals := 0 } : Room).slots) := by
  refine MetFree.of_bodySF (plainFor_of_name pnv3) hisR ?_
  intro p e s m args below meth c s₁ Bd hml0 hP hK
  obtain ⟨rfl, hZ, hh⟩ := hP
  have hx := Bd.exec
  have hby := Bd.bytes
  have hml : c.maxLocals = 1 := hml0
  have hown : s.vm.findClass "java/lang/Throwable" = some m.cls := findClass_of_methodNamed Bd.named
  have hnm := (name_of_methodNamed Bd.named Bd.method).1
  have X0 : Stand p l e ({ frames := 0, cells := 0, slots := 0, locals := 0 } : Room) s m #[(.ref a0g)] below meth c s₁ [] 0 0 := Stand.of_body Bd
  have e0 : s₁.heap = h0 := by rw [← hh, Bd.state]; rfl
  have N0 := Fr.nil n0
  have pre0 : ∀ t, Steps p.tables e below (s₁.setTop (mkF m 0 #[.val (.ref a0g)] [])) t → Steps p.tables e below (s₁.setTop (entryFrame m #[(.ref a0g)] 1)) t := fun t k => castTop (ef_rmGr m a0g) k
  have GL' := GL
  obtain ⟨GCS, GCP, GSR, GSE, GEE, GFE, GSU, GSS, GA16, GHI, GLO⟩ := GL'
  obtain ⟨T1, X1, e1, st1⟩ := getF X0 hx hZ hown (host := "") (Or.inl (Wd hw 81 rfl)) Via.refl e0 F_detailMessage_a0g (g := (mkF m 1 #[.val (.ref a0g)] [(.ref a0g)])) rfl rfl (hb hby d15_1)
  obtain ⟨fs, hr, hrun, hended, hW, hsame⟩ := X1.leave (v := some .null) (fun h => by rw [Bd.returns] at h; cases h)
  refine ⟨_, _, pre0 _ ?_, hrun, hended, _, _, rfl, ?_, ⟨_, rfl⟩, hW, hsame.mono (by decide) (by decide)⟩
  · show Steps p.tables e below (s₁.setTop (mkF m 0 #[.val (.ref a0g)] [])) _
    refine XS.aloadN X0.here hx rfl (hb hby d15_0) rfl rfl ?_
    show Steps p.tables e below (s₁.setTop (mkF m 1 #[.val (.ref a0g)] [(.ref a0g)])) _
    refine st1 _ ?_
    show Steps p.tables e below (T1.setTop (mkF m 4 #[.val (.ref a0g)] [.null])) _
    jvm_step X1.here [X1.here.top, hx, (hb hby d15_4), X1.method', Bd.returns, Value.isRef, FieldType.isReference]
    first | (intro acts; rw [hr _ acts rfl rfl rfl]) | rw [hr _ _ rfl rfl rfl]
    exact Steps.refl _
  · show Q_rmGm0 n0 Z cS aRS aEM aUS aSS a0g h0 _ T1.heap _
    rw [e1]
    exact ⟨rfl, N0, rfl⟩
theorem d19_0 : decode jdk_2649_method_6_code 0 = .ok (.aload_n 0, 1) := by decide +kernel
theorem d19_1 : decode jdk_2649_method_6_code 1 = .ok (.getfield 7, 3) := by decide +kernel
theorem d19_4 : decode jdk_2649_method_6_code 4 = .ok (.ireturn, 1) := by decide +kernel
abbrev MN_20 : MethodName := ⟨"java/util/OptionalInt", "isPresent", "()Z"⟩
def Q_rmIp (n0 : Nat) (Z : State) (cS : Int32) (aRS : Addr) (aEM : Addr) (aUS : Addr) (aSS : Addr) (a0g : Addr) (h0 : Heap) (v : Option Value) (h : Heap) (L : List Loc) : Prop := v = some (.int 0) ∧ Fr n0 L ∧ h = h0
set_option maxRecDepth 65536 in
set_option maxHeartbeats 40000000 in
theorem rmIp (l : Launch) (Z : State) (a0 : Array Value) (hw : ∀ d ∈ tables_1, d.before a0 Z = true) (ws : List Jvm.Cond) (cS : Int32) (aRS : Addr) (aEM : Addr) (aUS : Addr) (aSS : Addr) (a0g : Addr) (h0 : Heap) (n0 : Nat) (O0 : Old Z n0 h0) (GL : GF Z cS aRS aEM aUS aSS) (F_isPresent_a0g : Fld Z h0 a0g "java/util/OptionalInt" "isPresent" "Z" (.int 0)) :
    MetFree l MN_20 (head1 (Jvm.Cond.code MN_20 jdk_2649_method_6_code 1 (some .boolean) :: ws) ({ frames := 0, cells := 0, slots := 0, locals := 0 } : Room)) (fun a U => a = #[(.ref a0g)] ∧ Z.Warmed39 U.vm ∧ U.heap = h0) (fun _ _ _ _ _ => True) (fun _ U o U' => ∃ v L, o = .returned v ∧ Q_rmIp n0 Z cS aRS aEM aUS aSS a0g h0 v U'.heap L ∧ FrameEnd U o U' L ({ frames := 0, cells := 0, slots := 0, locals := 0 } : Room).cells ({ frames := 0, cells := 0, slots := 0, locals := 0 } : Room).slots) := by
  refine MetFree.of_bodySF (plainFor_of_name pnv2) hisR ?_
  intro p e s m args below meth c s₁ Bd hml0 hP hK
  obtain ⟨rfl, hZ, hh⟩ := hP
  have hx := Bd.exec
  have hby := Bd.bytes
  have hml : c.maxLocals = 1 := hml0
  have hown : s.vm.findClass "java/util/OptionalInt" = some m.cls := findClass_of_methodNamed Bd.named
  have hnm := (name_of_methodNamed Bd.named Bd.method).1
  have X0 : Stand p l e ({ frames := 0, cells := 0, slots := 0, locals := 0 } : Room) s m #[(.ref a0g)] below meth c s₁ [] 0 0 := Stand.of_body Bd
  have e0 : s₁.heap = h0 := by rw [← hh, Bd.state]; rfl
  have N0 := Fr.nil n0
  have pre0 : ∀ t, Steps p.tables e below (s₁.setTop (mkF m 0 #[.val (.ref a0g)] [])) t → Steps p.tables e below (s₁.setTop (entryFrame m #[(.ref a0g)] 1)) t := fun t k => castTop (ef_rmGr m a0g) k
  have GL' := GL
  obtain ⟨GCS, GCP, GSR, GSE, GEE, GFE, GSU, GSS, GA16, GHI, GLO⟩ := GL'
  obtain ⟨T1, X1, e1, st1⟩ := getF X0 hx hZ hown (host := "") (Or.inl (Wd hw 114 rfl)) Via.refl e0 F_isPresent_a0g (g := (mkF m 1 #[.val (.ref a0g)] [(.ref a0g)])) rfl rfl (hb hby d19_1)
  obtain ⟨fs, hr, hrun, hended, hW, hsame⟩ := X1.leave (v := some (.int 0)) (fun h => by rw [Bd.returns] at h; cases h)
  refine ⟨_, _, pre0 _ ?_, hrun, hended, _, _, rfl, ?_, ⟨_, rfl⟩, hW, hsame.mono (by decide) (by decide)⟩
  · show Steps p.tables e below (s₁.setTop (mkF m 0 #[.val (.ref a0g)] [])) _
    refine XS.aloadN X0.here hx rfl (hb hby d19_0) rfl rfl ?_
    show Steps p.tables e below (s₁.setTop (mkF m 1 #[.val (.ref a0g)] [(.ref a0g)])) _
    refine st1 _ ?_
    show Steps p.tables e below (T1.setTop (mkF m 4 #[.val (.ref a0g)] [(.int 0)])) _
    exact retN X1 hx (t := .boolean) Bd.returns (by simp) (hb hby d19_4) hr
  · show Q_rmIp n0 Z cS aRS aEM aUS aSS a0g h0 _ T1.heap _
    rw [e1]
    exact ⟨rfl, N0, rfl⟩
theorem d16_0 : decode jdk_42_method_66_code 0 = .ok (.aload_n 0, 1) := by decide +kernel
theorem d16_1 : decode jdk_42_method_66_code 1 = .ok (.aload_n 1, 1) := by decide +kernel
theorem d16_2 : decode jdk_42_method_66_code 2 = .ok (.if_acmp .ne 5, 3) := by decide +kernel
theorem d16_5 : decode jdk_42_method_66_code 5 = .ok (.iconst 1, 1) := by decide +kernel
theorem d16_6 : decode jdk_42_method_66_code 6 = .ok (.ireturn, 1) := by decide +kernel
abbrev MN_21 : MethodName := ⟨"java/lang/String", "equals", "(Ljava/lang/Object;)Z"⟩
theorem ef_rmEq (m : MethodId) (a0e : Addr) (a0e : Addr) : entryFrame m #[(.ref a0e), (.ref a0e)] 3 = mkF m 0 #[.val (.ref a0e), .val (.ref a0e), .unset] [] := by first | (simp [entryFrame, mkF, argsToLocals, Value.category]; done) | rfl
def Q_rmEq (n0 : Nat) (Z : State) (cS : Int32) (aRS : Addr) (aEM : Addr) (aUS : Addr) (aSS : Addr) (a0e : Addr) (h0 : Heap) (v : Option Value) (h : Heap) (L : List Loc) : Prop := v = some (.int 1) ∧ Fr n0 L ∧ h = h0
set_option maxRecDepth 65536 in
set_option maxHeartbeats 40000000 in
theorem rmEq (l : Launch) (Z : State) (a0 : Array Value) (hw : ∀ d ∈ tables_1, d.before a0 Z = true) (ws : List Jvm.Cond) (cS : Int32) (aRS : Addr) (aEM : Addr) (aUS : Addr) (aSS : Addr) (a0e : Addr) (h0 : Heap) (n0 : Nat) (O0 : Old Z n0 h0) (GL : GF Z cS aRS aEM aUS aSS) :
    MetFree l MN_21 (head1 (Jvm.Cond.code MN_21 jdk_42_method_66_code 3 (some .boolean) :: ws) ({ frames := 0, cells := 0, slots := 0, locals := 0 } : Room)) (fun a U => a = #[(.ref a0e), (.ref a0e)] ∧ Z.Warmed39 U.vm ∧ U.heap = h0) (fun _ _ _ _ _ => True) (fun _ U o U' => ∃ v L, o = .returned v ∧ Q_rmEq n0 Z cS aRS aEM aUS aSS a0e h0 v U'.heap L ∧ FrameEnd U o U' L ({ frames := 0, cells := 0, slots := 0, locals := 0 } : Room).cells ({ frames := 0, cells := 0, slots := 0, locals := 0 } : Room).slots) := by
  refine MetFree.of_bodySF (plainFor_of_name pnv1) hisR ?_
  intro p e s m args below meth c s₁ Bd hml0 hP hK
  obtain ⟨rfl, hZ, hh⟩ := hP
  have hx := Bd.exec
  have hby := Bd.bytes
  have hml : c.maxLocals = 3 := hml0
  have hown : s.vm.findClass "java/lang/String" = some m.cls := findClass_of_methodNamed Bd.named
  have hnm := (name_of_methodNamed Bd.named Bd.method).1
  have X0 : Stand p l e ({ frames := 0, cells := 0, slots := 0, locals := 0 } : Room) s m #[(.ref a0e), (.ref a0e)] below meth c s₁ [] 0 0 := Stand.of_body Bd
  have e0 : s₁.heap = h0 := by rw [← hh, Bd.state]; rfl
  have N0 := Fr.nil n0
  have pre0 : ∀ t, Steps p.tables e below (s₁.setTop (mkF m 0 #[.val (.ref a0e), .val (.ref a0e), .unset] [])) t → Steps p.tables e below (s₁.setTop (entryFrame m #[(.ref a0e), (.ref a0e)] 3)) t := fun t k => castTop (ef_rmEq m a0e a0e) k
  have GL' := GL
  obtain ⟨GCS, GCP, GSR, GSE, GEE, GFE, GSU, GSS, GA16, GHI, GLO⟩ := GL'
  obtain ⟨fs, hr, hrun, hended, hW, hsame⟩ := X0.leave (v := some (.int 1)) (fun h => by rw [Bd.returns] at h; cases h)
  refine ⟨_, _, pre0 _ ?_, hrun, hended, _, _, rfl, ?_, ⟨_, rfl⟩, hW, hsame.mono (by decide) (by decide)⟩
  · show Steps p.tables e below (s₁.setTop (mkF m 0 #[.val (.ref a0e), .val (.ref a0e), .unset] [])) _
    refine XS.aloadN X0.here hx rfl (hb hby d16_0) rfl rfl ?_
    refine XS.aloadN X0.here hx rfl (hb hby d16_1) rfl rfl ?_
    show Steps p.tables e below (s₁.setTop (mkF m 2 #[.val (.ref a0e), .val (.ref a0e), .unset] [(.ref a0e), (.ref a0e)])) _
    refine Jvm.RoadKit.acmp (g := (mkF m 2 #[.val (.ref a0e), .val (.ref a0e), .unset] [(.ref a0e), (.ref a0e)])) X0 hx rfl rfl rfl (pc0 := 2) (pc' := 5) (same := true) rfl (hb hby d16_2) rfl (decide_eq_true rfl) (by decide) (by decide) ?_
    show Steps p.tables e below (s₁.setTop (mkF m 5 #[.val (.ref a0e), .val (.ref a0e), .unset] [])) _
    refine XS.iconst X0.here hx rfl (hb hby d16_5) ?_
    show Steps p.tables e below (s₁.setTop (mkF m 6 #[.val (.ref a0e), .val (.ref a0e), .unset] [(.int 1)])) _
    exact retN X0 hx (t := .boolean) Bd.returns (by simp) (hb hby d16_6) hr
  · show Q_rmEq n0 Z cS aRS aEM aUS aSS a0e h0 _ s₁.heap _
    rw [e0]
    exact ⟨rfl, N0, rfl⟩
theorem d1_0 : decode method_2_code 0 = .ok (.iload_n 1, 1) := by decide +kernel
theorem d1_1 : decode method_2_code 1 = .ok (.i2c, 1) := by decide +kernel
theorem d1_2 : decode method_2_code 2 = .ok (.istore 4, 2) := by decide +kernel
theorem d1_4 : decode method_2_code 4 = .ok (.iload_n 2, 1) := by decide +kernel
theorem d1_5 : decode method_2_code 5 = .ok (.i2c, 1) := by decide +kernel
theorem d1_6 : decode method_2_code 6 = .ok (.istore 5, 2) := by decide +kernel
theorem d1_8 : decode method_2_code 8 = .ok (.iload_n 3, 1) := by decide +kernel
theorem d1_9 : decode method_2_code 9 = .ok (.i2c, 1) := by decide +kernel
theorem d1_10 : decode method_2_code 10 = .ok (.istore 6, 2) := by decide +kernel
theorem d1_12 : decode method_2_code 12 = .ok (.iload_n 0, 1) := by decide +kernel
theorem d1_13 : decode method_2_code 13 = .ok (.iconst 4, 1) := by decide +kernel
theorem d1_14 : decode method_2_code 14 = .ok (.if_icmp .ne 5, 3) := by decide +kernel
theorem d1_19 : decode method_2_code 19 = .ok (.iload_n 0, 1) := by decide +kernel
theorem d1_20 : decode method_2_code 20 = .ok (.ifCond .ne 14, 3) := by decide +kernel
theorem d1_23 : decode method_2_code 23 = .ok (.new 7, 3) := by decide +kernel
theorem d1_26 : decode method_2_code 26 = .ok (.dup, 1) := by decide +kernel
theorem d1_27 : decode method_2_code 27 = .ok (.iconst 0, 1) := by decide +kernel
theorem d1_28 : decode method_2_code 28 = .ok (.newarray .char, 2) := by decide +kernel
theorem d1_30 : decode method_2_code 30 = .ok (.invokespecial 9, 3) := by decide +kernel
theorem pdv12 : parseMethodDescriptor "([C)V" = some ⟨[(.array .char)], none⟩ := by decide +kernel
theorem d1_33 : decode method_2_code 33 = .ok (.areturn, 1) := by decide +kernel
theorem d1_34 : decode method_2_code 34 = .ok (.iload_n 0, 1) := by decide +kernel
theorem d1_35 : decode method_2_code 35 = .ok (.iconst 1, 1) := by decide +kernel
theorem d1_36 : decode method_2_code 36 = .ok (.if_icmp .ne 19, 3) := by decide +kernel
theorem d1_39 : decode method_2_code 39 = .ok (.new 7, 3) := by decide +kernel
theorem d1_42 : decode method_2_code 42 = .ok (.dup, 1) := by decide +kernel
theorem d1_43 : decode method_2_code 43 = .ok (.iconst 1, 1) := by decide +kernel
theorem d1_44 : decode method_2_code 44 = .ok (.newarray .char, 2) := by decide +kernel
theorem d1_46 : decode method_2_code 46 = .ok (.dup, 1) := by decide +kernel
theorem d1_47 : decode method_2_code 47 = .ok (.iconst 0, 1) := by decide +kernel
theorem d1_48 : decode method_2_code 48 = .ok (.iload 4, 2) := by decide +kernel
theorem d1_50 : decode method_2_code 50 = .ok (.castore, 1) := by decide +kernel
theorem d1_51 : decode method_2_code 51 = .ok (.invokespecial 9, 3) := by decide +kernel
theorem d1_54 : decode method_2_code 54 = .ok (.areturn, 1) := by decide +kernel
theorem d1_55 : decode method_2_code 55 = .ok (.iload_n 0, 1) := by decide +kernel
theorem d1_56 : decode method_2_code 56 = .ok (.iconst 2, 1) := by decide +kernel
theorem d1_57 : decode method_2_code 57 = .ok (.if_icmp .ne 24, 3) := by decide +kernel
theorem d1_60 : decode method_2_code 60 = .ok (.new 7, 3) := by decide +kernel
theorem d1_63 : decode method_2_code 63 = .ok (.dup, 1) := by decide +kernel
theorem d1_64 : decode method_2_code 64 = .ok (.iconst 2, 1) := by decide +kernel
theorem d1_65 : decode method_2_code 65 = .ok (.newarray .char, 2) := by decide +kernel
theorem d1_67 : decode method_2_code 67 = .ok (.dup, 1) := by decide +kernel
theorem d1_68 : decode method_2_code 68 = .ok (.iconst 0, 1) := by decide +kernel
theorem d1_69 : decode method_2_code 69 = .ok (.iload 4, 2) := by decide +kernel
theorem d1_71 : decode method_2_code 71 = .ok (.castore, 1) := by decide +kernel
theorem d1_72 : decode method_2_code 72 = .ok (.dup, 1) := by decide +kernel
theorem d1_73 : decode method_2_code 73 = .ok (.iconst 1, 1) := by decide +kernel
theorem d1_74 : decode method_2_code 74 = .ok (.iload 5, 2) := by decide +kernel
theorem d1_76 : decode method_2_code 76 = .ok (.castore, 1) := by decide +kernel
theorem d1_77 : decode method_2_code 77 = .ok (.invokespecial 9, 3) := by decide +kernel
theorem d1_80 : decode method_2_code 80 = .ok (.areturn, 1) := by decide +kernel
theorem d1_81 : decode method_2_code 81 = .ok (.new 7, 3) := by decide +kernel
theorem d1_84 : decode method_2_code 84 = .ok (.dup, 1) := by decide +kernel
theorem d1_85 : decode method_2_code 85 = .ok (.iconst 3, 1) := by decide +kernel
theorem d1_86 : decode method_2_code 86 = .ok (.newarray .char, 2) := by decide +kernel
theorem d1_88 : decode method_2_code 88 = .ok (.dup, 1) := by decide +kernel
theorem d1_89 : decode method_2_code 89 = .ok (.iconst 0, 1) := by decide +kernel
theorem d1_90 : decode method_2_code 90 = .ok (.iload 4, 2) := by decide +kernel
theorem d1_92 : decode method_2_code 92 = .ok (.castore, 1) := by decide +kernel
theorem d1_93 : decode method_2_code 93 = .ok (.dup, 1) := by decide +kernel
theorem d1_94 : decode method_2_code 94 = .ok (.iconst 1, 1) := by decide +kernel
theorem d1_95 : decode method_2_code 95 = .ok (.iload 5, 2) := by decide +kernel
theorem d1_97 : decode method_2_code 97 = .ok (.castore, 1) := by decide +kernel
theorem d1_98 : decode method_2_code 98 = .ok (.dup, 1) := by decide +kernel
theorem d1_99 : decode method_2_code 99 = .ok (.iconst 2, 1) := by decide +kernel
theorem d1_100 : decode method_2_code 100 = .ok (.iload 6, 2) := by decide +kernel
theorem d1_102 : decode method_2_code 102 = .ok (.castore, 1) := by decide +kernel
theorem d1_103 : decode method_2_code 103 = .ok (.invokespecial 9, 3) := by decide +kernel
theorem d1_106 : decode method_2_code 106 = .ok (.areturn, 1) := by decide +kernel
theorem pnv7 : plainName "com/example/metaloom/metaloom/store/RejectionInvalidPinLaw" = true := by first | (simp [plainName, overriddenIn]; done) | decide +kernel
abbrev MN_22 : MethodName := ⟨"com/example/metaloom/metaloom/store/RejectionInvalidPinLaw", "draw", "(IIII)Ljava/lang/String;"⟩
theorem ef_rmDr (m : MethodId) (p0 : Int32) (p1 : Int32) (p2 : Int32) (p3 : Int32) : entryFrame m #[(.int p0), (.int p1), (.int p2), (.int p3)] 7 = mkF m 0 #[.val (.int p0), .val (.int p1), .val (.int p2), .val (.int p3), .unset, .unset, .unset] [] := by first | (simp [entryFrame, mkF, argsToLocals, Value.category]; done) | rfl
def Q_rmDr (n0 : Nat) (Z : State) (cS : Int32) (aRS : Addr) (aEM : Addr) (aUS : Addr) (aSS : Addr) (p0 : Int32) (p1 : Int32) (p2 : Int32) (p3 : Int32) (h0 : Heap) (v : Option Value) (h : Heap) (L : List Loc) : Prop := ∃ b : Addr, v = some (.ref b) ∧ Fr n0 L ∧ Keep h0 h [] ∧ (h0.size ≤ b) ∧ (Exa Z h b "java/lang/String")
set_option maxRecDepth 65536 in
set_option maxHeartbeats 40000000 in
theorem rmDr (l : Launch) (Z : State) (a0 : Array Value) (hw : ∀ d ∈ tables_1, d.before a0 Z = true) (ws : List Jvm.Cond) (cS : Int32) (aRS : Addr) (aEM : Addr) (aUS : Addr) (aSS : Addr) (p0 : Int32) (p1 : Int32) (p2 : Int32) (p3 : Int32) (h0 : Heap) (n0 : Nat) (O0 : Old Z n0 h0) (GL : GF Z cS aRS aEM aUS aSS) (h4 : ¬ (p0 = (4 : Int32))) :
    MetFree l MN_22 (head1 (Jvm.Cond.code MN_22 method_2_code 7 (some (.object "java/lang/String")) :: ws) ({ frames := 6, cells := 6, slots := 16, locals := 88 } : Room)) (fun a U => a = #[(.int p0), (.int p1), (.int p2), (.int p3)] ∧ Z.Warmed39 U.vm ∧ U.heap = h0 ∧ CHv Z EL1 U.vm h0) (fun _ _ _ _ _ => True) (fun _ U o U' => ∃ v L, o = .returned v ∧ Q_rmDr n0 Z cS aRS aEM aUS aSS p0 p1 p2 p3 h0 v U'.heap L ∧ CHr Z EL1 U.vm U.heap U'.vm U'.heap ∧ ReturnedEndW U o U' L ({ frames := 6, cells := 6, slots := 16, locals := 88 } : Room).cells ({ frames := 6, cells := 6, slots := 16, locals := 88 } : Room).slots) := by
  refine MetFree.of_bodySF (plainFor_of_name pnv7) hisR ?_
  intro p e s m args below meth c s₁ Bd hml0 hP hK
  obtain ⟨rfl, hZ, hh, H0⟩ := hP
  have hx := Bd.exec
  have hby := Bd.bytes
  have hml : c.maxLocals = 7 := hml0
  have hown : s.vm.findClass "com/example/metaloom/metaloom/store/RejectionInvalidPinLaw" = some m.cls := findClass_of_methodNamed Bd.named
  have hnm := (name_of_methodNamed Bd.named Bd.method).1
  have X0 : Stand p l e ({ frames := 6, cells := 6, slots := 16, locals := 88 } : Room) s m #[(.int p0), (.int p1), (.int p2), (.int p3)] below meth c s₁ [] 0 0 := Stand.of_body Bd
  have e0 : s₁.heap = h0 := by rw [← hh, Bd.state]; rfl
  have N0 := Fr.nil n0
  have pre0 : ∀ t, Steps p.tables e below (s₁.setTop (mkF m 0 #[.val (.int p0), .val (.int p1), .val (.int p2), .val (.int p3), .unset, .unset, .unset] [])) t → Steps p.tables e below (s₁.setTop (entryFrame m #[(.int p0), (.int p1), (.int p2), (.int p3)] 7)) t := fun t k => castTop (ef_rmDr m p0 p1 p2 p3) k
  have X0w : Stand p l e ({ frames := 6, cells := 6, slots := 16, locals := 88 } : Room) (s.setVm s.vm) m #[(.int p0), (.int p1), (.int p2), (.int p3)] below meth c s₁ [] 0 0 := X0
  have R0 : CHr Z EL1 s.vm h0 s.vm h0 := CHr.refl H0
  have hS0 : s.Since s.vm h0.size := (State.WarmedH.refl s).since _
  have GL' := GL
  obtain ⟨GCS, GCP, GSR, GSE, GEE, GFE, GSU, GSS, GA16, GHI, GLO⟩ := GL'
  have pre2 : ∀ t, Steps p.tables e below (s₁.setTop (mkF m 20 #[.val (.int p0), .val (.int p1), .val (.int p2), .val (.int p3), .val (.int (p1.toUInt32.toUInt16.toUInt32.toInt32)), .val (.int (p2.toUInt32.toUInt16.toUInt32.toInt32)), .val (.int (p3.toUInt32.toUInt16.toUInt32.toInt32))] [(.int p0)])) t → Steps p.tables e below (s₁.setTop (entryFrame m #[(.int p0), (.int p1), (.int p2), (.int p3)] 7)) t := fun t kt => by
    refine pre0 t ?_
    show Steps p.tables e below (s₁.setTop (mkF m 0 #[.val (.int p0), .val (.int p1), .val (.int p2), .val (.int p3), .unset, .unset, .unset] [])) _
    refine XS.iloadN X0w.here hx rfl (hb hby d1_0) rfl ?_
    refine XS.i2c X0w.here hx rfl (hb hby d1_1) rfl ?_
    refine XS.istore X0w.here hx rfl (hb hby d1_2) rfl (l' := #[.val (.int p0), .val (.int p1), .val (.int p2), .val (.int p3), .val (.int (p1.toUInt32.toUInt16.toUInt32.toInt32)), .unset, .unset]) rfl ?_
    refine XS.iloadN X0w.here hx rfl (hb hby d1_4) rfl ?_
    show Steps p.tables e below (s₁.setTop (mkF m 5 #[.val (.int p0), .val (.int p1), .val (.int p2), .val (.int p3), .val (.int (p1.toUInt32.toUInt16.toUInt32.toInt32)), .unset, .unset] [(.int p2)])) _
    refine XS.i2c X0w.here hx rfl (hb hby d1_5) rfl ?_
    refine XS.istore X0w.here hx rfl (hb hby d1_6) rfl (l' := #[.val (.int p0), .val (.int p1), .val (.int p2), .val (.int p3), .val (.int (p1.toUInt32.toUInt16.toUInt32.toInt32)), .val (.int (p2.toUInt32.toUInt16.toUInt32.toInt32)), .unset]) rfl ?_
    refine XS.iloadN X0w.here hx rfl (hb hby d1_8) rfl ?_
    refine XS.i2c X0w.here hx rfl (hb hby d1_9) rfl ?_
    show Steps p.tables e below (s₁.setTop (mkF m 10 #[.val (.int p0), .val (.int p1), .val (.int p2), .val (.int p3), .val (.int (p1.toUInt32.toUInt16.toUInt32.toInt32)), .val (.int (p2.toUInt32.toUInt16.toUInt32.toInt32)), .unset] [(.int (p3.toUInt32.toUInt16.toUInt32.toInt32))])) _
    refine XS.istore X0w.here hx rfl (hb hby d1_10) rfl (l' := #[.val (.int p0), .val (.int p1), .val (.int p2), .val (.int p3), .val (.int (p1.toUInt32.toUInt16.toUInt32.toInt32)), .val (.int (p2.toUInt32.toUInt16.toUInt32.toInt32)), .val (.int (p3.toUInt32.toUInt16.toUInt32.toInt32))]) rfl ?_
    refine XS.iloadN X0w.here hx rfl (hb hby d1_12) rfl ?_
    refine XS.iconst X0w.here hx rfl (hb hby d1_13) ?_
    refine XS.icmpYes X0w.here hx rfl (pc0 := 14) (pc' := 19) rfl (hb hby d1_14) rfl (feq h4).2 (by decide) (by decide) ?_
    show Steps p.tables e below (s₁.setTop (mkF m 19 #[.val (.int p0), .val (.int p1), .val (.int p2), .val (.int p3), .val (.int (p1.toUInt32.toUInt16.toUInt32.toInt32)), .val (.int (p2.toUInt32.toUInt16.toUInt32.toInt32)), .val (.int (p3.toUInt32.toUInt16.toUInt32.toInt32))] [])) _
    refine XS.iloadN X0w.here hx rfl (hb hby d1_19) rfl ?_
    exact kt
  by_cases hc20_1 : p0 = (0 : Int32)
  · obtain ⟨T3, h3, X3, e3, E3, A3, D3, -, st3⟩ := newO X0w hx hZ hown (Wd hw 5 rfl) (Wd hw 6 rfl) (Wd hw 7 rfl) e0 (g := (mkF m 23 #[.val (.int p0), .val (.int p1), .val (.int p2), .val (.int p3), .val (.int (p1.toUInt32.toUInt16.toUInt32.toInt32)), .val (.int (p2.toUInt32.toUInt16.toUInt32.toInt32)), .val (.int (p3.toUInt32.toUInt16.toUInt32.toInt32))] [])) rfl (hb hby d1_23) (by decide) (by decide)
    obtain ⟨b3, g3⟩ : ∃ z, z = h0.size := ⟨_, rfl⟩
    rw [← g3] at A3 D3 st3
    have g_b3 : n0 ≤ b3 := Nat.le_trans (own_sz O0) (Nat.le_of_eq g3.symm)
    have sz_b3 : h0.size ≤ b3 := Nat.le_trans (Keep.refl h0 []).1 (Nat.le_of_eq g3.symm)
    have H_4 := H0.ext E3
    have R_4 := R0.trans (CHr.ext E3 H0)
    have K3 : Keep h0 h3 [] := (Keep.refl h0 []).ext E3
    have O3 := O0.ext E3
    have F_coder_b3 : Fld Z h3 b3 "java/lang/String" "coder" "B" (.int 0) := D3 (Or.inr (Wd hw 32 rfl)) (ty := .byte) (by decide)
    have F_value_b3 : Fld Z h3 b3 "java/lang/String" "value" "[B" .null := D3 (Or.inr (Wd hw 34 rfl)) (ty := (.array .byte)) (by decide)
    obtain ⟨T5, h5, k5, X5, e5, E5, A5, A5', st5⟩ := newPE X3 hx hZ (Wd hw 8 rfl) e3 (g := (mkF m 28 #[.val (.int p0), .val (.int p1), .val (.int p2), .val (.int p3), .val (.int (p1.toUInt32.toUInt16.toUInt32.toInt32)), .val (.int (p2.toUInt32.toUInt16.toUInt32.toInt32)), .val (.int (p3.toUInt32.toUInt16.toUInt32.toInt32))] [(.int 0), (.ref b3), (.ref b3)])) rfl (hb hby d1_28) rfl (by decide) (cap := 0) (by decide) (by decide) (by decide) (by decide) (ad := "[C") rfl
    obtain ⟨b5, g5⟩ : ∃ z, z = h3.size := ⟨_, rfl⟩
    rw [← g5] at A5 A5' st5
    have g_b5 : n0 ≤ b5 := Nat.le_trans (own_sz O3) (Nat.le_of_eq g5.symm)
    have sz_b5 : h0.size ≤ b5 := Nat.le_trans K3.1 (Nat.le_of_eq g5.symm)
    have H_6 := H_4.ext E5
    have R_6 := R_4.trans (CHr.ext E5 H_4)
    have K5 : Keep h0 h5 [] := K3.ext E5
    have O5 := O3.ext E5
    have V_b5 : Arv Z h5 b5 k5 .char (0 : Int32) [] (.int 0) := Arv.new A5 (by decide)
    obtain ⟨_, _, ⟨T7, L7, k7, n7⟩, -, X7', hS7', hg7, ⟨Lc7, hQ7, l7, y7, z7, Rs7⟩, st7⟩ := X5.specialBackS hx (y := MN_9) rfl hown (mvT hZ (Wd hw 9 rfl)) (mvT hZ (Wd hw 10 rfl)) (mvT hZ (Wd hw 11 rfl)) (by decide) (backOfSH (W := 1) (rmIc_0 l Z a0 hw [] cS aRS aEM aUS aSS (b3) (b5) (k5) (h5) n0 O5 GL (A3.ext E5) (F_value_b3.ext E5) (F_coder_b3.ext E5) g_b3 V_b5) hZ (Wd hw 11 rfl) (Wd hw 7 rfl) (by decide) (by decide) (own_EW hw) H_6) (g := (mkF m 30 #[.val (.int p0), .val (.int p1), .val (.int p2), .val (.int p3), .val (.int (p1.toUInt32.toUInt16.toUInt32.toInt32)), .val (.int (p2.toUInt32.toUInt16.toUInt32.toInt32)), .val (.int (p3.toUInt32.toUInt16.toUInt32.toInt32))] [(.ref b5), (.ref b3), (.ref b3)])) rfl (by rw [hml]; rfl) (Steps.refl _) (a := b3) (argsL := [(.ref b5)]) (rest := [(.ref b3)]) (lenOf pdv12 rfl) rfl (by show 2 * 0 + _ ≤ _; exact Nat.le_of_eq rfl) (hb hby d1_30) (fun _ _ => ⟨rfl, e5, (by decide : 2 + 4 ≤ _), (by decide : 4 + 8 ≤ _)⟩)
    dsimp only [Pt.U, Pt.locs, Pt.cells, Pt.slots] at X7' l7 y7 z7 st7 hQ7 hS7' hg7 Rs7
    subst l7 y7 z7
    obtain ⟨X7, hS7, hZ7, hown7⟩ := rebS hS0 (by rw [e5]; exact (Nat.le_trans (Nat.le_trans (Nat.le_refl _) E3.1) E5.1)) X7' hS7' hg7 hZ hown
    obtain ⟨b_7, kb_7, rfl, N7q, Kc7, P7_0, P7_1, P7_2, P7_3⟩ := hQ7
    have K7 : Keep h0 T7.heap [] := K5.trans Kc7 (allS (Or.inr sz_b3) all0)
    have O7 := O5.keep Kc7 (allS g_b3 all0)
    have H_8 := Rs7.1
    have R_8 := R_6.trans Rs7
    have N7 := Fr.app N0 N7q
    obtain ⟨fs, hr, hrun, hended, hRW⟩ := X7.leaveW hS7 (Nat.le_refl _) (v := some (.ref b3)) (fun h => by rw [Bd.returns] at h; cases h)
    have hCR : CHr Z EL1 s.vm s.heap T7.vm T7.heap := by
      rw [hh]
      exact R_8.trans (CHv.at X7 hZ7 (own_EW hw) H_8)
    refine ⟨_, _, pre2 _ ?_, hrun, hended, _, _, rfl, ?_, hCR, hRW.1, hRW.2.1, hRW.2.2.1, hRW.2.2.2.mono (by decide) (by decide)⟩
    · show Steps p.tables e below (s₁.setTop (mkF m 20 #[.val (.int p0), .val (.int p1), .val (.int p2), .val (.int p3), .val (.int (p1.toUInt32.toUInt16.toUInt32.toInt32)), .val (.int (p2.toUInt32.toUInt16.toUInt32.toInt32)), .val (.int (p3.toUInt32.toUInt16.toUInt32.toInt32))] [(.int p0)])) _
      refine XS.ifNo X0w.here hx rfl (hb hby d1_20) rfl ((if0 _ _).trans (teq hc20_1).2) ?_
      show Steps p.tables e below (s₁.setTop (mkF m 23 #[.val (.int p0), .val (.int p1), .val (.int p2), .val (.int p3), .val (.int (p1.toUInt32.toUInt16.toUInt32.toInt32)), .val (.int (p2.toUInt32.toUInt16.toUInt32.toInt32)), .val (.int (p3.toUInt32.toUInt16.toUInt32.toInt32))] [])) _
      refine st3 _ ?_
      show Steps p.tables e below (T3.setTop (mkF m 26 #[.val (.int p0), .val (.int p1), .val (.int p2), .val (.int p3), .val (.int (p1.toUInt32.toUInt16.toUInt32.toInt32)), .val (.int (p2.toUInt32.toUInt16.toUInt32.toInt32)), .val (.int (p3.toUInt32.toUInt16.toUInt32.toInt32))] [(.ref b3)])) _
      refine XS.dup X3.here hx rfl (hb hby d1_26) rfl rfl ?_
      refine XS.iconst X3.here hx rfl (hb hby d1_27) ?_
      show Steps p.tables e below (T3.setTop (mkF m 28 #[.val (.int p0), .val (.int p1), .val (.int p2), .val (.int p3), .val (.int (p1.toUInt32.toUInt16.toUInt32.toInt32)), .val (.int (p2.toUInt32.toUInt16.toUInt32.toInt32)), .val (.int (p3.toUInt32.toUInt16.toUInt32.toInt32))] [(.int 0), (.ref b3), (.ref b3)])) _
      refine st5 _ ?_
      show Steps p.tables e below (T5.setTop (mkF m 30 #[.val (.int p0), .val (.int p1), .val (.int p2), .val (.int p3), .val (.int (p1.toUInt32.toUInt16.toUInt32.toInt32)), .val (.int (p2.toUInt32.toUInt16.toUInt32.toInt32)), .val (.int (p3.toUInt32.toUInt16.toUInt32.toInt32))] [(.ref b5), (.ref b3), (.ref b3)])) _
      refine st7.trans ?_
      show Steps p.tables e below (T7.setTop (mkF m 33 #[.val (.int p0), .val (.int p1), .val (.int p2), .val (.int p3), .val (.int (p1.toUInt32.toUInt16.toUInt32.toInt32)), .val (.int (p2.toUInt32.toUInt16.toUInt32.toInt32)), .val (.int (p3.toUInt32.toUInt16.toUInt32.toInt32))] [(.ref b3)])) _
      jvm_step X7.here [X7.here.top, hx, (hb hby d1_33), X7.method', Bd.returns, Value.isRef, FieldType.isReference]
      first | (intro acts; rw [hr _ acts rfl rfl rfl]) | rw [hr _ _ rfl rfl rfl]
      exact Steps.refl _
    · show Q_rmDr n0 Z cS aRS aEM aUS aSS p0 p1 p2 p3 h0 _ T7.heap _
      exact ⟨b3, rfl, N7, K7, sz_b3, P7_0⟩
  · have pre10 : ∀ t, Steps p.tables e below (s₁.setTop (mkF m 36 #[.val (.int p0), .val (.int p1), .val (.int p2), .val (.int p3), .val (.int (p1.toUInt32.toUInt16.toUInt32.toInt32)), .val (.int (p2.toUInt32.toUInt16.toUInt32.toInt32)), .val (.int (p3.toUInt32.toUInt16.toUInt32.toInt32))] [(.int 1), (.int p0)])) t → Steps p.tables e below (s₁.setTop (entryFrame m #[(.int p0), (.int p1), (.int p2), (.int p3)] 7)) t := fun t kt => by
      refine pre2 t ?_
      show Steps p.tables e below (s₁.setTop (mkF m 20 #[.val (.int p0), .val (.int p1), .val (.int p2), .val (.int p3), .val (.int (p1.toUInt32.toUInt16.toUInt32.toInt32)), .val (.int (p2.toUInt32.toUInt16.toUInt32.toInt32)), .val (.int (p3.toUInt32.toUInt16.toUInt32.toInt32))] [(.int p0)])) _
      refine XS.ifYes X0w.here hx rfl (pc0 := 20) (pc' := 34) rfl (hb hby d1_20) rfl ((if0 _ _).trans (feq hc20_1).2) (by decide) (by decide) ?_
      refine XS.iloadN X0w.here hx rfl (hb hby d1_34) rfl ?_
      refine XS.iconst X0w.here hx rfl (hb hby d1_35) ?_
      exact kt
    by_cases hc36_9 : p0 = (1 : Int32)
    · obtain ⟨T11, h11, X11, e11, E11, A11, D11, -, st11⟩ := newO X0w hx hZ hown (Wd hw 5 rfl) (Wd hw 6 rfl) (Wd hw 7 rfl) e0 (g := (mkF m 39 #[.val (.int p0), .val (.int p1), .val (.int p2), .val (.int p3), .val (.int (p1.toUInt32.toUInt16.toUInt32.toInt32)), .val (.int (p2.toUInt32.toUInt16.toUInt32.toInt32)), .val (.int (p3.toUInt32.toUInt16.toUInt32.toInt32))] [])) rfl (hb hby d1_39) (by decide) (by decide)
      obtain ⟨b11, g11⟩ : ∃ z, z = h0.size := ⟨_, rfl⟩
      rw [← g11] at A11 D11 st11
      have g_b11 : n0 ≤ b11 := Nat.le_trans (own_sz O0) (Nat.le_of_eq g11.symm)
      have sz_b11 : h0.size ≤ b11 := Nat.le_trans (Keep.refl h0 []).1 (Nat.le_of_eq g11.symm)
      have H_12 := H0.ext E11
      have R_12 := R0.trans (CHr.ext E11 H0)
      have K11 : Keep h0 h11 [] := (Keep.refl h0 []).ext E11
      have O11 := O0.ext E11
      have F_coder_b11 : Fld Z h11 b11 "java/lang/String" "coder" "B" (.int 0) := D11 (Or.inr (Wd hw 32 rfl)) (ty := .byte) (by decide)
      have F_value_b11 : Fld Z h11 b11 "java/lang/String" "value" "[B" .null := D11 (Or.inr (Wd hw 34 rfl)) (ty := (.array .byte)) (by decide)
      obtain ⟨T13, h13, k13, X13, e13, E13, A13, A13', st13⟩ := newPE X11 hx hZ (Wd hw 8 rfl) e11 (g := (mkF m 44 #[.val (.int p0), .val (.int p1), .val (.int p2), .val (.int p3), .val (.int (p1.toUInt32.toUInt16.toUInt32.toInt32)), .val (.int (p2.toUInt32.toUInt16.toUInt32.toInt32)), .val (.int (p3.toUInt32.toUInt16.toUInt32.toInt32))] [(.int 1), (.ref b11), (.ref b11)])) rfl (hb hby d1_44) rfl (by decide) (cap := 1) (by decide) (by decide) (by decide) (by decide) (ad := "[C") rfl
      obtain ⟨b13, g13⟩ : ∃ z, z = h11.size := ⟨_, rfl⟩
      rw [← g13] at A13 A13' st13
      have g_b13 : n0 ≤ b13 := Nat.le_trans (own_sz O11) (Nat.le_of_eq g13.symm)
      have sz_b13 : h0.size ≤ b13 := Nat.le_trans K11.1 (Nat.le_of_eq g13.symm)
      have H_14 := H_12.ext E13
      have R_14 := R_12.trans (CHr.ext E13 H_12)
      have K13 : Keep h0 h13 [] := K11.ext E13
      have O13 := O11.ext E13
      have V_b13 : Arv Z h13 b13 k13 .char (1 : Int32) [(.int 0)] (.int 0) := (Arv.new A13 (by decide)).pad (pad_rep [] (.int 0) 1)
      obtain ⟨cl15, Ar15, q15, S15, N15_, H15, G15⟩ := id (V_b13)
      have hin15 : ¬ ((0 : Int32) < 0 ∨ cl15.slots.size ≤ ((0 : Int32)).toNatClampNeg) := inb_of S15 ⟨(by decide), (by decide)⟩
      obtain ⟨T15, h15, X15, e15, W15, st15⟩ := stC X13 hx hZ e13 Ar15 (j := (0 : Int32)) hin15 (g := (mkF m 50 #[.val (.int p0), .val (.int p1), .val (.int p2), .val (.int p3), .val (.int (p1.toUInt32.toUInt16.toUInt32.toInt32)), .val (.int (p2.toUInt32.toUInt16.toUInt32.toInt32)), .val (.int (p3.toUInt32.toUInt16.toUInt32.toInt32))] [(.int (p1.toUInt32.toUInt16.toUInt32.toInt32)), (.int 0), (.ref b13), (.ref b13), (.ref b11), (.ref b11)])) rfl rfl (hb hby d1_50)
      have Sf17 : Safe Z EL1 s.vm h13 b13 := Safe.exa (EL := EL1) hZ.alike A13' (by decide) (by decide)
      have H_16 := H_14.wr W15 Sf17
      have R_16 := R_14.trans (CHr.wr W15 Sf17 H_14)
      have K15 : Keep h0 h15 [] := K13.wr W15 (Or.inr sz_b13)
      have O15 := O13.wr W15 g_b13
      have N15 := Fr.snoc X15 N0 g_b13
      have V15' : Arv Z h15 b13 k13 .char (1 : Int32) [(.int (nar .char (p1.toUInt32.toUInt16.toUInt32.toInt32)))] (.int 0) := Arv.set Ar15 q15 S15 N15_ H15 G15 (fits_nar_char _) W15 0 rfl (Nat.le_of_ble_eq_true rfl)
      have V15 : Arv Z h15 b13 k13 .char (1 : Int32) [(.int (p1.toUInt32.toUInt16.toUInt32.toInt32))] (.int 0) := by
        rw [own_nari2c p1] at V15'
        exact V15'
      have hi0 : nar .char (p1.toUInt32.toUInt16.toUInt32.toInt32) = (p1.toUInt32.toUInt16.toUInt32.toInt32) := own_nari2c p1
      have pre18 : ∀ t, Steps p.tables e below (T15.setTop (mkF m 51 #[.val (.int p0), .val (.int p1), .val (.int p2), .val (.int p3), .val (.int (p1.toUInt32.toUInt16.toUInt32.toInt32)), .val (.int (p2.toUInt32.toUInt16.toUInt32.toInt32)), .val (.int (p3.toUInt32.toUInt16.toUInt32.toInt32))] [(.ref b13), (.ref b11), (.ref b11)])) t → Steps p.tables e below (s₁.setTop (entryFrame m #[(.int p0), (.int p1), (.int p2), (.int p3)] 7)) t := fun t kt => by
        refine pre10 t ?_
        show Steps p.tables e below (s₁.setTop (mkF m 36 #[.val (.int p0), .val (.int p1), .val (.int p2), .val (.int p3), .val (.int (p1.toUInt32.toUInt16.toUInt32.toInt32)), .val (.int (p2.toUInt32.toUInt16.toUInt32.toInt32)), .val (.int (p3.toUInt32.toUInt16.toUInt32.toInt32))] [(.int 1), (.int p0)])) _
        refine XS.icmpNo X0w.here hx rfl (hb hby d1_36) rfl (teq hc36_9).2 ?_
        show Steps p.tables e below (s₁.setTop (mkF m 39 #[.val (.int p0), .val (.int p1), .val (.int p2), .val (.int p3), .val (.int (p1.toUInt32.toUInt16.toUInt32.toInt32)), .val (.int (p2.toUInt32.toUInt16.toUInt32.toInt32)), .val (.int (p3.toUInt32.toUInt16.toUInt32.toInt32))] [])) _
        refine st11 _ ?_
        show Steps p.tables e below (T11.setTop (mkF m 42 #[.val (.int p0), .val (.int p1), .val (.int p2), .val (.int p3), .val (.int (p1.toUInt32.toUInt16.toUInt32.toInt32)), .val (.int (p2.toUInt32.toUInt16.toUInt32.toInt32)), .val (.int (p3.toUInt32.toUInt16.toUInt32.toInt32))] [(.ref b11)])) _
        refine XS.dup X11.here hx rfl (hb hby d1_42) rfl rfl ?_
        refine XS.iconst X11.here hx rfl (hb hby d1_43) ?_
        show Steps p.tables e below (T11.setTop (mkF m 44 #[.val (.int p0), .val (.int p1), .val (.int p2), .val (.int p3), .val (.int (p1.toUInt32.toUInt16.toUInt32.toInt32)), .val (.int (p2.toUInt32.toUInt16.toUInt32.toInt32)), .val (.int (p3.toUInt32.toUInt16.toUInt32.toInt32))] [(.int 1), (.ref b11), (.ref b11)])) _
        refine st13 _ ?_
        show Steps p.tables e below (T13.setTop (mkF m 46 #[.val (.int p0), .val (.int p1), .val (.int p2), .val (.int p3), .val (.int (p1.toUInt32.toUInt16.toUInt32.toInt32)), .val (.int (p2.toUInt32.toUInt16.toUInt32.toInt32)), .val (.int (p3.toUInt32.toUInt16.toUInt32.toInt32))] [(.ref b13), (.ref b11), (.ref b11)])) _
        refine XS.dup X13.here hx rfl (hb hby d1_46) rfl rfl ?_
        refine XS.iconst X13.here hx rfl (hb hby d1_47) ?_
        refine XS.iload X13.here hx rfl (hb hby d1_48) rfl ?_
        show Steps p.tables e below (T13.setTop (mkF m 50 #[.val (.int p0), .val (.int p1), .val (.int p2), .val (.int p3), .val (.int (p1.toUInt32.toUInt16.toUInt32.toInt32)), .val (.int (p2.toUInt32.toUInt16.toUInt32.toInt32)), .val (.int (p3.toUInt32.toUInt16.toUInt32.toInt32))] [(.int (p1.toUInt32.toUInt16.toUInt32.toInt32)), (.int 0), (.ref b13), (.ref b13), (.ref b11), (.ref b11)])) _
        refine st15 _ ?_
        exact kt
      by_cases hu1_0 : (255 : Int32) < (p1.toUInt32.toUInt16.toUInt32.toInt32)
      · obtain ⟨_, _, ⟨T19, L19, k19, n19⟩, -, X19, ⟨Lc19, hQ19, l19, y19, z19⟩, st19⟩ := X15.specialBack hx (y := MN_9) rfl hown (mvT hZ (Wd hw 9 rfl)) (mvT hZ (Wd hw 10 rfl)) (mvT hZ (Wd hw 11 rfl)) (by decide) (backOf (W := 1) (rmIc_1u0 l Z a0 hw [] cS aRS aEM aUS aSS (b11) (b13) (k13) ((p1.toUInt32.toUInt16.toUInt32.toInt32)) (h15) n0 O15 GL ((A11.ext E13).wr W15) ((F_value_b11.ext E13).other W15 (Or.inl (Nat.ne_of_lt (Nat.lt_of_lt_of_le A11.lt (Nat.le_of_eq g13.symm))))) ((F_coder_b11.ext E13).other W15 (Or.inl (Nat.ne_of_lt (Nat.lt_of_lt_of_le A11.lt (Nat.le_of_eq g13.symm))))) g_b11 V15 hu1_0 hi0) hZ (Wd hw 11 rfl) (Wd hw 7 rfl) (by decide) (by decide)) (g := (mkF m 51 #[.val (.int p0), .val (.int p1), .val (.int p2), .val (.int p3), .val (.int (p1.toUInt32.toUInt16.toUInt32.toInt32)), .val (.int (p2.toUInt32.toUInt16.toUInt32.toInt32)), .val (.int (p3.toUInt32.toUInt16.toUInt32.toInt32))] [(.ref b13), (.ref b11), (.ref b11)])) rfl (by rw [hml]; rfl) (Steps.refl _) (a := b11) (argsL := [(.ref b13)]) (rest := [(.ref b11)]) (lenOf pdv12 rfl) rfl (by show 2 * 0 + _ ≤ _; exact Nat.le_of_eq rfl) (hb hby d1_51) (fun _ _ => ⟨rfl, e15, (by decide : 2 + 2 ≤ _), (by decide : 5 + 3 ≤ _)⟩)
        dsimp only [Pt.U, Pt.locs, Pt.cells, Pt.slots] at X19 l19 y19 z19 st19 hQ19
        subst l19 y19 z19
        obtain ⟨b_19, kb_19, rfl, N19q, Kc19, P19_0, P19_1, P19_2, P19_3, P19_4, P19_5⟩ := hQ19
        have K19 : Keep h0 T19.heap [] := K15.trans Kc19 (allS (Or.inr sz_b11) all0)
        have O19 := O15.keep Kc19 (allS g_b11 all0)
        have Sf21 : Safe Z EL1 s.vm h15 b11 := (Safe.wr W15 Sf17 H_14 (Safe.ext E13 H_12 (Safe.ext E11 H0 (Safe.new (Z := Z) (EL := EL1) (vm := s.vm) (Nat.le_of_eq g11.symm)))))
        have H_20 := H_16.keep Kc19 (sfS Sf21 sf0)
        have R_20 := R_16.trans (CHr.keep Kc19 (sfS Sf21 sf0) H_16)
        have g_b_19 : n0 ≤ b_19 := Nat.le_trans (own_sz O15) P19_0
        have sz_b_19 : h0.size ≤ b_19 := Nat.le_trans K15.1 P19_0
        have N19 := Fr.app N15 N19q
        obtain ⟨fs, hr, hrun, hended, hRW⟩ := X19.leaveW hS0 (Nat.le_trans (Nat.le_trans (Nat.le_trans (Nat.le_trans (Nat.le_refl _) E11.1) E13.1) (Keep.of_wr W15).1) Kc19.1) (v := some (.ref b11)) (fun h => by rw [Bd.returns] at h; cases h)
        have hCR : CHr Z EL1 s.vm s.heap T19.vm T19.heap := by
          rw [hh]
          exact R_20.trans (CHv.at X19 hZ (own_EW hw) H_20)
        refine ⟨_, _, pre18 _ ?_, hrun, hended, _, _, rfl, ?_, hCR, hRW.1, hRW.2.1, hRW.2.2.1, hRW.2.2.2.mono (by decide) (by decide)⟩
        · show Steps p.tables e below (T15.setTop (mkF m 51 #[.val (.int p0), .val (.int p1), .val (.int p2), .val (.int p3), .val (.int (p1.toUInt32.toUInt16.toUInt32.toInt32)), .val (.int (p2.toUInt32.toUInt16.toUInt32.toInt32)), .val (.int (p3.toUInt32.toUInt16.toUInt32.toInt32))] [(.ref b13), (.ref b11), (.ref b11)])) _
          refine st19.trans ?_
          show Steps p.tables e below (T19.setTop (mkF m 54 #[.val (.int p0), .val (.int p1), .val (.int p2), .val (.int p3), .val (.int (p1.toUInt32.toUInt16.toUInt32.toInt32)), .val (.int (p2.toUInt32.toUInt16.toUInt32.toInt32)), .val (.int (p3.toUInt32.toUInt16.toUInt32.toInt32))] [(.ref b11)])) _
          jvm_step X19.here [X19.here.top, hx, (hb hby d1_54), X19.method', Bd.returns, Value.isRef, FieldType.isReference]
          first | (intro acts; rw [hr _ acts rfl rfl rfl]) | rw [hr _ _ rfl rfl rfl]
          exact Steps.refl _
        · show Q_rmDr n0 Z cS aRS aEM aUS aSS p0 p1 p2 p3 h0 _ T19.heap _
          exact ⟨b11, rfl, N19, K19, sz_b11, P19_2⟩
      · obtain ⟨_, _, ⟨T22, L22, k22, n22⟩, -, X22, ⟨Lc22, hQ22, l22, y22, z22⟩, st22⟩ := X15.specialBack hx (y := MN_9) rfl hown (mvT hZ (Wd hw 9 rfl)) (mvT hZ (Wd hw 10 rfl)) (mvT hZ (Wd hw 11 rfl)) (by decide) (backOf (W := 1) (rmIc_1 l Z a0 hw [] cS aRS aEM aUS aSS (b11) (b13) (k13) ((p1.toUInt32.toUInt16.toUInt32.toInt32)) (h15) n0 O15 GL ((A11.ext E13).wr W15) ((F_value_b11.ext E13).other W15 (Or.inl (Nat.ne_of_lt (Nat.lt_of_lt_of_le A11.lt (Nat.le_of_eq g13.symm))))) ((F_coder_b11.ext E13).other W15 (Or.inl (Nat.ne_of_lt (Nat.lt_of_lt_of_le A11.lt (Nat.le_of_eq g13.symm))))) g_b11 V15 hu1_0) hZ (Wd hw 11 rfl) (Wd hw 7 rfl) (by decide) (by decide)) (g := (mkF m 51 #[.val (.int p0), .val (.int p1), .val (.int p2), .val (.int p3), .val (.int (p1.toUInt32.toUInt16.toUInt32.toInt32)), .val (.int (p2.toUInt32.toUInt16.toUInt32.toInt32)), .val (.int (p3.toUInt32.toUInt16.toUInt32.toInt32))] [(.ref b13), (.ref b11), (.ref b11)])) rfl (by rw [hml]; rfl) (Steps.refl _) (a := b11) (argsL := [(.ref b13)]) (rest := [(.ref b11)]) (lenOf pdv12 rfl) rfl (by show 2 * 0 + _ ≤ _; exact Nat.le_of_eq rfl) (hb hby d1_51) (fun _ _ => ⟨rfl, e15, (by decide : 2 + 1 ≤ _), (by decide : 5 + 1 ≤ _)⟩)
        dsimp only [Pt.U, Pt.locs, Pt.cells, Pt.slots] at X22 l22 y22 z22 st22 hQ22
        subst l22 y22 z22
        obtain ⟨b_22, kb_22, rfl, N22q, Kc22, P22_0, P22_1, P22_2, P22_3, P22_4, P22_5⟩ := hQ22
        have K22 : Keep h0 T22.heap [] := K15.trans Kc22 (allS (Or.inr sz_b11) all0)
        have O22 := O15.keep Kc22 (allS g_b11 all0)
        have Sf24 : Safe Z EL1 s.vm h15 b11 := (Safe.wr W15 Sf17 H_14 (Safe.ext E13 H_12 (Safe.ext E11 H0 (Safe.new (Z := Z) (EL := EL1) (vm := s.vm) (Nat.le_of_eq g11.symm)))))
        have H_23 := H_16.keep Kc22 (sfS Sf24 sf0)
        have R_23 := R_16.trans (CHr.keep Kc22 (sfS Sf24 sf0) H_16)
        have g_b_22 : n0 ≤ b_22 := Nat.le_trans (own_sz O15) P22_0
        have sz_b_22 : h0.size ≤ b_22 := Nat.le_trans K15.1 P22_0
        have N22 := Fr.app N15 N22q
        obtain ⟨fs, hr, hrun, hended, hRW⟩ := X22.leaveW hS0 (Nat.le_trans (Nat.le_trans (Nat.le_trans (Nat.le_trans (Nat.le_refl _) E11.1) E13.1) (Keep.of_wr W15).1) Kc22.1) (v := some (.ref b11)) (fun h => by rw [Bd.returns] at h; cases h)
        have hCR : CHr Z EL1 s.vm s.heap T22.vm T22.heap := by
          rw [hh]
          exact R_23.trans (CHv.at X22 hZ (own_EW hw) H_23)
        refine ⟨_, _, pre18 _ ?_, hrun, hended, _, _, rfl, ?_, hCR, hRW.1, hRW.2.1, hRW.2.2.1, hRW.2.2.2.mono (by decide) (by decide)⟩
        · show Steps p.tables e below (T15.setTop (mkF m 51 #[.val (.int p0), .val (.int p1), .val (.int p2), .val (.int p3), .val (.int (p1.toUInt32.toUInt16.toUInt32.toInt32)), .val (.int (p2.toUInt32.toUInt16.toUInt32.toInt32)), .val (.int (p3.toUInt32.toUInt16.toUInt32.toInt32))] [(.ref b13), (.ref b11), (.ref b11)])) _
          refine st22.trans ?_
          show Steps p.tables e below (T22.setTop (mkF m 54 #[.val (.int p0), .val (.int p1), .val (.int p2), .val (.int p3), .val (.int (p1.toUInt32.toUInt16.toUInt32.toInt32)), .val (.int (p2.toUInt32.toUInt16.toUInt32.toInt32)), .val (.int (p3.toUInt32.toUInt16.toUInt32.toInt32))] [(.ref b11)])) _
          jvm_step X22.here [X22.here.top, hx, (hb hby d1_54), X22.method', Bd.returns, Value.isRef, FieldType.isReference]
          first | (intro acts; rw [hr _ acts rfl rfl rfl]) | rw [hr _ _ rfl rfl rfl]
          exact Steps.refl _
        · show Q_rmDr n0 Z cS aRS aEM aUS aSS p0 p1 p2 p3 h0 _ T22.heap _
          exact ⟨b11, rfl, N22, K22, sz_b11, P22_2⟩
    · have pre26 : ∀ t, Steps p.tables e below (s₁.setTop (mkF m 57 #[.val (.int p0), .val (.int p1), .val (.int p2), .val (.int p3), .val (.int (p1.toUInt32.toUInt16.toUInt32.toInt32)), .val (.int (p2.toUInt32.toUInt16.toUInt32.toInt32)), .val (.int (p3.toUInt32.toUInt16.toUInt32.toInt32))] [(.int 2), (.int p0)])) t → Steps p.tables e below (s₁.setTop (entryFrame m #[(.int p0), (.int p1), (.int p2), (.int p3)] 7)) t := fun t kt => by
        refine pre10 t ?_
        show Steps p.tables e below (s₁.setTop (mkF m 36 #[.val (.int p0), .val (.int p1), .val (.int p2), .val (.int p3), .val (.int (p1.toUInt32.toUInt16.toUInt32.toInt32)), .val (.int (p2.toUInt32.toUInt16.toUInt32.toInt32)), .val (.int (p3.toUInt32.toUInt16.toUInt32.toInt32))] [(.int 1), (.int p0)])) _
        refine XS.icmpYes X0w.here hx rfl (pc0 := 36) (pc' := 55) rfl (hb hby d1_36) rfl (feq hc36_9).2 (by decide) (by decide) ?_
        refine XS.iloadN X0w.here hx rfl (hb hby d1_55) rfl ?_
        refine XS.iconst X0w.here hx rfl (hb hby d1_56) ?_
        exact kt
      by_cases hc57_25 : p0 = (2 : Int32)
      · obtain ⟨T27, h27, X27, e27, E27, A27, D27, -, st27⟩ := newO X0w hx hZ hown (Wd hw 5 rfl) (Wd hw 6 rfl) (Wd hw 7 rfl) e0 (g := (mkF m 60 #[.val (.int p0), .val (.int p1), .val (.int p2), .val (.int p3), .val (.int (p1.toUInt32.toUInt16.toUInt32.toInt32)), .val (.int (p2.toUInt32.toUInt16.toUInt32.toInt32)), .val (.int (p3.toUInt32.toUInt16.toUInt32.toInt32))] [])) rfl (hb hby d1_60) (by decide) (by decide)
        obtain ⟨b27, g27⟩ : ∃ z, z = h0.size := ⟨_, rfl⟩
        rw [← g27] at A27 D27 st27
        have g_b27 : n0 ≤ b27 := Nat.le_trans (own_sz O0) (Nat.le_of_eq g27.symm)
        have sz_b27 : h0.size ≤ b27 := Nat.le_trans (Keep.refl h0 []).1 (Nat.le_of_eq g27.symm)
        have H_28 := H0.ext E27
        have R_28 := R0.trans (CHr.ext E27 H0)
        have K27 : Keep h0 h27 [] := (Keep.refl h0 []).ext E27
        have O27 := O0.ext E27
        have F_coder_b27 : Fld Z h27 b27 "java/lang/String" "coder" "B" (.int 0) := D27 (Or.inr (Wd hw 32 rfl)) (ty := .byte) (by decide)
        have F_value_b27 : Fld Z h27 b27 "java/lang/String" "value" "[B" .null := D27 (Or.inr (Wd hw 34 rfl)) (ty := (.array .byte)) (by decide)
        obtain ⟨T29, h29, k29, X29, e29, E29, A29, A29', st29⟩ := newPE X27 hx hZ (Wd hw 8 rfl) e27 (g := (mkF m 65 #[.val (.int p0), .val (.int p1), .val (.int p2), .val (.int p3), .val (.int (p1.toUInt32.toUInt16.toUInt32.toInt32)), .val (.int (p2.toUInt32.toUInt16.toUInt32.toInt32)), .val (.int (p3.toUInt32.toUInt16.toUInt32.toInt32))] [(.int 2), (.ref b27), (.ref b27)])) rfl (hb hby d1_65) rfl (by decide) (cap := 2) (by decide) (by decide) (by decide) (by decide) (ad := "[C") rfl
        obtain ⟨b29, g29⟩ : ∃ z, z = h27.size := ⟨_, rfl⟩
        rw [← g29] at A29 A29' st29
        have g_b29 : n0 ≤ b29 := Nat.le_trans (own_sz O27) (Nat.le_of_eq g29.symm)
        have sz_b29 : h0.size ≤ b29 := Nat.le_trans K27.1 (Nat.le_of_eq g29.symm)
        have H_30 := H_28.ext E29
        have R_30 := R_28.trans (CHr.ext E29 H_28)
        have K29 : Keep h0 h29 [] := K27.ext E29
        have O29 := O27.ext E29
        have V_b29 : Arv Z h29 b29 k29 .char (2 : Int32) [(.int 0), (.int 0)] (.int 0) := (Arv.new A29 (by decide)).pad (pad_rep [] (.int 0) 2)
        obtain ⟨cl31, Ar31, q31, S31, N31_, H31, G31⟩ := id (V_b29)
        have hin31 : ¬ ((0 : Int32) < 0 ∨ cl31.slots.size ≤ ((0 : Int32)).toNatClampNeg) := inb_of S31 ⟨(by decide), (by decide)⟩
        obtain ⟨T31, h31, X31, e31, W31, st31⟩ := stC X29 hx hZ e29 Ar31 (j := (0 : Int32)) hin31 (g := (mkF m 71 #[.val (.int p0), .val (.int p1), .val (.int p2), .val (.int p3), .val (.int (p1.toUInt32.toUInt16.toUInt32.toInt32)), .val (.int (p2.toUInt32.toUInt16.toUInt32.toInt32)), .val (.int (p3.toUInt32.toUInt16.toUInt32.toInt32))] [(.int (p1.toUInt32.toUInt16.toUInt32.toInt32)), (.int 0), (.ref b29), (.ref b29), (.ref b27), (.ref b27)])) rfl rfl (hb hby d1_71)
        have Sf33 : Safe Z EL1 s.vm h29 b29 := Safe.exa (EL := EL1) hZ.alike A29' (by decide) (by decide)
        have H_32 := H_30.wr W31 Sf33
        have R_32 := R_30.trans (CHr.wr W31 Sf33 H_30)
        have K31 : Keep h0 h31 [] := K29.wr W31 (Or.inr sz_b29)
        have O31 := O29.wr W31 g_b29
        have N31 := Fr.snoc X31 N0 g_b29
        have V31' : Arv Z h31 b29 k29 .char (2 : Int32) [(.int (nar .char (p1.toUInt32.toUInt16.toUInt32.toInt32))), (.int 0)] (.int 0) := Arv.set Ar31 q31 S31 N31_ H31 G31 (fits_nar_char _) W31 0 rfl (Nat.le_of_ble_eq_true rfl)
        have V31 : Arv Z h31 b29 k29 .char (2 : Int32) [(.int (p1.toUInt32.toUInt16.toUInt32.toInt32)), (.int 0)] (.int 0) := by
          rw [own_nari2c p1] at V31'
          exact V31'
        obtain ⟨cl34, Ar34, q34, S34, N34_, H34, G34⟩ := id (V31)
        have hin34 : ¬ ((1 : Int32) < 0 ∨ cl34.slots.size ≤ ((1 : Int32)).toNatClampNeg) := inb_of S34 ⟨(by decide), (by decide)⟩
        obtain ⟨T34, h34, X34, e34, W34, st34⟩ := stC X31 hx hZ e31 Ar34 (j := (1 : Int32)) hin34 (g := (mkF m 76 #[.val (.int p0), .val (.int p1), .val (.int p2), .val (.int p3), .val (.int (p1.toUInt32.toUInt16.toUInt32.toInt32)), .val (.int (p2.toUInt32.toUInt16.toUInt32.toInt32)), .val (.int (p3.toUInt32.toUInt16.toUInt32.toInt32))] [(.int (p2.toUInt32.toUInt16.toUInt32.toInt32)), (.int 1), (.ref b29), (.ref b29), (.ref b27), (.ref b27)])) rfl rfl (hb hby d1_76)
        have Sf36 : Safe Z EL1 s.vm h31 b29 := Safe.exa (EL := EL1) hZ.alike (A29'.wr W31) (by decide) (by decide)
        have H_35 := H_32.wr W34 Sf36
        have R_35 := R_32.trans (CHr.wr W34 Sf36 H_32)
        have K34 : Keep h0 h34 [] := K31.wr W34 (Or.inr sz_b29)
        have O34 := O31.wr W34 g_b29
        have N34 := Fr.snoc X34 N31 g_b29
        have V34' : Arv Z h34 b29 k29 .char (2 : Int32) [(.int (p1.toUInt32.toUInt16.toUInt32.toInt32)), (.int (nar .char (p2.toUInt32.toUInt16.toUInt32.toInt32)))] (.int 0) := Arv.set Ar34 q34 S34 N34_ H34 G34 (fits_nar_char _) W34 1 rfl (Nat.le_of_ble_eq_true rfl)
        have V34 : Arv Z h34 b29 k29 .char (2 : Int32) [(.int (p1.toUInt32.toUInt16.toUInt32.toInt32)), (.int (p2.toUInt32.toUInt16.toUInt32.toInt32))] (.int 0) := by
          rw [own_nari2c p2] at V34'
          exact V34'
        have hi0 : nar .char (p1.toUInt32.toUInt16.toUInt32.toInt32) = (p1.toUInt32.toUInt16.toUInt32.toInt32) := own_nari2c p1
        have pre37 : ∀ t, Steps p.tables e below (T34.setTop (mkF m 77 #[.val (.int p0), .val (.int p1), .val (.int p2), .val (.int p3), .val (.int (p1.toUInt32.toUInt16.toUInt32.toInt32)), .val (.int (p2.toUInt32.toUInt16.toUInt32.toInt32)), .val (.int (p3.toUInt32.toUInt16.toUInt32.toInt32))] [(.ref b29), (.ref b27), (.ref b27)])) t → Steps p.tables e below (s₁.setTop (entryFrame m #[(.int p0), (.int p1), (.int p2), (.int p3)] 7)) t := fun t kt => by
          refine pre26 t ?_
          show Steps p.tables e below (s₁.setTop (mkF m 57 #[.val (.int p0), .val (.int p1), .val (.int p2), .val (.int p3), .val (.int (p1.toUInt32.toUInt16.toUInt32.toInt32)), .val (.int (p2.toUInt32.toUInt16.toUInt32.toInt32)), .val (.int (p3.toUInt32.toUInt16.toUInt32.toInt32))] [(.int 2), (.int p0)])) _
          refine XS.icmpNo X0w.here hx rfl (hb hby d1_57) rfl (teq hc57_25).2 ?_
          show Steps p.tables e below (s₁.setTop (mkF m 60 #[.val (.int p0), .val (.int p1), .val (.int p2), .val (.int p3), .val (.int (p1.toUInt32.toUInt16.toUInt32.toInt32)), .val (.int (p2.toUInt32.toUInt16.toUInt32.toInt32)), .val (.int (p3.toUInt32.toUInt16.toUInt32.toInt32))] [])) _
          refine st27 _ ?_
          show Steps p.tables e below (T27.setTop (mkF m 63 #[.val (.int p0), .val (.int p1), .val (.int p2), .val (.int p3), .val (.int (p1.toUInt32.toUInt16.toUInt32.toInt32)), .val (.int (p2.toUInt32.toUInt16.toUInt32.toInt32)), .val (.int (p3.toUInt32.toUInt16.toUInt32.toInt32))] [(.ref b27)])) _
          refine XS.dup X27.here hx rfl (hb hby d1_63) rfl rfl ?_
          refine XS.iconst X27.here hx rfl (hb hby d1_64) ?_
          show Steps p.tables e below (T27.setTop (mkF m 65 #[.val (.int p0), .val (.int p1), .val (.int p2), .val (.int p3), .val (.int (p1.toUInt32.toUInt16.toUInt32.toInt32)), .val (.int (p2.toUInt32.toUInt16.toUInt32.toInt32)), .val (.int (p3.toUInt32.toUInt16.toUInt32.toInt32))] [(.int 2), (.ref b27), (.ref b27)])) _
          refine st29 _ ?_
          show Steps p.tables e below (T29.setTop (mkF m 67 #[.val (.int p0), .val (.int p1), .val (.int p2), .val (.int p3), .val (.int (p1.toUInt32.toUInt16.toUInt32.toInt32)), .val (.int (p2.toUInt32.toUInt16.toUInt32.toInt32)), .val (.int (p3.toUInt32.toUInt16.toUInt32.toInt32))] [(.ref b29), (.ref b27), (.ref b27)])) _
          refine XS.dup X29.here hx rfl (hb hby d1_67) rfl rfl ?_
          refine XS.iconst X29.here hx rfl (hb hby d1_68) ?_
          refine XS.iload X29.here hx rfl (hb hby d1_69) rfl ?_
          show Steps p.tables e below (T29.setTop (mkF m 71 #[.val (.int p0), .val (.int p1), .val (.int p2), .val (.int p3), .val (.int (p1.toUInt32.toUInt16.toUInt32.toInt32)), .val (.int (p2.toUInt32.toUInt16.toUInt32.toInt32)), .val (.int (p3.toUInt32.toUInt16.toUInt32.toInt32))] [(.int (p1.toUInt32.toUInt16.toUInt32.toInt32)), (.int 0), (.ref b29), (.ref b29), (.ref b27), (.ref b27)])) _
          refine st31 _ ?_
          show Steps p.tables e below (T31.setTop (mkF m 72 #[.val (.int p0), .val (.int p1), .val (.int p2), .val (.int p3), .val (.int (p1.toUInt32.toUInt16.toUInt32.toInt32)), .val (.int (p2.toUInt32.toUInt16.toUInt32.toInt32)), .val (.int (p3.toUInt32.toUInt16.toUInt32.toInt32))] [(.ref b29), (.ref b27), (.ref b27)])) _
          refine XS.dup X31.here hx rfl (hb hby d1_72) rfl rfl ?_
          refine XS.iconst X31.here hx rfl (hb hby d1_73) ?_
          refine XS.iload X31.here hx rfl (hb hby d1_74) rfl ?_
          show Steps p.tables e below (T31.setTop (mkF m 76 #[.val (.int p0), .val (.int p1), .val (.int p2), .val (.int p3), .val (.int (p1.toUInt32.toUInt16.toUInt32.toInt32)), .val (.int (p2.toUInt32.toUInt16.toUInt32.toInt32)), .val (.int (p3.toUInt32.toUInt16.toUInt32.toInt32))] [(.int (p2.toUInt32.toUInt16.toUInt32.toInt32)), (.int 1), (.ref b29), (.ref b29), (.ref b27), (.ref b27)])) _
          refine st34 _ ?_
          exact kt
        by_cases hu2_0 : (255 : Int32) < (p1.toUInt32.toUInt16.toUInt32.toInt32)
        · obtain ⟨_, _, ⟨T38, L38, k38, n38⟩, -, X38, ⟨Lc38, hQ38, l38, y38, z38⟩, st38⟩ := X34.specialBack hx (y := MN_9) rfl hown (mvT hZ (Wd hw 9 rfl)) (mvT hZ (Wd hw 10 rfl)) (mvT hZ (Wd hw 11 rfl)) (by decide) (backOf (W := 1) (rmIc_2u0 l Z a0 hw [] cS aRS aEM aUS aSS (b27) (b29) (k29) ((p1.toUInt32.toUInt16.toUInt32.toInt32)) ((p2.toUInt32.toUInt16.toUInt32.toInt32)) (h34) n0 O34 GL (((A27.ext E29).wr W31).wr W34) (((F_value_b27.ext E29).other W31 (Or.inl (Nat.ne_of_lt (Nat.lt_of_lt_of_le A27.lt (Nat.le_of_eq g29.symm))))).other W34 (Or.inl (Nat.ne_of_lt (Nat.lt_of_lt_of_le A27.lt (Nat.le_of_eq g29.symm))))) (((F_coder_b27.ext E29).other W31 (Or.inl (Nat.ne_of_lt (Nat.lt_of_lt_of_le A27.lt (Nat.le_of_eq g29.symm))))).other W34 (Or.inl (Nat.ne_of_lt (Nat.lt_of_lt_of_le A27.lt (Nat.le_of_eq g29.symm))))) g_b27 V34 hu2_0 hi0) hZ (Wd hw 11 rfl) (Wd hw 7 rfl) (by decide) (by decide)) (g := (mkF m 77 #[.val (.int p0), .val (.int p1), .val (.int p2), .val (.int p3), .val (.int (p1.toUInt32.toUInt16.toUInt32.toInt32)), .val (.int (p2.toUInt32.toUInt16.toUInt32.toInt32)), .val (.int (p3.toUInt32.toUInt16.toUInt32.toInt32))] [(.ref b29), (.ref b27), (.ref b27)])) rfl (by rw [hml]; rfl) (Steps.refl _) (a := b27) (argsL := [(.ref b29)]) (rest := [(.ref b27)]) (lenOf pdv12 rfl) rfl (by show 2 * 0 + _ ≤ _; exact Nat.le_of_eq rfl) (hb hby d1_77) (fun _ _ => ⟨rfl, e34, (by decide : 2 + 2 ≤ _), (by decide : 6 + 6 ≤ _)⟩)
          dsimp only [Pt.U, Pt.locs, Pt.cells, Pt.slots] at X38 l38 y38 z38 st38 hQ38
          subst l38 y38 z38
          obtain ⟨b_38, kb_38, rfl, N38q, Kc38, P38_0, P38_1, P38_2, P38_3, P38_4, P38_5⟩ := hQ38
          have K38 : Keep h0 T38.heap [] := K34.trans Kc38 (allS (Or.inr sz_b27) all0)
          have O38 := O34.keep Kc38 (allS g_b27 all0)
          have Sf40 : Safe Z EL1 s.vm h34 b27 := (Safe.wr W34 Sf36 H_32 (Safe.wr W31 Sf33 H_30 (Safe.ext E29 H_28 (Safe.ext E27 H0 (Safe.new (Z := Z) (EL := EL1) (vm := s.vm) (Nat.le_of_eq g27.symm))))))
          have H_39 := H_35.keep Kc38 (sfS Sf40 sf0)
          have R_39 := R_35.trans (CHr.keep Kc38 (sfS Sf40 sf0) H_35)
          have g_b_38 : n0 ≤ b_38 := Nat.le_trans (own_sz O34) P38_0
          have sz_b_38 : h0.size ≤ b_38 := Nat.le_trans K34.1 P38_0
          have N38 := Fr.app N34 N38q
          obtain ⟨fs, hr, hrun, hended, hRW⟩ := X38.leaveW hS0 (Nat.le_trans (Nat.le_trans (Nat.le_trans (Nat.le_trans (Nat.le_trans (Nat.le_refl _) E27.1) E29.1) (Keep.of_wr W31).1) (Keep.of_wr W34).1) Kc38.1) (v := some (.ref b27)) (fun h => by rw [Bd.returns] at h; cases h)
          have hCR : CHr Z EL1 s.vm s.heap T38.vm T38.heap := by
            rw [hh]
            exact R_39.trans (CHv.at X38 hZ (own_EW hw) H_39)
          refine ⟨_, _, pre37 _ ?_, hrun, hended, _, _, rfl, ?_, hCR, hRW.1, hRW.2.1, hRW.2.2.1, hRW.2.2.2.mono (by decide) (by decide)⟩
          · show Steps p.tables e below (T34.setTop (mkF m 77 #[.val (.int p0), .val (.int p1), .val (.int p2), .val (.int p3), .val (.int (p1.toUInt32.toUInt16.toUInt32.toInt32)), .val (.int (p2.toUInt32.toUInt16.toUInt32.toInt32)), .val (.int (p3.toUInt32.toUInt16.toUInt32.toInt32))] [(.ref b29), (.ref b27), (.ref b27)])) _
            refine st38.trans ?_
            show Steps p.tables e below (T38.setTop (mkF m 80 #[.val (.int p0), .val (.int p1), .val (.int p2), .val (.int p3), .val (.int (p1.toUInt32.toUInt16.toUInt32.toInt32)), .val (.int (p2.toUInt32.toUInt16.toUInt32.toInt32)), .val (.int (p3.toUInt32.toUInt16.toUInt32.toInt32))] [(.ref b27)])) _
            jvm_step X38.here [X38.here.top, hx, (hb hby d1_80), X38.method', Bd.returns, Value.isRef, FieldType.isReference]
            first | (intro acts; rw [hr _ acts rfl rfl rfl]) | rw [hr _ _ rfl rfl rfl]
            exact Steps.refl _
          · show Q_rmDr n0 Z cS aRS aEM aUS aSS p0 p1 p2 p3 h0 _ T38.heap _
            exact ⟨b27, rfl, N38, K38, sz_b27, P38_2⟩
        · have hi1 : nar .char (p2.toUInt32.toUInt16.toUInt32.toInt32) = (p2.toUInt32.toUInt16.toUInt32.toInt32) := own_nari2c p2
          by_cases hu2_1 : (255 : Int32) < (p2.toUInt32.toUInt16.toUInt32.toInt32)
          · obtain ⟨_, _, ⟨T41, L41, k41, n41⟩, -, X41, ⟨Lc41, hQ41, l41, y41, z41⟩, st41⟩ := X34.specialBack hx (y := MN_9) rfl hown (mvT hZ (Wd hw 9 rfl)) (mvT hZ (Wd hw 10 rfl)) (mvT hZ (Wd hw 11 rfl)) (by decide) (backOf (W := 1) (rmIc_2u1 l Z a0 hw [] cS aRS aEM aUS aSS (b27) (b29) (k29) ((p1.toUInt32.toUInt16.toUInt32.toInt32)) ((p2.toUInt32.toUInt16.toUInt32.toInt32)) (h34) n0 O34 GL (((A27.ext E29).wr W31).wr W34) (((F_value_b27.ext E29).other W31 (Or.inl (Nat.ne_of_lt (Nat.lt_of_lt_of_le A27.lt (Nat.le_of_eq g29.symm))))).other W34 (Or.inl (Nat.ne_of_lt (Nat.lt_of_lt_of_le A27.lt (Nat.le_of_eq g29.symm))))) (((F_coder_b27.ext E29).other W31 (Or.inl (Nat.ne_of_lt (Nat.lt_of_lt_of_le A27.lt (Nat.le_of_eq g29.symm))))).other W34 (Or.inl (Nat.ne_of_lt (Nat.lt_of_lt_of_le A27.lt (Nat.le_of_eq g29.symm))))) g_b27 V34 hu2_0 hu2_1 hi1) hZ (Wd hw 11 rfl) (Wd hw 7 rfl) (by decide) (by decide)) (g := (mkF m 77 #[.val (.int p0), .val (.int p1), .val (.int p2), .val (.int p3), .val (.int (p1.toUInt32.toUInt16.toUInt32.toInt32)), .val (.int (p2.toUInt32.toUInt16.toUInt32.toInt32)), .val (.int (p3.toUInt32.toUInt16.toUInt32.toInt32))] [(.ref b29), (.ref b27), (.ref b27)])) rfl (by rw [hml]; rfl) (Steps.refl _) (a := b27) (argsL := [(.ref b29)]) (rest := [(.ref b27)]) (lenOf pdv12 rfl) rfl (by show 2 * 0 + _ ≤ _; exact Nat.le_of_eq rfl) (hb hby d1_77) (fun _ _ => ⟨rfl, e34, (by decide : 2 + 2 ≤ _), (by decide : 6 + 6 ≤ _)⟩)
            dsimp only [Pt.U, Pt.locs, Pt.cells, Pt.slots] at X41 l41 y41 z41 st41 hQ41
            subst l41 y41 z41
            obtain ⟨b_41, kb_41, rfl, N41q, Kc41, P41_0, P41_1, P41_2, P41_3, P41_4, P41_5⟩ := hQ41
            have K41 : Keep h0 T41.heap [] := K34.trans Kc41 (allS (Or.inr sz_b27) all0)
            have O41 := O34.keep Kc41 (allS g_b27 all0)
            have Sf43 : Safe Z EL1 s.vm h34 b27 := (Safe.wr W34 Sf36 H_32 (Safe.wr W31 Sf33 H_30 (Safe.ext E29 H_28 (Safe.ext E27 H0 (Safe.new (Z := Z) (EL := EL1) (vm := s.vm) (Nat.le_of_eq g27.symm))))))
            have H_42 := H_35.keep Kc41 (sfS Sf43 sf0)
            have R_42 := R_35.trans (CHr.keep Kc41 (sfS Sf43 sf0) H_35)
            have g_b_41 : n0 ≤ b_41 := Nat.le_trans (own_sz O34) P41_0
            have sz_b_41 : h0.size ≤ b_41 := Nat.le_trans K34.1 P41_0
            have N41 := Fr.app N34 N41q
            obtain ⟨fs, hr, hrun, hended, hRW⟩ := X41.leaveW hS0 (Nat.le_trans (Nat.le_trans (Nat.le_trans (Nat.le_trans (Nat.le_trans (Nat.le_refl _) E27.1) E29.1) (Keep.of_wr W31).1) (Keep.of_wr W34).1) Kc41.1) (v := some (.ref b27)) (fun h => by rw [Bd.returns] at h; cases h)
            have hCR : CHr Z EL1 s.vm s.heap T41.vm T41.heap := by
              rw [hh]
              exact R_42.trans (CHv.at X41 hZ (own_EW hw) H_42)
            refine ⟨_, _, pre37 _ ?_, hrun, hended, _, _, rfl, ?_, hCR, hRW.1, hRW.2.1, hRW.2.2.1, hRW.2.2.2.mono (by decide) (by decide)⟩
            · show Steps p.tables e below (T34.setTop (mkF m 77 #[.val (.int p0), .val (.int p1), .val (.int p2), .val (.int p3), .val (.int (p1.toUInt32.toUInt16.toUInt32.toInt32)), .val (.int (p2.toUInt32.toUInt16.toUInt32.toInt32)), .val (.int (p3.toUInt32.toUInt16.toUInt32.toInt32))] [(.ref b29), (.ref b27), (.ref b27)])) _
              refine st41.trans ?_
              show Steps p.tables e below (T41.setTop (mkF m 80 #[.val (.int p0), .val (.int p1), .val (.int p2), .val (.int p3), .val (.int (p1.toUInt32.toUInt16.toUInt32.toInt32)), .val (.int (p2.toUInt32.toUInt16.toUInt32.toInt32)), .val (.int (p3.toUInt32.toUInt16.toUInt32.toInt32))] [(.ref b27)])) _
              jvm_step X41.here [X41.here.top, hx, (hb hby d1_80), X41.method', Bd.returns, Value.isRef, FieldType.isReference]
              first | (intro acts; rw [hr _ acts rfl rfl rfl]) | rw [hr _ _ rfl rfl rfl]
              exact Steps.refl _
            · show Q_rmDr n0 Z cS aRS aEM aUS aSS p0 p1 p2 p3 h0 _ T41.heap _
              exact ⟨b27, rfl, N41, K41, sz_b27, P41_2⟩
          · obtain ⟨_, _, ⟨T44, L44, k44, n44⟩, -, X44, ⟨Lc44, hQ44, l44, y44, z44⟩, st44⟩ := X34.specialBack hx (y := MN_9) rfl hown (mvT hZ (Wd hw 9 rfl)) (mvT hZ (Wd hw 10 rfl)) (mvT hZ (Wd hw 11 rfl)) (by decide) (backOf (W := 1) (rmIc_2 l Z a0 hw [] cS aRS aEM aUS aSS (b27) (b29) (k29) ((p1.toUInt32.toUInt16.toUInt32.toInt32)) ((p2.toUInt32.toUInt16.toUInt32.toInt32)) (h34) n0 O34 GL (((A27.ext E29).wr W31).wr W34) (((F_value_b27.ext E29).other W31 (Or.inl (Nat.ne_of_lt (Nat.lt_of_lt_of_le A27.lt (Nat.le_of_eq g29.symm))))).other W34 (Or.inl (Nat.ne_of_lt (Nat.lt_of_lt_of_le A27.lt (Nat.le_of_eq g29.symm))))) (((F_coder_b27.ext E29).other W31 (Or.inl (Nat.ne_of_lt (Nat.lt_of_lt_of_le A27.lt (Nat.le_of_eq g29.symm))))).other W34 (Or.inl (Nat.ne_of_lt (Nat.lt_of_lt_of_le A27.lt (Nat.le_of_eq g29.symm))))) g_b27 V34 hu2_0 hu2_1) hZ (Wd hw 11 rfl) (Wd hw 7 rfl) (by decide) (by decide)) (g := (mkF m 77 #[.val (.int p0), .val (.int p1), .val (.int p2), .val (.int p3), .val (.int (p1.toUInt32.toUInt16.toUInt32.toInt32)), .val (.int (p2.toUInt32.toUInt16.toUInt32.toInt32)), .val (.int (p3.toUInt32.toUInt16.toUInt32.toInt32))] [(.ref b29), (.ref b27), (.ref b27)])) rfl (by rw [hml]; rfl) (Steps.refl _) (a := b27) (argsL := [(.ref b29)]) (rest := [(.ref b27)]) (lenOf pdv12 rfl) rfl (by show 2 * 0 + _ ≤ _; exact Nat.le_of_eq rfl) (hb hby d1_77) (fun _ _ => ⟨rfl, e34, (by decide : 2 + 1 ≤ _), (by decide : 6 + 2 ≤ _)⟩)
            dsimp only [Pt.U, Pt.locs, Pt.cells, Pt.slots] at X44 l44 y44 z44 st44 hQ44
            subst l44 y44 z44
            obtain ⟨b_44, kb_44, rfl, N44q, Kc44, P44_0, P44_1, P44_2, P44_3, P44_4, P44_5⟩ := hQ44
            have K44 : Keep h0 T44.heap [] := K34.trans Kc44 (allS (Or.inr sz_b27) all0)
            have O44 := O34.keep Kc44 (allS g_b27 all0)
            have Sf46 : Safe Z EL1 s.vm h34 b27 := (Safe.wr W34 Sf36 H_32 (Safe.wr W31 Sf33 H_30 (Safe.ext E29 H_28 (Safe.ext E27 H0 (Safe.new (Z := Z) (EL := EL1) (vm := s.vm) (Nat.le_of_eq g27.symm))))))
            have H_45 := H_35.keep Kc44 (sfS Sf46 sf0)
            have R_45 := R_35.trans (CHr.keep Kc44 (sfS Sf46 sf0) H_35)
            have g_b_44 : n0 ≤ b_44 := Nat.le_trans (own_sz O34) P44_0
            have sz_b_44 : h0.size ≤ b_44 := Nat.le_trans K34.1 P44_0
            have N44 := Fr.app N34 N44q
            obtain ⟨fs, hr, hrun, hended, hRW⟩ := X44.leaveW hS0 (Nat.le_trans (Nat.le_trans (Nat.le_trans (Nat.le_trans (Nat.le_trans (Nat.le_refl _) E27.1) E29.1) (Keep.of_wr W31).1) (Keep.of_wr W34).1) Kc44.1) (v := some (.ref b27)) (fun h => by rw [Bd.returns] at h; cases h)
            have hCR : CHr Z EL1 s.vm s.heap T44.vm T44.heap := by
              rw [hh]
              exact R_45.trans (CHv.at X44 hZ (own_EW hw) H_45)
            refine ⟨_, _, pre37 _ ?_, hrun, hended, _, _, rfl, ?_, hCR, hRW.1, hRW.2.1, hRW.2.2.1, hRW.2.2.2.mono (by decide) (by decide)⟩
            · show Steps p.tables e below (T34.setTop (mkF m 77 #[.val (.int p0), .val (.int p1), .val (.int p2), .val (.int p3), .val (.int (p1.toUInt32.toUInt16.toUInt32.toInt32)), .val (.int (p2.toUInt32.toUInt16.toUInt32.toInt32)), .val (.int (p3.toUInt32.toUInt16.toUInt32.toInt32))] [(.ref b29), (.ref b27), (.ref b27)])) _
              refine st44.trans ?_
              show Steps p.tables e below (T44.setTop (mkF m 80 #[.val (.int p0), .val (.int p1), .val (.int p2), .val (.int p3), .val (.int (p1.toUInt32.toUInt16.toUInt32.toInt32)), .val (.int (p2.toUInt32.toUInt16.toUInt32.toInt32)), .val (.int (p3.toUInt32.toUInt16.toUInt32.toInt32))] [(.ref b27)])) _
              jvm_step X44.here [X44.here.top, hx, (hb hby d1_80), X44.method', Bd.returns, Value.isRef, FieldType.isReference]
              first | (intro acts; rw [hr _ acts rfl rfl rfl]) | rw [hr _ _ rfl rfl rfl]
              exact Steps.refl _
            · show Q_rmDr n0 Z cS aRS aEM aUS aSS p0 p1 p2 p3 h0 _ T44.heap _
              exact ⟨b27, rfl, N44, K44, sz_b27, P44_2⟩
      · obtain ⟨T47, h47, X47, e47, E47, A47, D47, -, st47⟩ := newO X0w hx hZ hown (Wd hw 5 rfl) (Wd hw 6 rfl) (Wd hw 7 rfl) e0 (g := (mkF m 81 #[.val (.int p0), .val (.int p1), .val (.int p2), .val (.int p3), .val (.int (p1.toUInt32.toUInt16.toUInt32.toInt32)), .val (.int (p2.toUInt32.toUInt16.toUInt32.toInt32)), .val (.int (p3.toUInt32.toUInt16.toUInt32.toInt32))] [])) rfl (hb hby d1_81) (by decide) (by decide)
        obtain ⟨b47, g47⟩ : ∃ z, z = h0.size := ⟨_, rfl⟩
        rw [← g47] at A47 D47 st47
        have g_b47 : n0 ≤ b47 := Nat.le_trans (own_sz O0) (Nat.le_of_eq g47.symm)
        have sz_b47 : h0.size ≤ b47 := Nat.le_trans (Keep.refl h0 []).1 (Nat.le_of_eq g47.symm)
        have H_48 := H0.ext E47
        have R_48 := R0.trans (CHr.ext E47 H0)
        have K47 : Keep h0 h47 [] := (Keep.refl h0 []).ext E47
        have O47 := O0.ext E47
        have F_coder_b47 : Fld Z h47 b47 "java/lang/String" "coder" "B" (.int 0) := D47 (Or.inr (Wd hw 32 rfl)) (ty := .byte) (by decide)
        have F_value_b47 : Fld Z h47 b47 "java/lang/String" "value" "[B" .null := D47 (Or.inr (Wd hw 34 rfl)) (ty := (.array .byte)) (by decide)
        obtain ⟨T49, h49, k49, X49, e49, E49, A49, A49', st49⟩ := newPE X47 hx hZ (Wd hw 8 rfl) e47 (g := (mkF m 86 #[.val (.int p0), .val (.int p1), .val (.int p2), .val (.int p3), .val (.int (p1.toUInt32.toUInt16.toUInt32.toInt32)), .val (.int (p2.toUInt32.toUInt16.toUInt32.toInt32)), .val (.int (p3.toUInt32.toUInt16.toUInt32.toInt32))] [(.int 3), (.ref b47), (.ref b47)])) rfl (hb hby d1_86) rfl (by decide) (cap := 3) (by decide) (by decide) (by decide) (by decide) (ad := "[C") rfl
        obtain ⟨b49, g49⟩ : ∃ z, z = h47.size := ⟨_, rfl⟩
        rw [← g49] at A49 A49' st49
        have g_b49 : n0 ≤ b49 := Nat.le_trans (own_sz O47) (Nat.le_of_eq g49.symm)
        have sz_b49 : h0.size ≤ b49 := Nat.le_trans K47.1 (Nat.le_of_eq g49.symm)
        have H_50 := H_48.ext E49
        have R_50 := R_48.trans (CHr.ext E49 H_48)
        have K49 : Keep h0 h49 [] := K47.ext E49
        have O49 := O47.ext E49
        have V_b49 : Arv Z h49 b49 k49 .char (3 : Int32) [(.int 0), (.int 0), (.int 0)] (.int 0) := (Arv.new A49 (by decide)).pad (pad_rep [] (.int 0) 3)
        obtain ⟨cl51, Ar51, q51, S51, N51_, H51, G51⟩ := id (V_b49)
        have hin51 : ¬ ((0 : Int32) < 0 ∨ cl51.slots.size ≤ ((0 : Int32)).toNatClampNeg) := inb_of S51 ⟨(by decide), (by decide)⟩
        obtain ⟨T51, h51, X51, e51, W51, st51⟩ := stC X49 hx hZ e49 Ar51 (j := (0 : Int32)) hin51 (g := (mkF m 92 #[.val (.int p0), .val (.int p1), .val (.int p2), .val (.int p3), .val (.int (p1.toUInt32.toUInt16.toUInt32.toInt32)), .val (.int (p2.toUInt32.toUInt16.toUInt32.toInt32)), .val (.int (p3.toUInt32.toUInt16.toUInt32.toInt32))] [(.int (p1.toUInt32.toUInt16.toUInt32.toInt32)), (.int 0), (.ref b49), (.ref b49), (.ref b47), (.ref b47)])) rfl rfl (hb hby d1_92)
        have Sf53 : Safe Z EL1 s.vm h49 b49 := Safe.exa (EL := EL1) hZ.alike A49' (by decide) (by decide)
        have H_52 := H_50.wr W51 Sf53
        have R_52 := R_50.trans (CHr.wr W51 Sf53 H_50)
        have K51 : Keep h0 h51 [] := K49.wr W51 (Or.inr sz_b49)
        have O51 := O49.wr W51 g_b49
        have N51 := Fr.snoc X51 N0 g_b49
        have V51' : Arv Z h51 b49 k49 .char (3 : Int32) [(.int (nar .char (p1.toUInt32.toUInt16.toUInt32.toInt32))), (.int 0), (.int 0)] (.int 0) := Arv.set Ar51 q51 S51 N51_ H51 G51 (fits_nar_char _) W51 0 rfl (Nat.le_of_ble_eq_true rfl)
        have V51 : Arv Z h51 b49 k49 .char (3 : Int32) [(.int (p1.toUInt32.toUInt16.toUInt32.toInt32)), (.int 0), (.int 0)] (.int 0) := by
          rw [own_nari2c p1] at V51'
          exact V51'
        obtain ⟨cl54, Ar54, q54, S54, N54_, H54, G54⟩ := id (V51)
        have hin54 : ¬ ((1 : Int32) < 0 ∨ cl54.slots.size ≤ ((1 : Int32)).toNatClampNeg) := inb_of S54 ⟨(by decide), (by decide)⟩
        obtain ⟨T54, h54, X54, e54, W54, st54⟩ := stC X51 hx hZ e51 Ar54 (j := (1 : Int32)) hin54 (g := (mkF m 97 #[.val (.int p0), .val (.int p1), .val (.int p2), .val (.int p3), .val (.int (p1.toUInt32.toUInt16.toUInt32.toInt32)), .val (.int (p2.toUInt32.toUInt16.toUInt32.toInt32)), .val (.int (p3.toUInt32.toUInt16.toUInt32.toInt32))] [(.int (p2.toUInt32.toUInt16.toUInt32.toInt32)), (.int 1), (.ref b49), (.ref b49), (.ref b47), (.ref b47)])) rfl rfl (hb hby d1_97)
        have Sf56 : Safe Z EL1 s.vm h51 b49 := Safe.exa (EL := EL1) hZ.alike (A49'.wr W51) (by decide) (by decide)
        have H_55 := H_52.wr W54 Sf56
        have R_55 := R_52.trans (CHr.wr W54 Sf56 H_52)
        have K54 : Keep h0 h54 [] := K51.wr W54 (Or.inr sz_b49)
        have O54 := O51.wr W54 g_b49
        have N54 := Fr.snoc X54 N51 g_b49
        have V54' : Arv Z h54 b49 k49 .char (3 : Int32) [(.int (p1.toUInt32.toUInt16.toUInt32.toInt32)), (.int (nar .char (p2.toUInt32.toUInt16.toUInt32.toInt32))), (.int 0)] (.int 0) := Arv.set Ar54 q54 S54 N54_ H54 G54 (fits_nar_char _) W54 1 rfl (Nat.le_of_ble_eq_true rfl)
        have V54 : Arv Z h54 b49 k49 .char (3 : Int32) [(.int (p1.toUInt32.toUInt16.toUInt32.toInt32)), (.int (p2.toUInt32.toUInt16.toUInt32.toInt32)), (.int 0)] (.int 0) := by
          rw [own_nari2c p2] at V54'
          exact V54'
        obtain ⟨cl57, Ar57, q57, S57, N57_, H57, G57⟩ := id (V54)
        have hin57 : ¬ ((2 : Int32) < 0 ∨ cl57.slots.size ≤ ((2 : Int32)).toNatClampNeg) := inb_of S57 ⟨(by decide), (by decide)⟩
        obtain ⟨T57, h57, X57, e57, W57, st57⟩ := stC X54 hx hZ e54 Ar57 (j := (2 : Int32)) hin57 (g := (mkF m 102 #[.val (.int p0), .val (.int p1), .val (.int p2), .val (.int p3), .val (.int (p1.toUInt32.toUInt16.toUInt32.toInt32)), .val (.int (p2.toUInt32.toUInt16.toUInt32.toInt32)), .val (.int (p3.toUInt32.toUInt16.toUInt32.toInt32))] [(.int (p3.toUInt32.toUInt16.toUInt32.toInt32)), (.int 2), (.ref b49), (.ref b49), (.ref b47), (.ref b47)])) rfl rfl (hb hby d1_102)
        have Sf59 : Safe Z EL1 s.vm h54 b49 := Safe.exa (EL := EL1) hZ.alike ((A49'.wr W51).wr W54) (by decide) (by decide)
        have H_58 := H_55.wr W57 Sf59
        have R_58 := R_55.trans (CHr.wr W57 Sf59 H_55)
        have K57 : Keep h0 h57 [] := K54.wr W57 (Or.inr sz_b49)
        have O57 := O54.wr W57 g_b49
        have N57 := Fr.snoc X57 N54 g_b49
        have V57' : Arv Z h57 b49 k49 .char (3 : Int32) [(.int (p1.toUInt32.toUInt16.toUInt32.toInt32)), (.int (p2.toUInt32.toUInt16.toUInt32.toInt32)), (.int (nar .char (p3.toUInt32.toUInt16.toUInt32.toInt32)))] (.int 0) := Arv.set Ar57 q57 S57 N57_ H57 G57 (fits_nar_char _) W57 2 rfl (Nat.le_of_ble_eq_true rfl)
        have V57 : Arv Z h57 b49 k49 .char (3 : Int32) [(.int (p1.toUInt32.toUInt16.toUInt32.toInt32)), (.int (p2.toUInt32.toUInt16.toUInt32.toInt32)), (.int (p3.toUInt32.toUInt16.toUInt32.toInt32))] (.int 0) := by
          rw [own_nari2c p3] at V57'
          exact V57'
        have hi0 : nar .char (p1.toUInt32.toUInt16.toUInt32.toInt32) = (p1.toUInt32.toUInt16.toUInt32.toInt32) := own_nari2c p1
        have pre60 : ∀ t, Steps p.tables e below (T57.setTop (mkF m 103 #[.val (.int p0), .val (.int p1), .val (.int p2), .val (.int p3), .val (.int (p1.toUInt32.toUInt16.toUInt32.toInt32)), .val (.int (p2.toUInt32.toUInt16.toUInt32.toInt32)), .val (.int (p3.toUInt32.toUInt16.toUInt32.toInt32))] [(.ref b49), (.ref b47), (.ref b47)])) t → Steps p.tables e below (s₁.setTop (entryFrame m #[(.int p0), (.int p1), (.int p2), (.int p3)] 7)) t := fun t kt => by
          refine pre26 t ?_
          show Steps p.tables e below (s₁.setTop (mkF m 57 #[.val (.int p0), .val (.int p1), .val (.int p2), .val (.int p3), .val (.int (p1.toUInt32.toUInt16.toUInt32.toInt32)), .val (.int (p2.toUInt32.toUInt16.toUInt32.toInt32)), .val (.int (p3.toUInt32.toUInt16.toUInt32.toInt32))] [(.int 2), (.int p0)])) _
          refine XS.icmpYes X0w.here hx rfl (pc0 := 57) (pc' := 81) rfl (hb hby d1_57) rfl (feq hc57_25).2 (by decide) (by decide) ?_
          show Steps p.tables e below (s₁.setTop (mkF m 81 #[.val (.int p0), .val (.int p1), .val (.int p2), .val (.int p3), .val (.int (p1.toUInt32.toUInt16.toUInt32.toInt32)), .val (.int (p2.toUInt32.toUInt16.toUInt32.toInt32)), .val (.int (p3.toUInt32.toUInt16.toUInt32.toInt32))] [])) _
          refine st47 _ ?_
          show Steps p.tables e below (T47.setTop (mkF m 84 #[.val (.int p0), .val (.int p1), .val (.int p2), .val (.int p3), .val (.int (p1.toUInt32.toUInt16.toUInt32.toInt32)), .val (.int (p2.toUInt32.toUInt16.toUInt32.toInt32)), .val (.int (p3.toUInt32.toUInt16.toUInt32.toInt32))] [(.ref b47)])) _
          refine XS.dup X47.here hx rfl (hb hby d1_84) rfl rfl ?_
          refine XS.iconst X47.here hx rfl (hb hby d1_85) ?_
          show Steps p.tables e below (T47.setTop (mkF m 86 #[.val (.int p0), .val (.int p1), .val (.int p2), .val (.int p3), .val (.int (p1.toUInt32.toUInt16.toUInt32.toInt32)), .val (.int (p2.toUInt32.toUInt16.toUInt32.toInt32)), .val (.int (p3.toUInt32.toUInt16.toUInt32.toInt32))] [(.int 3), (.ref b47), (.ref b47)])) _
          refine st49 _ ?_
          show Steps p.tables e below (T49.setTop (mkF m 88 #[.val (.int p0), .val (.int p1), .val (.int p2), .val (.int p3), .val (.int (p1.toUInt32.toUInt16.toUInt32.toInt32)), .val (.int (p2.toUInt32.toUInt16.toUInt32.toInt32)), .val (.int (p3.toUInt32.toUInt16.toUInt32.toInt32))] [(.ref b49), (.ref b47), (.ref b47)])) _
          refine XS.dup X49.here hx rfl (hb hby d1_88) rfl rfl ?_
          refine XS.iconst X49.here hx rfl (hb hby d1_89) ?_
          refine XS.iload X49.here hx rfl (hb hby d1_90) rfl ?_
          show Steps p.tables e below (T49.setTop (mkF m 92 #[.val (.int p0), .val (.int p1), .val (.int p2), .val (.int p3), .val (.int (p1.toUInt32.toUInt16.toUInt32.toInt32)), .val (.int (p2.toUInt32.toUInt16.toUInt32.toInt32)), .val (.int (p3.toUInt32.toUInt16.toUInt32.toInt32))] [(.int (p1.toUInt32.toUInt16.toUInt32.toInt32)), (.int 0), (.ref b49), (.ref b49), (.ref b47), (.ref b47)])) _
          refine st51 _ ?_
          show Steps p.tables e below (T51.setTop (mkF m 93 #[.val (.int p0), .val (.int p1), .val (.int p2), .val (.int p3), .val (.int (p1.toUInt32.toUInt16.toUInt32.toInt32)), .val (.int (p2.toUInt32.toUInt16.toUInt32.toInt32)), .val (.int (p3.toUInt32.toUInt16.toUInt32.toInt32))] [(.ref b49), (.ref b47), (.ref b47)])) _
          refine XS.dup X51.here hx rfl (hb hby d1_93) rfl rfl ?_
          refine XS.iconst X51.here hx rfl (hb hby d1_94) ?_
          refine XS.iload X51.here hx rfl (hb hby d1_95) rfl ?_
          show Steps p.tables e below (T51.setTop (mkF m 97 #[.val (.int p0), .val (.int p1), .val (.int p2), .val (.int p3), .val (.int (p1.toUInt32.toUInt16.toUInt32.toInt32)), .val (.int (p2.toUInt32.toUInt16.toUInt32.toInt32)), .val (.int (p3.toUInt32.toUInt16.toUInt32.toInt32))] [(.int (p2.toUInt32.toUInt16.toUInt32.toInt32)), (.int 1), (.ref b49), (.ref b49), (.ref b47), (.ref b47)])) _
          refine st54 _ ?_
          show Steps p.tables e below (T54.setTop (mkF m 98 #[.val (.int p0), .val (.int p1), .val (.int p2), .val (.int p3), .val (.int (p1.toUInt32.toUInt16.toUInt32.toInt32)), .val (.int (p2.toUInt32.toUInt16.toUInt32.toInt32)), .val (.int (p3.toUInt32.toUInt16.toUInt32.toInt32))] [(.ref b49), (.ref b47), (.ref b47)])) _
          refine XS.dup X54.here hx rfl (hb hby d1_98) rfl rfl ?_
          refine XS.iconst X54.here hx rfl (hb hby d1_99) ?_
          refine XS.iload X54.here hx rfl (hb hby d1_100) rfl ?_
          show Steps p.tables e below (T54.setTop (mkF m 102 #[.val (.int p0), .val (.int p1), .val (.int p2), .val (.int p3), .val (.int (p1.toUInt32.toUInt16.toUInt32.toInt32)), .val (.int (p2.toUInt32.toUInt16.toUInt32.toInt32)), .val (.int (p3.toUInt32.toUInt16.toUInt32.toInt32))] [(.int (p3.toUInt32.toUInt16.toUInt32.toInt32)), (.int 2), (.ref b49), (.ref b49), (.ref b47), (.ref b47)])) _
          refine st57 _ ?_
          exact kt
        by_cases hu3_0 : (255 : Int32) < (p1.toUInt32.toUInt16.toUInt32.toInt32)
        · obtain ⟨_, _, ⟨T61, L61, k61, n61⟩, -, X61, ⟨Lc61, hQ61, l61, y61, z61⟩, st61⟩ := X57.specialBack hx (y := MN_9) rfl hown (mvT hZ (Wd hw 9 rfl)) (mvT hZ (Wd hw 10 rfl)) (mvT hZ (Wd hw 11 rfl)) (by decide) (backOf (W := 1) (rmIc_3u0 l Z a0 hw [] cS aRS aEM aUS aSS (b47) (b49) (k49) ((p1.toUInt32.toUInt16.toUInt32.toInt32)) ((p2.toUInt32.toUInt16.toUInt32.toInt32)) ((p3.toUInt32.toUInt16.toUInt32.toInt32)) (h57) n0 O57 GL ((((A47.ext E49).wr W51).wr W54).wr W57) ((((F_value_b47.ext E49).other W51 (Or.inl (Nat.ne_of_lt (Nat.lt_of_lt_of_le A47.lt (Nat.le_of_eq g49.symm))))).other W54 (Or.inl (Nat.ne_of_lt (Nat.lt_of_lt_of_le A47.lt (Nat.le_of_eq g49.symm))))).other W57 (Or.inl (Nat.ne_of_lt (Nat.lt_of_lt_of_le A47.lt (Nat.le_of_eq g49.symm))))) ((((F_coder_b47.ext E49).other W51 (Or.inl (Nat.ne_of_lt (Nat.lt_of_lt_of_le A47.lt (Nat.le_of_eq g49.symm))))).other W54 (Or.inl (Nat.ne_of_lt (Nat.lt_of_lt_of_le A47.lt (Nat.le_of_eq g49.symm))))).other W57 (Or.inl (Nat.ne_of_lt (Nat.lt_of_lt_of_le A47.lt (Nat.le_of_eq g49.symm))))) g_b47 V57 hu3_0 hi0) hZ (Wd hw 11 rfl) (Wd hw 7 rfl) (by decide) (by decide)) (g := (mkF m 103 #[.val (.int p0), .val (.int p1), .val (.int p2), .val (.int p3), .val (.int (p1.toUInt32.toUInt16.toUInt32.toInt32)), .val (.int (p2.toUInt32.toUInt16.toUInt32.toInt32)), .val (.int (p3.toUInt32.toUInt16.toUInt32.toInt32))] [(.ref b49), (.ref b47), (.ref b47)])) rfl (by rw [hml]; rfl) (Steps.refl _) (a := b47) (argsL := [(.ref b49)]) (rest := [(.ref b47)]) (lenOf pdv12 rfl) rfl (by show 2 * 0 + _ ≤ _; exact Nat.le_of_eq rfl) (hb hby d1_103) (fun _ _ => ⟨rfl, e57, (by decide : 2 + 2 ≤ _), (by decide : 7 + 9 ≤ _)⟩)
          dsimp only [Pt.U, Pt.locs, Pt.cells, Pt.slots] at X61 l61 y61 z61 st61 hQ61
          subst l61 y61 z61
          obtain ⟨b_61, kb_61, rfl, N61q, Kc61, P61_0, P61_1, P61_2, P61_3, P61_4, P61_5⟩ := hQ61
          have K61 : Keep h0 T61.heap [] := K57.trans Kc61 (allS (Or.inr sz_b47) all0)
          have O61 := O57.keep Kc61 (allS g_b47 all0)
          have Sf63 : Safe Z EL1 s.vm h57 b47 := (Safe.wr W57 Sf59 H_55 (Safe.wr W54 Sf56 H_52 (Safe.wr W51 Sf53 H_50 (Safe.ext E49 H_48 (Safe.ext E47 H0 (Safe.new (Z := Z) (EL := EL1) (vm := s.vm) (Nat.le_of_eq g47.symm)))))))
          have H_62 := H_58.keep Kc61 (sfS Sf63 sf0)
          have R_62 := R_58.trans (CHr.keep Kc61 (sfS Sf63 sf0) H_58)
          have g_b_61 : n0 ≤ b_61 := Nat.le_trans (own_sz O57) P61_0
          have sz_b_61 : h0.size ≤ b_61 := Nat.le_trans K57.1 P61_0
          have N61 := Fr.app N57 N61q
          obtain ⟨fs, hr, hrun, hended, hRW⟩ := X61.leaveW hS0 (Nat.le_trans (Nat.le_trans (Nat.le_trans (Nat.le_trans (Nat.le_trans (Nat.le_trans (Nat.le_refl _) E47.1) E49.1) (Keep.of_wr W51).1) (Keep.of_wr W54).1) (Keep.of_wr W57).1) Kc61.1) (v := some (.ref b47)) (fun h => by rw [Bd.returns] at h; cases h)
          have hCR : CHr Z EL1 s.vm s.heap T61.vm T61.heap := by
            rw [hh]
            exact R_62.trans (CHv.at X61 hZ (own_EW hw) H_62)
          refine ⟨_, _, pre60 _ ?_, hrun, hended, _, _, rfl, ?_, hCR, hRW.1, hRW.2.1, hRW.2.2.1, hRW.2.2.2.mono (by decide) (by decide)⟩
          · show Steps p.tables e below (T57.setTop (mkF m 103 #[.val (.int p0), .val (.int p1), .val (.int p2), .val (.int p3), .val (.int (p1.toUInt32.toUInt16.toUInt32.toInt32)), .val (.int (p2.toUInt32.toUInt16.toUInt32.toInt32)), .val (.int (p3.toUInt32.toUInt16.toUInt32.toInt32))] [(.ref b49), (.ref b47), (.ref b47)])) _
            refine st61.trans ?_
            show Steps p.tables e below (T61.setTop (mkF m 106 #[.val (.int p0), .val (.int p1), .val (.int p2), .val (.int p3), .val (.int (p1.toUInt32.toUInt16.toUInt32.toInt32)), .val (.int (p2.toUInt32.toUInt16.toUInt32.toInt32)), .val (.int (p3.toUInt32.toUInt16.toUInt32.toInt32))] [(.ref b47)])) _
            jvm_step X61.here [X61.here.top, hx, (hb hby d1_106), X61.method', Bd.returns, Value.isRef, FieldType.isReference]
            first | (intro acts; rw [hr _ acts rfl rfl rfl]) | rw [hr _ _ rfl rfl rfl]
            exact Steps.refl _
          · show Q_rmDr n0 Z cS aRS aEM aUS aSS p0 p1 p2 p3 h0 _ T61.heap _
            exact ⟨b47, rfl, N61, K61, sz_b47, P61_2⟩
        · have hi1 : nar .char (p2.toUInt32.toUInt16.toUInt32.toInt32) = (p2.toUInt32.toUInt16.toUInt32.toInt32) := own_nari2c p2
          by_cases hu3_1 : (255 : Int32) < (p2.toUInt32.toUInt16.toUInt32.toInt32)
          · obtain ⟨_, _, ⟨T64, L64, k64, n64⟩, -, X64, ⟨Lc64, hQ64, l64, y64, z64⟩, st64⟩ := X57.specialBack hx (y := MN_9) rfl hown (mvT hZ (Wd hw 9 rfl)) (mvT hZ (Wd hw 10 rfl)) (mvT hZ (Wd hw 11 rfl)) (by decide) (backOf (W := 1) (rmIc_3u1 l Z a0 hw [] cS aRS aEM aUS aSS (b47) (b49) (k49) ((p1.toUInt32.toUInt16.toUInt32.toInt32)) ((p2.toUInt32.toUInt16.toUInt32.toInt32)) ((p3.toUInt32.toUInt16.toUInt32.toInt32)) (h57) n0 O57 GL ((((A47.ext E49).wr W51).wr W54).wr W57) ((((F_value_b47.ext E49).other W51 (Or.inl (Nat.ne_of_lt (Nat.lt_of_lt_of_le A47.lt (Nat.le_of_eq g49.symm))))).other W54 (Or.inl (Nat.ne_of_lt (Nat.lt_of_lt_of_le A47.lt (Nat.le_of_eq g49.symm))))).other W57 (Or.inl (Nat.ne_of_lt (Nat.lt_of_lt_of_le A47.lt (Nat.le_of_eq g49.symm))))) ((((F_coder_b47.ext E49).other W51 (Or.inl (Nat.ne_of_lt (Nat.lt_of_lt_of_le A47.lt (Nat.le_of_eq g49.symm))))).other W54 (Or.inl (Nat.ne_of_lt (Nat.lt_of_lt_of_le A47.lt (Nat.le_of_eq g49.symm))))).other W57 (Or.inl (Nat.ne_of_lt (Nat.lt_of_lt_of_le A47.lt (Nat.le_of_eq g49.symm))))) g_b47 V57 hu3_0 hu3_1 hi1) hZ (Wd hw 11 rfl) (Wd hw 7 rfl) (by decide) (by decide)) (g := (mkF m 103 #[.val (.int p0), .val (.int p1), .val (.int p2), .val (.int p3), .val (.int (p1.toUInt32.toUInt16.toUInt32.toInt32)), .val (.int (p2.toUInt32.toUInt16.toUInt32.toInt32)), .val (.int (p3.toUInt32.toUInt16.toUInt32.toInt32))] [(.ref b49), (.ref b47), (.ref b47)])) rfl (by rw [hml]; rfl) (Steps.refl _) (a := b47) (argsL := [(.ref b49)]) (rest := [(.ref b47)]) (lenOf pdv12 rfl) rfl (by show 2 * 0 + _ ≤ _; exact Nat.le_of_eq rfl) (hb hby d1_103) (fun _ _ => ⟨rfl, e57, (by decide : 2 + 2 ≤ _), (by decide : 7 + 9 ≤ _)⟩)
            dsimp only [Pt.U, Pt.locs, Pt.cells, Pt.slots] at X64 l64 y64 z64 st64 hQ64
            subst l64 y64 z64
            obtain ⟨b_64, kb_64, rfl, N64q, Kc64, P64_0, P64_1, P64_2, P64_3, P64_4, P64_5⟩ := hQ64
            have K64 : Keep h0 T64.heap [] := K57.trans Kc64 (allS (Or.inr sz_b47) all0)
            have O64 := O57.keep Kc64 (allS g_b47 all0)
            have Sf66 : Safe Z EL1 s.vm h57 b47 := (Safe.wr W57 Sf59 H_55 (Safe.wr W54 Sf56 H_52 (Safe.wr W51 Sf53 H_50 (Safe.ext E49 H_48 (Safe.ext E47 H0 (Safe.new (Z := Z) (EL := EL1) (vm := s.vm) (Nat.le_of_eq g47.symm)))))))
            have H_65 := H_58.keep Kc64 (sfS Sf66 sf0)
            have R_65 := R_58.trans (CHr.keep Kc64 (sfS Sf66 sf0) H_58)
            have g_b_64 : n0 ≤ b_64 := Nat.le_trans (own_sz O57) P64_0
            have sz_b_64 : h0.size ≤ b_64 := Nat.le_trans K57.1 P64_0
            have N64 := Fr.app N57 N64q
            obtain ⟨fs, hr, hrun, hended, hRW⟩ := X64.leaveW hS0 (Nat.le_trans (Nat.le_trans (Nat.le_trans (Nat.le_trans (Nat.le_trans (Nat.le_trans (Nat.le_refl _) E47.1) E49.1) (Keep.of_wr W51).1) (Keep.of_wr W54).1) (Keep.of_wr W57).1) Kc64.1) (v := some (.ref b47)) (fun h => by rw [Bd.returns] at h; cases h)
            have hCR : CHr Z EL1 s.vm s.heap T64.vm T64.heap := by
              rw [hh]
              exact R_65.trans (CHv.at X64 hZ (own_EW hw) H_65)
            refine ⟨_, _, pre60 _ ?_, hrun, hended, _, _, rfl, ?_, hCR, hRW.1, hRW.2.1, hRW.2.2.1, hRW.2.2.2.mono (by decide) (by decide)⟩
            · show Steps p.tables e below (T57.setTop (mkF m 103 #[.val (.int p0), .val (.int p1), .val (.int p2), .val (.int p3), .val (.int (p1.toUInt32.toUInt16.toUInt32.toInt32)), .val (.int (p2.toUInt32.toUInt16.toUInt32.toInt32)), .val (.int (p3.toUInt32.toUInt16.toUInt32.toInt32))] [(.ref b49), (.ref b47), (.ref b47)])) _
              refine st64.trans ?_
              show Steps p.tables e below (T64.setTop (mkF m 106 #[.val (.int p0), .val (.int p1), .val (.int p2), .val (.int p3), .val (.int (p1.toUInt32.toUInt16.toUInt32.toInt32)), .val (.int (p2.toUInt32.toUInt16.toUInt32.toInt32)), .val (.int (p3.toUInt32.toUInt16.toUInt32.toInt32))] [(.ref b47)])) _
              jvm_step X64.here [X64.here.top, hx, (hb hby d1_106), X64.method', Bd.returns, Value.isRef, FieldType.isReference]
              first | (intro acts; rw [hr _ acts rfl rfl rfl]) | rw [hr _ _ rfl rfl rfl]
              exact Steps.refl _
            · show Q_rmDr n0 Z cS aRS aEM aUS aSS p0 p1 p2 p3 h0 _ T64.heap _
              exact ⟨b47, rfl, N64, K64, sz_b47, P64_2⟩
          · have hi2 : nar .char (p3.toUInt32.toUInt16.toUInt32.toInt32) = (p3.toUInt32.toUInt16.toUInt32.toInt32) := own_nari2c p3
            by_cases hu3_2 : (255 : Int32) < (p3.toUInt32.toUInt16.toUInt32.toInt32)
            · obtain ⟨_, _, ⟨T67, L67, k67, n67⟩, -, X67, ⟨Lc67, hQ67, l67, y67, z67⟩, st67⟩ := X57.specialBack hx (y := MN_9) rfl hown (mvT hZ (Wd hw 9 rfl)) (mvT hZ (Wd hw 10 rfl)) (mvT hZ (Wd hw 11 rfl)) (by decide) (backOf (W := 1) (rmIc_3u2 l Z a0 hw [] cS aRS aEM aUS aSS (b47) (b49) (k49) ((p1.toUInt32.toUInt16.toUInt32.toInt32)) ((p2.toUInt32.toUInt16.toUInt32.toInt32)) ((p3.toUInt32.toUInt16.toUInt32.toInt32)) (h57) n0 O57 GL ((((A47.ext E49).wr W51).wr W54).wr W57) ((((F_value_b47.ext E49).other W51 (Or.inl (Nat.ne_of_lt (Nat.lt_of_lt_of_le A47.lt (Nat.le_of_eq g49.symm))))).other W54 (Or.inl (Nat.ne_of_lt (Nat.lt_of_lt_of_le A47.lt (Nat.le_of_eq g49.symm))))).other W57 (Or.inl (Nat.ne_of_lt (Nat.lt_of_lt_of_le A47.lt (Nat.le_of_eq g49.symm))))) ((((F_coder_b47.ext E49).other W51 (Or.inl (Nat.ne_of_lt (Nat.lt_of_lt_of_le A47.lt (Nat.le_of_eq g49.symm))))).other W54 (Or.inl (Nat.ne_of_lt (Nat.lt_of_lt_of_le A47.lt (Nat.le_of_eq g49.symm))))).other W57 (Or.inl (Nat.ne_of_lt (Nat.lt_of_lt_of_le A47.lt (Nat.le_of_eq g49.symm))))) g_b47 V57 hu3_0 hu3_1 hu3_2 hi2) hZ (Wd hw 11 rfl) (Wd hw 7 rfl) (by decide) (by decide)) (g := (mkF m 103 #[.val (.int p0), .val (.int p1), .val (.int p2), .val (.int p3), .val (.int (p1.toUInt32.toUInt16.toUInt32.toInt32)), .val (.int (p2.toUInt32.toUInt16.toUInt32.toInt32)), .val (.int (p3.toUInt32.toUInt16.toUInt32.toInt32))] [(.ref b49), (.ref b47), (.ref b47)])) rfl (by rw [hml]; rfl) (Steps.refl _) (a := b47) (argsL := [(.ref b49)]) (rest := [(.ref b47)]) (lenOf pdv12 rfl) rfl (by show 2 * 0 + _ ≤ _; exact Nat.le_of_eq rfl) (hb hby d1_103) (fun _ _ => ⟨rfl, e57, (by decide : 2 + 2 ≤ _), (by decide : 7 + 9 ≤ _)⟩)
              dsimp only [Pt.U, Pt.locs, Pt.cells, Pt.slots] at X67 l67 y67 z67 st67 hQ67
              subst l67 y67 z67
              obtain ⟨b_67, kb_67, rfl, N67q, Kc67, P67_0, P67_1, P67_2, P67_3, P67_4, P67_5⟩ := hQ67
              have K67 : Keep h0 T67.heap [] := K57.trans Kc67 (allS (Or.inr sz_b47) all0)
              have O67 := O57.keep Kc67 (allS g_b47 all0)
              have Sf69 : Safe Z EL1 s.vm h57 b47 := (Safe.wr W57 Sf59 H_55 (Safe.wr W54 Sf56 H_52 (Safe.wr W51 Sf53 H_50 (Safe.ext E49 H_48 (Safe.ext E47 H0 (Safe.new (Z := Z) (EL := EL1) (vm := s.vm) (Nat.le_of_eq g47.symm)))))))
              have H_68 := H_58.keep Kc67 (sfS Sf69 sf0)
              have R_68 := R_58.trans (CHr.keep Kc67 (sfS Sf69 sf0) H_58)
              have g_b_67 : n0 ≤ b_67 := Nat.le_trans (own_sz O57) P67_0
              have sz_b_67 : h0.size ≤ b_67 := Nat.le_trans K57.1 P67_0
              have N67 := Fr.app N57 N67q
              obtain ⟨fs, hr, hrun, hended, hRW⟩ := X67.leaveW hS0 (Nat.le_trans (Nat.le_trans (Nat.le_trans (Nat.le_trans (Nat.le_trans (Nat.le_trans (Nat.le_refl _) E47.1) E49.1) (Keep.of_wr W51).1) (Keep.of_wr W54).1) (Keep.of_wr W57).1) Kc67.1) (v := some (.ref b47)) (fun h => by rw [Bd.returns] at h; cases h)
              have hCR : CHr Z EL1 s.vm s.heap T67.vm T67.heap := by
                rw [hh]
                exact R_68.trans (CHv.at X67 hZ (own_EW hw) H_68)
              refine ⟨_, _, pre60 _ ?_, hrun, hended, _, _, rfl, ?_, hCR, hRW.1, hRW.2.1, hRW.2.2.1, hRW.2.2.2.mono (by decide) (by decide)⟩
              · show Steps p.tables e below (T57.setTop (mkF m 103 #[.val (.int p0), .val (.int p1), .val (.int p2), .val (.int p3), .val (.int (p1.toUInt32.toUInt16.toUInt32.toInt32)), .val (.int (p2.toUInt32.toUInt16.toUInt32.toInt32)), .val (.int (p3.toUInt32.toUInt16.toUInt32.toInt32))] [(.ref b49), (.ref b47), (.ref b47)])) _
                refine st67.trans ?_
                show Steps p.tables e below (T67.setTop (mkF m 106 #[.val (.int p0), .val (.int p1), .val (.int p2), .val (.int p3), .val (.int (p1.toUInt32.toUInt16.toUInt32.toInt32)), .val (.int (p2.toUInt32.toUInt16.toUInt32.toInt32)), .val (.int (p3.toUInt32.toUInt16.toUInt32.toInt32))] [(.ref b47)])) _
                jvm_step X67.here [X67.here.top, hx, (hb hby d1_106), X67.method', Bd.returns, Value.isRef, FieldType.isReference]
                first | (intro acts; rw [hr _ acts rfl rfl rfl]) | rw [hr _ _ rfl rfl rfl]
                exact Steps.refl _
              · show Q_rmDr n0 Z cS aRS aEM aUS aSS p0 p1 p2 p3 h0 _ T67.heap _
                exact ⟨b47, rfl, N67, K67, sz_b47, P67_2⟩
            · obtain ⟨_, _, ⟨T70, L70, k70, n70⟩, -, X70, ⟨Lc70, hQ70, l70, y70, z70⟩, st70⟩ := X57.specialBack hx (y := MN_9) rfl hown (mvT hZ (Wd hw 9 rfl)) (mvT hZ (Wd hw 10 rfl)) (mvT hZ (Wd hw 11 rfl)) (by decide) (backOf (W := 1) (rmIc_3 l Z a0 hw [] cS aRS aEM aUS aSS (b47) (b49) (k49) ((p1.toUInt32.toUInt16.toUInt32.toInt32)) ((p2.toUInt32.toUInt16.toUInt32.toInt32)) ((p3.toUInt32.toUInt16.toUInt32.toInt32)) (h57) n0 O57 GL ((((A47.ext E49).wr W51).wr W54).wr W57) ((((F_value_b47.ext E49).other W51 (Or.inl (Nat.ne_of_lt (Nat.lt_of_lt_of_le A47.lt (Nat.le_of_eq g49.symm))))).other W54 (Or.inl (Nat.ne_of_lt (Nat.lt_of_lt_of_le A47.lt (Nat.le_of_eq g49.symm))))).other W57 (Or.inl (Nat.ne_of_lt (Nat.lt_of_lt_of_le A47.lt (Nat.le_of_eq g49.symm))))) ((((F_coder_b47.ext E49).other W51 (Or.inl (Nat.ne_of_lt (Nat.lt_of_lt_of_le A47.lt (Nat.le_of_eq g49.symm))))).other W54 (Or.inl (Nat.ne_of_lt (Nat.lt_of_lt_of_le A47.lt (Nat.le_of_eq g49.symm))))).other W57 (Or.inl (Nat.ne_of_lt (Nat.lt_of_lt_of_le A47.lt (Nat.le_of_eq g49.symm))))) g_b47 V57 hu3_0 hu3_1 hu3_2) hZ (Wd hw 11 rfl) (Wd hw 7 rfl) (by decide) (by decide)) (g := (mkF m 103 #[.val (.int p0), .val (.int p1), .val (.int p2), .val (.int p3), .val (.int (p1.toUInt32.toUInt16.toUInt32.toInt32)), .val (.int (p2.toUInt32.toUInt16.toUInt32.toInt32)), .val (.int (p3.toUInt32.toUInt16.toUInt32.toInt32))] [(.ref b49), (.ref b47), (.ref b47)])) rfl (by rw [hml]; rfl) (Steps.refl _) (a := b47) (argsL := [(.ref b49)]) (rest := [(.ref b47)]) (lenOf pdv12 rfl) rfl (by show 2 * 0 + _ ≤ _; exact Nat.le_of_eq rfl) (hb hby d1_103) (fun _ _ => ⟨rfl, e57, (by decide : 2 + 1 ≤ _), (by decide : 7 + 3 ≤ _)⟩)
              dsimp only [Pt.U, Pt.locs, Pt.cells, Pt.slots] at X70 l70 y70 z70 st70 hQ70
              subst l70 y70 z70
              obtain ⟨b_70, kb_70, rfl, N70q, Kc70, P70_0, P70_1, P70_2, P70_3, P70_4, P70_5⟩ := hQ70
              have K70 : Keep h0 T70.heap [] := K57.trans Kc70 (allS (Or.inr sz_b47) all0)
              have O70 := O57.keep Kc70 (allS g_b47 all0)
              have Sf72 : Safe Z EL1 s.vm h57 b47 := (Safe.wr W57 Sf59 H_55 (Safe.wr W54 Sf56 H_52 (Safe.wr W51 Sf53 H_50 (Safe.ext E49 H_48 (Safe.ext E47 H0 (Safe.new (Z := Z) (EL := EL1) (vm := s.vm) (Nat.le_of_eq g47.symm)))))))
              have H_71 := H_58.keep Kc70 (sfS Sf72 sf0)
              have R_71 := R_58.trans (CHr.keep Kc70 (sfS Sf72 sf0) H_58)
              have g_b_70 : n0 ≤ b_70 := Nat.le_trans (own_sz O57) P70_0
              have sz_b_70 : h0.size ≤ b_70 := Nat.le_trans K57.1 P70_0
              have N70 := Fr.app N57 N70q
              obtain ⟨fs, hr, hrun, hended, hRW⟩ := X70.leaveW hS0 (Nat.le_trans (Nat.le_trans (Nat.le_trans (Nat.le_trans (Nat.le_trans (Nat.le_trans (Nat.le_refl _) E47.1) E49.1) (Keep.of_wr W51).1) (Keep.of_wr W54).1) (Keep.of_wr W57).1) Kc70.1) (v := some (.ref b47)) (fun h => by rw [Bd.returns] at h; cases h)
              have hCR : CHr Z EL1 s.vm s.heap T70.vm T70.heap := by
                rw [hh]
                exact R_71.trans (CHv.at X70 hZ (own_EW hw) H_71)
              refine ⟨_, _, pre60 _ ?_, hrun, hended, _, _, rfl, ?_, hCR, hRW.1, hRW.2.1, hRW.2.2.1, hRW.2.2.2.mono (by decide) (by decide)⟩
              · show Steps p.tables e below (T57.setTop (mkF m 103 #[.val (.int p0), .val (.int p1), .val (.int p2), .val (.int p3), .val (.int (p1.toUInt32.toUInt16.toUInt32.toInt32)), .val (.int (p2.toUInt32.toUInt16.toUInt32.toInt32)), .val (.int (p3.toUInt32.toUInt16.toUInt32.toInt32))] [(.ref b49), (.ref b47), (.ref b47)])) _
                refine st70.trans ?_
                show Steps p.tables e below (T70.setTop (mkF m 106 #[.val (.int p0), .val (.int p1), .val (.int p2), .val (.int p3), .val (.int (p1.toUInt32.toUInt16.toUInt32.toInt32)), .val (.int (p2.toUInt32.toUInt16.toUInt32.toInt32)), .val (.int (p3.toUInt32.toUInt16.toUInt32.toInt32))] [(.ref b47)])) _
                jvm_step X70.here [X70.here.top, hx, (hb hby d1_106), X70.method', Bd.returns, Value.isRef, FieldType.isReference]
                first | (intro acts; rw [hr _ acts rfl rfl rfl]) | rw [hr _ _ rfl rfl rfl]
                exact Steps.refl _
              · show Q_rmDr n0 Z cS aRS aEM aUS aSS p0 p1 p2 p3 h0 _ T70.heap _
                exact ⟨b47, rfl, N70, K70, sz_b47, P70_2⟩
theorem d1_17 : decode method_2_code 17 = .ok (.aconst_null, 1) := by decide +kernel
theorem d1_18 : decode method_2_code 18 = .ok (.areturn, 1) := by decide +kernel
def Q_rmDr4 (n0 : Nat) (Z : State) (cS : Int32) (aRS : Addr) (aEM : Addr) (aUS : Addr) (aSS : Addr) (p0 : Int32) (p1 : Int32) (p2 : Int32) (p3 : Int32) (h0 : Heap) (v : Option Value) (h : Heap) (L : List Loc) : Prop := v = some .null ∧ Fr n0 L ∧ h = h0
set_option maxRecDepth 65536 in
set_option maxHeartbeats 40000000 in
theorem rmDr4 (l : Launch) (Z : State) (a0 : Array Value) (hw : ∀ d ∈ tables_1, d.before a0 Z = true) (ws : List Jvm.Cond) (cS : Int32) (aRS : Addr) (aEM : Addr) (aUS : Addr) (aSS : Addr) (p0 : Int32) (p1 : Int32) (p2 : Int32) (p3 : Int32) (h0 : Heap) (n0 : Nat) (O0 : Old Z n0 h0) (GL : GF Z cS aRS aEM aUS aSS) (h4 : p0 = (4 : Int32)) :
    MetFree l MN_22 (head1 (Jvm.Cond.code MN_22 method_2_code 7 (some (.object "java/lang/String")) :: ws) ({ frames := 0, cells := 0, slots := 0, locals := 0 } : Room)) (fun a U => a = #[(.int p0), (.int p1), (.int p2), (.int p3)] ∧ Z.Warmed39 U.vm ∧ U.heap = h0) (fun _ _ _ _ _ => True) (fun _ U o U' => ∃ v L, o = .returned v ∧ Q_rmDr4 n0 Z cS aRS aEM aUS aSS p0 p1 p2 p3 h0 v U'.heap L ∧ FrameEnd U o U' L ({ frames := 0, cells := 0, slots := 0, locals := 0 } : Room).cells ({ frames := 0, cells := 0, slots := 0, locals := 0 } : Room).slots) := by
  refine MetFree.of_bodySF (plainFor_of_name pnv7) hisR ?_
  intro p e s m args below meth c s₁ Bd hml0 hP hK
  obtain ⟨rfl, hZ, hh⟩ := hP
  have hx := Bd.exec
  have hby := Bd.bytes
  have hml : c.maxLocals = 7 := hml0
  have hown : s.vm.findClass "com/example/metaloom/metaloom/store/RejectionInvalidPinLaw" = some m.cls := findClass_of_methodNamed Bd.named
  have hnm := (name_of_methodNamed Bd.named Bd.method).1
  have X0 : Stand p l e ({ frames := 0, cells := 0, slots := 0, locals := 0 } : Room) s m #[(.int p0), (.int p1), (.int p2), (.int p3)] below meth c s₁ [] 0 0 := Stand.of_body Bd
  have e0 : s₁.heap = h0 := by rw [← hh, Bd.state]; rfl
  have N0 := Fr.nil n0
  have pre0 : ∀ t, Steps p.tables e below (s₁.setTop (mkF m 0 #[.val (.int p0), .val (.int p1), .val (.int p2), .val (.int p3), .unset, .unset, .unset] [])) t → Steps p.tables e below (s₁.setTop (entryFrame m #[(.int p0), (.int p1), (.int p2), (.int p3)] 7)) t := fun t k => castTop (ef_rmDr m p0 p1 p2 p3) k
  have GL' := GL
  obtain ⟨GCS, GCP, GSR, GSE, GEE, GFE, GSU, GSS, GA16, GHI, GLO⟩ := GL'
  obtain ⟨fs, hr, hrun, hended, hW, hsame⟩ := X0.leave (v := some .null) (fun h => by rw [Bd.returns] at h; cases h)
  refine ⟨_, _, pre0 _ ?_, hrun, hended, _, _, rfl, ?_, ⟨_, rfl⟩, hW, hsame.mono (by decide) (by decide)⟩
  · show Steps p.tables e below (s₁.setTop (mkF m 0 #[.val (.int p0), .val (.int p1), .val (.int p2), .val (.int p3), .unset, .unset, .unset] [])) _
    refine XS.iloadN X0.here hx rfl (hb hby d1_0) rfl ?_
    refine XS.i2c X0.here hx rfl (hb hby d1_1) rfl ?_
    refine XS.istore X0.here hx rfl (hb hby d1_2) rfl (l' := #[.val (.int p0), .val (.int p1), .val (.int p2), .val (.int p3), .val (.int (p1.toUInt32.toUInt16.toUInt32.toInt32)), .unset, .unset]) rfl ?_
    refine XS.iloadN X0.here hx rfl (hb hby d1_4) rfl ?_
    show Steps p.tables e below (s₁.setTop (mkF m 5 #[.val (.int p0), .val (.int p1), .val (.int p2), .val (.int p3), .val (.int (p1.toUInt32.toUInt16.toUInt32.toInt32)), .unset, .unset] [(.int p2)])) _
    refine XS.i2c X0.here hx rfl (hb hby d1_5) rfl ?_
    refine XS.istore X0.here hx rfl (hb hby d1_6) rfl (l' := #[.val (.int p0), .val (.int p1), .val (.int p2), .val (.int p3), .val (.int (p1.toUInt32.toUInt16.toUInt32.toInt32)), .val (.int (p2.toUInt32.toUInt16.toUInt32.toInt32)), .unset]) rfl ?_
    refine XS.iloadN X0.here hx rfl (hb hby d1_8) rfl ?_
    refine XS.i2c X0.here hx rfl (hb hby d1_9) rfl ?_
    show Steps p.tables e below (s₁.setTop (mkF m 10 #[.val (.int p0), .val (.int p1), .val (.int p2), .val (.int p3), .val (.int (p1.toUInt32.toUInt16.toUInt32.toInt32)), .val (.int (p2.toUInt32.toUInt16.toUInt32.toInt32)), .unset] [(.int (p3.toUInt32.toUInt16.toUInt32.toInt32))])) _
    refine XS.istore X0.here hx rfl (hb hby d1_10) rfl (l' := #[.val (.int p0), .val (.int p1), .val (.int p2), .val (.int p3), .val (.int (p1.toUInt32.toUInt16.toUInt32.toInt32)), .val (.int (p2.toUInt32.toUInt16.toUInt32.toInt32)), .val (.int (p3.toUInt32.toUInt16.toUInt32.toInt32))]) rfl ?_
    refine XS.iloadN X0.here hx rfl (hb hby d1_12) rfl ?_
    refine XS.iconst X0.here hx rfl (hb hby d1_13) ?_
    refine XS.icmpNo X0.here hx rfl (hb hby d1_14) rfl (teq h4).2 ?_
    show Steps p.tables e below (s₁.setTop (mkF m 17 #[.val (.int p0), .val (.int p1), .val (.int p2), .val (.int p3), .val (.int (p1.toUInt32.toUInt16.toUInt32.toInt32)), .val (.int (p2.toUInt32.toUInt16.toUInt32.toInt32)), .val (.int (p3.toUInt32.toUInt16.toUInt32.toInt32))] [])) _
    refine XS.aconstNull X0.here hx rfl (hb hby d1_17) ?_
    show Steps p.tables e below (s₁.setTop (mkF m 18 #[.val (.int p0), .val (.int p1), .val (.int p2), .val (.int p3), .val (.int (p1.toUInt32.toUInt16.toUInt32.toInt32)), .val (.int (p2.toUInt32.toUInt16.toUInt32.toInt32)), .val (.int (p3.toUInt32.toUInt16.toUInt32.toInt32))] [.null])) _
    jvm_step X0.here [X0.here.top, hx, (hb hby d1_18), X0.method', Bd.returns, Value.isRef, FieldType.isReference]
    first | (intro acts; rw [hr _ acts rfl rfl rfl]) | rw [hr _ _ rfl rfl rfl]
    exact Steps.refl _
  · show Q_rmDr4 n0 Z cS aRS aEM aUS aSS p0 p1 p2 p3 h0 _ s₁.heap _
    rw [e0]
    exact ⟨rfl, N0, rfl⟩
theorem pdv13 : parseMethodDescriptor "(IIII)Ljava/lang/String;" = some ⟨[.int, .int, .int, .int], some (.object "java/lang/String")⟩ := by decide +kernel
theorem pdv14 : parseMethodDescriptor "(Ljava/lang/String;)Lcom/example/metaloom/metaloom/store/Rejection;" = some ⟨[(.object "java/lang/String")], some (.object "com/example/metaloom/metaloom/store/Rejection")⟩ := by decide +kernel
theorem pdv15 : parseMethodDescriptor "()Ljava/lang/String;" = some ⟨[], some (.object "java/lang/String")⟩ := by decide +kernel
abbrev MN_23 : MethodName := ⟨"com/example/metaloom/metaloom/store/Rejection", "getMessage", "()Ljava/lang/String;"⟩
theorem pdv16 : parseMethodDescriptor "()Lcom/example/metaloom/metaloom/store/Rejection$Reason;" = some ⟨[], some (.object "com/example/metaloom/metaloom/store/Rejection$Reason")⟩ := by decide +kernel
theorem pdv17 : parseMethodDescriptor "()Z" = some ⟨[], some .boolean⟩ := by decide +kernel
theorem pdv18 : parseMethodDescriptor "(Ljava/lang/Object;)Z" = some ⟨[(.object "java/lang/Object")], some .boolean⟩ := by decide +kernel
theorem ef_rm0 (m : MethodId) (p0 : Int32) (p1 : Int32) (p2 : Int32) (p3 : Int32) : entryFrame m #[(.int p0), (.int p1), (.int p2), (.int p3)] maxLocals = mkF m 0 #[.val (.int p0), .val (.int p1), .val (.int p2), .val (.int p3), .unset, .unset, .unset, .unset, .unset, .unset, .unset] [] := by first | (simp [entryFrame, mkF, argsToLocals, Value.category, maxLocals]; done) | rfl
def Q_rm0 (n0 : Nat) (v : Option Value) (h : Heap) (L : List Loc) : Prop := v = some (.int 1) ∧ Fr n0 L
set_option maxRecDepth 65536 in
set_option maxHeartbeats 40000000 in
theorem rm0 (l : Launch) (Z : State) (a0 : Array Value) (hw : ∀ d ∈ tables_1, d.before a0 Z = true) (ws : List Jvm.Cond) (cS : Int32) (aRS : Addr) (aEM : Addr) (aUS : Addr) (aSS : Addr) (p0 : Int32) (p1 : Int32) (p2 : Int32) (p3 : Int32) (h0 : Heap) (n0 : Nat) (O0 : Old Z n0 h0) (GL : GF Z cS aRS aEM aUS aSS) :
    MetFree l x (head1 (Jvm.Cond.code x code maxLocals ret :: ws) room_1) (fun a U => a = #[(.int p0), (.int p1), (.int p2), (.int p3)] ∧ Z.Warmed39 U.vm ∧ U.heap = h0 ∧ CHv Z EL1 U.vm h0) (fun _ _ _ _ _ => True) (fun _ U o U' => ∃ v L, o = .returned v ∧ Q_rm0 n0 v U'.heap L ∧ CHr Z EL1 U.vm U.heap U'.vm U'.heap ∧ ReturnedEndW U o U' L room_1.cells room_1.slots) := by
  refine MetFree.of_bodySF (plainFor_of_name pnv7) hisR ?_
  intro p e s m args below meth c s₁ Bd hml0 hP hK
  obtain ⟨rfl, hZ, hh, H0⟩ := hP
  have hx := Bd.exec
  have hby := Bd.bytes
  have hml : c.maxLocals = 11 := hml0
  have hown : s.vm.findClass "com/example/metaloom/metaloom/store/RejectionInvalidPinLaw" = some m.cls := findClass_of_methodNamed Bd.named
  have hnm := (name_of_methodNamed Bd.named Bd.method).1
  have X0 : Stand p l e room_1 s m #[(.int p0), (.int p1), (.int p2), (.int p3)] below meth c s₁ [] 0 0 := Stand.of_body Bd
  have e0 : s₁.heap = h0 := by rw [← hh, Bd.state]; rfl
  have N0 := Fr.nil n0
  have pre0 : ∀ t, Steps p.tables e below (s₁.setTop (mkF m 0 #[.val (.int p0), .val (.int p1), .val (.int p2), .val (.int p3), .unset, .unset, .unset, .unset, .unset, .unset, .unset] [])) t → Steps p.tables e below (s₁.setTop (entryFrame m #[(.int p0), (.int p1), (.int p2), (.int p3)] maxLocals)) t := fun t k => castTop (ef_rm0 m p0 p1 p2 p3) k
  have X0w : Stand p l e room_1 (s.setVm s.vm) m #[(.int p0), (.int p1), (.int p2), (.int p3)] below meth c s₁ [] 0 0 := X0
  have R0 : CHr Z EL1 s.vm h0 s.vm h0 := CHr.refl H0
  have hS0 : s.Since s.vm h0.size := (State.WarmedH.refl s).since _
  have GL' := GL
  obtain ⟨GCS, GCP, GSR, GSE, GEE, GFE, GSU, GSS, GA16, GHI, GLO⟩ := GL'
  have pre1 : ∀ t, Steps p.tables e below (s₁.setTop (mkF m 13 #[.val (.int p0), .val (.int p1), .val (.int p2), .val (.int p3), .val (.int ((p3 &&& (2147483647 : Int32)) % (5 : Int32))), .unset, .unset, .unset, .unset, .unset, .unset] [(.int p2), (.int p1), (.int p0), (.int ((p3 &&& (2147483647 : Int32)) % (5 : Int32)))])) t → Steps p.tables e below (s₁.setTop (entryFrame m #[(.int p0), (.int p1), (.int p2), (.int p3)] maxLocals)) t := fun t kt => by
    refine pre0 t ?_
    show Steps p.tables e below (s₁.setTop (mkF m 0 #[.val (.int p0), .val (.int p1), .val (.int p2), .val (.int p3), .unset, .unset, .unset, .unset, .unset, .unset, .unset] [])) _
    refine XS.iloadN X0w.here hx rfl (hb hby at_0) rfl ?_
    show Steps p.tables e below (s₁.setTop (mkF m 1 #[.val (.int p0), .val (.int p1), .val (.int p2), .val (.int p3), .unset, .unset, .unset, .unset, .unset, .unset, .unset] [(.int p3)])) _
    refine X0w.ldcInt hx hown (mvT hZ (Wd hw 0 rfl)) (g := (mkF m 1 #[.val (.int p0), .val (.int p1), .val (.int p2), .val (.int p3), .unset, .unset, .unset, .unset, .unset, .unset, .unset] [(.int p3)])) rfl (hb hby at_1) _ ?_
    show Steps p.tables e below (s₁.setTop (mkF m 3 #[.val (.int p0), .val (.int p1), .val (.int p2), .val (.int p3), .unset, .unset, .unset, .unset, .unset, .unset, .unset] [(.int 2147483647), (.int p3)])) _
    refine XS.iand X0w.here hx rfl (hb hby at_3) rfl ?_
    refine XS.iconst X0w.here hx rfl (hb hby at_4) ?_
    show Steps p.tables e below (s₁.setTop (mkF m 5 #[.val (.int p0), .val (.int p1), .val (.int p2), .val (.int p3), .unset, .unset, .unset, .unset, .unset, .unset, .unset] [(.int 5), (.int (p3 &&& (2147483647 : Int32)))])) _
    refine Jvm.RoadKit.iremM X0w hx rfl (hb hby at_5) rfl (by decide) ?_
    show Steps p.tables e below (s₁.setTop (mkF m 6 #[.val (.int p0), .val (.int p1), .val (.int p2), .val (.int p3), .unset, .unset, .unset, .unset, .unset, .unset, .unset] [(.int ((p3 &&& (2147483647 : Int32)) % (5 : Int32)))])) _
    refine XS.istore X0w.here hx rfl (hb hby at_6) rfl (l' := #[.val (.int p0), .val (.int p1), .val (.int p2), .val (.int p3), .val (.int ((p3 &&& (2147483647 : Int32)) % (5 : Int32))), .unset, .unset, .unset, .unset, .unset, .unset]) rfl ?_
    refine XS.iload X0w.here hx rfl (hb hby at_8) rfl ?_
    refine XS.iloadN X0w.here hx rfl (hb hby at_10) rfl ?_
    refine XS.iloadN X0w.here hx rfl (hb hby at_11) rfl ?_
    show Steps p.tables e below (s₁.setTop (mkF m 12 #[.val (.int p0), .val (.int p1), .val (.int p2), .val (.int p3), .val (.int ((p3 &&& (2147483647 : Int32)) % (5 : Int32))), .unset, .unset, .unset, .unset, .unset, .unset] [(.int p1), (.int p0), (.int ((p3 &&& (2147483647 : Int32)) % (5 : Int32)))])) _
    refine XS.iloadN X0w.here hx rfl (hb hby at_12) rfl ?_
    exact kt
  by_cases hk4 : ((p3 &&& (2147483647 : Int32)) % (5 : Int32)) = (4 : Int32)
  · obtain ⟨_, _, ⟨T2, L2, k2, n2⟩, -, X2, ⟨Lc2, hQ2, l2, y2, z2⟩, st2⟩ := Jvm.LawKit.callS X0w hx (y := MN_22) hown (mvT hZ (Wd hw 1 rfl)) (mvT hZ (Wd hw 2 rfl)) (mvT hZ (Wd hw 3 rfl)) (mvT hZ (Wd hw 4 rfl)) (by decide) (backOf (W := 0) (rmDr4 l Z a0 hw [] cS aRS aEM aUS aSS (((p3 &&& (2147483647 : Int32)) % (5 : Int32))) (p0) (p1) (p2) (h0) n0 O0 GL hk4) hZ (Wd hw 4 rfl) (Wd hw 3 rfl) (by decide) (by decide)) (g := (mkF m 13 #[.val (.int p0), .val (.int p1), .val (.int p2), .val (.int p3), .val (.int ((p3 &&& (2147483647 : Int32)) % (5 : Int32))), .unset, .unset, .unset, .unset, .unset, .unset] [(.int p2), (.int p1), (.int p0), (.int ((p3 &&& (2147483647 : Int32)) % (5 : Int32)))])) rfl (by rw [hml]; rfl) (argsL := [(.int ((p3 &&& (2147483647 : Int32)) % (5 : Int32))), (.int p0), (.int p1), (.int p2)]) (rest := []) (lenOf pdv13 rfl) rfl (by show 2 * 0 + _ ≤ _; exact Nat.le_of_eq rfl) (hb hby at_13) (fun _ _ => ⟨rfl, e0, (by decide : 0 + 0 ≤ _), (by decide : 0 + 0 ≤ _)⟩)
    dsimp only [Pt.U, Pt.locs, Pt.cells, Pt.slots] at X2 l2 y2 z2 st2 hQ2
    subst l2 y2 z2
    obtain ⟨rfl, N2q, e2⟩ := hQ2
    have N2 := Fr.app N0 N2q
    obtain ⟨_, _, ⟨T3, L3, k3, n3⟩, -, X3, ⟨Lc3, hQ3, l3, y3, z3⟩, st3⟩ := Jvm.LawKit.callS X2 hx (y := MN_16) hown (mvT hZ (Wd hw 35 rfl)) (mvT hZ (Wd hw 36 rfl)) (mvT hZ (Wd hw 37 rfl)) (mvT hZ (Wd hw 38 rfl)) (by decide) (backOf (W := 0) (rmMkn l Z a0 hw [] cS aRS aEM aUS aSS  (h0) n0 O0 GL) hZ (Wd hw 38 rfl) (Wd hw 37 rfl) (by decide) (by decide)) (g := (mkF m 20 #[.val (.int p0), .val (.int p1), .val (.int p2), .val (.int p3), .val (.int ((p3 &&& (2147483647 : Int32)) % (5 : Int32))), .val .null, .unset, .unset, .unset, .unset, .unset] [.null])) rfl (by rw [hml]; rfl) (argsL := [.null]) (rest := []) (lenOf pdv14 rfl) rfl (by show 2 * 0 + _ ≤ _; exact Nat.le_of_eq rfl) (hb hby at_20) (fun _ _ => ⟨rfl, e2, (by decide : 0 + 1 ≤ _), (by decide : 0 + 8 ≤ _)⟩)
    dsimp only [Pt.U, Pt.locs, Pt.cells, Pt.slots] at X3 l3 y3 z3 st3 hQ3
    subst l3 y3 z3
    obtain ⟨b_3, rfl, N3q, Kc3, P3_0, P3_1, P3_2, P3_3, P3_4⟩ := hQ3
    have O3 := O0.keep Kc3 all0
    have H_4 := H0.keep Kc3 sf0
    have R_4 := R0.trans (CHr.keep Kc3 sf0 H0)
    have g_b_3 : n0 ≤ b_3 := Nat.le_trans (own_sz O0) P3_0
    have N3 := Fr.app N2 N3q
    obtain ⟨cq5, kq5, q5a, q5b, q5c⟩ := isOf hZ rfl P3_1
    obtain ⟨_, _, ⟨T5, L5, k5, n5⟩, -, X5, ⟨Lc5, hQ5, l5, y5, z5⟩, st5⟩ := X3.virtualBackUp hx (owner := "java/lang/Throwable") (x := MN_23) (y := MN_19) hown (mvT hZ (Wd hw 87 rfl)) (mvT hZ (Wd hw 88 rfl)) (mvT hZ (Wd hw 89 rfl)) (by decide) (mvT hZ (Wd hw 91 rfl)) (mvT hZ (Wd hw 90 rfl)) (backOf (W := 0) (rmGm0 l Z a0 hw [] cS aRS aEM aUS aSS (b_3) (T3.heap) n0 O3 GL P3_2) hZ (Wd hw 92 rfl) (Wd hw 70 rfl) (by decide) (by decide)) q5a q5c (g := (mkF m 34 #[.val (.int p0), .val (.int p1), .val (.int p2), .val (.int p3), .val (.int ((p3 &&& (2147483647 : Int32)) % (5 : Int32))), .val .null, .val (.ref b_3), .unset, .unset, .unset, .unset] [(.ref b_3)])) rfl (by rw [hml]; rfl) (Steps.refl _) (argsL := []) (rest := []) (lenOf pdv15 rfl) rfl (by show 2 * 0 + _ ≤ _; exact Nat.le_of_eq rfl) (hb hby at_34) (fun _ _ => ⟨rfl, rfl, (by decide : 1 + 0 ≤ _), (by decide : 8 + 0 ≤ _)⟩)
    dsimp only [Pt.U, Pt.locs, Pt.cells, Pt.slots] at X5 l5 y5 z5 st5 hQ5
    subst l5 y5 z5
    obtain ⟨rfl, N5q, e5⟩ := hQ5
    have N5 := Fr.app N3 N5q
    obtain ⟨cq6, kq6, q6a, q6b, q6c⟩ := isOf hZ e5 P3_1
    obtain ⟨_, _, ⟨T6, L6, k6, n6⟩, -, X6, ⟨Lc6, hQ6, l6, y6, z6⟩, st6⟩ := X5.virtualBack hx (y := MN_17) (z := MN_17) hown (mvT hZ (Wd hw 98 rfl)) (mvT hZ (Wd hw 99 rfl)) (notFace_of_selects (args := #[]) (mvT hZ (Wd hw 101 rfl))) (mvT hZ (Wd hw 101 rfl)) (mvT hZ (Wd hw 100 rfl)) (by decide) (backOf (W := 0) (rmGr l Z a0 hw [] cS aRS aEM aUS aSS (b_3) (aRS) (T3.heap) n0 O3 GL P3_3) hZ (Wd hw 102 rfl) (Wd hw 37 rfl) (by decide) (by decide)) q6a q6c (g := (mkF m 83 #[.val (.int p0), .val (.int p1), .val (.int p2), .val (.int p3), .val (.int ((p3 &&& (2147483647 : Int32)) % (5 : Int32))), .val .null, .val (.ref b_3), .val .null, .val (.int 1), .unset, .unset] [(.ref b_3)])) rfl (by rw [hml]; rfl) (Steps.refl _) (argsL := []) (rest := []) (lenOf pdv16 rfl) rfl (by show 2 * 0 + _ ≤ _; exact Nat.le_of_eq rfl) (hb hby at_83) (fun _ _ => ⟨rfl, e5, (by decide : 1 + 0 ≤ _), (by decide : 8 + 0 ≤ _)⟩)
    dsimp only [Pt.U, Pt.locs, Pt.cells, Pt.slots] at X6 l6 y6 z6 st6 hQ6
    subst l6 y6 z6
    obtain ⟨rfl, N6q, e6⟩ := hQ6
    have N6 := Fr.app N5 N6q
    obtain ⟨T7, X7, e7, st7⟩ := getS2 X6 hx hZ hown (host := "") (Or.inl (Wd hw 103 rfl)) Via.refl e6 (GSR.ext O3.2) (g := (mkF m 86 #[.val (.int p0), .val (.int p1), .val (.int p2), .val (.int p3), .val (.int ((p3 &&& (2147483647 : Int32)) % (5 : Int32))), .val .null, .val (.ref b_3), .val .null, .val (.int 1), .unset, .unset] [(.ref aRS)])) rfl (hb hby at_86)
    obtain ⟨cq8, kq8, q8a, q8b, q8c⟩ := isOf hZ e7 P3_1
    obtain ⟨_, _, ⟨T8, L8, k8, n8⟩, -, X8, ⟨Lc8, hQ8, l8, y8, z8⟩, st8⟩ := X7.virtualBack hx (y := MN_18) (z := MN_18) hown (mvT hZ (Wd hw 104 rfl)) (mvT hZ (Wd hw 105 rfl)) (notFace_of_selects (args := #[]) (mvT hZ (Wd hw 107 rfl))) (mvT hZ (Wd hw 107 rfl)) (mvT hZ (Wd hw 106 rfl)) (by decide) (backOf (W := 0) (rmGp l Z a0 hw [] cS aRS aEM aUS aSS (b_3) (aEM) (T3.heap) n0 O3 GL P3_4) hZ (Wd hw 108 rfl) (Wd hw 37 rfl) (by decide) (by decide)) q8a q8c (g := (mkF m 101 #[.val (.int p0), .val (.int p1), .val (.int p2), .val (.int p3), .val (.int ((p3 &&& (2147483647 : Int32)) % (5 : Int32))), .val .null, .val (.ref b_3), .val .null, .val (.int 1), .val (.int 1), .unset] [(.ref b_3)])) rfl (by rw [hml]; rfl) (Steps.refl _) (argsL := []) (rest := []) (lenOf pdv9 rfl) rfl (by show 2 * 0 + _ ≤ _; exact Nat.le_of_eq rfl) (hb hby at_101) (fun _ _ => ⟨rfl, e7, (by decide : 1 + 0 ≤ _), (by decide : 8 + 0 ≤ _)⟩)
    dsimp only [Pt.U, Pt.locs, Pt.cells, Pt.slots] at X8 l8 y8 z8 st8 hQ8
    subst l8 y8 z8
    obtain ⟨rfl, N8q, e8⟩ := hQ8
    have N8 := Fr.app N6 N8q
    obtain ⟨cq9, kq9, q9a, q9b, q9c⟩ := isOf hZ e8 (GEE.ext O3.2)
    obtain ⟨_, _, ⟨T9, L9, k9, n9⟩, -, X9, ⟨Lc9, hQ9, l9, y9, z9⟩, st9⟩ := X8.virtualBack hx (y := MN_20) (z := MN_20) hown (mvT hZ (Wd hw 109 rfl)) (mvT hZ (Wd hw 110 rfl)) (notFace_of_selects (args := #[]) (mvT hZ (Wd hw 112 rfl))) (mvT hZ (Wd hw 112 rfl)) (mvT hZ (Wd hw 111 rfl)) (by decide) (backOf (W := 0) (rmIp l Z a0 hw [] cS aRS aEM aUS aSS (aEM) (T3.heap) n0 O3 GL (GFE.ext O3.2)) hZ (Wd hw 113 rfl) (Wd hw 49 rfl) (by decide) (by decide)) q9a q9c (g := (mkF m 104 #[.val (.int p0), .val (.int p1), .val (.int p2), .val (.int p3), .val (.int ((p3 &&& (2147483647 : Int32)) % (5 : Int32))), .val .null, .val (.ref b_3), .val .null, .val (.int 1), .val (.int 1), .unset] [(.ref aEM)])) rfl (by rw [hml]; rfl) (Steps.refl _) (argsL := []) (rest := []) (lenOf pdv17 rfl) rfl (by show 2 * 0 + _ ≤ _; exact Nat.le_of_eq rfl) (hb hby at_104) (fun _ _ => ⟨rfl, e8, (by decide : 1 + 0 ≤ _), (by decide : 8 + 0 ≤ _)⟩)
    dsimp only [Pt.U, Pt.locs, Pt.cells, Pt.slots] at X9 l9 y9 z9 st9 hQ9
    subst l9 y9 z9
    obtain ⟨rfl, N9q, e9⟩ := hQ9
    have N9 := Fr.app N8 N9q
    obtain ⟨fs, hr, hrun, hended, hRW⟩ := X9.leaveW hS0 (by rw [e9]; exact (Nat.le_trans (Nat.le_refl _) Kc3.1)) (v := some (.int 1)) (fun h => by rw [Bd.returns] at h; cases h)
    have hCR : CHr Z EL1 s.vm s.heap T9.vm T9.heap := by
      rw [hh, e9]
      exact R_4.trans (CHv.at X9 hZ (own_EW hw) H_4)
    refine ⟨_, _, pre1 _ ?_, hrun, hended, _, _, rfl, ?_, hCR, hRW.1, hRW.2.1, hRW.2.2.1, hRW.2.2.2.mono (by decide) (by decide)⟩
    · show Steps p.tables e below (s₁.setTop (mkF m 13 #[.val (.int p0), .val (.int p1), .val (.int p2), .val (.int p3), .val (.int ((p3 &&& (2147483647 : Int32)) % (5 : Int32))), .unset, .unset, .unset, .unset, .unset, .unset] [(.int p2), (.int p1), (.int p0), (.int ((p3 &&& (2147483647 : Int32)) % (5 : Int32)))])) _
      refine st2 _ ?_
      show Steps p.tables e below (T2.setTop (mkF m 16 #[.val (.int p0), .val (.int p1), .val (.int p2), .val (.int p3), .val (.int ((p3 &&& (2147483647 : Int32)) % (5 : Int32))), .unset, .unset, .unset, .unset, .unset, .unset] [.null])) _
      refine XS.astore X2.here hx rfl (hb hby at_16) rfl rfl (l' := #[.val (.int p0), .val (.int p1), .val (.int p2), .val (.int p3), .val (.int ((p3 &&& (2147483647 : Int32)) % (5 : Int32))), .val .null, .unset, .unset, .unset, .unset, .unset]) rfl ?_
      refine XS.aload X2.here hx rfl (hb hby at_18) rfl rfl ?_
      show Steps p.tables e below (T2.setTop (mkF m 20 #[.val (.int p0), .val (.int p1), .val (.int p2), .val (.int p3), .val (.int ((p3 &&& (2147483647 : Int32)) % (5 : Int32))), .val .null, .unset, .unset, .unset, .unset, .unset] [.null])) _
      refine st3 _ ?_
      show Steps p.tables e below (T3.setTop (mkF m 23 #[.val (.int p0), .val (.int p1), .val (.int p2), .val (.int p3), .val (.int ((p3 &&& (2147483647 : Int32)) % (5 : Int32))), .val .null, .unset, .unset, .unset, .unset, .unset] [(.ref b_3)])) _
      refine XS.astore X3.here hx rfl (hb hby at_23) rfl rfl (l' := #[.val (.int p0), .val (.int p1), .val (.int p2), .val (.int p3), .val (.int ((p3 &&& (2147483647 : Int32)) % (5 : Int32))), .val .null, .val (.ref b_3), .unset, .unset, .unset, .unset]) rfl ?_
      refine XS.aload X3.here hx rfl (hb hby at_25) rfl rfl ?_
      refine XS.ifnonnullYes X3.here hx rfl (pc0 := 27) (pc' := 32) rfl (hb hby at_27) rfl (by decide) (by decide) ?_
      refine XS.aload X3.here hx rfl (hb hby at_32) rfl rfl ?_
      show Steps p.tables e below (T3.setTop (mkF m 34 #[.val (.int p0), .val (.int p1), .val (.int p2), .val (.int p3), .val (.int ((p3 &&& (2147483647 : Int32)) % (5 : Int32))), .val .null, .val (.ref b_3), .unset, .unset, .unset, .unset] [(.ref b_3)])) _
      refine st5.trans ?_
      show Steps p.tables e below (T5.setTop (mkF m 37 #[.val (.int p0), .val (.int p1), .val (.int p2), .val (.int p3), .val (.int ((p3 &&& (2147483647 : Int32)) % (5 : Int32))), .val .null, .val (.ref b_3), .unset, .unset, .unset, .unset] [.null])) _
      refine XS.astore X5.here hx rfl (hb hby at_37) rfl rfl (l' := #[.val (.int p0), .val (.int p1), .val (.int p2), .val (.int p3), .val (.int ((p3 &&& (2147483647 : Int32)) % (5 : Int32))), .val .null, .val (.ref b_3), .val .null, .unset, .unset, .unset]) rfl ?_
      refine XS.aload X5.here hx rfl (hb hby at_39) rfl rfl ?_
      refine XS.ifnonnullNo X5.here hx rfl (hb hby at_41) rfl ?_
      refine XS.aload X5.here hx rfl (hb hby at_44) rfl rfl ?_
      show Steps p.tables e below (T5.setTop (mkF m 46 #[.val (.int p0), .val (.int p1), .val (.int p2), .val (.int p3), .val (.int ((p3 &&& (2147483647 : Int32)) % (5 : Int32))), .val .null, .val (.ref b_3), .val .null, .unset, .unset, .unset] [.null])) _
      refine XS.ifnonnullNo X5.here hx rfl (hb hby at_46) rfl ?_
      refine XS.iconst X5.here hx rfl (hb hby at_49) ?_
      refine XS.goto X5.here hx rfl (pc0 := 50) (pc' := 54) rfl (hb hby at_50) (by decide) (by decide) ?_
      refine XS.istore X5.here hx rfl (hb hby at_54) rfl (l' := #[.val (.int p0), .val (.int p1), .val (.int p2), .val (.int p3), .val (.int ((p3 &&& (2147483647 : Int32)) % (5 : Int32))), .val .null, .val (.ref b_3), .val .null, .val (.int 1), .unset, .unset]) rfl ?_
      show Steps p.tables e below (T5.setTop (mkF m 56 #[.val (.int p0), .val (.int p1), .val (.int p2), .val (.int p3), .val (.int ((p3 &&& (2147483647 : Int32)) % (5 : Int32))), .val .null, .val (.ref b_3), .val .null, .val (.int 1), .unset, .unset] [])) _
      refine XS.goto X5.here hx rfl (pc0 := 56) (pc' := 81) rfl (hb hby at_56) (by decide) (by decide) ?_
      refine XS.aload X5.here hx rfl (hb hby at_81) rfl rfl ?_
      show Steps p.tables e below (T5.setTop (mkF m 83 #[.val (.int p0), .val (.int p1), .val (.int p2), .val (.int p3), .val (.int ((p3 &&& (2147483647 : Int32)) % (5 : Int32))), .val .null, .val (.ref b_3), .val .null, .val (.int 1), .unset, .unset] [(.ref b_3)])) _
      refine st6.trans ?_
      show Steps p.tables e below (T6.setTop (mkF m 86 #[.val (.int p0), .val (.int p1), .val (.int p2), .val (.int p3), .val (.int ((p3 &&& (2147483647 : Int32)) % (5 : Int32))), .val .null, .val (.ref b_3), .val .null, .val (.int 1), .unset, .unset] [(.ref aRS)])) _
      refine st7 _ ?_
      show Steps p.tables e below (T7.setTop (mkF m 89 #[.val (.int p0), .val (.int p1), .val (.int p2), .val (.int p3), .val (.int ((p3 &&& (2147483647 : Int32)) % (5 : Int32))), .val .null, .val (.ref b_3), .val .null, .val (.int 1), .unset, .unset] [(.ref aRS), (.ref aRS)])) _
      refine Jvm.RoadKit.acmp (g := (mkF m 89 #[.val (.int p0), .val (.int p1), .val (.int p2), .val (.int p3), .val (.int ((p3 &&& (2147483647 : Int32)) % (5 : Int32))), .val .null, .val (.ref b_3), .val .null, .val (.int 1), .unset, .unset] [(.ref aRS), (.ref aRS)])) X7 hx rfl rfl rfl (pc0 := 89) (pc' := 92) (same := true) rfl (hb hby at_89) rfl (decide_eq_true rfl) (by decide) (by decide) ?_
      show Steps p.tables e below (T7.setTop (mkF m 92 #[.val (.int p0), .val (.int p1), .val (.int p2), .val (.int p3), .val (.int ((p3 &&& (2147483647 : Int32)) % (5 : Int32))), .val .null, .val (.ref b_3), .val .null, .val (.int 1), .unset, .unset] [])) _
      refine XS.iconst X7.here hx rfl (hb hby at_92) ?_
      refine XS.goto X7.here hx rfl (pc0 := 93) (pc' := 97) rfl (hb hby at_93) (by decide) (by decide) ?_
      refine XS.istore X7.here hx rfl (hb hby at_97) rfl (l' := #[.val (.int p0), .val (.int p1), .val (.int p2), .val (.int p3), .val (.int ((p3 &&& (2147483647 : Int32)) % (5 : Int32))), .val .null, .val (.ref b_3), .val .null, .val (.int 1), .val (.int 1), .unset]) rfl ?_
      refine XS.aload X7.here hx rfl (hb hby at_99) rfl rfl ?_
      show Steps p.tables e below (T7.setTop (mkF m 101 #[.val (.int p0), .val (.int p1), .val (.int p2), .val (.int p3), .val (.int ((p3 &&& (2147483647 : Int32)) % (5 : Int32))), .val .null, .val (.ref b_3), .val .null, .val (.int 1), .val (.int 1), .unset] [(.ref b_3)])) _
      refine st8.trans ?_
      show Steps p.tables e below (T8.setTop (mkF m 104 #[.val (.int p0), .val (.int p1), .val (.int p2), .val (.int p3), .val (.int ((p3 &&& (2147483647 : Int32)) % (5 : Int32))), .val .null, .val (.ref b_3), .val .null, .val (.int 1), .val (.int 1), .unset] [(.ref aEM)])) _
      refine st9.trans ?_
      show Steps p.tables e below (T9.setTop (mkF m 107 #[.val (.int p0), .val (.int p1), .val (.int p2), .val (.int p3), .val (.int ((p3 &&& (2147483647 : Int32)) % (5 : Int32))), .val .null, .val (.ref b_3), .val .null, .val (.int 1), .val (.int 1), .unset] [(.int 0)])) _
      refine XS.ifNo X9.here hx rfl (hb hby at_107) rfl ((if0 _ _).trans (teq (by decide : (0 : Int32) = (0 : Int32))).2) ?_
      refine XS.iconst X9.here hx rfl (hb hby at_110) ?_
      refine XS.goto X9.here hx rfl (pc0 := 111) (pc' := 115) rfl (hb hby at_111) (by decide) (by decide) ?_
      refine XS.istore X9.here hx rfl (hb hby at_115) rfl (l' := #[.val (.int p0), .val (.int p1), .val (.int p2), .val (.int p3), .val (.int ((p3 &&& (2147483647 : Int32)) % (5 : Int32))), .val .null, .val (.ref b_3), .val .null, .val (.int 1), .val (.int 1), .val (.int 1)]) rfl ?_
      show Steps p.tables e below (T9.setTop (mkF m 117 #[.val (.int p0), .val (.int p1), .val (.int p2), .val (.int p3), .val (.int ((p3 &&& (2147483647 : Int32)) % (5 : Int32))), .val .null, .val (.ref b_3), .val .null, .val (.int 1), .val (.int 1), .val (.int 1)] [])) _
      refine XS.iload X9.here hx rfl (hb hby at_117) rfl ?_
      refine XS.ifNo X9.here hx rfl (hb hby at_119) rfl ((if0 _ _).trans (feq (by decide : ¬ ((1 : Int32) = (0 : Int32)))).1) ?_
      refine XS.iload X9.here hx rfl (hb hby at_122) rfl ?_
      refine XS.ifNo X9.here hx rfl (hb hby at_124) rfl ((if0 _ _).trans (feq (by decide : ¬ ((1 : Int32) = (0 : Int32)))).1) ?_
      show Steps p.tables e below (T9.setTop (mkF m 127 #[.val (.int p0), .val (.int p1), .val (.int p2), .val (.int p3), .val (.int ((p3 &&& (2147483647 : Int32)) % (5 : Int32))), .val .null, .val (.ref b_3), .val .null, .val (.int 1), .val (.int 1), .val (.int 1)] [])) _
      refine XS.iload X9.here hx rfl (hb hby at_127) rfl ?_
      refine XS.ifNo X9.here hx rfl (hb hby at_129) rfl ((if0 _ _).trans (feq (by decide : ¬ ((1 : Int32) = (0 : Int32)))).1) ?_
      refine XS.iconst X9.here hx rfl (hb hby at_132) ?_
      refine XS.goto X9.here hx rfl (pc0 := 133) (pc' := 137) rfl (hb hby at_133) (by decide) (by decide) ?_
      show Steps p.tables e below (T9.setTop (mkF m 137 #[.val (.int p0), .val (.int p1), .val (.int p2), .val (.int p3), .val (.int ((p3 &&& (2147483647 : Int32)) % (5 : Int32))), .val .null, .val (.ref b_3), .val .null, .val (.int 1), .val (.int 1), .val (.int 1)] [(.int 1)])) _
      exact retN X9 hx (t := .boolean) Bd.returns (by simp) (hb hby at_137) hr
    · show Q_rm0 n0 _ T9.heap _
      rw [e9]
      exact ⟨rfl, N9⟩
  · obtain ⟨_, _, ⟨T10, L10, k10, n10⟩, -, X10', hS10', hg10, ⟨Lc10, hQ10, l10, y10, z10, Rs10⟩, st10⟩ := callSS X0w hx (y := MN_22) hown (mvT hZ (Wd hw 1 rfl)) (mvT hZ (Wd hw 2 rfl)) (mvT hZ (Wd hw 3 rfl)) (mvT hZ (Wd hw 4 rfl)) (by decide) (backOfSH (W := 0) (rmDr l Z a0 hw [] cS aRS aEM aUS aSS (((p3 &&& (2147483647 : Int32)) % (5 : Int32))) (p0) (p1) (p2) (h0) n0 O0 GL hk4) hZ (Wd hw 4 rfl) (Wd hw 3 rfl) (by decide) (by decide) (own_EW hw) H0) (g := (mkF m 13 #[.val (.int p0), .val (.int p1), .val (.int p2), .val (.int p3), .val (.int ((p3 &&& (2147483647 : Int32)) % (5 : Int32))), .unset, .unset, .unset, .unset, .unset, .unset] [(.int p2), (.int p1), (.int p0), (.int ((p3 &&& (2147483647 : Int32)) % (5 : Int32)))])) rfl (by rw [hml]; rfl) (argsL := [(.int ((p3 &&& (2147483647 : Int32)) % (5 : Int32))), (.int p0), (.int p1), (.int p2)]) (rest := []) (lenOf pdv13 rfl) rfl (by show 2 * 0 + _ ≤ _; exact Nat.le_of_eq rfl) (hb hby at_13) (fun _ _ => ⟨rfl, e0, (by decide : 0 + 6 ≤ _), (by decide : 0 + 16 ≤ _)⟩)
    dsimp only [Pt.U, Pt.locs, Pt.cells, Pt.slots] at X10' l10 y10 z10 st10 hQ10 hS10' hg10 Rs10
    subst l10 y10 z10
    obtain ⟨X10, hS10, hZ10, hown10⟩ := rebS hS0 (by rw [e0]; exact (Nat.le_refl _)) X10' hS10' hg10 hZ hown
    obtain ⟨b_10, rfl, N10q, Kc10, P10_0, P10_1⟩ := hQ10
    have O10 := O0.keep Kc10 all0
    have H_11 := Rs10.1
    have R_11 := R0.trans Rs10
    have g_b_10 : n0 ≤ b_10 := Nat.le_trans (own_sz O0) P10_0
    have N10 := Fr.app N0 N10q
    obtain ⟨_, _, ⟨T12, L12, k12, n12⟩, -, X12, ⟨Lc12, hQ12, l12, y12, z12⟩, st12⟩ := Jvm.LawKit.callS X10 hx (y := MN_16) hown10 (mvT hZ10 (Wd hw 35 rfl)) (mvT hZ10 (Wd hw 36 rfl)) (mvT hZ10 (Wd hw 37 rfl)) (mvT hZ10 (Wd hw 38 rfl)) (by decide) (backOf (W := 0) (rmMk l Z a0 hw [] cS aRS aEM aUS aSS (b_10) (T10.heap) n0 O10 GL) hZ10 (Wd hw 38 rfl) (Wd hw 37 rfl) (by decide) (by decide)) (g := (mkF m 20 #[.val (.int p0), .val (.int p1), .val (.int p2), .val (.int p3), .val (.int ((p3 &&& (2147483647 : Int32)) % (5 : Int32))), .val (.ref b_10), .unset, .unset, .unset, .unset, .unset] [(.ref b_10)])) rfl (by rw [hml]; rfl) (argsL := [(.ref b_10)]) (rest := []) (lenOf pdv14 rfl) rfl (by show 2 * 0 + _ ≤ _; exact Nat.le_of_eq rfl) (hb hby at_20) (fun _ _ => ⟨rfl, rfl, (by decide : 6 + 1 ≤ _), (by decide : 16 + 8 ≤ _)⟩)
    dsimp only [Pt.U, Pt.locs, Pt.cells, Pt.slots] at X12 l12 y12 z12 st12 hQ12
    subst l12 y12 z12
    obtain ⟨b_12, rfl, N12q, Kc12, P12_0, P12_1, P12_2, P12_3, P12_4⟩ := hQ12
    have O12 := O10.keep Kc12 all0
    have H_13 := H_11.keep Kc12 sf0
    have R_13 := R_11.trans (CHr.keep Kc12 sf0 H_11)
    have g_b_12 : n0 ≤ b_12 := Nat.le_trans (own_sz O10) P12_0
    have N12 := Fr.app N10 N12q
    obtain ⟨cq14, kq14, q14a, q14b, q14c⟩ := isOf hZ10 rfl P12_1
    obtain ⟨_, _, ⟨T14, L14, k14, n14⟩, -, X14, ⟨Lc14, hQ14, l14, y14, z14⟩, st14⟩ := X12.virtualBackUp hx (owner := "java/lang/Throwable") (x := MN_23) (y := MN_19) hown10 (mvT hZ10 (Wd hw 87 rfl)) (mvT hZ10 (Wd hw 88 rfl)) (mvT hZ10 (Wd hw 89 rfl)) (by decide) (mvT hZ10 (Wd hw 91 rfl)) (mvT hZ10 (Wd hw 90 rfl)) (backOf (W := 0) (rmGm l Z a0 hw [] cS aRS aEM aUS aSS (b_12) (b_10) (T12.heap) n0 O12 GL P12_2) hZ10 (Wd hw 92 rfl) (Wd hw 70 rfl) (by decide) (by decide)) q14a q14c (g := (mkF m 34 #[.val (.int p0), .val (.int p1), .val (.int p2), .val (.int p3), .val (.int ((p3 &&& (2147483647 : Int32)) % (5 : Int32))), .val (.ref b_10), .val (.ref b_12), .unset, .unset, .unset, .unset] [(.ref b_12)])) rfl (by rw [hml]; rfl) (Steps.refl _) (argsL := []) (rest := []) (lenOf pdv15 rfl) rfl (by show 2 * 0 + _ ≤ _; exact Nat.le_of_eq rfl) (hb hby at_34) (fun _ _ => ⟨rfl, rfl, (by decide : 7 + 0 ≤ _), (by decide : 24 + 0 ≤ _)⟩)
    dsimp only [Pt.U, Pt.locs, Pt.cells, Pt.slots] at X14 l14 y14 z14 st14 hQ14
    subst l14 y14 z14
    obtain ⟨rfl, N14q, e14⟩ := hQ14
    have N14 := Fr.app N12 N14q
    obtain ⟨cq15, kq15, q15a, q15b, q15c⟩ := isOf hZ10 e14 (P10_1.keep Kc12)
    obtain ⟨_, _, ⟨T15, L15, k15, n15⟩, -, X15, ⟨Lc15, hQ15, l15, y15, z15⟩, st15⟩ := X14.virtualBack hx (y := MN_21) (z := MN_21) hown10 (mvT hZ10 (Wd hw 93 rfl)) (mvT hZ10 (Wd hw 94 rfl)) (notFace_of_selects (args := #[]) (mvT hZ10 (Wd hw 96 rfl))) (mvT hZ10 (Wd hw 96 rfl)) (mvT hZ10 (Wd hw 95 rfl)) (by decide) (backOf (W := 0) (rmEq l Z a0 hw [] cS aRS aEM aUS aSS (b_10) (T12.heap) n0 O12 GL) hZ10 (Wd hw 97 rfl) (Wd hw 7 rfl) (by decide) (by decide)) q15a q15c (g := (mkF m 68 #[.val (.int p0), .val (.int p1), .val (.int p2), .val (.int p3), .val (.int ((p3 &&& (2147483647 : Int32)) % (5 : Int32))), .val (.ref b_10), .val (.ref b_12), .val (.ref b_10), .unset, .unset, .unset] [(.ref b_10), (.ref b_10)])) rfl (by rw [hml]; rfl) (Steps.refl _) (argsL := [(.ref b_10)]) (rest := []) (lenOf pdv18 rfl) rfl (by show 2 * 0 + _ ≤ _; exact Nat.le_of_eq rfl) (hb hby at_68) (fun _ _ => ⟨rfl, e14, (by decide : 7 + 0 ≤ _), (by decide : 24 + 0 ≤ _)⟩)
    dsimp only [Pt.U, Pt.locs, Pt.cells, Pt.slots] at X15 l15 y15 z15 st15 hQ15
    subst l15 y15 z15
    obtain ⟨rfl, N15q, e15⟩ := hQ15
    have N15 := Fr.app N14 N15q
    obtain ⟨cq16, kq16, q16a, q16b, q16c⟩ := isOf hZ10 e15 P12_1
    obtain ⟨_, _, ⟨T16, L16, k16, n16⟩, -, X16, ⟨Lc16, hQ16, l16, y16, z16⟩, st16⟩ := X15.virtualBack hx (y := MN_17) (z := MN_17) hown10 (mvT hZ10 (Wd hw 98 rfl)) (mvT hZ10 (Wd hw 99 rfl)) (notFace_of_selects (args := #[]) (mvT hZ10 (Wd hw 101 rfl))) (mvT hZ10 (Wd hw 101 rfl)) (mvT hZ10 (Wd hw 100 rfl)) (by decide) (backOf (W := 0) (rmGr l Z a0 hw [] cS aRS aEM aUS aSS (b_12) (aRS) (T12.heap) n0 O12 GL P12_3) hZ10 (Wd hw 102 rfl) (Wd hw 37 rfl) (by decide) (by decide)) q16a q16c (g := (mkF m 83 #[.val (.int p0), .val (.int p1), .val (.int p2), .val (.int p3), .val (.int ((p3 &&& (2147483647 : Int32)) % (5 : Int32))), .val (.ref b_10), .val (.ref b_12), .val (.ref b_10), .val (.int 1), .unset, .unset] [(.ref b_12)])) rfl (by rw [hml]; rfl) (Steps.refl _) (argsL := []) (rest := []) (lenOf pdv16 rfl) rfl (by show 2 * 0 + _ ≤ _; exact Nat.le_of_eq rfl) (hb hby at_83) (fun _ _ => ⟨rfl, e15, (by decide : 7 + 0 ≤ _), (by decide : 24 + 0 ≤ _)⟩)
    dsimp only [Pt.U, Pt.locs, Pt.cells, Pt.slots] at X16 l16 y16 z16 st16 hQ16
    subst l16 y16 z16
    obtain ⟨rfl, N16q, e16⟩ := hQ16
    have N16 := Fr.app N15 N16q
    obtain ⟨T17, X17, e17, st17⟩ := getS2 X16 hx hZ10 hown10 (host := "") (Or.inl (Wd hw 103 rfl)) Via.refl e16 (GSR.ext O12.2) (g := (mkF m 86 #[.val (.int p0), .val (.int p1), .val (.int p2), .val (.int p3), .val (.int ((p3 &&& (2147483647 : Int32)) % (5 : Int32))), .val (.ref b_10), .val (.ref b_12), .val (.ref b_10), .val (.int 1), .unset, .unset] [(.ref aRS)])) rfl (hb hby at_86)
    obtain ⟨cq18, kq18, q18a, q18b, q18c⟩ := isOf hZ10 e17 P12_1
    obtain ⟨_, _, ⟨T18, L18, k18, n18⟩, -, X18, ⟨Lc18, hQ18, l18, y18, z18⟩, st18⟩ := X17.virtualBack hx (y := MN_18) (z := MN_18) hown10 (mvT hZ10 (Wd hw 104 rfl)) (mvT hZ10 (Wd hw 105 rfl)) (notFace_of_selects (args := #[]) (mvT hZ10 (Wd hw 107 rfl))) (mvT hZ10 (Wd hw 107 rfl)) (mvT hZ10 (Wd hw 106 rfl)) (by decide) (backOf (W := 0) (rmGp l Z a0 hw [] cS aRS aEM aUS aSS (b_12) (aEM) (T12.heap) n0 O12 GL P12_4) hZ10 (Wd hw 108 rfl) (Wd hw 37 rfl) (by decide) (by decide)) q18a q18c (g := (mkF m 101 #[.val (.int p0), .val (.int p1), .val (.int p2), .val (.int p3), .val (.int ((p3 &&& (2147483647 : Int32)) % (5 : Int32))), .val (.ref b_10), .val (.ref b_12), .val (.ref b_10), .val (.int 1), .val (.int 1), .unset] [(.ref b_12)])) rfl (by rw [hml]; rfl) (Steps.refl _) (argsL := []) (rest := []) (lenOf pdv9 rfl) rfl (by show 2 * 0 + _ ≤ _; exact Nat.le_of_eq rfl) (hb hby at_101) (fun _ _ => ⟨rfl, e17, (by decide : 7 + 0 ≤ _), (by decide : 24 + 0 ≤ _)⟩)
    dsimp only [Pt.U, Pt.locs, Pt.cells, Pt.slots] at X18 l18 y18 z18 st18 hQ18
    subst l18 y18 z18
    obtain ⟨rfl, N18q, e18⟩ := hQ18
    have N18 := Fr.app N16 N18q
    obtain ⟨cq19, kq19, q19a, q19b, q19c⟩ := isOf hZ10 e18 (GEE.ext O12.2)
    obtain ⟨_, _, ⟨T19, L19, k19, n19⟩, -, X19, ⟨Lc19, hQ19, l19, y19, z19⟩, st19⟩ := X18.virtualBack hx (y := MN_20) (z := MN_20) hown10 (mvT hZ10 (Wd hw 109 rfl)) (mvT hZ10 (Wd hw 110 rfl)) (notFace_of_selects (args := #[]) (mvT hZ10 (Wd hw 112 rfl))) (mvT hZ10 (Wd hw 112 rfl)) (mvT hZ10 (Wd hw 111 rfl)) (by decide) (backOf (W := 0) (rmIp l Z a0 hw [] cS aRS aEM aUS aSS (aEM) (T12.heap) n0 O12 GL (GFE.ext O12.2)) hZ10 (Wd hw 113 rfl) (Wd hw 49 rfl) (by decide) (by decide)) q19a q19c (g := (mkF m 104 #[.val (.int p0), .val (.int p1), .val (.int p2), .val (.int p3), .val (.int ((p3 &&& (2147483647 : Int32)) % (5 : Int32))), .val (.ref b_10), .val (.ref b_12), .val (.ref b_10), .val (.int 1), .val (.int 1), .unset] [(.ref aEM)])) rfl (by rw [hml]; rfl) (Steps.refl _) (argsL := []) (rest := []) (lenOf pdv17 rfl) rfl (by show 2 * 0 + _ ≤ _; exact Nat.le_of_eq rfl) (hb hby at_104) (fun _ _ => ⟨rfl, e18, (by decide : 7 + 0 ≤ _), (by decide : 24 + 0 ≤ _)⟩)
    dsimp only [Pt.U, Pt.locs, Pt.cells, Pt.slots] at X19 l19 y19 z19 st19 hQ19
    subst l19 y19 z19
    obtain ⟨rfl, N19q, e19⟩ := hQ19
    have N19 := Fr.app N18 N19q
    obtain ⟨fs, hr, hrun, hended, hRW⟩ := X19.leaveW hS10 (by rw [e19]; exact (Nat.le_trans (Nat.le_refl _) Kc12.1)) (v := some (.int 1)) (fun h => by rw [Bd.returns] at h; cases h)
    have hCR : CHr Z EL1 s.vm s.heap T19.vm T19.heap := by
      rw [hh, e19]
      exact R_13.trans (CHv.at X19 hZ10 (own_EW hw) H_13)
    refine ⟨_, _, pre1 _ ?_, hrun, hended, _, _, rfl, ?_, hCR, hRW.1, hRW.2.1, hRW.2.2.1, hRW.2.2.2.mono (by decide) (by decide)⟩
    · show Steps p.tables e below (s₁.setTop (mkF m 13 #[.val (.int p0), .val (.int p1), .val (.int p2), .val (.int p3), .val (.int ((p3 &&& (2147483647 : Int32)) % (5 : Int32))), .unset, .unset, .unset, .unset, .unset, .unset] [(.int p2), (.int p1), (.int p0), (.int ((p3 &&& (2147483647 : Int32)) % (5 : Int32)))])) _
      refine st10.trans ?_
      show Steps p.tables e below (T10.setTop (mkF m 16 #[.val (.int p0), .val (.int p1), .val (.int p2), .val (.int p3), .val (.int ((p3 &&& (2147483647 : Int32)) % (5 : Int32))), .unset, .unset, .unset, .unset, .unset, .unset] [(.ref b_10)])) _
      refine XS.astore X10.here hx rfl (hb hby at_16) rfl rfl (l' := #[.val (.int p0), .val (.int p1), .val (.int p2), .val (.int p3), .val (.int ((p3 &&& (2147483647 : Int32)) % (5 : Int32))), .val (.ref b_10), .unset, .unset, .unset, .unset, .unset]) rfl ?_
      refine XS.aload X10.here hx rfl (hb hby at_18) rfl rfl ?_
      show Steps p.tables e below (T10.setTop (mkF m 20 #[.val (.int p0), .val (.int p1), .val (.int p2), .val (.int p3), .val (.int ((p3 &&& (2147483647 : Int32)) % (5 : Int32))), .val (.ref b_10), .unset, .unset, .unset, .unset, .unset] [(.ref b_10)])) _
      refine st12 _ ?_
      show Steps p.tables e below (T12.setTop (mkF m 23 #[.val (.int p0), .val (.int p1), .val (.int p2), .val (.int p3), .val (.int ((p3 &&& (2147483647 : Int32)) % (5 : Int32))), .val (.ref b_10), .unset, .unset, .unset, .unset, .unset] [(.ref b_12)])) _
      refine XS.astore X12.here hx rfl (hb hby at_23) rfl rfl (l' := #[.val (.int p0), .val (.int p1), .val (.int p2), .val (.int p3), .val (.int ((p3 &&& (2147483647 : Int32)) % (5 : Int32))), .val (.ref b_10), .val (.ref b_12), .unset, .unset, .unset, .unset]) rfl ?_
      refine XS.aload X12.here hx rfl (hb hby at_25) rfl rfl ?_
      refine XS.ifnonnullYes X12.here hx rfl (pc0 := 27) (pc' := 32) rfl (hb hby at_27) rfl (by decide) (by decide) ?_
      refine XS.aload X12.here hx rfl (hb hby at_32) rfl rfl ?_
      show Steps p.tables e below (T12.setTop (mkF m 34 #[.val (.int p0), .val (.int p1), .val (.int p2), .val (.int p3), .val (.int ((p3 &&& (2147483647 : Int32)) % (5 : Int32))), .val (.ref b_10), .val (.ref b_12), .unset, .unset, .unset, .unset] [(.ref b_12)])) _
      refine st14.trans ?_
      show Steps p.tables e below (T14.setTop (mkF m 37 #[.val (.int p0), .val (.int p1), .val (.int p2), .val (.int p3), .val (.int ((p3 &&& (2147483647 : Int32)) % (5 : Int32))), .val (.ref b_10), .val (.ref b_12), .unset, .unset, .unset, .unset] [(.ref b_10)])) _
      refine XS.astore X14.here hx rfl (hb hby at_37) rfl rfl (l' := #[.val (.int p0), .val (.int p1), .val (.int p2), .val (.int p3), .val (.int ((p3 &&& (2147483647 : Int32)) % (5 : Int32))), .val (.ref b_10), .val (.ref b_12), .val (.ref b_10), .unset, .unset, .unset]) rfl ?_
      refine XS.aload X14.here hx rfl (hb hby at_39) rfl rfl ?_
      refine XS.ifnonnullYes X14.here hx rfl (pc0 := 41) (pc' := 59) rfl (hb hby at_41) rfl (by decide) (by decide) ?_
      refine XS.aload X14.here hx rfl (hb hby at_59) rfl rfl ?_
      show Steps p.tables e below (T14.setTop (mkF m 61 #[.val (.int p0), .val (.int p1), .val (.int p2), .val (.int p3), .val (.int ((p3 &&& (2147483647 : Int32)) % (5 : Int32))), .val (.ref b_10), .val (.ref b_12), .val (.ref b_10), .unset, .unset, .unset] [(.ref b_10)])) _
      refine XS.ifnullNo X14.here hx rfl (hb hby at_61) rfl ?_
      refine XS.aload X14.here hx rfl (hb hby at_64) rfl rfl ?_
      refine XS.aload X14.here hx rfl (hb hby at_66) rfl rfl ?_
      show Steps p.tables e below (T14.setTop (mkF m 68 #[.val (.int p0), .val (.int p1), .val (.int p2), .val (.int p3), .val (.int ((p3 &&& (2147483647 : Int32)) % (5 : Int32))), .val (.ref b_10), .val (.ref b_12), .val (.ref b_10), .unset, .unset, .unset] [(.ref b_10), (.ref b_10)])) _
      refine st15.trans ?_
      show Steps p.tables e below (T15.setTop (mkF m 71 #[.val (.int p0), .val (.int p1), .val (.int p2), .val (.int p3), .val (.int ((p3 &&& (2147483647 : Int32)) % (5 : Int32))), .val (.ref b_10), .val (.ref b_12), .val (.ref b_10), .unset, .unset, .unset] [(.int 1)])) _
      refine XS.ifNo X15.here hx rfl (hb hby at_71) rfl ((if0 _ _).trans (feq (by decide : ¬ ((1 : Int32) = (0 : Int32)))).1) ?_
      refine XS.iconst X15.here hx rfl (hb hby at_74) ?_
      refine XS.goto X15.here hx rfl (pc0 := 75) (pc' := 79) rfl (hb hby at_75) (by decide) (by decide) ?_
      refine XS.istore X15.here hx rfl (hb hby at_79) rfl (l' := #[.val (.int p0), .val (.int p1), .val (.int p2), .val (.int p3), .val (.int ((p3 &&& (2147483647 : Int32)) % (5 : Int32))), .val (.ref b_10), .val (.ref b_12), .val (.ref b_10), .val (.int 1), .unset, .unset]) rfl ?_
      show Steps p.tables e below (T15.setTop (mkF m 81 #[.val (.int p0), .val (.int p1), .val (.int p2), .val (.int p3), .val (.int ((p3 &&& (2147483647 : Int32)) % (5 : Int32))), .val (.ref b_10), .val (.ref b_12), .val (.ref b_10), .val (.int 1), .unset, .unset] [])) _
      refine XS.aload X15.here hx rfl (hb hby at_81) rfl rfl ?_
      show Steps p.tables e below (T15.setTop (mkF m 83 #[.val (.int p0), .val (.int p1), .val (.int p2), .val (.int p3), .val (.int ((p3 &&& (2147483647 : Int32)) % (5 : Int32))), .val (.ref b_10), .val (.ref b_12), .val (.ref b_10), .val (.int 1), .unset, .unset] [(.ref b_12)])) _
      refine st16.trans ?_
      show Steps p.tables e below (T16.setTop (mkF m 86 #[.val (.int p0), .val (.int p1), .val (.int p2), .val (.int p3), .val (.int ((p3 &&& (2147483647 : Int32)) % (5 : Int32))), .val (.ref b_10), .val (.ref b_12), .val (.ref b_10), .val (.int 1), .unset, .unset] [(.ref aRS)])) _
      refine st17 _ ?_
      show Steps p.tables e below (T17.setTop (mkF m 89 #[.val (.int p0), .val (.int p1), .val (.int p2), .val (.int p3), .val (.int ((p3 &&& (2147483647 : Int32)) % (5 : Int32))), .val (.ref b_10), .val (.ref b_12), .val (.ref b_10), .val (.int 1), .unset, .unset] [(.ref aRS), (.ref aRS)])) _
      refine Jvm.RoadKit.acmp (g := (mkF m 89 #[.val (.int p0), .val (.int p1), .val (.int p2), .val (.int p3), .val (.int ((p3 &&& (2147483647 : Int32)) % (5 : Int32))), .val (.ref b_10), .val (.ref b_12), .val (.ref b_10), .val (.int 1), .unset, .unset] [(.ref aRS), (.ref aRS)])) X17 hx rfl rfl rfl (pc0 := 89) (pc' := 92) (same := true) rfl (hb hby at_89) rfl (decide_eq_true rfl) (by decide) (by decide) ?_
      show Steps p.tables e below (T17.setTop (mkF m 92 #[.val (.int p0), .val (.int p1), .val (.int p2), .val (.int p3), .val (.int ((p3 &&& (2147483647 : Int32)) % (5 : Int32))), .val (.ref b_10), .val (.ref b_12), .val (.ref b_10), .val (.int 1), .unset, .unset] [])) _
      refine XS.iconst X17.here hx rfl (hb hby at_92) ?_
      refine XS.goto X17.here hx rfl (pc0 := 93) (pc' := 97) rfl (hb hby at_93) (by decide) (by decide) ?_
      refine XS.istore X17.here hx rfl (hb hby at_97) rfl (l' := #[.val (.int p0), .val (.int p1), .val (.int p2), .val (.int p3), .val (.int ((p3 &&& (2147483647 : Int32)) % (5 : Int32))), .val (.ref b_10), .val (.ref b_12), .val (.ref b_10), .val (.int 1), .val (.int 1), .unset]) rfl ?_
      refine XS.aload X17.here hx rfl (hb hby at_99) rfl rfl ?_
      show Steps p.tables e below (T17.setTop (mkF m 101 #[.val (.int p0), .val (.int p1), .val (.int p2), .val (.int p3), .val (.int ((p3 &&& (2147483647 : Int32)) % (5 : Int32))), .val (.ref b_10), .val (.ref b_12), .val (.ref b_10), .val (.int 1), .val (.int 1), .unset] [(.ref b_12)])) _
      refine st18.trans ?_
      show Steps p.tables e below (T18.setTop (mkF m 104 #[.val (.int p0), .val (.int p1), .val (.int p2), .val (.int p3), .val (.int ((p3 &&& (2147483647 : Int32)) % (5 : Int32))), .val (.ref b_10), .val (.ref b_12), .val (.ref b_10), .val (.int 1), .val (.int 1), .unset] [(.ref aEM)])) _
      refine st19.trans ?_
      show Steps p.tables e below (T19.setTop (mkF m 107 #[.val (.int p0), .val (.int p1), .val (.int p2), .val (.int p3), .val (.int ((p3 &&& (2147483647 : Int32)) % (5 : Int32))), .val (.ref b_10), .val (.ref b_12), .val (.ref b_10), .val (.int 1), .val (.int 1), .unset] [(.int 0)])) _
      refine XS.ifNo X19.here hx rfl (hb hby at_107) rfl ((if0 _ _).trans (teq (by decide : (0 : Int32) = (0 : Int32))).2) ?_
      refine XS.iconst X19.here hx rfl (hb hby at_110) ?_
      refine XS.goto X19.here hx rfl (pc0 := 111) (pc' := 115) rfl (hb hby at_111) (by decide) (by decide) ?_
      refine XS.istore X19.here hx rfl (hb hby at_115) rfl (l' := #[.val (.int p0), .val (.int p1), .val (.int p2), .val (.int p3), .val (.int ((p3 &&& (2147483647 : Int32)) % (5 : Int32))), .val (.ref b_10), .val (.ref b_12), .val (.ref b_10), .val (.int 1), .val (.int 1), .val (.int 1)]) rfl ?_
      show Steps p.tables e below (T19.setTop (mkF m 117 #[.val (.int p0), .val (.int p1), .val (.int p2), .val (.int p3), .val (.int ((p3 &&& (2147483647 : Int32)) % (5 : Int32))), .val (.ref b_10), .val (.ref b_12), .val (.ref b_10), .val (.int 1), .val (.int 1), .val (.int 1)] [])) _
      refine XS.iload X19.here hx rfl (hb hby at_117) rfl ?_
      refine XS.ifNo X19.here hx rfl (hb hby at_119) rfl ((if0 _ _).trans (feq (by decide : ¬ ((1 : Int32) = (0 : Int32)))).1) ?_
      refine XS.iload X19.here hx rfl (hb hby at_122) rfl ?_
      refine XS.ifNo X19.here hx rfl (hb hby at_124) rfl ((if0 _ _).trans (feq (by decide : ¬ ((1 : Int32) = (0 : Int32)))).1) ?_
      show Steps p.tables e below (T19.setTop (mkF m 127 #[.val (.int p0), .val (.int p1), .val (.int p2), .val (.int p3), .val (.int ((p3 &&& (2147483647 : Int32)) % (5 : Int32))), .val (.ref b_10), .val (.ref b_12), .val (.ref b_10), .val (.int 1), .val (.int 1), .val (.int 1)] [])) _
      refine XS.iload X19.here hx rfl (hb hby at_127) rfl ?_
      refine XS.ifNo X19.here hx rfl (hb hby at_129) rfl ((if0 _ _).trans (feq (by decide : ¬ ((1 : Int32) = (0 : Int32)))).1) ?_
      refine XS.iconst X19.here hx rfl (hb hby at_132) ?_
      refine XS.goto X19.here hx rfl (pc0 := 133) (pc' := 137) rfl (hb hby at_133) (by decide) (by decide) ?_
      show Steps p.tables e below (T19.setTop (mkF m 137 #[.val (.int p0), .val (.int p1), .val (.int p2), .val (.int p3), .val (.int ((p3 &&& (2147483647 : Int32)) % (5 : Int32))), .val (.ref b_10), .val (.ref b_12), .val (.ref b_10), .val (.int 1), .val (.int 1), .val (.int 1)] [(.int 1)])) _
      exact retN X19 hx (t := .boolean) Bd.returns (by simp) (hb hby at_137) hr
    · show Q_rm0 n0 _ T19.heap _
      rw [e19]
      exact ⟨rfl, N19⟩
set_option maxRecDepth 65536 in
set_option maxHeartbeats 40000000 in
theorem comes_1 {Post : Tables → Env → Array Value → State → Outcome → State → Prop} (hpost : ∀ tb e args s v u, (limb_1_1.after args s (.returned v) u = true ∧ limb_1_2.after args s (.returned v) u = true ∧ True) → ReturnedEndW s (.returned v) u (Jvm.fieldLocs frame_1_writes args s ++ Jvm.arrayLocs frame_1_arrays args s ++ Jvm.staticLocs frame_1_statics s) 24 1152 → Post tb e args s (.returned v) u) :
    ArmFor flags0 classFile x code maxLocals ret World_1 tables_1 room_1 Calls_1 rest_1 Pre_1 Post := by
  intro l hfl _ _ p e ha hc hk s m args below hf hA hF happ hP
  obtain ⟨hcalls, hrest, hpre⟩ := hP
  obtain ⟨-, -, -, hnamed, -, -, -, hat⟩ := (Spec.applies_iff hf).mp happ
  obtain ⟨hg, hn⟩ := and_e (Cond.before_iff.mp (show (Jvm.Cond.and given_1 narrow_1).before args s = true from hpre))
  obtain ⟨gv_l0, gv_r0⟩ := and_e hg
  obtain ⟨gv_l2, gv_r2⟩ := and_e gv_r0
  obtain ⟨gv_l4, gv_r4⟩ := and_e gv_r2
  obtain ⟨gv_l6, gv_r6⟩ := and_e gv_r4
  obtain ⟨w0, w1, w2, w3, rfl⟩ : ∃ w0 w1 w2 w3 : Value, args = #[w0, w1, w2, w3] := by
    have hs : args.size = 4 := by simpa [Cond.value, given_1] using gv_l0
    obtain ⟨L⟩ := args
    match L, hs with
    | [w0, w1, w2, w3], _ => exact ⟨w0, w1, w2, w3, rfl⟩
  have hw := fun d (hd : d ∈ tables_1) => atoms_spec (ws := Jvm.Cond.code x code maxLocals ret :: tables_1) hat d (List.mem_cons_of_mem _ hd)
  have hfit : Fit s := fun {y c} hc i hi => by
    obtain ⟨ha, rfl⟩ := Array.getElem?_eq_some_iff.mp hc
    have q := List.all_eq_true.mp ((Array.all_eq_true_iff_forall_mem.mp hF) _ (Array.getElem_mem ha)) i (List.mem_range.mpr hi)
    simpa [Array.getElem?_eq_getElem hi] using q
  obtain ⟨hsets, hown0⟩ := atoms_of _ (rest_1_c_eq ▸ (show rest_1_c.before _ s = true from hrest))
  have hr0 := Cond.before_iff.mp hown0
  obtain ⟨i0, ei0⟩ := is_v gv_l2
  obtain rfl : w0 = (.int i0) := Option.some.inj ei0
  obtain ⟨i1, ei1⟩ := is_v gv_l4
  obtain rfl : w1 = (.int i1) := Option.some.inj ei1
  obtain ⟨i2, ei2⟩ := is_v gv_l6
  obtain rfl : w2 = (.int i2) := Option.some.inj ei2
  obtain ⟨i3, ei3⟩ := is_v gv_r6
  obtain rfl : w3 = (.int i3) := Option.some.inj ei3
  obtain ⟨cS, eCS⟩ := is_v (Cond.before_iff.mp (hsets _ (List.mem_of_getElem? (i := 1) rfl)))
  have SCS := Sta.start eCS (Or.inl (hsets _ (List.mem_of_getElem? (i := 0) rfl)))
  have PCS : ¬ (cS = (0 : Int32)) := gotF (Cond.eq_ints eCS (Term.int_eval (0 : Int32))) (not_v (Cond.before_iff.mp (hsets _ (List.mem_of_getElem? (i := 2) rfl))))
  obtain ⟨aRS, vRS⟩ := exa_v hn
  obtain ⟨aEM, vEM⟩ := exa_v (Cond.before_iff.mp (hsets _ (List.mem_of_getElem? (i := 11) rfl)))
  obtain ⟨aUS, vUS⟩ := arr_v (Cond.before_iff.mp (hsets _ (List.mem_of_getElem? (i := 22) rfl)))
  obtain ⟨aSS, vSS⟩ := exa_v (Cond.before_iff.mp (hsets _ (List.mem_of_getElem? (i := 27) rfl)))
  have GL : GF s cS aRS aEM aUS aSS := ⟨SCS, PCS, Sta.start vRS (Or.inr ⟨(Wd hw 42 rfl), (Wd hw 43 rfl)⟩), Sta.start vEM (Or.inl (hsets _ (List.mem_of_getElem? (i := 10) rfl))), Exa.start vEM (Cond.before_iff.mp (hsets _ (List.mem_of_getElem? (i := 11) rfl))), Fld.start (own_fi vEM (Cond.before_iff.mp (hsets _ (List.mem_of_getElem? (i := 12) rfl)))), Sta.start vUS (Or.inl (hsets _ (List.mem_of_getElem? (i := 20) rfl))), Sta.start vSS (Or.inl (hsets _ (List.mem_of_getElem? (i := 25) rfl))), Sta.start (Cond.eq_int (beq_iff_eq.mpr (Cond.before_iff.mp (hsets _ (List.mem_of_getElem? (i := 37) rfl)))) (Term.int_eval (1 : Int32))) (Or.inl (hsets _ (List.mem_of_getElem? (i := 36) rfl))), Sta.start (Cond.eq_int (beq_iff_eq.mpr (Cond.before_iff.mp (hsets _ (List.mem_of_getElem? (i := 40) rfl)))) (Term.int_eval (0 : Int32))) (Or.inl (hsets _ (List.mem_of_getElem? (i := 39) rfl))), Sta.start (Cond.eq_int (beq_iff_eq.mpr (Cond.before_iff.mp (hsets _ (List.mem_of_getElem? (i := 43) rfl)))) (Term.int_eval (8 : Int32))) (Or.inl (hsets _ (List.mem_of_getElem? (i := 42) rfl)))⟩
  have H0 : CHv s EL1 s.vm s.heap := CHv.start (own_EW hw) hcalls.1 (hsets _ (List.mem_of_getElem? (i := 2) rfl)) (Wd hw 24 rfl) (Wd hw 6 rfl)
  obtain ⟨n, o, h1, h2, h3, _, L, rfl, ⟨rfl, N⟩, -, hq⟩ := rm0 l s _ hw tables_1 cS aRS aEM aUS aSS i0 i1 i2 i3 s.heap s.heap.size (Old.start s) GL p e ha hc hk s m _ below hf ((Spec.applies_iff_loose hf).mp happ).1 ⟨rfl, State.Warmed39.refl s, rfl, H0⟩ trivial
  refine ⟨n, _, h1, h2, h3, hpost _ _ _ _ _ _ ⟨Cond.after_iff.mpr rfl, Cond.after_iff.mpr (eq_i res_at (Term.int_eval (1)) rfl), trivial⟩ ⟨hq.1, hq.2.1, hq.2.2.1, (hq.2.2.2.sift fun y hy => Or.inr (N y hy)).mono (by decide) (by decide)⟩⟩
theorem main_1_1 : Claimed_1_1 := comes_1 fun _ _ _ _ _ _ h hF => ⟨h.1, hF⟩
theorem main_1_2 : Claimed_1_2 := comes_1 fun _ _ _ _ _ _ h hF => ⟨h.2.1, hF⟩
end Jvm.Pilot.@@N@@
namespace Jvm.Pilot.@@N@@
open Jvm Jvm.ClassFile Sem Op Lib Jvm.Free Jvm.Stand Jvm.Pilot.@@N@@.Jvm.D
/-! MADE BY PROGRAM (witnessworld.py) out of the Statement's table words and the real class files: 38 classes; the members and pool entries that the words name. The judged class is class 1, her method 2. -/
namespace start1
open Jvm.ClassFile
def u (s : String) : CpInfo := .utf8 (stringToUtf16 s)
/-- a pool by its gaps: so many unusable entries, then the entry; so many at the end -/
def gap : Nat → List CpInfo → List CpInfo
  | 0, r => r
  | n + 1, r => .unusable :: gap n r
def poolList (es : List (Nat × CpInfo)) (last : Nat) : List CpInfo := es.foldr (fun e r => gap e.1 (e.2 :: r)) (gap last [])
def pool (es : List (Nat × CpInfo)) (last : Nat) : Array CpInfo := ⟨poolList es last⟩
def fileOf (pool : Array CpInfo) (this : Nat) (attrs : Array Attribute := #[]) (ms : Array MethodInfo := #[]) (fl : Nat := 33) (sup : Nat := 0) (ifs : Array Nat := #[]) (fds : Array FieldInfo := #[]) : ClassFile where
  minorVersion := 0
  majorVersion := 65
  constantPool := pool
  accessFlags := fl
  thisClass := this
  superClass := sup
  interfaces := ifs
  fields := fds
  methods := ms
  attributes := attrs
def plain (name : String) (sup : Option ClassId) : Class where
  name := name
  kind := .ordinary
  loader := none
  accessFlags := 33
  super := sup
  interfaces := #[]
  cf := none
  fields := #[]
  methods := #[]
  instanceTypes := #[]
  staticTypes := #[]
  resolved := #[]
  callSites := []
  init := .initialized
  statics := none
  mirror := none

def pool0 : Array CpInfo := pool [(5, u "<init>"), (0, u "()V"), (1, .class_ 10), (1, u "java/lang/Object")] 113

def k0c0 : Code := { maxStack := 0, maxLocals := 1, code := object_method_1_code, exceptionTable := #[], attributes := #[] }
def k0m0 : Method := { name := "<init>", desc := "()V", sig := { parameters := [], returnType := none }, accessFlags := 1, code := some k0c0 }
/-- java/lang/Object -/
def k0 : Class := { plain "java/lang/Object" none with
  accessFlags := 33
  interfaces := #[]
  cf := some (fileOf pool0 8 #[] #[{ accessFlags := 1, nameIndex := 5, descriptorIndex := 6, attributes := #[] }] 33 0 #[] #[])
  fields := #[]
  methods := #[k0m0]
  instanceTypes := #[]
  staticTypes := #[]
  resolved := Array.replicate 124 none
  statics := none }

def pool1 : Array CpInfo := pool [(2, .class_ 4), (1, u "java/lang/Object"), (0, u "<init>"), (0, u "()V"), (0, .class_ 8), (0, u "java/lang/String"), (0, .methodref 7 10), (0, .nameAndType 5 11), (0, u "([C)V"), (0, .integer 2147483647), (0, .methodref 14 15), (0, .class_ 16), (0, .nameAndType 17 18), (0, u "com/example/metaloom/metaloom/store/RejectionInvalidPinLaw"), (0, u "draw"), (0, u "(IIII)Ljava/lang/String;"), (0, .methodref 20 21), (0, .class_ 22), (0, .nameAndType 23 24), (0, u "com/example/metaloom/metaloom/store/Rejection"), (0, u "invalid"), (0, u "(Ljava/lang/String;)Lcom/example/metaloom/metaloom/store/Rejection;"), (0, .methodref 20 26), (0, .nameAndType 27 28), (0, u "getMessage"), (0, u "()Ljava/lang/String;"), (0, .methodref 7 30), (0, .nameAndType 31 32), (0, u "equals"), (0, u "(Ljava/lang/Object;)Z"), (0, .methodref 20 34), (0, .nameAndType 35 36), (0, u "reason"), (0, u "()Lcom/example/metaloom/metaloom/store/Rejection$Reason;"), (0, .fieldref 38 39), (0, .class_ 40), (0, .nameAndType 41 42), (0, u "com/example/metaloom/metaloom/store/Rejection$Reason"), (0, u "INVALID"), (0, u "Lcom/example/metaloom/metaloom/store/Rejection$Reason;"), (0, .methodref 20 44), (0, .nameAndType 45 46), (0, u "position"), (0, u "()Ljava/util/OptionalInt;"), (0, .methodref 48 49), (0, .class_ 50), (0, .nameAndType 51 52), (0, u "java/util/OptionalInt"), (0, u "isPresent"), (0, u "()Z"), (3, u "law"), (0, u "(IIII)Z")] 4

def k1m0 : Method := { name := "<init>", desc := "()V", sig := { parameters := [], returnType := none }, accessFlags := 1, code := none }
def k1c1 : Code := { maxStack := 6, maxLocals := 7, code := method_2_code, exceptionTable := #[], attributes := #[] }
def k1m1 : Method := { name := "draw", desc := "(IIII)Ljava/lang/String;", sig := { parameters := [.int, .int, .int, .int], returnType := some (.object "java/lang/String") }, accessFlags := 10, code := some k1c1 }
def k1c2 : Code := { maxStack := 4, maxLocals := 11, code := code, exceptionTable := #[], attributes := #[] }
def k1m2 : Method := { name := "law", desc := "(IIII)Z", sig := { parameters := [.int, .int, .int, .int], returnType := some .boolean }, accessFlags := 9, code := some k1c2 }
/-- com/example/metaloom/metaloom/store/RejectionInvalidPinLaw -/
def k1 : Class := { plain "com/example/metaloom/metaloom/store/RejectionInvalidPinLaw" (some 0) with
  accessFlags := 49
  interfaces := #[]
  cf := some (fileOf pool1 14 #[] #[{ accessFlags := 1, nameIndex := 5, descriptorIndex := 6, attributes := #[] }, { accessFlags := 10, nameIndex := 17, descriptorIndex := 18, attributes := #[] }, { accessFlags := 9, nameIndex := 56, descriptorIndex := 57, attributes := #[] }] 49 2 #[] #[])
  fields := #[]
  methods := #[k1m0, k1m1, k1m2]
  instanceTypes := #[]
  staticTypes := #[]
  resolved := Array.replicate 62 none
  statics := none }

def pool2 : Array CpInfo := pool [(1, .class_ 2), (0, u "java/io/Serializable"), (0, .class_ 4), (0, u "java/lang/Object")] 2

/-- java/io/Serializable -/
def k2 : Class := { plain "java/io/Serializable" (some 0) with
  accessFlags := 1537
  interfaces := #[]
  cf := some (fileOf pool2 1 #[] #[] 1537 3 #[] #[])
  fields := #[]
  methods := #[]
  instanceTypes := #[]
  staticTypes := #[]
  resolved := Array.replicate 7 none
  statics := none }

def pool3 : Array CpInfo := pool [(1, .class_ 2), (0, u "java/lang/Comparable"), (0, .class_ 4), (0, u "java/lang/Object")] 7

/-- java/lang/Comparable -/
def k3 : Class := { plain "java/lang/Comparable" (some 0) with
  accessFlags := 1537
  interfaces := #[]
  cf := some (fileOf pool3 1 #[] #[] 1537 3 #[] #[])
  fields := #[]
  methods := #[]
  instanceTypes := #[]
  staticTypes := #[]
  resolved := Array.replicate 12 none
  statics := none }

def pool4 : Array CpInfo := pool [(2, .class_ 4), (1, u "java/lang/CharSequence"), (42, .class_ 48), (0, u "java/lang/CharSequence$1CodePointIterator"), (10, .class_ 60), (0, u "java/lang/CharSequence$1CharIterator"), (5, .class_ 67), (0, u "java/lang/Object")] 63

/-- java/lang/CharSequence -/
def k4 : Class := { plain "java/lang/CharSequence" (some 0) with
  accessFlags := 1537
  interfaces := #[]
  cf := some (fileOf pool4 2 #[.nestMembers #[47, 59]] #[] 1537 66 #[] #[])
  fields := #[]
  methods := #[]
  instanceTypes := #[]
  staticTypes := #[]
  resolved := Array.replicate 131 none
  statics := none }

def pool5 : Array CpInfo := pool [(1, .class_ 2), (0, u "java/lang/constant/Constable"), (0, .class_ 4), (0, u "java/lang/Object")] 6

/-- java/lang/constant/Constable -/
def k5 : Class := { plain "java/lang/constant/Constable" (some 0) with
  accessFlags := 1537
  interfaces := #[]
  cf := some (fileOf pool5 1 #[] #[] 1537 3 #[] #[])
  fields := #[]
  methods := #[]
  instanceTypes := #[]
  staticTypes := #[]
  resolved := Array.replicate 11 none
  statics := none }

def pool6 : Array CpInfo := pool [(1, .class_ 2), (0, u "java/lang/constant/ConstantDesc"), (0, .class_ 4), (0, u "java/lang/Object")] 32

/-- java/lang/constant/ConstantDesc -/
def k6 : Class := { plain "java/lang/constant/ConstantDesc" (some 0) with
  accessFlags := 1537
  interfaces := #[]
  cf := some (fileOf pool6 1 #[] #[] 1537 3 #[] #[])
  fields := #[]
  methods := #[]
  instanceTypes := #[]
  staticTypes := #[]
  resolved := Array.replicate 37 none
  statics := none }

def pool7 : Array CpInfo := pool [(1, .methodref 2 3), (0, .class_ 4), (0, .nameAndType 5 6), (0, u "java/lang/Object"), (0, u "<init>"), (0, u "()V"), (0, .string 8), (0, u ""), (0, .fieldref 10 11), (0, .class_ 12), (0, .nameAndType 13 14), (0, u "java/lang/String"), (0, u "value"), (0, u "[B"), (0, .fieldref 10 16), (0, .nameAndType 17 18), (0, u "coder"), (0, u "B"), (2, u "hash"), (0, u "I"), (2, u "hashIsZero"), (0, u "Z"), (0, .methodref 10 28), (0, .nameAndType 5 29), (0, u "([CIILjava/lang/Void;)V"), (8, .fieldref 10 39), (0, .nameAndType 40 26), (0, u "COMPACT_STRINGS"), (1, .class_ 44), (1, u "java/lang/StringUTF16"), (0, u "compress"), (1, .methodref 42 48), (0, .nameAndType 49 50), (0, u "coderFromArrayLen"), (0, u "([BI)B"), (126, .methodref 42 178), (0, .nameAndType 45 179), (0, u "([CII)[B"), (363, u "equals"), (29, u "(Ljava/lang/Object;)Z"), (1, .class_ 576), (0, u "java/lang/CharSequence"), (22, u "CASE_INSENSITIVE_ORDER"), (0, u "Ljava/util/Comparator;"), (409, u "([C)V"), (90, u "serialPersistentFields"), (0, u "[Ljava/io/ObjectStreamField;"), (0, .class_ 1104), (0, u "java/lang/String$CaseInsensitiveComparator"), (1, .class_ 1107), (0, u "java/io/Serializable"), (0, .class_ 1109), (0, u "java/lang/Comparable"), (0, .class_ 1111), (0, u "java/lang/constant/Constable"), (0, .class_ 1113), (0, u "java/lang/constant/ConstantDesc"), (2, u "serialVersionUID"), (0, u "J"), (3, u "REPL"), (0, u "C"), (2, u "LATIN1"), (1, u "UTF16")] 323

def k7m0 : Method := { name := "<init>", desc := "()V", sig := { parameters := [], returnType := none }, accessFlags := 1, code := none }
def k7c1 : Code := { maxStack := 5, maxLocals := 2, code := jdk_42_method_3_code, exceptionTable := #[], attributes := #[] }
def k7m1 : Method := { name := "<init>", desc := "([C)V", sig := { parameters := [(.array .char)], returnType := none }, accessFlags := 1, code := some k7c1 }
def k7c2 : Code := { maxStack := 2, maxLocals := 3, code := jdk_42_method_66_code, exceptionTable := #[], attributes := #[] }
def k7m2 : Method := { name := "equals", desc := "(Ljava/lang/Object;)Z", sig := { parameters := [(.object "java/lang/Object")], returnType := some .boolean }, accessFlags := 1, code := some k7c2 }
def k7c3 : Code := { maxStack := 4, maxLocals := 6, code := jdk_42_method_149_code, exceptionTable := #[], attributes := #[] }
def k7m3 : Method := { name := "<init>", desc := "([CIILjava/lang/Void;)V", sig := { parameters := [(.array .char), .int, .int, (.object "java/lang/Void")], returnType := none }, accessFlags := 2, code := some k7c3 }
/-- java/lang/String -/
def k7 : Class := { plain "java/lang/String" (some 0) with
  accessFlags := 49
  interfaces := #[2, 3, 4, 5, 6]
  cf := some (fileOf pool7 10 #[.nestMembers #[1103]] #[{ accessFlags := 1, nameIndex := 5, descriptorIndex := 6, attributes := #[] }, { accessFlags := 1, nameIndex := 5, descriptorIndex := 1010, attributes := #[] }, { accessFlags := 1, nameIndex := 543, descriptorIndex := 573, attributes := #[] }, { accessFlags := 2, nameIndex := 5, descriptorIndex := 29, attributes := #[] }] 49 2 #[1106, 1108, 575, 1110, 1112] #[{ accessFlags := 18, nameIndex := 13, descriptorIndex := 14, attributes := #[] }, { accessFlags := 18, nameIndex := 17, descriptorIndex := 18, attributes := #[] }, { accessFlags := 2, nameIndex := 21, descriptorIndex := 22, attributes := #[] }, { accessFlags := 2, nameIndex := 25, descriptorIndex := 26, attributes := #[] }, { accessFlags := 26, nameIndex := 1116, descriptorIndex := 1117, attributes := #[] }, { accessFlags := 24, nameIndex := 40, descriptorIndex := 26, attributes := #[] }, { accessFlags := 26, nameIndex := 1101, descriptorIndex := 1102, attributes := #[] }, { accessFlags := 26, nameIndex := 1121, descriptorIndex := 1122, attributes := #[] }, { accessFlags := 25, nameIndex := 599, descriptorIndex := 600, attributes := #[] }, { accessFlags := 24, nameIndex := 1125, descriptorIndex := 18, attributes := #[] }, { accessFlags := 24, nameIndex := 1127, descriptorIndex := 18, attributes := #[] }])
  fields := #[{ name := "value", type := (.array .byte), accessFlags := 18, slot := 0, constantValue := 0 }, { name := "coder", type := .byte, accessFlags := 18, slot := 1, constantValue := 0 }, { name := "hash", type := .int, accessFlags := 2, slot := 2, constantValue := 0 }, { name := "hashIsZero", type := .boolean, accessFlags := 2, slot := 3, constantValue := 0 }, { name := "serialVersionUID", type := .long, accessFlags := 26, slot := 0, constantValue := 0 }, { name := "COMPACT_STRINGS", type := .boolean, accessFlags := 24, slot := 1, constantValue := 0 }, { name := "serialPersistentFields", type := (.array (.object "java/io/ObjectStreamField")), accessFlags := 26, slot := 2, constantValue := 0 }, { name := "REPL", type := .char, accessFlags := 26, slot := 3, constantValue := 0 }, { name := "CASE_INSENSITIVE_ORDER", type := (.object "java/util/Comparator"), accessFlags := 25, slot := 4, constantValue := 0 }, { name := "LATIN1", type := .byte, accessFlags := 24, slot := 5, constantValue := 0 }, { name := "UTF16", type := .byte, accessFlags := 24, slot := 6, constantValue := 0 }]
  methods := #[k7m0, k7m1, k7m2, k7m3]
  instanceTypes := #[(.array .byte), .byte, .int, .boolean]
  staticTypes := #[.long, .boolean, (.array (.object "java/io/ObjectStreamField")), .char, (.object "java/util/Comparator"), .byte, .byte]
  resolved := Array.replicate 1451 none
  statics := some 0 }

def pool8 : Array CpInfo := pool [(6, .class_ 8), (1, u "java/lang/Object"), (0, u "<init>"), (0, u "()V"), (0, .methodref 12 13), (0, .class_ 14), (0, .nameAndType 15 16), (0, u "java/lang/StringUTF16"), (0, u "newBytesLength"), (0, u "(I)I"), (3, .integer 1073741823), (23, .fieldref 12 45), (0, .nameAndType 46 47), (0, u "$assertionsDisabled"), (0, u "Z"), (11, .fieldref 12 60), (0, .nameAndType 61 62), (0, u "HI_BYTE_SHIFT"), (0, u "I"), (0, .fieldref 12 64), (0, .nameAndType 65 62), (0, u "LO_BYTE_SHIFT"), (5, .methodref 12 72), (0, .nameAndType 73 74), (0, u "getChar"), (0, u "([BI)C"), (32, .methodref 12 108), (0, .nameAndType 109 110), (0, u "newBytesFor"), (0, u "(I)[B"), (0, .methodref 12 112), (0, .nameAndType 113 114), (0, u "putChar"), (0, u "([BII)V"), (0, .methodref 12 116), (0, .nameAndType 117 118), (0, u "compress"), (0, u "([CI[BII)I"), (0, .methodref 12 120), (0, .nameAndType 121 122), (0, u "toBytes"), (0, u "([CII)[B"), (138, u "coderFromArrayLen"), (0, u "([BI)B"), (106, .class_ 371), (1, u "java/lang/StringUTF16$LinesSpliterator"), (58, u "MAX_LENGTH"), (196, .class_ 628), (0, u "java/lang/StringUTF16$CodePointsSpliterator"), (0, .class_ 630), (0, u "java/lang/StringUTF16$CharsSpliterator")] 4

def k8m0 : Method := { name := "<init>", desc := "()V", sig := { parameters := [], returnType := none }, accessFlags := 0, code := none }
def k8c1 : Code := { maxStack := 1, maxLocals := 1, code := jdk_52_method_2_code, exceptionTable := #[], attributes := #[] }
def k8m1 : Method := { name := "newBytesFor", desc := "(I)[B", sig := { parameters := [.int], returnType := some (.array .byte) }, accessFlags := 9, code := some k8c1 }
def k8c2 : Code := { maxStack := 4, maxLocals := 1, code := jdk_52_method_3_code, exceptionTable := #[], attributes := #[] }
def k8m2 : Method := { name := "newBytesLength", desc := "(I)I", sig := { parameters := [.int], returnType := some .int }, accessFlags := 9, code := some k8c2 }
def k8c3 : Code := { maxStack := 4, maxLocals := 3, code := jdk_52_method_4_code, exceptionTable := #[], attributes := #[] }
def k8m3 : Method := { name := "putChar", desc := "([BII)V", sig := { parameters := [(.array .byte), .int, .int], returnType := none }, accessFlags := 8, code := some k8c3 }
def k8c4 : Code := { maxStack := 3, maxLocals := 2, code := jdk_52_method_5_code, exceptionTable := #[], attributes := #[] }
def k8m4 : Method := { name := "getChar", desc := "([BI)C", sig := { parameters := [(.array .byte), .int], returnType := some .char }, accessFlags := 8, code := some k8c4 }
def k8c5 : Code := { maxStack := 4, maxLocals := 5, code := jdk_52_method_14_code, exceptionTable := #[], attributes := #[] }
def k8m5 : Method := { name := "toBytes", desc := "([CII)[B", sig := { parameters := [(.array .char), .int, .int], returnType := some (.array .byte) }, accessFlags := 9, code := some k8c5 }
def k8c6 : Code := { maxStack := 2, maxLocals := 2, code := jdk_52_method_15_code, exceptionTable := #[], attributes := #[] }
def k8m6 : Method := { name := "coderFromArrayLen", desc := "([BI)B", sig := { parameters := [(.array .byte), .int], returnType := some .byte }, accessFlags := 8, code := some k8c6 }
def k8c7 : Code := { maxStack := 5, maxLocals := 6, code := jdk_52_method_16_code, exceptionTable := #[], attributes := #[] }
def k8m7 : Method := { name := "compress", desc := "([CII)[B", sig := { parameters := [(.array .char), .int, .int], returnType := some (.array .byte) }, accessFlags := 9, code := some k8c7 }
def k8c8 : Code := { maxStack := 3, maxLocals := 7, code := jdk_52_method_21_code, exceptionTable := #[], attributes := #[] }
def k8m8 : Method := { name := "compress", desc := "([CI[BII)I", sig := { parameters := [(.array .char), .int, (.array .byte), .int, .int], returnType := some .int }, accessFlags := 9, code := some k8c8 }
/-- java/lang/StringUTF16 -/
def k8 : Class := { plain "java/lang/StringUTF16" (some 0) with
  accessFlags := 48
  interfaces := #[]
  cf := some (fileOf pool8 12 #[.nestMembers #[627, 629, 369]] #[{ accessFlags := 0, nameIndex := 9, descriptorIndex := 10, attributes := #[] }, { accessFlags := 9, nameIndex := 109, descriptorIndex := 110, attributes := #[] }, { accessFlags := 9, nameIndex := 15, descriptorIndex := 16, attributes := #[] }, { accessFlags := 8, nameIndex := 113, descriptorIndex := 114, attributes := #[] }, { accessFlags := 8, nameIndex := 73, descriptorIndex := 74, attributes := #[] }, { accessFlags := 9, nameIndex := 121, descriptorIndex := 122, attributes := #[] }, { accessFlags := 8, nameIndex := 261, descriptorIndex := 262, attributes := #[] }, { accessFlags := 9, nameIndex := 117, descriptorIndex := 122, attributes := #[] }, { accessFlags := 9, nameIndex := 117, descriptorIndex := 118, attributes := #[] }] 48 6 #[] #[{ accessFlags := 26, nameIndex := 61, descriptorIndex := 62, attributes := #[] }, { accessFlags := 26, nameIndex := 65, descriptorIndex := 62, attributes := #[] }, { accessFlags := 24, nameIndex := 430, descriptorIndex := 62, attributes := #[] }, { accessFlags := 4120, nameIndex := 46, descriptorIndex := 47, attributes := #[] }])
  fields := #[{ name := "HI_BYTE_SHIFT", type := .int, accessFlags := 26, slot := 0, constantValue := 0 }, { name := "LO_BYTE_SHIFT", type := .int, accessFlags := 26, slot := 1, constantValue := 0 }, { name := "MAX_LENGTH", type := .int, accessFlags := 24, slot := 2, constantValue := 0 }, { name := "$assertionsDisabled", type := .boolean, accessFlags := 4120, slot := 3, constantValue := 0 }]
  methods := #[k8m0, k8m1, k8m2, k8m3, k8m4, k8m5, k8m6, k8m7, k8m8]
  instanceTypes := #[]
  staticTypes := #[.int, .int, .int, .boolean]
  resolved := Array.replicate 635 none
  statics := some 1 }

def pool9 : Array CpInfo := pool [(1, .methodref 2 3), (0, .class_ 4), (0, .nameAndType 5 6), (0, u "java/lang/Object"), (0, u "<init>"), (0, u "()V"), (0, .fieldref 8 9), (0, .class_ 10), (0, .nameAndType 11 12), (0, u "java/lang/Throwable"), (0, u "cause"), (0, u "Ljava/lang/Throwable;"), (0, .fieldref 8 14), (0, .nameAndType 15 16), (0, u "UNASSIGNED_STACK"), (0, u "[Ljava/lang/StackTraceElement;"), (0, .fieldref 8 18), (0, .nameAndType 19 16), (0, u "stackTrace"), (0, .fieldref 8 21), (0, .nameAndType 22 23), (0, u "SUPPRESSED_SENTINEL"), (0, u "Ljava/util/List;"), (0, .fieldref 8 25), (0, .nameAndType 26 23), (0, u "suppressedExceptions"), (4, .fieldref 8 32), (0, .nameAndType 33 34), (0, u "detailMessage"), (0, u "Ljava/lang/String;"), (3, u "()Ljava/lang/String;"), (2, u "getMessage"), (51, .class_ 94), (0, u "java/lang/Throwable$WrappedPrintStream"), (6, .class_ 103), (1, u "java/lang/Throwable$PrintStreamOrWriter"), (61, u "$assertionsDisabled"), (0, u "Z"), (26, .class_ 194), (0, u "java/lang/Throwable$WrappedPrintWriter"), (5, u "backtrace"), (0, u "Ljava/lang/Object;"), (9, u "depth"), (0, u "I"), (56, .class_ 271), (1, u "java/lang/Throwable$SentinelHolder"), (32, u "EMPTY_THROWABLE_ARRAY"), (0, u "[Ljava/lang/Throwable;"), (12, .class_ 319), (0, u "java/io/Serializable"), (0, u "serialVersionUID"), (0, u "J"), (5, u "NULL_CAUSE_MESSAGE"), (0, u "SELF_SUPPRESSION_MESSAGE"), (0, u "CAUSE_CAPTION"), (0, u "SUPPRESSED_CAPTION"), (9, u "(Ljava/lang/String;Ljava/lang/Throwable;ZZ)V")] 63

def k9m0 : Method := { name := "<init>", desc := "()V", sig := { parameters := [], returnType := none }, accessFlags := 1, code := none }
def k9c1 : Code := { maxStack := 2, maxLocals := 5, code := jdk_78_method_5_code, exceptionTable := #[], attributes := #[] }
def k9m1 : Method := { name := "<init>", desc := "(Ljava/lang/String;Ljava/lang/Throwable;ZZ)V", sig := { parameters := [(.object "java/lang/String"), (.object "java/lang/Throwable"), .boolean, .boolean], returnType := none }, accessFlags := 4, code := some k9c1 }
def k9c2 : Code := { maxStack := 1, maxLocals := 1, code := jdk_78_method_6_code, exceptionTable := #[], attributes := #[] }
def k9m2 : Method := { name := "getMessage", desc := "()Ljava/lang/String;", sig := { parameters := [], returnType := some (.object "java/lang/String") }, accessFlags := 1, code := some k9c2 }
/-- java/lang/Throwable -/
def k9 : Class := { plain "java/lang/Throwable" (some 0) with
  accessFlags := 33
  interfaces := #[2]
  cf := some (fileOf pool9 8 #[.nestMembers #[193, 93, 101, 269]] #[{ accessFlags := 1, nameIndex := 5, descriptorIndex := 6, attributes := #[] }, { accessFlags := 4, nameIndex := 5, descriptorIndex := 340, attributes := #[] }, { accessFlags := 1, nameIndex := 41, descriptorIndex := 38, attributes := #[] }] 33 2 #[318] #[{ accessFlags := 26, nameIndex := 320, descriptorIndex := 321, attributes := #[] }, { accessFlags := 130, nameIndex := 200, descriptorIndex := 201, attributes := #[] }, { accessFlags := 2, nameIndex := 33, descriptorIndex := 34, attributes := #[] }, { accessFlags := 26, nameIndex := 15, descriptorIndex := 16, attributes := #[] }, { accessFlags := 2, nameIndex := 11, descriptorIndex := 12, attributes := #[] }, { accessFlags := 2, nameIndex := 19, descriptorIndex := 16, attributes := #[] }, { accessFlags := 130, nameIndex := 211, descriptorIndex := 212, attributes := #[] }, { accessFlags := 26, nameIndex := 22, descriptorIndex := 23, attributes := #[] }, { accessFlags := 2, nameIndex := 26, descriptorIndex := 23, attributes := #[] }, { accessFlags := 26, nameIndex := 327, descriptorIndex := 34, attributes := #[] }, { accessFlags := 26, nameIndex := 328, descriptorIndex := 34, attributes := #[] }, { accessFlags := 26, nameIndex := 329, descriptorIndex := 34, attributes := #[] }, { accessFlags := 26, nameIndex := 330, descriptorIndex := 34, attributes := #[] }, { accessFlags := 26, nameIndex := 304, descriptorIndex := 305, attributes := #[] }, { accessFlags := 4120, nameIndex := 165, descriptorIndex := 166, attributes := #[] }])
  fields := #[{ name := "serialVersionUID", type := .long, accessFlags := 26, slot := 0, constantValue := 0 }, { name := "backtrace", type := (.object "java/lang/Object"), accessFlags := 130, slot := 0, constantValue := 0 }, { name := "detailMessage", type := (.object "java/lang/String"), accessFlags := 2, slot := 1, constantValue := 0 }, { name := "UNASSIGNED_STACK", type := (.array (.object "java/lang/StackTraceElement")), accessFlags := 26, slot := 1, constantValue := 0 }, { name := "cause", type := (.object "java/lang/Throwable"), accessFlags := 2, slot := 2, constantValue := 0 }, { name := "stackTrace", type := (.array (.object "java/lang/StackTraceElement")), accessFlags := 2, slot := 3, constantValue := 0 }, { name := "depth", type := .int, accessFlags := 130, slot := 4, constantValue := 0 }, { name := "SUPPRESSED_SENTINEL", type := (.object "java/util/List"), accessFlags := 26, slot := 2, constantValue := 0 }, { name := "suppressedExceptions", type := (.object "java/util/List"), accessFlags := 2, slot := 5, constantValue := 0 }, { name := "NULL_CAUSE_MESSAGE", type := (.object "java/lang/String"), accessFlags := 26, slot := 3, constantValue := 0 }, { name := "SELF_SUPPRESSION_MESSAGE", type := (.object "java/lang/String"), accessFlags := 26, slot := 4, constantValue := 0 }, { name := "CAUSE_CAPTION", type := (.object "java/lang/String"), accessFlags := 26, slot := 5, constantValue := 0 }, { name := "SUPPRESSED_CAPTION", type := (.object "java/lang/String"), accessFlags := 26, slot := 6, constantValue := 0 }, { name := "EMPTY_THROWABLE_ARRAY", type := (.array (.object "java/lang/Throwable")), accessFlags := 26, slot := 7, constantValue := 0 }, { name := "$assertionsDisabled", type := .boolean, accessFlags := 4120, slot := 8, constantValue := 0 }]
  methods := #[k9m0, k9m1, k9m2]
  instanceTypes := #[(.object "java/lang/Object"), (.object "java/lang/String"), (.object "java/lang/Throwable"), (.array (.object "java/lang/StackTraceElement")), .int, (.object "java/util/List")]
  staticTypes := #[.long, (.array (.object "java/lang/StackTraceElement")), (.object "java/util/List"), (.object "java/lang/String"), (.object "java/lang/String"), (.object "java/lang/String"), (.object "java/lang/String"), (.array (.object "java/lang/Throwable")), .boolean]
  resolved := Array.replicate 404 none
  statics := some 2 }

def pool10 : Array CpInfo := pool [(2, .class_ 4), (1, u "java/lang/Throwable"), (0, u "<init>"), (0, u "()V"), (9, .methodref 2 17), (0, .nameAndType 5 18), (0, u "(Ljava/lang/String;Ljava/lang/Throwable;ZZ)V"), (0, .class_ 20), (0, u "java/lang/Exception"), (0, u "serialVersionUID"), (0, u "J")] 17

def k10m0 : Method := { name := "<init>", desc := "()V", sig := { parameters := [], returnType := none }, accessFlags := 1, code := none }
def k10c1 : Code := { maxStack := 5, maxLocals := 5, code := jdk_59_method_5_code, exceptionTable := #[], attributes := #[] }
def k10m1 : Method := { name := "<init>", desc := "(Ljava/lang/String;Ljava/lang/Throwable;ZZ)V", sig := { parameters := [(.object "java/lang/String"), (.object "java/lang/Throwable"), .boolean, .boolean], returnType := none }, accessFlags := 4, code := some k10c1 }
/-- java/lang/Exception -/
def k10 : Class := { plain "java/lang/Exception" (some 9) with
  accessFlags := 33
  interfaces := #[]
  cf := some (fileOf pool10 19 #[] #[{ accessFlags := 1, nameIndex := 5, descriptorIndex := 6, attributes := #[] }, { accessFlags := 4, nameIndex := 5, descriptorIndex := 18, attributes := #[] }] 33 2 #[] #[{ accessFlags := 24, nameIndex := 21, descriptorIndex := 22, attributes := #[] }])
  fields := #[{ name := "serialVersionUID", type := .long, accessFlags := 24, slot := 0, constantValue := 0 }]
  methods := #[k10m0, k10m1]
  instanceTypes := #[(.object "java/lang/Object"), (.object "java/lang/String"), (.object "java/lang/Throwable"), (.array (.object "java/lang/StackTraceElement")), .int, (.object "java/util/List")]
  staticTypes := #[.long]
  resolved := Array.replicate 40 none
  statics := none }

def pool11 : Array CpInfo := pool [(2, .class_ 4), (1, u "java/lang/Exception"), (0, u "<init>"), (0, u "()V"), (9, .methodref 2 17), (0, .nameAndType 5 18), (0, u "(Ljava/lang/String;Ljava/lang/Throwable;ZZ)V"), (0, .class_ 20), (0, u "java/lang/RuntimeException"), (0, u "serialVersionUID"), (0, u "J")] 17

def k11m0 : Method := { name := "<init>", desc := "()V", sig := { parameters := [], returnType := none }, accessFlags := 1, code := none }
def k11c1 : Code := { maxStack := 5, maxLocals := 5, code := jdk_58_method_5_code, exceptionTable := #[], attributes := #[] }
def k11m1 : Method := { name := "<init>", desc := "(Ljava/lang/String;Ljava/lang/Throwable;ZZ)V", sig := { parameters := [(.object "java/lang/String"), (.object "java/lang/Throwable"), .boolean, .boolean], returnType := none }, accessFlags := 4, code := some k11c1 }
/-- java/lang/RuntimeException -/
def k11 : Class := { plain "java/lang/RuntimeException" (some 10) with
  accessFlags := 33
  interfaces := #[]
  cf := some (fileOf pool11 19 #[] #[{ accessFlags := 1, nameIndex := 5, descriptorIndex := 6, attributes := #[] }, { accessFlags := 4, nameIndex := 5, descriptorIndex := 18, attributes := #[] }] 33 2 #[] #[{ accessFlags := 24, nameIndex := 21, descriptorIndex := 22, attributes := #[] }])
  fields := #[{ name := "serialVersionUID", type := .long, accessFlags := 24, slot := 0, constantValue := 0 }]
  methods := #[k11m0, k11m1]
  instanceTypes := #[(.object "java/lang/Object"), (.object "java/lang/String"), (.object "java/lang/Throwable"), (.array (.object "java/lang/StackTraceElement")), .int, (.object "java/util/List")]
  staticTypes := #[.long]
  resolved := Array.replicate 40 none
  statics := none }

def pool12 : Array CpInfo := pool [(1, .methodref 2 3), (0, .class_ 4), (0, .nameAndType 5 6), (0, u "java/lang/RuntimeException"), (0, u "<init>"), (0, u "(Ljava/lang/String;Ljava/lang/Throwable;ZZ)V"), (0, .fieldref 8 9), (0, .class_ 10), (0, .nameAndType 11 12), (0, u "com/example/metaloom/metaloom/store/Rejection"), (0, u "reason"), (0, u "Lcom/example/metaloom/metaloom/store/Rejection$Reason;"), (0, .fieldref 8 14), (0, .nameAndType 15 16), (0, u "position"), (0, u "Ljava/util/OptionalInt;"), (0, .methodref 18 19), (0, .class_ 20), (0, .nameAndType 21 22), (0, u "java/util/OptionalInt"), (0, u "empty"), (0, u "()Ljava/util/OptionalInt;"), (0, .methodref 8 24), (0, .nameAndType 5 25), (0, u "(Lcom/example/metaloom/metaloom/store/Rejection$Reason;Ljava/lang/String;Ljava/util/OptionalInt;)V"), (0, .fieldref 27 28), (0, .class_ 29), (0, .nameAndType 30 12), (0, u "com/example/metaloom/metaloom/store/Rejection$Reason"), (0, u "INVALID"), (0, .methodref 8 32), (0, .nameAndType 5 33), (0, u "(Lcom/example/metaloom/metaloom/store/Rejection$Reason;Ljava/lang/String;)V"), (10, u "serialVersionUID"), (0, u "J"), (5, u "invalid"), (0, u "(Ljava/lang/String;)Lcom/example/metaloom/metaloom/store/Rejection;"), (4, u "()Lcom/example/metaloom/metaloom/store/Rejection$Reason;")] 5

def k12c0 : Code := { maxStack := 5, maxLocals := 4, code := prog_21_method_1_code, exceptionTable := #[], attributes := #[] }
def k12m0 : Method := { name := "<init>", desc := "(Lcom/example/metaloom/metaloom/store/Rejection$Reason;Ljava/lang/String;Ljava/util/OptionalInt;)V", sig := { parameters := [(.object "com/example/metaloom/metaloom/store/Rejection$Reason"), (.object "java/lang/String"), (.object "java/util/OptionalInt")], returnType := none }, accessFlags := 2, code := some k12c0 }
def k12c1 : Code := { maxStack := 4, maxLocals := 3, code := prog_21_method_2_code, exceptionTable := #[], attributes := #[] }
def k12m1 : Method := { name := "<init>", desc := "(Lcom/example/metaloom/metaloom/store/Rejection$Reason;Ljava/lang/String;)V", sig := { parameters := [(.object "com/example/metaloom/metaloom/store/Rejection$Reason"), (.object "java/lang/String")], returnType := none }, accessFlags := 2, code := some k12c1 }
def k12c2 : Code := { maxStack := 4, maxLocals := 1, code := prog_21_method_3_code, exceptionTable := #[], attributes := #[] }
def k12m2 : Method := { name := "invalid", desc := "(Ljava/lang/String;)Lcom/example/metaloom/metaloom/store/Rejection;", sig := { parameters := [(.object "java/lang/String")], returnType := some (.object "com/example/metaloom/metaloom/store/Rejection") }, accessFlags := 9, code := some k12c2 }
def k12c3 : Code := { maxStack := 1, maxLocals := 1, code := prog_21_method_7_code, exceptionTable := #[], attributes := #[] }
def k12m3 : Method := { name := "reason", desc := "()Lcom/example/metaloom/metaloom/store/Rejection$Reason;", sig := { parameters := [], returnType := some (.object "com/example/metaloom/metaloom/store/Rejection$Reason") }, accessFlags := 1, code := some k12c3 }
def k12c4 : Code := { maxStack := 1, maxLocals := 1, code := prog_21_method_8_code, exceptionTable := #[], attributes := #[] }
def k12m4 : Method := { name := "position", desc := "()Ljava/util/OptionalInt;", sig := { parameters := [], returnType := some (.object "java/util/OptionalInt") }, accessFlags := 1, code := some k12c4 }
/-- com/example/metaloom/metaloom/store/Rejection -/
def k12 : Class := { plain "com/example/metaloom/metaloom/store/Rejection" (some 11) with
  accessFlags := 49
  interfaces := #[]
  cf := some (fileOf pool12 8 #[.nestMembers #[27]] #[{ accessFlags := 2, nameIndex := 5, descriptorIndex := 25, attributes := #[] }, { accessFlags := 2, nameIndex := 5, descriptorIndex := 33, attributes := #[] }, { accessFlags := 9, nameIndex := 51, descriptorIndex := 52, attributes := #[] }, { accessFlags := 1, nameIndex := 11, descriptorIndex := 57, attributes := #[] }, { accessFlags := 1, nameIndex := 15, descriptorIndex := 22, attributes := #[] }] 49 2 #[] #[{ accessFlags := 26, nameIndex := 44, descriptorIndex := 45, attributes := #[] }, { accessFlags := 18, nameIndex := 11, descriptorIndex := 12, attributes := #[] }, { accessFlags := 18, nameIndex := 15, descriptorIndex := 16, attributes := #[] }])
  fields := #[{ name := "serialVersionUID", type := .long, accessFlags := 26, slot := 0, constantValue := 0 }, { name := "reason", type := (.object "com/example/metaloom/metaloom/store/Rejection$Reason"), accessFlags := 18, slot := 6, constantValue := 0 }, { name := "position", type := (.object "java/util/OptionalInt"), accessFlags := 18, slot := 7, constantValue := 0 }]
  methods := #[k12m0, k12m1, k12m2, k12m3, k12m4]
  instanceTypes := #[(.object "java/lang/Object"), (.object "java/lang/String"), (.object "java/lang/Throwable"), (.array (.object "java/lang/StackTraceElement")), .int, (.object "java/util/List"), (.object "com/example/metaloom/metaloom/store/Rejection$Reason"), (.object "java/util/OptionalInt")]
  staticTypes := #[.long]
  resolved := Array.replicate 63 none
  statics := none }

def pool13 : Array CpInfo := pool [(2, .class_ 4), (1, u "java/lang/Enum"), (0, u "name"), (0, u "Ljava/lang/String;"), (2, u "ordinal"), (0, u "I"), (1, .class_ 14), (1, u "java/lang/Object"), (4, u "hash"), (86, .class_ 108), (1, u "java/lang/Enum$EnumDesc"), (2, .class_ 112), (0, u "java/lang/constant/Constable"), (0, .class_ 114), (0, u "java/lang/Comparable"), (0, .class_ 116), (0, u "java/io/Serializable")] 87

/-- java/lang/Enum -/
def k13 : Class := { plain "java/lang/Enum" (some 0) with
  accessFlags := 1057
  interfaces := #[5, 3, 2]
  cf := some (fileOf pool13 2 #[.nestMembers #[106]] #[] 1057 12 #[111, 113, 115] #[{ accessFlags := 18, nameIndex := 5, descriptorIndex := 6, attributes := #[] }, { accessFlags := 18, nameIndex := 9, descriptorIndex := 10, attributes := #[] }, { accessFlags := 2, nameIndex := 19, descriptorIndex := 10, attributes := #[] }])
  fields := #[{ name := "name", type := (.object "java/lang/String"), accessFlags := 18, slot := 0, constantValue := 0 }, { name := "ordinal", type := .int, accessFlags := 18, slot := 1, constantValue := 0 }, { name := "hash", type := .int, accessFlags := 2, slot := 2, constantValue := 0 }]
  methods := #[]
  instanceTypes := #[(.object "java/lang/String"), .int, .int]
  staticTypes := #[]
  resolved := Array.replicate 204 none
  statics := none }

def pool14 : Array CpInfo := pool [(1, .class_ 2), (0, u "com/example/metaloom/metaloom/store/Rejection$Reason"), (2, u "INVALID"), (0, u "Lcom/example/metaloom/metaloom/store/Rejection$Reason;"), (2, u "NOT_FOUND"), (2, u "CONFLICT"), (2, u "$VALUES"), (0, u "[Lcom/example/metaloom/metaloom/store/Rejection$Reason;"), (6, .class_ 25), (1, u "java/lang/Enum"), (26, .class_ 53), (0, u "com/example/metaloom/metaloom/store/Rejection")] 2

/-- com/example/metaloom/metaloom/store/Rejection$Reason -/
def k14 : Class := { plain "com/example/metaloom/metaloom/store/Rejection$Reason" (some 13) with
  accessFlags := 16433
  interfaces := #[]
  cf := some (fileOf pool14 1 #[.nestHost 52] #[] 16433 23 #[] #[{ accessFlags := 16409, nameIndex := 5, descriptorIndex := 6, attributes := #[] }, { accessFlags := 16409, nameIndex := 9, descriptorIndex := 6, attributes := #[] }, { accessFlags := 16409, nameIndex := 12, descriptorIndex := 6, attributes := #[] }, { accessFlags := 4122, nameIndex := 15, descriptorIndex := 16, attributes := #[] }])
  fields := #[{ name := "INVALID", type := (.object "com/example/metaloom/metaloom/store/Rejection$Reason"), accessFlags := 16409, slot := 0, constantValue := 0 }, { name := "NOT_FOUND", type := (.object "com/example/metaloom/metaloom/store/Rejection$Reason"), accessFlags := 16409, slot := 1, constantValue := 0 }, { name := "CONFLICT", type := (.object "com/example/metaloom/metaloom/store/Rejection$Reason"), accessFlags := 16409, slot := 2, constantValue := 0 }, { name := "$VALUES", type := (.array (.object "com/example/metaloom/metaloom/store/Rejection$Reason")), accessFlags := 4122, slot := 3, constantValue := 0 }]
  methods := #[]
  instanceTypes := #[(.object "java/lang/String"), .int, .int]
  staticTypes := #[(.object "com/example/metaloom/metaloom/store/Rejection$Reason"), (.object "com/example/metaloom/metaloom/store/Rejection$Reason"), (.object "com/example/metaloom/metaloom/store/Rejection$Reason"), (.array (.object "com/example/metaloom/metaloom/store/Rejection$Reason"))]
  resolved := Array.replicate 56 none
  statics := some 3 }

def pool15 : Array CpInfo := pool [(2, .class_ 4), (1, u "java/lang/Object"), (0, u "<init>"), (0, u "()V"), (0, .fieldref 8 9), (0, .class_ 10), (0, .nameAndType 11 12), (0, u "java/util/OptionalInt"), (0, u "isPresent"), (0, u "Z"), (2, u "value"), (0, u "I"), (0, .fieldref 8 18), (0, .nameAndType 19 20), (0, u "EMPTY"), (0, u "Ljava/util/OptionalInt;"), (28, u "empty"), (46, u "()Ljava/util/OptionalInt;"), (2, u "()Z")] 36

def k15m0 : Method := { name := "<init>", desc := "()V", sig := { parameters := [], returnType := none }, accessFlags := 2, code := none }
def k15c1 : Code := { maxStack := 1, maxLocals := 0, code := jdk_2649_method_2_code, exceptionTable := #[], attributes := #[] }
def k15m1 : Method := { name := "empty", desc := "()Ljava/util/OptionalInt;", sig := { parameters := [], returnType := some (.object "java/util/OptionalInt") }, accessFlags := 9, code := some k15c1 }
def k15c2 : Code := { maxStack := 1, maxLocals := 1, code := jdk_2649_method_6_code, exceptionTable := #[], attributes := #[] }
def k15m2 : Method := { name := "isPresent", desc := "()Z", sig := { parameters := [], returnType := some .boolean }, accessFlags := 1, code := some k15c2 }
/-- java/util/OptionalInt -/
def k15 : Class := { plain "java/util/OptionalInt" (some 0) with
  accessFlags := 49
  interfaces := #[]
  cf := some (fileOf pool15 8 #[] #[{ accessFlags := 2, nameIndex := 5, descriptorIndex := 6, attributes := #[] }, { accessFlags := 9, nameIndex := 49, descriptorIndex := 96, attributes := #[] }, { accessFlags := 1, nameIndex := 11, descriptorIndex := 99, attributes := #[] }] 49 2 #[] #[{ accessFlags := 26, nameIndex := 19, descriptorIndex := 20, attributes := #[] }, { accessFlags := 18, nameIndex := 11, descriptorIndex := 12, attributes := #[] }, { accessFlags := 18, nameIndex := 15, descriptorIndex := 16, attributes := #[] }])
  fields := #[{ name := "EMPTY", type := (.object "java/util/OptionalInt"), accessFlags := 26, slot := 0, constantValue := 0 }, { name := "isPresent", type := .boolean, accessFlags := 18, slot := 0, constantValue := 0 }, { name := "value", type := .int, accessFlags := 18, slot := 1, constantValue := 0 }]
  methods := #[k15m0, k15m1, k15m2]
  instanceTypes := #[.boolean, .int]
  staticTypes := #[(.object "java/util/OptionalInt")]
  resolved := Array.replicate 136 none
  statics := some 4 }

def pool16 : Array CpInfo := pool [(4, .class_ 6), (1, u "java/lang/Object"), (0, u "<init>"), (0, u "()V"), (5, .class_ 16), (1, u "java/lang/StringLatin1"), (104, u "$assertionsDisabled"), (0, u "Z"), (98, .class_ 223), (1, u "java/lang/StringLatin1$LinesSpliterator"), (166, .class_ 391), (0, u "java/lang/StringLatin1$CharsSpliterator")] 3

def k16m0 : Method := { name := "<init>", desc := "()V", sig := { parameters := [], returnType := none }, accessFlags := 0, code := none }
/-- java/lang/StringLatin1 -/
def k16 : Class := { plain "java/lang/StringLatin1" (some 0) with
  accessFlags := 48
  interfaces := #[]
  cf := some (fileOf pool16 14 #[.nestMembers #[390, 221]] #[{ accessFlags := 0, nameIndex := 7, descriptorIndex := 8, attributes := #[] }] 48 4 #[] #[{ accessFlags := 4120, nameIndex := 121, descriptorIndex := 122, attributes := #[] }])
  fields := #[{ name := "$assertionsDisabled", type := .boolean, accessFlags := 4120, slot := 0, constantValue := 0 }]
  methods := #[k16m0]
  instanceTypes := #[]
  staticTypes := #[.boolean]
  resolved := Array.replicate 395 none
  statics := none }

def pool17 : Array CpInfo := pool [(2, .class_ 4), (1, u "java/lang/Object"), (0, u "<init>"), (0, u "()V"), (17, .class_ 26), (1, u "jdk/internal/util/Preconditions"), (28, .class_ 56), (0, u "jdk/internal/util/Preconditions$4"), (57, .class_ 115), (0, u "jdk/internal/util/Preconditions$1"), (7, u "SIOOBE_FORMATTER"), (0, u "Ljava/util/function/BiFunction;"), (0, .class_ 126), (0, u "jdk/internal/util/Preconditions$2"), (3, u "AIOOBE_FORMATTER"), (0, .class_ 132), (0, u "jdk/internal/util/Preconditions$3"), (3, u "IOOBE_FORMATTER")] 57

def k17m0 : Method := { name := "<init>", desc := "()V", sig := { parameters := [], returnType := none }, accessFlags := 1, code := none }
/-- jdk/internal/util/Preconditions -/
def k17 : Class := { plain "jdk/internal/util/Preconditions" (some 0) with
  accessFlags := 33
  interfaces := #[]
  cf := some (fileOf pool17 24 #[.nestMembers #[55, 131, 125, 114]] #[{ accessFlags := 1, nameIndex := 5, descriptorIndex := 6, attributes := #[] }] 33 2 #[] #[{ accessFlags := 25, nameIndex := 123, descriptorIndex := 124, attributes := #[] }, { accessFlags := 25, nameIndex := 130, descriptorIndex := 124, attributes := #[] }, { accessFlags := 25, nameIndex := 136, descriptorIndex := 124, attributes := #[] }])
  fields := #[{ name := "SIOOBE_FORMATTER", type := (.object "java/util/function/BiFunction"), accessFlags := 25, slot := 0, constantValue := 0 }, { name := "AIOOBE_FORMATTER", type := (.object "java/util/function/BiFunction"), accessFlags := 25, slot := 1, constantValue := 0 }, { name := "IOOBE_FORMATTER", type := (.object "java/util/function/BiFunction"), accessFlags := 25, slot := 2, constantValue := 0 }]
  methods := #[k17m0]
  instanceTypes := #[]
  staticTypes := #[(.object "java/util/function/BiFunction"), (.object "java/util/function/BiFunction"), (.object "java/util/function/BiFunction")]
  resolved := Array.replicate 194 none
  statics := some 5 }

def pool18 : Array CpInfo := pool [(9, u "<init>"), (6, .class_ 18), (1, u "java/lang/Object"), (0, u "()V"), (1, .class_ 23), (1, u "jdk/internal/util/ArraysSupport"), (0, u "LOG2_ARRAY_LONG_INDEX_SCALE"), (0, u "I"), (2, u "U"), (0, u "Ljdk/internal/misc/Unsafe;"), (8, u "BIG_ENDIAN"), (0, u "Z"), (8, u "LOG2_BYTE_BIT_SIZE"), (4, u "LOG2_ARRAY_INT_INDEX_SCALE"), (54, u "JLA"), (0, u "Ljdk/internal/access/JavaLangAccess;"), (11, u "LOG2_ARRAY_BOOLEAN_INDEX_SCALE"), (9, u "LOG2_ARRAY_BYTE_INDEX_SCALE"), (5, u "LOG2_ARRAY_CHAR_INDEX_SCALE"), (5, u "LOG2_ARRAY_SHORT_INDEX_SCALE"), (18, u "LOG2_ARRAY_FLOAT_INDEX_SCALE"), (24, u "LOG2_ARRAY_DOUBLE_INDEX_SCALE"), (89, u "T_BOOLEAN"), (2, u "T_CHAR"), (1, u "T_FLOAT"), (1, u "T_DOUBLE"), (1, u "T_BYTE"), (1, u "T_SHORT"), (1, u "T_INT"), (1, u "T_LONG"), (1, u "SOFT_MAX_ARRAY_LENGTH")] 83

def k18m0 : Method := { name := "<init>", desc := "()V", sig := { parameters := [], returnType := none }, accessFlags := 2, code := none }
/-- jdk/internal/util/ArraysSupport -/
def k18 : Class := { plain "jdk/internal/util/ArraysSupport" (some 0) with
  accessFlags := 33
  interfaces := #[]
  cf := some (fileOf pool18 21 #[] #[{ accessFlags := 2, nameIndex := 9, descriptorIndex := 19, attributes := #[] }] 33 16 #[] #[{ accessFlags := 24, nameIndex := 28, descriptorIndex := 29, attributes := #[] }, { accessFlags := 26, nameIndex := 38, descriptorIndex := 39, attributes := #[] }, { accessFlags := 25, nameIndex := 121, descriptorIndex := 25, attributes := #[] }, { accessFlags := 25, nameIndex := 131, descriptorIndex := 25, attributes := #[] }, { accessFlags := 25, nameIndex := 137, descriptorIndex := 25, attributes := #[] }, { accessFlags := 25, nameIndex := 143, descriptorIndex := 25, attributes := #[] }, { accessFlags := 25, nameIndex := 53, descriptorIndex := 25, attributes := #[] }, { accessFlags := 25, nameIndex := 24, descriptorIndex := 25, attributes := #[] }, { accessFlags := 25, nameIndex := 162, descriptorIndex := 25, attributes := #[] }, { accessFlags := 25, nameIndex := 187, descriptorIndex := 25, attributes := #[] }, { accessFlags := 26, nameIndex := 48, descriptorIndex := 25, attributes := #[] }, { accessFlags := 25, nameIndex := 277, descriptorIndex := 25, attributes := #[] }, { accessFlags := 25, nameIndex := 280, descriptorIndex := 25, attributes := #[] }, { accessFlags := 25, nameIndex := 282, descriptorIndex := 25, attributes := #[] }, { accessFlags := 25, nameIndex := 284, descriptorIndex := 25, attributes := #[] }, { accessFlags := 25, nameIndex := 286, descriptorIndex := 25, attributes := #[] }, { accessFlags := 25, nameIndex := 288, descriptorIndex := 25, attributes := #[] }, { accessFlags := 25, nameIndex := 290, descriptorIndex := 25, attributes := #[] }, { accessFlags := 25, nameIndex := 292, descriptorIndex := 25, attributes := #[] }, { accessFlags := 26, nameIndex := 108, descriptorIndex := 109, attributes := #[] }, { accessFlags := 25, nameIndex := 294, descriptorIndex := 25, attributes := #[] }])
  fields := #[{ name := "U", type := (.object "jdk/internal/misc/Unsafe"), accessFlags := 24, slot := 0, constantValue := 0 }, { name := "BIG_ENDIAN", type := .boolean, accessFlags := 26, slot := 1, constantValue := 0 }, { name := "LOG2_ARRAY_BOOLEAN_INDEX_SCALE", type := .int, accessFlags := 25, slot := 2, constantValue := 0 }, { name := "LOG2_ARRAY_BYTE_INDEX_SCALE", type := .int, accessFlags := 25, slot := 3, constantValue := 0 }, { name := "LOG2_ARRAY_CHAR_INDEX_SCALE", type := .int, accessFlags := 25, slot := 4, constantValue := 0 }, { name := "LOG2_ARRAY_SHORT_INDEX_SCALE", type := .int, accessFlags := 25, slot := 5, constantValue := 0 }, { name := "LOG2_ARRAY_INT_INDEX_SCALE", type := .int, accessFlags := 25, slot := 6, constantValue := 0 }, { name := "LOG2_ARRAY_LONG_INDEX_SCALE", type := .int, accessFlags := 25, slot := 7, constantValue := 0 }, { name := "LOG2_ARRAY_FLOAT_INDEX_SCALE", type := .int, accessFlags := 25, slot := 8, constantValue := 0 }, { name := "LOG2_ARRAY_DOUBLE_INDEX_SCALE", type := .int, accessFlags := 25, slot := 9, constantValue := 0 }, { name := "LOG2_BYTE_BIT_SIZE", type := .int, accessFlags := 26, slot := 10, constantValue := 0 }, { name := "T_BOOLEAN", type := .int, accessFlags := 25, slot := 11, constantValue := 0 }, { name := "T_CHAR", type := .int, accessFlags := 25, slot := 12, constantValue := 0 }, { name := "T_FLOAT", type := .int, accessFlags := 25, slot := 13, constantValue := 0 }, { name := "T_DOUBLE", type := .int, accessFlags := 25, slot := 14, constantValue := 0 }, { name := "T_BYTE", type := .int, accessFlags := 25, slot := 15, constantValue := 0 }, { name := "T_SHORT", type := .int, accessFlags := 25, slot := 16, constantValue := 0 }, { name := "T_INT", type := .int, accessFlags := 25, slot := 17, constantValue := 0 }, { name := "T_LONG", type := .int, accessFlags := 25, slot := 18, constantValue := 0 }, { name := "JLA", type := (.object "jdk/internal/access/JavaLangAccess"), accessFlags := 26, slot := 19, constantValue := 0 }, { name := "SOFT_MAX_ARRAY_LENGTH", type := .int, accessFlags := 25, slot := 20, constantValue := 0 }]
  methods := #[k18m0]
  instanceTypes := #[]
  staticTypes := #[(.object "jdk/internal/misc/Unsafe"), .boolean, .int, .int, .int, .int, .int, .int, .int, .int, .int, .int, .int, .int, .int, .int, .int, .int, .int, (.object "jdk/internal/access/JavaLangAccess"), .int]
  resolved := Array.replicate 378 none
  statics := none }

def pool19 : Array CpInfo := pool [(2, .class_ 4), (1, u "java/lang/Object"), (0, u "<init>"), (0, u "()V"), (12, .class_ 20), (0, u "java/util/Collections"), (63, u "r"), (0, u "Ljava/util/Random;"), (80, .class_ 167), (0, u "java/util/Collections$UnmodifiableCollection"), (6, .class_ 175), (0, u "java/util/Collections$UnmodifiableSequencedCollection"), (6, .class_ 183), (0, u "java/util/Collections$UnmodifiableSet"), (6, .class_ 191), (0, u "java/util/Collections$UnmodifiableSequencedSet"), (6, .class_ 199), (0, u "java/util/Collections$UnmodifiableSortedSet"), (6, .class_ 207), (0, u "java/util/Collections$UnmodifiableNavigableSet"), (4, .class_ 213), (0, u "java/util/Collections$UnmodifiableList"), (1, .class_ 216), (0, u "java/util/Collections$UnmodifiableRandomAccessList"), (6, .class_ 224), (0, u "java/util/Collections$UnmodifiableMap"), (6, .class_ 232), (0, u "java/util/Collections$UnmodifiableSequencedMap"), (4, .class_ 238), (0, u "java/util/Collections$UnmodifiableSortedMap"), (6, .class_ 246), (0, u "java/util/Collections$UnmodifiableNavigableMap"), (3, .class_ 251), (0, u "java/util/Collections$SynchronizedCollection"), (4, .class_ 257), (0, u "java/util/Collections$SynchronizedSet"), (4, .class_ 263), (0, u "java/util/Collections$SynchronizedSortedSet"), (1, .class_ 266), (0, u "java/util/Collections$SynchronizedNavigableSet"), (1, .class_ 269), (0, u "java/util/Collections$SynchronizedRandomAccessList"), (1, .class_ 272), (0, u "java/util/Collections$SynchronizedList"), (5, .class_ 279), (0, u "java/util/Collections$SynchronizedMap"), (1, .class_ 282), (0, u "java/util/Collections$SynchronizedSortedMap"), (1, .class_ 285), (0, u "java/util/Collections$SynchronizedNavigableMap"), (1, .class_ 288), (0, u "java/util/Collections$CheckedCollection"), (11, .class_ 301), (0, u "java/util/Collections$CheckedQueue"), (3, .class_ 306), (0, u "java/util/Collections$CheckedSet"), (3, .class_ 311), (0, u "java/util/Collections$CheckedSortedSet"), (3, .class_ 316), (0, u "java/util/Collections$CheckedNavigableSet"), (3, .class_ 321), (0, u "java/util/Collections$CheckedRandomAccessList"), (3, .class_ 326), (0, u "java/util/Collections$CheckedList"), (1, .class_ 329), (0, u "java/util/Collections$CheckedMap"), (3, .class_ 334), (0, u "java/util/Collections$CheckedSortedMap"), (3, .class_ 339), (0, u "java/util/Collections$CheckedNavigableMap"), (4, .class_ 346), (1, u "java/util/Collections$EmptyIterator"), (3, .class_ 352), (1, u "java/util/Collections$EmptyListIterator"), (2, .class_ 357), (1, u "java/util/Collections$EmptyEnumeration"), (4, u "EMPTY_SET"), (0, u "Ljava/util/Set;"), (6, u "EMPTY_LIST"), (0, u "Ljava/util/List;"), (2, u "EMPTY_MAP"), (0, u "Ljava/util/Map;"), (4, .class_ 381), (0, u "java/util/Collections$SingletonSet"), (2, .class_ 385), (0, u "java/util/Collections$1"), (1, .class_ 388), (0, u "java/util/Collections$2"), (1, .class_ 391), (0, u "java/util/Collections$SingletonList"), (1, .class_ 394), (0, u "java/util/Collections$SingletonMap"), (22, .class_ 418), (0, u "java/util/Collections$CopiesList"), (4, .class_ 425), (1, u "java/util/Collections$ReverseComparator"), (8, .class_ 435), (0, u "java/util/Collections$ReverseComparator2"), (6, .class_ 443), (0, u "java/util/Collections$3"), (25, .class_ 470), (0, u "java/util/Collections$SetFromMap"), (2, .class_ 474), (0, u "java/util/Collections$SequencedSetFromMap"), (3, .class_ 479), (0, u "java/util/Collections$AsLIFOQueue"), (11, .class_ 492), (0, u "java/util/Collections$EmptySet"), (1, .class_ 495), (0, u "java/util/Collections$EmptyList"), (1, .class_ 498), (0, u "java/util/Collections$EmptyMap"), (1, u "BINARYSEARCH_THRESHOLD"), (0, u "I"), (2, u "REVERSE_THRESHOLD"), (1, u "SHUFFLE_THRESHOLD"), (1, u "FILL_THRESHOLD"), (1, u "ROTATE_THRESHOLD"), (1, u "COPY_THRESHOLD"), (1, u "REPLACEALL_THRESHOLD"), (1, u "INDEXOFSUBLIST_THRESHOLD"), (333, .class_ 851), (0, u "java/util/Collections$CheckedMap$CheckedEntrySet"), (0, .class_ 853), (0, u "java/util/Collections$CheckedMap$CheckedEntrySet$CheckedEntry"), (0, .class_ 855), (0, u "java/util/Collections$CheckedMap$CheckedEntrySet$1"), (0, .class_ 857), (0, u "java/util/Collections$CheckedList$1"), (0, .class_ 859), (0, u "java/util/Collections$CheckedCollection$1"), (0, .class_ 861), (0, u "java/util/Collections$UnmodifiableNavigableMap$EmptyNavigableMap"), (0, .class_ 863), (0, u "java/util/Collections$UnmodifiableMap$UnmodifiableEntrySet"), (0, .class_ 865), (0, u "java/util/Collections$UnmodifiableMap$UnmodifiableEntrySet$UnmodifiableEntry"), (0, .class_ 867), (0, u "java/util/Collections$UnmodifiableMap$UnmodifiableEntrySet$UnmodifiableEntrySetSpliterator"), (0, .class_ 869), (0, u "java/util/Collections$UnmodifiableMap$UnmodifiableEntrySet$1"), (0, .class_ 871), (0, u "java/util/Collections$UnmodifiableList$1"), (0, .class_ 873), (0, u "java/util/Collections$UnmodifiableNavigableSet$EmptyNavigableSet"), (0, .class_ 875), (0, u "java/util/Collections$UnmodifiableCollection$1")] 57

def k19m0 : Method := { name := "<init>", desc := "()V", sig := { parameters := [], returnType := none }, accessFlags := 2, code := none }
/-- java/util/Collections -/
def k19 : Class := { plain "java/util/Collections" (some 0) with
  accessFlags := 33
  interfaces := #[]
  cf := some (fileOf pool19 19 #[.nestMembers #[478, 473, 469, 434, 423, 417, 393, 390, 380, 497, 494, 491, 355, 350, 344, 338, 333, 328, 850, 852, 854, 320, 325, 856, 315, 310, 305, 300, 287, 858, 284, 281, 278, 268, 271, 265, 262, 256, 250, 245, 860, 237, 231, 223, 862, 864, 866, 868, 215, 212, 870, 206, 872, 198, 190, 182, 174, 166, 874, 442, 387, 384]] #[{ accessFlags := 2, nameIndex := 5, descriptorIndex := 6, attributes := #[] }] 33 2 #[] #[{ accessFlags := 26, nameIndex := 500, descriptorIndex := 501, attributes := #[] }, { accessFlags := 26, nameIndex := 504, descriptorIndex := 501, attributes := #[] }, { accessFlags := 26, nameIndex := 506, descriptorIndex := 501, attributes := #[] }, { accessFlags := 26, nameIndex := 508, descriptorIndex := 501, attributes := #[] }, { accessFlags := 26, nameIndex := 510, descriptorIndex := 501, attributes := #[] }, { accessFlags := 26, nameIndex := 512, descriptorIndex := 501, attributes := #[] }, { accessFlags := 26, nameIndex := 514, descriptorIndex := 501, attributes := #[] }, { accessFlags := 26, nameIndex := 516, descriptorIndex := 501, attributes := #[] }, { accessFlags := 10, nameIndex := 84, descriptorIndex := 85, attributes := #[] }, { accessFlags := 25, nameIndex := 362, descriptorIndex := 363, attributes := #[] }, { accessFlags := 25, nameIndex := 370, descriptorIndex := 371, attributes := #[] }, { accessFlags := 25, nameIndex := 374, descriptorIndex := 375, attributes := #[] }])
  fields := #[{ name := "BINARYSEARCH_THRESHOLD", type := .int, accessFlags := 26, slot := 0, constantValue := 0 }, { name := "REVERSE_THRESHOLD", type := .int, accessFlags := 26, slot := 1, constantValue := 0 }, { name := "SHUFFLE_THRESHOLD", type := .int, accessFlags := 26, slot := 2, constantValue := 0 }, { name := "FILL_THRESHOLD", type := .int, accessFlags := 26, slot := 3, constantValue := 0 }, { name := "ROTATE_THRESHOLD", type := .int, accessFlags := 26, slot := 4, constantValue := 0 }, { name := "COPY_THRESHOLD", type := .int, accessFlags := 26, slot := 5, constantValue := 0 }, { name := "REPLACEALL_THRESHOLD", type := .int, accessFlags := 26, slot := 6, constantValue := 0 }, { name := "INDEXOFSUBLIST_THRESHOLD", type := .int, accessFlags := 26, slot := 7, constantValue := 0 }, { name := "r", type := (.object "java/util/Random"), accessFlags := 10, slot := 8, constantValue := 0 }, { name := "EMPTY_SET", type := (.object "java/util/Set"), accessFlags := 25, slot := 9, constantValue := 0 }, { name := "EMPTY_LIST", type := (.object "java/util/List"), accessFlags := 25, slot := 10, constantValue := 0 }, { name := "EMPTY_MAP", type := (.object "java/util/Map"), accessFlags := 25, slot := 11, constantValue := 0 }]
  methods := #[k19m0]
  instanceTypes := #[]
  staticTypes := #[.int, .int, .int, .int, .int, .int, .int, .int, (.object "java/util/Random"), (.object "java/util/Set"), (.object "java/util/List"), (.object "java/util/Map")]
  resolved := Array.replicate 933 none
  statics := some 6 }

def pool20 : Array CpInfo := pool [(8, .class_ 10), (1, u "java/lang/Iterable"), (24, .class_ 36), (0, u "java/lang/Object")] 25

/-- java/lang/Iterable -/
def k20 : Class := { plain "java/lang/Iterable" (some 0) with
  accessFlags := 1537
  interfaces := #[]
  cf := some (fileOf pool20 8 #[] #[] 1537 35 #[] #[])
  fields := #[]
  methods := #[]
  instanceTypes := #[]
  staticTypes := #[]
  resolved := Array.replicate 62 none
  statics := none }

def pool21 : Array CpInfo := pool [(10, .class_ 12), (1, u "java/util/Collection"), (47, .class_ 61), (0, u "java/lang/Object"), (0, .class_ 63), (0, u "java/lang/Iterable")] 51

/-- java/util/Collection -/
def k21 : Class := { plain "java/util/Collection" (some 0) with
  accessFlags := 1537
  interfaces := #[20]
  cf := some (fileOf pool21 10 #[] #[] 1537 60 #[62] #[])
  fields := #[]
  methods := #[]
  instanceTypes := #[]
  staticTypes := #[]
  resolved := Array.replicate 115 none
  statics := none }

def pool22 : Array CpInfo := pool [(2, .class_ 4), (1, u "java/lang/Object"), (0, u "<init>"), (0, u "()V"), (1, .class_ 10), (1, u "java/util/AbstractCollection"), (66, .class_ 78), (0, u "java/util/Collection")] 81

def k22m0 : Method := { name := "<init>", desc := "()V", sig := { parameters := [], returnType := none }, accessFlags := 4, code := none }
/-- java/util/AbstractCollection -/
def k22 : Class := { plain "java/util/AbstractCollection" (some 0) with
  accessFlags := 1057
  interfaces := #[21]
  cf := some (fileOf pool22 8 #[] #[{ accessFlags := 4, nameIndex := 5, descriptorIndex := 6, attributes := #[] }] 1057 2 #[77] #[])
  fields := #[]
  methods := #[k22m0]
  instanceTypes := #[]
  staticTypes := #[]
  resolved := Array.replicate 160 none
  statics := none }

def pool23 : Array CpInfo := pool [(8, .class_ 10), (1, u "java/util/SequencedCollection"), (15, .class_ 27), (0, u "java/lang/Object"), (0, .class_ 29), (0, u "java/util/Collection")] 27

/-- java/util/SequencedCollection -/
def k23 : Class := { plain "java/util/SequencedCollection" (some 0) with
  accessFlags := 1537
  interfaces := #[21]
  cf := some (fileOf pool23 8 #[] #[] 1537 26 #[28] #[])
  fields := #[]
  methods := #[]
  instanceTypes := #[]
  staticTypes := #[]
  resolved := Array.replicate 57 none
  statics := none }

def pool24 : Array CpInfo := pool [(8, .class_ 10), (1, u "java/util/List"), (92, .class_ 104), (0, u "java/lang/Object"), (15, .class_ 121), (0, u "java/util/SequencedCollection")] 129

/-- java/util/List -/
def k24 : Class := { plain "java/util/List" (some 0) with
  accessFlags := 1537
  interfaces := #[23]
  cf := some (fileOf pool24 8 #[] #[] 1537 103 #[120] #[])
  fields := #[]
  methods := #[]
  instanceTypes := #[]
  staticTypes := #[]
  resolved := Array.replicate 251 none
  statics := none }

def pool25 : Array CpInfo := pool [(2, .class_ 4), (1, u "java/util/AbstractCollection"), (0, u "<init>"), (0, u "()V"), (1, .class_ 10), (1, u "java/util/AbstractList"), (0, u "modCount"), (0, u "I"), (64, .class_ 78), (0, u "java/util/AbstractList$Itr"), (3, .class_ 83), (0, u "java/util/AbstractList$ListItr"), (9, .class_ 94), (0, u "java/util/AbstractList$RandomAccessSubList"), (3, .class_ 99), (0, u "java/util/AbstractList$SubList"), (33, .class_ 134), (0, u "java/util/List"), (73, .class_ 209), (0, u "java/util/AbstractList$SubList$1"), (0, .class_ 211), (0, u "java/util/AbstractList$RandomAccessSpliterator")] 6

def k25m0 : Method := { name := "<init>", desc := "()V", sig := { parameters := [], returnType := none }, accessFlags := 4, code := none }
/-- java/util/AbstractList -/
def k25 : Class := { plain "java/util/AbstractList" (some 22) with
  accessFlags := 1057
  interfaces := #[24]
  cf := some (fileOf pool25 8 #[.nestMembers #[93, 98, 208, 210, 82, 77]] #[{ accessFlags := 4, nameIndex := 5, descriptorIndex := 6, attributes := #[] }] 1057 2 #[133] #[{ accessFlags := 132, nameIndex := 11, descriptorIndex := 12, attributes := #[] }])
  fields := #[{ name := "modCount", type := .int, accessFlags := 132, slot := 0, constantValue := 0 }]
  methods := #[k25m0]
  instanceTypes := #[.int]
  staticTypes := #[]
  resolved := Array.replicate 218 none
  statics := none }

def pool26 : Array CpInfo := pool [(1, .class_ 2), (0, u "java/util/RandomAccess"), (0, .class_ 4), (0, u "java/lang/Object")] 2

/-- java/util/RandomAccess -/
def k26 : Class := { plain "java/util/RandomAccess" (some 0) with
  accessFlags := 1537
  interfaces := #[]
  cf := some (fileOf pool26 1 #[] #[] 1537 3 #[] #[])
  fields := #[]
  methods := #[]
  instanceTypes := #[]
  staticTypes := #[]
  resolved := Array.replicate 7 none
  statics := none }

def pool27 : Array CpInfo := pool [(2, .class_ 4), (1, u "java/util/AbstractList"), (0, u "<init>"), (0, u "()V"), (1, .class_ 10), (1, u "java/util/Collections"), (54, .class_ 66), (0, u "java/util/Collections$EmptyList"), (0, .class_ 68), (0, u "java/util/RandomAccess"), (0, .class_ 70), (0, u "java/io/Serializable"), (0, u "serialVersionUID"), (0, u "J")] 77

def k27m0 : Method := { name := "<init>", desc := "()V", sig := { parameters := [], returnType := none }, accessFlags := 2, code := none }
/-- java/util/Collections$EmptyList -/
def k27 : Class := { plain "java/util/Collections$EmptyList" (some 25) with
  accessFlags := 32
  interfaces := #[26, 2]
  cf := some (fileOf pool27 65 #[.nestHost 8] #[{ accessFlags := 2, nameIndex := 5, descriptorIndex := 6, attributes := #[] }] 32 2 #[67, 69] #[{ accessFlags := 26, nameIndex := 71, descriptorIndex := 72, attributes := #[] }])
  fields := #[{ name := "serialVersionUID", type := .long, accessFlags := 26, slot := 0, constantValue := 0 }]
  methods := #[k27m0]
  instanceTypes := #[.int]
  staticTypes := #[.long]
  resolved := Array.replicate 150 none
  statics := none }

def pool28 : Array CpInfo := pool [(2, .class_ 4), (1, u "java/lang/StackTraceElement"), (0, u "<init>"), (2, .class_ 10), (1, u "java/lang/Object"), (0, u "()V"), (2, u "format"), (0, u "B"), (2, u "classLoaderName"), (0, u "Ljava/lang/String;"), (2, u "moduleName"), (2, u "moduleVersion"), (12, u "declaringClass"), (4, u "methodName"), (2, u "fileName"), (2, u "lineNumber"), (0, u "I"), (65, u "declaringClassObject"), (0, u "Ljava/lang/Class;"), (33, .class_ 153), (1, u "java/lang/StackTraceElement$HashedModules"), (17, .class_ 172), (0, u "java/io/Serializable"), (0, u "NATIVE_METHOD"), (1, u "UNKNOWN_SOURCE"), (2, u "BUILTIN_CLASS_LOADER"), (1, u "JDK_NON_UPGRADEABLE_MODULE"), (1, u "serialVersionUID"), (0, u "J")] 51

def k28m0 : Method := { name := "<init>", desc := "()V", sig := { parameters := [], returnType := none }, accessFlags := 2, code := none }
/-- java/lang/StackTraceElement -/
def k28 : Class := { plain "java/lang/StackTraceElement" (some 0) with
  accessFlags := 49
  interfaces := #[2]
  cf := some (fileOf pool28 2 #[.nestMembers #[151]] #[{ accessFlags := 2, nameIndex := 5, descriptorIndex := 11, attributes := #[] }] 49 8 #[171] #[{ accessFlags := 26, nameIndex := 173, descriptorIndex := 19, attributes := #[] }, { accessFlags := 26, nameIndex := 175, descriptorIndex := 19, attributes := #[] }, { accessFlags := 130, nameIndex := 116, descriptorIndex := 117, attributes := #[] }, { accessFlags := 2, nameIndex := 18, descriptorIndex := 19, attributes := #[] }, { accessFlags := 2, nameIndex := 22, descriptorIndex := 19, attributes := #[] }, { accessFlags := 2, nameIndex := 25, descriptorIndex := 19, attributes := #[] }, { accessFlags := 2, nameIndex := 38, descriptorIndex := 19, attributes := #[] }, { accessFlags := 2, nameIndex := 43, descriptorIndex := 19, attributes := #[] }, { accessFlags := 2, nameIndex := 46, descriptorIndex := 19, attributes := #[] }, { accessFlags := 2, nameIndex := 49, descriptorIndex := 50, attributes := #[] }, { accessFlags := 2, nameIndex := 14, descriptorIndex := 15, attributes := #[] }, { accessFlags := 26, nameIndex := 178, descriptorIndex := 15, attributes := #[] }, { accessFlags := 26, nameIndex := 180, descriptorIndex := 15, attributes := #[] }, { accessFlags := 26, nameIndex := 182, descriptorIndex := 183, attributes := #[] }])
  fields := #[{ name := "NATIVE_METHOD", type := (.object "java/lang/String"), accessFlags := 26, slot := 0, constantValue := 0 }, { name := "UNKNOWN_SOURCE", type := (.object "java/lang/String"), accessFlags := 26, slot := 1, constantValue := 0 }, { name := "declaringClassObject", type := (.object "java/lang/Class"), accessFlags := 130, slot := 0, constantValue := 0 }, { name := "classLoaderName", type := (.object "java/lang/String"), accessFlags := 2, slot := 1, constantValue := 0 }, { name := "moduleName", type := (.object "java/lang/String"), accessFlags := 2, slot := 2, constantValue := 0 }, { name := "moduleVersion", type := (.object "java/lang/String"), accessFlags := 2, slot := 3, constantValue := 0 }, { name := "declaringClass", type := (.object "java/lang/String"), accessFlags := 2, slot := 4, constantValue := 0 }, { name := "methodName", type := (.object "java/lang/String"), accessFlags := 2, slot := 5, constantValue := 0 }, { name := "fileName", type := (.object "java/lang/String"), accessFlags := 2, slot := 6, constantValue := 0 }, { name := "lineNumber", type := .int, accessFlags := 2, slot := 7, constantValue := 0 }, { name := "format", type := .byte, accessFlags := 2, slot := 8, constantValue := 0 }, { name := "BUILTIN_CLASS_LOADER", type := .byte, accessFlags := 26, slot := 2, constantValue := 0 }, { name := "JDK_NON_UPGRADEABLE_MODULE", type := .byte, accessFlags := 26, slot := 3, constantValue := 0 }, { name := "serialVersionUID", type := .long, accessFlags := 26, slot := 4, constantValue := 0 }]
  methods := #[k28m0]
  instanceTypes := #[(.object "java/lang/Class"), (.object "java/lang/String"), (.object "java/lang/String"), (.object "java/lang/String"), (.object "java/lang/String"), (.object "java/lang/String"), (.object "java/lang/String"), .int, .byte]
  staticTypes := #[(.object "java/lang/String"), (.object "java/lang/String"), .byte, .byte, .long]
  resolved := Array.replicate 235 none
  statics := none }

def pool29 : Array CpInfo := pool [(1, u "java/lang/Cloneable"), (0, .class_ 1), (0, u "java/lang/Object"), (0, .class_ 3)] 3

/-- java/lang/Cloneable -/
def k29 : Class := { plain "java/lang/Cloneable" (some 0) with
  accessFlags := 1537
  interfaces := #[]
  cf := some (fileOf pool29 2 #[] #[] 1537 4 #[] #[])
  fields := #[]
  methods := #[]
  instanceTypes := #[]
  staticTypes := #[]
  resolved := Array.replicate 8 none
  statics := none }

/-- the primitive byte -/
def k30 : Class := { plain "byte" none with kind := .primitive 'B', accessFlags := 0x411 }
/-- [B -/
def k31 : Class := { plain "[B" (some 0) with kind := .array 30 .byte, interfaces := #[29, 2], accessFlags := 1041 }

/-- the primitive char -/
def k32 : Class := { plain "char" none with kind := .primitive 'C', accessFlags := 0x411 }
/-- [C -/
def k33 : Class := { plain "[C" (some 0) with kind := .array 32 .char, interfaces := #[29, 2], accessFlags := 1041 }

/-- the primitive int -/
def k34 : Class := { plain "int" none with kind := .primitive 'I', accessFlags := 0x411 }
/-- [I -/
def k35 : Class := { plain "[I" (some 0) with kind := .array 34 .int, interfaces := #[29, 2], accessFlags := 1041 }

/-- [Ljava/lang/StackTraceElement; -/
def k36 : Class := { plain "[Ljava/lang/StackTraceElement;" (some 0) with kind := .array 28 (.object "java/lang/StackTraceElement"), interfaces := #[29, 2], accessFlags := 1041 }

/-- [Ljava/lang/Throwable; -/
def k37 : Class := { plain "[Ljava/lang/Throwable;" (some 0) with kind := .array 9 (.object "java/lang/Throwable"), interfaces := #[29, 2], accessFlags := 1041 }

def heap : Heap := #[{ cls := 7, slots := #[.long 0, .int 1, .null, .int 0, .null, .int 0, .int 0], vm := .statics 7 },
  { cls := 8, slots := #[.int 0, .int 8, .int 0, .int 1], vm := .statics 8 },
  { cls := 9, slots := #[.long 0, .ref 9, .ref 10, .null, .null, .null, .null, .ref 11, .int 1], vm := .statics 9 },
  { cls := 14, slots := #[.ref 7, .null, .null, .null], vm := .statics 14 },
  { cls := 15, slots := #[.ref 8], vm := .statics 15 },
  { cls := 17, slots := #[.null, .null, .null], vm := .statics 17 },
  { cls := 19, slots := #[.int 0, .int 0, .int 0, .int 0, .int 0, .int 0, .int 0, .int 0, .null, .null, .ref 10, .null], vm := .statics 19 },
  { cls := 14, slots := #[.null, .int 0, .int 0], vm := .none },
  { cls := 15, slots := #[.int 0, .int 0], vm := .none },
  { cls := 36, slots := #[], vm := .none },
  { cls := 27, slots := #[.int 0], vm := .none },
  { cls := 37, slots := #[], vm := .none }]
def classes : Array Class := #[k0, k1, k2, k3, k4, k5, k6, k7, k8, k9, k10, k11, k12, k13, k14, k15, k16, k17, k18, k19, k20, k21, k22, k23, k24, k25, k26, k27, k28, k29, k30, k31, k32, k33, k34, k35, k36, k37]
def interned : List (Array UInt16 × Addr) := []
def slotsUsed : Nat := 46
def theMethod : MethodId := ⟨1, 2⟩
def args0 : Array Value := #[.int 2, .int 65, .int 66, .int 3]
def aboutOver (below : List Frame) : State where
  vm := { classes := classes, interned := interned.toArray }
  heap := heap
  slotsUsed := slotsUsed
  threads := #[{ frames := .invoking theMethod args0 :: below }]
def below0 : List Frame := [.native { method := ⟨0, 0⟩, args := #[] }]
def about1 : State := aboutOver below0
def p0 : Program := .bare "" "" ""
def e0 : Env := launch0.env 0 0 0
theorem w_frames : about1.frames = Frame.invoking theMethod args0 :: below0 := rfl
set_option maxRecDepth 65536 in
theorem w_args : argsFit about1.vm theMethod args0 = true := by decide +kernel
set_option maxRecDepth 65536 in
theorem w_heap : heapFits about1 = true := by decide +kernel
set_option maxRecDepth 65536 in
theorem w_runnable : about1.curStatus? = some .runnable := by decide +kernel
set_option maxRecDepth 65536 in
theorem w_alone : about1.alone = true := by decide +kernel
set_option maxRecDepth 65536 in
theorem w_named : about1.methodNamed? x = some theMethod := by decide +kernel
set_option maxRecDepth 65536 in
theorem w_hears : about1.hears theMethod below0 = true := by decide +kernel
set_option maxRecDepth 65536 in
theorem w_ripe : about1.ripe theMethod args0 below0 = true := by decide +kernel
theorem w_running : about1.status = .running := rfl
set_option maxRecDepth 65536 in
theorem w_room : about1.hasRoom e0.platform room_1 = true :=
  launch0.hasRoom_least _ room_1 (by decide +kernel) (by decide +kernel) (by decide +kernel) (by decide +kernel) (by decide +kernel) (by decide +kernel)
theorem allAtoms_all (ts : List Jvm.Cond) (a : Array Jvm.Value) (st : Jvm.State) : (allAtoms ts).before a st = ts.all (fun c => c.before a st) := by
  induction ts with
  | nil => rfl
  | cons c t ih =>
    show (Jvm.Cond.and c (allAtoms t)).before a st = _
    rw [Jvm.Cond.before_and, ih, List.all_cons]
def words1 : List Jvm.Cond := Jvm.Cond.code x code maxLocals ret :: tables_1
/-- a 'code' word, met by the world's own term for the bytes: nothing is compared byte by byte -/
theorem code_word {y : MethodName} {bytes : ByteArray} {mx : Nat} {rt : Option FieldType} {a : Array Value} {s : State} {m : MethodId} {meth : Method} {c : Code} (h1 : s.methodNamed? y = some m) (h2 : s.vm.method? m = some meth) (h3 : meth.code = some c) (h4 : c.code = bytes)
    (h5 : (c.maxLocals == mx && c.exceptionTable.isEmpty && decide (c.maxStack ≤ mostOperands) && decide (meth.sig.returnType = rt) && !meth.locks && decide (parseMethodDescriptor y.desc = some meth.sig)) = true) : (Jvm.Cond.code y bytes mx rt).before a s = true := by
  simp only [Bool.and_eq_true, beq_iff_eq, Bool.not_eq_true', decide_eq_true_eq] at h5
  obtain ⟨⟨⟨⟨⟨g1, g2⟩, g3⟩, g4⟩, g5⟩, g6⟩ := h5
  simp [Cond.before, Cond.holds, Cond.value, h1, h2, h3, h4, g1, g2, g3, g4, g5, g6]
def isCode : Jvm.Cond → Bool
  | .code _ _ _ _ => true
  | _ => false
theorem all_split {L : List Jvm.Cond} {P : Jvm.Cond → Bool} (h1 : L.all (fun c => isCode c || P c) = true) (h2 : ∀ c ∈ L.filter isCode, P c = true) : L.all P = true := by
  refine List.all_eq_true.mpr fun c hc => ?_
  have h := List.all_eq_true.mp h1 c hc
  rcases Bool.eq_false_or_eq_true (isCode c) with hi | hi
  · exact h2 c (List.mem_filter.mpr ⟨hc, hi⟩)
  · simpa [hi] using h
set_option maxRecDepth 65536 in
theorem w_c0 : (Jvm.Cond.code x code maxLocals ret).before args0 about1 = true := code_word (m := ⟨1, 2⟩) (meth := k1m2) (c := k1c2) (by decide +kernel) rfl rfl rfl (by decide +kernel)
set_option maxRecDepth 65536 in
theorem w_c1 : (Jvm.Cond.code ({ cls := "com/example/metaloom/metaloom/store/RejectionInvalidPinLaw", name := "draw", desc := "(IIII)Ljava/lang/String;" } : Jvm.MethodName) method_2_code (7 : Nat) (Option.some (Jvm.ClassFile.FieldType.object "java/lang/String"))).before args0 about1 = true := code_word (m := ⟨1, 1⟩) (meth := k1m1) (c := k1c1) (by decide +kernel) rfl rfl rfl (by decide +kernel)
set_option maxRecDepth 65536 in
theorem w_c2 : (Jvm.Cond.code ({ cls := "java/lang/String", name := "<init>", desc := "([C)V" } : Jvm.MethodName) jdk_42_method_3_code (2 : Nat) (Option.none : Option Jvm.ClassFile.FieldType)).before args0 about1 = true := code_word (m := ⟨7, 1⟩) (meth := k7m1) (c := k7c1) (by decide +kernel) rfl rfl rfl (by decide +kernel)
set_option maxRecDepth 65536 in
theorem w_c3 : (Jvm.Cond.code ({ cls := "java/lang/String", name := "<init>", desc := "([CIILjava/lang/Void;)V" } : Jvm.MethodName) jdk_42_method_149_code (6 : Nat) (Option.none : Option Jvm.ClassFile.FieldType)).before args0 about1 = true := code_word (m := ⟨7, 3⟩) (meth := k7m3) (c := k7c3) (by decide +kernel) rfl rfl rfl (by decide +kernel)
set_option maxRecDepth 65536 in
theorem w_c4 : (Jvm.Cond.code ({ cls := "java/lang/Object", name := "<init>", desc := "()V" } : Jvm.MethodName) object_method_1_code (1 : Nat) (Option.none : Option Jvm.ClassFile.FieldType)).before args0 about1 = true := code_word (m := ⟨0, 0⟩) (meth := k0m0) (c := k0c0) (by decide +kernel) rfl rfl rfl (by decide +kernel)
set_option maxRecDepth 65536 in
theorem w_c5 : (Jvm.Cond.code ({ cls := "java/lang/StringUTF16", name := "compress", desc := "([CII)[B" } : Jvm.MethodName) jdk_52_method_16_code (6 : Nat) (Option.some (Jvm.ClassFile.FieldType.array Jvm.ClassFile.FieldType.byte))).before args0 about1 = true := code_word (m := ⟨8, 7⟩) (meth := k8m7) (c := k8c7) (by decide +kernel) rfl rfl rfl (by decide +kernel)
set_option maxRecDepth 65536 in
theorem w_c6 : (Jvm.Cond.code ({ cls := "java/lang/StringUTF16", name := "compress", desc := "([CI[BII)I" } : Jvm.MethodName) jdk_52_method_21_code (7 : Nat) (Option.some Jvm.ClassFile.FieldType.int)).before args0 about1 = true := code_word (m := ⟨8, 8⟩) (meth := k8m8) (c := k8c8) (by decide +kernel) rfl rfl rfl (by decide +kernel)
set_option maxRecDepth 65536 in
theorem w_c7 : (Jvm.Cond.code ({ cls := "java/lang/StringUTF16", name := "coderFromArrayLen", desc := "([BI)B" } : Jvm.MethodName) jdk_52_method_15_code (2 : Nat) (Option.some Jvm.ClassFile.FieldType.byte)).before args0 about1 = true := code_word (m := ⟨8, 6⟩) (meth := k8m6) (c := k8c6) (by decide +kernel) rfl rfl rfl (by decide +kernel)
set_option maxRecDepth 65536 in
theorem w_c8 : (Jvm.Cond.code ({ cls := "com/example/metaloom/metaloom/store/Rejection", name := "invalid", desc := "(Ljava/lang/String;)Lcom/example/metaloom/metaloom/store/Rejection;" } : Jvm.MethodName) prog_21_method_3_code (1 : Nat) (Option.some (Jvm.ClassFile.FieldType.object "com/example/metaloom/metaloom/store/Rejection"))).before args0 about1 = true := code_word (m := ⟨12, 2⟩) (meth := k12m2) (c := k12c2) (by decide +kernel) rfl rfl rfl (by decide +kernel)
set_option maxRecDepth 65536 in
theorem w_c9 : (Jvm.Cond.code ({ cls := "com/example/metaloom/metaloom/store/Rejection", name := "<init>", desc := "(Lcom/example/metaloom/metaloom/store/Rejection$Reason;Ljava/lang/String;)V" } : Jvm.MethodName) prog_21_method_2_code (3 : Nat) (Option.none : Option Jvm.ClassFile.FieldType)).before args0 about1 = true := code_word (m := ⟨12, 1⟩) (meth := k12m1) (c := k12c1) (by decide +kernel) rfl rfl rfl (by decide +kernel)
set_option maxRecDepth 65536 in
theorem w_c10 : (Jvm.Cond.code ({ cls := "java/util/OptionalInt", name := "empty", desc := "()Ljava/util/OptionalInt;" } : Jvm.MethodName) jdk_2649_method_2_code (0 : Nat) (Option.some (Jvm.ClassFile.FieldType.object "java/util/OptionalInt"))).before args0 about1 = true := code_word (m := ⟨15, 1⟩) (meth := k15m1) (c := k15c1) (by decide +kernel) rfl rfl rfl (by decide +kernel)
set_option maxRecDepth 65536 in
theorem w_c11 : (Jvm.Cond.code ({ cls := "com/example/metaloom/metaloom/store/Rejection", name := "<init>", desc := "(Lcom/example/metaloom/metaloom/store/Rejection$Reason;Ljava/lang/String;Ljava/util/OptionalInt;)V" } : Jvm.MethodName) prog_21_method_1_code (4 : Nat) (Option.none : Option Jvm.ClassFile.FieldType)).before args0 about1 = true := code_word (m := ⟨12, 0⟩) (meth := k12m0) (c := k12c0) (by decide +kernel) rfl rfl rfl (by decide +kernel)
set_option maxRecDepth 65536 in
theorem w_c12 : (Jvm.Cond.code ({ cls := "java/lang/RuntimeException", name := "<init>", desc := "(Ljava/lang/String;Ljava/lang/Throwable;ZZ)V" } : Jvm.MethodName) jdk_58_method_5_code (5 : Nat) (Option.none : Option Jvm.ClassFile.FieldType)).before args0 about1 = true := code_word (m := ⟨11, 1⟩) (meth := k11m1) (c := k11c1) (by decide +kernel) rfl rfl rfl (by decide +kernel)
set_option maxRecDepth 65536 in
theorem w_c13 : (Jvm.Cond.code ({ cls := "java/lang/Exception", name := "<init>", desc := "(Ljava/lang/String;Ljava/lang/Throwable;ZZ)V" } : Jvm.MethodName) jdk_59_method_5_code (5 : Nat) (Option.none : Option Jvm.ClassFile.FieldType)).before args0 about1 = true := code_word (m := ⟨10, 1⟩) (meth := k10m1) (c := k10c1) (by decide +kernel) rfl rfl rfl (by decide +kernel)
set_option maxRecDepth 65536 in
theorem w_c14 : (Jvm.Cond.code ({ cls := "java/lang/Throwable", name := "<init>", desc := "(Ljava/lang/String;Ljava/lang/Throwable;ZZ)V" } : Jvm.MethodName) jdk_78_method_5_code (5 : Nat) (Option.none : Option Jvm.ClassFile.FieldType)).before args0 about1 = true := code_word (m := ⟨9, 1⟩) (meth := k9m1) (c := k9c1) (by decide +kernel) rfl rfl rfl (by decide +kernel)
set_option maxRecDepth 65536 in
theorem w_c15 : (Jvm.Cond.code ({ cls := "java/lang/Throwable", name := "getMessage", desc := "()Ljava/lang/String;" } : Jvm.MethodName) jdk_78_method_6_code (1 : Nat) (Option.some (Jvm.ClassFile.FieldType.object "java/lang/String"))).before args0 about1 = true := code_word (m := ⟨9, 2⟩) (meth := k9m2) (c := k9c2) (by decide +kernel) rfl rfl rfl (by decide +kernel)
set_option maxRecDepth 65536 in
theorem w_c16 : (Jvm.Cond.code ({ cls := "java/lang/String", name := "equals", desc := "(Ljava/lang/Object;)Z" } : Jvm.MethodName) jdk_42_method_66_code (3 : Nat) (Option.some Jvm.ClassFile.FieldType.boolean)).before args0 about1 = true := code_word (m := ⟨7, 2⟩) (meth := k7m2) (c := k7c2) (by decide +kernel) rfl rfl rfl (by decide +kernel)
set_option maxRecDepth 65536 in
theorem w_c17 : (Jvm.Cond.code ({ cls := "com/example/metaloom/metaloom/store/Rejection", name := "reason", desc := "()Lcom/example/metaloom/metaloom/store/Rejection$Reason;" } : Jvm.MethodName) prog_21_method_7_code (1 : Nat) (Option.some (Jvm.ClassFile.FieldType.object "com/example/metaloom/metaloom/store/Rejection$Reason"))).before args0 about1 = true := code_word (m := ⟨12, 3⟩) (meth := k12m3) (c := k12c3) (by decide +kernel) rfl rfl rfl (by decide +kernel)
set_option maxRecDepth 65536 in
theorem w_c18 : (Jvm.Cond.code ({ cls := "com/example/metaloom/metaloom/store/Rejection", name := "position", desc := "()Ljava/util/OptionalInt;" } : Jvm.MethodName) prog_21_method_8_code (1 : Nat) (Option.some (Jvm.ClassFile.FieldType.object "java/util/OptionalInt"))).before args0 about1 = true := code_word (m := ⟨12, 4⟩) (meth := k12m4) (c := k12c4) (by decide +kernel) rfl rfl rfl (by decide +kernel)
set_option maxRecDepth 65536 in
theorem w_c19 : (Jvm.Cond.code ({ cls := "java/util/OptionalInt", name := "isPresent", desc := "()Z" } : Jvm.MethodName) jdk_2649_method_6_code (1 : Nat) (Option.some Jvm.ClassFile.FieldType.boolean)).before args0 about1 = true := code_word (m := ⟨15, 2⟩) (meth := k15m2) (c := k15c2) (by decide +kernel) rfl rfl rfl (by decide +kernel)
set_option maxRecDepth 65536 in
theorem w_c20 : (Jvm.Cond.code ({ cls := "java/lang/StringUTF16", name := "toBytes", desc := "([CII)[B" } : Jvm.MethodName) jdk_52_method_14_code (5 : Nat) (Option.some (Jvm.ClassFile.FieldType.array Jvm.ClassFile.FieldType.byte))).before args0 about1 = true := code_word (m := ⟨8, 5⟩) (meth := k8m5) (c := k8c5) (by decide +kernel) rfl rfl rfl (by decide +kernel)
set_option maxRecDepth 65536 in
theorem w_c21 : (Jvm.Cond.code ({ cls := "java/lang/StringUTF16", name := "newBytesFor", desc := "(I)[B" } : Jvm.MethodName) jdk_52_method_2_code (1 : Nat) (Option.some (Jvm.ClassFile.FieldType.array Jvm.ClassFile.FieldType.byte))).before args0 about1 = true := code_word (m := ⟨8, 1⟩) (meth := k8m1) (c := k8c1) (by decide +kernel) rfl rfl rfl (by decide +kernel)
set_option maxRecDepth 65536 in
theorem w_c22 : (Jvm.Cond.code ({ cls := "java/lang/StringUTF16", name := "newBytesLength", desc := "(I)I" } : Jvm.MethodName) jdk_52_method_3_code (1 : Nat) (Option.some Jvm.ClassFile.FieldType.int)).before args0 about1 = true := code_word (m := ⟨8, 2⟩) (meth := k8m2) (c := k8c2) (by decide +kernel) rfl rfl rfl (by decide +kernel)
set_option maxRecDepth 65536 in
theorem w_c23 : (Jvm.Cond.code ({ cls := "java/lang/StringUTF16", name := "putChar", desc := "([BII)V" } : Jvm.MethodName) jdk_52_method_4_code (3 : Nat) (Option.none : Option Jvm.ClassFile.FieldType)).before args0 about1 = true := code_word (m := ⟨8, 3⟩) (meth := k8m3) (c := k8c3) (by decide +kernel) rfl rfl rfl (by decide +kernel)
set_option maxRecDepth 65536 in
theorem w_c24 : (Jvm.Cond.code ({ cls := "java/lang/StringUTF16", name := "getChar", desc := "([BI)C" } : Jvm.MethodName) jdk_52_method_5_code (2 : Nat) (Option.some Jvm.ClassFile.FieldType.char)).before args0 about1 = true := code_word (m := ⟨8, 4⟩) (meth := k8m4) (c := k8c4) (by decide +kernel) rfl rfl rfl (by decide +kernel)
def codes1 : List Jvm.Cond := [Jvm.Cond.code x code maxLocals ret, Jvm.Cond.code ({ cls := "com/example/metaloom/metaloom/store/RejectionInvalidPinLaw", name := "draw", desc := "(IIII)Ljava/lang/String;" } : Jvm.MethodName) method_2_code (7 : Nat) (Option.some (Jvm.ClassFile.FieldType.object "java/lang/String")), Jvm.Cond.code ({ cls := "java/lang/String", name := "<init>", desc := "([C)V" } : Jvm.MethodName) jdk_42_method_3_code (2 : Nat) (Option.none : Option Jvm.ClassFile.FieldType), Jvm.Cond.code ({ cls := "java/lang/String", name := "<init>", desc := "([CIILjava/lang/Void;)V" } : Jvm.MethodName) jdk_42_method_149_code (6 : Nat) (Option.none : Option Jvm.ClassFile.FieldType), Jvm.Cond.code ({ cls := "java/lang/Object", name := "<init>", desc := "()V" } : Jvm.MethodName) object_method_1_code (1 : Nat) (Option.none : Option Jvm.ClassFile.FieldType), Jvm.Cond.code ({ cls := "java/lang/StringUTF16", name := "compress", desc := "([CII)[B" } : Jvm.MethodName) jdk_52_method_16_code (6 : Nat) (Option.some (Jvm.ClassFile.FieldType.array Jvm.ClassFile.FieldType.byte)), Jvm.Cond.code ({ cls := "java/lang/StringUTF16", name := "compress", desc := "([CI[BII)I" } : Jvm.MethodName) jdk_52_method_21_code (7 : Nat) (Option.some Jvm.ClassFile.FieldType.int), Jvm.Cond.code ({ cls := "java/lang/StringUTF16", name := "coderFromArrayLen", desc := "([BI)B" } : Jvm.MethodName) jdk_52_method_15_code (2 : Nat) (Option.some Jvm.ClassFile.FieldType.byte), Jvm.Cond.code ({ cls := "com/example/metaloom/metaloom/store/Rejection", name := "invalid", desc := "(Ljava/lang/String;)Lcom/example/metaloom/metaloom/store/Rejection;" } : Jvm.MethodName) prog_21_method_3_code (1 : Nat) (Option.some (Jvm.ClassFile.FieldType.object "com/example/metaloom/metaloom/store/Rejection")), Jvm.Cond.code ({ cls := "com/example/metaloom/metaloom/store/Rejection", name := "<init>", desc := "(Lcom/example/metaloom/metaloom/store/Rejection$Reason;Ljava/lang/String;)V" } : Jvm.MethodName) prog_21_method_2_code (3 : Nat) (Option.none : Option Jvm.ClassFile.FieldType), Jvm.Cond.code ({ cls := "java/util/OptionalInt", name := "empty", desc := "()Ljava/util/OptionalInt;" } : Jvm.MethodName) jdk_2649_method_2_code (0 : Nat) (Option.some (Jvm.ClassFile.FieldType.object "java/util/OptionalInt")), Jvm.Cond.code ({ cls := "com/example/metaloom/metaloom/store/Rejection", name := "<init>", desc := "(Lcom/example/metaloom/metaloom/store/Rejection$Reason;Ljava/lang/String;Ljava/util/OptionalInt;)V" } : Jvm.MethodName) prog_21_method_1_code (4 : Nat) (Option.none : Option Jvm.ClassFile.FieldType), Jvm.Cond.code ({ cls := "java/lang/RuntimeException", name := "<init>", desc := "(Ljava/lang/String;Ljava/lang/Throwable;ZZ)V" } : Jvm.MethodName) jdk_58_method_5_code (5 : Nat) (Option.none : Option Jvm.ClassFile.FieldType), Jvm.Cond.code ({ cls := "java/lang/Exception", name := "<init>", desc := "(Ljava/lang/String;Ljava/lang/Throwable;ZZ)V" } : Jvm.MethodName) jdk_59_method_5_code (5 : Nat) (Option.none : Option Jvm.ClassFile.FieldType), Jvm.Cond.code ({ cls := "java/lang/Throwable", name := "<init>", desc := "(Ljava/lang/String;Ljava/lang/Throwable;ZZ)V" } : Jvm.MethodName) jdk_78_method_5_code (5 : Nat) (Option.none : Option Jvm.ClassFile.FieldType), Jvm.Cond.code ({ cls := "java/lang/Throwable", name := "getMessage", desc := "()Ljava/lang/String;" } : Jvm.MethodName) jdk_78_method_6_code (1 : Nat) (Option.some (Jvm.ClassFile.FieldType.object "java/lang/String")), Jvm.Cond.code ({ cls := "java/lang/String", name := "equals", desc := "(Ljava/lang/Object;)Z" } : Jvm.MethodName) jdk_42_method_66_code (3 : Nat) (Option.some Jvm.ClassFile.FieldType.boolean), Jvm.Cond.code ({ cls := "com/example/metaloom/metaloom/store/Rejection", name := "reason", desc := "()Lcom/example/metaloom/metaloom/store/Rejection$Reason;" } : Jvm.MethodName) prog_21_method_7_code (1 : Nat) (Option.some (Jvm.ClassFile.FieldType.object "com/example/metaloom/metaloom/store/Rejection$Reason")), Jvm.Cond.code ({ cls := "com/example/metaloom/metaloom/store/Rejection", name := "position", desc := "()Ljava/util/OptionalInt;" } : Jvm.MethodName) prog_21_method_8_code (1 : Nat) (Option.some (Jvm.ClassFile.FieldType.object "java/util/OptionalInt")), Jvm.Cond.code ({ cls := "java/util/OptionalInt", name := "isPresent", desc := "()Z" } : Jvm.MethodName) jdk_2649_method_6_code (1 : Nat) (Option.some Jvm.ClassFile.FieldType.boolean), Jvm.Cond.code ({ cls := "java/lang/StringUTF16", name := "toBytes", desc := "([CII)[B" } : Jvm.MethodName) jdk_52_method_14_code (5 : Nat) (Option.some (Jvm.ClassFile.FieldType.array Jvm.ClassFile.FieldType.byte)), Jvm.Cond.code ({ cls := "java/lang/StringUTF16", name := "newBytesFor", desc := "(I)[B" } : Jvm.MethodName) jdk_52_method_2_code (1 : Nat) (Option.some (Jvm.ClassFile.FieldType.array Jvm.ClassFile.FieldType.byte)), Jvm.Cond.code ({ cls := "java/lang/StringUTF16", name := "newBytesLength", desc := "(I)I" } : Jvm.MethodName) jdk_52_method_3_code (1 : Nat) (Option.some Jvm.ClassFile.FieldType.int), Jvm.Cond.code ({ cls := "java/lang/StringUTF16", name := "putChar", desc := "([BII)V" } : Jvm.MethodName) jdk_52_method_4_code (3 : Nat) (Option.none : Option Jvm.ClassFile.FieldType), Jvm.Cond.code ({ cls := "java/lang/StringUTF16", name := "getChar", desc := "([BI)C" } : Jvm.MethodName) jdk_52_method_5_code (2 : Nat) (Option.some Jvm.ClassFile.FieldType.char)]
set_option maxRecDepth 65536 in
theorem codes_eq : words1.filter isCode = codes1 := rfl
theorem w_codes : ∀ c ∈ words1.filter isCode, c.before args0 about1 = true := by
  rw [codes_eq]
  intro c hc
  simp only [codes1, List.mem_cons, List.not_mem_nil, or_false] at hc
  rcases hc with rfl | rfl | rfl | rfl | rfl | rfl | rfl | rfl | rfl | rfl | rfl | rfl | rfl | rfl | rfl | rfl | rfl | rfl | rfl | rfl | rfl | rfl | rfl | rfl | rfl
  · exact w_c0
  · exact w_c1
  · exact w_c2
  · exact w_c3
  · exact w_c4
  · exact w_c5
  · exact w_c6
  · exact w_c7
  · exact w_c8
  · exact w_c9
  · exact w_c10
  · exact w_c11
  · exact w_c12
  · exact w_c13
  · exact w_c14
  · exact w_c15
  · exact w_c16
  · exact w_c17
  · exact w_c18
  · exact w_c19
  · exact w_c20
  · exact w_c21
  · exact w_c22
  · exact w_c23
  · exact w_c24
set_option maxRecDepth 65536 in
theorem w_t1 : (words1.take 24).all (fun c => isCode c || c.before args0 about1) = true := by decide +kernel
set_option maxRecDepth 65536 in
theorem w_t2 : ((words1.drop 24).take 24).all (fun c => isCode c || c.before args0 about1) = true := by decide +kernel
set_option maxRecDepth 65536 in
theorem w_t3 : (((words1.drop 24).drop 24).take 24).all (fun c => isCode c || c.before args0 about1) = true := by decide +kernel
set_option maxRecDepth 65536 in
theorem w_t4 : ((((words1.drop 24).drop 24).drop 24).take 24).all (fun c => isCode c || c.before args0 about1) = true := by decide +kernel
set_option maxRecDepth 65536 in
theorem w_t5 : (((((words1.drop 24).drop 24).drop 24).drop 24).take 24).all (fun c => isCode c || c.before args0 about1) = true := by decide +kernel
set_option maxRecDepth 65536 in
theorem w_t6 : (((((words1.drop 24).drop 24).drop 24).drop 24).drop 24).all (fun c => isCode c || c.before args0 about1) = true := by decide +kernel
theorem w_tables : (allAtoms (Jvm.Cond.code x code maxLocals ret :: tables_1)).before args0 about1 = true := by
  rw [allAtoms_all]
  show words1.all (fun c => c.before args0 about1) = true
  refine all_split ?_ w_codes
  rw [← List.take_append_drop 24 words1, List.all_append, w_t1, ← List.take_append_drop 24 (words1.drop 24), List.all_append, w_t2, ← List.take_append_drop 24 ((words1.drop 24).drop 24), List.all_append, w_t3, ← List.take_append_drop 24 (((words1.drop 24).drop 24).drop 24), List.all_append, w_t4, ← List.take_append_drop 24 ((((words1.drop 24).drop 24).drop 24).drop 24), List.all_append, w_t5, w_t6]
  rfl
set_option maxRecDepth 65536 in
theorem w_rest : rest_1_c.before args0 about1 = true := by decide +kernel
set_option maxRecDepth 65536 in
theorem w_case : (Jvm.Cond.and given_1 narrow_1).before args0 about1 = true := by decide +kernel
set_option maxRecDepth 65536 in
theorem w_consts : constsHeld consts_1 about1 := Jvm.Lit.constsHeldB_iff.mp (by decide +kernel)
theorem w_applies : (headSpec (Jvm.Cond.code x code maxLocals ret :: tables_1) room_1).applies x e0.platform about1 = true :=
  (Spec.applies_iff w_frames).mpr ⟨w_running, w_runnable, w_alone, w_named, w_hears, w_ripe, w_room, w_tables⟩
theorem atStart : AtStart classFile x code maxLocals ret World_1 tables_1 room_1 Calls_1 rest_1 Pre_1 launch0 p0 e0 about1 theMethod args0 below0 :=
  ⟨lists_1, trivial, launch0.admits_env _ _ _, launch0.least_env, fairChoices_fair.cas, fairChoices_fair.clock, w_frames, w_args, w_heap, w_applies, ⟨w_consts, trivial⟩, w_rest, w_case⟩
end start1
theorem witness_1 : WitnessClaimed_1 := ⟨start1.p0, start1.e0, start1.about1, start1.theMethod, start1.args0, start1.below0, start1.atStart⟩
end Jvm.Pilot.@@N@@
